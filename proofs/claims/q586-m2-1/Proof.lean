import JvmDerived
import JvmDerived.Pilot.@@N@@Statement
import JvmDerived.Pilot.@@N@@Code
set_option linter.unusedVariables false
set_option linter.unusedSimpArgs false
namespace Jvm.Pilot.@@N@@
open Jvm Jvm.ClassFile Sem Op Lib Jvm.Free Jvm.Stand Jvm.LawKit Jvm.RoadKit Bundle Jvm.Pilot.@@N@@.Jvm.D
section Own
variable {p : Program} {l : Launch} {e : Env} {R : Room} {s : State} {m : MethodId} {args : Array Value} {below : List Frame} {meth : Method} {c : Code} {T : State} {locs : List Loc} {cells slots : Nat} {K : Outcome → State → Prop} {Z : State} {a0 : Array Value}
/-- from S the run comes to an end of which K is true -/
def Go (p : Program) (e : Env) (below : List Frame) (K : Outcome → State → Prop) (S : State) : Prop := ∃ s₂ o, Steps p.tables e below S s₂ ∧ s₂.status = .running ∧ Ended s₂ below o ∧ K o s₂
theorem Go.st {S S' : State} (h : ∀ t, Steps p.tables e below S' t → Steps p.tables e below S t) (k : Go p e below K S') : Go p e below K S := by
  obtain ⟨a, o, h1, r⟩ := k; exact ⟨a, o, h _ h1, r⟩
theorem Go.tr {S S' : State} (h : Steps p.tables e below S S') (k : Go p e below K S') : Go p e below K S := by
  obtain ⟨a, o, h1, r⟩ := k; exact ⟨a, o, h.trans h1, r⟩
def EndQ (s : State) (Q : Option Value → Heap → List Loc → Prop) (ce sl : Nat) (o : Outcome) (U : State) : Prop := ∃ v L, o = .returned v ∧ Q v U.heap L ∧ FrameEnd s o U L ce sl
theorem goRet {v : Option Value} {ce sl : Nat} {Q : Option Value → Heap → List Loc → Prop} {S : State} {h : Heap} (X : Stand p l e R s m args below meth c T locs cells slots) (hlk : meth.locks = false) (hv : meth.sig.returnType = none → v = none) (eT : T.heap = h)
    (step : ∀ fs, (∀ (f : JFrame) (acts : List Action), f.method = m → f.locked = none → f.entered = [] → (doReturn e (T.setTop f) acts v).1 = T.setFrames fs) → Steps p.tables e below S (T.setFrames fs))
    (hc : cells ≤ ce) (hs : slots ≤ sl) (hQ : Q v h locs) : Go p e below (EndQ s Q ce sl) S := by
  obtain ⟨fs, hr, hrun, hended, hW, hsame⟩ := X.leave (v := v) hv hlk
  subst eT
  exact ⟨_, _, step fs hr, hrun, hended, _, _, rfl, hQ, ⟨_, rfl⟩, hW, hsame.mono hc hs⟩
/-- ireturn of a boolean, byte, char, short -/
theorem goRetN {ce sl : Nat} {Q : Option Value → Heap → List Loc → Prop} {pc : Nat} {Ls : Array Slot} {z w : Int32} {rest : List Value} {t : FieldType} {h : Heap} (X : Stand p l e R s m args below meth c T locs cells slots) (hx : p.tables.exec = Jvm.exec) (hlk : meth.locks = false) (hret : meth.sig.returnType = some t) (ht : t = .boolean ∨ t = .byte ∨ t = .char ∨ t = .short) (hw : nar t z = w) (eT : T.heap = h)
    (hd : decode c.code pc = .ok (.ireturn, 1)) (hc : cells ≤ ce) (hs : slots ≤ sl) (hQ : Q (some (.int w)) h locs) : Go p e below (EndQ s Q ce sl) (T.setTop (mkF m pc Ls (.int z :: rest))) := by
  subst hw
  exact goRet X hlk (fun h => by rw [hret] at h; cases h) eT (fun fs hr => retN X hx hret ht hd hr) hc hs hQ
theorem goRetI {ce sl : Nat} {Q : Option Value → Heap → List Loc → Prop} {pc : Nat} {Ls : Array Slot} {z : Int32} {rest : List Value} {h : Heap} (X : Stand p l e R s m args below meth c T locs cells slots) (hx : p.tables.exec = Jvm.exec) (hlk : meth.locks = false) (hret : meth.sig.returnType = some .int) (eT : T.heap = h)
    (hd : decode c.code pc = .ok (.ireturn, 1)) (hc : cells ≤ ce) (hs : slots ≤ sl) (hQ : Q (some (.int z)) h locs) : Go p e below (EndQ s Q ce sl) (T.setTop (mkF m pc Ls (.int z :: rest))) :=
  goRet X hlk (fun h => by rw [hret] at h; cases h) eT (fun fs hr => retOut X hx hret rfl (Or.inl ⟨rfl, Or.inl rfl, z, rfl⟩) hd hr) hc hs hQ
theorem goRetJ {ce sl : Nat} {Q : Option Value → Heap → List Loc → Prop} {pc : Nat} {Ls : Array Slot} {z : Int64} {rest : List Value} {h : Heap} (X : Stand p l e R s m args below meth c T locs cells slots) (hx : p.tables.exec = Jvm.exec) (hlk : meth.locks = false) (hret : meth.sig.returnType = some .long) (eT : T.heap = h)
    (hd : decode c.code pc = .ok (.lreturn, 1)) (hc : cells ≤ ce) (hs : slots ≤ sl) (hQ : Q (some (.long z)) h locs) : Go p e below (EndQ s Q ce sl) (T.setTop (mkF m pc Ls (.long z :: rest))) :=
  goRet X hlk (fun h => by rw [hret] at h; cases h) eT (fun fs hr => retOut X hx hret rfl (Or.inr (Or.inl ⟨rfl, rfl, z, rfl⟩)) hd hr) hc hs hQ
theorem goRetA {ce sl : Nat} {Q : Option Value → Heap → List Loc → Prop} {pc : Nat} {Ls : Array Slot} {w : Value} {rest : List Value} {t : FieldType} {h : Heap} (X : Stand p l e R s m args below meth c T locs cells slots) (hx : p.tables.exec = Jvm.exec) (hlk : meth.locks = false) (hret : meth.sig.returnType = some t) (ht : t.isReference = true) (hw : w.isRef = true) (hn : narrow t w = w) (eT : T.heap = h)
    (hd : decode c.code pc = .ok (.areturn, 1)) (hc : cells ≤ ce) (hs : slots ≤ sl) (hQ : Q (some w) h locs) : Go p e below (EndQ s Q ce sl) (T.setTop (mkF m pc Ls (w :: rest))) :=
  goRet X hlk (fun h => by rw [hret] at h; cases h) eT (fun fs hr => retOut X hx hret hn (Or.inr (Or.inr (Or.inr (Or.inr ⟨rfl, ht, hw⟩)))) hd hr) hc hs hQ
theorem goRetV {ce sl : Nat} {Q : Option Value → Heap → List Loc → Prop} {pc : Nat} {Ls : Array Slot} {h : Heap} (X : Stand p l e R s m args below meth c T locs cells slots) (hx : p.tables.exec = Jvm.exec) (hlk : meth.locks = false) (hret : meth.sig.returnType = none) (eT : T.heap = h)
    (hd : decode c.code pc = .ok (.return_, 1)) (hc : cells ≤ ce) (hs : slots ≤ sl) (hQ : Q none h locs) : Go p e below (EndQ s Q ce sl) (T.setTop (mkF m pc Ls [])) :=
  goRet X hlk (fun _ => rfl) eT (fun fs hr => X.returnOut hx hret hd hr) hc hs hQ
/-- a method's contract, in the form that a caller takes -/
abbrev Ctr (l : Launch) (y : MethodName) (bytes : ByteArray) (maxL : Nat) (ret : Option FieldType) (ws : List Jvm.Cond) (rm : Room) (as : Array Value) (Z : State) (h0 : Heap) (Q : Option Value → Heap → List Loc → Prop) : Prop :=
  MetFree l y (head1 (Jvm.Cond.code y bytes maxL ret :: ws) rm) (fun a U => a = as ∧ Z.Warmed39 U.vm ∧ U.heap = h0) (fun _ _ _ _ _ => True) (fun _ U o U' => ∃ v L, o = .returned v ∧ Q v U'.heap L ∧ FrameEnd U o U' L rm.cells rm.slots)
theorem Ctr.of {y : MethodName} {bytes : ByteArray} {maxL : Nat} {ret : Option FieldType} {ws : List Jvm.Cond} {rm : Room} {as : Array Value} {h0 : Heap} {Q : Option Value → Heap → List Loc → Prop} (hpl : plainFor y = true)
    (body : ∀ (p : Program) (e : Env) (s : State) (m : MethodId) (below : List Frame) (meth : Method) (c : Code) (s₁ : State), p.tables.exec = Jvm.exec → Z.Warmed39 s.vm → c.code = bytes → c.maxLocals = maxL → s.vm.findClass y.cls = some m.cls → meth.name = y.name → meth.sig.returnType = ret → meth.locks = false →
      Stand p l e rm s m as below meth c s₁ [] 0 0 → s₁.heap = h0 → Go p e below (EndQ s Q rm.cells rm.slots) (s₁.setTop (entryFrame m as maxL))) :
    Ctr l y bytes maxL ret ws rm as Z h0 Q := by
  refine MetFree.of_bodySF hpl hisR ?_
  intro p e s m args below meth c s₁ Bd hml hP _
  obtain ⟨rfl, hZ, hh⟩ := hP
  exact body p e s m below meth c s₁ Bd.exec hZ Bd.bytes hml (findClass_of_methodNamed Bd.named) (name_of_methodNamed Bd.named Bd.method).1 Bd.returns Bd.notSynchronized (Stand.of_body Bd) (by rw [← hh, Bd.state]; rfl)
theorem goCallS (X : Stand p l e R s m args below meth c T locs cells slots) (hx : p.tables.exec = Jvm.exec) (hZ : Z.Warmed39 s.vm) {own : String} {index : Nat} {y : MethodName} {bytes : ByteArray} {maxL : Nat} {ret : Option FieldType} (hown : s.vm.findClass own = some m.cls)
    (w1 : (Jvm.Cond.methodLink own index y).before a0 Z = true) (w2 : (Jvm.Cond.static y).before a0 Z = true) (w3 : (Jvm.Cond.initialized y.cls).before a0 Z = true) (w4 : (Jvm.Cond.code y bytes maxL ret).before a0 Z = true) (hy : y.cls ≠ "java/lang/invoke/MethodHandle" ∧ y.cls ≠ "java/lang/invoke/VarHandle")
    {h : Heap} {rm : Room} {argsL rest : List Value} {Q : Option Value → Heap → List Loc → Prop} (eT : T.heap = h) (hC : Ctr l y bytes maxL ret [] rm argsL.toArray Z h Q) (W : Nat) (hf : rm.frames + 1 ≤ R.frames) (hl : W + (maxL + 11) + rm.locals ≤ R.locals) (hcl : cells + rm.cells ≤ R.cells) (hsl : slots + rm.slots ≤ R.slots)
    (g : JFrame) (hg : g.method = m) (hsize : g.locals.size = c.maxLocals) (hlen : ∀ sig, parseMethodDescriptor y.desc = some sig → argsL.length = sig.parameters.length) (hst : g.stack = argsL.reverse ++ rest) (hd : decode c.code g.pc = .ok (.invokestatic index, 3))
    (hW : 2 * g.monitorRoom + (rest.map fun v => v.category).sum ≤ W)
    (next : ∀ (v : Option Value) (T' : State) (L : List Loc), Stand p l e R s m args below meth c T' (locs ++ L) (cells + rm.cells) (slots + rm.slots) → Q v T'.heap L → Go p e below K (T'.setTop { g with pc := g.pc + 3, stack := v.toList ++ rest })) :
    Go p e below K (T.setTop g) := by
  subst eT
  obtain ⟨v, _, ⟨T', L', k', n'⟩, -, X', ⟨L, hQ, l1, y1, z1⟩, stp⟩ := Jvm.LawKit.callS X hx hown (mvT hZ w1) (mvT hZ w2) (mvT hZ w3) (mvT hZ w4) hy (backOf (W := W) hC hZ w4 w3 hf hl) (g := g) hg hsize hlen hst hW hd (fun _ _ => ⟨rfl, rfl, hcl, hsl⟩)
  dsimp only [Pt.U, Pt.locs, Pt.cells, Pt.slots] at X' l1 y1 z1 stp hQ
  subst l1 y1 z1
  exact Go.st stp (next v T' L X' hQ)
theorem goInit (X : Stand p l e R s m args below meth c T locs cells slots) (hx : p.tables.exec = Jvm.exec) (hZ : Z.Warmed39 s.vm) {own : String} {index : Nat} {y : MethodName} {bytes : ByteArray} {maxL : Nat} (hy1 : y.name = "<init>") (hown : s.vm.findClass own = some m.cls)
    (w1 : (Jvm.Cond.methodLink own index y).before a0 Z = true) (w2 : (Jvm.Cond.instanceMethod y).before a0 Z = true) (w3 : (Jvm.Cond.initialized y.cls).before a0 Z = true) (w4 : (Jvm.Cond.code y bytes maxL none).before a0 Z = true) (hy : y.cls ≠ "java/lang/invoke/MethodHandle" ∧ y.cls ≠ "java/lang/invoke/VarHandle")
    {h : Heap} {rm : Room} {a : Addr} {argsL rest : List Value} {Q : Option Value → Heap → List Loc → Prop} (eT : T.heap = h) (hC : Ctr l y bytes maxL none [] rm (.ref a :: argsL).toArray Z h Q) (W : Nat) (hf : rm.frames + 1 ≤ R.frames) (hl : W + (maxL + 11) + rm.locals ≤ R.locals) (hcl : cells + rm.cells ≤ R.cells) (hsl : slots + rm.slots ≤ R.slots)
    (g : JFrame) (hg : g.method = m) (hsize : g.locals.size = c.maxLocals) (hlen : ∀ sig, parseMethodDescriptor y.desc = some sig → argsL.length = sig.parameters.length) (hst : g.stack = argsL.reverse ++ .ref a :: rest) (hd : decode c.code g.pc = .ok (.invokespecial index, 3))
    (hW : 2 * g.monitorRoom + (rest.map fun v => v.category).sum ≤ W)
    (next : ∀ (v : Option Value) (T' : State) (L : List Loc), Stand p l e R s m args below meth c T' (locs ++ L) (cells + rm.cells) (slots + rm.slots) → Q v T'.heap L → Go p e below K (T'.setTop { g with pc := g.pc + 3, stack := v.toList ++ rest })) :
    Go p e below K (T.setTop g) := by
  subst eT
  obtain ⟨v, _, ⟨T', L', k', n'⟩, -, X', ⟨L, hQ, l1, y1, z1⟩, stp⟩ := X.specialBack hx hy1 hown (mvT hZ w1) (mvT hZ w2) (mvT hZ w4) hy (backOf (W := W) hC hZ w4 w3 hf hl) (g := g) hg hsize (Steps.refl _) hlen hst hW hd (fun _ _ => ⟨rfl, rfl, hcl, hsl⟩)
  dsimp only [Pt.U, Pt.locs, Pt.cells, Pt.slots] at X' l1 y1 z1 stp hQ
  subst l1 y1 z1
  exact Go.tr stp (next v T' L X' hQ)
theorem goVirt (X : Stand p l e R s m args below meth c T locs cells slots) (hx : p.tables.exec = Jvm.exec) (hZ : Z.Warmed39 s.vm) {own C : String} {index : Nat} {y z : MethodName} {bytes : ByteArray} {maxL : Nat} {ret : Option FieldType} (hown : s.vm.findClass own = some m.cls)
    (w1 : (Jvm.Cond.methodLink own index y).before a0 Z = true) (w2 : (Jvm.Cond.declares y).before a0 Z = true) (hnf : NotFace s y) (w5 : (Jvm.Cond.selects C y z).before a0 Z = true) (w6 : (Jvm.Cond.instanceMethod z).before a0 Z = true) (w3 : (Jvm.Cond.initialized z.cls).before a0 Z = true) (w4 : (Jvm.Cond.code z bytes maxL ret).before a0 Z = true) (hy : y.cls ≠ "java/lang/invoke/MethodHandle" ∧ y.cls ≠ "java/lang/invoke/VarHandle")
    {h : Heap} {rm : Room} {a : Addr} {argsL rest : List Value} {Q : Option Value → Heap → List Loc → Prop} (eT : T.heap = h) (E : Exa Z h a C) (hC : Ctr l z bytes maxL ret [] rm (.ref a :: argsL).toArray Z h Q) (W : Nat) (hf : rm.frames + 1 ≤ R.frames) (hl : W + (maxL + 11) + rm.locals ≤ R.locals) (hcl : cells + rm.cells ≤ R.cells) (hsl : slots + rm.slots ≤ R.slots)
    (g : JFrame) (hg : g.method = m) (hsize : g.locals.size = c.maxLocals) (hlen : ∀ sig, parseMethodDescriptor y.desc = some sig → argsL.length = sig.parameters.length) (hst : g.stack = argsL.reverse ++ .ref a :: rest) (hd : decode c.code g.pc = .ok (.invokevirtual index, 3))
    (hW : 2 * g.monitorRoom + (rest.map fun v => v.category).sum ≤ W)
    (next : ∀ (v : Option Value) (T' : State) (L : List Loc), Stand p l e R s m args below meth c T' (locs ++ L) (cells + rm.cells) (slots + rm.slots) → Q v T'.heap L → Go p e below K (T'.setTop { g with pc := g.pc + 3, stack := v.toList ++ rest })) :
    Go p e below K (T.setTop g) := by
  subst eT
  obtain ⟨cq, kq, qa, qb, qc⟩ := isOf (T := T) hZ rfl E
  obtain ⟨v, _, ⟨T', L', k', n'⟩, -, X', ⟨L, hQ, l1, y1, z1⟩, stp⟩ := X.virtualBack hx hown (mvT hZ w1) (mvT hZ w2) hnf (mvT hZ w5) (mvT hZ w6) hy (backOf (W := W) hC hZ w4 w3 hf hl) qa qc (g := g) hg hsize (Steps.refl _) hlen hst hW hd (fun _ _ => ⟨rfl, rfl, hcl, hsl⟩)
  dsimp only [Pt.U, Pt.locs, Pt.cells, Pt.slots] at X' l1 y1 z1 stp hQ
  subst l1 y1 z1
  exact Go.tr stp (next v T' L X' hQ)
theorem oldGe {h : Heap} {n0 : Nat} {b : Addr} (O : Old Z n0 h) (g : b = h.size) : n0 ≤ b := by rw [g, ← O.1]; exact O.2.1
theorem oldSta {h : Heap} {n0 : Nat} {C n d : String} {v : Value} (O : Old Z n0 h) (S : Sta Z Z.heap C n d v) : Sta Z h C n d v := S.ext O.2
theorem oldExa {h : Heap} {n0 : Nat} {C : String} {a : Addr} (O : Old Z n0 h) (S : Exa Z Z.heap a C) : Exa Z h a C := S.ext O.2
theorem oldFld {h : Heap} {n0 : Nat} {a : Addr} {C n d : String} {v : Value} (O : Old Z n0 h) (S : Fld Z Z.heap a C n d v) : Fld Z h a C n d v := S.ext O.2
end Own
theorem fldStart {args : Array Value} {Z : State} {t : Term} {a : Addr} {C n d : String} {v : Int32} (ev : t.eval args Z none [] Z = some (.ref a)) (h : (Jvm.Cond.eq (.field t C n d) (.int v)).value args Z none Z [] = some true) : Fld Z Z.heap a C n d (.int v) := by
  cases hf : Z.fieldOf? a C n d with
  | none => simp [Cond.value, Term.eval, ev, hf] at h
  | some x =>
    cases x <;> simp [Cond.value, Term.eval, ev, hf] at h
    exact Fld.start (by rw [hf, h])
theorem staInt {args : Array Value} {Z : State} {C n d : String} {v : Int32} (h : (Jvm.Cond.eq (.static C n d) (.int v)).value args Z none Z [] = some true) : (Term.static C n d).eval args Z none [] Z = some (.int v) := by
  obtain ⟨x, y, h1, h2, k1, k2⟩ := cmp_v (Or.inl h)
  cases (Term.int_eval v (args := args) (first := Z) (o := none) (idx := []) (s := Z)).symm.trans h2
  obtain ⟨z, rfl⟩ := k2
  rw [h1]
  simp [Cond.value, h1, Term.int_eval] at h
  rw [h]
theorem narZ {z : Int32} (h : z = 0 ∨ z = 1) : nar .boolean z = z := by rcases h with rfl | rfl <;> decide
theorem goJoin {p : Program} {e : Env} {below : List Frame} {K : Outcome → State → Prop} {S : State} {α : Type} {P : α → Prop} {F : α → State} (h1 : ∀ z, P z → Go p e below K (F z)) (h2 : (∀ z, P z → Go p e below K (F z)) → Go p e below K S) : Go p e below K S := h2 h1
theorem own_bit {z : Int32} {P : Prop} [Decidable P] (h : z = (if P then (1 : Int32) else 0)) : z = 0 ∨ z = 1 := by rw [h]; by_cases q : P <;> simp [q]
theorem lenStart {args : Array Value} {Z : State} {t : Term} {a : Addr} {cl : Cell} {n : Int32} (ev : t.eval args Z none [] Z = some (.ref a)) (ha : Z.arrayAt? a = some cl) (h : (Jvm.Cond.eq (.length t) (.int n)).value args Z none Z [] = some true) : cl.slots.size < 2 ^ 31 ∧ cl.slots.size.toInt32 = n := by
  have h1 := eqv_i (Term.int_eval n) h
  by_cases q : cl.slots.size < 2 ^ 31
  · rw [len_f ev ha q] at h1
    exact ⟨q, by simpa using h1⟩
  · simp [Term.eval, ev, ha, q] at h1
theorem nsRoot {Z : State} {a0 : Array Value} {O K : String} {n : Nat} (w : (Jvm.Cond.noSuperclass O).before a0 Z = true) (wi : (Jvm.Cond.instantiable K n).before a0 Z = true) (hn : O ≠ K) : NS Z O K := by
  obtain ⟨c, k, h1, h2, h3, -, -⟩ := Cond.noSuperclass_spec w
  obtain ⟨t, k', g1, -⟩ := Cond.instantiable_spec wi
  have ne := ids_ne h1 g1 hn
  refine ⟨c, t, h1, g1, fun fuel => ?_⟩
  cases fuel with
  | zero => rfl
  | succ f => simp [Vm.isSubclassAux, ne, h2, h3]
theorem nsNo {Z : State} {a0 : Array Value} {C S K : String} {n : Nat} (w : (Jvm.Cond.superclass C S).before a0 Z = true) (wi : (Jvm.Cond.instantiable K n).before a0 Z = true) (nn : NS Z C K) (hn : C ≠ K) : ∃ c t, Z.vm.findClass C = some c ∧ Z.vm.findClass K = some t ∧ Z.vm.assignable c t = false := by
  obtain ⟨c, t, h0, g0, n3⟩ := nn
  obtain ⟨p, k, kp, h1, h2, h3, h4, h5, -, h7⟩ := Cond.superclass_spec h0 w
  obtain ⟨t', k', g1, g2, g5, g6, -⟩ := Cond.instantiable_spec wi
  cases g0.symm.trans g1
  have g7 : k'.isInterface = false := by
    cases hq : k'.isInterface with
    | false => rfl
    | true => rw [hq] at g6; simp at g6
  have ne := ids_ne h0 g0 hn
  refine ⟨c, t, h0, g0, ?_⟩
  show Z.vm.assignableAux (255 + 1) c t = false
  simp [Vm.assignableAux, ne, h2, g2, h5, g5, g7, Vm.isSubclass, n3]
theorem subAt {args : Array Value} {Z : State} {a b : Term} {idx : List Nat} {x y : Int32} (ha : a.eval args Z none idx Z = some (.int x)) (hb : b.eval args Z none idx Z = some (.int y)) : (Term.sub a b).eval args Z none idx Z = some (.int (x - y)) := by simp [Term.eval, ha, hb]
theorem elemStart {args : Array Value} {Z : State} {t u : Term} {a w : Addr} {cl : Cell} {ty : FieldType} {j : Int32} (ev : t.eval args Z none [] Z = some (.ref a)) (A : Arr Z Z.heap a cl ty) (evu : u.eval args Z none [] Z = some (.ref w)) (h : (Jvm.Cond.eq (.elem t (.int j)) u).value args Z none Z [] = some true) : cl.slots[j.toNatClampNeg]? = some (.ref w) := by
  obtain ⟨x, y, h1, h2, k1, k2⟩ := cmp_v (Or.inl h)
  cases evu.symm.trans h2
  have hx : x.isRef = true := k2.2
  have e : x = .ref w := gotT (eq_R h1 h2 hx rfl) h
  rw [← e]
  exact (elem_in h1 ev (Term.int_eval j) A.1).2
theorem own_ite {P Q : Prop} [Decidable P] [Decidable Q] (h : P ↔ Q) : (if P then (1 : Int32) else 0) = (if Q then (1 : Int32) else 0) := by
  by_cases p : P
  · rw [if_pos p, if_pos (h.mp p)]
  · rw [if_neg p, if_neg (fun q => p (h.mpr q))]
theorem own_amt {c : Int32} {b : Nat} (h : c.toInt = b) : (c &&& 0x3f).toInt64.toBitVec = BitVec.ofNat 64 (b % 64) ∧ b % 64 < 64 := by
  have hb : b < 2 ^ 31 := by have := c.toInt_lt; omega
  have e : c.toBitVec.toNat = b := by
    have h' : c.toBitVec.toInt = b := h
    rw [BitVec.toInt_eq_toNat_cond] at h'
    split at h' <;> omega
  exact sm64 c (b % 64) (by rw [e])
theorem own_shl (x : Int64) {c : Int32} {b : Nat} (h : c.toInt = b) : (x <<< (c &&& 0x3f).toInt64).toBitVec = x.toBitVec <<< (b % 64) := by
  obtain ⟨e1, e2⟩ := own_amt h
  rw [Int64.toBitVec_shiftLeft, e1]
  rw [BitVec.shiftLeft_eq', smod64 _ e2]
theorem own_shr (x : Int64) {c : Int32} {b : Nat} (h : c.toInt = b) : ((x.toUInt64 >>> (c &&& 0x3f).toInt64.toUInt64).toInt64).toBitVec = x.toBitVec >>> (b % 64) := by
  obtain ⟨e1, e2⟩ := own_amt h
  have e3 : (c &&& 0x3f).toInt64.toUInt64.toBitVec = BitVec.ofNat 64 (b % 64) := e1
  show (x.toUInt64 >>> (c &&& 0x3f).toInt64.toUInt64).toBitVec = _
  rw [UInt64.toBitVec_shiftRight, e3]
  show x.toBitVec >>> (BitVec.ofNat 64 (b % 64) % 64) = _
  rw [BitVec.ushiftRight_eq', BitVec.toNat_umod, BitVec.toNat_ofNat]
  congr 1
  have : (64 : BitVec 64).toNat = 64 := rfl
  rw [this]; omega
def bt (x : Int64) (i : Nat) : Bool := x.toBitVec.getLsbD i
theorem bt_ext {x y : Int64} (h : ∀ i, i < 64 → bt x i = bt y i) : x = y := Int64.toBitVec_inj.mp (BitVec.eq_of_getLsbD_eq h)
theorem bt_big {x : Int64} {i : Nat} (h : 64 ≤ i) : bt x i = false := BitVec.getLsbD_of_ge _ _ h
theorem bt_and (x y : Int64) (i : Nat) : bt (x &&& y) i = (bt x i && bt y i) := by simp [bt]
theorem bt_or (x y : Int64) (i : Nat) : bt (x ||| y) i = (bt x i || bt y i) := by simp [bt]
theorem bt_xor (x y : Int64) (i : Nat) : bt (x ^^^ y) i = (bt x i ^^ bt y i) := by simp [bt]
theorem bt_m1 {i : Nat} (h : i < 64) : bt (-1) i = true := by
  have e : (-1 : Int64).toBitVec = BitVec.allOnes 64 := by decide
  rw [bt, e, BitVec.getLsbD_allOnes]; simp [h]
theorem bt_shl (x : Int64) {c : Int32} {b i : Nat} (h : c.toInt = b) (hi : i < 64) : bt (x <<< (c &&& 0x3f).toInt64) i = (decide (b % 64 ≤ i) && bt x (i - b % 64)) := by
  rw [bt, own_shl x h, BitVec.getLsbD_shiftLeft]
  simp only [hi, decide_true, Bool.true_and, bt]
  by_cases q : i < b % 64
  · simp [q, show ¬ b % 64 ≤ i by omega]
  · simp [q, show b % 64 ≤ i by omega]
theorem bt_shr (x : Int64) {c : Int32} {b : Nat} (i : Nat) (h : c.toInt = b) : bt ((x.toUInt64 >>> (c &&& 0x3f).toInt64.toUInt64).toInt64) i = bt x (b % 64 + i) := by
  rw [bt, own_shr x h, BitVec.getLsbD_ushiftRight]; rfl
/-- the mask of b bits -/
theorem bt_mask {c : Int32} {b i : Nat} (h : c.toInt = b) (hb : b < 64) (hi : i < 64) : bt (((1 : Int64) <<< (c &&& 0x3f).toInt64) - 1) i = decide (i < b) := by
  have e : (((1 : Int64) <<< (c &&& 0x3f).toInt64) - 1).toBitVec.toNat = 2 ^ b - 1 := by
    rw [Int64.toBitVec_sub, own_shl 1 h, Nat.mod_eq_of_lt hb]
    have : (1 : Int64).toBitVec = 1#64 := rfl
    rw [this, BitVec.toNat_sub, BitVec.toNat_shiftLeft]
    have h1 : (1#64).toNat = 1 := rfl
    rw [h1, Nat.one_shiftLeft]
    have : 2 ^ b < 2 ^ 64 := Nat.pow_lt_pow_right (by decide) hb
    have := Nat.one_le_two_pow (n := b)
    rw [Nat.mod_eq_of_lt (by omega : 2 ^ b < 2 ^ 64)]
    omega
  rw [bt, BitVec.getLsbD, e, Nat.testBit_two_pow_sub_one]
theorem bt_i2l (x : Int32) {i : Nat} (hi : i < 32) : bt x.toInt64 i = x.toBitVec.getLsbD i := by
  have : x.toInt64.toBitVec = x.toBitVec.signExtend 64 := rfl
  rw [bt, this, BitVec.getLsbD_signExtend]; simp [hi, show i < 64 by omega]
theorem bt_l2i (x : Int64) {i : Nat} (hi : i < 32) : x.toInt32.toBitVec.getLsbD i = bt x i := by
  rw [Int64.toBitVec_toInt32, BitVec.getLsbD_signExtend]; simp [hi, bt, show i < 64 by omega]
theorem bt_lt {x : Int64} {b : Nat} (h : x.toBitVec.toNat < 2 ^ b) {i : Nat} (hi : b ≤ i) : bt x i = false := by
  rw [bt, BitVec.getLsbD]; exact Nat.testBit_lt_two_pow (Nat.lt_of_lt_of_le h (Nat.pow_le_pow_right (by decide) hi))
def own_set (w m : Int64) (c x : Int32) : Int64 := (w &&& ((m <<< (c &&& 0x3f).toInt64) ^^^ (-1 : Int64))) ||| ((x.toInt64 &&& m) <<< (c &&& 0x3f).toInt64)
def own_get (w m : Int64) (c : Int32) : Int64 := ((w.toUInt64 >>> (c &&& 0x3f).toInt64.toUInt64).toInt64) &&& m
theorem bt_set {w m : Int64} {c x : Int32} {s b : Nat} (hc : c.toInt = s) (hm : ∀ i, i < 64 → bt m i = decide (i < b)) (hsb : s % 64 + b ≤ 64) {i : Nat} (hi : i < 64) : bt (own_set w m c x) i = if s % 64 ≤ i ∧ i < s % 64 + b then bt x.toInt64 (i - s % 64) else bt w i := by
  rw [own_set, bt_or, bt_and, bt_xor, bt_shl _ hc hi, bt_shl _ hc hi, bt_m1 hi, bt_and, hm _ (by omega)]
  by_cases q : s % 64 ≤ i
  · by_cases r : i < s % 64 + b
    · simp [q, r, show i - s % 64 < b by omega]
    · simp [q, r, show ¬ (i - s % 64 < b) by omega]
  · simp [q]
theorem bt_get {w m : Int64} {c : Int32} {s b : Nat} (hc : c.toInt = s) (hm : ∀ i, i < 64 → bt m i = decide (i < b)) {i : Nat} (hi : i < 64) : bt (own_get w m c) i = (bt w (s % 64 + i) && decide (i < b)) := by
  rw [own_get, bt_and, bt_shr _ _ hc, hm _ hi]
/-- what was laid into a field is read back, whatever was laid beside it behind -/
theorem get_set {w w' m : Int64} {c x : Int32} {s b : Nat} {r : Int64} (hc : c.toInt = s) (hm : ∀ i, i < 64 → bt m i = decide (i < b)) (hsb : s % 64 + b ≤ 64) (hb : b ≤ 32) (hr : r.toBitVec.toNat < 2 ^ b) (hx : x = r.toInt32)
    (hw : ∀ i, s % 64 ≤ i → i < s % 64 + b → bt w' i = bt (own_set w m c x) i) : (own_get w' m c).toInt32 = x := by
  have e : own_get w' m c = r := bt_ext fun i hi => by
    rw [bt_get hc hm hi]
    by_cases q : i < b
    · rw [hw _ (by omega) (by omega), bt_set hc hm hsb (by omega), if_pos ⟨by omega, by omega⟩, show s % 64 + i - s % 64 = i by omega, hx, bt_i2l _ (by omega), bt_l2i _ (by omega)]; simp [q]
    · rw [bt_lt hr (by omega)]; simp [q]
  rw [e, hx]
def own_nlz32 (x z : Int32) : Prop := ∃ b : Nat, b ≤ 32 ∧ z.toInt = 32 - b ∧ x.toBitVec.toNat < 2 ^ b ∧ (b = 0 ∨ 2 ^ (b - 1) ≤ x.toBitVec.toNat)
def own_nlz64 (x : Int64) (z : Int32) : Prop := ∃ b : Nat, b ≤ 64 ∧ z.toInt = 64 - b ∧ x.toBitVec.toNat < 2 ^ b ∧ (b = 0 ∨ 2 ^ (b - 1) ≤ x.toBitVec.toNat)
def own_nz (x : Int32) (K B : Nat) (i n : Int32) : Prop := ∃ k : Nat, k ≤ K ∧ n.toInt = 31 - k ∧ i.toInt = (x.toInt.toNat / 2 ^ k : Nat) ∧ 0 < i.toInt ∧ i.toInt < B
theorem nz_start {x : Int32} (h : (0 : Int32) < x) : own_nz x 0 (2 ^ 31) x 31 := by
  rw [Int32.lt_iff_toInt_lt, show (0 : Int32).toInt = 0 from rfl] at h
  have := x.toInt_lt
  exact ⟨0, Nat.le_refl _, by decide, by rw [Nat.pow_zero, Nat.div_one]; omega, h, by omega⟩
theorem nz_no {x i n t : Int32} {K K' B c : Nat} (N : own_nz x K B i n) (h : i < t) (ht : t.toInt = c) (hK : K ≤ K') : own_nz x K' c i n := by
  obtain ⟨k, h1, h2, h3, h4, h5⟩ := N
  rw [Int32.lt_iff_toInt_lt, ht] at h
  exact ⟨k, by omega, h2, h3, h4, h⟩
theorem nz_yes {x i n t q d : Int32} {K B B' c j : Nat} (N : own_nz x K B i n) (h : ¬ i < t) (ht : t.toInt = c) (hc : c = 2 ^ j) (hj : 0 < j) (hj2 : j ≤ 31) (hq : q.toBitVec.toNat % 32 = j) (hd : d.toInt = -j) (hB : B / c < B' ∨ (B ≤ B' * c ∧ 0 < c)) (hK : K + j ≤ 31) : own_nz x (K + j) B' ((i.toUInt32 >>> (q &&& 31).toUInt32).toInt32) (n + d) := by
  obtain ⟨k, h1, h2, h3, h4, h5⟩ := N
  rw [Int32.lt_iff_toInt_lt, ht] at h
  have e1 := c_iushr i q j hq hj
  have hi := i.toInt_lt
  rw [Int.emod_eq_of_lt (by omega) (by omega)] at e1
  have e2 : ((x.toInt.toNat / 2 ^ k : Nat) : Int) / ((2 ^ j : Nat) : Int) = (x.toInt.toNat / 2 ^ (k + j) : Nat) := by
    rw [← Int.natCast_ediv, Nat.div_div_eq_div_mul, Nat.pow_add]
  have e3 : (n + d).toInt = 31 - (k + j : Nat) := by
    rw [Int32.toInt_add, h2, hd]
    rw [Int.bmod_eq_of_le (by omega) (by omega)]; omega
  have hp : 0 < 2 ^ j := Nat.two_pow_pos j
  refine ⟨k + j, by omega, e3, by rw [e1, h3, e2], ?_, ?_⟩
  · rw [e1]
    have : (1 : Int) ≤ i.toInt / (2 ^ j : Nat) := by
      rw [Int.le_ediv_iff_mul_le (by omega)]; rw [← hc]; omega
    omega
  · rw [e1, ← hc]
    rcases hB with hB | ⟨hB, hc0⟩
    · have : i.toInt / c ≤ (B : Int) / c := Int.ediv_le_ediv (by omega) (by omega)
      rw [← Int.natCast_ediv] at this; omega
    · rw [Int.ediv_lt_iff_lt_mul (by omega)]
      have : (B : Int) ≤ B' * c := by exact_mod_cast hB
      omega
theorem toNat_pos {x : Int32} (h : 0 ≤ x.toInt) : x.toBitVec.toNat = x.toInt.toNat := by
  have h' : 0 ≤ x.toBitVec.toInt := h
  show x.toBitVec.toNat = x.toBitVec.toInt.toNat
  rw [BitVec.toInt_eq_toNat_cond] at h' ⊢
  split at h' <;> rename_i q
  · rw [if_pos q]; omega
  · omega
theorem nz_end {x i n : Int32} (hx : (0 : Int32) < x) (N : own_nz x 30 4 i n) : own_nlz32 x (n - ((i.toUInt32 >>> ((1 : Int32) &&& 31).toUInt32).toInt32)) := by
  obtain ⟨k, h1, h2, h3, h4, h5⟩ := N
  rw [Int32.lt_iff_toInt_lt, show (0 : Int32).toInt = 0 from rfl] at hx
  have e1 := c_iushr i 1 1 (by decide) (by decide)
  rw [Int.emod_eq_of_lt (by omega) (by omega)] at e1
  have e0 := toNat_pos (x := x) (by omega)
  have hp : 0 < 2 ^ k := Nat.two_pow_pos k
  have hdm := Nat.div_add_mod x.toInt.toNat (2 ^ k)
  have hml := Nat.mod_lt x.toInt.toNat hp
  generalize hQ : x.toInt.toNat / 2 ^ k = Q at *
  have hs : (n - ((i.toUInt32 >>> ((1 : Int32) &&& 31).toUInt32).toInt32)).toInt = 31 - k - i.toInt / 2 := by
    rw [Int32.toInt_sub, h2, e1]
    rw [Int.bmod_eq_of_le (by omega) (by omega)]; rfl
  have hQ3 : Q = 1 ∨ Q = 2 ∨ Q = 3 := by omega
  rcases hQ3 with rfl | rfl | rfl
  · refine ⟨k + 1, by omega, by omega, ?_, Or.inr ?_⟩
    · rw [e0, Nat.pow_succ]; omega
    · rw [e0, show k + 1 - 1 = k from rfl]; omega
  · refine ⟨k + 2, by omega, by omega, ?_, Or.inr ?_⟩
    · rw [e0, Nat.pow_succ, Nat.pow_succ]; omega
    · rw [e0, show k + 2 - 1 = k + 1 from rfl, Nat.pow_succ]; omega
  · refine ⟨k + 2, by omega, by omega, ?_, Or.inr ?_⟩
    · rw [e0, Nat.pow_succ, Nat.pow_succ]; omega
    · rw [e0, show k + 2 - 1 = k + 1 from rfl, Nat.pow_succ]; omega
theorem nlz_zero {x : Int32} (h : x = 0) : own_nlz32 x 32 := by subst h; exact ⟨0, by decide, by decide, by decide, Or.inl rfl⟩
theorem nlz_neg {x : Int32} (h : ¬ (0 : Int32) < x) (h0 : ¬ x = 0) : own_nlz32 x 0 := by
  rw [Int32.lt_iff_toInt_lt, show (0 : Int32).toInt = 0 from rfl] at h
  have hn : x.toInt ≠ 0 := fun q => h0 (Int32.toInt_inj.mp q)
  refine ⟨32, by decide, by decide, x.toBitVec.isLt, Or.inr ?_⟩
  have h' : x.toBitVec.toInt < 0 := by show x.toInt < 0; omega
  rw [BitVec.toInt_eq_toNat_cond] at h'
  split at h' <;> omega
theorem nlz64_lo {x : Int64} {z : Int32} (h : ((x.toUInt64 >>> ((32 : Int32) &&& 0x3f).toInt64.toUInt64).toInt64).toInt32 = 0) (N : own_nlz32 x.toInt32 z) : own_nlz64 x (32 + z) := by
  obtain ⟨b, h1, h2, h3, h4⟩ := N
  have hx : x.toBitVec.toNat < 2 ^ 32 := by
    have e : (((x.toUInt64 >>> ((32 : Int32) &&& 0x3f).toInt64.toUInt64).toInt64).toInt32).toBitVec.toNat = x.toBitVec.toNat / 2 ^ 32 := by
      rw [Int64.toBitVec_toInt32]
      show ((x.toBitVec >>> (((32 : Int32) &&& 0x3f).toInt64.toUInt64.toBitVec % 64)).signExtend 32).toNat = _
      rw [BitVec.signExtend_eq_setWidth_of_le _ (by decide), BitVec.toNat_setWidth]
      have : (((32 : Int32) &&& 0x3f).toInt64.toUInt64.toBitVec % 64) = 32#64 := by decide
      rw [this, BitVec.ushiftRight_eq', BitVec.toNat_ushiftRight, Nat.shiftRight_eq_div_pow]
      have := x.toBitVec.isLt
      exact Nat.mod_eq_of_lt (by rw [show (32#64).toNat = 32 from rfl]; omega)
    rw [h] at e
    have : (0 : Int32).toBitVec.toNat = 0 := rfl
    omega
  have e2 : x.toInt32.toBitVec.toNat = x.toBitVec.toNat := by
    rw [Int64.toBitVec_toInt32, BitVec.signExtend_eq_setWidth_of_le _ (by decide), BitVec.toNat_setWidth, Nat.mod_eq_of_lt hx]
  rw [e2] at h3 h4
  refine ⟨b, by omega, ?_, h3, h4⟩
  rw [Int32.toInt_add, h2, show (32 : Int32).toInt = 32 from rfl, Int.bmod_eq_of_le (by omega) (by omega)]; omega
theorem nlz64_hi {x : Int64} {z : Int32} (h : ¬ ((x.toUInt64 >>> ((32 : Int32) &&& 0x3f).toInt64.toUInt64).toInt64).toInt32 = 0) (N : own_nlz32 ((x.toUInt64 >>> ((32 : Int32) &&& 0x3f).toInt64.toUInt64).toInt64).toInt32 z) : own_nlz64 x z := by
  obtain ⟨b, h1, h2, h3, h4⟩ := N
  have e : (((x.toUInt64 >>> ((32 : Int32) &&& 0x3f).toInt64.toUInt64).toInt64).toInt32).toBitVec.toNat = x.toBitVec.toNat / 2 ^ 32 := by
    rw [Int64.toBitVec_toInt32]
    show ((x.toBitVec >>> (((32 : Int32) &&& 0x3f).toInt64.toUInt64.toBitVec % 64)).signExtend 32).toNat = _
    rw [BitVec.signExtend_eq_setWidth_of_le _ (by decide), BitVec.toNat_setWidth]
    have : (((32 : Int32) &&& 0x3f).toInt64.toUInt64.toBitVec % 64) = 32#64 := by decide
    rw [this, BitVec.ushiftRight_eq', BitVec.toNat_ushiftRight, Nat.shiftRight_eq_div_pow]
    have := x.toBitVec.isLt
    exact Nat.mod_eq_of_lt (by rw [show (32#64).toNat = 32 from rfl]; omega)
  rw [e] at h3 h4
  have hb : b ≠ 0 := fun q => h (Int32.toBitVec_inj.mp (BitVec.eq_of_toNat_eq (by rw [e]; subst q; show _ = 0; omega)))
  rcases h4 with h4 | h4
  · exact absurd h4 hb
  refine ⟨b + 32, by omega, by omega, ?_, Or.inr ?_⟩
  · rw [Nat.pow_add, Nat.mul_comm]; exact Nat.lt_mul_of_div_lt h3 (by decide) |> fun q => by rwa [Nat.mul_comm] at q
  · rw [show b + 32 - 1 = (b - 1) + 32 by omega, Nat.pow_add]
    exact (Nat.le_div_iff_mul_le (by decide)).mp h4
def own_bits (t : Int64) (c : Int32) : Prop := ∃ b : Nat, c.toInt = b ∧ b ≤ 32 ∧ (t - 1).toBitVec.toNat < 2 ^ b ∧ (b = 0 ∨ 2 ^ (b - 1) ≤ (t - 1).toBitVec.toNat)
theorem own_bits_of {t : Int64} {z : Int32} (N : own_nlz64 (t - 1) z) (h : (t - 1).toBitVec.toNat < 2 ^ 32) : ∃ c, 64 - z = c ∧ own_bits t c := by
  obtain ⟨b, h1, h2, h3, h4⟩ := N
  have hb : b ≤ 32 := by
    rcases h4 with rfl | h4
    · omega
    · refine Nat.le_of_not_lt fun q => ?_
      have : 2 ^ 32 ≤ 2 ^ (b - 1) := Nat.pow_le_pow_right (by decide) (by omega)
      omega
  refine ⟨_, rfl, b, ?_, hb, h3, h4⟩
  rw [Int32.toInt_sub, h2, show (64 : Int32).toInt = 64 from rfl, Int.bmod_eq_of_le (by omega) (by omega)]; omega
def own_lay (c0 c1 c2 w2 s2 wd : Int32) : Prop := (¬ (64 : Int32) < c0 + c1 + c2 ∧ w2 = 0 ∧ s2 = c0 + c1 ∧ wd = 1) ∨ ((64 : Int32) < c0 + c1 + c2 ∧ w2 = 1 ∧ s2 = 0 ∧ wd = 2)
abbrev own_mask (c : Int32) : Int64 := ((1 : Int64) <<< (c &&& 0x3f).toInt64) - (1 : Int64)
theorem add_toInt {a b : Int32} {x y : Nat} (ha : a.toInt = x) (hb : b.toInt = y) (h : x + y < 2 ^ 31) : (a + b).toInt = (x + y : Nat) := by
  rw [Int32.toInt_add, ha, hb, Int.bmod_eq_of_le (by omega) (by omega)]; omega
theorem own_le64 {t0 t1 : Int64} {c0 c1 : Int32} (B0 : own_bits t0 c0) (B1 : own_bits t1 c1) : ¬ (64 : Int32) < c0 + c1 := by
  obtain ⟨b0, h0, g0, -⟩ := B0
  obtain ⟨b1, h1, g1, -⟩ := B1
  rw [Int32.lt_iff_toInt_lt, add_toInt h0 h1 (by omega), show (64 : Int32).toInt = 64 from rfl]; omega
theorem own_le64' {t0 : Int64} {c0 : Int32} (B0 : own_bits t0 c0) : ¬ (64 : Int32) < c0 := by
  obtain ⟨b0, h0, g0, -⟩ := B0
  rw [Int32.lt_iff_toInt_lt, h0, show (64 : Int32).toInt = 64 from rfl]; omega
theorem own_final {f0 f1 f2 f3 : Nat → Int64} {j0 j2 : Nat} {c0 c1 c2 w2 s2 wd e0 e1 e2 : Int32} {t0 t1 t2 r0 r1 r2 : Int64} (B0 : own_bits t0 c0) (B1 : own_bits t1 c1) (B2 : own_bits t2 c2) (hl : own_lay c0 c1 c2 w2 s2 wd)
    (h1 : f1 = fun k => if k = j0 then own_set (f0 j0) (own_mask c0) 0 e0 else f0 k) (h2 : f2 = fun k => if k = j0 then own_set (f1 j0) (own_mask c1) c0 e1 else f1 k) (h3 : f3 = fun k => if k = j2 then own_set (f2 j2) (own_mask c2) s2 e2 else f2 k)
    (hj : w2 = 0 → j2 = j0) (hj' : w2 = 1 → j2 ≠ j0) (hr0 : r0.toBitVec.toNat ≤ (t0 - 1).toBitVec.toNat) (hr1 : r1.toBitVec.toNat ≤ (t1 - 1).toBitVec.toNat) (hr2 : r2.toBitVec.toNat ≤ (t2 - 1).toBitVec.toNat) (he0 : e0 = r0.toInt32) (he1 : e1 = r1.toInt32) (he2 : e2 = r2.toInt32) :
    (own_get (f3 j0) (own_mask c0) 0).toInt32 = e0 ∧ (own_get (f3 j0) (own_mask c1) c0).toInt32 = e1 ∧ (own_get (f3 j2) (own_mask c2) s2).toInt32 = e2 := by
  obtain ⟨b0, p0, q0, u0, -⟩ := B0
  obtain ⟨b1, p1, q1, u1, -⟩ := B1
  obtain ⟨b2, p2, q2, u2, -⟩ := B2
  have m0 : ∀ i, i < 64 → bt (own_mask c0) i = decide (i < b0) := fun i hi => bt_mask p0 (by omega) hi
  have m1 : ∀ i, i < 64 → bt (own_mask c1) i = decide (i < b1) := fun i hi => bt_mask p1 (by omega) hi
  have m2 : ∀ i, i < 64 → bt (own_mask c2) i = decide (i < b2) := fun i hi => bt_mask p2 (by omega) hi
  have z0 : (0 : Int32).toInt = (0 : Nat) := rfl
  have s01 := add_toInt p0 p1 (by omega)
  have s012 := add_toInt s01 p2 (by omega)
  have v0 : f1 j0 = own_set (f0 j0) (own_mask c0) 0 e0 := by rw [h1]; simp
  have v1 : f2 j0 = own_set (f1 j0) (own_mask c1) c0 e1 := by rw [h2]; simp
  have v2 : f3 j2 = own_set (f2 j2) (own_mask c2) s2 e2 := by rw [h3]; simp
  rcases hl with ⟨l1, l2, l3, -⟩ | ⟨l1, l2, l3, -⟩
  · obtain rfl := hj l2
    subst l3
    rw [Int32.lt_iff_toInt_lt, s012, show (64 : Int32).toInt = 64 from rfl] at l1
    refine ⟨get_set z0 m0 (by omega) q0 (by omega) he0 (w := f0 j2) fun i i1 i2 => ?_, get_set p0 m1 (by omega) q1 (by omega) he1 (w := f1 j2) fun i i1 i2 => ?_, get_set s01 m2 (by omega) q2 (by omega) he2 (w := f2 j2) fun i i1 i2 => by rw [v2]⟩
    · rw [v2, bt_set s01 m2 (by omega) (by omega), if_neg (by omega), v1, bt_set p0 m1 (by omega) (by omega), if_neg (by omega), v0]
    · rw [v2, bt_set s01 m2 (by omega) (by omega), if_neg (by omega), v1]
  · have hne := hj' l2
    subst l3
    have v3 : f3 j0 = f2 j0 := by rw [h3]; simp [Ne.symm hne]
    refine ⟨get_set z0 m0 (by omega) q0 (by omega) he0 (w := f0 j0) fun i i1 i2 => ?_, get_set p0 m1 (by omega) q1 (by omega) he1 (w := f1 j0) fun i i1 i2 => by rw [v3, v1], get_set z0 m2 (by omega) q2 (by omega) he2 (w := f2 j2) fun i i1 i2 => by rw [v2]⟩
    rw [v3, v1, bt_set p0 m1 (by omega) (by omega), if_neg (by omega), v0]
/-- an array of longs: n places, place j holds f j -/
def LAr (Z : State) (h : Heap) (a : Addr) (n : Nat) (f : Nat → Int64) : Prop := ∃ cl : Cell, Arr Z h a cl .long ∧ cl.slots.size = n ∧ n < 2 ^ 31 ∧ ∀ j, j < n → cl.slots[j]? = some (.long (f j))
section OwnLar
variable {Z : State} {h h' : Heap} {a b : Addr} {n : Nat} {f : Nat → Int64}
theorem LAr_lt (F : LAr Z h a n f) : a < h.size := by obtain ⟨c, A, -⟩ := F; exact A.lt
theorem LAr_ext (F : LAr Z h a n f) (E : Ext h h') : LAr Z h' a n f := by obtain ⟨c, A, r⟩ := F; exact ⟨c, A.ext E, r⟩
theorem LAr_other {sl : Nat} {v : Value} (F : LAr Z h b n f) (W : Wr h h' a sl v) (q : b ≠ a) : LAr Z h' b n f := by obtain ⟨c, A, r⟩ := F; exact ⟨c, A.other W q, r⟩
theorem LAr_keep {ws : List Addr} (F : LAr Z h a n f) (K : Keep h h' ws) (q : a ∉ ws) : LAr Z h' a n f := by obtain ⟨c, A, r⟩ := F; exact ⟨c, ⟨K.2.1 a c A.1 q, A.2⟩, r⟩
theorem nat_clamp {j : Int32} (h0 : 0 ≤ j.toInt) : (j.toNatClampNeg : Int) = j.toInt := by simp only [Int32.toNatClampNeg]; omega
theorem LAr_in (F : LAr Z h a n f) {j : Int32} (h0 : 0 ≤ j.toInt) (h1 : j.toInt < n) : ∃ cl : Cell, Arr Z h a cl .long ∧ ¬ (j < 0 ∨ cl.slots.size ≤ j.toNatClampNeg) ∧ cl.slots[j.toNatClampNeg]? = some (.long (f j.toNatClampNeg)) ∧ cl.slots.size = n ∧ n < 2 ^ 31 ∧ ∀ j, j < n → cl.slots[j]? = some (.long (f j)) := by
  obtain ⟨c, A, S, hn, H⟩ := F
  have hj := nat_clamp h0
  refine ⟨c, A, ?_, H _ (by omega), S, hn, H⟩
  rw [Int32.lt_iff_toInt_lt, show (0 : Int32).toInt = 0 from rfl, S]; omega
theorem LAr_set {cl : Cell} {j : Nat} {v : Int64} (A : Arr Z h a cl .long) (S : cl.slots.size = n) (hn : n < 2 ^ 31) (H : ∀ j, j < n → cl.slots[j]? = some (.long (f j))) (W : Wr h h' a j (.long v)) : LAr Z h' a n (fun k => if k = j then v else f k) := by
  refine ⟨_, A.same W, by rw [sz_set, S], hn, fun k hk => ?_⟩
  show (cl.slots.setIfInBounds j (.long v))[k]? = _
  by_cases q : k = j
  · subst q; simp [S, hk]
  · rw [Array.getElem?_setIfInBounds_ne (Ne.symm q), H k hk]; simp [q]
theorem LAr_of {k : ClassId} {z : Int32} {vs : List Value} {d : Value} (F : Arv Z h a k .long z vs d) (hz : z.toNatClampNeg = n) (hn : n < 2 ^ 31) (hf : ∀ j, j < n → vs.getD j d = .long (f j)) : LAr Z h a n f := by
  obtain ⟨c, A, -, S, -, H, -⟩ := F
  exact ⟨c, A, by rw [S, hz], hn, fun j hj => by rw [H j (by rw [S, hz]; exact hj), hf j hj]⟩
end OwnLar
theorem own_gs {w m : Int64} {c x : Int32} {s b : Nat} (hc : c.toInt = s) (hm : ∀ i, i < 64 → bt m i = decide (i < b)) (hsb : s % 64 + b ≤ 64) : own_get (own_set w m c x) m c = x.toInt64 &&& m := bt_ext fun i hi => by
  rw [bt_get hc hm hi, bt_and, hm i hi]
  by_cases q : i < b
  · rw [bt_set hc hm hsb (by omega), if_pos ⟨by omega, by omega⟩, show s % 64 + i - s % 64 = i by omega]
  · simp [q]
theorem own_out {w m : Int64} {c x : Int32} {s b : Nat} (hc : c.toInt = s) (hm : ∀ i, i < 64 → bt m i = decide (i < b)) (hsb : s % 64 + b ≤ 64) : (own_set w m c x ^^^ w) &&& ((m <<< (c &&& 0x3f).toInt64) ^^^ (-1 : Int64)) = 0 := bt_ext fun i hi => by
  have z : bt 0 i = false := by simp [bt]
  rw [bt_and, bt_xor, bt_xor, bt_shl _ hc hi, bt_m1 hi, hm _ (by omega), bt_set hc hm hsb hi, z]
  by_cases q : s % 64 ≤ i
  · by_cases r : i < s % 64 + b
    · simp [q, r, show i - s % 64 < b by omega]
    · simp [q, r]
  · simp [q]
def own_le32 (c : Int32) : Prop := ∃ b : Nat, c.toInt = b ∧ b ≤ 32
theorem own_b33 (x : Int32) : own_le32 ((x &&& (63 : Int32)) % (33 : Int32)) := by
  have h1 := c_mask x 63 6 (by decide) (by decide)
  have h2 := (c_irem (x &&& (63 : Int32)) (33 : Int32) 33 (by decide)).1 (by omega)
  exact ⟨((x &&& (63 : Int32)) % (33 : Int32)).toInt.toNat, by omega, by omega⟩
theorem own_one_shl {c : Int32} {b : Nat} (h : c.toInt = b) (hb : b ≤ 32) : (((1 : Int64) <<< (c &&& 0x3f).toInt64) - 1).toBitVec.toNat = 2 ^ b - 1 := by
  rw [Int64.toBitVec_sub, own_shl 1 h, Nat.mod_eq_of_lt (by omega)]
  have : (1 : Int64).toBitVec = 1#64 := rfl
  rw [this, BitVec.toNat_sub, BitVec.toNat_shiftLeft]
  have h1 : (1#64).toNat = 1 := rfl
  rw [h1, Nat.one_shiftLeft]
  have : 2 ^ b ≤ 2 ^ 32 := Nat.pow_le_pow_right (by decide) hb
  have := Nat.one_le_two_pow (n := b)
  rw [Nat.mod_eq_of_lt (by omega : 2 ^ b < 2 ^ 64)]
  omega
theorem own_t32 {c : Int32} (H : own_le32 c) : (((1 : Int64) <<< (c &&& 0x3f).toInt64) - 1).toBitVec.toNat < 2 ^ 32 := by
  obtain ⟨b, h, hb⟩ := H
  rw [own_one_shl h hb]
  have : 2 ^ b ≤ 2 ^ 32 := Nat.pow_le_pow_right (by decide) hb
  have := Nat.one_le_two_pow (n := b)
  omega
theorem own_bits_eq {c d : Int32} (H : own_le32 c) (B : own_bits ((1 : Int64) <<< (c &&& 0x3f).toInt64) d) : c = d := by
  obtain ⟨b, h, hb⟩ := H
  obtain ⟨b', h', hb', u1, u2⟩ := B
  rw [own_one_shl h hb] at u1 u2
  have e : b = b' := by
    have p1 := Nat.one_le_two_pow (n := b)
    rcases Nat.lt_trichotomy b b' with q | q | q
    · rcases u2 with u2 | u2
      · omega
      · have : 2 ^ b ≤ 2 ^ (b' - 1) := Nat.pow_le_pow_right (by decide) (by omega)
        omega
    · exact q
    · have : 2 ^ (b' + 1) ≤ 2 ^ b := Nat.pow_le_pow_right (by decide) (by omega)
      rw [Nat.pow_succ] at this
      have := Nat.one_le_two_pow (n := b')
      omega
  exact Int32.toInt_inj.mp (by rw [h, h', e])
theorem own_f3 (y : Int32) : (y &&& (3 : Int32)) % (3 : Int32) = (0 : Int32) ∨ (y &&& (3 : Int32)) % (3 : Int32) = (1 : Int32) ∨ (y &&& (3 : Int32)) % (3 : Int32) = (2 : Int32) := by
  have h1 := c_mask y 3 2 (by decide) (by decide)
  have h2 := (c_irem (y &&& (3 : Int32)) (3 : Int32) 3 (by decide)).1 (by omega)
  generalize (y &&& (3 : Int32)) % (3 : Int32) = z at h2
  have h3 : z.toInt = 0 ∨ z.toInt = 1 ∨ z.toInt = 2 := by omega
  rcases h3 with h | h | h
  · exact Or.inl (Int32.toInt_inj.mp h)
  · exact Or.inr (Or.inl (Int32.toInt_inj.mp h))
  · exact Or.inr (Or.inr (Int32.toInt_inj.mp h))
theorem own_po (y w : Int32) : (y &&& (1 : Int32)) * w = 0 ∨ (y &&& (1 : Int32)) * w = w := by
  rcases and_one y with h | h
  · left; rw [h, Int32.zero_mul]
  · right; rw [h, Int32.one_mul]
/-- the three fields' places: what the shift and the bits are -/
def own_place (c : Int32) (y : Int32) : Prop := ∃ s b : Nat, y.toInt = s ∧ c.toInt = b ∧ b ≤ 32 ∧ s % 64 + b ≤ 64
theorem own_pl0 {c : Int32} (H : own_le32 c) : own_place c 0 := by obtain ⟨b, h, hb⟩ := H; exact ⟨0, b, rfl, h, hb, by omega⟩
theorem own_pl1 {c0 c1 : Int32} (H0 : own_le32 c0) (H1 : own_le32 c1) : own_place c1 c0 := by
  obtain ⟨b0, h0, g0⟩ := H0; obtain ⟨b1, h1, g1⟩ := H1; exact ⟨b0, b1, h0, h1, g1, by omega⟩
theorem own_pl2 {c0 c1 c2 : Int32} (H0 : own_le32 c0) (H1 : own_le32 c1) (H2 : own_le32 c2) (h : ¬ (64 : Int32) < c0 + c1 + c2) : own_place c2 (c0 + c1) := by
  obtain ⟨b0, h0, g0⟩ := H0; obtain ⟨b1, h1, g1⟩ := H1; obtain ⟨b2, h2, g2⟩ := H2
  have s01 := add_toInt h0 h1 (by omega)
  rw [Int32.lt_iff_toInt_lt, add_toInt s01 h2 (by omega), show (64 : Int32).toInt = 64 from rfl] at h
  exact ⟨b0 + b1, b2, s01, h2, g2, by omega⟩
theorem own_gsP {w : Int64} {c y x : Int32} (P : own_place c y) : own_get (own_set w (own_mask c) y x) (own_mask c) y = x.toInt64 &&& own_mask c := by
  obtain ⟨s, b, h1, h2, h3, h4⟩ := P; exact own_gs h1 (fun i hi => bt_mask h2 (by omega) hi) h4
theorem own_outP {w : Int64} {c y x : Int32} (P : own_place c y) : (own_set w (own_mask c) y x ^^^ w) &&& ((own_mask c <<< (y &&& 0x3f).toInt64) ^^^ (-1 : Int64)) = 0 := by
  obtain ⟨s, b, h1, h2, h3, h4⟩ := P; exact own_out h1 (fun i hi => bt_mask h2 (by omega) hi) h4
theorem own_ltn {p N : Int32} {n : Nat} (h : p < N) (hN : N.toInt = n) : p.toInt < n := by rw [Int32.lt_iff_toInt_lt, hN] at h; exact h
theorem own_same1 {f0 f1 : Nat → Int64} {i j : Int32} {c y x : Int32} (P : own_place c y) (hf : f1 = fun k => if k = j.toNatClampNeg then own_set (f0 j.toNatClampNeg) (own_mask c) y x else f0 k) : i = j → (f1 i.toNatClampNeg ^^^ f0 i.toNatClampNeg) &&& ((own_mask c <<< (y &&& 0x3f).toInt64) ^^^ (-1 : Int64)) = 0 := fun e => by
  subst e; rw [hf]; simp only [if_true]; exact own_outP P
theorem own_same2 {f0 f1 : Nat → Int64} {i j : Int32} {v : Int64} (hi : 0 ≤ i.toInt) (hj : 0 ≤ j.toInt) (hf : f1 = fun k => if k = j.toNatClampNeg then v else f0 k) : ¬ i = j → f1 i.toNatClampNeg = f0 i.toNatClampNeg := fun e => by
  have : ¬ i.toNatClampNeg = j.toNatClampNeg := fun q => e (Int32.toInt_inj.mp (by have := nat_clamp hi; have := nat_clamp hj; omega))
  rw [hf]; simp [this]

theorem pd_0 : parseMethodDescriptor "(I)I" = some ⟨[.int], some .int⟩ := by decide +kernel
theorem pd_1 : parseMethodDescriptor "(J)I" = some ⟨[.long], some .int⟩ := by decide +kernel
theorem pd_2 : parseMethodDescriptor "([J)V" = some ⟨[(.array .long)], none⟩ := by decide +kernel
theorem pd_3 : parseMethodDescriptor "([JIII)V" = some ⟨[(.array .long), .int, .int, .int], none⟩ := by decide +kernel
theorem pd_4 : parseMethodDescriptor "([JII)I" = some ⟨[(.array .long), .int, .int], some .int⟩ := by decide +kernel
theorem pd_5 : parseMethodDescriptor "([J[JIIJ)Z" = some ⟨[(.array .long), (.array .long), .int, .int, .long], some .boolean⟩ := by decide +kernel
theorem d4_0 : decode jdk_33_method_47_code 0 = .ok (.iload_n 0, 1) := by decide +kernel
theorem d4_1 : decode jdk_33_method_47_code 1 = .ok (.ifCond .gt 14, 3) := by decide +kernel
theorem d4_4 : decode jdk_33_method_47_code 4 = .ok (.iload_n 0, 1) := by decide +kernel
theorem d4_5 : decode jdk_33_method_47_code 5 = .ok (.ifCond .ne 8, 3) := by decide +kernel
theorem d4_8 : decode jdk_33_method_47_code 8 = .ok (.bipush 32, 2) := by decide +kernel
theorem d4_10 : decode jdk_33_method_47_code 10 = .ok (.goto 4, 3) := by decide +kernel
theorem d4_13 : decode jdk_33_method_47_code 13 = .ok (.iconst 0, 1) := by decide +kernel
theorem d4_14 : decode jdk_33_method_47_code 14 = .ok (.ireturn, 1) := by decide +kernel
theorem d4_15 : decode jdk_33_method_47_code 15 = .ok (.bipush 31, 2) := by decide +kernel
theorem d4_17 : decode jdk_33_method_47_code 17 = .ok (.istore_n 1, 1) := by decide +kernel
theorem d4_18 : decode jdk_33_method_47_code 18 = .ok (.iload_n 0, 1) := by decide +kernel
theorem d4_19 : decode jdk_33_method_47_code 19 = .ok (.ldc_w 264, 3) := by decide +kernel
theorem d4_22 : decode jdk_33_method_47_code 22 = .ok (.if_icmp .lt 11, 3) := by decide +kernel
theorem d4_25 : decode jdk_33_method_47_code 25 = .ok (.iinc 1 (-16), 3) := by decide +kernel
theorem d4_28 : decode jdk_33_method_47_code 28 = .ok (.iload_n 0, 1) := by decide +kernel
theorem d4_29 : decode jdk_33_method_47_code 29 = .ok (.bipush 16, 2) := by decide +kernel
theorem d4_31 : decode jdk_33_method_47_code 31 = .ok (.iushr, 1) := by decide +kernel
theorem d4_32 : decode jdk_33_method_47_code 32 = .ok (.istore_n 0, 1) := by decide +kernel
theorem d4_33 : decode jdk_33_method_47_code 33 = .ok (.iload_n 0, 1) := by decide +kernel
theorem d4_34 : decode jdk_33_method_47_code 34 = .ok (.sipush 256, 3) := by decide +kernel
theorem d4_37 : decode jdk_33_method_47_code 37 = .ok (.if_icmp .lt 11, 3) := by decide +kernel
theorem d4_40 : decode jdk_33_method_47_code 40 = .ok (.iinc 1 (-8), 3) := by decide +kernel
theorem d4_43 : decode jdk_33_method_47_code 43 = .ok (.iload_n 0, 1) := by decide +kernel
theorem d4_44 : decode jdk_33_method_47_code 44 = .ok (.bipush 8, 2) := by decide +kernel
theorem d4_46 : decode jdk_33_method_47_code 46 = .ok (.iushr, 1) := by decide +kernel
theorem d4_47 : decode jdk_33_method_47_code 47 = .ok (.istore_n 0, 1) := by decide +kernel
theorem d4_48 : decode jdk_33_method_47_code 48 = .ok (.iload_n 0, 1) := by decide +kernel
theorem d4_49 : decode jdk_33_method_47_code 49 = .ok (.bipush 16, 2) := by decide +kernel
theorem d4_51 : decode jdk_33_method_47_code 51 = .ok (.if_icmp .lt 10, 3) := by decide +kernel
theorem d4_54 : decode jdk_33_method_47_code 54 = .ok (.iinc 1 (-4), 3) := by decide +kernel
theorem d4_57 : decode jdk_33_method_47_code 57 = .ok (.iload_n 0, 1) := by decide +kernel
theorem d4_58 : decode jdk_33_method_47_code 58 = .ok (.iconst 4, 1) := by decide +kernel
theorem d4_59 : decode jdk_33_method_47_code 59 = .ok (.iushr, 1) := by decide +kernel
theorem d4_60 : decode jdk_33_method_47_code 60 = .ok (.istore_n 0, 1) := by decide +kernel
theorem d4_61 : decode jdk_33_method_47_code 61 = .ok (.iload_n 0, 1) := by decide +kernel
theorem d4_62 : decode jdk_33_method_47_code 62 = .ok (.iconst 4, 1) := by decide +kernel
theorem d4_63 : decode jdk_33_method_47_code 63 = .ok (.if_icmp .lt 10, 3) := by decide +kernel
theorem d4_66 : decode jdk_33_method_47_code 66 = .ok (.iinc 1 (-2), 3) := by decide +kernel
theorem d4_69 : decode jdk_33_method_47_code 69 = .ok (.iload_n 0, 1) := by decide +kernel
theorem d4_70 : decode jdk_33_method_47_code 70 = .ok (.iconst 2, 1) := by decide +kernel
theorem d4_71 : decode jdk_33_method_47_code 71 = .ok (.iushr, 1) := by decide +kernel
theorem d4_72 : decode jdk_33_method_47_code 72 = .ok (.istore_n 0, 1) := by decide +kernel
theorem d4_73 : decode jdk_33_method_47_code 73 = .ok (.iload_n 1, 1) := by decide +kernel
theorem d4_74 : decode jdk_33_method_47_code 74 = .ok (.iload_n 0, 1) := by decide +kernel
theorem d4_75 : decode jdk_33_method_47_code 75 = .ok (.iconst 1, 1) := by decide +kernel
theorem d4_76 : decode jdk_33_method_47_code 76 = .ok (.iushr, 1) := by decide +kernel
theorem d4_77 : decode jdk_33_method_47_code 77 = .ok (.isub, 1) := by decide +kernel
theorem d4_78 : decode jdk_33_method_47_code 78 = .ok (.ireturn, 1) := by decide +kernel
theorem pn_4 : plainName "java/lang/Integer" = true := by first | (simp [plainName, overriddenIn]; done) | decide +kernel
set_option maxRecDepth 65536 in
set_option maxHeartbeats 40000000 in
theorem rmN32 (l : Launch) (Z : State) (a0 : Array Value) (hw : ∀ d ∈ tables_1, d.before a0 Z = true) (ws : List Jvm.Cond) (p1 : Int32) (h0 : Heap) (n0 : Nat) (O0 : Old Z n0 h0) :
    Ctr l (⟨"java/lang/Integer", "numberOfLeadingZeros", "(I)I"⟩ : MethodName) jdk_33_method_47_code 2 (some .int) ws ({ frames := 0, cells := 0, slots := 0, locals := 0 } : Room) #[(.int p1)] Z h0 (fun v h L => (∃ z, v = some (.int z) ∧ own_nlz32 p1 z) ∧ Fr n0 L ∧ h = h0) := by
  have ef : ∀ m : MethodId, entryFrame m #[(.int p1)] 2 = mkF m 0 #[.val (.int p1), .unset] [] := fun m => by first | (simp [entryFrame, mkF, argsToLocals, Value.category]; done) | rfl
  refine Ctr.of (plainFor_of_name pn_4) ?_
  intro p e s m below meth c s₁ hx hZ hby hml hown0 hnm hret hlk X0 e0
  have hown : s.vm.findClass "java/lang/Integer" = some m.cls := hown0
  have N0 := Fr.nil n0
  refine Go.st (fun t k => castTop (ef m) k) ?_
  show Go p e below _ (s₁.setTop (mkF m 0 #[.val (.int p1), .unset] []))
  refine Go.st (fun _ => XS.iloadN X0.here hx rfl (hb hby d4_0) rfl) ?_
  by_cases hc1 : (0 : Int32) < p1
  · refine Go.st (fun _ => XS.ifYes X0.here hx rfl (pc0 := 1) (pc' := 15) rfl (hb hby d4_1) rfl ((if0 _ _).trans (tlt hc1).2.2.1) (by decide) (by decide)) ?_
    refine Go.st (fun _ => XS.bipush X0.here hx rfl (hb hby d4_15)) ?_
    refine Go.st (fun _ => XS.istoreN X0.here hx rfl (hb hby d4_17) rfl (l' := #[.val (.int p1), .val (.int (31 : Int32))]) rfl) ?_
    refine Go.st (fun _ => XS.iloadN X0.here hx rfl (hb hby d4_18) rfl) ?_
    show Go p e below _ (s₁.setTop (mkF m 19 #[.val (.int p1), .val (.int (31 : Int32))] [(.int p1)]))
    refine Go.st (fun _ => X0.ldcwInt hx hown (mvT hZ (hw _ (List.mem_of_getElem? (i := 55) rfl))) (g := (mkF m 19 #[.val (.int p1), .val (.int (31 : Int32))] [(.int p1)])) rfl (hb hby d4_19) _) ?_
    show Go p e below _ (s₁.setTop (mkF m 22 #[.val (.int p1), .val (.int (31 : Int32))] [(.int (65536 : Int32)), (.int p1)]))
    refine goJoin (α := Int32 × Int32) (P := fun z1 => own_nz p1 16 65536 z1.1 z1.2) (F := fun z1 => s₁.setTop (mkF m 33 #[.val (.int z1.1), .val (.int z1.2)] [])) (fun z1 hz1 => ?_) (fun J1 => ?_)
    · obtain ⟨i1, n1⟩ := z1
      have hz1 : own_nz p1 16 65536 i1 n1 := hz1
      show Go p e below _ (s₁.setTop (mkF m 33 #[.val (.int i1), .val (.int n1)] []))
      refine Go.st (fun _ => XS.iloadN X0.here hx rfl (hb hby d4_33) rfl) ?_
      refine Go.st (fun _ => XS.sipush X0.here hx rfl (hb hby d4_34)) ?_
      show Go p e below _ (s₁.setTop (mkF m 37 #[.val (.int i1), .val (.int n1)] [(.int (256 : Int32)), (.int i1)]))
      refine goJoin (α := Int32 × Int32) (P := fun z2 => own_nz p1 24 256 z2.1 z2.2) (F := fun z2 => s₁.setTop (mkF m 48 #[.val (.int z2.1), .val (.int z2.2)] [])) (fun z2 hz2 => ?_) (fun J2 => ?_)
      · obtain ⟨i2, n2⟩ := z2
        have hz2 : own_nz p1 24 256 i2 n2 := hz2
        show Go p e below _ (s₁.setTop (mkF m 48 #[.val (.int i2), .val (.int n2)] []))
        refine Go.st (fun _ => XS.iloadN X0.here hx rfl (hb hby d4_48) rfl) ?_
        refine Go.st (fun _ => XS.bipush X0.here hx rfl (hb hby d4_49)) ?_
        show Go p e below _ (s₁.setTop (mkF m 51 #[.val (.int i2), .val (.int n2)] [(.int (16 : Int32)), (.int i2)]))
        refine goJoin (α := Int32 × Int32) (P := fun z3 => own_nz p1 28 16 z3.1 z3.2) (F := fun z3 => s₁.setTop (mkF m 61 #[.val (.int z3.1), .val (.int z3.2)] [])) (fun z3 hz3 => ?_) (fun J3 => ?_)
        · obtain ⟨i3, n3⟩ := z3
          have hz3 : own_nz p1 28 16 i3 n3 := hz3
          show Go p e below _ (s₁.setTop (mkF m 61 #[.val (.int i3), .val (.int n3)] []))
          refine Go.st (fun _ => XS.iloadN X0.here hx rfl (hb hby d4_61) rfl) ?_
          refine Go.st (fun _ => XS.iconst X0.here hx rfl (hb hby d4_62)) ?_
          show Go p e below _ (s₁.setTop (mkF m 63 #[.val (.int i3), .val (.int n3)] [(.int (4 : Int32)), (.int i3)]))
          refine goJoin (α := Int32 × Int32) (P := fun z4 => own_nz p1 30 4 z4.1 z4.2) (F := fun z4 => s₁.setTop (mkF m 73 #[.val (.int z4.1), .val (.int z4.2)] [])) (fun z4 hz4 => ?_) (fun J4 => ?_)
          · obtain ⟨i4, n4⟩ := z4
            have hz4 : own_nz p1 30 4 i4 n4 := hz4
            show Go p e below _ (s₁.setTop (mkF m 73 #[.val (.int i4), .val (.int n4)] []))
            refine Go.st (fun _ => XS.iloadN X0.here hx rfl (hb hby d4_73) rfl) ?_
            refine Go.st (fun _ => XS.iloadN X0.here hx rfl (hb hby d4_74) rfl) ?_
            refine Go.st (fun _ => XS.iconst X0.here hx rfl (hb hby d4_75)) ?_
            refine Go.st (fun _ => XS.iushr X0.here hx rfl (hb hby d4_76) rfl) ?_
            refine Go.st (fun _ => XS.isub X0.here hx rfl (hb hby d4_77) rfl) ?_
            show Go p e below _ (s₁.setTop (mkF m 78 #[.val (.int i4), .val (.int n4)] [(.int (n4 - ((i4.toUInt32 >>> ((1 : Int32) &&& 31).toUInt32).toInt32)))]))
            exact goRetI X0 hx hlk hret e0 (hb hby d4_78) (by decide) (by decide) ⟨⟨_, rfl, nz_end hc1 hz4⟩, N0, rfl⟩
          · show Go p e below _ (s₁.setTop (mkF m 63 #[.val (.int i3), .val (.int n3)] [(.int (4 : Int32)), (.int i3)]))
            by_cases hc2 : i3 < (4 : Int32)
            · refine Go.st (fun _ => XS.icmpYes X0.here hx rfl (pc0 := 63) (pc' := 73) rfl (hb hby d4_63) rfl (tlt hc2).1 (by decide) (by decide)) ?_
              show Go p e below _ (s₁.setTop (mkF m 73 #[.val (.int i3), .val (.int n3)] []))
              exact J4 (i3, n3) (nz_no hz3 hc2 (by decide) (by decide))
            · refine Go.st (fun _ => XS.icmpNo X0.here hx rfl (hb hby d4_63) rfl (flt hc2).1) ?_
              refine Go.st (fun _ => XS.iinc X0.here hx rfl (hb hby d4_66) rfl (l' := #[.val (.int i3), .val (.int (n3 + (-2 : Int32)))]) rfl) ?_
              refine Go.st (fun _ => XS.iloadN X0.here hx rfl (hb hby d4_69) rfl) ?_
              refine Go.st (fun _ => XS.iconst X0.here hx rfl (hb hby d4_70)) ?_
              refine Go.st (fun _ => XS.iushr X0.here hx rfl (hb hby d4_71) rfl) ?_
              refine Go.st (fun _ => XS.istoreN X0.here hx rfl (hb hby d4_72) rfl (l' := #[.val (.int ((i3.toUInt32 >>> ((2 : Int32) &&& 31).toUInt32).toInt32)), .val (.int (n3 + (-2 : Int32)))]) rfl) ?_
              show Go p e below _ (s₁.setTop (mkF m 73 #[.val (.int ((i3.toUInt32 >>> ((2 : Int32) &&& 31).toUInt32).toInt32)), .val (.int (n3 + (-2 : Int32)))] []))
              exact J4 (((i3.toUInt32 >>> ((2 : Int32) &&& 31).toUInt32).toInt32), (n3 + (-2 : Int32))) (nz_yes (j := 2) (K := 28) (q := 2) (d := -2) (c := 4) (B' := 4) hz3 hc2 (by decide) (by decide) (by decide) (by decide) (by decide) (by decide) (Or.inr ⟨by decide, by decide⟩) (by decide))
        · show Go p e below _ (s₁.setTop (mkF m 51 #[.val (.int i2), .val (.int n2)] [(.int (16 : Int32)), (.int i2)]))
          by_cases hc3 : i2 < (16 : Int32)
          · refine Go.st (fun _ => XS.icmpYes X0.here hx rfl (pc0 := 51) (pc' := 61) rfl (hb hby d4_51) rfl (tlt hc3).1 (by decide) (by decide)) ?_
            show Go p e below _ (s₁.setTop (mkF m 61 #[.val (.int i2), .val (.int n2)] []))
            exact J3 (i2, n2) (nz_no hz2 hc3 (by decide) (by decide))
          · refine Go.st (fun _ => XS.icmpNo X0.here hx rfl (hb hby d4_51) rfl (flt hc3).1) ?_
            refine Go.st (fun _ => XS.iinc X0.here hx rfl (hb hby d4_54) rfl (l' := #[.val (.int i2), .val (.int (n2 + (-4 : Int32)))]) rfl) ?_
            refine Go.st (fun _ => XS.iloadN X0.here hx rfl (hb hby d4_57) rfl) ?_
            refine Go.st (fun _ => XS.iconst X0.here hx rfl (hb hby d4_58)) ?_
            refine Go.st (fun _ => XS.iushr X0.here hx rfl (hb hby d4_59) rfl) ?_
            refine Go.st (fun _ => XS.istoreN X0.here hx rfl (hb hby d4_60) rfl (l' := #[.val (.int ((i2.toUInt32 >>> ((4 : Int32) &&& 31).toUInt32).toInt32)), .val (.int (n2 + (-4 : Int32)))]) rfl) ?_
            show Go p e below _ (s₁.setTop (mkF m 61 #[.val (.int ((i2.toUInt32 >>> ((4 : Int32) &&& 31).toUInt32).toInt32)), .val (.int (n2 + (-4 : Int32)))] []))
            exact J3 (((i2.toUInt32 >>> ((4 : Int32) &&& 31).toUInt32).toInt32), (n2 + (-4 : Int32))) (nz_yes (j := 4) (K := 24) (q := 4) (d := -4) (c := 16) (B' := 16) hz2 hc3 (by decide) (by decide) (by decide) (by decide) (by decide) (by decide) (Or.inr ⟨by decide, by decide⟩) (by decide))
      · show Go p e below _ (s₁.setTop (mkF m 37 #[.val (.int i1), .val (.int n1)] [(.int (256 : Int32)), (.int i1)]))
        by_cases hc4 : i1 < (256 : Int32)
        · refine Go.st (fun _ => XS.icmpYes X0.here hx rfl (pc0 := 37) (pc' := 48) rfl (hb hby d4_37) rfl (tlt hc4).1 (by decide) (by decide)) ?_
          show Go p e below _ (s₁.setTop (mkF m 48 #[.val (.int i1), .val (.int n1)] []))
          exact J2 (i1, n1) (nz_no hz1 hc4 (by decide) (by decide))
        · refine Go.st (fun _ => XS.icmpNo X0.here hx rfl (hb hby d4_37) rfl (flt hc4).1) ?_
          refine Go.st (fun _ => XS.iinc X0.here hx rfl (hb hby d4_40) rfl (l' := #[.val (.int i1), .val (.int (n1 + (-8 : Int32)))]) rfl) ?_
          refine Go.st (fun _ => XS.iloadN X0.here hx rfl (hb hby d4_43) rfl) ?_
          refine Go.st (fun _ => XS.bipush X0.here hx rfl (hb hby d4_44)) ?_
          refine Go.st (fun _ => XS.iushr X0.here hx rfl (hb hby d4_46) rfl) ?_
          refine Go.st (fun _ => XS.istoreN X0.here hx rfl (hb hby d4_47) rfl (l' := #[.val (.int ((i1.toUInt32 >>> ((8 : Int32) &&& 31).toUInt32).toInt32)), .val (.int (n1 + (-8 : Int32)))]) rfl) ?_
          show Go p e below _ (s₁.setTop (mkF m 48 #[.val (.int ((i1.toUInt32 >>> ((8 : Int32) &&& 31).toUInt32).toInt32)), .val (.int (n1 + (-8 : Int32)))] []))
          exact J2 (((i1.toUInt32 >>> ((8 : Int32) &&& 31).toUInt32).toInt32), (n1 + (-8 : Int32))) (nz_yes (j := 8) (K := 16) (q := 8) (d := -8) (c := 256) (B' := 256) hz1 hc4 (by decide) (by decide) (by decide) (by decide) (by decide) (by decide) (Or.inr ⟨by decide, by decide⟩) (by decide))
    · show Go p e below _ (s₁.setTop (mkF m 22 #[.val (.int p1), .val (.int (31 : Int32))] [(.int (65536 : Int32)), (.int p1)]))
      by_cases hc5 : p1 < (65536 : Int32)
      · refine Go.st (fun _ => XS.icmpYes X0.here hx rfl (pc0 := 22) (pc' := 33) rfl (hb hby d4_22) rfl (tlt hc5).1 (by decide) (by decide)) ?_
        show Go p e below _ (s₁.setTop (mkF m 33 #[.val (.int p1), .val (.int (31 : Int32))] []))
        exact J1 (p1, (31 : Int32)) (nz_no (nz_start hc1) hc5 (by decide) (by decide))
      · refine Go.st (fun _ => XS.icmpNo X0.here hx rfl (hb hby d4_22) rfl (flt hc5).1) ?_
        refine Go.st (fun _ => XS.iinc X0.here hx rfl (hb hby d4_25) rfl (l' := #[.val (.int p1), .val (.int (15 : Int32))]) rfl) ?_
        refine Go.st (fun _ => XS.iloadN X0.here hx rfl (hb hby d4_28) rfl) ?_
        refine Go.st (fun _ => XS.bipush X0.here hx rfl (hb hby d4_29)) ?_
        refine Go.st (fun _ => XS.iushr X0.here hx rfl (hb hby d4_31) rfl) ?_
        refine Go.st (fun _ => XS.istoreN X0.here hx rfl (hb hby d4_32) rfl (l' := #[.val (.int ((p1.toUInt32 >>> ((16 : Int32) &&& 31).toUInt32).toInt32)), .val (.int (15 : Int32))]) rfl) ?_
        show Go p e below _ (s₁.setTop (mkF m 33 #[.val (.int ((p1.toUInt32 >>> ((16 : Int32) &&& 31).toUInt32).toInt32)), .val (.int (15 : Int32))] []))
        exact J1 (((p1.toUInt32 >>> ((16 : Int32) &&& 31).toUInt32).toInt32), (15 : Int32)) (show own_nz p1 16 65536 ((p1.toUInt32 >>> ((16 : Int32) &&& 31).toUInt32).toInt32) (15 : Int32) from by rw [show (15 : Int32) = 31 + -16 from by decide]; exact nz_yes (j := 16) (K := 0) (q := 16) (d := -16) (c := 65536) (B' := 65536) (nz_start hc1) hc5 (by decide) (by decide) (by decide) (by decide) (by decide) (by decide) (Or.inr ⟨by decide, by decide⟩) (by decide))
  · refine Go.st (fun _ => XS.ifNo X0.here hx rfl (hb hby d4_1) rfl ((if0 _ _).trans (flt hc1).2.2.1)) ?_
    refine Go.st (fun _ => XS.iloadN X0.here hx rfl (hb hby d4_4) rfl) ?_
    by_cases hc6 : p1 = (0 : Int32)
    · refine Go.st (fun _ => XS.ifNo X0.here hx rfl (hb hby d4_5) rfl ((if0 _ _).trans (teq hc6).2)) ?_
      refine Go.st (fun _ => XS.bipush X0.here hx rfl (hb hby d4_8)) ?_
      refine Go.st (fun _ => XS.goto X0.here hx rfl (pc0 := 10) (pc' := 14) rfl (hb hby d4_10) (by decide) (by decide)) ?_
      show Go p e below _ (s₁.setTop (mkF m 14 #[.val (.int p1), .unset] [(.int (32 : Int32))]))
      exact goRetI X0 hx hlk hret e0 (hb hby d4_14) (by decide) (by decide) ⟨⟨_, rfl, nlz_zero hc6⟩, N0, rfl⟩
    · refine Go.st (fun _ => XS.ifYes X0.here hx rfl (pc0 := 5) (pc' := 13) rfl (hb hby d4_5) rfl ((if0 _ _).trans (feq hc6).2) (by decide) (by decide)) ?_
      refine Go.st (fun _ => XS.iconst X0.here hx rfl (hb hby d4_13)) ?_
      show Go p e below _ (s₁.setTop (mkF m 14 #[.val (.int p1), .unset] [(.int (0 : Int32))]))
      exact goRetI X0 hx hlk hret e0 (hb hby d4_14) (by decide) (by decide) ⟨⟨_, rfl, nlz_neg hc1 hc6⟩, N0, rfl⟩
theorem d3_0 : decode jdk_35_method_48_code 0 = .ok (.lload_n 0, 1) := by decide +kernel
theorem d3_1 : decode jdk_35_method_48_code 1 = .ok (.bipush 32, 2) := by decide +kernel
theorem d3_3 : decode jdk_35_method_48_code 3 = .ok (.lushr, 1) := by decide +kernel
theorem d3_4 : decode jdk_35_method_48_code 4 = .ok (.l2i, 1) := by decide +kernel
theorem d3_5 : decode jdk_35_method_48_code 5 = .ok (.istore_n 2, 1) := by decide +kernel
theorem d3_6 : decode jdk_35_method_48_code 6 = .ok (.iload_n 2, 1) := by decide +kernel
theorem d3_7 : decode jdk_35_method_48_code 7 = .ok (.ifCond .ne 14, 3) := by decide +kernel
theorem d3_10 : decode jdk_35_method_48_code 10 = .ok (.bipush 32, 2) := by decide +kernel
theorem d3_12 : decode jdk_35_method_48_code 12 = .ok (.lload_n 0, 1) := by decide +kernel
theorem d3_13 : decode jdk_35_method_48_code 13 = .ok (.l2i, 1) := by decide +kernel
theorem d3_14 : decode jdk_35_method_48_code 14 = .ok (.invokestatic 308, 3) := by decide +kernel
theorem d3_17 : decode jdk_35_method_48_code 17 = .ok (.iadd, 1) := by decide +kernel
theorem d3_18 : decode jdk_35_method_48_code 18 = .ok (.goto 7, 3) := by decide +kernel
theorem d3_21 : decode jdk_35_method_48_code 21 = .ok (.iload_n 2, 1) := by decide +kernel
theorem d3_22 : decode jdk_35_method_48_code 22 = .ok (.invokestatic 308, 3) := by decide +kernel
theorem d3_25 : decode jdk_35_method_48_code 25 = .ok (.ireturn, 1) := by decide +kernel
theorem pn_3 : plainName "java/lang/Long" = true := by first | (simp [plainName, overriddenIn]; done) | decide +kernel
set_option maxRecDepth 65536 in
set_option maxHeartbeats 40000000 in
theorem rmN64 (l : Launch) (Z : State) (a0 : Array Value) (hw : ∀ d ∈ tables_1, d.before a0 Z = true) (ws : List Jvm.Cond) (q1 : Int64) (h0 : Heap) (n0 : Nat) (O0 : Old Z n0 h0) :
    Ctr l (⟨"java/lang/Long", "numberOfLeadingZeros", "(J)I"⟩ : MethodName) jdk_35_method_48_code 3 (some .int) ws ({ frames := 1, cells := 0, slots := 0, locals := 24 } : Room) #[(.long q1)] Z h0 (fun v h L => (∃ z, v = some (.int z) ∧ own_nlz64 q1 z) ∧ Fr n0 L ∧ h = h0) := by
  have ef : ∀ m : MethodId, entryFrame m #[(.long q1)] 3 = mkF m 0 #[.val (.long q1), .second, .unset] [] := fun m => by first | (simp [entryFrame, mkF, argsToLocals, Value.category]; done) | rfl
  refine Ctr.of (plainFor_of_name pn_3) ?_
  intro p e s m below meth c s₁ hx hZ hby hml hown0 hnm hret hlk X0 e0
  have hown : s.vm.findClass "java/lang/Long" = some m.cls := hown0
  have N0 := Fr.nil n0
  refine Go.st (fun t k => castTop (ef m) k) ?_
  show Go p e below _ (s₁.setTop (mkF m 0 #[.val (.long q1), .second, .unset] []))
  refine Go.st (fun _ => XS.lloadN X0.here hx rfl (hb hby d3_0) rfl) ?_
  refine Go.st (fun _ => XS.bipush X0.here hx rfl (hb hby d3_1)) ?_
  refine Go.st (fun _ => XS.lushr X0.here hx rfl (hb hby d3_3) rfl) ?_
  refine Go.st (fun _ => XS.l2i X0.here hx rfl (hb hby d3_4) rfl) ?_
  refine Go.st (fun _ => XS.istoreN X0.here hx rfl (hb hby d3_5) rfl (l' := #[.val (.long q1), .second, .val (.int (((q1.toUInt64 >>> ((32 : Int32) &&& 0x3f).toInt64.toUInt64).toInt64).toInt32))]) rfl) ?_
  refine Go.st (fun _ => XS.iloadN X0.here hx rfl (hb hby d3_6) rfl) ?_
  by_cases hc1 : (((q1.toUInt64 >>> ((32 : Int32) &&& 0x3f).toInt64.toUInt64).toInt64).toInt32) = (0 : Int32)
  · refine Go.st (fun _ => XS.ifNo X0.here hx rfl (hb hby d3_7) rfl ((if0 _ _).trans (teq hc1).2)) ?_
    refine Go.st (fun _ => XS.bipush X0.here hx rfl (hb hby d3_10)) ?_
    refine Go.st (fun _ => XS.lloadN X0.here hx rfl (hb hby d3_12) rfl) ?_
    refine Go.st (fun _ => XS.l2i X0.here hx rfl (hb hby d3_13) rfl) ?_
    show Go p e below _ (s₁.setTop (mkF m 14 #[.val (.long q1), .second, .val (.int (((q1.toUInt64 >>> ((32 : Int32) &&& 0x3f).toInt64.toUInt64).toInt64).toInt32))] [(.int (q1.toInt32)), (.int (32 : Int32))]))
    refine goCallS X0 hx hZ (y := (⟨"java/lang/Integer", "numberOfLeadingZeros", "(I)I"⟩ : MethodName)) hown (hw _ (List.mem_of_getElem? (i := 33) rfl)) (hw _ (List.mem_of_getElem? (i := 34) rfl)) (hw _ (List.mem_of_getElem? (i := 35) rfl)) (hw _ (List.mem_of_getElem? (i := 36) rfl)) (by decide) (argsL := [(.int (q1.toInt32))]) (rest := [(.int (32 : Int32))]) e0 (rmN32 l Z a0 hw [] (q1.toInt32) h0 n0 O0) 1 (by decide) (by decide) (by decide) (by decide) (mkF m 14 #[.val (.long q1), .second, .val (.int (((q1.toUInt64 >>> ((32 : Int32) &&& 0x3f).toInt64.toUInt64).toInt64).toInt32))] [(.int (q1.toInt32)), (.int (32 : Int32))]) rfl (by rw [hml]; rfl) (lenOf pd_0 rfl) rfl (hb hby d3_14) (Nat.le_of_eq rfl) ?_
    intro v2 T2 L2 X2 hQ2
    obtain ⟨⟨z2, rfl, hN2⟩, M2, e2⟩ := hQ2
    have N2 := Fr.app N0 M2
    show Go p e below _ (T2.setTop (mkF m 17 #[.val (.long q1), .second, .val (.int (((q1.toUInt64 >>> ((32 : Int32) &&& 0x3f).toInt64.toUInt64).toInt64).toInt32))] [(.int z2), (.int (32 : Int32))]))
    refine Go.st (fun _ => XS.iadd X2.here hx rfl (hb hby d3_17) rfl) ?_
    refine Go.st (fun _ => XS.goto X2.here hx rfl (pc0 := 18) (pc' := 25) rfl (hb hby d3_18) (by decide) (by decide)) ?_
    show Go p e below _ (T2.setTop (mkF m 25 #[.val (.long q1), .second, .val (.int (((q1.toUInt64 >>> ((32 : Int32) &&& 0x3f).toInt64.toUInt64).toInt64).toInt32))] [(.int ((32 : Int32) + z2))]))
    exact goRetI X2 hx hlk hret e2 (hb hby d3_25) (by decide) (by decide) ⟨⟨_, rfl, nlz64_lo hc1 hN2⟩, N2, rfl⟩
  · refine Go.st (fun _ => XS.ifYes X0.here hx rfl (pc0 := 7) (pc' := 21) rfl (hb hby d3_7) rfl ((if0 _ _).trans (feq hc1).2) (by decide) (by decide)) ?_
    refine Go.st (fun _ => XS.iloadN X0.here hx rfl (hb hby d3_21) rfl) ?_
    show Go p e below _ (s₁.setTop (mkF m 22 #[.val (.long q1), .second, .val (.int (((q1.toUInt64 >>> ((32 : Int32) &&& 0x3f).toInt64.toUInt64).toInt64).toInt32))] [(.int (((q1.toUInt64 >>> ((32 : Int32) &&& 0x3f).toInt64.toUInt64).toInt64).toInt32))]))
    refine goCallS X0 hx hZ (y := (⟨"java/lang/Integer", "numberOfLeadingZeros", "(I)I"⟩ : MethodName)) hown (hw _ (List.mem_of_getElem? (i := 33) rfl)) (hw _ (List.mem_of_getElem? (i := 34) rfl)) (hw _ (List.mem_of_getElem? (i := 35) rfl)) (hw _ (List.mem_of_getElem? (i := 36) rfl)) (by decide) (argsL := [(.int (((q1.toUInt64 >>> ((32 : Int32) &&& 0x3f).toInt64.toUInt64).toInt64).toInt32))]) (rest := []) e0 (rmN32 l Z a0 hw [] (((q1.toUInt64 >>> ((32 : Int32) &&& 0x3f).toInt64.toUInt64).toInt64).toInt32) h0 n0 O0) 0 (by decide) (by decide) (by decide) (by decide) (mkF m 22 #[.val (.long q1), .second, .val (.int (((q1.toUInt64 >>> ((32 : Int32) &&& 0x3f).toInt64.toUInt64).toInt64).toInt32))] [(.int (((q1.toUInt64 >>> ((32 : Int32) &&& 0x3f).toInt64.toUInt64).toInt64).toInt32))]) rfl (by rw [hml]; rfl) (lenOf pd_0 rfl) rfl (hb hby d3_22) (Nat.le_of_eq rfl) ?_
    intro v3 T3 L3 X3 hQ3
    obtain ⟨⟨z3, rfl, hN3⟩, M3, e3⟩ := hQ3
    have N3 := Fr.app N0 M3
    show Go p e below _ (T3.setTop (mkF m 25 #[.val (.long q1), .second, .val (.int (((q1.toUInt64 >>> ((32 : Int32) &&& 0x3f).toInt64.toUInt64).toInt64).toInt32))] [(.int z3)]))
    exact goRetI X3 hx hlk hret e3 (hb hby d3_25) (by decide) (by decide) ⟨⟨_, rfl, nlz64_hi hc1 hN3⟩, N3, rfl⟩
theorem d1_0 : decode prog_137_method_1_code 0 = .ok (.aload_n 0, 1) := by decide +kernel
theorem d1_1 : decode prog_137_method_1_code 1 = .ok (.invokespecial 3, 3) := by decide +kernel
theorem d1_4 : decode prog_137_method_1_code 4 = .ok (.aload_n 0, 1) := by decide +kernel
theorem d1_5 : decode prog_137_method_1_code 5 = .ok (.iconst 1, 1) := by decide +kernel
theorem d1_6 : decode prog_137_method_1_code 6 = .ok (.anewarray 9, 3) := by decide +kernel
theorem d1_9 : decode prog_137_method_1_code 9 = .ok (.putfield 11, 3) := by decide +kernel
theorem d1_12 : decode prog_137_method_1_code 12 = .ok (.aload_n 0, 1) := by decide +kernel
theorem d1_13 : decode prog_137_method_1_code 13 = .ok (.iconst 4, 1) := by decide +kernel
theorem d1_14 : decode prog_137_method_1_code 14 = .ok (.putfield 15, 3) := by decide +kernel
theorem d1_17 : decode prog_137_method_1_code 17 = .ok (.aload_n 0, 1) := by decide +kernel
theorem d1_18 : decode prog_137_method_1_code 18 = .ok (.iconst 1, 1) := by decide +kernel
theorem d1_19 : decode prog_137_method_1_code 19 = .ok (.aload_n 0, 1) := by decide +kernel
theorem d1_20 : decode prog_137_method_1_code 20 = .ok (.getfield 15, 3) := by decide +kernel
theorem d1_23 : decode prog_137_method_1_code 23 = .ok (.ishl, 1) := by decide +kernel
theorem d1_24 : decode prog_137_method_1_code 24 = .ok (.newarray .int, 2) := by decide +kernel
theorem d1_26 : decode prog_137_method_1_code 26 = .ok (.putfield 19, 3) := by decide +kernel
theorem d1_29 : decode prog_137_method_1_code 29 = .ok (.aload_n 0, 1) := by decide +kernel
theorem d1_30 : decode prog_137_method_1_code 30 = .ok (.bipush 16, 2) := by decide +kernel
theorem d1_32 : decode prog_137_method_1_code 32 = .ok (.newarray .long, 2) := by decide +kernel
theorem d1_34 : decode prog_137_method_1_code 34 = .ok (.putfield 23, 3) := by decide +kernel
theorem d1_37 : decode prog_137_method_1_code 37 = .ok (.aload_n 0, 1) := by decide +kernel
theorem d1_38 : decode prog_137_method_1_code 38 = .ok (.bipush 16, 2) := by decide +kernel
theorem d1_40 : decode prog_137_method_1_code 40 = .ok (.newarray .int, 2) := by decide +kernel
theorem d1_42 : decode prog_137_method_1_code 42 = .ok (.putfield 26, 3) := by decide +kernel
theorem d1_45 : decode prog_137_method_1_code 45 = .ok (.aload_n 0, 1) := by decide +kernel
theorem d1_46 : decode prog_137_method_1_code 46 = .ok (.aload_n 1, 1) := by decide +kernel
theorem d1_47 : decode prog_137_method_1_code 47 = .ok (.arraylength, 1) := by decide +kernel
theorem d1_48 : decode prog_137_method_1_code 48 = .ok (.newarray .int, 2) := by decide +kernel
theorem d1_50 : decode prog_137_method_1_code 50 = .ok (.putfield 29, 3) := by decide +kernel
theorem d1_53 : decode prog_137_method_1_code 53 = .ok (.aload_n 0, 1) := by decide +kernel
theorem d1_54 : decode prog_137_method_1_code 54 = .ok (.aload_n 1, 1) := by decide +kernel
theorem d1_55 : decode prog_137_method_1_code 55 = .ok (.arraylength, 1) := by decide +kernel
theorem d1_56 : decode prog_137_method_1_code 56 = .ok (.newarray .int, 2) := by decide +kernel
theorem d1_58 : decode prog_137_method_1_code 58 = .ok (.putfield 32, 3) := by decide +kernel
theorem d1_61 : decode prog_137_method_1_code 61 = .ok (.aload_n 0, 1) := by decide +kernel
theorem d1_62 : decode prog_137_method_1_code 62 = .ok (.aload_n 1, 1) := by decide +kernel
theorem d1_63 : decode prog_137_method_1_code 63 = .ok (.arraylength, 1) := by decide +kernel
theorem d1_64 : decode prog_137_method_1_code 64 = .ok (.newarray .long, 2) := by decide +kernel
theorem d1_66 : decode prog_137_method_1_code 66 = .ok (.putfield 35, 3) := by decide +kernel
theorem d1_69 : decode prog_137_method_1_code 69 = .ok (.iconst 1, 1) := by decide +kernel
theorem d1_70 : decode prog_137_method_1_code 70 = .ok (.istore_n 2, 1) := by decide +kernel
theorem d1_71 : decode prog_137_method_1_code 71 = .ok (.iconst 0, 1) := by decide +kernel
theorem d1_72 : decode prog_137_method_1_code 72 = .ok (.istore_n 3, 1) := by decide +kernel
theorem d1_73 : decode prog_137_method_1_code 73 = .ok (.iconst 0, 1) := by decide +kernel
theorem d1_74 : decode prog_137_method_1_code 74 = .ok (.istore 4, 2) := by decide +kernel
theorem d1_76 : decode prog_137_method_1_code 76 = .ok (.iload 4, 2) := by decide +kernel
theorem d1_78 : decode prog_137_method_1_code 78 = .ok (.aload_n 1, 1) := by decide +kernel
theorem d1_79 : decode prog_137_method_1_code 79 = .ok (.arraylength, 1) := by decide +kernel
theorem d1_80 : decode prog_137_method_1_code 80 = .ok (.if_icmp .ge 73, 3) := by decide +kernel
theorem d1_83 : decode prog_137_method_1_code 83 = .ok (.bipush 64, 2) := by decide +kernel
theorem d1_85 : decode prog_137_method_1_code 85 = .ok (.aload_n 1, 1) := by decide +kernel
theorem d1_86 : decode prog_137_method_1_code 86 = .ok (.iload 4, 2) := by decide +kernel
theorem d1_88 : decode prog_137_method_1_code 88 = .ok (.laload, 1) := by decide +kernel
theorem d1_89 : decode prog_137_method_1_code 89 = .ok (.lconst 1, 1) := by decide +kernel
theorem d1_90 : decode prog_137_method_1_code 90 = .ok (.lsub, 1) := by decide +kernel
theorem d1_91 : decode prog_137_method_1_code 91 = .ok (.invokestatic 40, 3) := by decide +kernel
theorem d1_94 : decode prog_137_method_1_code 94 = .ok (.isub, 1) := by decide +kernel
theorem d1_95 : decode prog_137_method_1_code 95 = .ok (.istore 5, 2) := by decide +kernel
theorem d1_97 : decode prog_137_method_1_code 97 = .ok (.iload_n 3, 1) := by decide +kernel
theorem d1_98 : decode prog_137_method_1_code 98 = .ok (.iload 5, 2) := by decide +kernel
theorem d1_100 : decode prog_137_method_1_code 100 = .ok (.iadd, 1) := by decide +kernel
theorem d1_101 : decode prog_137_method_1_code 101 = .ok (.bipush 64, 2) := by decide +kernel
theorem d1_103 : decode prog_137_method_1_code 103 = .ok (.if_icmp .le 8, 3) := by decide +kernel
theorem d1_106 : decode prog_137_method_1_code 106 = .ok (.iinc 2 1, 3) := by decide +kernel
theorem d1_109 : decode prog_137_method_1_code 109 = .ok (.iconst 0, 1) := by decide +kernel
theorem d1_110 : decode prog_137_method_1_code 110 = .ok (.istore_n 3, 1) := by decide +kernel
theorem d1_111 : decode prog_137_method_1_code 111 = .ok (.aload_n 0, 1) := by decide +kernel
theorem d1_112 : decode prog_137_method_1_code 112 = .ok (.getfield 29, 3) := by decide +kernel
theorem d1_115 : decode prog_137_method_1_code 115 = .ok (.iload 4, 2) := by decide +kernel
theorem d1_117 : decode prog_137_method_1_code 117 = .ok (.iload_n 2, 1) := by decide +kernel
theorem d1_118 : decode prog_137_method_1_code 118 = .ok (.iconst 1, 1) := by decide +kernel
theorem d1_119 : decode prog_137_method_1_code 119 = .ok (.isub, 1) := by decide +kernel
theorem d1_120 : decode prog_137_method_1_code 120 = .ok (.iastore, 1) := by decide +kernel
theorem d1_121 : decode prog_137_method_1_code 121 = .ok (.aload_n 0, 1) := by decide +kernel
theorem d1_122 : decode prog_137_method_1_code 122 = .ok (.getfield 32, 3) := by decide +kernel
theorem d1_125 : decode prog_137_method_1_code 125 = .ok (.iload 4, 2) := by decide +kernel
theorem d1_127 : decode prog_137_method_1_code 127 = .ok (.iload_n 3, 1) := by decide +kernel
theorem d1_128 : decode prog_137_method_1_code 128 = .ok (.iastore, 1) := by decide +kernel
theorem d1_129 : decode prog_137_method_1_code 129 = .ok (.aload_n 0, 1) := by decide +kernel
theorem d1_130 : decode prog_137_method_1_code 130 = .ok (.getfield 35, 3) := by decide +kernel
theorem d1_133 : decode prog_137_method_1_code 133 = .ok (.iload 4, 2) := by decide +kernel
theorem d1_135 : decode prog_137_method_1_code 135 = .ok (.lconst 1, 1) := by decide +kernel
theorem d1_136 : decode prog_137_method_1_code 136 = .ok (.iload 5, 2) := by decide +kernel
theorem d1_138 : decode prog_137_method_1_code 138 = .ok (.lshl, 1) := by decide +kernel
theorem d1_139 : decode prog_137_method_1_code 139 = .ok (.lconst 1, 1) := by decide +kernel
theorem d1_140 : decode prog_137_method_1_code 140 = .ok (.lsub, 1) := by decide +kernel
theorem d1_141 : decode prog_137_method_1_code 141 = .ok (.lastore, 1) := by decide +kernel
theorem d1_142 : decode prog_137_method_1_code 142 = .ok (.iload_n 3, 1) := by decide +kernel
theorem d1_143 : decode prog_137_method_1_code 143 = .ok (.iload 5, 2) := by decide +kernel
theorem d1_145 : decode prog_137_method_1_code 145 = .ok (.iadd, 1) := by decide +kernel
theorem d1_146 : decode prog_137_method_1_code 146 = .ok (.istore_n 3, 1) := by decide +kernel
theorem d1_147 : decode prog_137_method_1_code 147 = .ok (.iinc 4 1, 3) := by decide +kernel
theorem d1_150 : decode prog_137_method_1_code 150 = .ok (.goto (-74), 3) := by decide +kernel
theorem d1_153 : decode prog_137_method_1_code 153 = .ok (.aload_n 0, 1) := by decide +kernel
theorem d1_154 : decode prog_137_method_1_code 154 = .ok (.iload_n 2, 1) := by decide +kernel
theorem d1_155 : decode prog_137_method_1_code 155 = .ok (.putfield 44, 3) := by decide +kernel
theorem d1_158 : decode prog_137_method_1_code 158 = .ok (.return_, 1) := by decide +kernel
theorem pn_1 : plainName "com/example/gieres/gieres/model/TupleTable" = true := by first | (simp [plainName, overriddenIn]; done) | decide +kernel
set_option maxRecDepth 65536 in
set_option maxHeartbeats 40000000 in
theorem rmTT (l : Launch) (Z : State) (a0 : Array Value) (hw : ∀ d ∈ tables_1, d.before a0 Z = true) (ws : List Jvm.Cond) (a1 a2 : Addr) (ka2 : ClassId) (t0 t1 t2 : Int64) (h0 : Heap) (n0 : Nat) (O0 : Old Z n0 h0) (A1 : Exa Z h0 a1 "com/example/gieres/gieres/model/TupleTable") (F_pages : Fld Z h0 a1 "com/example/gieres/gieres/model/TupleTable" "pages" "[[J" .null) (F_slotBits : Fld Z h0 a1 "com/example/gieres/gieres/model/TupleTable" "slotBits" "I" (.int (0 : Int32))) (F_slots : Fld Z h0 a1 "com/example/gieres/gieres/model/TupleTable" "slots" "[I" .null) (F_hashes : Fld Z h0 a1 "com/example/gieres/gieres/model/TupleTable" "hashes" "[J" .null) (F_found : Fld Z h0 a1 "com/example/gieres/gieres/model/TupleTable" "found" "[I" .null) (F_word : Fld Z h0 a1 "com/example/gieres/gieres/model/TupleTable" "word" "[I" .null) (F_shift : Fld Z h0 a1 "com/example/gieres/gieres/model/TupleTable" "shift" "[I" .null) (F_mask : Fld Z h0 a1 "com/example/gieres/gieres/model/TupleTable" "mask" "[J" .null) (F_width : Fld Z h0 a1 "com/example/gieres/gieres/model/TupleTable" "width" "I" (.int (0 : Int32))) (g1 : n0 ≤ a1) (V2 : Arv Z h0 a2 ka2 .long (3 : Int32) [(.long t0), (.long t1), (.long t2)] (.long (0 : Int64))) (ne21 : a2 ≠ a1) (ht0 : (t0 - 1).toBitVec.toNat < 2 ^ 32) (ht1 : (t1 - 1).toBitVec.toNat < 2 ^ 32) (ht2 : (t2 - 1).toBitVec.toNat < 2 ^ 32) :
    Ctr l (⟨"com/example/gieres/gieres/model/TupleTable", "<init>", "([J)V"⟩ : MethodName) prog_137_method_1_code 6 none ws ({ frames := 2, cells := 7, slots := 58, locals := 64 } : Room) #[(.ref a1), (.ref a2)] Z h0 (fun v h L => v = none ∧ Fr n0 L ∧ Keep h0 h [a1] ∧ ∃ (c0 c1 c2 w2 s2 wd : Int32) (aw as am : Addr) (kw ks km : ClassId), own_bits t0 c0 ∧ own_bits t1 c1 ∧ own_bits t2 c2 ∧ own_lay c0 c1 c2 w2 s2 wd ∧ Fld Z h a1 "com/example/gieres/gieres/model/TupleTable" "word" "[I" (.ref aw) ∧ Arv Z h aw kw .int (3 : Int32) [(.int (0 : Int32)), (.int (0 : Int32)), (.int w2)] (.int (0 : Int32)) ∧ Fld Z h a1 "com/example/gieres/gieres/model/TupleTable" "shift" "[I" (.ref as) ∧ Arv Z h as ks .int (3 : Int32) [(.int (0 : Int32)), (.int c0), (.int s2)] (.int (0 : Int32)) ∧ Fld Z h a1 "com/example/gieres/gieres/model/TupleTable" "mask" "[J" (.ref am) ∧ Arv Z h am km .long (3 : Int32) [(.long (own_mask c0)), (.long (own_mask c1)), (.long (own_mask c2))] (.long (0 : Int64)) ∧ Fld Z h a1 "com/example/gieres/gieres/model/TupleTable" "width" "I" (.int wd)) := by
  have ef : ∀ m : MethodId, entryFrame m #[(.ref a1), (.ref a2)] 6 = mkF m 0 #[.val (.ref a1), .val (.ref a2), .unset, .unset, .unset, .unset] [] := fun m => by first | (simp [entryFrame, mkF, argsToLocals, Value.category]; done) | rfl
  refine Ctr.of (plainFor_of_name pn_1) ?_
  intro p e s m below meth c s₁ hx hZ hby hml hown0 hnm hret hlk X0 e0
  have hown : s.vm.findClass "com/example/gieres/gieres/model/TupleTable" = some m.cls := hown0
  have N0 := Fr.nil n0
  refine Go.st (fun t k => castTop (ef m) k) ?_
  show Go p e below _ (s₁.setTop (mkF m 0 #[.val (.ref a1), .val (.ref a2), .unset, .unset, .unset, .unset] []))
  refine Go.st (fun _ => XS.aloadN X0.here hx rfl (hb hby d1_0) rfl rfl) ?_
  show Go p e below _ (s₁.setTop (mkF m 1 #[.val (.ref a1), .val (.ref a2), .unset, .unset, .unset, .unset] [(.ref a1)]))
  obtain ⟨T1, X1, e1, st1⟩ := initO X0 hx hZ hown (hw _ (List.mem_of_getElem? (i := 7) rfl)) (hw _ (List.mem_of_getElem? (i := 8) rfl)) (hw _ (List.mem_of_getElem? (i := 9) rfl)) e0 (g := (mkF m 1 #[.val (.ref a1), .val (.ref a2), .unset, .unset, .unset, .unset] [(.ref a1)])) rfl (by rw [hml]; rfl) rfl (hb hby d1_1) (by decide) (W := 0) (by show 2 * 0 + _ ≤ _; exact Nat.le_of_eq rfl) (by decide)
  refine Go.st st1 ?_
  show Go p e below _ (T1.setTop (mkF m 4 #[.val (.ref a1), .val (.ref a2), .unset, .unset, .unset, .unset] []))
  refine Go.st (fun _ => XS.aloadN X1.here hx rfl (hb hby d1_4) rfl rfl) ?_
  refine Go.st (fun _ => XS.iconst X1.here hx rfl (hb hby d1_5)) ?_
  show Go p e below _ (T1.setTop (mkF m 6 #[.val (.ref a1), .val (.ref a2), .unset, .unset, .unset, .unset] [(.int (1 : Int32)), (.ref a1)]))
  obtain ⟨T2, h2, k2, X2, e2, E2, A2, B2, O2, st2⟩ := newRA X1 hx hZ hown rfl (hw _ (List.mem_of_getElem? (i := 10) rfl)) (hw _ (List.mem_of_getElem? (i := 11) rfl)) e1 (g := (mkF m 6 #[.val (.ref a1), .val (.ref a2), .unset, .unset, .unset, .unset] [(.int (1 : Int32)), (.ref a1)])) rfl (hb hby d1_6) rfl (by decide) (cap := 1) (by decide) (by decide) (by decide) (by decide) (ad := "[[J") rfl
  obtain ⟨b2, g2⟩ : ∃ z, z = h0.size := ⟨_, rfl⟩
  rw [← g2] at A2 st2 B2
  refine Go.st st2 ?_
  have gn2 : n0 ≤ b2 := oldGe O0 g2
  have sz2 : h0.size ≤ b2 := Nat.le_trans (Keep.refl h0 [a1]).1 (Nat.le_of_eq g2.symm)
  have ne3 : a1 ≠ b2 := Nat.ne_of_lt (Nat.lt_of_lt_of_le A1.lt (Nat.le_of_eq g2.symm))
  have ne4 : a2 ≠ b2 := Nat.ne_of_lt (Nat.lt_of_lt_of_le V2.lt (Nat.le_of_eq g2.symm))
  have O5 : Old Z n0 h2 := O0.ext E2
  have E_6 : Exa Z h2 a1 "com/example/gieres/gieres/model/TupleTable" := A1.ext E2
  have F7 : Fld Z h2 a1 "com/example/gieres/gieres/model/TupleTable" "pages" "[[J" .null := F_pages.ext E2
  have F8 : Fld Z h2 a1 "com/example/gieres/gieres/model/TupleTable" "slotBits" "I" (.int (0 : Int32)) := F_slotBits.ext E2
  have F9 : Fld Z h2 a1 "com/example/gieres/gieres/model/TupleTable" "slots" "[I" .null := F_slots.ext E2
  have F10 : Fld Z h2 a1 "com/example/gieres/gieres/model/TupleTable" "hashes" "[J" .null := F_hashes.ext E2
  have F11 : Fld Z h2 a1 "com/example/gieres/gieres/model/TupleTable" "found" "[I" .null := F_found.ext E2
  have F12 : Fld Z h2 a1 "com/example/gieres/gieres/model/TupleTable" "word" "[I" .null := F_word.ext E2
  have F13 : Fld Z h2 a1 "com/example/gieres/gieres/model/TupleTable" "shift" "[I" .null := F_shift.ext E2
  have F14 : Fld Z h2 a1 "com/example/gieres/gieres/model/TupleTable" "mask" "[J" .null := F_mask.ext E2
  have F15 : Fld Z h2 a1 "com/example/gieres/gieres/model/TupleTable" "width" "I" (.int (0 : Int32)) := F_width.ext E2
  have V_16 : Arv Z h2 a2 ka2 .long (3 : Int32) [(.long t0), (.long t1), (.long t2)] (.long (0 : Int64)) := V2.ext E2
  have K17 : Keep h0 h2 [a1] := (Keep.refl h0 [a1]).ext E2
  have V_18 : Arv Z h2 b2 k2 (.array .long) (1 : Int32) [.null] .null := (Arv.new A2 (by decide)).pad (pad_rep [] .null 1)
  show Go p e below _ (T2.setTop (mkF m 9 #[.val (.ref a1), .val (.ref a2), .unset, .unset, .unset, .unset] [(.ref b2), (.ref a1)]))
  obtain ⟨T19, h19, X19, e19, W19, st19⟩ := putF X2 hx hZ hown (host := "") (Or.inl (hw _ (List.mem_of_getElem? (i := 12) rfl))) Via.refl e2 F7 E_6 (Or.inl (hw _ (List.mem_of_getElem? (i := 13) rfl))) (hw _ (List.mem_of_getElem? (i := 2) rfl)) (ty := (.array (.array .long))) (by decide) rfl rfl (g := (mkF m 9 #[.val (.ref a1), .val (.ref a2), .unset, .unset, .unset, .unset] [(.ref b2), (.ref a1)])) rfl rfl (hb hby d1_9)
  refine Go.st st19 ?_
  have O20 : Old Z n0 h19 := O5.wr W19 g1
  have E_21 : Exa Z h19 a1 "com/example/gieres/gieres/model/TupleTable" := E_6.wr W19
  have F22 : Fld Z h19 a1 "com/example/gieres/gieres/model/TupleTable" "slotBits" "I" (.int (0 : Int32)) := F8.other W19 (Or.inr (slot_ne (Or.inl (hw _ (List.mem_of_getElem? (i := 15) rfl))) (Or.inl (hw _ (List.mem_of_getElem? (i := 13) rfl))) (by decide) (t := .int) (t' := (.array (.array .long))) (by decide) (by decide)))
  have F23 : Fld Z h19 a1 "com/example/gieres/gieres/model/TupleTable" "slots" "[I" .null := F9.other W19 (Or.inr (slot_ne (Or.inl (hw _ (List.mem_of_getElem? (i := 18) rfl))) (Or.inl (hw _ (List.mem_of_getElem? (i := 13) rfl))) (by decide) (t := (.array .int)) (t' := (.array (.array .long))) (by decide) (by decide)))
  have F24 : Fld Z h19 a1 "com/example/gieres/gieres/model/TupleTable" "hashes" "[J" .null := F10.other W19 (Or.inr (slot_ne (Or.inl (hw _ (List.mem_of_getElem? (i := 20) rfl))) (Or.inl (hw _ (List.mem_of_getElem? (i := 13) rfl))) (by decide) (t := (.array .long)) (t' := (.array (.array .long))) (by decide) (by decide)))
  have F25 : Fld Z h19 a1 "com/example/gieres/gieres/model/TupleTable" "found" "[I" .null := F11.other W19 (Or.inr (slot_ne (Or.inl (hw _ (List.mem_of_getElem? (i := 22) rfl))) (Or.inl (hw _ (List.mem_of_getElem? (i := 13) rfl))) (by decide) (t := (.array .int)) (t' := (.array (.array .long))) (by decide) (by decide)))
  have F26 : Fld Z h19 a1 "com/example/gieres/gieres/model/TupleTable" "word" "[I" .null := F12.other W19 (Or.inr (slot_ne (Or.inr (hw _ (List.mem_of_getElem? (i := 24) rfl))) (Or.inl (hw _ (List.mem_of_getElem? (i := 13) rfl))) (by decide) (t := (.array .int)) (t' := (.array (.array .long))) (by decide) (by decide)))
  have F27 : Fld Z h19 a1 "com/example/gieres/gieres/model/TupleTable" "shift" "[I" .null := F13.other W19 (Or.inr (slot_ne (Or.inr (hw _ (List.mem_of_getElem? (i := 26) rfl))) (Or.inl (hw _ (List.mem_of_getElem? (i := 13) rfl))) (by decide) (t := (.array .int)) (t' := (.array (.array .long))) (by decide) (by decide)))
  have F28 : Fld Z h19 a1 "com/example/gieres/gieres/model/TupleTable" "mask" "[J" .null := F14.other W19 (Or.inr (slot_ne (Or.inr (hw _ (List.mem_of_getElem? (i := 28) rfl))) (Or.inl (hw _ (List.mem_of_getElem? (i := 13) rfl))) (by decide) (t := (.array .long)) (t' := (.array (.array .long))) (by decide) (by decide)))
  have F29 : Fld Z h19 a1 "com/example/gieres/gieres/model/TupleTable" "width" "I" (.int (0 : Int32)) := F15.other W19 (Or.inr (slot_ne (Or.inr (hw _ (List.mem_of_getElem? (i := 38) rfl))) (Or.inl (hw _ (List.mem_of_getElem? (i := 13) rfl))) (by decide) (t := .int) (t' := (.array (.array .long))) (by decide) (by decide)))
  have V_30 : Arv Z h19 a2 ka2 .long (3 : Int32) [(.long t0), (.long t1), (.long t2)] (.long (0 : Int64)) := V_16.other W19 ne21
  have K31 : Keep h0 h19 [a1] := K17.wr W19 (Or.inl (List.mem_of_getElem? (i := 0) rfl))
  have V_32 : Arv Z h19 b2 k2 (.array .long) (1 : Int32) [.null] .null := V_18.other W19 (Ne.symm ne3)
  have F33 : Fld Z h19 a1 "com/example/gieres/gieres/model/TupleTable" "pages" "[[J" (.ref b2) := F7.same W19
  have N19 := Fr.snoc X19 N0 g1
  show Go p e below _ (T19.setTop (mkF m 12 #[.val (.ref a1), .val (.ref a2), .unset, .unset, .unset, .unset] []))
  refine Go.st (fun _ => XS.aloadN X19.here hx rfl (hb hby d1_12) rfl rfl) ?_
  refine Go.st (fun _ => XS.iconst X19.here hx rfl (hb hby d1_13)) ?_
  show Go p e below _ (T19.setTop (mkF m 14 #[.val (.ref a1), .val (.ref a2), .unset, .unset, .unset, .unset] [(.int (4 : Int32)), (.ref a1)]))
  obtain ⟨T34, h34, X34, e34, W34, st34⟩ := putF X19 hx hZ hown (host := "") (Or.inl (hw _ (List.mem_of_getElem? (i := 14) rfl))) Via.refl e19 F22 E_21 (Or.inl (hw _ (List.mem_of_getElem? (i := 15) rfl))) (hw _ (List.mem_of_getElem? (i := 2) rfl)) (ty := .int) (by decide) rfl rfl (g := (mkF m 14 #[.val (.ref a1), .val (.ref a2), .unset, .unset, .unset, .unset] [(.int (4 : Int32)), (.ref a1)])) rfl rfl (hb hby d1_14)
  refine Go.st st34 ?_
  have O35 : Old Z n0 h34 := O20.wr W34 g1
  have E_36 : Exa Z h34 a1 "com/example/gieres/gieres/model/TupleTable" := E_21.wr W34
  have F37 : Fld Z h34 a1 "com/example/gieres/gieres/model/TupleTable" "slots" "[I" .null := F23.other W34 (Or.inr (slot_ne (Or.inl (hw _ (List.mem_of_getElem? (i := 18) rfl))) (Or.inl (hw _ (List.mem_of_getElem? (i := 15) rfl))) (by decide) (t := (.array .int)) (t' := .int) (by decide) (by decide)))
  have F38 : Fld Z h34 a1 "com/example/gieres/gieres/model/TupleTable" "hashes" "[J" .null := F24.other W34 (Or.inr (slot_ne (Or.inl (hw _ (List.mem_of_getElem? (i := 20) rfl))) (Or.inl (hw _ (List.mem_of_getElem? (i := 15) rfl))) (by decide) (t := (.array .long)) (t' := .int) (by decide) (by decide)))
  have F39 : Fld Z h34 a1 "com/example/gieres/gieres/model/TupleTable" "found" "[I" .null := F25.other W34 (Or.inr (slot_ne (Or.inl (hw _ (List.mem_of_getElem? (i := 22) rfl))) (Or.inl (hw _ (List.mem_of_getElem? (i := 15) rfl))) (by decide) (t := (.array .int)) (t' := .int) (by decide) (by decide)))
  have F40 : Fld Z h34 a1 "com/example/gieres/gieres/model/TupleTable" "word" "[I" .null := F26.other W34 (Or.inr (slot_ne (Or.inr (hw _ (List.mem_of_getElem? (i := 24) rfl))) (Or.inl (hw _ (List.mem_of_getElem? (i := 15) rfl))) (by decide) (t := (.array .int)) (t' := .int) (by decide) (by decide)))
  have F41 : Fld Z h34 a1 "com/example/gieres/gieres/model/TupleTable" "shift" "[I" .null := F27.other W34 (Or.inr (slot_ne (Or.inr (hw _ (List.mem_of_getElem? (i := 26) rfl))) (Or.inl (hw _ (List.mem_of_getElem? (i := 15) rfl))) (by decide) (t := (.array .int)) (t' := .int) (by decide) (by decide)))
  have F42 : Fld Z h34 a1 "com/example/gieres/gieres/model/TupleTable" "mask" "[J" .null := F28.other W34 (Or.inr (slot_ne (Or.inr (hw _ (List.mem_of_getElem? (i := 28) rfl))) (Or.inl (hw _ (List.mem_of_getElem? (i := 15) rfl))) (by decide) (t := (.array .long)) (t' := .int) (by decide) (by decide)))
  have F43 : Fld Z h34 a1 "com/example/gieres/gieres/model/TupleTable" "width" "I" (.int (0 : Int32)) := F29.other W34 (Or.inr (slot_ne (Or.inr (hw _ (List.mem_of_getElem? (i := 38) rfl))) (Or.inl (hw _ (List.mem_of_getElem? (i := 15) rfl))) (by decide) (t := .int) (t' := .int) (by decide) (by decide)))
  have V_44 : Arv Z h34 a2 ka2 .long (3 : Int32) [(.long t0), (.long t1), (.long t2)] (.long (0 : Int64)) := V_30.other W34 ne21
  have K45 : Keep h0 h34 [a1] := K31.wr W34 (Or.inl (List.mem_of_getElem? (i := 0) rfl))
  have F46 : Fld Z h34 a1 "com/example/gieres/gieres/model/TupleTable" "slotBits" "I" (.int (4 : Int32)) := F22.same W34
  have N34 := Fr.snoc X34 N19 g1
  show Go p e below _ (T34.setTop (mkF m 17 #[.val (.ref a1), .val (.ref a2), .unset, .unset, .unset, .unset] []))
  refine Go.st (fun _ => XS.aloadN X34.here hx rfl (hb hby d1_17) rfl rfl) ?_
  refine Go.st (fun _ => XS.iconst X34.here hx rfl (hb hby d1_18)) ?_
  refine Go.st (fun _ => XS.aloadN X34.here hx rfl (hb hby d1_19) rfl rfl) ?_
  show Go p e below _ (T34.setTop (mkF m 20 #[.val (.ref a1), .val (.ref a2), .unset, .unset, .unset, .unset] [(.ref a1), (.int (1 : Int32)), (.ref a1)]))
  obtain ⟨T47, X47, e47, st47⟩ := getF X34 hx hZ hown (host := "") (Or.inl (hw _ (List.mem_of_getElem? (i := 14) rfl))) Via.refl e34 F46 (g := (mkF m 20 #[.val (.ref a1), .val (.ref a2), .unset, .unset, .unset, .unset] [(.ref a1), (.int (1 : Int32)), (.ref a1)])) rfl rfl (hb hby d1_20)
  refine Go.st st47 ?_
  show Go p e below _ (T47.setTop (mkF m 23 #[.val (.ref a1), .val (.ref a2), .unset, .unset, .unset, .unset] [(.int (4 : Int32)), (.int (1 : Int32)), (.ref a1)]))
  refine Go.st (fun _ => XS.ishl X47.here hx rfl (hb hby d1_23) rfl) ?_
  rw [show ((1 : Int32) <<< ((4 : Int32) &&& 31)) = (16 : Int32) from by decide]
  show Go p e below _ (T47.setTop (mkF m 24 #[.val (.ref a1), .val (.ref a2), .unset, .unset, .unset, .unset] [(.int (16 : Int32)), (.ref a1)]))
  obtain ⟨T48, h48, k48, X48, e48, E48, A48, st48⟩ := newP X47 hx hZ (hw _ (List.mem_of_getElem? (i := 16) rfl)) e47 (g := (mkF m 24 #[.val (.ref a1), .val (.ref a2), .unset, .unset, .unset, .unset] [(.int (16 : Int32)), (.ref a1)])) rfl (hb hby d1_24) rfl (by decide) (cap := 16) (by decide) (by decide) (by decide) (by decide)
  obtain ⟨b48, g48⟩ : ∃ z, z = h34.size := ⟨_, rfl⟩
  rw [← g48] at A48 st48
  refine Go.st st48 ?_
  have gn48 : n0 ≤ b48 := oldGe O35 g48
  have sz48 : h0.size ≤ b48 := Nat.le_trans K45.1 (Nat.le_of_eq g48.symm)
  have ne49 : a1 ≠ b48 := Nat.ne_of_lt (Nat.lt_of_lt_of_le E_36.lt (Nat.le_of_eq g48.symm))
  have ne50 : a2 ≠ b48 := Nat.ne_of_lt (Nat.lt_of_lt_of_le V_44.lt (Nat.le_of_eq g48.symm))
  have O51 : Old Z n0 h48 := O35.ext E48
  have E_52 : Exa Z h48 a1 "com/example/gieres/gieres/model/TupleTable" := E_36.ext E48
  have F53 : Fld Z h48 a1 "com/example/gieres/gieres/model/TupleTable" "slots" "[I" .null := F37.ext E48
  have F54 : Fld Z h48 a1 "com/example/gieres/gieres/model/TupleTable" "hashes" "[J" .null := F38.ext E48
  have F55 : Fld Z h48 a1 "com/example/gieres/gieres/model/TupleTable" "found" "[I" .null := F39.ext E48
  have F56 : Fld Z h48 a1 "com/example/gieres/gieres/model/TupleTable" "word" "[I" .null := F40.ext E48
  have F57 : Fld Z h48 a1 "com/example/gieres/gieres/model/TupleTable" "shift" "[I" .null := F41.ext E48
  have F58 : Fld Z h48 a1 "com/example/gieres/gieres/model/TupleTable" "mask" "[J" .null := F42.ext E48
  have F59 : Fld Z h48 a1 "com/example/gieres/gieres/model/TupleTable" "width" "I" (.int (0 : Int32)) := F43.ext E48
  have V_60 : Arv Z h48 a2 ka2 .long (3 : Int32) [(.long t0), (.long t1), (.long t2)] (.long (0 : Int64)) := V_44.ext E48
  have K61 : Keep h0 h48 [a1] := K45.ext E48
  have F62 : Fld Z h48 a1 "com/example/gieres/gieres/model/TupleTable" "slotBits" "I" (.int (4 : Int32)) := F46.ext E48
  have V_63 : Arv Z h48 b48 k48 .int (16 : Int32) [(.int (0 : Int32)), (.int (0 : Int32)), (.int (0 : Int32)), (.int (0 : Int32)), (.int (0 : Int32)), (.int (0 : Int32)), (.int (0 : Int32)), (.int (0 : Int32)), (.int (0 : Int32)), (.int (0 : Int32)), (.int (0 : Int32)), (.int (0 : Int32)), (.int (0 : Int32)), (.int (0 : Int32)), (.int (0 : Int32)), (.int (0 : Int32))] (.int (0 : Int32)) := (Arv.new A48 (by decide)).pad (pad_rep [] (.int (0 : Int32)) 16)
  show Go p e below _ (T48.setTop (mkF m 26 #[.val (.ref a1), .val (.ref a2), .unset, .unset, .unset, .unset] [(.ref b48), (.ref a1)]))
  obtain ⟨T64, h64, X64, e64, W64, st64⟩ := putF X48 hx hZ hown (host := "") (Or.inl (hw _ (List.mem_of_getElem? (i := 17) rfl))) Via.refl e48 F53 E_52 (Or.inl (hw _ (List.mem_of_getElem? (i := 18) rfl))) (hw _ (List.mem_of_getElem? (i := 2) rfl)) (ty := (.array .int)) (by decide) rfl rfl (g := (mkF m 26 #[.val (.ref a1), .val (.ref a2), .unset, .unset, .unset, .unset] [(.ref b48), (.ref a1)])) rfl rfl (hb hby d1_26)
  refine Go.st st64 ?_
  have O65 : Old Z n0 h64 := O51.wr W64 g1
  have E_66 : Exa Z h64 a1 "com/example/gieres/gieres/model/TupleTable" := E_52.wr W64
  have F67 : Fld Z h64 a1 "com/example/gieres/gieres/model/TupleTable" "hashes" "[J" .null := F54.other W64 (Or.inr (slot_ne (Or.inl (hw _ (List.mem_of_getElem? (i := 20) rfl))) (Or.inl (hw _ (List.mem_of_getElem? (i := 18) rfl))) (by decide) (t := (.array .long)) (t' := (.array .int)) (by decide) (by decide)))
  have F68 : Fld Z h64 a1 "com/example/gieres/gieres/model/TupleTable" "found" "[I" .null := F55.other W64 (Or.inr (slot_ne (Or.inl (hw _ (List.mem_of_getElem? (i := 22) rfl))) (Or.inl (hw _ (List.mem_of_getElem? (i := 18) rfl))) (by decide) (t := (.array .int)) (t' := (.array .int)) (by decide) (by decide)))
  have F69 : Fld Z h64 a1 "com/example/gieres/gieres/model/TupleTable" "word" "[I" .null := F56.other W64 (Or.inr (slot_ne (Or.inr (hw _ (List.mem_of_getElem? (i := 24) rfl))) (Or.inl (hw _ (List.mem_of_getElem? (i := 18) rfl))) (by decide) (t := (.array .int)) (t' := (.array .int)) (by decide) (by decide)))
  have F70 : Fld Z h64 a1 "com/example/gieres/gieres/model/TupleTable" "shift" "[I" .null := F57.other W64 (Or.inr (slot_ne (Or.inr (hw _ (List.mem_of_getElem? (i := 26) rfl))) (Or.inl (hw _ (List.mem_of_getElem? (i := 18) rfl))) (by decide) (t := (.array .int)) (t' := (.array .int)) (by decide) (by decide)))
  have F71 : Fld Z h64 a1 "com/example/gieres/gieres/model/TupleTable" "mask" "[J" .null := F58.other W64 (Or.inr (slot_ne (Or.inr (hw _ (List.mem_of_getElem? (i := 28) rfl))) (Or.inl (hw _ (List.mem_of_getElem? (i := 18) rfl))) (by decide) (t := (.array .long)) (t' := (.array .int)) (by decide) (by decide)))
  have F72 : Fld Z h64 a1 "com/example/gieres/gieres/model/TupleTable" "width" "I" (.int (0 : Int32)) := F59.other W64 (Or.inr (slot_ne (Or.inr (hw _ (List.mem_of_getElem? (i := 38) rfl))) (Or.inl (hw _ (List.mem_of_getElem? (i := 18) rfl))) (by decide) (t := .int) (t' := (.array .int)) (by decide) (by decide)))
  have V_73 : Arv Z h64 a2 ka2 .long (3 : Int32) [(.long t0), (.long t1), (.long t2)] (.long (0 : Int64)) := V_60.other W64 ne21
  have K74 : Keep h0 h64 [a1] := K61.wr W64 (Or.inl (List.mem_of_getElem? (i := 0) rfl))
  have F75 : Fld Z h64 a1 "com/example/gieres/gieres/model/TupleTable" "slotBits" "I" (.int (4 : Int32)) := F62.other W64 (Or.inr (slot_ne (Or.inl (hw _ (List.mem_of_getElem? (i := 15) rfl))) (Or.inl (hw _ (List.mem_of_getElem? (i := 18) rfl))) (by decide) (t := .int) (t' := (.array .int)) (by decide) (by decide)))
  have V_76 : Arv Z h64 b48 k48 .int (16 : Int32) [(.int (0 : Int32)), (.int (0 : Int32)), (.int (0 : Int32)), (.int (0 : Int32)), (.int (0 : Int32)), (.int (0 : Int32)), (.int (0 : Int32)), (.int (0 : Int32)), (.int (0 : Int32)), (.int (0 : Int32)), (.int (0 : Int32)), (.int (0 : Int32)), (.int (0 : Int32)), (.int (0 : Int32)), (.int (0 : Int32)), (.int (0 : Int32))] (.int (0 : Int32)) := V_63.other W64 (Ne.symm ne49)
  have F77 : Fld Z h64 a1 "com/example/gieres/gieres/model/TupleTable" "slots" "[I" (.ref b48) := F53.same W64
  have N64 := Fr.snoc X64 N34 g1
  show Go p e below _ (T64.setTop (mkF m 29 #[.val (.ref a1), .val (.ref a2), .unset, .unset, .unset, .unset] []))
  refine Go.st (fun _ => XS.aloadN X64.here hx rfl (hb hby d1_29) rfl rfl) ?_
  refine Go.st (fun _ => XS.bipush X64.here hx rfl (hb hby d1_30)) ?_
  show Go p e below _ (T64.setTop (mkF m 32 #[.val (.ref a1), .val (.ref a2), .unset, .unset, .unset, .unset] [(.int (16 : Int32)), (.ref a1)]))
  obtain ⟨T78, h78, k78, X78, e78, E78, A78, st78⟩ := newP X64 hx hZ (hw _ (List.mem_of_getElem? (i := 0) rfl)) e64 (g := (mkF m 32 #[.val (.ref a1), .val (.ref a2), .unset, .unset, .unset, .unset] [(.int (16 : Int32)), (.ref a1)])) rfl (hb hby d1_32) rfl (by decide) (cap := 16) (by decide) (by decide) (by decide) (by decide)
  obtain ⟨b78, g78⟩ : ∃ z, z = h64.size := ⟨_, rfl⟩
  rw [← g78] at A78 st78
  refine Go.st st78 ?_
  have gn78 : n0 ≤ b78 := oldGe O65 g78
  have sz78 : h0.size ≤ b78 := Nat.le_trans K74.1 (Nat.le_of_eq g78.symm)
  have ne79 : a1 ≠ b78 := Nat.ne_of_lt (Nat.lt_of_lt_of_le E_66.lt (Nat.le_of_eq g78.symm))
  have ne80 : a2 ≠ b78 := Nat.ne_of_lt (Nat.lt_of_lt_of_le V_73.lt (Nat.le_of_eq g78.symm))
  have O81 : Old Z n0 h78 := O65.ext E78
  have E_82 : Exa Z h78 a1 "com/example/gieres/gieres/model/TupleTable" := E_66.ext E78
  have F83 : Fld Z h78 a1 "com/example/gieres/gieres/model/TupleTable" "hashes" "[J" .null := F67.ext E78
  have F84 : Fld Z h78 a1 "com/example/gieres/gieres/model/TupleTable" "found" "[I" .null := F68.ext E78
  have F85 : Fld Z h78 a1 "com/example/gieres/gieres/model/TupleTable" "word" "[I" .null := F69.ext E78
  have F86 : Fld Z h78 a1 "com/example/gieres/gieres/model/TupleTable" "shift" "[I" .null := F70.ext E78
  have F87 : Fld Z h78 a1 "com/example/gieres/gieres/model/TupleTable" "mask" "[J" .null := F71.ext E78
  have F88 : Fld Z h78 a1 "com/example/gieres/gieres/model/TupleTable" "width" "I" (.int (0 : Int32)) := F72.ext E78
  have V_89 : Arv Z h78 a2 ka2 .long (3 : Int32) [(.long t0), (.long t1), (.long t2)] (.long (0 : Int64)) := V_73.ext E78
  have K90 : Keep h0 h78 [a1] := K74.ext E78
  have V_91 : Arv Z h78 b78 k78 .long (16 : Int32) [(.long (0 : Int64)), (.long (0 : Int64)), (.long (0 : Int64)), (.long (0 : Int64)), (.long (0 : Int64)), (.long (0 : Int64)), (.long (0 : Int64)), (.long (0 : Int64)), (.long (0 : Int64)), (.long (0 : Int64)), (.long (0 : Int64)), (.long (0 : Int64)), (.long (0 : Int64)), (.long (0 : Int64)), (.long (0 : Int64)), (.long (0 : Int64))] (.long (0 : Int64)) := (Arv.new A78 (by decide)).pad (pad_rep [] (.long (0 : Int64)) 16)
  show Go p e below _ (T78.setTop (mkF m 34 #[.val (.ref a1), .val (.ref a2), .unset, .unset, .unset, .unset] [(.ref b78), (.ref a1)]))
  obtain ⟨T92, h92, X92, e92, W92, st92⟩ := putF X78 hx hZ hown (host := "") (Or.inl (hw _ (List.mem_of_getElem? (i := 19) rfl))) Via.refl e78 F83 E_82 (Or.inl (hw _ (List.mem_of_getElem? (i := 20) rfl))) (hw _ (List.mem_of_getElem? (i := 2) rfl)) (ty := (.array .long)) (by decide) rfl rfl (g := (mkF m 34 #[.val (.ref a1), .val (.ref a2), .unset, .unset, .unset, .unset] [(.ref b78), (.ref a1)])) rfl rfl (hb hby d1_34)
  refine Go.st st92 ?_
  have O93 : Old Z n0 h92 := O81.wr W92 g1
  have E_94 : Exa Z h92 a1 "com/example/gieres/gieres/model/TupleTable" := E_82.wr W92
  have F95 : Fld Z h92 a1 "com/example/gieres/gieres/model/TupleTable" "found" "[I" .null := F84.other W92 (Or.inr (slot_ne (Or.inl (hw _ (List.mem_of_getElem? (i := 22) rfl))) (Or.inl (hw _ (List.mem_of_getElem? (i := 20) rfl))) (by decide) (t := (.array .int)) (t' := (.array .long)) (by decide) (by decide)))
  have F96 : Fld Z h92 a1 "com/example/gieres/gieres/model/TupleTable" "word" "[I" .null := F85.other W92 (Or.inr (slot_ne (Or.inr (hw _ (List.mem_of_getElem? (i := 24) rfl))) (Or.inl (hw _ (List.mem_of_getElem? (i := 20) rfl))) (by decide) (t := (.array .int)) (t' := (.array .long)) (by decide) (by decide)))
  have F97 : Fld Z h92 a1 "com/example/gieres/gieres/model/TupleTable" "shift" "[I" .null := F86.other W92 (Or.inr (slot_ne (Or.inr (hw _ (List.mem_of_getElem? (i := 26) rfl))) (Or.inl (hw _ (List.mem_of_getElem? (i := 20) rfl))) (by decide) (t := (.array .int)) (t' := (.array .long)) (by decide) (by decide)))
  have F98 : Fld Z h92 a1 "com/example/gieres/gieres/model/TupleTable" "mask" "[J" .null := F87.other W92 (Or.inr (slot_ne (Or.inr (hw _ (List.mem_of_getElem? (i := 28) rfl))) (Or.inl (hw _ (List.mem_of_getElem? (i := 20) rfl))) (by decide) (t := (.array .long)) (t' := (.array .long)) (by decide) (by decide)))
  have F99 : Fld Z h92 a1 "com/example/gieres/gieres/model/TupleTable" "width" "I" (.int (0 : Int32)) := F88.other W92 (Or.inr (slot_ne (Or.inr (hw _ (List.mem_of_getElem? (i := 38) rfl))) (Or.inl (hw _ (List.mem_of_getElem? (i := 20) rfl))) (by decide) (t := .int) (t' := (.array .long)) (by decide) (by decide)))
  have V_100 : Arv Z h92 a2 ka2 .long (3 : Int32) [(.long t0), (.long t1), (.long t2)] (.long (0 : Int64)) := V_89.other W92 ne21
  have K101 : Keep h0 h92 [a1] := K90.wr W92 (Or.inl (List.mem_of_getElem? (i := 0) rfl))
  have V_102 : Arv Z h92 b78 k78 .long (16 : Int32) [(.long (0 : Int64)), (.long (0 : Int64)), (.long (0 : Int64)), (.long (0 : Int64)), (.long (0 : Int64)), (.long (0 : Int64)), (.long (0 : Int64)), (.long (0 : Int64)), (.long (0 : Int64)), (.long (0 : Int64)), (.long (0 : Int64)), (.long (0 : Int64)), (.long (0 : Int64)), (.long (0 : Int64)), (.long (0 : Int64)), (.long (0 : Int64))] (.long (0 : Int64)) := V_91.other W92 (Ne.symm ne79)
  have F103 : Fld Z h92 a1 "com/example/gieres/gieres/model/TupleTable" "hashes" "[J" (.ref b78) := F83.same W92
  have N92 := Fr.snoc X92 N64 g1
  show Go p e below _ (T92.setTop (mkF m 37 #[.val (.ref a1), .val (.ref a2), .unset, .unset, .unset, .unset] []))
  refine Go.st (fun _ => XS.aloadN X92.here hx rfl (hb hby d1_37) rfl rfl) ?_
  refine Go.st (fun _ => XS.bipush X92.here hx rfl (hb hby d1_38)) ?_
  show Go p e below _ (T92.setTop (mkF m 40 #[.val (.ref a1), .val (.ref a2), .unset, .unset, .unset, .unset] [(.int (16 : Int32)), (.ref a1)]))
  obtain ⟨T104, h104, k104, X104, e104, E104, A104, st104⟩ := newP X92 hx hZ (hw _ (List.mem_of_getElem? (i := 16) rfl)) e92 (g := (mkF m 40 #[.val (.ref a1), .val (.ref a2), .unset, .unset, .unset, .unset] [(.int (16 : Int32)), (.ref a1)])) rfl (hb hby d1_40) rfl (by decide) (cap := 16) (by decide) (by decide) (by decide) (by decide)
  obtain ⟨b104, g104⟩ : ∃ z, z = h92.size := ⟨_, rfl⟩
  rw [← g104] at A104 st104
  refine Go.st st104 ?_
  have gn104 : n0 ≤ b104 := oldGe O93 g104
  have sz104 : h0.size ≤ b104 := Nat.le_trans K101.1 (Nat.le_of_eq g104.symm)
  have ne105 : a1 ≠ b104 := Nat.ne_of_lt (Nat.lt_of_lt_of_le E_94.lt (Nat.le_of_eq g104.symm))
  have ne106 : a2 ≠ b104 := Nat.ne_of_lt (Nat.lt_of_lt_of_le V_100.lt (Nat.le_of_eq g104.symm))
  have O107 : Old Z n0 h104 := O93.ext E104
  have E_108 : Exa Z h104 a1 "com/example/gieres/gieres/model/TupleTable" := E_94.ext E104
  have F109 : Fld Z h104 a1 "com/example/gieres/gieres/model/TupleTable" "found" "[I" .null := F95.ext E104
  have F110 : Fld Z h104 a1 "com/example/gieres/gieres/model/TupleTable" "word" "[I" .null := F96.ext E104
  have F111 : Fld Z h104 a1 "com/example/gieres/gieres/model/TupleTable" "shift" "[I" .null := F97.ext E104
  have F112 : Fld Z h104 a1 "com/example/gieres/gieres/model/TupleTable" "mask" "[J" .null := F98.ext E104
  have F113 : Fld Z h104 a1 "com/example/gieres/gieres/model/TupleTable" "width" "I" (.int (0 : Int32)) := F99.ext E104
  have V_114 : Arv Z h104 a2 ka2 .long (3 : Int32) [(.long t0), (.long t1), (.long t2)] (.long (0 : Int64)) := V_100.ext E104
  have K115 : Keep h0 h104 [a1] := K101.ext E104
  have V_116 : Arv Z h104 b104 k104 .int (16 : Int32) [(.int (0 : Int32)), (.int (0 : Int32)), (.int (0 : Int32)), (.int (0 : Int32)), (.int (0 : Int32)), (.int (0 : Int32)), (.int (0 : Int32)), (.int (0 : Int32)), (.int (0 : Int32)), (.int (0 : Int32)), (.int (0 : Int32)), (.int (0 : Int32)), (.int (0 : Int32)), (.int (0 : Int32)), (.int (0 : Int32)), (.int (0 : Int32))] (.int (0 : Int32)) := (Arv.new A104 (by decide)).pad (pad_rep [] (.int (0 : Int32)) 16)
  show Go p e below _ (T104.setTop (mkF m 42 #[.val (.ref a1), .val (.ref a2), .unset, .unset, .unset, .unset] [(.ref b104), (.ref a1)]))
  obtain ⟨T117, h117, X117, e117, W117, st117⟩ := putF X104 hx hZ hown (host := "") (Or.inl (hw _ (List.mem_of_getElem? (i := 21) rfl))) Via.refl e104 F109 E_108 (Or.inl (hw _ (List.mem_of_getElem? (i := 22) rfl))) (hw _ (List.mem_of_getElem? (i := 2) rfl)) (ty := (.array .int)) (by decide) rfl rfl (g := (mkF m 42 #[.val (.ref a1), .val (.ref a2), .unset, .unset, .unset, .unset] [(.ref b104), (.ref a1)])) rfl rfl (hb hby d1_42)
  refine Go.st st117 ?_
  have O118 : Old Z n0 h117 := O107.wr W117 g1
  have E_119 : Exa Z h117 a1 "com/example/gieres/gieres/model/TupleTable" := E_108.wr W117
  have F120 : Fld Z h117 a1 "com/example/gieres/gieres/model/TupleTable" "word" "[I" .null := F110.other W117 (Or.inr (slot_ne (Or.inr (hw _ (List.mem_of_getElem? (i := 24) rfl))) (Or.inl (hw _ (List.mem_of_getElem? (i := 22) rfl))) (by decide) (t := (.array .int)) (t' := (.array .int)) (by decide) (by decide)))
  have F121 : Fld Z h117 a1 "com/example/gieres/gieres/model/TupleTable" "shift" "[I" .null := F111.other W117 (Or.inr (slot_ne (Or.inr (hw _ (List.mem_of_getElem? (i := 26) rfl))) (Or.inl (hw _ (List.mem_of_getElem? (i := 22) rfl))) (by decide) (t := (.array .int)) (t' := (.array .int)) (by decide) (by decide)))
  have F122 : Fld Z h117 a1 "com/example/gieres/gieres/model/TupleTable" "mask" "[J" .null := F112.other W117 (Or.inr (slot_ne (Or.inr (hw _ (List.mem_of_getElem? (i := 28) rfl))) (Or.inl (hw _ (List.mem_of_getElem? (i := 22) rfl))) (by decide) (t := (.array .long)) (t' := (.array .int)) (by decide) (by decide)))
  have F123 : Fld Z h117 a1 "com/example/gieres/gieres/model/TupleTable" "width" "I" (.int (0 : Int32)) := F113.other W117 (Or.inr (slot_ne (Or.inr (hw _ (List.mem_of_getElem? (i := 38) rfl))) (Or.inl (hw _ (List.mem_of_getElem? (i := 22) rfl))) (by decide) (t := .int) (t' := (.array .int)) (by decide) (by decide)))
  have V_124 : Arv Z h117 a2 ka2 .long (3 : Int32) [(.long t0), (.long t1), (.long t2)] (.long (0 : Int64)) := V_114.other W117 ne21
  have K125 : Keep h0 h117 [a1] := K115.wr W117 (Or.inl (List.mem_of_getElem? (i := 0) rfl))
  have V_126 : Arv Z h117 b104 k104 .int (16 : Int32) [(.int (0 : Int32)), (.int (0 : Int32)), (.int (0 : Int32)), (.int (0 : Int32)), (.int (0 : Int32)), (.int (0 : Int32)), (.int (0 : Int32)), (.int (0 : Int32)), (.int (0 : Int32)), (.int (0 : Int32)), (.int (0 : Int32)), (.int (0 : Int32)), (.int (0 : Int32)), (.int (0 : Int32)), (.int (0 : Int32)), (.int (0 : Int32))] (.int (0 : Int32)) := V_116.other W117 (Ne.symm ne105)
  have F127 : Fld Z h117 a1 "com/example/gieres/gieres/model/TupleTable" "found" "[I" (.ref b104) := F109.same W117
  have N117 := Fr.snoc X117 N92 g1
  show Go p e below _ (T117.setTop (mkF m 45 #[.val (.ref a1), .val (.ref a2), .unset, .unset, .unset, .unset] []))
  refine Go.st (fun _ => XS.aloadN X117.here hx rfl (hb hby d1_45) rfl rfl) ?_
  refine Go.st (fun _ => XS.aloadN X117.here hx rfl (hb hby d1_46) rfl rfl) ?_
  show Go p e below _ (T117.setTop (mkF m 47 #[.val (.ref a1), .val (.ref a2), .unset, .unset, .unset, .unset] [(.ref a2), (.ref a1)]))
  obtain ⟨cl128, Ar128, qk128, Sz128, Nn128, Ha128, Ga128⟩ := id V_124
  refine Go.st (fun _ => X117.arraylength hx (by rw [e117]; exact Ar128.1) (State.isArrayOf_alike hZ.alike Ar128.2.1) (g := (mkF m 47 #[.val (.ref a1), .val (.ref a2), .unset, .unset, .unset, .unset] [(.ref a2), (.ref a1)])) rfl rfl (hb hby d1_47) _) ?_
  rw [len_of Sz128 Nn128]
  show Go p e below _ (T117.setTop (mkF m 48 #[.val (.ref a1), .val (.ref a2), .unset, .unset, .unset, .unset] [(.int (3 : Int32)), (.ref a1)]))
  obtain ⟨T129, h129, k129, X129, e129, E129, A129, st129⟩ := newP X117 hx hZ (hw _ (List.mem_of_getElem? (i := 16) rfl)) e117 (g := (mkF m 48 #[.val (.ref a1), .val (.ref a2), .unset, .unset, .unset, .unset] [(.int (3 : Int32)), (.ref a1)])) rfl (hb hby d1_48) rfl (by decide) (cap := 3) (by decide) (by decide) (by decide) (by decide)
  obtain ⟨b129, g129⟩ : ∃ z, z = h117.size := ⟨_, rfl⟩
  rw [← g129] at A129 st129
  refine Go.st st129 ?_
  have gn129 : n0 ≤ b129 := oldGe O118 g129
  have sz129 : h0.size ≤ b129 := Nat.le_trans K125.1 (Nat.le_of_eq g129.symm)
  have ne130 : a1 ≠ b129 := Nat.ne_of_lt (Nat.lt_of_lt_of_le E_119.lt (Nat.le_of_eq g129.symm))
  have ne131 : a2 ≠ b129 := Nat.ne_of_lt (Nat.lt_of_lt_of_le V_124.lt (Nat.le_of_eq g129.symm))
  have O132 : Old Z n0 h129 := O118.ext E129
  have E_133 : Exa Z h129 a1 "com/example/gieres/gieres/model/TupleTable" := E_119.ext E129
  have F134 : Fld Z h129 a1 "com/example/gieres/gieres/model/TupleTable" "word" "[I" .null := F120.ext E129
  have F135 : Fld Z h129 a1 "com/example/gieres/gieres/model/TupleTable" "shift" "[I" .null := F121.ext E129
  have F136 : Fld Z h129 a1 "com/example/gieres/gieres/model/TupleTable" "mask" "[J" .null := F122.ext E129
  have F137 : Fld Z h129 a1 "com/example/gieres/gieres/model/TupleTable" "width" "I" (.int (0 : Int32)) := F123.ext E129
  have V_138 : Arv Z h129 a2 ka2 .long (3 : Int32) [(.long t0), (.long t1), (.long t2)] (.long (0 : Int64)) := V_124.ext E129
  have K139 : Keep h0 h129 [a1] := K125.ext E129
  have V_140 : Arv Z h129 b129 k129 .int (3 : Int32) [(.int (0 : Int32)), (.int (0 : Int32)), (.int (0 : Int32))] (.int (0 : Int32)) := (Arv.new A129 (by decide)).pad (pad_rep [] (.int (0 : Int32)) 3)
  show Go p e below _ (T129.setTop (mkF m 50 #[.val (.ref a1), .val (.ref a2), .unset, .unset, .unset, .unset] [(.ref b129), (.ref a1)]))
  obtain ⟨T141, h141, X141, e141, W141, st141⟩ := putF X129 hx hZ hown (host := "") (Or.inl (hw _ (List.mem_of_getElem? (i := 23) rfl))) Via.refl e129 F134 E_133 (Or.inr ⟨(hw _ (List.mem_of_getElem? (i := 24) rfl)), rfl, hnm⟩) (hw _ (List.mem_of_getElem? (i := 2) rfl)) (ty := (.array .int)) (by decide) rfl rfl (g := (mkF m 50 #[.val (.ref a1), .val (.ref a2), .unset, .unset, .unset, .unset] [(.ref b129), (.ref a1)])) rfl rfl (hb hby d1_50)
  refine Go.st st141 ?_
  have O142 : Old Z n0 h141 := O132.wr W141 g1
  have E_143 : Exa Z h141 a1 "com/example/gieres/gieres/model/TupleTable" := E_133.wr W141
  have F144 : Fld Z h141 a1 "com/example/gieres/gieres/model/TupleTable" "shift" "[I" .null := F135.other W141 (Or.inr (slot_ne (Or.inr (hw _ (List.mem_of_getElem? (i := 26) rfl))) (Or.inr (hw _ (List.mem_of_getElem? (i := 24) rfl))) (by decide) (t := (.array .int)) (t' := (.array .int)) (by decide) (by decide)))
  have F145 : Fld Z h141 a1 "com/example/gieres/gieres/model/TupleTable" "mask" "[J" .null := F136.other W141 (Or.inr (slot_ne (Or.inr (hw _ (List.mem_of_getElem? (i := 28) rfl))) (Or.inr (hw _ (List.mem_of_getElem? (i := 24) rfl))) (by decide) (t := (.array .long)) (t' := (.array .int)) (by decide) (by decide)))
  have F146 : Fld Z h141 a1 "com/example/gieres/gieres/model/TupleTable" "width" "I" (.int (0 : Int32)) := F137.other W141 (Or.inr (slot_ne (Or.inr (hw _ (List.mem_of_getElem? (i := 38) rfl))) (Or.inr (hw _ (List.mem_of_getElem? (i := 24) rfl))) (by decide) (t := .int) (t' := (.array .int)) (by decide) (by decide)))
  have V_147 : Arv Z h141 a2 ka2 .long (3 : Int32) [(.long t0), (.long t1), (.long t2)] (.long (0 : Int64)) := V_138.other W141 ne21
  have K148 : Keep h0 h141 [a1] := K139.wr W141 (Or.inl (List.mem_of_getElem? (i := 0) rfl))
  have V_149 : Arv Z h141 b129 k129 .int (3 : Int32) [(.int (0 : Int32)), (.int (0 : Int32)), (.int (0 : Int32))] (.int (0 : Int32)) := V_140.other W141 (Ne.symm ne130)
  have F150 : Fld Z h141 a1 "com/example/gieres/gieres/model/TupleTable" "word" "[I" (.ref b129) := F134.same W141
  have N141 := Fr.snoc X141 N117 g1
  show Go p e below _ (T141.setTop (mkF m 53 #[.val (.ref a1), .val (.ref a2), .unset, .unset, .unset, .unset] []))
  refine Go.st (fun _ => XS.aloadN X141.here hx rfl (hb hby d1_53) rfl rfl) ?_
  refine Go.st (fun _ => XS.aloadN X141.here hx rfl (hb hby d1_54) rfl rfl) ?_
  show Go p e below _ (T141.setTop (mkF m 55 #[.val (.ref a1), .val (.ref a2), .unset, .unset, .unset, .unset] [(.ref a2), (.ref a1)]))
  obtain ⟨cl151, Ar151, qk151, Sz151, Nn151, Ha151, Ga151⟩ := id V_147
  refine Go.st (fun _ => X141.arraylength hx (by rw [e141]; exact Ar151.1) (State.isArrayOf_alike hZ.alike Ar151.2.1) (g := (mkF m 55 #[.val (.ref a1), .val (.ref a2), .unset, .unset, .unset, .unset] [(.ref a2), (.ref a1)])) rfl rfl (hb hby d1_55) _) ?_
  rw [len_of Sz151 Nn151]
  show Go p e below _ (T141.setTop (mkF m 56 #[.val (.ref a1), .val (.ref a2), .unset, .unset, .unset, .unset] [(.int (3 : Int32)), (.ref a1)]))
  obtain ⟨T152, h152, k152, X152, e152, E152, A152, st152⟩ := newP X141 hx hZ (hw _ (List.mem_of_getElem? (i := 16) rfl)) e141 (g := (mkF m 56 #[.val (.ref a1), .val (.ref a2), .unset, .unset, .unset, .unset] [(.int (3 : Int32)), (.ref a1)])) rfl (hb hby d1_56) rfl (by decide) (cap := 3) (by decide) (by decide) (by decide) (by decide)
  obtain ⟨b152, g152⟩ : ∃ z, z = h141.size := ⟨_, rfl⟩
  rw [← g152] at A152 st152
  refine Go.st st152 ?_
  have gn152 : n0 ≤ b152 := oldGe O142 g152
  have sz152 : h0.size ≤ b152 := Nat.le_trans K148.1 (Nat.le_of_eq g152.symm)
  have ne153 : a1 ≠ b152 := Nat.ne_of_lt (Nat.lt_of_lt_of_le E_143.lt (Nat.le_of_eq g152.symm))
  have ne154 : a2 ≠ b152 := Nat.ne_of_lt (Nat.lt_of_lt_of_le V_147.lt (Nat.le_of_eq g152.symm))
  have ne155 : b129 ≠ b152 := Nat.ne_of_lt (Nat.lt_of_lt_of_le V_149.lt (Nat.le_of_eq g152.symm))
  have O156 : Old Z n0 h152 := O142.ext E152
  have E_157 : Exa Z h152 a1 "com/example/gieres/gieres/model/TupleTable" := E_143.ext E152
  have F158 : Fld Z h152 a1 "com/example/gieres/gieres/model/TupleTable" "shift" "[I" .null := F144.ext E152
  have F159 : Fld Z h152 a1 "com/example/gieres/gieres/model/TupleTable" "mask" "[J" .null := F145.ext E152
  have F160 : Fld Z h152 a1 "com/example/gieres/gieres/model/TupleTable" "width" "I" (.int (0 : Int32)) := F146.ext E152
  have V_161 : Arv Z h152 a2 ka2 .long (3 : Int32) [(.long t0), (.long t1), (.long t2)] (.long (0 : Int64)) := V_147.ext E152
  have K162 : Keep h0 h152 [a1] := K148.ext E152
  have V_163 : Arv Z h152 b129 k129 .int (3 : Int32) [(.int (0 : Int32)), (.int (0 : Int32)), (.int (0 : Int32))] (.int (0 : Int32)) := V_149.ext E152
  have F164 : Fld Z h152 a1 "com/example/gieres/gieres/model/TupleTable" "word" "[I" (.ref b129) := F150.ext E152
  have V_165 : Arv Z h152 b152 k152 .int (3 : Int32) [(.int (0 : Int32)), (.int (0 : Int32)), (.int (0 : Int32))] (.int (0 : Int32)) := (Arv.new A152 (by decide)).pad (pad_rep [] (.int (0 : Int32)) 3)
  show Go p e below _ (T152.setTop (mkF m 58 #[.val (.ref a1), .val (.ref a2), .unset, .unset, .unset, .unset] [(.ref b152), (.ref a1)]))
  obtain ⟨T166, h166, X166, e166, W166, st166⟩ := putF X152 hx hZ hown (host := "") (Or.inl (hw _ (List.mem_of_getElem? (i := 25) rfl))) Via.refl e152 F158 E_157 (Or.inr ⟨(hw _ (List.mem_of_getElem? (i := 26) rfl)), rfl, hnm⟩) (hw _ (List.mem_of_getElem? (i := 2) rfl)) (ty := (.array .int)) (by decide) rfl rfl (g := (mkF m 58 #[.val (.ref a1), .val (.ref a2), .unset, .unset, .unset, .unset] [(.ref b152), (.ref a1)])) rfl rfl (hb hby d1_58)
  refine Go.st st166 ?_
  have O167 : Old Z n0 h166 := O156.wr W166 g1
  have E_168 : Exa Z h166 a1 "com/example/gieres/gieres/model/TupleTable" := E_157.wr W166
  have F169 : Fld Z h166 a1 "com/example/gieres/gieres/model/TupleTable" "mask" "[J" .null := F159.other W166 (Or.inr (slot_ne (Or.inr (hw _ (List.mem_of_getElem? (i := 28) rfl))) (Or.inr (hw _ (List.mem_of_getElem? (i := 26) rfl))) (by decide) (t := (.array .long)) (t' := (.array .int)) (by decide) (by decide)))
  have F170 : Fld Z h166 a1 "com/example/gieres/gieres/model/TupleTable" "width" "I" (.int (0 : Int32)) := F160.other W166 (Or.inr (slot_ne (Or.inr (hw _ (List.mem_of_getElem? (i := 38) rfl))) (Or.inr (hw _ (List.mem_of_getElem? (i := 26) rfl))) (by decide) (t := .int) (t' := (.array .int)) (by decide) (by decide)))
  have V_171 : Arv Z h166 a2 ka2 .long (3 : Int32) [(.long t0), (.long t1), (.long t2)] (.long (0 : Int64)) := V_161.other W166 ne21
  have K172 : Keep h0 h166 [a1] := K162.wr W166 (Or.inl (List.mem_of_getElem? (i := 0) rfl))
  have V_173 : Arv Z h166 b129 k129 .int (3 : Int32) [(.int (0 : Int32)), (.int (0 : Int32)), (.int (0 : Int32))] (.int (0 : Int32)) := V_163.other W166 (Ne.symm ne130)
  have F174 : Fld Z h166 a1 "com/example/gieres/gieres/model/TupleTable" "word" "[I" (.ref b129) := F164.other W166 (Or.inr (slot_ne (Or.inr (hw _ (List.mem_of_getElem? (i := 24) rfl))) (Or.inr (hw _ (List.mem_of_getElem? (i := 26) rfl))) (by decide) (t := (.array .int)) (t' := (.array .int)) (by decide) (by decide)))
  have V_175 : Arv Z h166 b152 k152 .int (3 : Int32) [(.int (0 : Int32)), (.int (0 : Int32)), (.int (0 : Int32))] (.int (0 : Int32)) := V_165.other W166 (Ne.symm ne153)
  have F176 : Fld Z h166 a1 "com/example/gieres/gieres/model/TupleTable" "shift" "[I" (.ref b152) := F158.same W166
  have N166 := Fr.snoc X166 N141 g1
  show Go p e below _ (T166.setTop (mkF m 61 #[.val (.ref a1), .val (.ref a2), .unset, .unset, .unset, .unset] []))
  refine Go.st (fun _ => XS.aloadN X166.here hx rfl (hb hby d1_61) rfl rfl) ?_
  refine Go.st (fun _ => XS.aloadN X166.here hx rfl (hb hby d1_62) rfl rfl) ?_
  show Go p e below _ (T166.setTop (mkF m 63 #[.val (.ref a1), .val (.ref a2), .unset, .unset, .unset, .unset] [(.ref a2), (.ref a1)]))
  obtain ⟨cl177, Ar177, qk177, Sz177, Nn177, Ha177, Ga177⟩ := id V_171
  refine Go.st (fun _ => X166.arraylength hx (by rw [e166]; exact Ar177.1) (State.isArrayOf_alike hZ.alike Ar177.2.1) (g := (mkF m 63 #[.val (.ref a1), .val (.ref a2), .unset, .unset, .unset, .unset] [(.ref a2), (.ref a1)])) rfl rfl (hb hby d1_63) _) ?_
  rw [len_of Sz177 Nn177]
  show Go p e below _ (T166.setTop (mkF m 64 #[.val (.ref a1), .val (.ref a2), .unset, .unset, .unset, .unset] [(.int (3 : Int32)), (.ref a1)]))
  obtain ⟨T178, h178, k178, X178, e178, E178, A178, st178⟩ := newP X166 hx hZ (hw _ (List.mem_of_getElem? (i := 0) rfl)) e166 (g := (mkF m 64 #[.val (.ref a1), .val (.ref a2), .unset, .unset, .unset, .unset] [(.int (3 : Int32)), (.ref a1)])) rfl (hb hby d1_64) rfl (by decide) (cap := 3) (by decide) (by decide) (by decide) (by decide)
  obtain ⟨b178, g178⟩ : ∃ z, z = h166.size := ⟨_, rfl⟩
  rw [← g178] at A178 st178
  refine Go.st st178 ?_
  have gn178 : n0 ≤ b178 := oldGe O167 g178
  have sz178 : h0.size ≤ b178 := Nat.le_trans K172.1 (Nat.le_of_eq g178.symm)
  have ne179 : a1 ≠ b178 := Nat.ne_of_lt (Nat.lt_of_lt_of_le E_168.lt (Nat.le_of_eq g178.symm))
  have ne180 : a2 ≠ b178 := Nat.ne_of_lt (Nat.lt_of_lt_of_le V_171.lt (Nat.le_of_eq g178.symm))
  have ne181 : b129 ≠ b178 := Nat.ne_of_lt (Nat.lt_of_lt_of_le V_173.lt (Nat.le_of_eq g178.symm))
  have ne182 : b152 ≠ b178 := Nat.ne_of_lt (Nat.lt_of_lt_of_le V_175.lt (Nat.le_of_eq g178.symm))
  have O183 : Old Z n0 h178 := O167.ext E178
  have E_184 : Exa Z h178 a1 "com/example/gieres/gieres/model/TupleTable" := E_168.ext E178
  have F185 : Fld Z h178 a1 "com/example/gieres/gieres/model/TupleTable" "mask" "[J" .null := F169.ext E178
  have F186 : Fld Z h178 a1 "com/example/gieres/gieres/model/TupleTable" "width" "I" (.int (0 : Int32)) := F170.ext E178
  have V_187 : Arv Z h178 a2 ka2 .long (3 : Int32) [(.long t0), (.long t1), (.long t2)] (.long (0 : Int64)) := V_171.ext E178
  have K188 : Keep h0 h178 [a1] := K172.ext E178
  have V_189 : Arv Z h178 b129 k129 .int (3 : Int32) [(.int (0 : Int32)), (.int (0 : Int32)), (.int (0 : Int32))] (.int (0 : Int32)) := V_173.ext E178
  have F190 : Fld Z h178 a1 "com/example/gieres/gieres/model/TupleTable" "word" "[I" (.ref b129) := F174.ext E178
  have V_191 : Arv Z h178 b152 k152 .int (3 : Int32) [(.int (0 : Int32)), (.int (0 : Int32)), (.int (0 : Int32))] (.int (0 : Int32)) := V_175.ext E178
  have F192 : Fld Z h178 a1 "com/example/gieres/gieres/model/TupleTable" "shift" "[I" (.ref b152) := F176.ext E178
  have V_193 : Arv Z h178 b178 k178 .long (3 : Int32) [(.long (0 : Int64)), (.long (0 : Int64)), (.long (0 : Int64))] (.long (0 : Int64)) := (Arv.new A178 (by decide)).pad (pad_rep [] (.long (0 : Int64)) 3)
  show Go p e below _ (T178.setTop (mkF m 66 #[.val (.ref a1), .val (.ref a2), .unset, .unset, .unset, .unset] [(.ref b178), (.ref a1)]))
  obtain ⟨T194, h194, X194, e194, W194, st194⟩ := putF X178 hx hZ hown (host := "") (Or.inl (hw _ (List.mem_of_getElem? (i := 27) rfl))) Via.refl e178 F185 E_184 (Or.inr ⟨(hw _ (List.mem_of_getElem? (i := 28) rfl)), rfl, hnm⟩) (hw _ (List.mem_of_getElem? (i := 2) rfl)) (ty := (.array .long)) (by decide) rfl rfl (g := (mkF m 66 #[.val (.ref a1), .val (.ref a2), .unset, .unset, .unset, .unset] [(.ref b178), (.ref a1)])) rfl rfl (hb hby d1_66)
  refine Go.st st194 ?_
  have O195 : Old Z n0 h194 := O183.wr W194 g1
  have E_196 : Exa Z h194 a1 "com/example/gieres/gieres/model/TupleTable" := E_184.wr W194
  have F197 : Fld Z h194 a1 "com/example/gieres/gieres/model/TupleTable" "width" "I" (.int (0 : Int32)) := F186.other W194 (Or.inr (slot_ne (Or.inr (hw _ (List.mem_of_getElem? (i := 38) rfl))) (Or.inr (hw _ (List.mem_of_getElem? (i := 28) rfl))) (by decide) (t := .int) (t' := (.array .long)) (by decide) (by decide)))
  have V_198 : Arv Z h194 a2 ka2 .long (3 : Int32) [(.long t0), (.long t1), (.long t2)] (.long (0 : Int64)) := V_187.other W194 ne21
  have K199 : Keep h0 h194 [a1] := K188.wr W194 (Or.inl (List.mem_of_getElem? (i := 0) rfl))
  have V_200 : Arv Z h194 b129 k129 .int (3 : Int32) [(.int (0 : Int32)), (.int (0 : Int32)), (.int (0 : Int32))] (.int (0 : Int32)) := V_189.other W194 (Ne.symm ne130)
  have F201 : Fld Z h194 a1 "com/example/gieres/gieres/model/TupleTable" "word" "[I" (.ref b129) := F190.other W194 (Or.inr (slot_ne (Or.inr (hw _ (List.mem_of_getElem? (i := 24) rfl))) (Or.inr (hw _ (List.mem_of_getElem? (i := 28) rfl))) (by decide) (t := (.array .int)) (t' := (.array .long)) (by decide) (by decide)))
  have V_202 : Arv Z h194 b152 k152 .int (3 : Int32) [(.int (0 : Int32)), (.int (0 : Int32)), (.int (0 : Int32))] (.int (0 : Int32)) := V_191.other W194 (Ne.symm ne153)
  have F203 : Fld Z h194 a1 "com/example/gieres/gieres/model/TupleTable" "shift" "[I" (.ref b152) := F192.other W194 (Or.inr (slot_ne (Or.inr (hw _ (List.mem_of_getElem? (i := 26) rfl))) (Or.inr (hw _ (List.mem_of_getElem? (i := 28) rfl))) (by decide) (t := (.array .int)) (t' := (.array .long)) (by decide) (by decide)))
  have V_204 : Arv Z h194 b178 k178 .long (3 : Int32) [(.long (0 : Int64)), (.long (0 : Int64)), (.long (0 : Int64))] (.long (0 : Int64)) := V_193.other W194 (Ne.symm ne179)
  have F205 : Fld Z h194 a1 "com/example/gieres/gieres/model/TupleTable" "mask" "[J" (.ref b178) := F185.same W194
  have N194 := Fr.snoc X194 N166 g1
  show Go p e below _ (T194.setTop (mkF m 69 #[.val (.ref a1), .val (.ref a2), .unset, .unset, .unset, .unset] []))
  refine Go.st (fun _ => XS.iconst X194.here hx rfl (hb hby d1_69)) ?_
  refine Go.st (fun _ => XS.istoreN X194.here hx rfl (hb hby d1_70) rfl (l' := #[.val (.ref a1), .val (.ref a2), .val (.int (1 : Int32)), .unset, .unset, .unset]) rfl) ?_
  refine Go.st (fun _ => XS.iconst X194.here hx rfl (hb hby d1_71)) ?_
  refine Go.st (fun _ => XS.istoreN X194.here hx rfl (hb hby d1_72) rfl (l' := #[.val (.ref a1), .val (.ref a2), .val (.int (1 : Int32)), .val (.int (0 : Int32)), .unset, .unset]) rfl) ?_
  refine Go.st (fun _ => XS.iconst X194.here hx rfl (hb hby d1_73)) ?_
  refine Go.st (fun _ => XS.istore X194.here hx rfl (hb hby d1_74) rfl (l' := #[.val (.ref a1), .val (.ref a2), .val (.int (1 : Int32)), .val (.int (0 : Int32)), .val (.int (0 : Int32)), .unset]) rfl) ?_
  refine Go.st (fun _ => XS.iload X194.here hx rfl (hb hby d1_76) rfl) ?_
  refine Go.st (fun _ => XS.aloadN X194.here hx rfl (hb hby d1_78) rfl rfl) ?_
  show Go p e below _ (T194.setTop (mkF m 79 #[.val (.ref a1), .val (.ref a2), .val (.int (1 : Int32)), .val (.int (0 : Int32)), .val (.int (0 : Int32)), .unset] [(.ref a2), (.int (0 : Int32))]))
  obtain ⟨cl206, Ar206, qk206, Sz206, Nn206, Ha206, Ga206⟩ := id V_198
  refine Go.st (fun _ => X194.arraylength hx (by rw [e194]; exact Ar206.1) (State.isArrayOf_alike hZ.alike Ar206.2.1) (g := (mkF m 79 #[.val (.ref a1), .val (.ref a2), .val (.int (1 : Int32)), .val (.int (0 : Int32)), .val (.int (0 : Int32)), .unset] [(.ref a2), (.int (0 : Int32))])) rfl rfl (hb hby d1_79) _) ?_
  rw [len_of Sz206 Nn206]
  show Go p e below _ (T194.setTop (mkF m 80 #[.val (.ref a1), .val (.ref a2), .val (.int (1 : Int32)), .val (.int (0 : Int32)), .val (.int (0 : Int32)), .unset] [(.int (3 : Int32)), (.int (0 : Int32))]))
  refine Go.st (fun _ => XS.icmpNo X194.here hx rfl (hb hby d1_80) rfl (tlt (by decide : (0 : Int32) < (3 : Int32))).2.1) ?_
  refine Go.st (fun _ => XS.bipush X194.here hx rfl (hb hby d1_83)) ?_
  refine Go.st (fun _ => XS.aloadN X194.here hx rfl (hb hby d1_85) rfl rfl) ?_
  refine Go.st (fun _ => XS.iload X194.here hx rfl (hb hby d1_86) rfl) ?_
  show Go p e below _ (T194.setTop (mkF m 88 #[.val (.ref a1), .val (.ref a2), .val (.int (1 : Int32)), .val (.int (0 : Int32)), .val (.int (0 : Int32)), .unset] [(.int (0 : Int32)), (.ref a2), (.int (64 : Int32))]))
  obtain ⟨cl207, Ar207, qk207, Sz207, Nn207, Ha207, Ga207⟩ := id V_198
  have hin207 : ¬ ((0 : Int32) < 0 ∨ cl207.slots.size ≤ ((0 : Int32) : Int32).toNatClampNeg) := inb_of Sz207 ⟨by decide, by decide⟩
  refine Go.st (fun _ => X194.laload hx (j := (0 : Int32)) (v := (.long t0)) (by rw [e194]; exact Ar207.1) (State.isArrayOf_alike hZ.alike Ar207.2.1) Ar207.2.2 hin207 (Has.at Ha207 hin207 rfl) (g := (mkF m 88 #[.val (.ref a1), .val (.ref a2), .val (.int (1 : Int32)), .val (.int (0 : Int32)), .val (.int (0 : Int32)), .unset] [(.int (0 : Int32)), (.ref a2), (.int (64 : Int32))])) rfl rfl (hb hby d1_88) _) ?_
  show Go p e below _ (T194.setTop (mkF m 89 #[.val (.ref a1), .val (.ref a2), .val (.int (1 : Int32)), .val (.int (0 : Int32)), .val (.int (0 : Int32)), .unset] [(.long t0), (.int (64 : Int32))]))
  refine Go.st (fun _ => XS.lconst X194.here hx rfl (hb hby d1_89)) ?_
  refine Go.st (fun _ => XS.lsub X194.here hx rfl (hb hby d1_90) rfl) ?_
  show Go p e below _ (T194.setTop (mkF m 91 #[.val (.ref a1), .val (.ref a2), .val (.int (1 : Int32)), .val (.int (0 : Int32)), .val (.int (0 : Int32)), .unset] [(.long (t0 - (1 : Int64))), (.int (64 : Int32))]))
  refine goCallS X194 hx hZ (y := (⟨"java/lang/Long", "numberOfLeadingZeros", "(J)I"⟩ : MethodName)) hown (hw _ (List.mem_of_getElem? (i := 29) rfl)) (hw _ (List.mem_of_getElem? (i := 30) rfl)) (hw _ (List.mem_of_getElem? (i := 31) rfl)) (hw _ (List.mem_of_getElem? (i := 32) rfl)) (by decide) (argsL := [(.long (t0 - (1 : Int64)))]) (rest := [(.int (64 : Int32))]) e194 (rmN64 l Z a0 hw [] (t0 - (1 : Int64)) h194 n0 O195) 1 (by decide) (by decide) (by decide) (by decide) (mkF m 91 #[.val (.ref a1), .val (.ref a2), .val (.int (1 : Int32)), .val (.int (0 : Int32)), .val (.int (0 : Int32)), .unset] [(.long (t0 - (1 : Int64))), (.int (64 : Int32))]) rfl (by rw [hml]; rfl) (lenOf pd_1 rfl) rfl (hb hby d1_91) (Nat.le_of_eq rfl) ?_
  intro v208 T208 L208 X208 hQ208
  obtain ⟨⟨z208, rfl, hN208⟩, M208, e208⟩ := hQ208
  have N208 := Fr.app N194 M208
  show Go p e below _ (T208.setTop (mkF m 94 #[.val (.ref a1), .val (.ref a2), .val (.int (1 : Int32)), .val (.int (0 : Int32)), .val (.int (0 : Int32)), .unset] [(.int z208), (.int (64 : Int32))]))
  refine Go.st (fun _ => XS.isub X208.here hx rfl (hb hby d1_94) rfl) ?_
  show Go p e below _ (T208.setTop (mkF m 95 #[.val (.ref a1), .val (.ref a2), .val (.int (1 : Int32)), .val (.int (0 : Int32)), .val (.int (0 : Int32)), .unset] [(.int ((64 : Int32) - z208))]))
  obtain ⟨c0, hc0, B0⟩ := own_bits_of hN208 ht0
  rw [hc0]
  show Go p e below _ (T208.setTop (mkF m 95 #[.val (.ref a1), .val (.ref a2), .val (.int (1 : Int32)), .val (.int (0 : Int32)), .val (.int (0 : Int32)), .unset] [(.int c0)]))
  refine Go.st (fun _ => XS.istore X208.here hx rfl (hb hby d1_95) rfl (l' := #[.val (.ref a1), .val (.ref a2), .val (.int (1 : Int32)), .val (.int (0 : Int32)), .val (.int (0 : Int32)), .val (.int c0)]) rfl) ?_
  refine Go.st (fun _ => XS.iloadN X208.here hx rfl (hb hby d1_97) rfl) ?_
  refine Go.st (fun _ => XS.iload X208.here hx rfl (hb hby d1_98) rfl) ?_
  refine Go.st (fun _ => XS.iadd X208.here hx rfl (hb hby d1_100) rfl) ?_
  refine Go.st (fun _ => XS.bipush X208.here hx rfl (hb hby d1_101)) ?_
  refine Go.st (fun _ => XS.icmpYes X208.here hx rfl (pc0 := 103) (pc' := 111) rfl (hb hby d1_103) rfl (flt (by rw [Int32.zero_add]; exact own_le64' B0)).2.2.2 (by decide) (by decide)) ?_
  refine Go.st (fun _ => XS.aloadN X208.here hx rfl (hb hby d1_111) rfl rfl) ?_
  show Go p e below _ (T208.setTop (mkF m 112 #[.val (.ref a1), .val (.ref a2), .val (.int (1 : Int32)), .val (.int (0 : Int32)), .val (.int (0 : Int32)), .val (.int c0)] [(.ref a1)]))
  obtain ⟨T209, X209, e209, st209⟩ := getF X208 hx hZ hown (host := "") (Or.inl (hw _ (List.mem_of_getElem? (i := 23) rfl))) Via.refl e208 F201 (g := (mkF m 112 #[.val (.ref a1), .val (.ref a2), .val (.int (1 : Int32)), .val (.int (0 : Int32)), .val (.int (0 : Int32)), .val (.int c0)] [(.ref a1)])) rfl rfl (hb hby d1_112)
  refine Go.st st209 ?_
  show Go p e below _ (T209.setTop (mkF m 115 #[.val (.ref a1), .val (.ref a2), .val (.int (1 : Int32)), .val (.int (0 : Int32)), .val (.int (0 : Int32)), .val (.int c0)] [(.ref b129)]))
  refine Go.st (fun _ => XS.iload X209.here hx rfl (hb hby d1_115) rfl) ?_
  refine Go.st (fun _ => XS.iloadN X209.here hx rfl (hb hby d1_117) rfl) ?_
  refine Go.st (fun _ => XS.iconst X209.here hx rfl (hb hby d1_118)) ?_
  refine Go.st (fun _ => XS.isub X209.here hx rfl (hb hby d1_119) rfl) ?_
  show Go p e below _ (T209.setTop (mkF m 120 #[.val (.ref a1), .val (.ref a2), .val (.int (1 : Int32)), .val (.int (0 : Int32)), .val (.int (0 : Int32)), .val (.int c0)] [(.int (0 : Int32)), (.int (0 : Int32)), (.ref b129)]))
  obtain ⟨cl210, Ar210, qk210, Sz210, Nn210, Ha210, Ga210⟩ := id V_200
  have hin210 : ¬ ((0 : Int32) < 0 ∨ cl210.slots.size ≤ ((0 : Int32) : Int32).toNatClampNeg) := inb_of Sz210 ⟨by decide, by decide⟩
  obtain ⟨T210, h210, X210, e210, W210, st210⟩ := stI X209 hx hZ e209 Ar210 (j := (0 : Int32)) hin210 (g := (mkF m 120 #[.val (.ref a1), .val (.ref a2), .val (.int (1 : Int32)), .val (.int (0 : Int32)), .val (.int (0 : Int32)), .val (.int c0)] [(.int (0 : Int32)), (.int (0 : Int32)), (.ref b129)])) rfl rfl (hb hby d1_120)
  refine Go.st st210 ?_
  have O211 : Old Z n0 h210 := O195.wr W210 gn129
  have E_212 : Exa Z h210 a1 "com/example/gieres/gieres/model/TupleTable" := E_196.wr W210
  have F213 : Fld Z h210 a1 "com/example/gieres/gieres/model/TupleTable" "width" "I" (.int (0 : Int32)) := F197.other W210 (Or.inl ne130)
  have V_214 : Arv Z h210 a2 ka2 .long (3 : Int32) [(.long t0), (.long t1), (.long t2)] (.long (0 : Int64)) := V_198.other W210 ne131
  have K215 : Keep h0 h210 [a1] := K199.wr W210 (Or.inr sz129)
  have F216 : Fld Z h210 a1 "com/example/gieres/gieres/model/TupleTable" "word" "[I" (.ref b129) := F201.other W210 (Or.inl ne130)
  have V_217 : Arv Z h210 b152 k152 .int (3 : Int32) [(.int (0 : Int32)), (.int (0 : Int32)), (.int (0 : Int32))] (.int (0 : Int32)) := V_202.other W210 (Ne.symm ne155)
  have F218 : Fld Z h210 a1 "com/example/gieres/gieres/model/TupleTable" "shift" "[I" (.ref b152) := F203.other W210 (Or.inl ne130)
  have V_219 : Arv Z h210 b178 k178 .long (3 : Int32) [(.long (0 : Int64)), (.long (0 : Int64)), (.long (0 : Int64))] (.long (0 : Int64)) := V_204.other W210 (Ne.symm ne181)
  have F220 : Fld Z h210 a1 "com/example/gieres/gieres/model/TupleTable" "mask" "[J" (.ref b178) := F205.other W210 (Or.inl ne130)
  have V_221 : Arv Z h210 b129 k129 .int (3 : Int32) [(.int (0 : Int32)), (.int (0 : Int32)), (.int (0 : Int32))] (.int (0 : Int32)) := Arv.set Ar210 qk210 Sz210 Nn210 Ha210 Ga210 rfl W210 0 rfl (Nat.le_of_ble_eq_true rfl)
  have N210 := Fr.snoc X210 N208 gn129
  show Go p e below _ (T210.setTop (mkF m 121 #[.val (.ref a1), .val (.ref a2), .val (.int (1 : Int32)), .val (.int (0 : Int32)), .val (.int (0 : Int32)), .val (.int c0)] []))
  refine Go.st (fun _ => XS.aloadN X210.here hx rfl (hb hby d1_121) rfl rfl) ?_
  show Go p e below _ (T210.setTop (mkF m 122 #[.val (.ref a1), .val (.ref a2), .val (.int (1 : Int32)), .val (.int (0 : Int32)), .val (.int (0 : Int32)), .val (.int c0)] [(.ref a1)]))
  obtain ⟨T222, X222, e222, st222⟩ := getF X210 hx hZ hown (host := "") (Or.inl (hw _ (List.mem_of_getElem? (i := 25) rfl))) Via.refl e210 F218 (g := (mkF m 122 #[.val (.ref a1), .val (.ref a2), .val (.int (1 : Int32)), .val (.int (0 : Int32)), .val (.int (0 : Int32)), .val (.int c0)] [(.ref a1)])) rfl rfl (hb hby d1_122)
  refine Go.st st222 ?_
  show Go p e below _ (T222.setTop (mkF m 125 #[.val (.ref a1), .val (.ref a2), .val (.int (1 : Int32)), .val (.int (0 : Int32)), .val (.int (0 : Int32)), .val (.int c0)] [(.ref b152)]))
  refine Go.st (fun _ => XS.iload X222.here hx rfl (hb hby d1_125) rfl) ?_
  refine Go.st (fun _ => XS.iloadN X222.here hx rfl (hb hby d1_127) rfl) ?_
  show Go p e below _ (T222.setTop (mkF m 128 #[.val (.ref a1), .val (.ref a2), .val (.int (1 : Int32)), .val (.int (0 : Int32)), .val (.int (0 : Int32)), .val (.int c0)] [(.int (0 : Int32)), (.int (0 : Int32)), (.ref b152)]))
  obtain ⟨cl223, Ar223, qk223, Sz223, Nn223, Ha223, Ga223⟩ := id V_217
  have hin223 : ¬ ((0 : Int32) < 0 ∨ cl223.slots.size ≤ ((0 : Int32) : Int32).toNatClampNeg) := inb_of Sz223 ⟨by decide, by decide⟩
  obtain ⟨T223, h223, X223, e223, W223, st223⟩ := stI X222 hx hZ e222 Ar223 (j := (0 : Int32)) hin223 (g := (mkF m 128 #[.val (.ref a1), .val (.ref a2), .val (.int (1 : Int32)), .val (.int (0 : Int32)), .val (.int (0 : Int32)), .val (.int c0)] [(.int (0 : Int32)), (.int (0 : Int32)), (.ref b152)])) rfl rfl (hb hby d1_128)
  refine Go.st st223 ?_
  have O224 : Old Z n0 h223 := O211.wr W223 gn152
  have E_225 : Exa Z h223 a1 "com/example/gieres/gieres/model/TupleTable" := E_212.wr W223
  have F226 : Fld Z h223 a1 "com/example/gieres/gieres/model/TupleTable" "width" "I" (.int (0 : Int32)) := F213.other W223 (Or.inl ne153)
  have V_227 : Arv Z h223 a2 ka2 .long (3 : Int32) [(.long t0), (.long t1), (.long t2)] (.long (0 : Int64)) := V_214.other W223 ne154
  have K228 : Keep h0 h223 [a1] := K215.wr W223 (Or.inr sz152)
  have F229 : Fld Z h223 a1 "com/example/gieres/gieres/model/TupleTable" "word" "[I" (.ref b129) := F216.other W223 (Or.inl ne153)
  have F230 : Fld Z h223 a1 "com/example/gieres/gieres/model/TupleTable" "shift" "[I" (.ref b152) := F218.other W223 (Or.inl ne153)
  have V_231 : Arv Z h223 b178 k178 .long (3 : Int32) [(.long (0 : Int64)), (.long (0 : Int64)), (.long (0 : Int64))] (.long (0 : Int64)) := V_219.other W223 (Ne.symm ne182)
  have F232 : Fld Z h223 a1 "com/example/gieres/gieres/model/TupleTable" "mask" "[J" (.ref b178) := F220.other W223 (Or.inl ne153)
  have V_233 : Arv Z h223 b129 k129 .int (3 : Int32) [(.int (0 : Int32)), (.int (0 : Int32)), (.int (0 : Int32))] (.int (0 : Int32)) := V_221.other W223 ne155
  have V_234 : Arv Z h223 b152 k152 .int (3 : Int32) [(.int (0 : Int32)), (.int (0 : Int32)), (.int (0 : Int32))] (.int (0 : Int32)) := Arv.set Ar223 qk223 Sz223 Nn223 Ha223 Ga223 rfl W223 0 rfl (Nat.le_of_ble_eq_true rfl)
  have N223 := Fr.snoc X223 N210 gn152
  show Go p e below _ (T223.setTop (mkF m 129 #[.val (.ref a1), .val (.ref a2), .val (.int (1 : Int32)), .val (.int (0 : Int32)), .val (.int (0 : Int32)), .val (.int c0)] []))
  refine Go.st (fun _ => XS.aloadN X223.here hx rfl (hb hby d1_129) rfl rfl) ?_
  show Go p e below _ (T223.setTop (mkF m 130 #[.val (.ref a1), .val (.ref a2), .val (.int (1 : Int32)), .val (.int (0 : Int32)), .val (.int (0 : Int32)), .val (.int c0)] [(.ref a1)]))
  obtain ⟨T235, X235, e235, st235⟩ := getF X223 hx hZ hown (host := "") (Or.inl (hw _ (List.mem_of_getElem? (i := 27) rfl))) Via.refl e223 F232 (g := (mkF m 130 #[.val (.ref a1), .val (.ref a2), .val (.int (1 : Int32)), .val (.int (0 : Int32)), .val (.int (0 : Int32)), .val (.int c0)] [(.ref a1)])) rfl rfl (hb hby d1_130)
  refine Go.st st235 ?_
  show Go p e below _ (T235.setTop (mkF m 133 #[.val (.ref a1), .val (.ref a2), .val (.int (1 : Int32)), .val (.int (0 : Int32)), .val (.int (0 : Int32)), .val (.int c0)] [(.ref b178)]))
  refine Go.st (fun _ => XS.iload X235.here hx rfl (hb hby d1_133) rfl) ?_
  refine Go.st (fun _ => XS.lconst X235.here hx rfl (hb hby d1_135)) ?_
  refine Go.st (fun _ => XS.iload X235.here hx rfl (hb hby d1_136) rfl) ?_
  refine Go.st (fun _ => XS.lshl X235.here hx rfl (hb hby d1_138) rfl) ?_
  refine Go.st (fun _ => XS.lconst X235.here hx rfl (hb hby d1_139)) ?_
  refine Go.st (fun _ => XS.lsub X235.here hx rfl (hb hby d1_140) rfl) ?_
  show Go p e below _ (T235.setTop (mkF m 141 #[.val (.ref a1), .val (.ref a2), .val (.int (1 : Int32)), .val (.int (0 : Int32)), .val (.int (0 : Int32)), .val (.int c0)] [(.long (((1 : Int64) <<< (c0 &&& 0x3f).toInt64) - (1 : Int64))), (.int (0 : Int32)), (.ref b178)]))
  obtain ⟨cl236, Ar236, qk236, Sz236, Nn236, Ha236, Ga236⟩ := id V_231
  have hin236 : ¬ ((0 : Int32) < 0 ∨ cl236.slots.size ≤ ((0 : Int32) : Int32).toNatClampNeg) := inb_of Sz236 ⟨by decide, by decide⟩
  obtain ⟨T236, h236, X236, e236, W236, st236⟩ := stJ X235 hx hZ e235 Ar236 (j := (0 : Int32)) hin236 (g := (mkF m 141 #[.val (.ref a1), .val (.ref a2), .val (.int (1 : Int32)), .val (.int (0 : Int32)), .val (.int (0 : Int32)), .val (.int c0)] [(.long (((1 : Int64) <<< (c0 &&& 0x3f).toInt64) - (1 : Int64))), (.int (0 : Int32)), (.ref b178)])) rfl rfl (hb hby d1_141)
  refine Go.st st236 ?_
  have O237 : Old Z n0 h236 := O224.wr W236 gn178
  have E_238 : Exa Z h236 a1 "com/example/gieres/gieres/model/TupleTable" := E_225.wr W236
  have F239 : Fld Z h236 a1 "com/example/gieres/gieres/model/TupleTable" "width" "I" (.int (0 : Int32)) := F226.other W236 (Or.inl ne179)
  have V_240 : Arv Z h236 a2 ka2 .long (3 : Int32) [(.long t0), (.long t1), (.long t2)] (.long (0 : Int64)) := V_227.other W236 ne180
  have K241 : Keep h0 h236 [a1] := K228.wr W236 (Or.inr sz178)
  have F242 : Fld Z h236 a1 "com/example/gieres/gieres/model/TupleTable" "word" "[I" (.ref b129) := F229.other W236 (Or.inl ne179)
  have F243 : Fld Z h236 a1 "com/example/gieres/gieres/model/TupleTable" "shift" "[I" (.ref b152) := F230.other W236 (Or.inl ne179)
  have F244 : Fld Z h236 a1 "com/example/gieres/gieres/model/TupleTable" "mask" "[J" (.ref b178) := F232.other W236 (Or.inl ne179)
  have V_245 : Arv Z h236 b129 k129 .int (3 : Int32) [(.int (0 : Int32)), (.int (0 : Int32)), (.int (0 : Int32))] (.int (0 : Int32)) := V_233.other W236 ne181
  have V_246 : Arv Z h236 b152 k152 .int (3 : Int32) [(.int (0 : Int32)), (.int (0 : Int32)), (.int (0 : Int32))] (.int (0 : Int32)) := V_234.other W236 ne182
  have V_247 : Arv Z h236 b178 k178 .long (3 : Int32) [(.long (((1 : Int64) <<< (c0 &&& 0x3f).toInt64) - (1 : Int64))), (.long (0 : Int64)), (.long (0 : Int64))] (.long (0 : Int64)) := Arv.set Ar236 qk236 Sz236 Nn236 Ha236 Ga236 rfl W236 0 rfl (Nat.le_of_ble_eq_true rfl)
  have N236 := Fr.snoc X236 N223 gn178
  show Go p e below _ (T236.setTop (mkF m 142 #[.val (.ref a1), .val (.ref a2), .val (.int (1 : Int32)), .val (.int (0 : Int32)), .val (.int (0 : Int32)), .val (.int c0)] []))
  refine Go.st (fun _ => XS.iloadN X236.here hx rfl (hb hby d1_142) rfl) ?_
  refine Go.st (fun _ => XS.iload X236.here hx rfl (hb hby d1_143) rfl) ?_
  refine Go.st (fun _ => XS.iadd X236.here hx rfl (hb hby d1_145) rfl) ?_
  show Go p e below _ (T236.setTop (mkF m 146 #[.val (.ref a1), .val (.ref a2), .val (.int (1 : Int32)), .val (.int (0 : Int32)), .val (.int (0 : Int32)), .val (.int c0)] [(.int ((0 : Int32) + c0))]))
  rw [Int32.zero_add]
  show Go p e below _ (T236.setTop (mkF m 146 #[.val (.ref a1), .val (.ref a2), .val (.int (1 : Int32)), .val (.int (0 : Int32)), .val (.int (0 : Int32)), .val (.int c0)] [(.int c0)]))
  refine Go.st (fun _ => XS.istoreN X236.here hx rfl (hb hby d1_146) rfl (l' := #[.val (.ref a1), .val (.ref a2), .val (.int (1 : Int32)), .val (.int c0), .val (.int (0 : Int32)), .val (.int c0)]) rfl) ?_
  refine Go.st (fun _ => XS.iinc X236.here hx rfl (hb hby d1_147) rfl (l' := #[.val (.ref a1), .val (.ref a2), .val (.int (1 : Int32)), .val (.int c0), .val (.int (1 : Int32)), .val (.int c0)]) rfl) ?_
  refine Go.st (fun _ => XS.goto X236.here hx rfl (pc0 := 150) (pc' := 76) rfl (hb hby d1_150) (by decide) (by decide)) ?_
  refine Go.st (fun _ => XS.iload X236.here hx rfl (hb hby d1_76) rfl) ?_
  refine Go.st (fun _ => XS.aloadN X236.here hx rfl (hb hby d1_78) rfl rfl) ?_
  show Go p e below _ (T236.setTop (mkF m 79 #[.val (.ref a1), .val (.ref a2), .val (.int (1 : Int32)), .val (.int c0), .val (.int (1 : Int32)), .val (.int c0)] [(.ref a2), (.int (1 : Int32))]))
  obtain ⟨cl248, Ar248, qk248, Sz248, Nn248, Ha248, Ga248⟩ := id V_240
  refine Go.st (fun _ => X236.arraylength hx (by rw [e236]; exact Ar248.1) (State.isArrayOf_alike hZ.alike Ar248.2.1) (g := (mkF m 79 #[.val (.ref a1), .val (.ref a2), .val (.int (1 : Int32)), .val (.int c0), .val (.int (1 : Int32)), .val (.int c0)] [(.ref a2), (.int (1 : Int32))])) rfl rfl (hb hby d1_79) _) ?_
  rw [len_of Sz248 Nn248]
  show Go p e below _ (T236.setTop (mkF m 80 #[.val (.ref a1), .val (.ref a2), .val (.int (1 : Int32)), .val (.int c0), .val (.int (1 : Int32)), .val (.int c0)] [(.int (3 : Int32)), (.int (1 : Int32))]))
  refine Go.st (fun _ => XS.icmpNo X236.here hx rfl (hb hby d1_80) rfl (tlt (by decide : (1 : Int32) < (3 : Int32))).2.1) ?_
  refine Go.st (fun _ => XS.bipush X236.here hx rfl (hb hby d1_83)) ?_
  refine Go.st (fun _ => XS.aloadN X236.here hx rfl (hb hby d1_85) rfl rfl) ?_
  refine Go.st (fun _ => XS.iload X236.here hx rfl (hb hby d1_86) rfl) ?_
  show Go p e below _ (T236.setTop (mkF m 88 #[.val (.ref a1), .val (.ref a2), .val (.int (1 : Int32)), .val (.int c0), .val (.int (1 : Int32)), .val (.int c0)] [(.int (1 : Int32)), (.ref a2), (.int (64 : Int32))]))
  obtain ⟨cl249, Ar249, qk249, Sz249, Nn249, Ha249, Ga249⟩ := id V_240
  have hin249 : ¬ ((1 : Int32) < 0 ∨ cl249.slots.size ≤ ((1 : Int32) : Int32).toNatClampNeg) := inb_of Sz249 ⟨by decide, by decide⟩
  refine Go.st (fun _ => X236.laload hx (j := (1 : Int32)) (v := (.long t1)) (by rw [e236]; exact Ar249.1) (State.isArrayOf_alike hZ.alike Ar249.2.1) Ar249.2.2 hin249 (Has.at Ha249 hin249 rfl) (g := (mkF m 88 #[.val (.ref a1), .val (.ref a2), .val (.int (1 : Int32)), .val (.int c0), .val (.int (1 : Int32)), .val (.int c0)] [(.int (1 : Int32)), (.ref a2), (.int (64 : Int32))])) rfl rfl (hb hby d1_88) _) ?_
  show Go p e below _ (T236.setTop (mkF m 89 #[.val (.ref a1), .val (.ref a2), .val (.int (1 : Int32)), .val (.int c0), .val (.int (1 : Int32)), .val (.int c0)] [(.long t1), (.int (64 : Int32))]))
  refine Go.st (fun _ => XS.lconst X236.here hx rfl (hb hby d1_89)) ?_
  refine Go.st (fun _ => XS.lsub X236.here hx rfl (hb hby d1_90) rfl) ?_
  show Go p e below _ (T236.setTop (mkF m 91 #[.val (.ref a1), .val (.ref a2), .val (.int (1 : Int32)), .val (.int c0), .val (.int (1 : Int32)), .val (.int c0)] [(.long (t1 - (1 : Int64))), (.int (64 : Int32))]))
  refine goCallS X236 hx hZ (y := (⟨"java/lang/Long", "numberOfLeadingZeros", "(J)I"⟩ : MethodName)) hown (hw _ (List.mem_of_getElem? (i := 29) rfl)) (hw _ (List.mem_of_getElem? (i := 30) rfl)) (hw _ (List.mem_of_getElem? (i := 31) rfl)) (hw _ (List.mem_of_getElem? (i := 32) rfl)) (by decide) (argsL := [(.long (t1 - (1 : Int64)))]) (rest := [(.int (64 : Int32))]) e236 (rmN64 l Z a0 hw [] (t1 - (1 : Int64)) h236 n0 O237) 1 (by decide) (by decide) (by decide) (by decide) (mkF m 91 #[.val (.ref a1), .val (.ref a2), .val (.int (1 : Int32)), .val (.int c0), .val (.int (1 : Int32)), .val (.int c0)] [(.long (t1 - (1 : Int64))), (.int (64 : Int32))]) rfl (by rw [hml]; rfl) (lenOf pd_1 rfl) rfl (hb hby d1_91) (Nat.le_of_eq rfl) ?_
  intro v250 T250 L250 X250 hQ250
  obtain ⟨⟨z250, rfl, hN250⟩, M250, e250⟩ := hQ250
  have N250 := Fr.app N236 M250
  show Go p e below _ (T250.setTop (mkF m 94 #[.val (.ref a1), .val (.ref a2), .val (.int (1 : Int32)), .val (.int c0), .val (.int (1 : Int32)), .val (.int c0)] [(.int z250), (.int (64 : Int32))]))
  refine Go.st (fun _ => XS.isub X250.here hx rfl (hb hby d1_94) rfl) ?_
  show Go p e below _ (T250.setTop (mkF m 95 #[.val (.ref a1), .val (.ref a2), .val (.int (1 : Int32)), .val (.int c0), .val (.int (1 : Int32)), .val (.int c0)] [(.int ((64 : Int32) - z250))]))
  obtain ⟨c1, hc1, B1⟩ := own_bits_of hN250 ht1
  rw [hc1]
  show Go p e below _ (T250.setTop (mkF m 95 #[.val (.ref a1), .val (.ref a2), .val (.int (1 : Int32)), .val (.int c0), .val (.int (1 : Int32)), .val (.int c0)] [(.int c1)]))
  refine Go.st (fun _ => XS.istore X250.here hx rfl (hb hby d1_95) rfl (l' := #[.val (.ref a1), .val (.ref a2), .val (.int (1 : Int32)), .val (.int c0), .val (.int (1 : Int32)), .val (.int c1)]) rfl) ?_
  refine Go.st (fun _ => XS.iloadN X250.here hx rfl (hb hby d1_97) rfl) ?_
  refine Go.st (fun _ => XS.iload X250.here hx rfl (hb hby d1_98) rfl) ?_
  refine Go.st (fun _ => XS.iadd X250.here hx rfl (hb hby d1_100) rfl) ?_
  refine Go.st (fun _ => XS.bipush X250.here hx rfl (hb hby d1_101)) ?_
  refine Go.st (fun _ => XS.icmpYes X250.here hx rfl (pc0 := 103) (pc' := 111) rfl (hb hby d1_103) rfl (flt (own_le64 B0 B1)).2.2.2 (by decide) (by decide)) ?_
  refine Go.st (fun _ => XS.aloadN X250.here hx rfl (hb hby d1_111) rfl rfl) ?_
  show Go p e below _ (T250.setTop (mkF m 112 #[.val (.ref a1), .val (.ref a2), .val (.int (1 : Int32)), .val (.int c0), .val (.int (1 : Int32)), .val (.int c1)] [(.ref a1)]))
  obtain ⟨T251, X251, e251, st251⟩ := getF X250 hx hZ hown (host := "") (Or.inl (hw _ (List.mem_of_getElem? (i := 23) rfl))) Via.refl e250 F242 (g := (mkF m 112 #[.val (.ref a1), .val (.ref a2), .val (.int (1 : Int32)), .val (.int c0), .val (.int (1 : Int32)), .val (.int c1)] [(.ref a1)])) rfl rfl (hb hby d1_112)
  refine Go.st st251 ?_
  show Go p e below _ (T251.setTop (mkF m 115 #[.val (.ref a1), .val (.ref a2), .val (.int (1 : Int32)), .val (.int c0), .val (.int (1 : Int32)), .val (.int c1)] [(.ref b129)]))
  refine Go.st (fun _ => XS.iload X251.here hx rfl (hb hby d1_115) rfl) ?_
  refine Go.st (fun _ => XS.iloadN X251.here hx rfl (hb hby d1_117) rfl) ?_
  refine Go.st (fun _ => XS.iconst X251.here hx rfl (hb hby d1_118)) ?_
  refine Go.st (fun _ => XS.isub X251.here hx rfl (hb hby d1_119) rfl) ?_
  show Go p e below _ (T251.setTop (mkF m 120 #[.val (.ref a1), .val (.ref a2), .val (.int (1 : Int32)), .val (.int c0), .val (.int (1 : Int32)), .val (.int c1)] [(.int (0 : Int32)), (.int (1 : Int32)), (.ref b129)]))
  obtain ⟨cl252, Ar252, qk252, Sz252, Nn252, Ha252, Ga252⟩ := id V_245
  have hin252 : ¬ ((1 : Int32) < 0 ∨ cl252.slots.size ≤ ((1 : Int32) : Int32).toNatClampNeg) := inb_of Sz252 ⟨by decide, by decide⟩
  obtain ⟨T252, h252, X252, e252, W252, st252⟩ := stI X251 hx hZ e251 Ar252 (j := (1 : Int32)) hin252 (g := (mkF m 120 #[.val (.ref a1), .val (.ref a2), .val (.int (1 : Int32)), .val (.int c0), .val (.int (1 : Int32)), .val (.int c1)] [(.int (0 : Int32)), (.int (1 : Int32)), (.ref b129)])) rfl rfl (hb hby d1_120)
  refine Go.st st252 ?_
  have O253 : Old Z n0 h252 := O237.wr W252 gn129
  have E_254 : Exa Z h252 a1 "com/example/gieres/gieres/model/TupleTable" := E_238.wr W252
  have F255 : Fld Z h252 a1 "com/example/gieres/gieres/model/TupleTable" "width" "I" (.int (0 : Int32)) := F239.other W252 (Or.inl ne130)
  have V_256 : Arv Z h252 a2 ka2 .long (3 : Int32) [(.long t0), (.long t1), (.long t2)] (.long (0 : Int64)) := V_240.other W252 ne131
  have K257 : Keep h0 h252 [a1] := K241.wr W252 (Or.inr sz129)
  have F258 : Fld Z h252 a1 "com/example/gieres/gieres/model/TupleTable" "word" "[I" (.ref b129) := F242.other W252 (Or.inl ne130)
  have F259 : Fld Z h252 a1 "com/example/gieres/gieres/model/TupleTable" "shift" "[I" (.ref b152) := F243.other W252 (Or.inl ne130)
  have F260 : Fld Z h252 a1 "com/example/gieres/gieres/model/TupleTable" "mask" "[J" (.ref b178) := F244.other W252 (Or.inl ne130)
  have V_261 : Arv Z h252 b152 k152 .int (3 : Int32) [(.int (0 : Int32)), (.int (0 : Int32)), (.int (0 : Int32))] (.int (0 : Int32)) := V_246.other W252 (Ne.symm ne155)
  have V_262 : Arv Z h252 b178 k178 .long (3 : Int32) [(.long (((1 : Int64) <<< (c0 &&& 0x3f).toInt64) - (1 : Int64))), (.long (0 : Int64)), (.long (0 : Int64))] (.long (0 : Int64)) := V_247.other W252 (Ne.symm ne181)
  have V_263 : Arv Z h252 b129 k129 .int (3 : Int32) [(.int (0 : Int32)), (.int (0 : Int32)), (.int (0 : Int32))] (.int (0 : Int32)) := Arv.set Ar252 qk252 Sz252 Nn252 Ha252 Ga252 rfl W252 1 rfl (Nat.le_of_ble_eq_true rfl)
  have N252 := Fr.snoc X252 N250 gn129
  show Go p e below _ (T252.setTop (mkF m 121 #[.val (.ref a1), .val (.ref a2), .val (.int (1 : Int32)), .val (.int c0), .val (.int (1 : Int32)), .val (.int c1)] []))
  refine Go.st (fun _ => XS.aloadN X252.here hx rfl (hb hby d1_121) rfl rfl) ?_
  show Go p e below _ (T252.setTop (mkF m 122 #[.val (.ref a1), .val (.ref a2), .val (.int (1 : Int32)), .val (.int c0), .val (.int (1 : Int32)), .val (.int c1)] [(.ref a1)]))
  obtain ⟨T264, X264, e264, st264⟩ := getF X252 hx hZ hown (host := "") (Or.inl (hw _ (List.mem_of_getElem? (i := 25) rfl))) Via.refl e252 F259 (g := (mkF m 122 #[.val (.ref a1), .val (.ref a2), .val (.int (1 : Int32)), .val (.int c0), .val (.int (1 : Int32)), .val (.int c1)] [(.ref a1)])) rfl rfl (hb hby d1_122)
  refine Go.st st264 ?_
  show Go p e below _ (T264.setTop (mkF m 125 #[.val (.ref a1), .val (.ref a2), .val (.int (1 : Int32)), .val (.int c0), .val (.int (1 : Int32)), .val (.int c1)] [(.ref b152)]))
  refine Go.st (fun _ => XS.iload X264.here hx rfl (hb hby d1_125) rfl) ?_
  refine Go.st (fun _ => XS.iloadN X264.here hx rfl (hb hby d1_127) rfl) ?_
  show Go p e below _ (T264.setTop (mkF m 128 #[.val (.ref a1), .val (.ref a2), .val (.int (1 : Int32)), .val (.int c0), .val (.int (1 : Int32)), .val (.int c1)] [(.int c0), (.int (1 : Int32)), (.ref b152)]))
  obtain ⟨cl265, Ar265, qk265, Sz265, Nn265, Ha265, Ga265⟩ := id V_261
  have hin265 : ¬ ((1 : Int32) < 0 ∨ cl265.slots.size ≤ ((1 : Int32) : Int32).toNatClampNeg) := inb_of Sz265 ⟨by decide, by decide⟩
  obtain ⟨T265, h265, X265, e265, W265, st265⟩ := stI X264 hx hZ e264 Ar265 (j := (1 : Int32)) hin265 (g := (mkF m 128 #[.val (.ref a1), .val (.ref a2), .val (.int (1 : Int32)), .val (.int c0), .val (.int (1 : Int32)), .val (.int c1)] [(.int c0), (.int (1 : Int32)), (.ref b152)])) rfl rfl (hb hby d1_128)
  refine Go.st st265 ?_
  have O266 : Old Z n0 h265 := O253.wr W265 gn152
  have E_267 : Exa Z h265 a1 "com/example/gieres/gieres/model/TupleTable" := E_254.wr W265
  have F268 : Fld Z h265 a1 "com/example/gieres/gieres/model/TupleTable" "width" "I" (.int (0 : Int32)) := F255.other W265 (Or.inl ne153)
  have V_269 : Arv Z h265 a2 ka2 .long (3 : Int32) [(.long t0), (.long t1), (.long t2)] (.long (0 : Int64)) := V_256.other W265 ne154
  have K270 : Keep h0 h265 [a1] := K257.wr W265 (Or.inr sz152)
  have F271 : Fld Z h265 a1 "com/example/gieres/gieres/model/TupleTable" "word" "[I" (.ref b129) := F258.other W265 (Or.inl ne153)
  have F272 : Fld Z h265 a1 "com/example/gieres/gieres/model/TupleTable" "shift" "[I" (.ref b152) := F259.other W265 (Or.inl ne153)
  have F273 : Fld Z h265 a1 "com/example/gieres/gieres/model/TupleTable" "mask" "[J" (.ref b178) := F260.other W265 (Or.inl ne153)
  have V_274 : Arv Z h265 b178 k178 .long (3 : Int32) [(.long (((1 : Int64) <<< (c0 &&& 0x3f).toInt64) - (1 : Int64))), (.long (0 : Int64)), (.long (0 : Int64))] (.long (0 : Int64)) := V_262.other W265 (Ne.symm ne182)
  have V_275 : Arv Z h265 b129 k129 .int (3 : Int32) [(.int (0 : Int32)), (.int (0 : Int32)), (.int (0 : Int32))] (.int (0 : Int32)) := V_263.other W265 ne155
  have V_276 : Arv Z h265 b152 k152 .int (3 : Int32) [(.int (0 : Int32)), (.int c0), (.int (0 : Int32))] (.int (0 : Int32)) := Arv.set Ar265 qk265 Sz265 Nn265 Ha265 Ga265 rfl W265 1 rfl (Nat.le_of_ble_eq_true rfl)
  have N265 := Fr.snoc X265 N252 gn152
  show Go p e below _ (T265.setTop (mkF m 129 #[.val (.ref a1), .val (.ref a2), .val (.int (1 : Int32)), .val (.int c0), .val (.int (1 : Int32)), .val (.int c1)] []))
  refine Go.st (fun _ => XS.aloadN X265.here hx rfl (hb hby d1_129) rfl rfl) ?_
  show Go p e below _ (T265.setTop (mkF m 130 #[.val (.ref a1), .val (.ref a2), .val (.int (1 : Int32)), .val (.int c0), .val (.int (1 : Int32)), .val (.int c1)] [(.ref a1)]))
  obtain ⟨T277, X277, e277, st277⟩ := getF X265 hx hZ hown (host := "") (Or.inl (hw _ (List.mem_of_getElem? (i := 27) rfl))) Via.refl e265 F273 (g := (mkF m 130 #[.val (.ref a1), .val (.ref a2), .val (.int (1 : Int32)), .val (.int c0), .val (.int (1 : Int32)), .val (.int c1)] [(.ref a1)])) rfl rfl (hb hby d1_130)
  refine Go.st st277 ?_
  show Go p e below _ (T277.setTop (mkF m 133 #[.val (.ref a1), .val (.ref a2), .val (.int (1 : Int32)), .val (.int c0), .val (.int (1 : Int32)), .val (.int c1)] [(.ref b178)]))
  refine Go.st (fun _ => XS.iload X277.here hx rfl (hb hby d1_133) rfl) ?_
  refine Go.st (fun _ => XS.lconst X277.here hx rfl (hb hby d1_135)) ?_
  refine Go.st (fun _ => XS.iload X277.here hx rfl (hb hby d1_136) rfl) ?_
  refine Go.st (fun _ => XS.lshl X277.here hx rfl (hb hby d1_138) rfl) ?_
  refine Go.st (fun _ => XS.lconst X277.here hx rfl (hb hby d1_139)) ?_
  refine Go.st (fun _ => XS.lsub X277.here hx rfl (hb hby d1_140) rfl) ?_
  show Go p e below _ (T277.setTop (mkF m 141 #[.val (.ref a1), .val (.ref a2), .val (.int (1 : Int32)), .val (.int c0), .val (.int (1 : Int32)), .val (.int c1)] [(.long (((1 : Int64) <<< (c1 &&& 0x3f).toInt64) - (1 : Int64))), (.int (1 : Int32)), (.ref b178)]))
  obtain ⟨cl278, Ar278, qk278, Sz278, Nn278, Ha278, Ga278⟩ := id V_274
  have hin278 : ¬ ((1 : Int32) < 0 ∨ cl278.slots.size ≤ ((1 : Int32) : Int32).toNatClampNeg) := inb_of Sz278 ⟨by decide, by decide⟩
  obtain ⟨T278, h278, X278, e278, W278, st278⟩ := stJ X277 hx hZ e277 Ar278 (j := (1 : Int32)) hin278 (g := (mkF m 141 #[.val (.ref a1), .val (.ref a2), .val (.int (1 : Int32)), .val (.int c0), .val (.int (1 : Int32)), .val (.int c1)] [(.long (((1 : Int64) <<< (c1 &&& 0x3f).toInt64) - (1 : Int64))), (.int (1 : Int32)), (.ref b178)])) rfl rfl (hb hby d1_141)
  refine Go.st st278 ?_
  have O279 : Old Z n0 h278 := O266.wr W278 gn178
  have E_280 : Exa Z h278 a1 "com/example/gieres/gieres/model/TupleTable" := E_267.wr W278
  have F281 : Fld Z h278 a1 "com/example/gieres/gieres/model/TupleTable" "width" "I" (.int (0 : Int32)) := F268.other W278 (Or.inl ne179)
  have V_282 : Arv Z h278 a2 ka2 .long (3 : Int32) [(.long t0), (.long t1), (.long t2)] (.long (0 : Int64)) := V_269.other W278 ne180
  have K283 : Keep h0 h278 [a1] := K270.wr W278 (Or.inr sz178)
  have F284 : Fld Z h278 a1 "com/example/gieres/gieres/model/TupleTable" "word" "[I" (.ref b129) := F271.other W278 (Or.inl ne179)
  have F285 : Fld Z h278 a1 "com/example/gieres/gieres/model/TupleTable" "shift" "[I" (.ref b152) := F272.other W278 (Or.inl ne179)
  have F286 : Fld Z h278 a1 "com/example/gieres/gieres/model/TupleTable" "mask" "[J" (.ref b178) := F273.other W278 (Or.inl ne179)
  have V_287 : Arv Z h278 b129 k129 .int (3 : Int32) [(.int (0 : Int32)), (.int (0 : Int32)), (.int (0 : Int32))] (.int (0 : Int32)) := V_275.other W278 ne181
  have V_288 : Arv Z h278 b152 k152 .int (3 : Int32) [(.int (0 : Int32)), (.int c0), (.int (0 : Int32))] (.int (0 : Int32)) := V_276.other W278 ne182
  have V_289 : Arv Z h278 b178 k178 .long (3 : Int32) [(.long (((1 : Int64) <<< (c0 &&& 0x3f).toInt64) - (1 : Int64))), (.long (((1 : Int64) <<< (c1 &&& 0x3f).toInt64) - (1 : Int64))), (.long (0 : Int64))] (.long (0 : Int64)) := Arv.set Ar278 qk278 Sz278 Nn278 Ha278 Ga278 rfl W278 1 rfl (Nat.le_of_ble_eq_true rfl)
  have N278 := Fr.snoc X278 N265 gn178
  show Go p e below _ (T278.setTop (mkF m 142 #[.val (.ref a1), .val (.ref a2), .val (.int (1 : Int32)), .val (.int c0), .val (.int (1 : Int32)), .val (.int c1)] []))
  refine Go.st (fun _ => XS.iloadN X278.here hx rfl (hb hby d1_142) rfl) ?_
  refine Go.st (fun _ => XS.iload X278.here hx rfl (hb hby d1_143) rfl) ?_
  refine Go.st (fun _ => XS.iadd X278.here hx rfl (hb hby d1_145) rfl) ?_
  refine Go.st (fun _ => XS.istoreN X278.here hx rfl (hb hby d1_146) rfl (l' := #[.val (.ref a1), .val (.ref a2), .val (.int (1 : Int32)), .val (.int (c0 + c1)), .val (.int (1 : Int32)), .val (.int c1)]) rfl) ?_
  refine Go.st (fun _ => XS.iinc X278.here hx rfl (hb hby d1_147) rfl (l' := #[.val (.ref a1), .val (.ref a2), .val (.int (1 : Int32)), .val (.int (c0 + c1)), .val (.int (2 : Int32)), .val (.int c1)]) rfl) ?_
  refine Go.st (fun _ => XS.goto X278.here hx rfl (pc0 := 150) (pc' := 76) rfl (hb hby d1_150) (by decide) (by decide)) ?_
  refine Go.st (fun _ => XS.iload X278.here hx rfl (hb hby d1_76) rfl) ?_
  refine Go.st (fun _ => XS.aloadN X278.here hx rfl (hb hby d1_78) rfl rfl) ?_
  show Go p e below _ (T278.setTop (mkF m 79 #[.val (.ref a1), .val (.ref a2), .val (.int (1 : Int32)), .val (.int (c0 + c1)), .val (.int (2 : Int32)), .val (.int c1)] [(.ref a2), (.int (2 : Int32))]))
  obtain ⟨cl290, Ar290, qk290, Sz290, Nn290, Ha290, Ga290⟩ := id V_282
  refine Go.st (fun _ => X278.arraylength hx (by rw [e278]; exact Ar290.1) (State.isArrayOf_alike hZ.alike Ar290.2.1) (g := (mkF m 79 #[.val (.ref a1), .val (.ref a2), .val (.int (1 : Int32)), .val (.int (c0 + c1)), .val (.int (2 : Int32)), .val (.int c1)] [(.ref a2), (.int (2 : Int32))])) rfl rfl (hb hby d1_79) _) ?_
  rw [len_of Sz290 Nn290]
  show Go p e below _ (T278.setTop (mkF m 80 #[.val (.ref a1), .val (.ref a2), .val (.int (1 : Int32)), .val (.int (c0 + c1)), .val (.int (2 : Int32)), .val (.int c1)] [(.int (3 : Int32)), (.int (2 : Int32))]))
  refine Go.st (fun _ => XS.icmpNo X278.here hx rfl (hb hby d1_80) rfl (tlt (by decide : (2 : Int32) < (3 : Int32))).2.1) ?_
  refine Go.st (fun _ => XS.bipush X278.here hx rfl (hb hby d1_83)) ?_
  refine Go.st (fun _ => XS.aloadN X278.here hx rfl (hb hby d1_85) rfl rfl) ?_
  refine Go.st (fun _ => XS.iload X278.here hx rfl (hb hby d1_86) rfl) ?_
  show Go p e below _ (T278.setTop (mkF m 88 #[.val (.ref a1), .val (.ref a2), .val (.int (1 : Int32)), .val (.int (c0 + c1)), .val (.int (2 : Int32)), .val (.int c1)] [(.int (2 : Int32)), (.ref a2), (.int (64 : Int32))]))
  obtain ⟨cl291, Ar291, qk291, Sz291, Nn291, Ha291, Ga291⟩ := id V_282
  have hin291 : ¬ ((2 : Int32) < 0 ∨ cl291.slots.size ≤ ((2 : Int32) : Int32).toNatClampNeg) := inb_of Sz291 ⟨by decide, by decide⟩
  refine Go.st (fun _ => X278.laload hx (j := (2 : Int32)) (v := (.long t2)) (by rw [e278]; exact Ar291.1) (State.isArrayOf_alike hZ.alike Ar291.2.1) Ar291.2.2 hin291 (Has.at Ha291 hin291 rfl) (g := (mkF m 88 #[.val (.ref a1), .val (.ref a2), .val (.int (1 : Int32)), .val (.int (c0 + c1)), .val (.int (2 : Int32)), .val (.int c1)] [(.int (2 : Int32)), (.ref a2), (.int (64 : Int32))])) rfl rfl (hb hby d1_88) _) ?_
  show Go p e below _ (T278.setTop (mkF m 89 #[.val (.ref a1), .val (.ref a2), .val (.int (1 : Int32)), .val (.int (c0 + c1)), .val (.int (2 : Int32)), .val (.int c1)] [(.long t2), (.int (64 : Int32))]))
  refine Go.st (fun _ => XS.lconst X278.here hx rfl (hb hby d1_89)) ?_
  refine Go.st (fun _ => XS.lsub X278.here hx rfl (hb hby d1_90) rfl) ?_
  show Go p e below _ (T278.setTop (mkF m 91 #[.val (.ref a1), .val (.ref a2), .val (.int (1 : Int32)), .val (.int (c0 + c1)), .val (.int (2 : Int32)), .val (.int c1)] [(.long (t2 - (1 : Int64))), (.int (64 : Int32))]))
  refine goCallS X278 hx hZ (y := (⟨"java/lang/Long", "numberOfLeadingZeros", "(J)I"⟩ : MethodName)) hown (hw _ (List.mem_of_getElem? (i := 29) rfl)) (hw _ (List.mem_of_getElem? (i := 30) rfl)) (hw _ (List.mem_of_getElem? (i := 31) rfl)) (hw _ (List.mem_of_getElem? (i := 32) rfl)) (by decide) (argsL := [(.long (t2 - (1 : Int64)))]) (rest := [(.int (64 : Int32))]) e278 (rmN64 l Z a0 hw [] (t2 - (1 : Int64)) h278 n0 O279) 1 (by decide) (by decide) (by decide) (by decide) (mkF m 91 #[.val (.ref a1), .val (.ref a2), .val (.int (1 : Int32)), .val (.int (c0 + c1)), .val (.int (2 : Int32)), .val (.int c1)] [(.long (t2 - (1 : Int64))), (.int (64 : Int32))]) rfl (by rw [hml]; rfl) (lenOf pd_1 rfl) rfl (hb hby d1_91) (Nat.le_of_eq rfl) ?_
  intro v292 T292 L292 X292 hQ292
  obtain ⟨⟨z292, rfl, hN292⟩, M292, e292⟩ := hQ292
  have N292 := Fr.app N278 M292
  show Go p e below _ (T292.setTop (mkF m 94 #[.val (.ref a1), .val (.ref a2), .val (.int (1 : Int32)), .val (.int (c0 + c1)), .val (.int (2 : Int32)), .val (.int c1)] [(.int z292), (.int (64 : Int32))]))
  refine Go.st (fun _ => XS.isub X292.here hx rfl (hb hby d1_94) rfl) ?_
  show Go p e below _ (T292.setTop (mkF m 95 #[.val (.ref a1), .val (.ref a2), .val (.int (1 : Int32)), .val (.int (c0 + c1)), .val (.int (2 : Int32)), .val (.int c1)] [(.int ((64 : Int32) - z292))]))
  obtain ⟨c2, hc2, B2⟩ := own_bits_of hN292 ht2
  rw [hc2]
  show Go p e below _ (T292.setTop (mkF m 95 #[.val (.ref a1), .val (.ref a2), .val (.int (1 : Int32)), .val (.int (c0 + c1)), .val (.int (2 : Int32)), .val (.int c1)] [(.int c2)]))
  refine Go.st (fun _ => XS.istore X292.here hx rfl (hb hby d1_95) rfl (l' := #[.val (.ref a1), .val (.ref a2), .val (.int (1 : Int32)), .val (.int (c0 + c1)), .val (.int (2 : Int32)), .val (.int c2)]) rfl) ?_
  refine Go.st (fun _ => XS.iloadN X292.here hx rfl (hb hby d1_97) rfl) ?_
  refine Go.st (fun _ => XS.iload X292.here hx rfl (hb hby d1_98) rfl) ?_
  refine Go.st (fun _ => XS.iadd X292.here hx rfl (hb hby d1_100) rfl) ?_
  refine Go.st (fun _ => XS.bipush X292.here hx rfl (hb hby d1_101)) ?_
  by_cases hc293 : (64 : Int32) < ((c0 + c1) + c2)
  · refine Go.st (fun _ => XS.icmpNo X292.here hx rfl (hb hby d1_103) rfl (tlt hc293).2.2.2) ?_
    refine Go.st (fun _ => XS.iinc X292.here hx rfl (hb hby d1_106) rfl (l' := #[.val (.ref a1), .val (.ref a2), .val (.int (2 : Int32)), .val (.int (c0 + c1)), .val (.int (2 : Int32)), .val (.int c2)]) rfl) ?_
    refine Go.st (fun _ => XS.iconst X292.here hx rfl (hb hby d1_109)) ?_
    refine Go.st (fun _ => XS.istoreN X292.here hx rfl (hb hby d1_110) rfl (l' := #[.val (.ref a1), .val (.ref a2), .val (.int (2 : Int32)), .val (.int (0 : Int32)), .val (.int (2 : Int32)), .val (.int c2)]) rfl) ?_
    refine Go.st (fun _ => XS.aloadN X292.here hx rfl (hb hby d1_111) rfl rfl) ?_
    show Go p e below _ (T292.setTop (mkF m 112 #[.val (.ref a1), .val (.ref a2), .val (.int (2 : Int32)), .val (.int (0 : Int32)), .val (.int (2 : Int32)), .val (.int c2)] [(.ref a1)]))
    obtain ⟨T294, X294, e294, st294⟩ := getF X292 hx hZ hown (host := "") (Or.inl (hw _ (List.mem_of_getElem? (i := 23) rfl))) Via.refl e292 F284 (g := (mkF m 112 #[.val (.ref a1), .val (.ref a2), .val (.int (2 : Int32)), .val (.int (0 : Int32)), .val (.int (2 : Int32)), .val (.int c2)] [(.ref a1)])) rfl rfl (hb hby d1_112)
    refine Go.st st294 ?_
    show Go p e below _ (T294.setTop (mkF m 115 #[.val (.ref a1), .val (.ref a2), .val (.int (2 : Int32)), .val (.int (0 : Int32)), .val (.int (2 : Int32)), .val (.int c2)] [(.ref b129)]))
    refine Go.st (fun _ => XS.iload X294.here hx rfl (hb hby d1_115) rfl) ?_
    refine Go.st (fun _ => XS.iloadN X294.here hx rfl (hb hby d1_117) rfl) ?_
    refine Go.st (fun _ => XS.iconst X294.here hx rfl (hb hby d1_118)) ?_
    refine Go.st (fun _ => XS.isub X294.here hx rfl (hb hby d1_119) rfl) ?_
    show Go p e below _ (T294.setTop (mkF m 120 #[.val (.ref a1), .val (.ref a2), .val (.int (2 : Int32)), .val (.int (0 : Int32)), .val (.int (2 : Int32)), .val (.int c2)] [(.int (1 : Int32)), (.int (2 : Int32)), (.ref b129)]))
    obtain ⟨cl295, Ar295, qk295, Sz295, Nn295, Ha295, Ga295⟩ := id V_287
    have hin295 : ¬ ((2 : Int32) < 0 ∨ cl295.slots.size ≤ ((2 : Int32) : Int32).toNatClampNeg) := inb_of Sz295 ⟨by decide, by decide⟩
    obtain ⟨T295, h295, X295, e295, W295, st295⟩ := stI X294 hx hZ e294 Ar295 (j := (2 : Int32)) hin295 (g := (mkF m 120 #[.val (.ref a1), .val (.ref a2), .val (.int (2 : Int32)), .val (.int (0 : Int32)), .val (.int (2 : Int32)), .val (.int c2)] [(.int (1 : Int32)), (.int (2 : Int32)), (.ref b129)])) rfl rfl (hb hby d1_120)
    refine Go.st st295 ?_
    have O296 : Old Z n0 h295 := O279.wr W295 gn129
    have E_297 : Exa Z h295 a1 "com/example/gieres/gieres/model/TupleTable" := E_280.wr W295
    have F298 : Fld Z h295 a1 "com/example/gieres/gieres/model/TupleTable" "width" "I" (.int (0 : Int32)) := F281.other W295 (Or.inl ne130)
    have V_299 : Arv Z h295 a2 ka2 .long (3 : Int32) [(.long t0), (.long t1), (.long t2)] (.long (0 : Int64)) := V_282.other W295 ne131
    have K300 : Keep h0 h295 [a1] := K283.wr W295 (Or.inr sz129)
    have F301 : Fld Z h295 a1 "com/example/gieres/gieres/model/TupleTable" "word" "[I" (.ref b129) := F284.other W295 (Or.inl ne130)
    have F302 : Fld Z h295 a1 "com/example/gieres/gieres/model/TupleTable" "shift" "[I" (.ref b152) := F285.other W295 (Or.inl ne130)
    have F303 : Fld Z h295 a1 "com/example/gieres/gieres/model/TupleTable" "mask" "[J" (.ref b178) := F286.other W295 (Or.inl ne130)
    have V_304 : Arv Z h295 b152 k152 .int (3 : Int32) [(.int (0 : Int32)), (.int c0), (.int (0 : Int32))] (.int (0 : Int32)) := V_288.other W295 (Ne.symm ne155)
    have V_305 : Arv Z h295 b178 k178 .long (3 : Int32) [(.long (((1 : Int64) <<< (c0 &&& 0x3f).toInt64) - (1 : Int64))), (.long (((1 : Int64) <<< (c1 &&& 0x3f).toInt64) - (1 : Int64))), (.long (0 : Int64))] (.long (0 : Int64)) := V_289.other W295 (Ne.symm ne181)
    have V_306 : Arv Z h295 b129 k129 .int (3 : Int32) [(.int (0 : Int32)), (.int (0 : Int32)), (.int (1 : Int32))] (.int (0 : Int32)) := Arv.set Ar295 qk295 Sz295 Nn295 Ha295 Ga295 rfl W295 2 rfl (Nat.le_of_ble_eq_true rfl)
    have N295 := Fr.snoc X295 N292 gn129
    show Go p e below _ (T295.setTop (mkF m 121 #[.val (.ref a1), .val (.ref a2), .val (.int (2 : Int32)), .val (.int (0 : Int32)), .val (.int (2 : Int32)), .val (.int c2)] []))
    refine Go.st (fun _ => XS.aloadN X295.here hx rfl (hb hby d1_121) rfl rfl) ?_
    show Go p e below _ (T295.setTop (mkF m 122 #[.val (.ref a1), .val (.ref a2), .val (.int (2 : Int32)), .val (.int (0 : Int32)), .val (.int (2 : Int32)), .val (.int c2)] [(.ref a1)]))
    obtain ⟨T307, X307, e307, st307⟩ := getF X295 hx hZ hown (host := "") (Or.inl (hw _ (List.mem_of_getElem? (i := 25) rfl))) Via.refl e295 F302 (g := (mkF m 122 #[.val (.ref a1), .val (.ref a2), .val (.int (2 : Int32)), .val (.int (0 : Int32)), .val (.int (2 : Int32)), .val (.int c2)] [(.ref a1)])) rfl rfl (hb hby d1_122)
    refine Go.st st307 ?_
    show Go p e below _ (T307.setTop (mkF m 125 #[.val (.ref a1), .val (.ref a2), .val (.int (2 : Int32)), .val (.int (0 : Int32)), .val (.int (2 : Int32)), .val (.int c2)] [(.ref b152)]))
    refine Go.st (fun _ => XS.iload X307.here hx rfl (hb hby d1_125) rfl) ?_
    refine Go.st (fun _ => XS.iloadN X307.here hx rfl (hb hby d1_127) rfl) ?_
    show Go p e below _ (T307.setTop (mkF m 128 #[.val (.ref a1), .val (.ref a2), .val (.int (2 : Int32)), .val (.int (0 : Int32)), .val (.int (2 : Int32)), .val (.int c2)] [(.int (0 : Int32)), (.int (2 : Int32)), (.ref b152)]))
    obtain ⟨cl308, Ar308, qk308, Sz308, Nn308, Ha308, Ga308⟩ := id V_304
    have hin308 : ¬ ((2 : Int32) < 0 ∨ cl308.slots.size ≤ ((2 : Int32) : Int32).toNatClampNeg) := inb_of Sz308 ⟨by decide, by decide⟩
    obtain ⟨T308, h308, X308, e308, W308, st308⟩ := stI X307 hx hZ e307 Ar308 (j := (2 : Int32)) hin308 (g := (mkF m 128 #[.val (.ref a1), .val (.ref a2), .val (.int (2 : Int32)), .val (.int (0 : Int32)), .val (.int (2 : Int32)), .val (.int c2)] [(.int (0 : Int32)), (.int (2 : Int32)), (.ref b152)])) rfl rfl (hb hby d1_128)
    refine Go.st st308 ?_
    have O309 : Old Z n0 h308 := O296.wr W308 gn152
    have E_310 : Exa Z h308 a1 "com/example/gieres/gieres/model/TupleTable" := E_297.wr W308
    have F311 : Fld Z h308 a1 "com/example/gieres/gieres/model/TupleTable" "width" "I" (.int (0 : Int32)) := F298.other W308 (Or.inl ne153)
    have V_312 : Arv Z h308 a2 ka2 .long (3 : Int32) [(.long t0), (.long t1), (.long t2)] (.long (0 : Int64)) := V_299.other W308 ne154
    have K313 : Keep h0 h308 [a1] := K300.wr W308 (Or.inr sz152)
    have F314 : Fld Z h308 a1 "com/example/gieres/gieres/model/TupleTable" "word" "[I" (.ref b129) := F301.other W308 (Or.inl ne153)
    have F315 : Fld Z h308 a1 "com/example/gieres/gieres/model/TupleTable" "shift" "[I" (.ref b152) := F302.other W308 (Or.inl ne153)
    have F316 : Fld Z h308 a1 "com/example/gieres/gieres/model/TupleTable" "mask" "[J" (.ref b178) := F303.other W308 (Or.inl ne153)
    have V_317 : Arv Z h308 b178 k178 .long (3 : Int32) [(.long (((1 : Int64) <<< (c0 &&& 0x3f).toInt64) - (1 : Int64))), (.long (((1 : Int64) <<< (c1 &&& 0x3f).toInt64) - (1 : Int64))), (.long (0 : Int64))] (.long (0 : Int64)) := V_305.other W308 (Ne.symm ne182)
    have V_318 : Arv Z h308 b129 k129 .int (3 : Int32) [(.int (0 : Int32)), (.int (0 : Int32)), (.int (1 : Int32))] (.int (0 : Int32)) := V_306.other W308 ne155
    have V_319 : Arv Z h308 b152 k152 .int (3 : Int32) [(.int (0 : Int32)), (.int c0), (.int (0 : Int32))] (.int (0 : Int32)) := Arv.set Ar308 qk308 Sz308 Nn308 Ha308 Ga308 rfl W308 2 rfl (Nat.le_of_ble_eq_true rfl)
    have N308 := Fr.snoc X308 N295 gn152
    show Go p e below _ (T308.setTop (mkF m 129 #[.val (.ref a1), .val (.ref a2), .val (.int (2 : Int32)), .val (.int (0 : Int32)), .val (.int (2 : Int32)), .val (.int c2)] []))
    refine Go.st (fun _ => XS.aloadN X308.here hx rfl (hb hby d1_129) rfl rfl) ?_
    show Go p e below _ (T308.setTop (mkF m 130 #[.val (.ref a1), .val (.ref a2), .val (.int (2 : Int32)), .val (.int (0 : Int32)), .val (.int (2 : Int32)), .val (.int c2)] [(.ref a1)]))
    obtain ⟨T320, X320, e320, st320⟩ := getF X308 hx hZ hown (host := "") (Or.inl (hw _ (List.mem_of_getElem? (i := 27) rfl))) Via.refl e308 F316 (g := (mkF m 130 #[.val (.ref a1), .val (.ref a2), .val (.int (2 : Int32)), .val (.int (0 : Int32)), .val (.int (2 : Int32)), .val (.int c2)] [(.ref a1)])) rfl rfl (hb hby d1_130)
    refine Go.st st320 ?_
    show Go p e below _ (T320.setTop (mkF m 133 #[.val (.ref a1), .val (.ref a2), .val (.int (2 : Int32)), .val (.int (0 : Int32)), .val (.int (2 : Int32)), .val (.int c2)] [(.ref b178)]))
    refine Go.st (fun _ => XS.iload X320.here hx rfl (hb hby d1_133) rfl) ?_
    refine Go.st (fun _ => XS.lconst X320.here hx rfl (hb hby d1_135)) ?_
    refine Go.st (fun _ => XS.iload X320.here hx rfl (hb hby d1_136) rfl) ?_
    refine Go.st (fun _ => XS.lshl X320.here hx rfl (hb hby d1_138) rfl) ?_
    refine Go.st (fun _ => XS.lconst X320.here hx rfl (hb hby d1_139)) ?_
    refine Go.st (fun _ => XS.lsub X320.here hx rfl (hb hby d1_140) rfl) ?_
    show Go p e below _ (T320.setTop (mkF m 141 #[.val (.ref a1), .val (.ref a2), .val (.int (2 : Int32)), .val (.int (0 : Int32)), .val (.int (2 : Int32)), .val (.int c2)] [(.long (((1 : Int64) <<< (c2 &&& 0x3f).toInt64) - (1 : Int64))), (.int (2 : Int32)), (.ref b178)]))
    obtain ⟨cl321, Ar321, qk321, Sz321, Nn321, Ha321, Ga321⟩ := id V_317
    have hin321 : ¬ ((2 : Int32) < 0 ∨ cl321.slots.size ≤ ((2 : Int32) : Int32).toNatClampNeg) := inb_of Sz321 ⟨by decide, by decide⟩
    obtain ⟨T321, h321, X321, e321, W321, st321⟩ := stJ X320 hx hZ e320 Ar321 (j := (2 : Int32)) hin321 (g := (mkF m 141 #[.val (.ref a1), .val (.ref a2), .val (.int (2 : Int32)), .val (.int (0 : Int32)), .val (.int (2 : Int32)), .val (.int c2)] [(.long (((1 : Int64) <<< (c2 &&& 0x3f).toInt64) - (1 : Int64))), (.int (2 : Int32)), (.ref b178)])) rfl rfl (hb hby d1_141)
    refine Go.st st321 ?_
    have O322 : Old Z n0 h321 := O309.wr W321 gn178
    have E_323 : Exa Z h321 a1 "com/example/gieres/gieres/model/TupleTable" := E_310.wr W321
    have F324 : Fld Z h321 a1 "com/example/gieres/gieres/model/TupleTable" "width" "I" (.int (0 : Int32)) := F311.other W321 (Or.inl ne179)
    have V_325 : Arv Z h321 a2 ka2 .long (3 : Int32) [(.long t0), (.long t1), (.long t2)] (.long (0 : Int64)) := V_312.other W321 ne180
    have K326 : Keep h0 h321 [a1] := K313.wr W321 (Or.inr sz178)
    have F327 : Fld Z h321 a1 "com/example/gieres/gieres/model/TupleTable" "word" "[I" (.ref b129) := F314.other W321 (Or.inl ne179)
    have F328 : Fld Z h321 a1 "com/example/gieres/gieres/model/TupleTable" "shift" "[I" (.ref b152) := F315.other W321 (Or.inl ne179)
    have F329 : Fld Z h321 a1 "com/example/gieres/gieres/model/TupleTable" "mask" "[J" (.ref b178) := F316.other W321 (Or.inl ne179)
    have V_330 : Arv Z h321 b129 k129 .int (3 : Int32) [(.int (0 : Int32)), (.int (0 : Int32)), (.int (1 : Int32))] (.int (0 : Int32)) := V_318.other W321 ne181
    have V_331 : Arv Z h321 b152 k152 .int (3 : Int32) [(.int (0 : Int32)), (.int c0), (.int (0 : Int32))] (.int (0 : Int32)) := V_319.other W321 ne182
    have V_332 : Arv Z h321 b178 k178 .long (3 : Int32) [(.long (((1 : Int64) <<< (c0 &&& 0x3f).toInt64) - (1 : Int64))), (.long (((1 : Int64) <<< (c1 &&& 0x3f).toInt64) - (1 : Int64))), (.long (((1 : Int64) <<< (c2 &&& 0x3f).toInt64) - (1 : Int64)))] (.long (0 : Int64)) := Arv.set Ar321 qk321 Sz321 Nn321 Ha321 Ga321 rfl W321 2 rfl (Nat.le_of_ble_eq_true rfl)
    have N321 := Fr.snoc X321 N308 gn178
    show Go p e below _ (T321.setTop (mkF m 142 #[.val (.ref a1), .val (.ref a2), .val (.int (2 : Int32)), .val (.int (0 : Int32)), .val (.int (2 : Int32)), .val (.int c2)] []))
    refine Go.st (fun _ => XS.iloadN X321.here hx rfl (hb hby d1_142) rfl) ?_
    refine Go.st (fun _ => XS.iload X321.here hx rfl (hb hby d1_143) rfl) ?_
    refine Go.st (fun _ => XS.iadd X321.here hx rfl (hb hby d1_145) rfl) ?_
    refine Go.st (fun _ => XS.istoreN X321.here hx rfl (hb hby d1_146) rfl (l' := #[.val (.ref a1), .val (.ref a2), .val (.int (2 : Int32)), .val (.int ((0 : Int32) + c2)), .val (.int (2 : Int32)), .val (.int c2)]) rfl) ?_
    refine Go.st (fun _ => XS.iinc X321.here hx rfl (hb hby d1_147) rfl (l' := #[.val (.ref a1), .val (.ref a2), .val (.int (2 : Int32)), .val (.int ((0 : Int32) + c2)), .val (.int (3 : Int32)), .val (.int c2)]) rfl) ?_
    refine Go.st (fun _ => XS.goto X321.here hx rfl (pc0 := 150) (pc' := 76) rfl (hb hby d1_150) (by decide) (by decide)) ?_
    refine Go.st (fun _ => XS.iload X321.here hx rfl (hb hby d1_76) rfl) ?_
    refine Go.st (fun _ => XS.aloadN X321.here hx rfl (hb hby d1_78) rfl rfl) ?_
    show Go p e below _ (T321.setTop (mkF m 79 #[.val (.ref a1), .val (.ref a2), .val (.int (2 : Int32)), .val (.int ((0 : Int32) + c2)), .val (.int (3 : Int32)), .val (.int c2)] [(.ref a2), (.int (3 : Int32))]))
    obtain ⟨cl333, Ar333, qk333, Sz333, Nn333, Ha333, Ga333⟩ := id V_325
    refine Go.st (fun _ => X321.arraylength hx (by rw [e321]; exact Ar333.1) (State.isArrayOf_alike hZ.alike Ar333.2.1) (g := (mkF m 79 #[.val (.ref a1), .val (.ref a2), .val (.int (2 : Int32)), .val (.int ((0 : Int32) + c2)), .val (.int (3 : Int32)), .val (.int c2)] [(.ref a2), (.int (3 : Int32))])) rfl rfl (hb hby d1_79) _) ?_
    rw [len_of Sz333 Nn333]
    show Go p e below _ (T321.setTop (mkF m 80 #[.val (.ref a1), .val (.ref a2), .val (.int (2 : Int32)), .val (.int ((0 : Int32) + c2)), .val (.int (3 : Int32)), .val (.int c2)] [(.int (3 : Int32)), (.int (3 : Int32))]))
    refine Go.st (fun _ => XS.icmpYes X321.here hx rfl (pc0 := 80) (pc' := 153) rfl (hb hby d1_80) rfl (flt (by decide : ¬ ((3 : Int32) < (3 : Int32)))).2.1 (by decide) (by decide)) ?_
    refine Go.st (fun _ => XS.aloadN X321.here hx rfl (hb hby d1_153) rfl rfl) ?_
    refine Go.st (fun _ => XS.iloadN X321.here hx rfl (hb hby d1_154) rfl) ?_
    show Go p e below _ (T321.setTop (mkF m 155 #[.val (.ref a1), .val (.ref a2), .val (.int (2 : Int32)), .val (.int ((0 : Int32) + c2)), .val (.int (3 : Int32)), .val (.int c2)] [(.int (2 : Int32)), (.ref a1)]))
    obtain ⟨T334, h334, X334, e334, W334, st334⟩ := putF X321 hx hZ hown (host := "") (Or.inl (hw _ (List.mem_of_getElem? (i := 37) rfl))) Via.refl e321 F324 E_323 (Or.inr ⟨(hw _ (List.mem_of_getElem? (i := 38) rfl)), rfl, hnm⟩) (hw _ (List.mem_of_getElem? (i := 2) rfl)) (ty := .int) (by decide) rfl rfl (g := (mkF m 155 #[.val (.ref a1), .val (.ref a2), .val (.int (2 : Int32)), .val (.int ((0 : Int32) + c2)), .val (.int (3 : Int32)), .val (.int c2)] [(.int (2 : Int32)), (.ref a1)])) rfl rfl (hb hby d1_155)
    refine Go.st st334 ?_
    have O335 : Old Z n0 h334 := O322.wr W334 g1
    have E_336 : Exa Z h334 a1 "com/example/gieres/gieres/model/TupleTable" := E_323.wr W334
    have V_337 : Arv Z h334 a2 ka2 .long (3 : Int32) [(.long t0), (.long t1), (.long t2)] (.long (0 : Int64)) := V_325.other W334 ne21
    have K338 : Keep h0 h334 [a1] := K326.wr W334 (Or.inl (List.mem_of_getElem? (i := 0) rfl))
    have F339 : Fld Z h334 a1 "com/example/gieres/gieres/model/TupleTable" "word" "[I" (.ref b129) := F327.other W334 (Or.inr (slot_ne (Or.inr (hw _ (List.mem_of_getElem? (i := 24) rfl))) (Or.inr (hw _ (List.mem_of_getElem? (i := 38) rfl))) (by decide) (t := (.array .int)) (t' := .int) (by decide) (by decide)))
    have F340 : Fld Z h334 a1 "com/example/gieres/gieres/model/TupleTable" "shift" "[I" (.ref b152) := F328.other W334 (Or.inr (slot_ne (Or.inr (hw _ (List.mem_of_getElem? (i := 26) rfl))) (Or.inr (hw _ (List.mem_of_getElem? (i := 38) rfl))) (by decide) (t := (.array .int)) (t' := .int) (by decide) (by decide)))
    have F341 : Fld Z h334 a1 "com/example/gieres/gieres/model/TupleTable" "mask" "[J" (.ref b178) := F329.other W334 (Or.inr (slot_ne (Or.inr (hw _ (List.mem_of_getElem? (i := 28) rfl))) (Or.inr (hw _ (List.mem_of_getElem? (i := 38) rfl))) (by decide) (t := (.array .long)) (t' := .int) (by decide) (by decide)))
    have V_342 : Arv Z h334 b129 k129 .int (3 : Int32) [(.int (0 : Int32)), (.int (0 : Int32)), (.int (1 : Int32))] (.int (0 : Int32)) := V_330.other W334 (Ne.symm ne130)
    have V_343 : Arv Z h334 b152 k152 .int (3 : Int32) [(.int (0 : Int32)), (.int c0), (.int (0 : Int32))] (.int (0 : Int32)) := V_331.other W334 (Ne.symm ne153)
    have V_344 : Arv Z h334 b178 k178 .long (3 : Int32) [(.long (((1 : Int64) <<< (c0 &&& 0x3f).toInt64) - (1 : Int64))), (.long (((1 : Int64) <<< (c1 &&& 0x3f).toInt64) - (1 : Int64))), (.long (((1 : Int64) <<< (c2 &&& 0x3f).toInt64) - (1 : Int64)))] (.long (0 : Int64)) := V_332.other W334 (Ne.symm ne179)
    have F345 : Fld Z h334 a1 "com/example/gieres/gieres/model/TupleTable" "width" "I" (.int (2 : Int32)) := F324.same W334
    have N334 := Fr.snoc X334 N321 g1
    show Go p e below _ (T334.setTop (mkF m 158 #[.val (.ref a1), .val (.ref a2), .val (.int (2 : Int32)), .val (.int ((0 : Int32) + c2)), .val (.int (3 : Int32)), .val (.int c2)] []))
    exact goRetV X334 hx hlk hret e334 (hb hby d1_158) (by decide) (by decide) ⟨rfl, N334, K338, c0, c1, c2, _, _, _, b129, b152, b178, _, _, _, B0, B1, B2, (Or.inr ⟨hc293, rfl, rfl, rfl⟩), F339, V_342, F340, V_343, F341, V_344, F345⟩
  · refine Go.st (fun _ => XS.icmpYes X292.here hx rfl (pc0 := 103) (pc' := 111) rfl (hb hby d1_103) rfl (flt hc293).2.2.2 (by decide) (by decide)) ?_
    refine Go.st (fun _ => XS.aloadN X292.here hx rfl (hb hby d1_111) rfl rfl) ?_
    show Go p e below _ (T292.setTop (mkF m 112 #[.val (.ref a1), .val (.ref a2), .val (.int (1 : Int32)), .val (.int (c0 + c1)), .val (.int (2 : Int32)), .val (.int c2)] [(.ref a1)]))
    obtain ⟨T346, X346, e346, st346⟩ := getF X292 hx hZ hown (host := "") (Or.inl (hw _ (List.mem_of_getElem? (i := 23) rfl))) Via.refl e292 F284 (g := (mkF m 112 #[.val (.ref a1), .val (.ref a2), .val (.int (1 : Int32)), .val (.int (c0 + c1)), .val (.int (2 : Int32)), .val (.int c2)] [(.ref a1)])) rfl rfl (hb hby d1_112)
    refine Go.st st346 ?_
    show Go p e below _ (T346.setTop (mkF m 115 #[.val (.ref a1), .val (.ref a2), .val (.int (1 : Int32)), .val (.int (c0 + c1)), .val (.int (2 : Int32)), .val (.int c2)] [(.ref b129)]))
    refine Go.st (fun _ => XS.iload X346.here hx rfl (hb hby d1_115) rfl) ?_
    refine Go.st (fun _ => XS.iloadN X346.here hx rfl (hb hby d1_117) rfl) ?_
    refine Go.st (fun _ => XS.iconst X346.here hx rfl (hb hby d1_118)) ?_
    refine Go.st (fun _ => XS.isub X346.here hx rfl (hb hby d1_119) rfl) ?_
    show Go p e below _ (T346.setTop (mkF m 120 #[.val (.ref a1), .val (.ref a2), .val (.int (1 : Int32)), .val (.int (c0 + c1)), .val (.int (2 : Int32)), .val (.int c2)] [(.int (0 : Int32)), (.int (2 : Int32)), (.ref b129)]))
    obtain ⟨cl347, Ar347, qk347, Sz347, Nn347, Ha347, Ga347⟩ := id V_287
    have hin347 : ¬ ((2 : Int32) < 0 ∨ cl347.slots.size ≤ ((2 : Int32) : Int32).toNatClampNeg) := inb_of Sz347 ⟨by decide, by decide⟩
    obtain ⟨T347, h347, X347, e347, W347, st347⟩ := stI X346 hx hZ e346 Ar347 (j := (2 : Int32)) hin347 (g := (mkF m 120 #[.val (.ref a1), .val (.ref a2), .val (.int (1 : Int32)), .val (.int (c0 + c1)), .val (.int (2 : Int32)), .val (.int c2)] [(.int (0 : Int32)), (.int (2 : Int32)), (.ref b129)])) rfl rfl (hb hby d1_120)
    refine Go.st st347 ?_
    have O348 : Old Z n0 h347 := O279.wr W347 gn129
    have E_349 : Exa Z h347 a1 "com/example/gieres/gieres/model/TupleTable" := E_280.wr W347
    have F350 : Fld Z h347 a1 "com/example/gieres/gieres/model/TupleTable" "width" "I" (.int (0 : Int32)) := F281.other W347 (Or.inl ne130)
    have V_351 : Arv Z h347 a2 ka2 .long (3 : Int32) [(.long t0), (.long t1), (.long t2)] (.long (0 : Int64)) := V_282.other W347 ne131
    have K352 : Keep h0 h347 [a1] := K283.wr W347 (Or.inr sz129)
    have F353 : Fld Z h347 a1 "com/example/gieres/gieres/model/TupleTable" "word" "[I" (.ref b129) := F284.other W347 (Or.inl ne130)
    have F354 : Fld Z h347 a1 "com/example/gieres/gieres/model/TupleTable" "shift" "[I" (.ref b152) := F285.other W347 (Or.inl ne130)
    have F355 : Fld Z h347 a1 "com/example/gieres/gieres/model/TupleTable" "mask" "[J" (.ref b178) := F286.other W347 (Or.inl ne130)
    have V_356 : Arv Z h347 b152 k152 .int (3 : Int32) [(.int (0 : Int32)), (.int c0), (.int (0 : Int32))] (.int (0 : Int32)) := V_288.other W347 (Ne.symm ne155)
    have V_357 : Arv Z h347 b178 k178 .long (3 : Int32) [(.long (((1 : Int64) <<< (c0 &&& 0x3f).toInt64) - (1 : Int64))), (.long (((1 : Int64) <<< (c1 &&& 0x3f).toInt64) - (1 : Int64))), (.long (0 : Int64))] (.long (0 : Int64)) := V_289.other W347 (Ne.symm ne181)
    have V_358 : Arv Z h347 b129 k129 .int (3 : Int32) [(.int (0 : Int32)), (.int (0 : Int32)), (.int (0 : Int32))] (.int (0 : Int32)) := Arv.set Ar347 qk347 Sz347 Nn347 Ha347 Ga347 rfl W347 2 rfl (Nat.le_of_ble_eq_true rfl)
    have N347 := Fr.snoc X347 N292 gn129
    show Go p e below _ (T347.setTop (mkF m 121 #[.val (.ref a1), .val (.ref a2), .val (.int (1 : Int32)), .val (.int (c0 + c1)), .val (.int (2 : Int32)), .val (.int c2)] []))
    refine Go.st (fun _ => XS.aloadN X347.here hx rfl (hb hby d1_121) rfl rfl) ?_
    show Go p e below _ (T347.setTop (mkF m 122 #[.val (.ref a1), .val (.ref a2), .val (.int (1 : Int32)), .val (.int (c0 + c1)), .val (.int (2 : Int32)), .val (.int c2)] [(.ref a1)]))
    obtain ⟨T359, X359, e359, st359⟩ := getF X347 hx hZ hown (host := "") (Or.inl (hw _ (List.mem_of_getElem? (i := 25) rfl))) Via.refl e347 F354 (g := (mkF m 122 #[.val (.ref a1), .val (.ref a2), .val (.int (1 : Int32)), .val (.int (c0 + c1)), .val (.int (2 : Int32)), .val (.int c2)] [(.ref a1)])) rfl rfl (hb hby d1_122)
    refine Go.st st359 ?_
    show Go p e below _ (T359.setTop (mkF m 125 #[.val (.ref a1), .val (.ref a2), .val (.int (1 : Int32)), .val (.int (c0 + c1)), .val (.int (2 : Int32)), .val (.int c2)] [(.ref b152)]))
    refine Go.st (fun _ => XS.iload X359.here hx rfl (hb hby d1_125) rfl) ?_
    refine Go.st (fun _ => XS.iloadN X359.here hx rfl (hb hby d1_127) rfl) ?_
    show Go p e below _ (T359.setTop (mkF m 128 #[.val (.ref a1), .val (.ref a2), .val (.int (1 : Int32)), .val (.int (c0 + c1)), .val (.int (2 : Int32)), .val (.int c2)] [(.int (c0 + c1)), (.int (2 : Int32)), (.ref b152)]))
    obtain ⟨cl360, Ar360, qk360, Sz360, Nn360, Ha360, Ga360⟩ := id V_356
    have hin360 : ¬ ((2 : Int32) < 0 ∨ cl360.slots.size ≤ ((2 : Int32) : Int32).toNatClampNeg) := inb_of Sz360 ⟨by decide, by decide⟩
    obtain ⟨T360, h360, X360, e360, W360, st360⟩ := stI X359 hx hZ e359 Ar360 (j := (2 : Int32)) hin360 (g := (mkF m 128 #[.val (.ref a1), .val (.ref a2), .val (.int (1 : Int32)), .val (.int (c0 + c1)), .val (.int (2 : Int32)), .val (.int c2)] [(.int (c0 + c1)), (.int (2 : Int32)), (.ref b152)])) rfl rfl (hb hby d1_128)
    refine Go.st st360 ?_
    have O361 : Old Z n0 h360 := O348.wr W360 gn152
    have E_362 : Exa Z h360 a1 "com/example/gieres/gieres/model/TupleTable" := E_349.wr W360
    have F363 : Fld Z h360 a1 "com/example/gieres/gieres/model/TupleTable" "width" "I" (.int (0 : Int32)) := F350.other W360 (Or.inl ne153)
    have V_364 : Arv Z h360 a2 ka2 .long (3 : Int32) [(.long t0), (.long t1), (.long t2)] (.long (0 : Int64)) := V_351.other W360 ne154
    have K365 : Keep h0 h360 [a1] := K352.wr W360 (Or.inr sz152)
    have F366 : Fld Z h360 a1 "com/example/gieres/gieres/model/TupleTable" "word" "[I" (.ref b129) := F353.other W360 (Or.inl ne153)
    have F367 : Fld Z h360 a1 "com/example/gieres/gieres/model/TupleTable" "shift" "[I" (.ref b152) := F354.other W360 (Or.inl ne153)
    have F368 : Fld Z h360 a1 "com/example/gieres/gieres/model/TupleTable" "mask" "[J" (.ref b178) := F355.other W360 (Or.inl ne153)
    have V_369 : Arv Z h360 b178 k178 .long (3 : Int32) [(.long (((1 : Int64) <<< (c0 &&& 0x3f).toInt64) - (1 : Int64))), (.long (((1 : Int64) <<< (c1 &&& 0x3f).toInt64) - (1 : Int64))), (.long (0 : Int64))] (.long (0 : Int64)) := V_357.other W360 (Ne.symm ne182)
    have V_370 : Arv Z h360 b129 k129 .int (3 : Int32) [(.int (0 : Int32)), (.int (0 : Int32)), (.int (0 : Int32))] (.int (0 : Int32)) := V_358.other W360 ne155
    have V_371 : Arv Z h360 b152 k152 .int (3 : Int32) [(.int (0 : Int32)), (.int c0), (.int (c0 + c1))] (.int (0 : Int32)) := Arv.set Ar360 qk360 Sz360 Nn360 Ha360 Ga360 rfl W360 2 rfl (Nat.le_of_ble_eq_true rfl)
    have N360 := Fr.snoc X360 N347 gn152
    show Go p e below _ (T360.setTop (mkF m 129 #[.val (.ref a1), .val (.ref a2), .val (.int (1 : Int32)), .val (.int (c0 + c1)), .val (.int (2 : Int32)), .val (.int c2)] []))
    refine Go.st (fun _ => XS.aloadN X360.here hx rfl (hb hby d1_129) rfl rfl) ?_
    show Go p e below _ (T360.setTop (mkF m 130 #[.val (.ref a1), .val (.ref a2), .val (.int (1 : Int32)), .val (.int (c0 + c1)), .val (.int (2 : Int32)), .val (.int c2)] [(.ref a1)]))
    obtain ⟨T372, X372, e372, st372⟩ := getF X360 hx hZ hown (host := "") (Or.inl (hw _ (List.mem_of_getElem? (i := 27) rfl))) Via.refl e360 F368 (g := (mkF m 130 #[.val (.ref a1), .val (.ref a2), .val (.int (1 : Int32)), .val (.int (c0 + c1)), .val (.int (2 : Int32)), .val (.int c2)] [(.ref a1)])) rfl rfl (hb hby d1_130)
    refine Go.st st372 ?_
    show Go p e below _ (T372.setTop (mkF m 133 #[.val (.ref a1), .val (.ref a2), .val (.int (1 : Int32)), .val (.int (c0 + c1)), .val (.int (2 : Int32)), .val (.int c2)] [(.ref b178)]))
    refine Go.st (fun _ => XS.iload X372.here hx rfl (hb hby d1_133) rfl) ?_
    refine Go.st (fun _ => XS.lconst X372.here hx rfl (hb hby d1_135)) ?_
    refine Go.st (fun _ => XS.iload X372.here hx rfl (hb hby d1_136) rfl) ?_
    refine Go.st (fun _ => XS.lshl X372.here hx rfl (hb hby d1_138) rfl) ?_
    refine Go.st (fun _ => XS.lconst X372.here hx rfl (hb hby d1_139)) ?_
    refine Go.st (fun _ => XS.lsub X372.here hx rfl (hb hby d1_140) rfl) ?_
    show Go p e below _ (T372.setTop (mkF m 141 #[.val (.ref a1), .val (.ref a2), .val (.int (1 : Int32)), .val (.int (c0 + c1)), .val (.int (2 : Int32)), .val (.int c2)] [(.long (((1 : Int64) <<< (c2 &&& 0x3f).toInt64) - (1 : Int64))), (.int (2 : Int32)), (.ref b178)]))
    obtain ⟨cl373, Ar373, qk373, Sz373, Nn373, Ha373, Ga373⟩ := id V_369
    have hin373 : ¬ ((2 : Int32) < 0 ∨ cl373.slots.size ≤ ((2 : Int32) : Int32).toNatClampNeg) := inb_of Sz373 ⟨by decide, by decide⟩
    obtain ⟨T373, h373, X373, e373, W373, st373⟩ := stJ X372 hx hZ e372 Ar373 (j := (2 : Int32)) hin373 (g := (mkF m 141 #[.val (.ref a1), .val (.ref a2), .val (.int (1 : Int32)), .val (.int (c0 + c1)), .val (.int (2 : Int32)), .val (.int c2)] [(.long (((1 : Int64) <<< (c2 &&& 0x3f).toInt64) - (1 : Int64))), (.int (2 : Int32)), (.ref b178)])) rfl rfl (hb hby d1_141)
    refine Go.st st373 ?_
    have O374 : Old Z n0 h373 := O361.wr W373 gn178
    have E_375 : Exa Z h373 a1 "com/example/gieres/gieres/model/TupleTable" := E_362.wr W373
    have F376 : Fld Z h373 a1 "com/example/gieres/gieres/model/TupleTable" "width" "I" (.int (0 : Int32)) := F363.other W373 (Or.inl ne179)
    have V_377 : Arv Z h373 a2 ka2 .long (3 : Int32) [(.long t0), (.long t1), (.long t2)] (.long (0 : Int64)) := V_364.other W373 ne180
    have K378 : Keep h0 h373 [a1] := K365.wr W373 (Or.inr sz178)
    have F379 : Fld Z h373 a1 "com/example/gieres/gieres/model/TupleTable" "word" "[I" (.ref b129) := F366.other W373 (Or.inl ne179)
    have F380 : Fld Z h373 a1 "com/example/gieres/gieres/model/TupleTable" "shift" "[I" (.ref b152) := F367.other W373 (Or.inl ne179)
    have F381 : Fld Z h373 a1 "com/example/gieres/gieres/model/TupleTable" "mask" "[J" (.ref b178) := F368.other W373 (Or.inl ne179)
    have V_382 : Arv Z h373 b129 k129 .int (3 : Int32) [(.int (0 : Int32)), (.int (0 : Int32)), (.int (0 : Int32))] (.int (0 : Int32)) := V_370.other W373 ne181
    have V_383 : Arv Z h373 b152 k152 .int (3 : Int32) [(.int (0 : Int32)), (.int c0), (.int (c0 + c1))] (.int (0 : Int32)) := V_371.other W373 ne182
    have V_384 : Arv Z h373 b178 k178 .long (3 : Int32) [(.long (((1 : Int64) <<< (c0 &&& 0x3f).toInt64) - (1 : Int64))), (.long (((1 : Int64) <<< (c1 &&& 0x3f).toInt64) - (1 : Int64))), (.long (((1 : Int64) <<< (c2 &&& 0x3f).toInt64) - (1 : Int64)))] (.long (0 : Int64)) := Arv.set Ar373 qk373 Sz373 Nn373 Ha373 Ga373 rfl W373 2 rfl (Nat.le_of_ble_eq_true rfl)
    have N373 := Fr.snoc X373 N360 gn178
    show Go p e below _ (T373.setTop (mkF m 142 #[.val (.ref a1), .val (.ref a2), .val (.int (1 : Int32)), .val (.int (c0 + c1)), .val (.int (2 : Int32)), .val (.int c2)] []))
    refine Go.st (fun _ => XS.iloadN X373.here hx rfl (hb hby d1_142) rfl) ?_
    refine Go.st (fun _ => XS.iload X373.here hx rfl (hb hby d1_143) rfl) ?_
    refine Go.st (fun _ => XS.iadd X373.here hx rfl (hb hby d1_145) rfl) ?_
    refine Go.st (fun _ => XS.istoreN X373.here hx rfl (hb hby d1_146) rfl (l' := #[.val (.ref a1), .val (.ref a2), .val (.int (1 : Int32)), .val (.int ((c0 + c1) + c2)), .val (.int (2 : Int32)), .val (.int c2)]) rfl) ?_
    refine Go.st (fun _ => XS.iinc X373.here hx rfl (hb hby d1_147) rfl (l' := #[.val (.ref a1), .val (.ref a2), .val (.int (1 : Int32)), .val (.int ((c0 + c1) + c2)), .val (.int (3 : Int32)), .val (.int c2)]) rfl) ?_
    refine Go.st (fun _ => XS.goto X373.here hx rfl (pc0 := 150) (pc' := 76) rfl (hb hby d1_150) (by decide) (by decide)) ?_
    refine Go.st (fun _ => XS.iload X373.here hx rfl (hb hby d1_76) rfl) ?_
    refine Go.st (fun _ => XS.aloadN X373.here hx rfl (hb hby d1_78) rfl rfl) ?_
    show Go p e below _ (T373.setTop (mkF m 79 #[.val (.ref a1), .val (.ref a2), .val (.int (1 : Int32)), .val (.int ((c0 + c1) + c2)), .val (.int (3 : Int32)), .val (.int c2)] [(.ref a2), (.int (3 : Int32))]))
    obtain ⟨cl385, Ar385, qk385, Sz385, Nn385, Ha385, Ga385⟩ := id V_377
    refine Go.st (fun _ => X373.arraylength hx (by rw [e373]; exact Ar385.1) (State.isArrayOf_alike hZ.alike Ar385.2.1) (g := (mkF m 79 #[.val (.ref a1), .val (.ref a2), .val (.int (1 : Int32)), .val (.int ((c0 + c1) + c2)), .val (.int (3 : Int32)), .val (.int c2)] [(.ref a2), (.int (3 : Int32))])) rfl rfl (hb hby d1_79) _) ?_
    rw [len_of Sz385 Nn385]
    show Go p e below _ (T373.setTop (mkF m 80 #[.val (.ref a1), .val (.ref a2), .val (.int (1 : Int32)), .val (.int ((c0 + c1) + c2)), .val (.int (3 : Int32)), .val (.int c2)] [(.int (3 : Int32)), (.int (3 : Int32))]))
    refine Go.st (fun _ => XS.icmpYes X373.here hx rfl (pc0 := 80) (pc' := 153) rfl (hb hby d1_80) rfl (flt (by decide : ¬ ((3 : Int32) < (3 : Int32)))).2.1 (by decide) (by decide)) ?_
    refine Go.st (fun _ => XS.aloadN X373.here hx rfl (hb hby d1_153) rfl rfl) ?_
    refine Go.st (fun _ => XS.iloadN X373.here hx rfl (hb hby d1_154) rfl) ?_
    show Go p e below _ (T373.setTop (mkF m 155 #[.val (.ref a1), .val (.ref a2), .val (.int (1 : Int32)), .val (.int ((c0 + c1) + c2)), .val (.int (3 : Int32)), .val (.int c2)] [(.int (1 : Int32)), (.ref a1)]))
    obtain ⟨T386, h386, X386, e386, W386, st386⟩ := putF X373 hx hZ hown (host := "") (Or.inl (hw _ (List.mem_of_getElem? (i := 37) rfl))) Via.refl e373 F376 E_375 (Or.inr ⟨(hw _ (List.mem_of_getElem? (i := 38) rfl)), rfl, hnm⟩) (hw _ (List.mem_of_getElem? (i := 2) rfl)) (ty := .int) (by decide) rfl rfl (g := (mkF m 155 #[.val (.ref a1), .val (.ref a2), .val (.int (1 : Int32)), .val (.int ((c0 + c1) + c2)), .val (.int (3 : Int32)), .val (.int c2)] [(.int (1 : Int32)), (.ref a1)])) rfl rfl (hb hby d1_155)
    refine Go.st st386 ?_
    have O387 : Old Z n0 h386 := O374.wr W386 g1
    have E_388 : Exa Z h386 a1 "com/example/gieres/gieres/model/TupleTable" := E_375.wr W386
    have V_389 : Arv Z h386 a2 ka2 .long (3 : Int32) [(.long t0), (.long t1), (.long t2)] (.long (0 : Int64)) := V_377.other W386 ne21
    have K390 : Keep h0 h386 [a1] := K378.wr W386 (Or.inl (List.mem_of_getElem? (i := 0) rfl))
    have F391 : Fld Z h386 a1 "com/example/gieres/gieres/model/TupleTable" "word" "[I" (.ref b129) := F379.other W386 (Or.inr (slot_ne (Or.inr (hw _ (List.mem_of_getElem? (i := 24) rfl))) (Or.inr (hw _ (List.mem_of_getElem? (i := 38) rfl))) (by decide) (t := (.array .int)) (t' := .int) (by decide) (by decide)))
    have F392 : Fld Z h386 a1 "com/example/gieres/gieres/model/TupleTable" "shift" "[I" (.ref b152) := F380.other W386 (Or.inr (slot_ne (Or.inr (hw _ (List.mem_of_getElem? (i := 26) rfl))) (Or.inr (hw _ (List.mem_of_getElem? (i := 38) rfl))) (by decide) (t := (.array .int)) (t' := .int) (by decide) (by decide)))
    have F393 : Fld Z h386 a1 "com/example/gieres/gieres/model/TupleTable" "mask" "[J" (.ref b178) := F381.other W386 (Or.inr (slot_ne (Or.inr (hw _ (List.mem_of_getElem? (i := 28) rfl))) (Or.inr (hw _ (List.mem_of_getElem? (i := 38) rfl))) (by decide) (t := (.array .long)) (t' := .int) (by decide) (by decide)))
    have V_394 : Arv Z h386 b129 k129 .int (3 : Int32) [(.int (0 : Int32)), (.int (0 : Int32)), (.int (0 : Int32))] (.int (0 : Int32)) := V_382.other W386 (Ne.symm ne130)
    have V_395 : Arv Z h386 b152 k152 .int (3 : Int32) [(.int (0 : Int32)), (.int c0), (.int (c0 + c1))] (.int (0 : Int32)) := V_383.other W386 (Ne.symm ne153)
    have V_396 : Arv Z h386 b178 k178 .long (3 : Int32) [(.long (((1 : Int64) <<< (c0 &&& 0x3f).toInt64) - (1 : Int64))), (.long (((1 : Int64) <<< (c1 &&& 0x3f).toInt64) - (1 : Int64))), (.long (((1 : Int64) <<< (c2 &&& 0x3f).toInt64) - (1 : Int64)))] (.long (0 : Int64)) := V_384.other W386 (Ne.symm ne179)
    have F397 : Fld Z h386 a1 "com/example/gieres/gieres/model/TupleTable" "width" "I" (.int (1 : Int32)) := F376.same W386
    have N386 := Fr.snoc X386 N373 g1
    show Go p e below _ (T386.setTop (mkF m 158 #[.val (.ref a1), .val (.ref a2), .val (.int (1 : Int32)), .val (.int ((c0 + c1) + c2)), .val (.int (3 : Int32)), .val (.int c2)] []))
    exact goRetV X386 hx hlk hret e386 (hb hby d1_158) (by decide) (by decide) ⟨rfl, N386, K390, c0, c1, c2, _, _, _, b129, b152, b178, _, _, _, B0, B1, B2, (Or.inl ⟨hc293, rfl, rfl, rfl⟩), F391, V_394, F392, V_395, F393, V_396, F397⟩
theorem d5_0 : decode prog_137_method_6_code 0 = .ok (.iload_n 2, 1) := by decide +kernel
theorem d5_1 : decode prog_137_method_6_code 1 = .ok (.aload_n 0, 1) := by decide +kernel
theorem d5_2 : decode prog_137_method_6_code 2 = .ok (.getfield 29, 3) := by decide +kernel
theorem d5_5 : decode prog_137_method_6_code 5 = .ok (.iload_n 3, 1) := by decide +kernel
theorem d5_6 : decode prog_137_method_6_code 6 = .ok (.iaload, 1) := by decide +kernel
theorem d5_7 : decode prog_137_method_6_code 7 = .ok (.iadd, 1) := by decide +kernel
theorem d5_8 : decode prog_137_method_6_code 8 = .ok (.istore 5, 2) := by decide +kernel
theorem d5_10 : decode prog_137_method_6_code 10 = .ok (.iload 4, 2) := by decide +kernel
theorem d5_12 : decode prog_137_method_6_code 12 = .ok (.i2l, 1) := by decide +kernel
theorem d5_13 : decode prog_137_method_6_code 13 = .ok (.aload_n 0, 1) := by decide +kernel
theorem d5_14 : decode prog_137_method_6_code 14 = .ok (.getfield 35, 3) := by decide +kernel
theorem d5_17 : decode prog_137_method_6_code 17 = .ok (.iload_n 3, 1) := by decide +kernel
theorem d5_18 : decode prog_137_method_6_code 18 = .ok (.laload, 1) := by decide +kernel
theorem d5_19 : decode prog_137_method_6_code 19 = .ok (.land, 1) := by decide +kernel
theorem d5_20 : decode prog_137_method_6_code 20 = .ok (.aload_n 0, 1) := by decide +kernel
theorem d5_21 : decode prog_137_method_6_code 21 = .ok (.getfield 32, 3) := by decide +kernel
theorem d5_24 : decode prog_137_method_6_code 24 = .ok (.iload_n 3, 1) := by decide +kernel
theorem d5_25 : decode prog_137_method_6_code 25 = .ok (.iaload, 1) := by decide +kernel
theorem d5_26 : decode prog_137_method_6_code 26 = .ok (.lshl, 1) := by decide +kernel
theorem d5_27 : decode prog_137_method_6_code 27 = .ok (.lstore 6, 2) := by decide +kernel
theorem d5_29 : decode prog_137_method_6_code 29 = .ok (.aload_n 1, 1) := by decide +kernel
theorem d5_30 : decode prog_137_method_6_code 30 = .ok (.iload 5, 2) := by decide +kernel
theorem d5_32 : decode prog_137_method_6_code 32 = .ok (.aload_n 1, 1) := by decide +kernel
theorem d5_33 : decode prog_137_method_6_code 33 = .ok (.iload 5, 2) := by decide +kernel
theorem d5_35 : decode prog_137_method_6_code 35 = .ok (.laload, 1) := by decide +kernel
theorem d5_36 : decode prog_137_method_6_code 36 = .ok (.aload_n 0, 1) := by decide +kernel
theorem d5_37 : decode prog_137_method_6_code 37 = .ok (.getfield 35, 3) := by decide +kernel
theorem d5_40 : decode prog_137_method_6_code 40 = .ok (.iload_n 3, 1) := by decide +kernel
theorem d5_41 : decode prog_137_method_6_code 41 = .ok (.laload, 1) := by decide +kernel
theorem d5_42 : decode prog_137_method_6_code 42 = .ok (.aload_n 0, 1) := by decide +kernel
theorem d5_43 : decode prog_137_method_6_code 43 = .ok (.getfield 32, 3) := by decide +kernel
theorem d5_46 : decode prog_137_method_6_code 46 = .ok (.iload_n 3, 1) := by decide +kernel
theorem d5_47 : decode prog_137_method_6_code 47 = .ok (.iaload, 1) := by decide +kernel
theorem d5_48 : decode prog_137_method_6_code 48 = .ok (.lshl, 1) := by decide +kernel
theorem d5_49 : decode prog_137_method_6_code 49 = .ok (.ldc2_w 56, 3) := by decide +kernel
theorem d5_52 : decode prog_137_method_6_code 52 = .ok (.lxor, 1) := by decide +kernel
theorem d5_53 : decode prog_137_method_6_code 53 = .ok (.land, 1) := by decide +kernel
theorem d5_54 : decode prog_137_method_6_code 54 = .ok (.lload 6, 2) := by decide +kernel
theorem d5_56 : decode prog_137_method_6_code 56 = .ok (.lor, 1) := by decide +kernel
theorem d5_57 : decode prog_137_method_6_code 57 = .ok (.lastore, 1) := by decide +kernel
theorem d5_58 : decode prog_137_method_6_code 58 = .ok (.return_, 1) := by decide +kernel
theorem pn_5 : plainName "com/example/gieres/gieres/model/TupleTable" = true := by first | (simp [plainName, overriddenIn]; done) | decide +kernel
set_option maxRecDepth 65536 in
set_option maxHeartbeats 40000000 in
theorem rmS0 (l : Launch) (Z : State) (a0 : Array Value) (hw : ∀ d ∈ tables_1, d.before a0 Z = true) (ws : List Jvm.Cond) (a1 a2 aw as am : Addr) (kw ks km : ClassId) (x0 x1 x2 y0 y1 y2 : Int32) (z0 z1 z2 : Int64) (n : Nat) (f : Nat → Int64) (p3 p5 : Int32) (h0 : Heap) (n0 : Nat) (O0 : Old Z n0 h0) (Fw : Fld Z h0 a1 "com/example/gieres/gieres/model/TupleTable" "word" "[I" (.ref aw)) (Vw : Arv Z h0 aw kw .int (3 : Int32) [(.int x0), (.int x1), (.int x2)] (.int (0 : Int32))) (Fsh : Fld Z h0 a1 "com/example/gieres/gieres/model/TupleTable" "shift" "[I" (.ref as)) (Vs : Arv Z h0 as ks .int (3 : Int32) [(.int y0), (.int y1), (.int y2)] (.int (0 : Int32))) (Fm : Fld Z h0 a1 "com/example/gieres/gieres/model/TupleTable" "mask" "[J" (.ref am)) (Vm : Arv Z h0 am km .long (3 : Int32) [(.long z0), (.long z1), (.long z2)] (.long (0 : Int64))) (KA : LAr Z h0 a2 n f) (g2 : n0 ≤ a2) (hj0 : 0 ≤ (p3 + x0).toInt) (hj1 : (p3 + x0).toInt < n) :
    Ctr l (⟨"com/example/gieres/gieres/model/TupleTable", "setState", "([JIII)V"⟩ : MethodName) prog_137_method_6_code 8 none ws ({ frames := 0, cells := 0, slots := 0, locals := 0 } : Room) #[(.ref a1), (.ref a2), (.int p3), (.int (0 : Int32)), (.int p5)] Z h0 (fun v h L => v = none ∧ Fr n0 L ∧ Keep h0 h [a2] ∧ LAr Z h a2 n (fun k => if k = (p3 + x0).toNatClampNeg then own_set (f (p3 + x0).toNatClampNeg) z0 y0 p5 else f k)) := by
  have ef : ∀ m : MethodId, entryFrame m #[(.ref a1), (.ref a2), (.int p3), (.int (0 : Int32)), (.int p5)] 8 = mkF m 0 #[.val (.ref a1), .val (.ref a2), .val (.int p3), .val (.int (0 : Int32)), .val (.int p5), .unset, .unset, .unset] [] := fun m => by first | (simp [entryFrame, mkF, argsToLocals, Value.category]; done) | rfl
  refine Ctr.of (plainFor_of_name pn_5) ?_
  intro p e s m below meth c s₁ hx hZ hby hml hown0 hnm hret hlk X0 e0
  have hown : s.vm.findClass "com/example/gieres/gieres/model/TupleTable" = some m.cls := hown0
  have N0 := Fr.nil n0
  refine Go.st (fun t k => castTop (ef m) k) ?_
  show Go p e below _ (s₁.setTop (mkF m 0 #[.val (.ref a1), .val (.ref a2), .val (.int p3), .val (.int (0 : Int32)), .val (.int p5), .unset, .unset, .unset] []))
  refine Go.st (fun _ => XS.iloadN X0.here hx rfl (hb hby d5_0) rfl) ?_
  refine Go.st (fun _ => XS.aloadN X0.here hx rfl (hb hby d5_1) rfl rfl) ?_
  show Go p e below _ (s₁.setTop (mkF m 2 #[.val (.ref a1), .val (.ref a2), .val (.int p3), .val (.int (0 : Int32)), .val (.int p5), .unset, .unset, .unset] [(.ref a1), (.int p3)]))
  obtain ⟨T1, X1, e1, st1⟩ := getF X0 hx hZ hown (host := "") (Or.inl (hw _ (List.mem_of_getElem? (i := 23) rfl))) Via.refl e0 Fw (g := (mkF m 2 #[.val (.ref a1), .val (.ref a2), .val (.int p3), .val (.int (0 : Int32)), .val (.int p5), .unset, .unset, .unset] [(.ref a1), (.int p3)])) rfl rfl (hb hby d5_2)
  refine Go.st st1 ?_
  show Go p e below _ (T1.setTop (mkF m 5 #[.val (.ref a1), .val (.ref a2), .val (.int p3), .val (.int (0 : Int32)), .val (.int p5), .unset, .unset, .unset] [(.ref aw), (.int p3)]))
  refine Go.st (fun _ => XS.iloadN X1.here hx rfl (hb hby d5_5) rfl) ?_
  show Go p e below _ (T1.setTop (mkF m 6 #[.val (.ref a1), .val (.ref a2), .val (.int p3), .val (.int (0 : Int32)), .val (.int p5), .unset, .unset, .unset] [(.int (0 : Int32)), (.ref aw), (.int p3)]))
  obtain ⟨cl2, Ar2, qk2, Sz2, Nn2, Ha2, Ga2⟩ := id Vw
  have hin2 : ¬ ((0 : Int32) < 0 ∨ cl2.slots.size ≤ ((0 : Int32) : Int32).toNatClampNeg) := inb_of Sz2 ⟨by decide, by decide⟩
  refine Go.st (fun _ => X1.iaload hx (j := (0 : Int32)) (v := (.int x0)) (by rw [e1]; exact Ar2.1) (State.isArrayOf_alike hZ.alike Ar2.2.1) Ar2.2.2 hin2 (Has.at Ha2 hin2 rfl) (g := (mkF m 6 #[.val (.ref a1), .val (.ref a2), .val (.int p3), .val (.int (0 : Int32)), .val (.int p5), .unset, .unset, .unset] [(.int (0 : Int32)), (.ref aw), (.int p3)])) rfl rfl (hb hby d5_6) _) ?_
  show Go p e below _ (T1.setTop (mkF m 7 #[.val (.ref a1), .val (.ref a2), .val (.int p3), .val (.int (0 : Int32)), .val (.int p5), .unset, .unset, .unset] [(.int x0), (.int p3)]))
  refine Go.st (fun _ => XS.iadd X1.here hx rfl (hb hby d5_7) rfl) ?_
  refine Go.st (fun _ => XS.istore X1.here hx rfl (hb hby d5_8) rfl (l' := #[.val (.ref a1), .val (.ref a2), .val (.int p3), .val (.int (0 : Int32)), .val (.int p5), .val (.int (p3 + x0)), .unset, .unset]) rfl) ?_
  refine Go.st (fun _ => XS.iload X1.here hx rfl (hb hby d5_10) rfl) ?_
  refine Go.st (fun _ => XS.i2l X1.here hx rfl (hb hby d5_12) rfl) ?_
  refine Go.st (fun _ => XS.aloadN X1.here hx rfl (hb hby d5_13) rfl rfl) ?_
  show Go p e below _ (T1.setTop (mkF m 14 #[.val (.ref a1), .val (.ref a2), .val (.int p3), .val (.int (0 : Int32)), .val (.int p5), .val (.int (p3 + x0)), .unset, .unset] [(.ref a1), (.long (p5.toInt64))]))
  obtain ⟨T3, X3, e3, st3⟩ := getF X1 hx hZ hown (host := "") (Or.inl (hw _ (List.mem_of_getElem? (i := 27) rfl))) Via.refl e1 Fm (g := (mkF m 14 #[.val (.ref a1), .val (.ref a2), .val (.int p3), .val (.int (0 : Int32)), .val (.int p5), .val (.int (p3 + x0)), .unset, .unset] [(.ref a1), (.long (p5.toInt64))])) rfl rfl (hb hby d5_14)
  refine Go.st st3 ?_
  show Go p e below _ (T3.setTop (mkF m 17 #[.val (.ref a1), .val (.ref a2), .val (.int p3), .val (.int (0 : Int32)), .val (.int p5), .val (.int (p3 + x0)), .unset, .unset] [(.ref am), (.long (p5.toInt64))]))
  refine Go.st (fun _ => XS.iloadN X3.here hx rfl (hb hby d5_17) rfl) ?_
  show Go p e below _ (T3.setTop (mkF m 18 #[.val (.ref a1), .val (.ref a2), .val (.int p3), .val (.int (0 : Int32)), .val (.int p5), .val (.int (p3 + x0)), .unset, .unset] [(.int (0 : Int32)), (.ref am), (.long (p5.toInt64))]))
  obtain ⟨cl4, Ar4, qk4, Sz4, Nn4, Ha4, Ga4⟩ := id Vm
  have hin4 : ¬ ((0 : Int32) < 0 ∨ cl4.slots.size ≤ ((0 : Int32) : Int32).toNatClampNeg) := inb_of Sz4 ⟨by decide, by decide⟩
  refine Go.st (fun _ => X3.laload hx (j := (0 : Int32)) (v := (.long z0)) (by rw [e3]; exact Ar4.1) (State.isArrayOf_alike hZ.alike Ar4.2.1) Ar4.2.2 hin4 (Has.at Ha4 hin4 rfl) (g := (mkF m 18 #[.val (.ref a1), .val (.ref a2), .val (.int p3), .val (.int (0 : Int32)), .val (.int p5), .val (.int (p3 + x0)), .unset, .unset] [(.int (0 : Int32)), (.ref am), (.long (p5.toInt64))])) rfl rfl (hb hby d5_18) _) ?_
  show Go p e below _ (T3.setTop (mkF m 19 #[.val (.ref a1), .val (.ref a2), .val (.int p3), .val (.int (0 : Int32)), .val (.int p5), .val (.int (p3 + x0)), .unset, .unset] [(.long z0), (.long (p5.toInt64))]))
  refine Go.st (fun _ => XS.land X3.here hx rfl (hb hby d5_19) rfl) ?_
  refine Go.st (fun _ => XS.aloadN X3.here hx rfl (hb hby d5_20) rfl rfl) ?_
  show Go p e below _ (T3.setTop (mkF m 21 #[.val (.ref a1), .val (.ref a2), .val (.int p3), .val (.int (0 : Int32)), .val (.int p5), .val (.int (p3 + x0)), .unset, .unset] [(.ref a1), (.long ((p5.toInt64) &&& z0))]))
  obtain ⟨T5, X5, e5, st5⟩ := getF X3 hx hZ hown (host := "") (Or.inl (hw _ (List.mem_of_getElem? (i := 25) rfl))) Via.refl e3 Fsh (g := (mkF m 21 #[.val (.ref a1), .val (.ref a2), .val (.int p3), .val (.int (0 : Int32)), .val (.int p5), .val (.int (p3 + x0)), .unset, .unset] [(.ref a1), (.long ((p5.toInt64) &&& z0))])) rfl rfl (hb hby d5_21)
  refine Go.st st5 ?_
  show Go p e below _ (T5.setTop (mkF m 24 #[.val (.ref a1), .val (.ref a2), .val (.int p3), .val (.int (0 : Int32)), .val (.int p5), .val (.int (p3 + x0)), .unset, .unset] [(.ref as), (.long ((p5.toInt64) &&& z0))]))
  refine Go.st (fun _ => XS.iloadN X5.here hx rfl (hb hby d5_24) rfl) ?_
  show Go p e below _ (T5.setTop (mkF m 25 #[.val (.ref a1), .val (.ref a2), .val (.int p3), .val (.int (0 : Int32)), .val (.int p5), .val (.int (p3 + x0)), .unset, .unset] [(.int (0 : Int32)), (.ref as), (.long ((p5.toInt64) &&& z0))]))
  obtain ⟨cl6, Ar6, qk6, Sz6, Nn6, Ha6, Ga6⟩ := id Vs
  have hin6 : ¬ ((0 : Int32) < 0 ∨ cl6.slots.size ≤ ((0 : Int32) : Int32).toNatClampNeg) := inb_of Sz6 ⟨by decide, by decide⟩
  refine Go.st (fun _ => X5.iaload hx (j := (0 : Int32)) (v := (.int y0)) (by rw [e5]; exact Ar6.1) (State.isArrayOf_alike hZ.alike Ar6.2.1) Ar6.2.2 hin6 (Has.at Ha6 hin6 rfl) (g := (mkF m 25 #[.val (.ref a1), .val (.ref a2), .val (.int p3), .val (.int (0 : Int32)), .val (.int p5), .val (.int (p3 + x0)), .unset, .unset] [(.int (0 : Int32)), (.ref as), (.long ((p5.toInt64) &&& z0))])) rfl rfl (hb hby d5_25) _) ?_
  show Go p e below _ (T5.setTop (mkF m 26 #[.val (.ref a1), .val (.ref a2), .val (.int p3), .val (.int (0 : Int32)), .val (.int p5), .val (.int (p3 + x0)), .unset, .unset] [(.int y0), (.long ((p5.toInt64) &&& z0))]))
  refine Go.st (fun _ => XS.lshl X5.here hx rfl (hb hby d5_26) rfl) ?_
  refine Go.st (fun _ => XS.lstore X5.here hx rfl (hb hby d5_27) rfl (l' := #[.val (.ref a1), .val (.ref a2), .val (.int p3), .val (.int (0 : Int32)), .val (.int p5), .val (.int (p3 + x0)), .val (.long (((p5.toInt64) &&& z0) <<< (y0 &&& 0x3f).toInt64)), .second]) rfl) ?_
  refine Go.st (fun _ => XS.aloadN X5.here hx rfl (hb hby d5_29) rfl rfl) ?_
  refine Go.st (fun _ => XS.iload X5.here hx rfl (hb hby d5_30) rfl) ?_
  refine Go.st (fun _ => XS.aloadN X5.here hx rfl (hb hby d5_32) rfl rfl) ?_
  refine Go.st (fun _ => XS.iload X5.here hx rfl (hb hby d5_33) rfl) ?_
  show Go p e below _ (T5.setTop (mkF m 35 #[.val (.ref a1), .val (.ref a2), .val (.int p3), .val (.int (0 : Int32)), .val (.int p5), .val (.int (p3 + x0)), .val (.long (((p5.toInt64) &&& z0) <<< (y0 &&& 0x3f).toInt64)), .second] [(.int (p3 + x0)), (.ref a2), (.int (p3 + x0)), (.ref a2)]))
  obtain ⟨cl7, Ar7, hin7, hat7, -⟩ := LAr_in KA (j := (p3 + x0)) hj0 hj1
  refine Go.st (fun _ => X5.laload hx (j := (p3 + x0)) (v := (.long (f ((p3 + x0)).toNatClampNeg))) (by rw [e5]; exact Ar7.1) (State.isArrayOf_alike hZ.alike Ar7.2.1) Ar7.2.2 hin7 hat7 (g := (mkF m 35 #[.val (.ref a1), .val (.ref a2), .val (.int p3), .val (.int (0 : Int32)), .val (.int p5), .val (.int (p3 + x0)), .val (.long (((p5.toInt64) &&& z0) <<< (y0 &&& 0x3f).toInt64)), .second] [(.int (p3 + x0)), (.ref a2), (.int (p3 + x0)), (.ref a2)])) rfl rfl (hb hby d5_35) _) ?_
  show Go p e below _ (T5.setTop (mkF m 36 #[.val (.ref a1), .val (.ref a2), .val (.int p3), .val (.int (0 : Int32)), .val (.int p5), .val (.int (p3 + x0)), .val (.long (((p5.toInt64) &&& z0) <<< (y0 &&& 0x3f).toInt64)), .second] [(.long (f ((p3 + x0)).toNatClampNeg)), (.int (p3 + x0)), (.ref a2)]))
  refine Go.st (fun _ => XS.aloadN X5.here hx rfl (hb hby d5_36) rfl rfl) ?_
  show Go p e below _ (T5.setTop (mkF m 37 #[.val (.ref a1), .val (.ref a2), .val (.int p3), .val (.int (0 : Int32)), .val (.int p5), .val (.int (p3 + x0)), .val (.long (((p5.toInt64) &&& z0) <<< (y0 &&& 0x3f).toInt64)), .second] [(.ref a1), (.long (f ((p3 + x0)).toNatClampNeg)), (.int (p3 + x0)), (.ref a2)]))
  obtain ⟨T8, X8, e8, st8⟩ := getF X5 hx hZ hown (host := "") (Or.inl (hw _ (List.mem_of_getElem? (i := 27) rfl))) Via.refl e5 Fm (g := (mkF m 37 #[.val (.ref a1), .val (.ref a2), .val (.int p3), .val (.int (0 : Int32)), .val (.int p5), .val (.int (p3 + x0)), .val (.long (((p5.toInt64) &&& z0) <<< (y0 &&& 0x3f).toInt64)), .second] [(.ref a1), (.long (f ((p3 + x0)).toNatClampNeg)), (.int (p3 + x0)), (.ref a2)])) rfl rfl (hb hby d5_37)
  refine Go.st st8 ?_
  show Go p e below _ (T8.setTop (mkF m 40 #[.val (.ref a1), .val (.ref a2), .val (.int p3), .val (.int (0 : Int32)), .val (.int p5), .val (.int (p3 + x0)), .val (.long (((p5.toInt64) &&& z0) <<< (y0 &&& 0x3f).toInt64)), .second] [(.ref am), (.long (f ((p3 + x0)).toNatClampNeg)), (.int (p3 + x0)), (.ref a2)]))
  refine Go.st (fun _ => XS.iloadN X8.here hx rfl (hb hby d5_40) rfl) ?_
  show Go p e below _ (T8.setTop (mkF m 41 #[.val (.ref a1), .val (.ref a2), .val (.int p3), .val (.int (0 : Int32)), .val (.int p5), .val (.int (p3 + x0)), .val (.long (((p5.toInt64) &&& z0) <<< (y0 &&& 0x3f).toInt64)), .second] [(.int (0 : Int32)), (.ref am), (.long (f ((p3 + x0)).toNatClampNeg)), (.int (p3 + x0)), (.ref a2)]))
  obtain ⟨cl9, Ar9, qk9, Sz9, Nn9, Ha9, Ga9⟩ := id Vm
  have hin9 : ¬ ((0 : Int32) < 0 ∨ cl9.slots.size ≤ ((0 : Int32) : Int32).toNatClampNeg) := inb_of Sz9 ⟨by decide, by decide⟩
  refine Go.st (fun _ => X8.laload hx (j := (0 : Int32)) (v := (.long z0)) (by rw [e8]; exact Ar9.1) (State.isArrayOf_alike hZ.alike Ar9.2.1) Ar9.2.2 hin9 (Has.at Ha9 hin9 rfl) (g := (mkF m 41 #[.val (.ref a1), .val (.ref a2), .val (.int p3), .val (.int (0 : Int32)), .val (.int p5), .val (.int (p3 + x0)), .val (.long (((p5.toInt64) &&& z0) <<< (y0 &&& 0x3f).toInt64)), .second] [(.int (0 : Int32)), (.ref am), (.long (f ((p3 + x0)).toNatClampNeg)), (.int (p3 + x0)), (.ref a2)])) rfl rfl (hb hby d5_41) _) ?_
  show Go p e below _ (T8.setTop (mkF m 42 #[.val (.ref a1), .val (.ref a2), .val (.int p3), .val (.int (0 : Int32)), .val (.int p5), .val (.int (p3 + x0)), .val (.long (((p5.toInt64) &&& z0) <<< (y0 &&& 0x3f).toInt64)), .second] [(.long z0), (.long (f ((p3 + x0)).toNatClampNeg)), (.int (p3 + x0)), (.ref a2)]))
  refine Go.st (fun _ => XS.aloadN X8.here hx rfl (hb hby d5_42) rfl rfl) ?_
  show Go p e below _ (T8.setTop (mkF m 43 #[.val (.ref a1), .val (.ref a2), .val (.int p3), .val (.int (0 : Int32)), .val (.int p5), .val (.int (p3 + x0)), .val (.long (((p5.toInt64) &&& z0) <<< (y0 &&& 0x3f).toInt64)), .second] [(.ref a1), (.long z0), (.long (f ((p3 + x0)).toNatClampNeg)), (.int (p3 + x0)), (.ref a2)]))
  obtain ⟨T10, X10, e10, st10⟩ := getF X8 hx hZ hown (host := "") (Or.inl (hw _ (List.mem_of_getElem? (i := 25) rfl))) Via.refl e8 Fsh (g := (mkF m 43 #[.val (.ref a1), .val (.ref a2), .val (.int p3), .val (.int (0 : Int32)), .val (.int p5), .val (.int (p3 + x0)), .val (.long (((p5.toInt64) &&& z0) <<< (y0 &&& 0x3f).toInt64)), .second] [(.ref a1), (.long z0), (.long (f ((p3 + x0)).toNatClampNeg)), (.int (p3 + x0)), (.ref a2)])) rfl rfl (hb hby d5_43)
  refine Go.st st10 ?_
  show Go p e below _ (T10.setTop (mkF m 46 #[.val (.ref a1), .val (.ref a2), .val (.int p3), .val (.int (0 : Int32)), .val (.int p5), .val (.int (p3 + x0)), .val (.long (((p5.toInt64) &&& z0) <<< (y0 &&& 0x3f).toInt64)), .second] [(.ref as), (.long z0), (.long (f ((p3 + x0)).toNatClampNeg)), (.int (p3 + x0)), (.ref a2)]))
  refine Go.st (fun _ => XS.iloadN X10.here hx rfl (hb hby d5_46) rfl) ?_
  show Go p e below _ (T10.setTop (mkF m 47 #[.val (.ref a1), .val (.ref a2), .val (.int p3), .val (.int (0 : Int32)), .val (.int p5), .val (.int (p3 + x0)), .val (.long (((p5.toInt64) &&& z0) <<< (y0 &&& 0x3f).toInt64)), .second] [(.int (0 : Int32)), (.ref as), (.long z0), (.long (f ((p3 + x0)).toNatClampNeg)), (.int (p3 + x0)), (.ref a2)]))
  obtain ⟨cl11, Ar11, qk11, Sz11, Nn11, Ha11, Ga11⟩ := id Vs
  have hin11 : ¬ ((0 : Int32) < 0 ∨ cl11.slots.size ≤ ((0 : Int32) : Int32).toNatClampNeg) := inb_of Sz11 ⟨by decide, by decide⟩
  refine Go.st (fun _ => X10.iaload hx (j := (0 : Int32)) (v := (.int y0)) (by rw [e10]; exact Ar11.1) (State.isArrayOf_alike hZ.alike Ar11.2.1) Ar11.2.2 hin11 (Has.at Ha11 hin11 rfl) (g := (mkF m 47 #[.val (.ref a1), .val (.ref a2), .val (.int p3), .val (.int (0 : Int32)), .val (.int p5), .val (.int (p3 + x0)), .val (.long (((p5.toInt64) &&& z0) <<< (y0 &&& 0x3f).toInt64)), .second] [(.int (0 : Int32)), (.ref as), (.long z0), (.long (f ((p3 + x0)).toNatClampNeg)), (.int (p3 + x0)), (.ref a2)])) rfl rfl (hb hby d5_47) _) ?_
  show Go p e below _ (T10.setTop (mkF m 48 #[.val (.ref a1), .val (.ref a2), .val (.int p3), .val (.int (0 : Int32)), .val (.int p5), .val (.int (p3 + x0)), .val (.long (((p5.toInt64) &&& z0) <<< (y0 &&& 0x3f).toInt64)), .second] [(.int y0), (.long z0), (.long (f ((p3 + x0)).toNatClampNeg)), (.int (p3 + x0)), (.ref a2)]))
  refine Go.st (fun _ => XS.lshl X10.here hx rfl (hb hby d5_48) rfl) ?_
  show Go p e below _ (T10.setTop (mkF m 49 #[.val (.ref a1), .val (.ref a2), .val (.int p3), .val (.int (0 : Int32)), .val (.int p5), .val (.int (p3 + x0)), .val (.long (((p5.toInt64) &&& z0) <<< (y0 &&& 0x3f).toInt64)), .second] [(.long (z0 <<< (y0 &&& 0x3f).toInt64)), (.long (f ((p3 + x0)).toNatClampNeg)), (.int (p3 + x0)), (.ref a2)]))
  refine Go.st (fun _ => X10.ldc2Long hx hown (mvT hZ (hw _ (List.mem_of_getElem? (i := 44) rfl))) (g := (mkF m 49 #[.val (.ref a1), .val (.ref a2), .val (.int p3), .val (.int (0 : Int32)), .val (.int p5), .val (.int (p3 + x0)), .val (.long (((p5.toInt64) &&& z0) <<< (y0 &&& 0x3f).toInt64)), .second] [(.long (z0 <<< (y0 &&& 0x3f).toInt64)), (.long (f ((p3 + x0)).toNatClampNeg)), (.int (p3 + x0)), (.ref a2)])) rfl (hb hby d5_49) _) ?_
  show Go p e below _ (T10.setTop (mkF m 52 #[.val (.ref a1), .val (.ref a2), .val (.int p3), .val (.int (0 : Int32)), .val (.int p5), .val (.int (p3 + x0)), .val (.long (((p5.toInt64) &&& z0) <<< (y0 &&& 0x3f).toInt64)), .second] [(.long (-1 : Int64)), (.long (z0 <<< (y0 &&& 0x3f).toInt64)), (.long (f ((p3 + x0)).toNatClampNeg)), (.int (p3 + x0)), (.ref a2)]))
  refine Go.st (fun _ => XS.lxor X10.here hx rfl (hb hby d5_52) rfl) ?_
  refine Go.st (fun _ => XS.land X10.here hx rfl (hb hby d5_53) rfl) ?_
  refine Go.st (fun _ => XS.lload X10.here hx rfl (hb hby d5_54) rfl) ?_
  refine Go.st (fun _ => XS.lor X10.here hx rfl (hb hby d5_56) rfl) ?_
  show Go p e below _ (T10.setTop (mkF m 57 #[.val (.ref a1), .val (.ref a2), .val (.int p3), .val (.int (0 : Int32)), .val (.int p5), .val (.int (p3 + x0)), .val (.long (((p5.toInt64) &&& z0) <<< (y0 &&& 0x3f).toInt64)), .second] [(.long (((f ((p3 + x0)).toNatClampNeg) &&& ((z0 <<< (y0 &&& 0x3f).toInt64) ^^^ (-1 : Int64))) ||| (((p5.toInt64) &&& z0) <<< (y0 &&& 0x3f).toInt64))), (.int (p3 + x0)), (.ref a2)]))
  obtain ⟨cl12, Ar12, hin12, hat12, Sz12, Nn12, Ha12⟩ := LAr_in KA (j := (p3 + x0)) hj0 hj1
  obtain ⟨T12, h12, X12, e12, W12, st12⟩ := stJ X10 hx hZ e10 Ar12 (j := (p3 + x0)) hin12 (g := (mkF m 57 #[.val (.ref a1), .val (.ref a2), .val (.int p3), .val (.int (0 : Int32)), .val (.int p5), .val (.int (p3 + x0)), .val (.long (((p5.toInt64) &&& z0) <<< (y0 &&& 0x3f).toInt64)), .second] [(.long (((f ((p3 + x0)).toNatClampNeg) &&& ((z0 <<< (y0 &&& 0x3f).toInt64) ^^^ (-1 : Int64))) ||| (((p5.toInt64) &&& z0) <<< (y0 &&& 0x3f).toInt64))), (.int (p3 + x0)), (.ref a2)])) rfl rfl (hb hby d5_57)
  refine Go.st st12 ?_
  have O13 : Old Z n0 h12 := O0.wr W12 g2
  have K14 : Keep h0 h12 [a2] := (Keep.refl h0 [a2]).wr W12 (Or.inl (List.mem_of_getElem? (i := 0) rfl))
  have VL15 : LAr Z h12 a2 n (fun k => if k = ((p3 + x0)).toNatClampNeg then (((f ((p3 + x0)).toNatClampNeg) &&& ((z0 <<< (y0 &&& 0x3f).toInt64) ^^^ (-1 : Int64))) ||| (((p5.toInt64) &&& z0) <<< (y0 &&& 0x3f).toInt64)) else f k) := LAr_set Ar12 Sz12 Nn12 Ha12 W12
  have N12 := Fr.snoc X12 N0 g2
  show Go p e below _ (T12.setTop (mkF m 58 #[.val (.ref a1), .val (.ref a2), .val (.int p3), .val (.int (0 : Int32)), .val (.int p5), .val (.int (p3 + x0)), .val (.long (((p5.toInt64) &&& z0) <<< (y0 &&& 0x3f).toInt64)), .second] []))
  exact goRetV X12 hx hlk hret e12 (hb hby d5_58) (by decide) (by decide) ⟨rfl, N12, K14, VL15⟩
set_option maxRecDepth 65536 in
set_option maxHeartbeats 40000000 in
theorem rmS1 (l : Launch) (Z : State) (a0 : Array Value) (hw : ∀ d ∈ tables_1, d.before a0 Z = true) (ws : List Jvm.Cond) (a1 a2 aw as am : Addr) (kw ks km : ClassId) (x0 x1 x2 y0 y1 y2 : Int32) (z0 z1 z2 : Int64) (n : Nat) (f : Nat → Int64) (p3 p5 : Int32) (h0 : Heap) (n0 : Nat) (O0 : Old Z n0 h0) (Fw : Fld Z h0 a1 "com/example/gieres/gieres/model/TupleTable" "word" "[I" (.ref aw)) (Vw : Arv Z h0 aw kw .int (3 : Int32) [(.int x0), (.int x1), (.int x2)] (.int (0 : Int32))) (Fsh : Fld Z h0 a1 "com/example/gieres/gieres/model/TupleTable" "shift" "[I" (.ref as)) (Vs : Arv Z h0 as ks .int (3 : Int32) [(.int y0), (.int y1), (.int y2)] (.int (0 : Int32))) (Fm : Fld Z h0 a1 "com/example/gieres/gieres/model/TupleTable" "mask" "[J" (.ref am)) (Vm : Arv Z h0 am km .long (3 : Int32) [(.long z0), (.long z1), (.long z2)] (.long (0 : Int64))) (KA : LAr Z h0 a2 n f) (g2 : n0 ≤ a2) (hj0 : 0 ≤ (p3 + x1).toInt) (hj1 : (p3 + x1).toInt < n) :
    Ctr l (⟨"com/example/gieres/gieres/model/TupleTable", "setState", "([JIII)V"⟩ : MethodName) prog_137_method_6_code 8 none ws ({ frames := 0, cells := 0, slots := 0, locals := 0 } : Room) #[(.ref a1), (.ref a2), (.int p3), (.int (1 : Int32)), (.int p5)] Z h0 (fun v h L => v = none ∧ Fr n0 L ∧ Keep h0 h [a2] ∧ LAr Z h a2 n (fun k => if k = (p3 + x1).toNatClampNeg then own_set (f (p3 + x1).toNatClampNeg) z1 y1 p5 else f k)) := by
  have ef : ∀ m : MethodId, entryFrame m #[(.ref a1), (.ref a2), (.int p3), (.int (1 : Int32)), (.int p5)] 8 = mkF m 0 #[.val (.ref a1), .val (.ref a2), .val (.int p3), .val (.int (1 : Int32)), .val (.int p5), .unset, .unset, .unset] [] := fun m => by first | (simp [entryFrame, mkF, argsToLocals, Value.category]; done) | rfl
  refine Ctr.of (plainFor_of_name pn_5) ?_
  intro p e s m below meth c s₁ hx hZ hby hml hown0 hnm hret hlk X0 e0
  have hown : s.vm.findClass "com/example/gieres/gieres/model/TupleTable" = some m.cls := hown0
  have N0 := Fr.nil n0
  refine Go.st (fun t k => castTop (ef m) k) ?_
  show Go p e below _ (s₁.setTop (mkF m 0 #[.val (.ref a1), .val (.ref a2), .val (.int p3), .val (.int (1 : Int32)), .val (.int p5), .unset, .unset, .unset] []))
  refine Go.st (fun _ => XS.iloadN X0.here hx rfl (hb hby d5_0) rfl) ?_
  refine Go.st (fun _ => XS.aloadN X0.here hx rfl (hb hby d5_1) rfl rfl) ?_
  show Go p e below _ (s₁.setTop (mkF m 2 #[.val (.ref a1), .val (.ref a2), .val (.int p3), .val (.int (1 : Int32)), .val (.int p5), .unset, .unset, .unset] [(.ref a1), (.int p3)]))
  obtain ⟨T1, X1, e1, st1⟩ := getF X0 hx hZ hown (host := "") (Or.inl (hw _ (List.mem_of_getElem? (i := 23) rfl))) Via.refl e0 Fw (g := (mkF m 2 #[.val (.ref a1), .val (.ref a2), .val (.int p3), .val (.int (1 : Int32)), .val (.int p5), .unset, .unset, .unset] [(.ref a1), (.int p3)])) rfl rfl (hb hby d5_2)
  refine Go.st st1 ?_
  show Go p e below _ (T1.setTop (mkF m 5 #[.val (.ref a1), .val (.ref a2), .val (.int p3), .val (.int (1 : Int32)), .val (.int p5), .unset, .unset, .unset] [(.ref aw), (.int p3)]))
  refine Go.st (fun _ => XS.iloadN X1.here hx rfl (hb hby d5_5) rfl) ?_
  show Go p e below _ (T1.setTop (mkF m 6 #[.val (.ref a1), .val (.ref a2), .val (.int p3), .val (.int (1 : Int32)), .val (.int p5), .unset, .unset, .unset] [(.int (1 : Int32)), (.ref aw), (.int p3)]))
  obtain ⟨cl2, Ar2, qk2, Sz2, Nn2, Ha2, Ga2⟩ := id Vw
  have hin2 : ¬ ((1 : Int32) < 0 ∨ cl2.slots.size ≤ ((1 : Int32) : Int32).toNatClampNeg) := inb_of Sz2 ⟨by decide, by decide⟩
  refine Go.st (fun _ => X1.iaload hx (j := (1 : Int32)) (v := (.int x1)) (by rw [e1]; exact Ar2.1) (State.isArrayOf_alike hZ.alike Ar2.2.1) Ar2.2.2 hin2 (Has.at Ha2 hin2 rfl) (g := (mkF m 6 #[.val (.ref a1), .val (.ref a2), .val (.int p3), .val (.int (1 : Int32)), .val (.int p5), .unset, .unset, .unset] [(.int (1 : Int32)), (.ref aw), (.int p3)])) rfl rfl (hb hby d5_6) _) ?_
  show Go p e below _ (T1.setTop (mkF m 7 #[.val (.ref a1), .val (.ref a2), .val (.int p3), .val (.int (1 : Int32)), .val (.int p5), .unset, .unset, .unset] [(.int x1), (.int p3)]))
  refine Go.st (fun _ => XS.iadd X1.here hx rfl (hb hby d5_7) rfl) ?_
  refine Go.st (fun _ => XS.istore X1.here hx rfl (hb hby d5_8) rfl (l' := #[.val (.ref a1), .val (.ref a2), .val (.int p3), .val (.int (1 : Int32)), .val (.int p5), .val (.int (p3 + x1)), .unset, .unset]) rfl) ?_
  refine Go.st (fun _ => XS.iload X1.here hx rfl (hb hby d5_10) rfl) ?_
  refine Go.st (fun _ => XS.i2l X1.here hx rfl (hb hby d5_12) rfl) ?_
  refine Go.st (fun _ => XS.aloadN X1.here hx rfl (hb hby d5_13) rfl rfl) ?_
  show Go p e below _ (T1.setTop (mkF m 14 #[.val (.ref a1), .val (.ref a2), .val (.int p3), .val (.int (1 : Int32)), .val (.int p5), .val (.int (p3 + x1)), .unset, .unset] [(.ref a1), (.long (p5.toInt64))]))
  obtain ⟨T3, X3, e3, st3⟩ := getF X1 hx hZ hown (host := "") (Or.inl (hw _ (List.mem_of_getElem? (i := 27) rfl))) Via.refl e1 Fm (g := (mkF m 14 #[.val (.ref a1), .val (.ref a2), .val (.int p3), .val (.int (1 : Int32)), .val (.int p5), .val (.int (p3 + x1)), .unset, .unset] [(.ref a1), (.long (p5.toInt64))])) rfl rfl (hb hby d5_14)
  refine Go.st st3 ?_
  show Go p e below _ (T3.setTop (mkF m 17 #[.val (.ref a1), .val (.ref a2), .val (.int p3), .val (.int (1 : Int32)), .val (.int p5), .val (.int (p3 + x1)), .unset, .unset] [(.ref am), (.long (p5.toInt64))]))
  refine Go.st (fun _ => XS.iloadN X3.here hx rfl (hb hby d5_17) rfl) ?_
  show Go p e below _ (T3.setTop (mkF m 18 #[.val (.ref a1), .val (.ref a2), .val (.int p3), .val (.int (1 : Int32)), .val (.int p5), .val (.int (p3 + x1)), .unset, .unset] [(.int (1 : Int32)), (.ref am), (.long (p5.toInt64))]))
  obtain ⟨cl4, Ar4, qk4, Sz4, Nn4, Ha4, Ga4⟩ := id Vm
  have hin4 : ¬ ((1 : Int32) < 0 ∨ cl4.slots.size ≤ ((1 : Int32) : Int32).toNatClampNeg) := inb_of Sz4 ⟨by decide, by decide⟩
  refine Go.st (fun _ => X3.laload hx (j := (1 : Int32)) (v := (.long z1)) (by rw [e3]; exact Ar4.1) (State.isArrayOf_alike hZ.alike Ar4.2.1) Ar4.2.2 hin4 (Has.at Ha4 hin4 rfl) (g := (mkF m 18 #[.val (.ref a1), .val (.ref a2), .val (.int p3), .val (.int (1 : Int32)), .val (.int p5), .val (.int (p3 + x1)), .unset, .unset] [(.int (1 : Int32)), (.ref am), (.long (p5.toInt64))])) rfl rfl (hb hby d5_18) _) ?_
  show Go p e below _ (T3.setTop (mkF m 19 #[.val (.ref a1), .val (.ref a2), .val (.int p3), .val (.int (1 : Int32)), .val (.int p5), .val (.int (p3 + x1)), .unset, .unset] [(.long z1), (.long (p5.toInt64))]))
  refine Go.st (fun _ => XS.land X3.here hx rfl (hb hby d5_19) rfl) ?_
  refine Go.st (fun _ => XS.aloadN X3.here hx rfl (hb hby d5_20) rfl rfl) ?_
  show Go p e below _ (T3.setTop (mkF m 21 #[.val (.ref a1), .val (.ref a2), .val (.int p3), .val (.int (1 : Int32)), .val (.int p5), .val (.int (p3 + x1)), .unset, .unset] [(.ref a1), (.long ((p5.toInt64) &&& z1))]))
  obtain ⟨T5, X5, e5, st5⟩ := getF X3 hx hZ hown (host := "") (Or.inl (hw _ (List.mem_of_getElem? (i := 25) rfl))) Via.refl e3 Fsh (g := (mkF m 21 #[.val (.ref a1), .val (.ref a2), .val (.int p3), .val (.int (1 : Int32)), .val (.int p5), .val (.int (p3 + x1)), .unset, .unset] [(.ref a1), (.long ((p5.toInt64) &&& z1))])) rfl rfl (hb hby d5_21)
  refine Go.st st5 ?_
  show Go p e below _ (T5.setTop (mkF m 24 #[.val (.ref a1), .val (.ref a2), .val (.int p3), .val (.int (1 : Int32)), .val (.int p5), .val (.int (p3 + x1)), .unset, .unset] [(.ref as), (.long ((p5.toInt64) &&& z1))]))
  refine Go.st (fun _ => XS.iloadN X5.here hx rfl (hb hby d5_24) rfl) ?_
  show Go p e below _ (T5.setTop (mkF m 25 #[.val (.ref a1), .val (.ref a2), .val (.int p3), .val (.int (1 : Int32)), .val (.int p5), .val (.int (p3 + x1)), .unset, .unset] [(.int (1 : Int32)), (.ref as), (.long ((p5.toInt64) &&& z1))]))
  obtain ⟨cl6, Ar6, qk6, Sz6, Nn6, Ha6, Ga6⟩ := id Vs
  have hin6 : ¬ ((1 : Int32) < 0 ∨ cl6.slots.size ≤ ((1 : Int32) : Int32).toNatClampNeg) := inb_of Sz6 ⟨by decide, by decide⟩
  refine Go.st (fun _ => X5.iaload hx (j := (1 : Int32)) (v := (.int y1)) (by rw [e5]; exact Ar6.1) (State.isArrayOf_alike hZ.alike Ar6.2.1) Ar6.2.2 hin6 (Has.at Ha6 hin6 rfl) (g := (mkF m 25 #[.val (.ref a1), .val (.ref a2), .val (.int p3), .val (.int (1 : Int32)), .val (.int p5), .val (.int (p3 + x1)), .unset, .unset] [(.int (1 : Int32)), (.ref as), (.long ((p5.toInt64) &&& z1))])) rfl rfl (hb hby d5_25) _) ?_
  show Go p e below _ (T5.setTop (mkF m 26 #[.val (.ref a1), .val (.ref a2), .val (.int p3), .val (.int (1 : Int32)), .val (.int p5), .val (.int (p3 + x1)), .unset, .unset] [(.int y1), (.long ((p5.toInt64) &&& z1))]))
  refine Go.st (fun _ => XS.lshl X5.here hx rfl (hb hby d5_26) rfl) ?_
  refine Go.st (fun _ => XS.lstore X5.here hx rfl (hb hby d5_27) rfl (l' := #[.val (.ref a1), .val (.ref a2), .val (.int p3), .val (.int (1 : Int32)), .val (.int p5), .val (.int (p3 + x1)), .val (.long (((p5.toInt64) &&& z1) <<< (y1 &&& 0x3f).toInt64)), .second]) rfl) ?_
  refine Go.st (fun _ => XS.aloadN X5.here hx rfl (hb hby d5_29) rfl rfl) ?_
  refine Go.st (fun _ => XS.iload X5.here hx rfl (hb hby d5_30) rfl) ?_
  refine Go.st (fun _ => XS.aloadN X5.here hx rfl (hb hby d5_32) rfl rfl) ?_
  refine Go.st (fun _ => XS.iload X5.here hx rfl (hb hby d5_33) rfl) ?_
  show Go p e below _ (T5.setTop (mkF m 35 #[.val (.ref a1), .val (.ref a2), .val (.int p3), .val (.int (1 : Int32)), .val (.int p5), .val (.int (p3 + x1)), .val (.long (((p5.toInt64) &&& z1) <<< (y1 &&& 0x3f).toInt64)), .second] [(.int (p3 + x1)), (.ref a2), (.int (p3 + x1)), (.ref a2)]))
  obtain ⟨cl7, Ar7, hin7, hat7, -⟩ := LAr_in KA (j := (p3 + x1)) hj0 hj1
  refine Go.st (fun _ => X5.laload hx (j := (p3 + x1)) (v := (.long (f ((p3 + x1)).toNatClampNeg))) (by rw [e5]; exact Ar7.1) (State.isArrayOf_alike hZ.alike Ar7.2.1) Ar7.2.2 hin7 hat7 (g := (mkF m 35 #[.val (.ref a1), .val (.ref a2), .val (.int p3), .val (.int (1 : Int32)), .val (.int p5), .val (.int (p3 + x1)), .val (.long (((p5.toInt64) &&& z1) <<< (y1 &&& 0x3f).toInt64)), .second] [(.int (p3 + x1)), (.ref a2), (.int (p3 + x1)), (.ref a2)])) rfl rfl (hb hby d5_35) _) ?_
  show Go p e below _ (T5.setTop (mkF m 36 #[.val (.ref a1), .val (.ref a2), .val (.int p3), .val (.int (1 : Int32)), .val (.int p5), .val (.int (p3 + x1)), .val (.long (((p5.toInt64) &&& z1) <<< (y1 &&& 0x3f).toInt64)), .second] [(.long (f ((p3 + x1)).toNatClampNeg)), (.int (p3 + x1)), (.ref a2)]))
  refine Go.st (fun _ => XS.aloadN X5.here hx rfl (hb hby d5_36) rfl rfl) ?_
  show Go p e below _ (T5.setTop (mkF m 37 #[.val (.ref a1), .val (.ref a2), .val (.int p3), .val (.int (1 : Int32)), .val (.int p5), .val (.int (p3 + x1)), .val (.long (((p5.toInt64) &&& z1) <<< (y1 &&& 0x3f).toInt64)), .second] [(.ref a1), (.long (f ((p3 + x1)).toNatClampNeg)), (.int (p3 + x1)), (.ref a2)]))
  obtain ⟨T8, X8, e8, st8⟩ := getF X5 hx hZ hown (host := "") (Or.inl (hw _ (List.mem_of_getElem? (i := 27) rfl))) Via.refl e5 Fm (g := (mkF m 37 #[.val (.ref a1), .val (.ref a2), .val (.int p3), .val (.int (1 : Int32)), .val (.int p5), .val (.int (p3 + x1)), .val (.long (((p5.toInt64) &&& z1) <<< (y1 &&& 0x3f).toInt64)), .second] [(.ref a1), (.long (f ((p3 + x1)).toNatClampNeg)), (.int (p3 + x1)), (.ref a2)])) rfl rfl (hb hby d5_37)
  refine Go.st st8 ?_
  show Go p e below _ (T8.setTop (mkF m 40 #[.val (.ref a1), .val (.ref a2), .val (.int p3), .val (.int (1 : Int32)), .val (.int p5), .val (.int (p3 + x1)), .val (.long (((p5.toInt64) &&& z1) <<< (y1 &&& 0x3f).toInt64)), .second] [(.ref am), (.long (f ((p3 + x1)).toNatClampNeg)), (.int (p3 + x1)), (.ref a2)]))
  refine Go.st (fun _ => XS.iloadN X8.here hx rfl (hb hby d5_40) rfl) ?_
  show Go p e below _ (T8.setTop (mkF m 41 #[.val (.ref a1), .val (.ref a2), .val (.int p3), .val (.int (1 : Int32)), .val (.int p5), .val (.int (p3 + x1)), .val (.long (((p5.toInt64) &&& z1) <<< (y1 &&& 0x3f).toInt64)), .second] [(.int (1 : Int32)), (.ref am), (.long (f ((p3 + x1)).toNatClampNeg)), (.int (p3 + x1)), (.ref a2)]))
  obtain ⟨cl9, Ar9, qk9, Sz9, Nn9, Ha9, Ga9⟩ := id Vm
  have hin9 : ¬ ((1 : Int32) < 0 ∨ cl9.slots.size ≤ ((1 : Int32) : Int32).toNatClampNeg) := inb_of Sz9 ⟨by decide, by decide⟩
  refine Go.st (fun _ => X8.laload hx (j := (1 : Int32)) (v := (.long z1)) (by rw [e8]; exact Ar9.1) (State.isArrayOf_alike hZ.alike Ar9.2.1) Ar9.2.2 hin9 (Has.at Ha9 hin9 rfl) (g := (mkF m 41 #[.val (.ref a1), .val (.ref a2), .val (.int p3), .val (.int (1 : Int32)), .val (.int p5), .val (.int (p3 + x1)), .val (.long (((p5.toInt64) &&& z1) <<< (y1 &&& 0x3f).toInt64)), .second] [(.int (1 : Int32)), (.ref am), (.long (f ((p3 + x1)).toNatClampNeg)), (.int (p3 + x1)), (.ref a2)])) rfl rfl (hb hby d5_41) _) ?_
  show Go p e below _ (T8.setTop (mkF m 42 #[.val (.ref a1), .val (.ref a2), .val (.int p3), .val (.int (1 : Int32)), .val (.int p5), .val (.int (p3 + x1)), .val (.long (((p5.toInt64) &&& z1) <<< (y1 &&& 0x3f).toInt64)), .second] [(.long z1), (.long (f ((p3 + x1)).toNatClampNeg)), (.int (p3 + x1)), (.ref a2)]))
  refine Go.st (fun _ => XS.aloadN X8.here hx rfl (hb hby d5_42) rfl rfl) ?_
  show Go p e below _ (T8.setTop (mkF m 43 #[.val (.ref a1), .val (.ref a2), .val (.int p3), .val (.int (1 : Int32)), .val (.int p5), .val (.int (p3 + x1)), .val (.long (((p5.toInt64) &&& z1) <<< (y1 &&& 0x3f).toInt64)), .second] [(.ref a1), (.long z1), (.long (f ((p3 + x1)).toNatClampNeg)), (.int (p3 + x1)), (.ref a2)]))
  obtain ⟨T10, X10, e10, st10⟩ := getF X8 hx hZ hown (host := "") (Or.inl (hw _ (List.mem_of_getElem? (i := 25) rfl))) Via.refl e8 Fsh (g := (mkF m 43 #[.val (.ref a1), .val (.ref a2), .val (.int p3), .val (.int (1 : Int32)), .val (.int p5), .val (.int (p3 + x1)), .val (.long (((p5.toInt64) &&& z1) <<< (y1 &&& 0x3f).toInt64)), .second] [(.ref a1), (.long z1), (.long (f ((p3 + x1)).toNatClampNeg)), (.int (p3 + x1)), (.ref a2)])) rfl rfl (hb hby d5_43)
  refine Go.st st10 ?_
  show Go p e below _ (T10.setTop (mkF m 46 #[.val (.ref a1), .val (.ref a2), .val (.int p3), .val (.int (1 : Int32)), .val (.int p5), .val (.int (p3 + x1)), .val (.long (((p5.toInt64) &&& z1) <<< (y1 &&& 0x3f).toInt64)), .second] [(.ref as), (.long z1), (.long (f ((p3 + x1)).toNatClampNeg)), (.int (p3 + x1)), (.ref a2)]))
  refine Go.st (fun _ => XS.iloadN X10.here hx rfl (hb hby d5_46) rfl) ?_
  show Go p e below _ (T10.setTop (mkF m 47 #[.val (.ref a1), .val (.ref a2), .val (.int p3), .val (.int (1 : Int32)), .val (.int p5), .val (.int (p3 + x1)), .val (.long (((p5.toInt64) &&& z1) <<< (y1 &&& 0x3f).toInt64)), .second] [(.int (1 : Int32)), (.ref as), (.long z1), (.long (f ((p3 + x1)).toNatClampNeg)), (.int (p3 + x1)), (.ref a2)]))
  obtain ⟨cl11, Ar11, qk11, Sz11, Nn11, Ha11, Ga11⟩ := id Vs
  have hin11 : ¬ ((1 : Int32) < 0 ∨ cl11.slots.size ≤ ((1 : Int32) : Int32).toNatClampNeg) := inb_of Sz11 ⟨by decide, by decide⟩
  refine Go.st (fun _ => X10.iaload hx (j := (1 : Int32)) (v := (.int y1)) (by rw [e10]; exact Ar11.1) (State.isArrayOf_alike hZ.alike Ar11.2.1) Ar11.2.2 hin11 (Has.at Ha11 hin11 rfl) (g := (mkF m 47 #[.val (.ref a1), .val (.ref a2), .val (.int p3), .val (.int (1 : Int32)), .val (.int p5), .val (.int (p3 + x1)), .val (.long (((p5.toInt64) &&& z1) <<< (y1 &&& 0x3f).toInt64)), .second] [(.int (1 : Int32)), (.ref as), (.long z1), (.long (f ((p3 + x1)).toNatClampNeg)), (.int (p3 + x1)), (.ref a2)])) rfl rfl (hb hby d5_47) _) ?_
  show Go p e below _ (T10.setTop (mkF m 48 #[.val (.ref a1), .val (.ref a2), .val (.int p3), .val (.int (1 : Int32)), .val (.int p5), .val (.int (p3 + x1)), .val (.long (((p5.toInt64) &&& z1) <<< (y1 &&& 0x3f).toInt64)), .second] [(.int y1), (.long z1), (.long (f ((p3 + x1)).toNatClampNeg)), (.int (p3 + x1)), (.ref a2)]))
  refine Go.st (fun _ => XS.lshl X10.here hx rfl (hb hby d5_48) rfl) ?_
  show Go p e below _ (T10.setTop (mkF m 49 #[.val (.ref a1), .val (.ref a2), .val (.int p3), .val (.int (1 : Int32)), .val (.int p5), .val (.int (p3 + x1)), .val (.long (((p5.toInt64) &&& z1) <<< (y1 &&& 0x3f).toInt64)), .second] [(.long (z1 <<< (y1 &&& 0x3f).toInt64)), (.long (f ((p3 + x1)).toNatClampNeg)), (.int (p3 + x1)), (.ref a2)]))
  refine Go.st (fun _ => X10.ldc2Long hx hown (mvT hZ (hw _ (List.mem_of_getElem? (i := 44) rfl))) (g := (mkF m 49 #[.val (.ref a1), .val (.ref a2), .val (.int p3), .val (.int (1 : Int32)), .val (.int p5), .val (.int (p3 + x1)), .val (.long (((p5.toInt64) &&& z1) <<< (y1 &&& 0x3f).toInt64)), .second] [(.long (z1 <<< (y1 &&& 0x3f).toInt64)), (.long (f ((p3 + x1)).toNatClampNeg)), (.int (p3 + x1)), (.ref a2)])) rfl (hb hby d5_49) _) ?_
  show Go p e below _ (T10.setTop (mkF m 52 #[.val (.ref a1), .val (.ref a2), .val (.int p3), .val (.int (1 : Int32)), .val (.int p5), .val (.int (p3 + x1)), .val (.long (((p5.toInt64) &&& z1) <<< (y1 &&& 0x3f).toInt64)), .second] [(.long (-1 : Int64)), (.long (z1 <<< (y1 &&& 0x3f).toInt64)), (.long (f ((p3 + x1)).toNatClampNeg)), (.int (p3 + x1)), (.ref a2)]))
  refine Go.st (fun _ => XS.lxor X10.here hx rfl (hb hby d5_52) rfl) ?_
  refine Go.st (fun _ => XS.land X10.here hx rfl (hb hby d5_53) rfl) ?_
  refine Go.st (fun _ => XS.lload X10.here hx rfl (hb hby d5_54) rfl) ?_
  refine Go.st (fun _ => XS.lor X10.here hx rfl (hb hby d5_56) rfl) ?_
  show Go p e below _ (T10.setTop (mkF m 57 #[.val (.ref a1), .val (.ref a2), .val (.int p3), .val (.int (1 : Int32)), .val (.int p5), .val (.int (p3 + x1)), .val (.long (((p5.toInt64) &&& z1) <<< (y1 &&& 0x3f).toInt64)), .second] [(.long (((f ((p3 + x1)).toNatClampNeg) &&& ((z1 <<< (y1 &&& 0x3f).toInt64) ^^^ (-1 : Int64))) ||| (((p5.toInt64) &&& z1) <<< (y1 &&& 0x3f).toInt64))), (.int (p3 + x1)), (.ref a2)]))
  obtain ⟨cl12, Ar12, hin12, hat12, Sz12, Nn12, Ha12⟩ := LAr_in KA (j := (p3 + x1)) hj0 hj1
  obtain ⟨T12, h12, X12, e12, W12, st12⟩ := stJ X10 hx hZ e10 Ar12 (j := (p3 + x1)) hin12 (g := (mkF m 57 #[.val (.ref a1), .val (.ref a2), .val (.int p3), .val (.int (1 : Int32)), .val (.int p5), .val (.int (p3 + x1)), .val (.long (((p5.toInt64) &&& z1) <<< (y1 &&& 0x3f).toInt64)), .second] [(.long (((f ((p3 + x1)).toNatClampNeg) &&& ((z1 <<< (y1 &&& 0x3f).toInt64) ^^^ (-1 : Int64))) ||| (((p5.toInt64) &&& z1) <<< (y1 &&& 0x3f).toInt64))), (.int (p3 + x1)), (.ref a2)])) rfl rfl (hb hby d5_57)
  refine Go.st st12 ?_
  have O13 : Old Z n0 h12 := O0.wr W12 g2
  have K14 : Keep h0 h12 [a2] := (Keep.refl h0 [a2]).wr W12 (Or.inl (List.mem_of_getElem? (i := 0) rfl))
  have VL15 : LAr Z h12 a2 n (fun k => if k = ((p3 + x1)).toNatClampNeg then (((f ((p3 + x1)).toNatClampNeg) &&& ((z1 <<< (y1 &&& 0x3f).toInt64) ^^^ (-1 : Int64))) ||| (((p5.toInt64) &&& z1) <<< (y1 &&& 0x3f).toInt64)) else f k) := LAr_set Ar12 Sz12 Nn12 Ha12 W12
  have N12 := Fr.snoc X12 N0 g2
  show Go p e below _ (T12.setTop (mkF m 58 #[.val (.ref a1), .val (.ref a2), .val (.int p3), .val (.int (1 : Int32)), .val (.int p5), .val (.int (p3 + x1)), .val (.long (((p5.toInt64) &&& z1) <<< (y1 &&& 0x3f).toInt64)), .second] []))
  exact goRetV X12 hx hlk hret e12 (hb hby d5_58) (by decide) (by decide) ⟨rfl, N12, K14, VL15⟩
set_option maxRecDepth 65536 in
set_option maxHeartbeats 40000000 in
theorem rmS2 (l : Launch) (Z : State) (a0 : Array Value) (hw : ∀ d ∈ tables_1, d.before a0 Z = true) (ws : List Jvm.Cond) (a1 a2 aw as am : Addr) (kw ks km : ClassId) (x0 x1 x2 y0 y1 y2 : Int32) (z0 z1 z2 : Int64) (n : Nat) (f : Nat → Int64) (p3 p5 : Int32) (h0 : Heap) (n0 : Nat) (O0 : Old Z n0 h0) (Fw : Fld Z h0 a1 "com/example/gieres/gieres/model/TupleTable" "word" "[I" (.ref aw)) (Vw : Arv Z h0 aw kw .int (3 : Int32) [(.int x0), (.int x1), (.int x2)] (.int (0 : Int32))) (Fsh : Fld Z h0 a1 "com/example/gieres/gieres/model/TupleTable" "shift" "[I" (.ref as)) (Vs : Arv Z h0 as ks .int (3 : Int32) [(.int y0), (.int y1), (.int y2)] (.int (0 : Int32))) (Fm : Fld Z h0 a1 "com/example/gieres/gieres/model/TupleTable" "mask" "[J" (.ref am)) (Vm : Arv Z h0 am km .long (3 : Int32) [(.long z0), (.long z1), (.long z2)] (.long (0 : Int64))) (KA : LAr Z h0 a2 n f) (g2 : n0 ≤ a2) (hj0 : 0 ≤ (p3 + x2).toInt) (hj1 : (p3 + x2).toInt < n) :
    Ctr l (⟨"com/example/gieres/gieres/model/TupleTable", "setState", "([JIII)V"⟩ : MethodName) prog_137_method_6_code 8 none ws ({ frames := 0, cells := 0, slots := 0, locals := 0 } : Room) #[(.ref a1), (.ref a2), (.int p3), (.int (2 : Int32)), (.int p5)] Z h0 (fun v h L => v = none ∧ Fr n0 L ∧ Keep h0 h [a2] ∧ LAr Z h a2 n (fun k => if k = (p3 + x2).toNatClampNeg then own_set (f (p3 + x2).toNatClampNeg) z2 y2 p5 else f k)) := by
  have ef : ∀ m : MethodId, entryFrame m #[(.ref a1), (.ref a2), (.int p3), (.int (2 : Int32)), (.int p5)] 8 = mkF m 0 #[.val (.ref a1), .val (.ref a2), .val (.int p3), .val (.int (2 : Int32)), .val (.int p5), .unset, .unset, .unset] [] := fun m => by first | (simp [entryFrame, mkF, argsToLocals, Value.category]; done) | rfl
  refine Ctr.of (plainFor_of_name pn_5) ?_
  intro p e s m below meth c s₁ hx hZ hby hml hown0 hnm hret hlk X0 e0
  have hown : s.vm.findClass "com/example/gieres/gieres/model/TupleTable" = some m.cls := hown0
  have N0 := Fr.nil n0
  refine Go.st (fun t k => castTop (ef m) k) ?_
  show Go p e below _ (s₁.setTop (mkF m 0 #[.val (.ref a1), .val (.ref a2), .val (.int p3), .val (.int (2 : Int32)), .val (.int p5), .unset, .unset, .unset] []))
  refine Go.st (fun _ => XS.iloadN X0.here hx rfl (hb hby d5_0) rfl) ?_
  refine Go.st (fun _ => XS.aloadN X0.here hx rfl (hb hby d5_1) rfl rfl) ?_
  show Go p e below _ (s₁.setTop (mkF m 2 #[.val (.ref a1), .val (.ref a2), .val (.int p3), .val (.int (2 : Int32)), .val (.int p5), .unset, .unset, .unset] [(.ref a1), (.int p3)]))
  obtain ⟨T1, X1, e1, st1⟩ := getF X0 hx hZ hown (host := "") (Or.inl (hw _ (List.mem_of_getElem? (i := 23) rfl))) Via.refl e0 Fw (g := (mkF m 2 #[.val (.ref a1), .val (.ref a2), .val (.int p3), .val (.int (2 : Int32)), .val (.int p5), .unset, .unset, .unset] [(.ref a1), (.int p3)])) rfl rfl (hb hby d5_2)
  refine Go.st st1 ?_
  show Go p e below _ (T1.setTop (mkF m 5 #[.val (.ref a1), .val (.ref a2), .val (.int p3), .val (.int (2 : Int32)), .val (.int p5), .unset, .unset, .unset] [(.ref aw), (.int p3)]))
  refine Go.st (fun _ => XS.iloadN X1.here hx rfl (hb hby d5_5) rfl) ?_
  show Go p e below _ (T1.setTop (mkF m 6 #[.val (.ref a1), .val (.ref a2), .val (.int p3), .val (.int (2 : Int32)), .val (.int p5), .unset, .unset, .unset] [(.int (2 : Int32)), (.ref aw), (.int p3)]))
  obtain ⟨cl2, Ar2, qk2, Sz2, Nn2, Ha2, Ga2⟩ := id Vw
  have hin2 : ¬ ((2 : Int32) < 0 ∨ cl2.slots.size ≤ ((2 : Int32) : Int32).toNatClampNeg) := inb_of Sz2 ⟨by decide, by decide⟩
  refine Go.st (fun _ => X1.iaload hx (j := (2 : Int32)) (v := (.int x2)) (by rw [e1]; exact Ar2.1) (State.isArrayOf_alike hZ.alike Ar2.2.1) Ar2.2.2 hin2 (Has.at Ha2 hin2 rfl) (g := (mkF m 6 #[.val (.ref a1), .val (.ref a2), .val (.int p3), .val (.int (2 : Int32)), .val (.int p5), .unset, .unset, .unset] [(.int (2 : Int32)), (.ref aw), (.int p3)])) rfl rfl (hb hby d5_6) _) ?_
  show Go p e below _ (T1.setTop (mkF m 7 #[.val (.ref a1), .val (.ref a2), .val (.int p3), .val (.int (2 : Int32)), .val (.int p5), .unset, .unset, .unset] [(.int x2), (.int p3)]))
  refine Go.st (fun _ => XS.iadd X1.here hx rfl (hb hby d5_7) rfl) ?_
  refine Go.st (fun _ => XS.istore X1.here hx rfl (hb hby d5_8) rfl (l' := #[.val (.ref a1), .val (.ref a2), .val (.int p3), .val (.int (2 : Int32)), .val (.int p5), .val (.int (p3 + x2)), .unset, .unset]) rfl) ?_
  refine Go.st (fun _ => XS.iload X1.here hx rfl (hb hby d5_10) rfl) ?_
  refine Go.st (fun _ => XS.i2l X1.here hx rfl (hb hby d5_12) rfl) ?_
  refine Go.st (fun _ => XS.aloadN X1.here hx rfl (hb hby d5_13) rfl rfl) ?_
  show Go p e below _ (T1.setTop (mkF m 14 #[.val (.ref a1), .val (.ref a2), .val (.int p3), .val (.int (2 : Int32)), .val (.int p5), .val (.int (p3 + x2)), .unset, .unset] [(.ref a1), (.long (p5.toInt64))]))
  obtain ⟨T3, X3, e3, st3⟩ := getF X1 hx hZ hown (host := "") (Or.inl (hw _ (List.mem_of_getElem? (i := 27) rfl))) Via.refl e1 Fm (g := (mkF m 14 #[.val (.ref a1), .val (.ref a2), .val (.int p3), .val (.int (2 : Int32)), .val (.int p5), .val (.int (p3 + x2)), .unset, .unset] [(.ref a1), (.long (p5.toInt64))])) rfl rfl (hb hby d5_14)
  refine Go.st st3 ?_
  show Go p e below _ (T3.setTop (mkF m 17 #[.val (.ref a1), .val (.ref a2), .val (.int p3), .val (.int (2 : Int32)), .val (.int p5), .val (.int (p3 + x2)), .unset, .unset] [(.ref am), (.long (p5.toInt64))]))
  refine Go.st (fun _ => XS.iloadN X3.here hx rfl (hb hby d5_17) rfl) ?_
  show Go p e below _ (T3.setTop (mkF m 18 #[.val (.ref a1), .val (.ref a2), .val (.int p3), .val (.int (2 : Int32)), .val (.int p5), .val (.int (p3 + x2)), .unset, .unset] [(.int (2 : Int32)), (.ref am), (.long (p5.toInt64))]))
  obtain ⟨cl4, Ar4, qk4, Sz4, Nn4, Ha4, Ga4⟩ := id Vm
  have hin4 : ¬ ((2 : Int32) < 0 ∨ cl4.slots.size ≤ ((2 : Int32) : Int32).toNatClampNeg) := inb_of Sz4 ⟨by decide, by decide⟩
  refine Go.st (fun _ => X3.laload hx (j := (2 : Int32)) (v := (.long z2)) (by rw [e3]; exact Ar4.1) (State.isArrayOf_alike hZ.alike Ar4.2.1) Ar4.2.2 hin4 (Has.at Ha4 hin4 rfl) (g := (mkF m 18 #[.val (.ref a1), .val (.ref a2), .val (.int p3), .val (.int (2 : Int32)), .val (.int p5), .val (.int (p3 + x2)), .unset, .unset] [(.int (2 : Int32)), (.ref am), (.long (p5.toInt64))])) rfl rfl (hb hby d5_18) _) ?_
  show Go p e below _ (T3.setTop (mkF m 19 #[.val (.ref a1), .val (.ref a2), .val (.int p3), .val (.int (2 : Int32)), .val (.int p5), .val (.int (p3 + x2)), .unset, .unset] [(.long z2), (.long (p5.toInt64))]))
  refine Go.st (fun _ => XS.land X3.here hx rfl (hb hby d5_19) rfl) ?_
  refine Go.st (fun _ => XS.aloadN X3.here hx rfl (hb hby d5_20) rfl rfl) ?_
  show Go p e below _ (T3.setTop (mkF m 21 #[.val (.ref a1), .val (.ref a2), .val (.int p3), .val (.int (2 : Int32)), .val (.int p5), .val (.int (p3 + x2)), .unset, .unset] [(.ref a1), (.long ((p5.toInt64) &&& z2))]))
  obtain ⟨T5, X5, e5, st5⟩ := getF X3 hx hZ hown (host := "") (Or.inl (hw _ (List.mem_of_getElem? (i := 25) rfl))) Via.refl e3 Fsh (g := (mkF m 21 #[.val (.ref a1), .val (.ref a2), .val (.int p3), .val (.int (2 : Int32)), .val (.int p5), .val (.int (p3 + x2)), .unset, .unset] [(.ref a1), (.long ((p5.toInt64) &&& z2))])) rfl rfl (hb hby d5_21)
  refine Go.st st5 ?_
  show Go p e below _ (T5.setTop (mkF m 24 #[.val (.ref a1), .val (.ref a2), .val (.int p3), .val (.int (2 : Int32)), .val (.int p5), .val (.int (p3 + x2)), .unset, .unset] [(.ref as), (.long ((p5.toInt64) &&& z2))]))
  refine Go.st (fun _ => XS.iloadN X5.here hx rfl (hb hby d5_24) rfl) ?_
  show Go p e below _ (T5.setTop (mkF m 25 #[.val (.ref a1), .val (.ref a2), .val (.int p3), .val (.int (2 : Int32)), .val (.int p5), .val (.int (p3 + x2)), .unset, .unset] [(.int (2 : Int32)), (.ref as), (.long ((p5.toInt64) &&& z2))]))
  obtain ⟨cl6, Ar6, qk6, Sz6, Nn6, Ha6, Ga6⟩ := id Vs
  have hin6 : ¬ ((2 : Int32) < 0 ∨ cl6.slots.size ≤ ((2 : Int32) : Int32).toNatClampNeg) := inb_of Sz6 ⟨by decide, by decide⟩
  refine Go.st (fun _ => X5.iaload hx (j := (2 : Int32)) (v := (.int y2)) (by rw [e5]; exact Ar6.1) (State.isArrayOf_alike hZ.alike Ar6.2.1) Ar6.2.2 hin6 (Has.at Ha6 hin6 rfl) (g := (mkF m 25 #[.val (.ref a1), .val (.ref a2), .val (.int p3), .val (.int (2 : Int32)), .val (.int p5), .val (.int (p3 + x2)), .unset, .unset] [(.int (2 : Int32)), (.ref as), (.long ((p5.toInt64) &&& z2))])) rfl rfl (hb hby d5_25) _) ?_
  show Go p e below _ (T5.setTop (mkF m 26 #[.val (.ref a1), .val (.ref a2), .val (.int p3), .val (.int (2 : Int32)), .val (.int p5), .val (.int (p3 + x2)), .unset, .unset] [(.int y2), (.long ((p5.toInt64) &&& z2))]))
  refine Go.st (fun _ => XS.lshl X5.here hx rfl (hb hby d5_26) rfl) ?_
  refine Go.st (fun _ => XS.lstore X5.here hx rfl (hb hby d5_27) rfl (l' := #[.val (.ref a1), .val (.ref a2), .val (.int p3), .val (.int (2 : Int32)), .val (.int p5), .val (.int (p3 + x2)), .val (.long (((p5.toInt64) &&& z2) <<< (y2 &&& 0x3f).toInt64)), .second]) rfl) ?_
  refine Go.st (fun _ => XS.aloadN X5.here hx rfl (hb hby d5_29) rfl rfl) ?_
  refine Go.st (fun _ => XS.iload X5.here hx rfl (hb hby d5_30) rfl) ?_
  refine Go.st (fun _ => XS.aloadN X5.here hx rfl (hb hby d5_32) rfl rfl) ?_
  refine Go.st (fun _ => XS.iload X5.here hx rfl (hb hby d5_33) rfl) ?_
  show Go p e below _ (T5.setTop (mkF m 35 #[.val (.ref a1), .val (.ref a2), .val (.int p3), .val (.int (2 : Int32)), .val (.int p5), .val (.int (p3 + x2)), .val (.long (((p5.toInt64) &&& z2) <<< (y2 &&& 0x3f).toInt64)), .second] [(.int (p3 + x2)), (.ref a2), (.int (p3 + x2)), (.ref a2)]))
  obtain ⟨cl7, Ar7, hin7, hat7, -⟩ := LAr_in KA (j := (p3 + x2)) hj0 hj1
  refine Go.st (fun _ => X5.laload hx (j := (p3 + x2)) (v := (.long (f ((p3 + x2)).toNatClampNeg))) (by rw [e5]; exact Ar7.1) (State.isArrayOf_alike hZ.alike Ar7.2.1) Ar7.2.2 hin7 hat7 (g := (mkF m 35 #[.val (.ref a1), .val (.ref a2), .val (.int p3), .val (.int (2 : Int32)), .val (.int p5), .val (.int (p3 + x2)), .val (.long (((p5.toInt64) &&& z2) <<< (y2 &&& 0x3f).toInt64)), .second] [(.int (p3 + x2)), (.ref a2), (.int (p3 + x2)), (.ref a2)])) rfl rfl (hb hby d5_35) _) ?_
  show Go p e below _ (T5.setTop (mkF m 36 #[.val (.ref a1), .val (.ref a2), .val (.int p3), .val (.int (2 : Int32)), .val (.int p5), .val (.int (p3 + x2)), .val (.long (((p5.toInt64) &&& z2) <<< (y2 &&& 0x3f).toInt64)), .second] [(.long (f ((p3 + x2)).toNatClampNeg)), (.int (p3 + x2)), (.ref a2)]))
  refine Go.st (fun _ => XS.aloadN X5.here hx rfl (hb hby d5_36) rfl rfl) ?_
  show Go p e below _ (T5.setTop (mkF m 37 #[.val (.ref a1), .val (.ref a2), .val (.int p3), .val (.int (2 : Int32)), .val (.int p5), .val (.int (p3 + x2)), .val (.long (((p5.toInt64) &&& z2) <<< (y2 &&& 0x3f).toInt64)), .second] [(.ref a1), (.long (f ((p3 + x2)).toNatClampNeg)), (.int (p3 + x2)), (.ref a2)]))
  obtain ⟨T8, X8, e8, st8⟩ := getF X5 hx hZ hown (host := "") (Or.inl (hw _ (List.mem_of_getElem? (i := 27) rfl))) Via.refl e5 Fm (g := (mkF m 37 #[.val (.ref a1), .val (.ref a2), .val (.int p3), .val (.int (2 : Int32)), .val (.int p5), .val (.int (p3 + x2)), .val (.long (((p5.toInt64) &&& z2) <<< (y2 &&& 0x3f).toInt64)), .second] [(.ref a1), (.long (f ((p3 + x2)).toNatClampNeg)), (.int (p3 + x2)), (.ref a2)])) rfl rfl (hb hby d5_37)
  refine Go.st st8 ?_
  show Go p e below _ (T8.setTop (mkF m 40 #[.val (.ref a1), .val (.ref a2), .val (.int p3), .val (.int (2 : Int32)), .val (.int p5), .val (.int (p3 + x2)), .val (.long (((p5.toInt64) &&& z2) <<< (y2 &&& 0x3f).toInt64)), .second] [(.ref am), (.long (f ((p3 + x2)).toNatClampNeg)), (.int (p3 + x2)), (.ref a2)]))
  refine Go.st (fun _ => XS.iloadN X8.here hx rfl (hb hby d5_40) rfl) ?_
  show Go p e below _ (T8.setTop (mkF m 41 #[.val (.ref a1), .val (.ref a2), .val (.int p3), .val (.int (2 : Int32)), .val (.int p5), .val (.int (p3 + x2)), .val (.long (((p5.toInt64) &&& z2) <<< (y2 &&& 0x3f).toInt64)), .second] [(.int (2 : Int32)), (.ref am), (.long (f ((p3 + x2)).toNatClampNeg)), (.int (p3 + x2)), (.ref a2)]))
  obtain ⟨cl9, Ar9, qk9, Sz9, Nn9, Ha9, Ga9⟩ := id Vm
  have hin9 : ¬ ((2 : Int32) < 0 ∨ cl9.slots.size ≤ ((2 : Int32) : Int32).toNatClampNeg) := inb_of Sz9 ⟨by decide, by decide⟩
  refine Go.st (fun _ => X8.laload hx (j := (2 : Int32)) (v := (.long z2)) (by rw [e8]; exact Ar9.1) (State.isArrayOf_alike hZ.alike Ar9.2.1) Ar9.2.2 hin9 (Has.at Ha9 hin9 rfl) (g := (mkF m 41 #[.val (.ref a1), .val (.ref a2), .val (.int p3), .val (.int (2 : Int32)), .val (.int p5), .val (.int (p3 + x2)), .val (.long (((p5.toInt64) &&& z2) <<< (y2 &&& 0x3f).toInt64)), .second] [(.int (2 : Int32)), (.ref am), (.long (f ((p3 + x2)).toNatClampNeg)), (.int (p3 + x2)), (.ref a2)])) rfl rfl (hb hby d5_41) _) ?_
  show Go p e below _ (T8.setTop (mkF m 42 #[.val (.ref a1), .val (.ref a2), .val (.int p3), .val (.int (2 : Int32)), .val (.int p5), .val (.int (p3 + x2)), .val (.long (((p5.toInt64) &&& z2) <<< (y2 &&& 0x3f).toInt64)), .second] [(.long z2), (.long (f ((p3 + x2)).toNatClampNeg)), (.int (p3 + x2)), (.ref a2)]))
  refine Go.st (fun _ => XS.aloadN X8.here hx rfl (hb hby d5_42) rfl rfl) ?_
  show Go p e below _ (T8.setTop (mkF m 43 #[.val (.ref a1), .val (.ref a2), .val (.int p3), .val (.int (2 : Int32)), .val (.int p5), .val (.int (p3 + x2)), .val (.long (((p5.toInt64) &&& z2) <<< (y2 &&& 0x3f).toInt64)), .second] [(.ref a1), (.long z2), (.long (f ((p3 + x2)).toNatClampNeg)), (.int (p3 + x2)), (.ref a2)]))
  obtain ⟨T10, X10, e10, st10⟩ := getF X8 hx hZ hown (host := "") (Or.inl (hw _ (List.mem_of_getElem? (i := 25) rfl))) Via.refl e8 Fsh (g := (mkF m 43 #[.val (.ref a1), .val (.ref a2), .val (.int p3), .val (.int (2 : Int32)), .val (.int p5), .val (.int (p3 + x2)), .val (.long (((p5.toInt64) &&& z2) <<< (y2 &&& 0x3f).toInt64)), .second] [(.ref a1), (.long z2), (.long (f ((p3 + x2)).toNatClampNeg)), (.int (p3 + x2)), (.ref a2)])) rfl rfl (hb hby d5_43)
  refine Go.st st10 ?_
  show Go p e below _ (T10.setTop (mkF m 46 #[.val (.ref a1), .val (.ref a2), .val (.int p3), .val (.int (2 : Int32)), .val (.int p5), .val (.int (p3 + x2)), .val (.long (((p5.toInt64) &&& z2) <<< (y2 &&& 0x3f).toInt64)), .second] [(.ref as), (.long z2), (.long (f ((p3 + x2)).toNatClampNeg)), (.int (p3 + x2)), (.ref a2)]))
  refine Go.st (fun _ => XS.iloadN X10.here hx rfl (hb hby d5_46) rfl) ?_
  show Go p e below _ (T10.setTop (mkF m 47 #[.val (.ref a1), .val (.ref a2), .val (.int p3), .val (.int (2 : Int32)), .val (.int p5), .val (.int (p3 + x2)), .val (.long (((p5.toInt64) &&& z2) <<< (y2 &&& 0x3f).toInt64)), .second] [(.int (2 : Int32)), (.ref as), (.long z2), (.long (f ((p3 + x2)).toNatClampNeg)), (.int (p3 + x2)), (.ref a2)]))
  obtain ⟨cl11, Ar11, qk11, Sz11, Nn11, Ha11, Ga11⟩ := id Vs
  have hin11 : ¬ ((2 : Int32) < 0 ∨ cl11.slots.size ≤ ((2 : Int32) : Int32).toNatClampNeg) := inb_of Sz11 ⟨by decide, by decide⟩
  refine Go.st (fun _ => X10.iaload hx (j := (2 : Int32)) (v := (.int y2)) (by rw [e10]; exact Ar11.1) (State.isArrayOf_alike hZ.alike Ar11.2.1) Ar11.2.2 hin11 (Has.at Ha11 hin11 rfl) (g := (mkF m 47 #[.val (.ref a1), .val (.ref a2), .val (.int p3), .val (.int (2 : Int32)), .val (.int p5), .val (.int (p3 + x2)), .val (.long (((p5.toInt64) &&& z2) <<< (y2 &&& 0x3f).toInt64)), .second] [(.int (2 : Int32)), (.ref as), (.long z2), (.long (f ((p3 + x2)).toNatClampNeg)), (.int (p3 + x2)), (.ref a2)])) rfl rfl (hb hby d5_47) _) ?_
  show Go p e below _ (T10.setTop (mkF m 48 #[.val (.ref a1), .val (.ref a2), .val (.int p3), .val (.int (2 : Int32)), .val (.int p5), .val (.int (p3 + x2)), .val (.long (((p5.toInt64) &&& z2) <<< (y2 &&& 0x3f).toInt64)), .second] [(.int y2), (.long z2), (.long (f ((p3 + x2)).toNatClampNeg)), (.int (p3 + x2)), (.ref a2)]))
  refine Go.st (fun _ => XS.lshl X10.here hx rfl (hb hby d5_48) rfl) ?_
  show Go p e below _ (T10.setTop (mkF m 49 #[.val (.ref a1), .val (.ref a2), .val (.int p3), .val (.int (2 : Int32)), .val (.int p5), .val (.int (p3 + x2)), .val (.long (((p5.toInt64) &&& z2) <<< (y2 &&& 0x3f).toInt64)), .second] [(.long (z2 <<< (y2 &&& 0x3f).toInt64)), (.long (f ((p3 + x2)).toNatClampNeg)), (.int (p3 + x2)), (.ref a2)]))
  refine Go.st (fun _ => X10.ldc2Long hx hown (mvT hZ (hw _ (List.mem_of_getElem? (i := 44) rfl))) (g := (mkF m 49 #[.val (.ref a1), .val (.ref a2), .val (.int p3), .val (.int (2 : Int32)), .val (.int p5), .val (.int (p3 + x2)), .val (.long (((p5.toInt64) &&& z2) <<< (y2 &&& 0x3f).toInt64)), .second] [(.long (z2 <<< (y2 &&& 0x3f).toInt64)), (.long (f ((p3 + x2)).toNatClampNeg)), (.int (p3 + x2)), (.ref a2)])) rfl (hb hby d5_49) _) ?_
  show Go p e below _ (T10.setTop (mkF m 52 #[.val (.ref a1), .val (.ref a2), .val (.int p3), .val (.int (2 : Int32)), .val (.int p5), .val (.int (p3 + x2)), .val (.long (((p5.toInt64) &&& z2) <<< (y2 &&& 0x3f).toInt64)), .second] [(.long (-1 : Int64)), (.long (z2 <<< (y2 &&& 0x3f).toInt64)), (.long (f ((p3 + x2)).toNatClampNeg)), (.int (p3 + x2)), (.ref a2)]))
  refine Go.st (fun _ => XS.lxor X10.here hx rfl (hb hby d5_52) rfl) ?_
  refine Go.st (fun _ => XS.land X10.here hx rfl (hb hby d5_53) rfl) ?_
  refine Go.st (fun _ => XS.lload X10.here hx rfl (hb hby d5_54) rfl) ?_
  refine Go.st (fun _ => XS.lor X10.here hx rfl (hb hby d5_56) rfl) ?_
  show Go p e below _ (T10.setTop (mkF m 57 #[.val (.ref a1), .val (.ref a2), .val (.int p3), .val (.int (2 : Int32)), .val (.int p5), .val (.int (p3 + x2)), .val (.long (((p5.toInt64) &&& z2) <<< (y2 &&& 0x3f).toInt64)), .second] [(.long (((f ((p3 + x2)).toNatClampNeg) &&& ((z2 <<< (y2 &&& 0x3f).toInt64) ^^^ (-1 : Int64))) ||| (((p5.toInt64) &&& z2) <<< (y2 &&& 0x3f).toInt64))), (.int (p3 + x2)), (.ref a2)]))
  obtain ⟨cl12, Ar12, hin12, hat12, Sz12, Nn12, Ha12⟩ := LAr_in KA (j := (p3 + x2)) hj0 hj1
  obtain ⟨T12, h12, X12, e12, W12, st12⟩ := stJ X10 hx hZ e10 Ar12 (j := (p3 + x2)) hin12 (g := (mkF m 57 #[.val (.ref a1), .val (.ref a2), .val (.int p3), .val (.int (2 : Int32)), .val (.int p5), .val (.int (p3 + x2)), .val (.long (((p5.toInt64) &&& z2) <<< (y2 &&& 0x3f).toInt64)), .second] [(.long (((f ((p3 + x2)).toNatClampNeg) &&& ((z2 <<< (y2 &&& 0x3f).toInt64) ^^^ (-1 : Int64))) ||| (((p5.toInt64) &&& z2) <<< (y2 &&& 0x3f).toInt64))), (.int (p3 + x2)), (.ref a2)])) rfl rfl (hb hby d5_57)
  refine Go.st st12 ?_
  have O13 : Old Z n0 h12 := O0.wr W12 g2
  have K14 : Keep h0 h12 [a2] := (Keep.refl h0 [a2]).wr W12 (Or.inl (List.mem_of_getElem? (i := 0) rfl))
  have VL15 : LAr Z h12 a2 n (fun k => if k = ((p3 + x2)).toNatClampNeg then (((f ((p3 + x2)).toNatClampNeg) &&& ((z2 <<< (y2 &&& 0x3f).toInt64) ^^^ (-1 : Int64))) ||| (((p5.toInt64) &&& z2) <<< (y2 &&& 0x3f).toInt64)) else f k) := LAr_set Ar12 Sz12 Nn12 Ha12 W12
  have N12 := Fr.snoc X12 N0 g2
  show Go p e below _ (T12.setTop (mkF m 58 #[.val (.ref a1), .val (.ref a2), .val (.int p3), .val (.int (2 : Int32)), .val (.int p5), .val (.int (p3 + x2)), .val (.long (((p5.toInt64) &&& z2) <<< (y2 &&& 0x3f).toInt64)), .second] []))
  exact goRetV X12 hx hlk hret e12 (hb hby d5_58) (by decide) (by decide) ⟨rfl, N12, K14, VL15⟩
theorem d6_0 : decode prog_137_method_5_code 0 = .ok (.aload_n 1, 1) := by decide +kernel
theorem d6_1 : decode prog_137_method_5_code 1 = .ok (.iload_n 2, 1) := by decide +kernel
theorem d6_2 : decode prog_137_method_5_code 2 = .ok (.aload_n 0, 1) := by decide +kernel
theorem d6_3 : decode prog_137_method_5_code 3 = .ok (.getfield 29, 3) := by decide +kernel
theorem d6_6 : decode prog_137_method_5_code 6 = .ok (.iload_n 3, 1) := by decide +kernel
theorem d6_7 : decode prog_137_method_5_code 7 = .ok (.iaload, 1) := by decide +kernel
theorem d6_8 : decode prog_137_method_5_code 8 = .ok (.iadd, 1) := by decide +kernel
theorem d6_9 : decode prog_137_method_5_code 9 = .ok (.laload, 1) := by decide +kernel
theorem d6_10 : decode prog_137_method_5_code 10 = .ok (.aload_n 0, 1) := by decide +kernel
theorem d6_11 : decode prog_137_method_5_code 11 = .ok (.getfield 32, 3) := by decide +kernel
theorem d6_14 : decode prog_137_method_5_code 14 = .ok (.iload_n 3, 1) := by decide +kernel
theorem d6_15 : decode prog_137_method_5_code 15 = .ok (.iaload, 1) := by decide +kernel
theorem d6_16 : decode prog_137_method_5_code 16 = .ok (.lushr, 1) := by decide +kernel
theorem d6_17 : decode prog_137_method_5_code 17 = .ok (.aload_n 0, 1) := by decide +kernel
theorem d6_18 : decode prog_137_method_5_code 18 = .ok (.getfield 35, 3) := by decide +kernel
theorem d6_21 : decode prog_137_method_5_code 21 = .ok (.iload_n 3, 1) := by decide +kernel
theorem d6_22 : decode prog_137_method_5_code 22 = .ok (.laload, 1) := by decide +kernel
theorem d6_23 : decode prog_137_method_5_code 23 = .ok (.land, 1) := by decide +kernel
theorem d6_24 : decode prog_137_method_5_code 24 = .ok (.l2i, 1) := by decide +kernel
theorem d6_25 : decode prog_137_method_5_code 25 = .ok (.ireturn, 1) := by decide +kernel
theorem pn_6 : plainName "com/example/gieres/gieres/model/TupleTable" = true := by first | (simp [plainName, overriddenIn]; done) | decide +kernel
set_option maxRecDepth 65536 in
set_option maxHeartbeats 40000000 in
theorem rmG0 (l : Launch) (Z : State) (a0 : Array Value) (hw : ∀ d ∈ tables_1, d.before a0 Z = true) (ws : List Jvm.Cond) (a1 a2 aw as am : Addr) (kw ks km : ClassId) (x0 x1 x2 y0 y1 y2 : Int32) (z0 z1 z2 : Int64) (n : Nat) (f : Nat → Int64) (p3 : Int32) (h0 : Heap) (n0 : Nat) (O0 : Old Z n0 h0) (Fw : Fld Z h0 a1 "com/example/gieres/gieres/model/TupleTable" "word" "[I" (.ref aw)) (Vw : Arv Z h0 aw kw .int (3 : Int32) [(.int x0), (.int x1), (.int x2)] (.int (0 : Int32))) (Fsh : Fld Z h0 a1 "com/example/gieres/gieres/model/TupleTable" "shift" "[I" (.ref as)) (Vs : Arv Z h0 as ks .int (3 : Int32) [(.int y0), (.int y1), (.int y2)] (.int (0 : Int32))) (Fm : Fld Z h0 a1 "com/example/gieres/gieres/model/TupleTable" "mask" "[J" (.ref am)) (Vm : Arv Z h0 am km .long (3 : Int32) [(.long z0), (.long z1), (.long z2)] (.long (0 : Int64))) (KA : LAr Z h0 a2 n f) (hj0 : 0 ≤ (p3 + x0).toInt) (hj1 : (p3 + x0).toInt < n) :
    Ctr l (⟨"com/example/gieres/gieres/model/TupleTable", "state", "([JII)I"⟩ : MethodName) prog_137_method_5_code 4 (some .int) ws ({ frames := 0, cells := 0, slots := 0, locals := 0 } : Room) #[(.ref a1), (.ref a2), (.int p3), (.int (0 : Int32))] Z h0 (fun v h L => v = some (.int (own_get (f (p3 + x0).toNatClampNeg) z0 y0).toInt32) ∧ Fr n0 L ∧ h = h0) := by
  have ef : ∀ m : MethodId, entryFrame m #[(.ref a1), (.ref a2), (.int p3), (.int (0 : Int32))] 4 = mkF m 0 #[.val (.ref a1), .val (.ref a2), .val (.int p3), .val (.int (0 : Int32))] [] := fun m => by first | (simp [entryFrame, mkF, argsToLocals, Value.category]; done) | rfl
  refine Ctr.of (plainFor_of_name pn_6) ?_
  intro p e s m below meth c s₁ hx hZ hby hml hown0 hnm hret hlk X0 e0
  have hown : s.vm.findClass "com/example/gieres/gieres/model/TupleTable" = some m.cls := hown0
  have N0 := Fr.nil n0
  refine Go.st (fun t k => castTop (ef m) k) ?_
  show Go p e below _ (s₁.setTop (mkF m 0 #[.val (.ref a1), .val (.ref a2), .val (.int p3), .val (.int (0 : Int32))] []))
  refine Go.st (fun _ => XS.aloadN X0.here hx rfl (hb hby d6_0) rfl rfl) ?_
  refine Go.st (fun _ => XS.iloadN X0.here hx rfl (hb hby d6_1) rfl) ?_
  refine Go.st (fun _ => XS.aloadN X0.here hx rfl (hb hby d6_2) rfl rfl) ?_
  show Go p e below _ (s₁.setTop (mkF m 3 #[.val (.ref a1), .val (.ref a2), .val (.int p3), .val (.int (0 : Int32))] [(.ref a1), (.int p3), (.ref a2)]))
  obtain ⟨T1, X1, e1, st1⟩ := getF X0 hx hZ hown (host := "") (Or.inl (hw _ (List.mem_of_getElem? (i := 23) rfl))) Via.refl e0 Fw (g := (mkF m 3 #[.val (.ref a1), .val (.ref a2), .val (.int p3), .val (.int (0 : Int32))] [(.ref a1), (.int p3), (.ref a2)])) rfl rfl (hb hby d6_3)
  refine Go.st st1 ?_
  show Go p e below _ (T1.setTop (mkF m 6 #[.val (.ref a1), .val (.ref a2), .val (.int p3), .val (.int (0 : Int32))] [(.ref aw), (.int p3), (.ref a2)]))
  refine Go.st (fun _ => XS.iloadN X1.here hx rfl (hb hby d6_6) rfl) ?_
  show Go p e below _ (T1.setTop (mkF m 7 #[.val (.ref a1), .val (.ref a2), .val (.int p3), .val (.int (0 : Int32))] [(.int (0 : Int32)), (.ref aw), (.int p3), (.ref a2)]))
  obtain ⟨cl2, Ar2, qk2, Sz2, Nn2, Ha2, Ga2⟩ := id Vw
  have hin2 : ¬ ((0 : Int32) < 0 ∨ cl2.slots.size ≤ ((0 : Int32) : Int32).toNatClampNeg) := inb_of Sz2 ⟨by decide, by decide⟩
  refine Go.st (fun _ => X1.iaload hx (j := (0 : Int32)) (v := (.int x0)) (by rw [e1]; exact Ar2.1) (State.isArrayOf_alike hZ.alike Ar2.2.1) Ar2.2.2 hin2 (Has.at Ha2 hin2 rfl) (g := (mkF m 7 #[.val (.ref a1), .val (.ref a2), .val (.int p3), .val (.int (0 : Int32))] [(.int (0 : Int32)), (.ref aw), (.int p3), (.ref a2)])) rfl rfl (hb hby d6_7) _) ?_
  show Go p e below _ (T1.setTop (mkF m 8 #[.val (.ref a1), .val (.ref a2), .val (.int p3), .val (.int (0 : Int32))] [(.int x0), (.int p3), (.ref a2)]))
  refine Go.st (fun _ => XS.iadd X1.here hx rfl (hb hby d6_8) rfl) ?_
  show Go p e below _ (T1.setTop (mkF m 9 #[.val (.ref a1), .val (.ref a2), .val (.int p3), .val (.int (0 : Int32))] [(.int (p3 + x0)), (.ref a2)]))
  obtain ⟨cl3, Ar3, hin3, hat3, -⟩ := LAr_in KA (j := (p3 + x0)) hj0 hj1
  refine Go.st (fun _ => X1.laload hx (j := (p3 + x0)) (v := (.long (f ((p3 + x0)).toNatClampNeg))) (by rw [e1]; exact Ar3.1) (State.isArrayOf_alike hZ.alike Ar3.2.1) Ar3.2.2 hin3 hat3 (g := (mkF m 9 #[.val (.ref a1), .val (.ref a2), .val (.int p3), .val (.int (0 : Int32))] [(.int (p3 + x0)), (.ref a2)])) rfl rfl (hb hby d6_9) _) ?_
  show Go p e below _ (T1.setTop (mkF m 10 #[.val (.ref a1), .val (.ref a2), .val (.int p3), .val (.int (0 : Int32))] [(.long (f ((p3 + x0)).toNatClampNeg))]))
  refine Go.st (fun _ => XS.aloadN X1.here hx rfl (hb hby d6_10) rfl rfl) ?_
  show Go p e below _ (T1.setTop (mkF m 11 #[.val (.ref a1), .val (.ref a2), .val (.int p3), .val (.int (0 : Int32))] [(.ref a1), (.long (f ((p3 + x0)).toNatClampNeg))]))
  obtain ⟨T4, X4, e4, st4⟩ := getF X1 hx hZ hown (host := "") (Or.inl (hw _ (List.mem_of_getElem? (i := 25) rfl))) Via.refl e1 Fsh (g := (mkF m 11 #[.val (.ref a1), .val (.ref a2), .val (.int p3), .val (.int (0 : Int32))] [(.ref a1), (.long (f ((p3 + x0)).toNatClampNeg))])) rfl rfl (hb hby d6_11)
  refine Go.st st4 ?_
  show Go p e below _ (T4.setTop (mkF m 14 #[.val (.ref a1), .val (.ref a2), .val (.int p3), .val (.int (0 : Int32))] [(.ref as), (.long (f ((p3 + x0)).toNatClampNeg))]))
  refine Go.st (fun _ => XS.iloadN X4.here hx rfl (hb hby d6_14) rfl) ?_
  show Go p e below _ (T4.setTop (mkF m 15 #[.val (.ref a1), .val (.ref a2), .val (.int p3), .val (.int (0 : Int32))] [(.int (0 : Int32)), (.ref as), (.long (f ((p3 + x0)).toNatClampNeg))]))
  obtain ⟨cl5, Ar5, qk5, Sz5, Nn5, Ha5, Ga5⟩ := id Vs
  have hin5 : ¬ ((0 : Int32) < 0 ∨ cl5.slots.size ≤ ((0 : Int32) : Int32).toNatClampNeg) := inb_of Sz5 ⟨by decide, by decide⟩
  refine Go.st (fun _ => X4.iaload hx (j := (0 : Int32)) (v := (.int y0)) (by rw [e4]; exact Ar5.1) (State.isArrayOf_alike hZ.alike Ar5.2.1) Ar5.2.2 hin5 (Has.at Ha5 hin5 rfl) (g := (mkF m 15 #[.val (.ref a1), .val (.ref a2), .val (.int p3), .val (.int (0 : Int32))] [(.int (0 : Int32)), (.ref as), (.long (f ((p3 + x0)).toNatClampNeg))])) rfl rfl (hb hby d6_15) _) ?_
  show Go p e below _ (T4.setTop (mkF m 16 #[.val (.ref a1), .val (.ref a2), .val (.int p3), .val (.int (0 : Int32))] [(.int y0), (.long (f ((p3 + x0)).toNatClampNeg))]))
  refine Go.st (fun _ => XS.lushr X4.here hx rfl (hb hby d6_16) rfl) ?_
  refine Go.st (fun _ => XS.aloadN X4.here hx rfl (hb hby d6_17) rfl rfl) ?_
  show Go p e below _ (T4.setTop (mkF m 18 #[.val (.ref a1), .val (.ref a2), .val (.int p3), .val (.int (0 : Int32))] [(.ref a1), (.long (((f ((p3 + x0)).toNatClampNeg).toUInt64 >>> (y0 &&& 0x3f).toInt64.toUInt64).toInt64))]))
  obtain ⟨T6, X6, e6, st6⟩ := getF X4 hx hZ hown (host := "") (Or.inl (hw _ (List.mem_of_getElem? (i := 27) rfl))) Via.refl e4 Fm (g := (mkF m 18 #[.val (.ref a1), .val (.ref a2), .val (.int p3), .val (.int (0 : Int32))] [(.ref a1), (.long (((f ((p3 + x0)).toNatClampNeg).toUInt64 >>> (y0 &&& 0x3f).toInt64.toUInt64).toInt64))])) rfl rfl (hb hby d6_18)
  refine Go.st st6 ?_
  show Go p e below _ (T6.setTop (mkF m 21 #[.val (.ref a1), .val (.ref a2), .val (.int p3), .val (.int (0 : Int32))] [(.ref am), (.long (((f ((p3 + x0)).toNatClampNeg).toUInt64 >>> (y0 &&& 0x3f).toInt64.toUInt64).toInt64))]))
  refine Go.st (fun _ => XS.iloadN X6.here hx rfl (hb hby d6_21) rfl) ?_
  show Go p e below _ (T6.setTop (mkF m 22 #[.val (.ref a1), .val (.ref a2), .val (.int p3), .val (.int (0 : Int32))] [(.int (0 : Int32)), (.ref am), (.long (((f ((p3 + x0)).toNatClampNeg).toUInt64 >>> (y0 &&& 0x3f).toInt64.toUInt64).toInt64))]))
  obtain ⟨cl7, Ar7, qk7, Sz7, Nn7, Ha7, Ga7⟩ := id Vm
  have hin7 : ¬ ((0 : Int32) < 0 ∨ cl7.slots.size ≤ ((0 : Int32) : Int32).toNatClampNeg) := inb_of Sz7 ⟨by decide, by decide⟩
  refine Go.st (fun _ => X6.laload hx (j := (0 : Int32)) (v := (.long z0)) (by rw [e6]; exact Ar7.1) (State.isArrayOf_alike hZ.alike Ar7.2.1) Ar7.2.2 hin7 (Has.at Ha7 hin7 rfl) (g := (mkF m 22 #[.val (.ref a1), .val (.ref a2), .val (.int p3), .val (.int (0 : Int32))] [(.int (0 : Int32)), (.ref am), (.long (((f ((p3 + x0)).toNatClampNeg).toUInt64 >>> (y0 &&& 0x3f).toInt64.toUInt64).toInt64))])) rfl rfl (hb hby d6_22) _) ?_
  show Go p e below _ (T6.setTop (mkF m 23 #[.val (.ref a1), .val (.ref a2), .val (.int p3), .val (.int (0 : Int32))] [(.long z0), (.long (((f ((p3 + x0)).toNatClampNeg).toUInt64 >>> (y0 &&& 0x3f).toInt64.toUInt64).toInt64))]))
  refine Go.st (fun _ => XS.land X6.here hx rfl (hb hby d6_23) rfl) ?_
  refine Go.st (fun _ => XS.l2i X6.here hx rfl (hb hby d6_24) rfl) ?_
  show Go p e below _ (T6.setTop (mkF m 25 #[.val (.ref a1), .val (.ref a2), .val (.int p3), .val (.int (0 : Int32))] [(.int (((((f ((p3 + x0)).toNatClampNeg).toUInt64 >>> (y0 &&& 0x3f).toInt64.toUInt64).toInt64) &&& z0).toInt32))]))
  exact goRetI X6 hx hlk hret e6 (hb hby d6_25) (by decide) (by decide) ⟨rfl, N0, rfl⟩
set_option maxRecDepth 65536 in
set_option maxHeartbeats 40000000 in
theorem rmG1 (l : Launch) (Z : State) (a0 : Array Value) (hw : ∀ d ∈ tables_1, d.before a0 Z = true) (ws : List Jvm.Cond) (a1 a2 aw as am : Addr) (kw ks km : ClassId) (x0 x1 x2 y0 y1 y2 : Int32) (z0 z1 z2 : Int64) (n : Nat) (f : Nat → Int64) (p3 : Int32) (h0 : Heap) (n0 : Nat) (O0 : Old Z n0 h0) (Fw : Fld Z h0 a1 "com/example/gieres/gieres/model/TupleTable" "word" "[I" (.ref aw)) (Vw : Arv Z h0 aw kw .int (3 : Int32) [(.int x0), (.int x1), (.int x2)] (.int (0 : Int32))) (Fsh : Fld Z h0 a1 "com/example/gieres/gieres/model/TupleTable" "shift" "[I" (.ref as)) (Vs : Arv Z h0 as ks .int (3 : Int32) [(.int y0), (.int y1), (.int y2)] (.int (0 : Int32))) (Fm : Fld Z h0 a1 "com/example/gieres/gieres/model/TupleTable" "mask" "[J" (.ref am)) (Vm : Arv Z h0 am km .long (3 : Int32) [(.long z0), (.long z1), (.long z2)] (.long (0 : Int64))) (KA : LAr Z h0 a2 n f) (hj0 : 0 ≤ (p3 + x1).toInt) (hj1 : (p3 + x1).toInt < n) :
    Ctr l (⟨"com/example/gieres/gieres/model/TupleTable", "state", "([JII)I"⟩ : MethodName) prog_137_method_5_code 4 (some .int) ws ({ frames := 0, cells := 0, slots := 0, locals := 0 } : Room) #[(.ref a1), (.ref a2), (.int p3), (.int (1 : Int32))] Z h0 (fun v h L => v = some (.int (own_get (f (p3 + x1).toNatClampNeg) z1 y1).toInt32) ∧ Fr n0 L ∧ h = h0) := by
  have ef : ∀ m : MethodId, entryFrame m #[(.ref a1), (.ref a2), (.int p3), (.int (1 : Int32))] 4 = mkF m 0 #[.val (.ref a1), .val (.ref a2), .val (.int p3), .val (.int (1 : Int32))] [] := fun m => by first | (simp [entryFrame, mkF, argsToLocals, Value.category]; done) | rfl
  refine Ctr.of (plainFor_of_name pn_6) ?_
  intro p e s m below meth c s₁ hx hZ hby hml hown0 hnm hret hlk X0 e0
  have hown : s.vm.findClass "com/example/gieres/gieres/model/TupleTable" = some m.cls := hown0
  have N0 := Fr.nil n0
  refine Go.st (fun t k => castTop (ef m) k) ?_
  show Go p e below _ (s₁.setTop (mkF m 0 #[.val (.ref a1), .val (.ref a2), .val (.int p3), .val (.int (1 : Int32))] []))
  refine Go.st (fun _ => XS.aloadN X0.here hx rfl (hb hby d6_0) rfl rfl) ?_
  refine Go.st (fun _ => XS.iloadN X0.here hx rfl (hb hby d6_1) rfl) ?_
  refine Go.st (fun _ => XS.aloadN X0.here hx rfl (hb hby d6_2) rfl rfl) ?_
  show Go p e below _ (s₁.setTop (mkF m 3 #[.val (.ref a1), .val (.ref a2), .val (.int p3), .val (.int (1 : Int32))] [(.ref a1), (.int p3), (.ref a2)]))
  obtain ⟨T1, X1, e1, st1⟩ := getF X0 hx hZ hown (host := "") (Or.inl (hw _ (List.mem_of_getElem? (i := 23) rfl))) Via.refl e0 Fw (g := (mkF m 3 #[.val (.ref a1), .val (.ref a2), .val (.int p3), .val (.int (1 : Int32))] [(.ref a1), (.int p3), (.ref a2)])) rfl rfl (hb hby d6_3)
  refine Go.st st1 ?_
  show Go p e below _ (T1.setTop (mkF m 6 #[.val (.ref a1), .val (.ref a2), .val (.int p3), .val (.int (1 : Int32))] [(.ref aw), (.int p3), (.ref a2)]))
  refine Go.st (fun _ => XS.iloadN X1.here hx rfl (hb hby d6_6) rfl) ?_
  show Go p e below _ (T1.setTop (mkF m 7 #[.val (.ref a1), .val (.ref a2), .val (.int p3), .val (.int (1 : Int32))] [(.int (1 : Int32)), (.ref aw), (.int p3), (.ref a2)]))
  obtain ⟨cl2, Ar2, qk2, Sz2, Nn2, Ha2, Ga2⟩ := id Vw
  have hin2 : ¬ ((1 : Int32) < 0 ∨ cl2.slots.size ≤ ((1 : Int32) : Int32).toNatClampNeg) := inb_of Sz2 ⟨by decide, by decide⟩
  refine Go.st (fun _ => X1.iaload hx (j := (1 : Int32)) (v := (.int x1)) (by rw [e1]; exact Ar2.1) (State.isArrayOf_alike hZ.alike Ar2.2.1) Ar2.2.2 hin2 (Has.at Ha2 hin2 rfl) (g := (mkF m 7 #[.val (.ref a1), .val (.ref a2), .val (.int p3), .val (.int (1 : Int32))] [(.int (1 : Int32)), (.ref aw), (.int p3), (.ref a2)])) rfl rfl (hb hby d6_7) _) ?_
  show Go p e below _ (T1.setTop (mkF m 8 #[.val (.ref a1), .val (.ref a2), .val (.int p3), .val (.int (1 : Int32))] [(.int x1), (.int p3), (.ref a2)]))
  refine Go.st (fun _ => XS.iadd X1.here hx rfl (hb hby d6_8) rfl) ?_
  show Go p e below _ (T1.setTop (mkF m 9 #[.val (.ref a1), .val (.ref a2), .val (.int p3), .val (.int (1 : Int32))] [(.int (p3 + x1)), (.ref a2)]))
  obtain ⟨cl3, Ar3, hin3, hat3, -⟩ := LAr_in KA (j := (p3 + x1)) hj0 hj1
  refine Go.st (fun _ => X1.laload hx (j := (p3 + x1)) (v := (.long (f ((p3 + x1)).toNatClampNeg))) (by rw [e1]; exact Ar3.1) (State.isArrayOf_alike hZ.alike Ar3.2.1) Ar3.2.2 hin3 hat3 (g := (mkF m 9 #[.val (.ref a1), .val (.ref a2), .val (.int p3), .val (.int (1 : Int32))] [(.int (p3 + x1)), (.ref a2)])) rfl rfl (hb hby d6_9) _) ?_
  show Go p e below _ (T1.setTop (mkF m 10 #[.val (.ref a1), .val (.ref a2), .val (.int p3), .val (.int (1 : Int32))] [(.long (f ((p3 + x1)).toNatClampNeg))]))
  refine Go.st (fun _ => XS.aloadN X1.here hx rfl (hb hby d6_10) rfl rfl) ?_
  show Go p e below _ (T1.setTop (mkF m 11 #[.val (.ref a1), .val (.ref a2), .val (.int p3), .val (.int (1 : Int32))] [(.ref a1), (.long (f ((p3 + x1)).toNatClampNeg))]))
  obtain ⟨T4, X4, e4, st4⟩ := getF X1 hx hZ hown (host := "") (Or.inl (hw _ (List.mem_of_getElem? (i := 25) rfl))) Via.refl e1 Fsh (g := (mkF m 11 #[.val (.ref a1), .val (.ref a2), .val (.int p3), .val (.int (1 : Int32))] [(.ref a1), (.long (f ((p3 + x1)).toNatClampNeg))])) rfl rfl (hb hby d6_11)
  refine Go.st st4 ?_
  show Go p e below _ (T4.setTop (mkF m 14 #[.val (.ref a1), .val (.ref a2), .val (.int p3), .val (.int (1 : Int32))] [(.ref as), (.long (f ((p3 + x1)).toNatClampNeg))]))
  refine Go.st (fun _ => XS.iloadN X4.here hx rfl (hb hby d6_14) rfl) ?_
  show Go p e below _ (T4.setTop (mkF m 15 #[.val (.ref a1), .val (.ref a2), .val (.int p3), .val (.int (1 : Int32))] [(.int (1 : Int32)), (.ref as), (.long (f ((p3 + x1)).toNatClampNeg))]))
  obtain ⟨cl5, Ar5, qk5, Sz5, Nn5, Ha5, Ga5⟩ := id Vs
  have hin5 : ¬ ((1 : Int32) < 0 ∨ cl5.slots.size ≤ ((1 : Int32) : Int32).toNatClampNeg) := inb_of Sz5 ⟨by decide, by decide⟩
  refine Go.st (fun _ => X4.iaload hx (j := (1 : Int32)) (v := (.int y1)) (by rw [e4]; exact Ar5.1) (State.isArrayOf_alike hZ.alike Ar5.2.1) Ar5.2.2 hin5 (Has.at Ha5 hin5 rfl) (g := (mkF m 15 #[.val (.ref a1), .val (.ref a2), .val (.int p3), .val (.int (1 : Int32))] [(.int (1 : Int32)), (.ref as), (.long (f ((p3 + x1)).toNatClampNeg))])) rfl rfl (hb hby d6_15) _) ?_
  show Go p e below _ (T4.setTop (mkF m 16 #[.val (.ref a1), .val (.ref a2), .val (.int p3), .val (.int (1 : Int32))] [(.int y1), (.long (f ((p3 + x1)).toNatClampNeg))]))
  refine Go.st (fun _ => XS.lushr X4.here hx rfl (hb hby d6_16) rfl) ?_
  refine Go.st (fun _ => XS.aloadN X4.here hx rfl (hb hby d6_17) rfl rfl) ?_
  show Go p e below _ (T4.setTop (mkF m 18 #[.val (.ref a1), .val (.ref a2), .val (.int p3), .val (.int (1 : Int32))] [(.ref a1), (.long (((f ((p3 + x1)).toNatClampNeg).toUInt64 >>> (y1 &&& 0x3f).toInt64.toUInt64).toInt64))]))
  obtain ⟨T6, X6, e6, st6⟩ := getF X4 hx hZ hown (host := "") (Or.inl (hw _ (List.mem_of_getElem? (i := 27) rfl))) Via.refl e4 Fm (g := (mkF m 18 #[.val (.ref a1), .val (.ref a2), .val (.int p3), .val (.int (1 : Int32))] [(.ref a1), (.long (((f ((p3 + x1)).toNatClampNeg).toUInt64 >>> (y1 &&& 0x3f).toInt64.toUInt64).toInt64))])) rfl rfl (hb hby d6_18)
  refine Go.st st6 ?_
  show Go p e below _ (T6.setTop (mkF m 21 #[.val (.ref a1), .val (.ref a2), .val (.int p3), .val (.int (1 : Int32))] [(.ref am), (.long (((f ((p3 + x1)).toNatClampNeg).toUInt64 >>> (y1 &&& 0x3f).toInt64.toUInt64).toInt64))]))
  refine Go.st (fun _ => XS.iloadN X6.here hx rfl (hb hby d6_21) rfl) ?_
  show Go p e below _ (T6.setTop (mkF m 22 #[.val (.ref a1), .val (.ref a2), .val (.int p3), .val (.int (1 : Int32))] [(.int (1 : Int32)), (.ref am), (.long (((f ((p3 + x1)).toNatClampNeg).toUInt64 >>> (y1 &&& 0x3f).toInt64.toUInt64).toInt64))]))
  obtain ⟨cl7, Ar7, qk7, Sz7, Nn7, Ha7, Ga7⟩ := id Vm
  have hin7 : ¬ ((1 : Int32) < 0 ∨ cl7.slots.size ≤ ((1 : Int32) : Int32).toNatClampNeg) := inb_of Sz7 ⟨by decide, by decide⟩
  refine Go.st (fun _ => X6.laload hx (j := (1 : Int32)) (v := (.long z1)) (by rw [e6]; exact Ar7.1) (State.isArrayOf_alike hZ.alike Ar7.2.1) Ar7.2.2 hin7 (Has.at Ha7 hin7 rfl) (g := (mkF m 22 #[.val (.ref a1), .val (.ref a2), .val (.int p3), .val (.int (1 : Int32))] [(.int (1 : Int32)), (.ref am), (.long (((f ((p3 + x1)).toNatClampNeg).toUInt64 >>> (y1 &&& 0x3f).toInt64.toUInt64).toInt64))])) rfl rfl (hb hby d6_22) _) ?_
  show Go p e below _ (T6.setTop (mkF m 23 #[.val (.ref a1), .val (.ref a2), .val (.int p3), .val (.int (1 : Int32))] [(.long z1), (.long (((f ((p3 + x1)).toNatClampNeg).toUInt64 >>> (y1 &&& 0x3f).toInt64.toUInt64).toInt64))]))
  refine Go.st (fun _ => XS.land X6.here hx rfl (hb hby d6_23) rfl) ?_
  refine Go.st (fun _ => XS.l2i X6.here hx rfl (hb hby d6_24) rfl) ?_
  show Go p e below _ (T6.setTop (mkF m 25 #[.val (.ref a1), .val (.ref a2), .val (.int p3), .val (.int (1 : Int32))] [(.int (((((f ((p3 + x1)).toNatClampNeg).toUInt64 >>> (y1 &&& 0x3f).toInt64.toUInt64).toInt64) &&& z1).toInt32))]))
  exact goRetI X6 hx hlk hret e6 (hb hby d6_25) (by decide) (by decide) ⟨rfl, N0, rfl⟩
set_option maxRecDepth 65536 in
set_option maxHeartbeats 40000000 in
theorem rmG2 (l : Launch) (Z : State) (a0 : Array Value) (hw : ∀ d ∈ tables_1, d.before a0 Z = true) (ws : List Jvm.Cond) (a1 a2 aw as am : Addr) (kw ks km : ClassId) (x0 x1 x2 y0 y1 y2 : Int32) (z0 z1 z2 : Int64) (n : Nat) (f : Nat → Int64) (p3 : Int32) (h0 : Heap) (n0 : Nat) (O0 : Old Z n0 h0) (Fw : Fld Z h0 a1 "com/example/gieres/gieres/model/TupleTable" "word" "[I" (.ref aw)) (Vw : Arv Z h0 aw kw .int (3 : Int32) [(.int x0), (.int x1), (.int x2)] (.int (0 : Int32))) (Fsh : Fld Z h0 a1 "com/example/gieres/gieres/model/TupleTable" "shift" "[I" (.ref as)) (Vs : Arv Z h0 as ks .int (3 : Int32) [(.int y0), (.int y1), (.int y2)] (.int (0 : Int32))) (Fm : Fld Z h0 a1 "com/example/gieres/gieres/model/TupleTable" "mask" "[J" (.ref am)) (Vm : Arv Z h0 am km .long (3 : Int32) [(.long z0), (.long z1), (.long z2)] (.long (0 : Int64))) (KA : LAr Z h0 a2 n f) (hj0 : 0 ≤ (p3 + x2).toInt) (hj1 : (p3 + x2).toInt < n) :
    Ctr l (⟨"com/example/gieres/gieres/model/TupleTable", "state", "([JII)I"⟩ : MethodName) prog_137_method_5_code 4 (some .int) ws ({ frames := 0, cells := 0, slots := 0, locals := 0 } : Room) #[(.ref a1), (.ref a2), (.int p3), (.int (2 : Int32))] Z h0 (fun v h L => v = some (.int (own_get (f (p3 + x2).toNatClampNeg) z2 y2).toInt32) ∧ Fr n0 L ∧ h = h0) := by
  have ef : ∀ m : MethodId, entryFrame m #[(.ref a1), (.ref a2), (.int p3), (.int (2 : Int32))] 4 = mkF m 0 #[.val (.ref a1), .val (.ref a2), .val (.int p3), .val (.int (2 : Int32))] [] := fun m => by first | (simp [entryFrame, mkF, argsToLocals, Value.category]; done) | rfl
  refine Ctr.of (plainFor_of_name pn_6) ?_
  intro p e s m below meth c s₁ hx hZ hby hml hown0 hnm hret hlk X0 e0
  have hown : s.vm.findClass "com/example/gieres/gieres/model/TupleTable" = some m.cls := hown0
  have N0 := Fr.nil n0
  refine Go.st (fun t k => castTop (ef m) k) ?_
  show Go p e below _ (s₁.setTop (mkF m 0 #[.val (.ref a1), .val (.ref a2), .val (.int p3), .val (.int (2 : Int32))] []))
  refine Go.st (fun _ => XS.aloadN X0.here hx rfl (hb hby d6_0) rfl rfl) ?_
  refine Go.st (fun _ => XS.iloadN X0.here hx rfl (hb hby d6_1) rfl) ?_
  refine Go.st (fun _ => XS.aloadN X0.here hx rfl (hb hby d6_2) rfl rfl) ?_
  show Go p e below _ (s₁.setTop (mkF m 3 #[.val (.ref a1), .val (.ref a2), .val (.int p3), .val (.int (2 : Int32))] [(.ref a1), (.int p3), (.ref a2)]))
  obtain ⟨T1, X1, e1, st1⟩ := getF X0 hx hZ hown (host := "") (Or.inl (hw _ (List.mem_of_getElem? (i := 23) rfl))) Via.refl e0 Fw (g := (mkF m 3 #[.val (.ref a1), .val (.ref a2), .val (.int p3), .val (.int (2 : Int32))] [(.ref a1), (.int p3), (.ref a2)])) rfl rfl (hb hby d6_3)
  refine Go.st st1 ?_
  show Go p e below _ (T1.setTop (mkF m 6 #[.val (.ref a1), .val (.ref a2), .val (.int p3), .val (.int (2 : Int32))] [(.ref aw), (.int p3), (.ref a2)]))
  refine Go.st (fun _ => XS.iloadN X1.here hx rfl (hb hby d6_6) rfl) ?_
  show Go p e below _ (T1.setTop (mkF m 7 #[.val (.ref a1), .val (.ref a2), .val (.int p3), .val (.int (2 : Int32))] [(.int (2 : Int32)), (.ref aw), (.int p3), (.ref a2)]))
  obtain ⟨cl2, Ar2, qk2, Sz2, Nn2, Ha2, Ga2⟩ := id Vw
  have hin2 : ¬ ((2 : Int32) < 0 ∨ cl2.slots.size ≤ ((2 : Int32) : Int32).toNatClampNeg) := inb_of Sz2 ⟨by decide, by decide⟩
  refine Go.st (fun _ => X1.iaload hx (j := (2 : Int32)) (v := (.int x2)) (by rw [e1]; exact Ar2.1) (State.isArrayOf_alike hZ.alike Ar2.2.1) Ar2.2.2 hin2 (Has.at Ha2 hin2 rfl) (g := (mkF m 7 #[.val (.ref a1), .val (.ref a2), .val (.int p3), .val (.int (2 : Int32))] [(.int (2 : Int32)), (.ref aw), (.int p3), (.ref a2)])) rfl rfl (hb hby d6_7) _) ?_
  show Go p e below _ (T1.setTop (mkF m 8 #[.val (.ref a1), .val (.ref a2), .val (.int p3), .val (.int (2 : Int32))] [(.int x2), (.int p3), (.ref a2)]))
  refine Go.st (fun _ => XS.iadd X1.here hx rfl (hb hby d6_8) rfl) ?_
  show Go p e below _ (T1.setTop (mkF m 9 #[.val (.ref a1), .val (.ref a2), .val (.int p3), .val (.int (2 : Int32))] [(.int (p3 + x2)), (.ref a2)]))
  obtain ⟨cl3, Ar3, hin3, hat3, -⟩ := LAr_in KA (j := (p3 + x2)) hj0 hj1
  refine Go.st (fun _ => X1.laload hx (j := (p3 + x2)) (v := (.long (f ((p3 + x2)).toNatClampNeg))) (by rw [e1]; exact Ar3.1) (State.isArrayOf_alike hZ.alike Ar3.2.1) Ar3.2.2 hin3 hat3 (g := (mkF m 9 #[.val (.ref a1), .val (.ref a2), .val (.int p3), .val (.int (2 : Int32))] [(.int (p3 + x2)), (.ref a2)])) rfl rfl (hb hby d6_9) _) ?_
  show Go p e below _ (T1.setTop (mkF m 10 #[.val (.ref a1), .val (.ref a2), .val (.int p3), .val (.int (2 : Int32))] [(.long (f ((p3 + x2)).toNatClampNeg))]))
  refine Go.st (fun _ => XS.aloadN X1.here hx rfl (hb hby d6_10) rfl rfl) ?_
  show Go p e below _ (T1.setTop (mkF m 11 #[.val (.ref a1), .val (.ref a2), .val (.int p3), .val (.int (2 : Int32))] [(.ref a1), (.long (f ((p3 + x2)).toNatClampNeg))]))
  obtain ⟨T4, X4, e4, st4⟩ := getF X1 hx hZ hown (host := "") (Or.inl (hw _ (List.mem_of_getElem? (i := 25) rfl))) Via.refl e1 Fsh (g := (mkF m 11 #[.val (.ref a1), .val (.ref a2), .val (.int p3), .val (.int (2 : Int32))] [(.ref a1), (.long (f ((p3 + x2)).toNatClampNeg))])) rfl rfl (hb hby d6_11)
  refine Go.st st4 ?_
  show Go p e below _ (T4.setTop (mkF m 14 #[.val (.ref a1), .val (.ref a2), .val (.int p3), .val (.int (2 : Int32))] [(.ref as), (.long (f ((p3 + x2)).toNatClampNeg))]))
  refine Go.st (fun _ => XS.iloadN X4.here hx rfl (hb hby d6_14) rfl) ?_
  show Go p e below _ (T4.setTop (mkF m 15 #[.val (.ref a1), .val (.ref a2), .val (.int p3), .val (.int (2 : Int32))] [(.int (2 : Int32)), (.ref as), (.long (f ((p3 + x2)).toNatClampNeg))]))
  obtain ⟨cl5, Ar5, qk5, Sz5, Nn5, Ha5, Ga5⟩ := id Vs
  have hin5 : ¬ ((2 : Int32) < 0 ∨ cl5.slots.size ≤ ((2 : Int32) : Int32).toNatClampNeg) := inb_of Sz5 ⟨by decide, by decide⟩
  refine Go.st (fun _ => X4.iaload hx (j := (2 : Int32)) (v := (.int y2)) (by rw [e4]; exact Ar5.1) (State.isArrayOf_alike hZ.alike Ar5.2.1) Ar5.2.2 hin5 (Has.at Ha5 hin5 rfl) (g := (mkF m 15 #[.val (.ref a1), .val (.ref a2), .val (.int p3), .val (.int (2 : Int32))] [(.int (2 : Int32)), (.ref as), (.long (f ((p3 + x2)).toNatClampNeg))])) rfl rfl (hb hby d6_15) _) ?_
  show Go p e below _ (T4.setTop (mkF m 16 #[.val (.ref a1), .val (.ref a2), .val (.int p3), .val (.int (2 : Int32))] [(.int y2), (.long (f ((p3 + x2)).toNatClampNeg))]))
  refine Go.st (fun _ => XS.lushr X4.here hx rfl (hb hby d6_16) rfl) ?_
  refine Go.st (fun _ => XS.aloadN X4.here hx rfl (hb hby d6_17) rfl rfl) ?_
  show Go p e below _ (T4.setTop (mkF m 18 #[.val (.ref a1), .val (.ref a2), .val (.int p3), .val (.int (2 : Int32))] [(.ref a1), (.long (((f ((p3 + x2)).toNatClampNeg).toUInt64 >>> (y2 &&& 0x3f).toInt64.toUInt64).toInt64))]))
  obtain ⟨T6, X6, e6, st6⟩ := getF X4 hx hZ hown (host := "") (Or.inl (hw _ (List.mem_of_getElem? (i := 27) rfl))) Via.refl e4 Fm (g := (mkF m 18 #[.val (.ref a1), .val (.ref a2), .val (.int p3), .val (.int (2 : Int32))] [(.ref a1), (.long (((f ((p3 + x2)).toNatClampNeg).toUInt64 >>> (y2 &&& 0x3f).toInt64.toUInt64).toInt64))])) rfl rfl (hb hby d6_18)
  refine Go.st st6 ?_
  show Go p e below _ (T6.setTop (mkF m 21 #[.val (.ref a1), .val (.ref a2), .val (.int p3), .val (.int (2 : Int32))] [(.ref am), (.long (((f ((p3 + x2)).toNatClampNeg).toUInt64 >>> (y2 &&& 0x3f).toInt64.toUInt64).toInt64))]))
  refine Go.st (fun _ => XS.iloadN X6.here hx rfl (hb hby d6_21) rfl) ?_
  show Go p e below _ (T6.setTop (mkF m 22 #[.val (.ref a1), .val (.ref a2), .val (.int p3), .val (.int (2 : Int32))] [(.int (2 : Int32)), (.ref am), (.long (((f ((p3 + x2)).toNatClampNeg).toUInt64 >>> (y2 &&& 0x3f).toInt64.toUInt64).toInt64))]))
  obtain ⟨cl7, Ar7, qk7, Sz7, Nn7, Ha7, Ga7⟩ := id Vm
  have hin7 : ¬ ((2 : Int32) < 0 ∨ cl7.slots.size ≤ ((2 : Int32) : Int32).toNatClampNeg) := inb_of Sz7 ⟨by decide, by decide⟩
  refine Go.st (fun _ => X6.laload hx (j := (2 : Int32)) (v := (.long z2)) (by rw [e6]; exact Ar7.1) (State.isArrayOf_alike hZ.alike Ar7.2.1) Ar7.2.2 hin7 (Has.at Ha7 hin7 rfl) (g := (mkF m 22 #[.val (.ref a1), .val (.ref a2), .val (.int p3), .val (.int (2 : Int32))] [(.int (2 : Int32)), (.ref am), (.long (((f ((p3 + x2)).toNatClampNeg).toUInt64 >>> (y2 &&& 0x3f).toInt64.toUInt64).toInt64))])) rfl rfl (hb hby d6_22) _) ?_
  show Go p e below _ (T6.setTop (mkF m 23 #[.val (.ref a1), .val (.ref a2), .val (.int p3), .val (.int (2 : Int32))] [(.long z2), (.long (((f ((p3 + x2)).toNatClampNeg).toUInt64 >>> (y2 &&& 0x3f).toInt64.toUInt64).toInt64))]))
  refine Go.st (fun _ => XS.land X6.here hx rfl (hb hby d6_23) rfl) ?_
  refine Go.st (fun _ => XS.l2i X6.here hx rfl (hb hby d6_24) rfl) ?_
  show Go p e below _ (T6.setTop (mkF m 25 #[.val (.ref a1), .val (.ref a2), .val (.int p3), .val (.int (2 : Int32))] [(.int (((((f ((p3 + x2)).toNatClampNeg).toUInt64 >>> (y2 &&& 0x3f).toInt64.toUInt64).toInt64) &&& z2).toInt32))]))
  exact goRetI X6 hx hlk hret e6 (hb hby d6_25) (by decide) (by decide) ⟨rfl, N0, rfl⟩
theorem d7_0 : decode method_3_code 0 = .ok (.iload_n 2, 1) := by decide +kernel
theorem d7_1 : decode method_3_code 1 = .ok (.aload_n 0, 1) := by decide +kernel
theorem d7_2 : decode method_3_code 2 = .ok (.arraylength, 1) := by decide +kernel
theorem d7_3 : decode method_3_code 3 = .ok (.if_icmp .lt 5, 3) := by decide +kernel
theorem d7_6 : decode method_3_code 6 = .ok (.iconst 1, 1) := by decide +kernel
theorem d7_7 : decode method_3_code 7 = .ok (.ireturn, 1) := by decide +kernel
theorem d7_8 : decode method_3_code 8 = .ok (.iload_n 2, 1) := by decide +kernel
theorem d7_9 : decode method_3_code 9 = .ok (.iload_n 3, 1) := by decide +kernel
theorem d7_10 : decode method_3_code 10 = .ok (.if_icmp .ne 28, 3) := by decide +kernel
theorem d7_13 : decode method_3_code 13 = .ok (.aload_n 0, 1) := by decide +kernel
theorem d7_14 : decode method_3_code 14 = .ok (.iload_n 2, 1) := by decide +kernel
theorem d7_15 : decode method_3_code 15 = .ok (.laload, 1) := by decide +kernel
theorem d7_16 : decode method_3_code 16 = .ok (.aload_n 1, 1) := by decide +kernel
theorem d7_17 : decode method_3_code 17 = .ok (.iload_n 2, 1) := by decide +kernel
theorem d7_18 : decode method_3_code 18 = .ok (.laload, 1) := by decide +kernel
theorem d7_19 : decode method_3_code 19 = .ok (.lxor, 1) := by decide +kernel
theorem d7_20 : decode method_3_code 20 = .ok (.lload 4, 2) := by decide +kernel
theorem d7_22 : decode method_3_code 22 = .ok (.ldc2_w 12, 3) := by decide +kernel
theorem d7_25 : decode method_3_code 25 = .ok (.lxor, 1) := by decide +kernel
theorem d7_26 : decode method_3_code 26 = .ok (.land, 1) := by decide +kernel
theorem d7_27 : decode method_3_code 27 = .ok (.lconst 0, 1) := by decide +kernel
theorem d7_28 : decode method_3_code 28 = .ok (.lcmp, 1) := by decide +kernel
theorem d7_29 : decode method_3_code 29 = .ok (.ifCond .ne 7, 3) := by decide +kernel
theorem d7_32 : decode method_3_code 32 = .ok (.iconst 1, 1) := by decide +kernel
theorem d7_33 : decode method_3_code 33 = .ok (.goto 4, 3) := by decide +kernel
theorem d7_36 : decode method_3_code 36 = .ok (.iconst 0, 1) := by decide +kernel
theorem d7_37 : decode method_3_code 37 = .ok (.ireturn, 1) := by decide +kernel
theorem d7_38 : decode method_3_code 38 = .ok (.aload_n 0, 1) := by decide +kernel
theorem d7_39 : decode method_3_code 39 = .ok (.iload_n 2, 1) := by decide +kernel
theorem d7_40 : decode method_3_code 40 = .ok (.laload, 1) := by decide +kernel
theorem d7_41 : decode method_3_code 41 = .ok (.aload_n 1, 1) := by decide +kernel
theorem d7_42 : decode method_3_code 42 = .ok (.iload_n 2, 1) := by decide +kernel
theorem d7_43 : decode method_3_code 43 = .ok (.laload, 1) := by decide +kernel
theorem d7_44 : decode method_3_code 44 = .ok (.lcmp, 1) := by decide +kernel
theorem d7_45 : decode method_3_code 45 = .ok (.ifCond .ne 7, 3) := by decide +kernel
theorem d7_48 : decode method_3_code 48 = .ok (.iconst 1, 1) := by decide +kernel
theorem d7_49 : decode method_3_code 49 = .ok (.goto 4, 3) := by decide +kernel
theorem d7_52 : decode method_3_code 52 = .ok (.iconst 0, 1) := by decide +kernel
theorem d7_53 : decode method_3_code 53 = .ok (.ireturn, 1) := by decide +kernel
theorem pn_7 : plainName "com/example/gieres/gieres/model/TupleTableSetStatePinLaw" = true := by first | (simp [plainName, overriddenIn]; done) | decide +kernel
set_option maxRecDepth 65536 in
set_option maxHeartbeats 40000000 in
theorem rmSame (l : Launch) (Z : State) (a0 : Array Value) (hw : ∀ d ∈ tables_1, d.before a0 Z = true) (ws : List Jvm.Cond) (a1 a2 : Addr) (p3 p4 nI : Int32) (q5 : Int64) (n : Nat) (f g : Nat → Int64) (h0 : Heap) (n0 : Nat) (O0 : Old Z n0 h0) (KF : LAr Z h0 a1 n f) (KG : LAr Z h0 a2 n g) (hnI : n.toInt32 = nI) (hnv : nI.toInt = n) (hp3 : 0 ≤ p3.toInt) (HA : p3 = p4 → (f p3.toNatClampNeg ^^^ g p3.toNatClampNeg) &&& (q5 ^^^ (-1 : Int64)) = 0) (HB : ¬ p3 = p4 → f p3.toNatClampNeg = g p3.toNatClampNeg) :
    Ctr l (⟨"com/example/gieres/gieres/model/TupleTableSetStatePinLaw", "same", "([J[JIIJ)Z"⟩ : MethodName) method_3_code 6 (some .boolean) ws ({ frames := 0, cells := 0, slots := 0, locals := 0 } : Room) #[(.ref a1), (.ref a2), (.int p3), (.int p4), (.long q5)] Z h0 (fun v h L => v = some (.int 1) ∧ Fr n0 L ∧ h = h0) := by
  have ef : ∀ m : MethodId, entryFrame m #[(.ref a1), (.ref a2), (.int p3), (.int p4), (.long q5)] 6 = mkF m 0 #[.val (.ref a1), .val (.ref a2), .val (.int p3), .val (.int p4), .val (.long q5), .second] [] := fun m => by first | (simp [entryFrame, mkF, argsToLocals, Value.category]; done) | rfl
  refine Ctr.of (plainFor_of_name pn_7) ?_
  intro p e s m below meth c s₁ hx hZ hby hml hown0 hnm hret hlk X0 e0
  have hown : s.vm.findClass "com/example/gieres/gieres/model/TupleTableSetStatePinLaw" = some m.cls := hown0
  have N0 := Fr.nil n0
  refine Go.st (fun t k => castTop (ef m) k) ?_
  show Go p e below _ (s₁.setTop (mkF m 0 #[.val (.ref a1), .val (.ref a2), .val (.int p3), .val (.int p4), .val (.long q5), .second] []))
  refine Go.st (fun _ => XS.iloadN X0.here hx rfl (hb hby d7_0) rfl) ?_
  refine Go.st (fun _ => XS.aloadN X0.here hx rfl (hb hby d7_1) rfl rfl) ?_
  show Go p e below _ (s₁.setTop (mkF m 2 #[.val (.ref a1), .val (.ref a2), .val (.int p3), .val (.int p4), .val (.long q5), .second] [(.ref a1), (.int p3)]))
  obtain ⟨cl1, Ar1, Sz1, -⟩ := id KF
  refine Go.st (fun _ => X0.arraylength hx (by rw [e0]; exact Ar1.1) (State.isArrayOf_alike hZ.alike Ar1.2.1) (g := (mkF m 2 #[.val (.ref a1), .val (.ref a2), .val (.int p3), .val (.int p4), .val (.long q5), .second] [(.ref a1), (.int p3)])) rfl rfl (hb hby d7_2) _) ?_
  rw [Sz1, hnI]
  show Go p e below _ (s₁.setTop (mkF m 3 #[.val (.ref a1), .val (.ref a2), .val (.int p3), .val (.int p4), .val (.long q5), .second] [(.int nI), (.int p3)]))
  by_cases hc2 : p3 < nI
  · refine Go.st (fun _ => XS.icmpYes X0.here hx rfl (pc0 := 3) (pc' := 8) rfl (hb hby d7_3) rfl (tlt hc2).1 (by decide) (by decide)) ?_
    refine Go.st (fun _ => XS.iloadN X0.here hx rfl (hb hby d7_8) rfl) ?_
    refine Go.st (fun _ => XS.iloadN X0.here hx rfl (hb hby d7_9) rfl) ?_
    by_cases hc3 : p3 = p4
    · refine Go.st (fun _ => XS.icmpNo X0.here hx rfl (hb hby d7_10) rfl (teq hc3).2) ?_
      refine Go.st (fun _ => XS.aloadN X0.here hx rfl (hb hby d7_13) rfl rfl) ?_
      refine Go.st (fun _ => XS.iloadN X0.here hx rfl (hb hby d7_14) rfl) ?_
      show Go p e below _ (s₁.setTop (mkF m 15 #[.val (.ref a1), .val (.ref a2), .val (.int p3), .val (.int p4), .val (.long q5), .second] [(.int p3), (.ref a1)]))
      obtain ⟨cl4, Ar4, hin4, hat4, -⟩ := LAr_in KF (j := p3) hp3 (own_ltn hc2 hnv)
      refine Go.st (fun _ => X0.laload hx (j := p3) (v := (.long (f (p3).toNatClampNeg))) (by rw [e0]; exact Ar4.1) (State.isArrayOf_alike hZ.alike Ar4.2.1) Ar4.2.2 hin4 hat4 (g := (mkF m 15 #[.val (.ref a1), .val (.ref a2), .val (.int p3), .val (.int p4), .val (.long q5), .second] [(.int p3), (.ref a1)])) rfl rfl (hb hby d7_15) _) ?_
      show Go p e below _ (s₁.setTop (mkF m 16 #[.val (.ref a1), .val (.ref a2), .val (.int p3), .val (.int p4), .val (.long q5), .second] [(.long (f (p3).toNatClampNeg))]))
      refine Go.st (fun _ => XS.aloadN X0.here hx rfl (hb hby d7_16) rfl rfl) ?_
      refine Go.st (fun _ => XS.iloadN X0.here hx rfl (hb hby d7_17) rfl) ?_
      show Go p e below _ (s₁.setTop (mkF m 18 #[.val (.ref a1), .val (.ref a2), .val (.int p3), .val (.int p4), .val (.long q5), .second] [(.int p3), (.ref a2), (.long (f (p3).toNatClampNeg))]))
      obtain ⟨cl5, Ar5, hin5, hat5, -⟩ := LAr_in KG (j := p3) hp3 (own_ltn hc2 hnv)
      refine Go.st (fun _ => X0.laload hx (j := p3) (v := (.long (g (p3).toNatClampNeg))) (by rw [e0]; exact Ar5.1) (State.isArrayOf_alike hZ.alike Ar5.2.1) Ar5.2.2 hin5 hat5 (g := (mkF m 18 #[.val (.ref a1), .val (.ref a2), .val (.int p3), .val (.int p4), .val (.long q5), .second] [(.int p3), (.ref a2), (.long (f (p3).toNatClampNeg))])) rfl rfl (hb hby d7_18) _) ?_
      show Go p e below _ (s₁.setTop (mkF m 19 #[.val (.ref a1), .val (.ref a2), .val (.int p3), .val (.int p4), .val (.long q5), .second] [(.long (g (p3).toNatClampNeg)), (.long (f (p3).toNatClampNeg))]))
      refine Go.st (fun _ => XS.lxor X0.here hx rfl (hb hby d7_19) rfl) ?_
      refine Go.st (fun _ => XS.lload X0.here hx rfl (hb hby d7_20) rfl) ?_
      show Go p e below _ (s₁.setTop (mkF m 22 #[.val (.ref a1), .val (.ref a2), .val (.int p3), .val (.int p4), .val (.long q5), .second] [(.long q5), (.long ((f (p3).toNatClampNeg) ^^^ (g (p3).toNatClampNeg)))]))
      refine Go.st (fun _ => X0.ldc2Long hx hown (mvT hZ (hw _ (List.mem_of_getElem? (i := 54) rfl))) (g := (mkF m 22 #[.val (.ref a1), .val (.ref a2), .val (.int p3), .val (.int p4), .val (.long q5), .second] [(.long q5), (.long ((f (p3).toNatClampNeg) ^^^ (g (p3).toNatClampNeg)))])) rfl (hb hby d7_22) _) ?_
      show Go p e below _ (s₁.setTop (mkF m 25 #[.val (.ref a1), .val (.ref a2), .val (.int p3), .val (.int p4), .val (.long q5), .second] [(.long (-1 : Int64)), (.long q5), (.long ((f (p3).toNatClampNeg) ^^^ (g (p3).toNatClampNeg)))]))
      refine Go.st (fun _ => XS.lxor X0.here hx rfl (hb hby d7_25) rfl) ?_
      refine Go.st (fun _ => XS.land X0.here hx rfl (hb hby d7_26) rfl) ?_
      refine Go.st (fun _ => XS.lconst X0.here hx rfl (hb hby d7_27)) ?_
      refine Go.st (fun _ => XS.lcmp X0.here hx rfl (hb hby d7_28) rfl) ?_
      refine Go.st (fun _ => XS.ifNo X0.here hx rfl (hb hby d7_29) rfl ((if0 _ _).trans (teq ((lw_eq _ _).mpr (HA hc3))).2)) ?_
      refine Go.st (fun _ => XS.iconst X0.here hx rfl (hb hby d7_32)) ?_
      refine Go.st (fun _ => XS.goto X0.here hx rfl (pc0 := 33) (pc' := 37) rfl (hb hby d7_33) (by decide) (by decide)) ?_
      show Go p e below _ (s₁.setTop (mkF m 37 #[.val (.ref a1), .val (.ref a2), .val (.int p3), .val (.int p4), .val (.long q5), .second] [(.int (1 : Int32))]))
      exact goRetN X0 hx hlk hret (t := .boolean) (by simp) (w := (1 : Int32)) (by decide) e0 (hb hby d7_37) (by decide) (by decide) ⟨rfl, N0, rfl⟩
    · refine Go.st (fun _ => XS.icmpYes X0.here hx rfl (pc0 := 10) (pc' := 38) rfl (hb hby d7_10) rfl (feq hc3).2 (by decide) (by decide)) ?_
      refine Go.st (fun _ => XS.aloadN X0.here hx rfl (hb hby d7_38) rfl rfl) ?_
      refine Go.st (fun _ => XS.iloadN X0.here hx rfl (hb hby d7_39) rfl) ?_
      show Go p e below _ (s₁.setTop (mkF m 40 #[.val (.ref a1), .val (.ref a2), .val (.int p3), .val (.int p4), .val (.long q5), .second] [(.int p3), (.ref a1)]))
      obtain ⟨cl6, Ar6, hin6, hat6, -⟩ := LAr_in KF (j := p3) hp3 (own_ltn hc2 hnv)
      refine Go.st (fun _ => X0.laload hx (j := p3) (v := (.long (f (p3).toNatClampNeg))) (by rw [e0]; exact Ar6.1) (State.isArrayOf_alike hZ.alike Ar6.2.1) Ar6.2.2 hin6 hat6 (g := (mkF m 40 #[.val (.ref a1), .val (.ref a2), .val (.int p3), .val (.int p4), .val (.long q5), .second] [(.int p3), (.ref a1)])) rfl rfl (hb hby d7_40) _) ?_
      show Go p e below _ (s₁.setTop (mkF m 41 #[.val (.ref a1), .val (.ref a2), .val (.int p3), .val (.int p4), .val (.long q5), .second] [(.long (f (p3).toNatClampNeg))]))
      refine Go.st (fun _ => XS.aloadN X0.here hx rfl (hb hby d7_41) rfl rfl) ?_
      refine Go.st (fun _ => XS.iloadN X0.here hx rfl (hb hby d7_42) rfl) ?_
      show Go p e below _ (s₁.setTop (mkF m 43 #[.val (.ref a1), .val (.ref a2), .val (.int p3), .val (.int p4), .val (.long q5), .second] [(.int p3), (.ref a2), (.long (f (p3).toNatClampNeg))]))
      obtain ⟨cl7, Ar7, hin7, hat7, -⟩ := LAr_in KG (j := p3) hp3 (own_ltn hc2 hnv)
      refine Go.st (fun _ => X0.laload hx (j := p3) (v := (.long (g (p3).toNatClampNeg))) (by rw [e0]; exact Ar7.1) (State.isArrayOf_alike hZ.alike Ar7.2.1) Ar7.2.2 hin7 hat7 (g := (mkF m 43 #[.val (.ref a1), .val (.ref a2), .val (.int p3), .val (.int p4), .val (.long q5), .second] [(.int p3), (.ref a2), (.long (f (p3).toNatClampNeg))])) rfl rfl (hb hby d7_43) _) ?_
      show Go p e below _ (s₁.setTop (mkF m 44 #[.val (.ref a1), .val (.ref a2), .val (.int p3), .val (.int p4), .val (.long q5), .second] [(.long (g (p3).toNatClampNeg)), (.long (f (p3).toNatClampNeg))]))
      refine Go.st (fun _ => XS.lcmp X0.here hx rfl (hb hby d7_44) rfl) ?_
      refine Go.st (fun _ => XS.ifNo X0.here hx rfl (hb hby d7_45) rfl ((if0 _ _).trans (teq ((lw_eq _ _).mpr (HB hc3))).2)) ?_
      refine Go.st (fun _ => XS.iconst X0.here hx rfl (hb hby d7_48)) ?_
      refine Go.st (fun _ => XS.goto X0.here hx rfl (pc0 := 49) (pc' := 53) rfl (hb hby d7_49) (by decide) (by decide)) ?_
      show Go p e below _ (s₁.setTop (mkF m 53 #[.val (.ref a1), .val (.ref a2), .val (.int p3), .val (.int p4), .val (.long q5), .second] [(.int (1 : Int32))]))
      exact goRetN X0 hx hlk hret (t := .boolean) (by simp) (w := (1 : Int32)) (by decide) e0 (hb hby d7_53) (by decide) (by decide) ⟨rfl, N0, rfl⟩
  · refine Go.st (fun _ => XS.icmpNo X0.here hx rfl (hb hby d7_3) rfl (flt hc2).1) ?_
    refine Go.st (fun _ => XS.iconst X0.here hx rfl (hb hby d7_6)) ?_
    show Go p e below _ (s₁.setTop (mkF m 7 #[.val (.ref a1), .val (.ref a2), .val (.int p3), .val (.int p4), .val (.long q5), .second] [(.int (1 : Int32))]))
    exact goRetN X0 hx hlk hret (t := .boolean) (by simp) (w := (1 : Int32)) (by decide) e0 (hb hby d7_7) (by decide) (by decide) ⟨rfl, N0, rfl⟩
theorem pn_0 : plainName "com/example/gieres/gieres/model/TupleTableSetStatePinLaw" = true := by first | (simp [plainName, overriddenIn]; done) | decide +kernel
set_option maxRecDepth 65536 in
set_option maxHeartbeats 40000000 in
theorem rm0 (l : Launch) (Z : State) (a0 : Array Value) (hw : ∀ d ∈ tables_1, d.before a0 Z = true) (ws : List Jvm.Cond) (p0 p1 p2 : Int32) (q3 q4 : Int64) (h0 : Heap) (n0 : Nat) (O0 : Old Z n0 h0) :
    Ctr l x code maxLocals ret ws room_1 #[(.int p0), (.int p1), (.int p2), (.long q3), (.long q4)] Z h0 (fun v h L => v = some (.int 1) ∧ Fr n0 L) := by
  have ef : ∀ m : MethodId, entryFrame m #[(.int p0), (.int p1), (.int p2), (.long q3), (.long q4)] 30 = mkF m 0 #[.val (.int p0), .val (.int p1), .val (.int p2), .val (.long q3), .second, .val (.long q4), .second, .unset, .unset, .unset, .unset, .unset, .unset, .unset, .unset, .unset, .unset, .unset, .unset, .unset, .unset, .unset, .unset, .unset, .unset, .unset, .unset, .unset, .unset, .unset] [] := fun m => by first | (simp [entryFrame, mkF, argsToLocals, Value.category]; done) | rfl
  refine Ctr.of (plainFor_of_name pn_0) ?_
  intro p e s m below meth c s₁ hx hZ hby hml hown0 hnm hret hlk X0 e0
  have hown : s.vm.findClass "com/example/gieres/gieres/model/TupleTableSetStatePinLaw" = some m.cls := hown0
  have N0 := Fr.nil n0
  refine Go.st (fun t k => castTop (ef m) k) ?_
  show Go p e below _ (s₁.setTop (mkF m 0 #[.val (.int p0), .val (.int p1), .val (.int p2), .val (.long q3), .second, .val (.long q4), .second, .unset, .unset, .unset, .unset, .unset, .unset, .unset, .unset, .unset, .unset, .unset, .unset, .unset, .unset, .unset, .unset, .unset, .unset, .unset, .unset, .unset, .unset, .unset] []))
  refine Go.st (fun _ => XS.iloadN X0.here hx rfl (hb hby at_0) rfl) ?_
  refine Go.st (fun _ => XS.bipush X0.here hx rfl (hb hby at_1)) ?_
  refine Go.st (fun _ => XS.iand X0.here hx rfl (hb hby at_3) rfl) ?_
  refine Go.st (fun _ => XS.bipush X0.here hx rfl (hb hby at_4)) ?_
  show Go p e below _ (s₁.setTop (mkF m 6 #[.val (.int p0), .val (.int p1), .val (.int p2), .val (.long q3), .second, .val (.long q4), .second, .unset, .unset, .unset, .unset, .unset, .unset, .unset, .unset, .unset, .unset, .unset, .unset, .unset, .unset, .unset, .unset, .unset, .unset, .unset, .unset, .unset, .unset, .unset] [(.int (33 : Int32)), (.int (p0 &&& (63 : Int32)))]))
  refine Go.st (fun _ => iremM (g := (mkF m 6 #[.val (.int p0), .val (.int p1), .val (.int p2), .val (.long q3), .second, .val (.long q4), .second, .unset, .unset, .unset, .unset, .unset, .unset, .unset, .unset, .unset, .unset, .unset, .unset, .unset, .unset, .unset, .unset, .unset, .unset, .unset, .unset, .unset, .unset, .unset] [(.int (33 : Int32)), (.int (p0 &&& (63 : Int32)))])) X0 hx rfl (hb hby at_6) rfl (by decide)) ?_
  show Go p e below _ (s₁.setTop (mkF m 7 #[.val (.int p0), .val (.int p1), .val (.int p2), .val (.long q3), .second, .val (.long q4), .second, .unset, .unset, .unset, .unset, .unset, .unset, .unset, .unset, .unset, .unset, .unset, .unset, .unset, .unset, .unset, .unset, .unset, .unset, .unset, .unset, .unset, .unset, .unset] [(.int ((p0 &&& (63 : Int32)) % (33 : Int32)))]))
  refine Go.st (fun _ => XS.istore X0.here hx rfl (hb hby at_7) rfl (l' := #[.val (.int p0), .val (.int p1), .val (.int p2), .val (.long q3), .second, .val (.long q4), .second, .val (.int ((p0 &&& (63 : Int32)) % (33 : Int32))), .unset, .unset, .unset, .unset, .unset, .unset, .unset, .unset, .unset, .unset, .unset, .unset, .unset, .unset, .unset, .unset, .unset, .unset, .unset, .unset, .unset, .unset]) rfl) ?_
  show Go p e below _ (s₁.setTop (mkF m 9 #[.val (.int p0), .val (.int p1), .val (.int p2), .val (.long q3), .second, .val (.long q4), .second, .val (.int ((p0 &&& (63 : Int32)) % (33 : Int32))), .unset, .unset, .unset, .unset, .unset, .unset, .unset, .unset, .unset, .unset, .unset, .unset, .unset, .unset, .unset, .unset, .unset, .unset, .unset, .unset, .unset, .unset] []))
  obtain ⟨b0v, hb0⟩ : ∃ z, z = ((p0 &&& (63 : Int32)) % (33 : Int32)) := ⟨_, rfl⟩
  rw [← hb0]
  have L0L : own_le32 b0v := by rw [hb0]; exact own_b33 _
  show Go p e below _ (s₁.setTop (mkF m 9 #[.val (.int p0), .val (.int p1), .val (.int p2), .val (.long q3), .second, .val (.long q4), .second, .val (.int b0v), .unset, .unset, .unset, .unset, .unset, .unset, .unset, .unset, .unset, .unset, .unset, .unset, .unset, .unset, .unset, .unset, .unset, .unset, .unset, .unset, .unset, .unset] []))
  refine Go.st (fun _ => XS.iloadN X0.here hx rfl (hb hby at_9) rfl) ?_
  refine Go.st (fun _ => XS.bipush X0.here hx rfl (hb hby at_10)) ?_
  refine Go.st (fun _ => XS.iushr X0.here hx rfl (hb hby at_12) rfl) ?_
  refine Go.st (fun _ => XS.bipush X0.here hx rfl (hb hby at_13)) ?_
  refine Go.st (fun _ => XS.iand X0.here hx rfl (hb hby at_15) rfl) ?_
  refine Go.st (fun _ => XS.bipush X0.here hx rfl (hb hby at_16)) ?_
  show Go p e below _ (s₁.setTop (mkF m 18 #[.val (.int p0), .val (.int p1), .val (.int p2), .val (.long q3), .second, .val (.long q4), .second, .val (.int b0v), .unset, .unset, .unset, .unset, .unset, .unset, .unset, .unset, .unset, .unset, .unset, .unset, .unset, .unset, .unset, .unset, .unset, .unset, .unset, .unset, .unset, .unset] [(.int (33 : Int32)), (.int (((p0.toUInt32 >>> ((6 : Int32) &&& 31).toUInt32).toInt32) &&& (63 : Int32)))]))
  refine Go.st (fun _ => iremM (g := (mkF m 18 #[.val (.int p0), .val (.int p1), .val (.int p2), .val (.long q3), .second, .val (.long q4), .second, .val (.int b0v), .unset, .unset, .unset, .unset, .unset, .unset, .unset, .unset, .unset, .unset, .unset, .unset, .unset, .unset, .unset, .unset, .unset, .unset, .unset, .unset, .unset, .unset] [(.int (33 : Int32)), (.int (((p0.toUInt32 >>> ((6 : Int32) &&& 31).toUInt32).toInt32) &&& (63 : Int32)))])) X0 hx rfl (hb hby at_18) rfl (by decide)) ?_
  show Go p e below _ (s₁.setTop (mkF m 19 #[.val (.int p0), .val (.int p1), .val (.int p2), .val (.long q3), .second, .val (.long q4), .second, .val (.int b0v), .unset, .unset, .unset, .unset, .unset, .unset, .unset, .unset, .unset, .unset, .unset, .unset, .unset, .unset, .unset, .unset, .unset, .unset, .unset, .unset, .unset, .unset] [(.int ((((p0.toUInt32 >>> ((6 : Int32) &&& 31).toUInt32).toInt32) &&& (63 : Int32)) % (33 : Int32)))]))
  refine Go.st (fun _ => XS.istore X0.here hx rfl (hb hby at_19) rfl (l' := #[.val (.int p0), .val (.int p1), .val (.int p2), .val (.long q3), .second, .val (.long q4), .second, .val (.int b0v), .val (.int ((((p0.toUInt32 >>> ((6 : Int32) &&& 31).toUInt32).toInt32) &&& (63 : Int32)) % (33 : Int32))), .unset, .unset, .unset, .unset, .unset, .unset, .unset, .unset, .unset, .unset, .unset, .unset, .unset, .unset, .unset, .unset, .unset, .unset, .unset, .unset, .unset]) rfl) ?_
  show Go p e below _ (s₁.setTop (mkF m 21 #[.val (.int p0), .val (.int p1), .val (.int p2), .val (.long q3), .second, .val (.long q4), .second, .val (.int b0v), .val (.int ((((p0.toUInt32 >>> ((6 : Int32) &&& 31).toUInt32).toInt32) &&& (63 : Int32)) % (33 : Int32))), .unset, .unset, .unset, .unset, .unset, .unset, .unset, .unset, .unset, .unset, .unset, .unset, .unset, .unset, .unset, .unset, .unset, .unset, .unset, .unset, .unset] []))
  obtain ⟨b1v, hb1⟩ : ∃ z, z = ((((p0.toUInt32 >>> ((6 : Int32) &&& 31).toUInt32).toInt32) &&& (63 : Int32)) % (33 : Int32)) := ⟨_, rfl⟩
  rw [← hb1]
  have L1L : own_le32 b1v := by rw [hb1]; exact own_b33 _
  show Go p e below _ (s₁.setTop (mkF m 21 #[.val (.int p0), .val (.int p1), .val (.int p2), .val (.long q3), .second, .val (.long q4), .second, .val (.int b0v), .val (.int b1v), .unset, .unset, .unset, .unset, .unset, .unset, .unset, .unset, .unset, .unset, .unset, .unset, .unset, .unset, .unset, .unset, .unset, .unset, .unset, .unset, .unset] []))
  refine Go.st (fun _ => XS.iloadN X0.here hx rfl (hb hby at_21) rfl) ?_
  refine Go.st (fun _ => XS.bipush X0.here hx rfl (hb hby at_22)) ?_
  refine Go.st (fun _ => XS.iushr X0.here hx rfl (hb hby at_24) rfl) ?_
  refine Go.st (fun _ => XS.bipush X0.here hx rfl (hb hby at_25)) ?_
  refine Go.st (fun _ => XS.iand X0.here hx rfl (hb hby at_27) rfl) ?_
  refine Go.st (fun _ => XS.bipush X0.here hx rfl (hb hby at_28)) ?_
  show Go p e below _ (s₁.setTop (mkF m 30 #[.val (.int p0), .val (.int p1), .val (.int p2), .val (.long q3), .second, .val (.long q4), .second, .val (.int b0v), .val (.int b1v), .unset, .unset, .unset, .unset, .unset, .unset, .unset, .unset, .unset, .unset, .unset, .unset, .unset, .unset, .unset, .unset, .unset, .unset, .unset, .unset, .unset] [(.int (33 : Int32)), (.int (((p0.toUInt32 >>> ((12 : Int32) &&& 31).toUInt32).toInt32) &&& (63 : Int32)))]))
  refine Go.st (fun _ => iremM (g := (mkF m 30 #[.val (.int p0), .val (.int p1), .val (.int p2), .val (.long q3), .second, .val (.long q4), .second, .val (.int b0v), .val (.int b1v), .unset, .unset, .unset, .unset, .unset, .unset, .unset, .unset, .unset, .unset, .unset, .unset, .unset, .unset, .unset, .unset, .unset, .unset, .unset, .unset, .unset] [(.int (33 : Int32)), (.int (((p0.toUInt32 >>> ((12 : Int32) &&& 31).toUInt32).toInt32) &&& (63 : Int32)))])) X0 hx rfl (hb hby at_30) rfl (by decide)) ?_
  show Go p e below _ (s₁.setTop (mkF m 31 #[.val (.int p0), .val (.int p1), .val (.int p2), .val (.long q3), .second, .val (.long q4), .second, .val (.int b0v), .val (.int b1v), .unset, .unset, .unset, .unset, .unset, .unset, .unset, .unset, .unset, .unset, .unset, .unset, .unset, .unset, .unset, .unset, .unset, .unset, .unset, .unset, .unset] [(.int ((((p0.toUInt32 >>> ((12 : Int32) &&& 31).toUInt32).toInt32) &&& (63 : Int32)) % (33 : Int32)))]))
  refine Go.st (fun _ => XS.istore X0.here hx rfl (hb hby at_31) rfl (l' := #[.val (.int p0), .val (.int p1), .val (.int p2), .val (.long q3), .second, .val (.long q4), .second, .val (.int b0v), .val (.int b1v), .val (.int ((((p0.toUInt32 >>> ((12 : Int32) &&& 31).toUInt32).toInt32) &&& (63 : Int32)) % (33 : Int32))), .unset, .unset, .unset, .unset, .unset, .unset, .unset, .unset, .unset, .unset, .unset, .unset, .unset, .unset, .unset, .unset, .unset, .unset, .unset, .unset]) rfl) ?_
  show Go p e below _ (s₁.setTop (mkF m 33 #[.val (.int p0), .val (.int p1), .val (.int p2), .val (.long q3), .second, .val (.long q4), .second, .val (.int b0v), .val (.int b1v), .val (.int ((((p0.toUInt32 >>> ((12 : Int32) &&& 31).toUInt32).toInt32) &&& (63 : Int32)) % (33 : Int32))), .unset, .unset, .unset, .unset, .unset, .unset, .unset, .unset, .unset, .unset, .unset, .unset, .unset, .unset, .unset, .unset, .unset, .unset, .unset, .unset] []))
  obtain ⟨b2v, hb2⟩ : ∃ z, z = ((((p0.toUInt32 >>> ((12 : Int32) &&& 31).toUInt32).toInt32) &&& (63 : Int32)) % (33 : Int32)) := ⟨_, rfl⟩
  rw [← hb2]
  have L2L : own_le32 b2v := by rw [hb2]; exact own_b33 _
  show Go p e below _ (s₁.setTop (mkF m 33 #[.val (.int p0), .val (.int p1), .val (.int p2), .val (.long q3), .second, .val (.long q4), .second, .val (.int b0v), .val (.int b1v), .val (.int b2v), .unset, .unset, .unset, .unset, .unset, .unset, .unset, .unset, .unset, .unset, .unset, .unset, .unset, .unset, .unset, .unset, .unset, .unset, .unset, .unset] []))
  refine Go.st (fun _ => XS.iload X0.here hx rfl (hb hby at_33) rfl) ?_
  refine Go.st (fun _ => XS.iload X0.here hx rfl (hb hby at_35) rfl) ?_
  refine Go.st (fun _ => XS.iadd X0.here hx rfl (hb hby at_37) rfl) ?_
  refine Go.st (fun _ => XS.iload X0.here hx rfl (hb hby at_38) rfl) ?_
  refine Go.st (fun _ => XS.iadd X0.here hx rfl (hb hby at_40) rfl) ?_
  refine Go.st (fun _ => XS.bipush X0.here hx rfl (hb hby at_41)) ?_
  by_cases hc1 : (64 : Int32) < ((b0v + b1v) + b2v)
  · refine Go.st (fun _ => XS.icmpNo X0.here hx rfl (hb hby at_43) rfl (tlt hc1).2.2.2) ?_
    refine Go.st (fun _ => XS.iconst X0.here hx rfl (hb hby at_46)) ?_
    refine Go.st (fun _ => XS.goto X0.here hx rfl (pc0 := 47) (pc' := 51) rfl (hb hby at_47) (by decide) (by decide)) ?_
    refine Go.st (fun _ => XS.istore X0.here hx rfl (hb hby at_51) rfl (l' := #[.val (.int p0), .val (.int p1), .val (.int p2), .val (.long q3), .second, .val (.long q4), .second, .val (.int b0v), .val (.int b1v), .val (.int b2v), .val (.int (1 : Int32)), .unset, .unset, .unset, .unset, .unset, .unset, .unset, .unset, .unset, .unset, .unset, .unset, .unset, .unset, .unset, .unset, .unset, .unset, .unset]) rfl) ?_
    refine Go.st (fun _ => XS.iload X0.here hx rfl (hb hby at_53) rfl) ?_
    refine Go.st (fun _ => XS.ifNo X0.here hx rfl (hb hby at_55) rfl ((if0 _ _).trans (feq (by decide : ¬ ((1 : Int32) = (0 : Int32)))).1)) ?_
    show Go p e below _ (s₁.setTop (mkF m 58 #[.val (.int p0), .val (.int p1), .val (.int p2), .val (.long q3), .second, .val (.long q4), .second, .val (.int b0v), .val (.int b1v), .val (.int b2v), .val (.int (1 : Int32)), .unset, .unset, .unset, .unset, .unset, .unset, .unset, .unset, .unset, .unset, .unset, .unset, .unset, .unset, .unset, .unset, .unset, .unset, .unset] []))
    refine Go.st (fun _ => XS.iconst X0.here hx rfl (hb hby at_58)) ?_
    refine Go.st (fun _ => XS.goto X0.here hx rfl (pc0 := 59) (pc' := 63) rfl (hb hby at_59) (by decide) (by decide)) ?_
    refine Go.st (fun _ => XS.istore X0.here hx rfl (hb hby at_63) rfl (l' := #[.val (.int p0), .val (.int p1), .val (.int p2), .val (.long q3), .second, .val (.long q4), .second, .val (.int b0v), .val (.int b1v), .val (.int b2v), .val (.int (1 : Int32)), .val (.int (2 : Int32)), .unset, .unset, .unset, .unset, .unset, .unset, .unset, .unset, .unset, .unset, .unset, .unset, .unset, .unset, .unset, .unset, .unset, .unset]) rfl) ?_
    refine Go.st (fun _ => XS.iloadN X0.here hx rfl (hb hby at_65) rfl) ?_
    refine Go.st (fun _ => XS.iconst X0.here hx rfl (hb hby at_66)) ?_
    refine Go.st (fun _ => XS.iand X0.here hx rfl (hb hby at_67) rfl) ?_
    refine Go.st (fun _ => XS.iconst X0.here hx rfl (hb hby at_68)) ?_
    show Go p e below _ (s₁.setTop (mkF m 69 #[.val (.int p0), .val (.int p1), .val (.int p2), .val (.long q3), .second, .val (.long q4), .second, .val (.int b0v), .val (.int b1v), .val (.int b2v), .val (.int (1 : Int32)), .val (.int (2 : Int32)), .unset, .unset, .unset, .unset, .unset, .unset, .unset, .unset, .unset, .unset, .unset, .unset, .unset, .unset, .unset, .unset, .unset, .unset] [(.int (3 : Int32)), (.int (p1 &&& (3 : Int32)))]))
    refine Go.st (fun _ => iremM (g := (mkF m 69 #[.val (.int p0), .val (.int p1), .val (.int p2), .val (.long q3), .second, .val (.long q4), .second, .val (.int b0v), .val (.int b1v), .val (.int b2v), .val (.int (1 : Int32)), .val (.int (2 : Int32)), .unset, .unset, .unset, .unset, .unset, .unset, .unset, .unset, .unset, .unset, .unset, .unset, .unset, .unset, .unset, .unset, .unset, .unset] [(.int (3 : Int32)), (.int (p1 &&& (3 : Int32)))])) X0 hx rfl (hb hby at_69) rfl (by decide)) ?_
    show Go p e below _ (s₁.setTop (mkF m 70 #[.val (.int p0), .val (.int p1), .val (.int p2), .val (.long q3), .second, .val (.long q4), .second, .val (.int b0v), .val (.int b1v), .val (.int b2v), .val (.int (1 : Int32)), .val (.int (2 : Int32)), .unset, .unset, .unset, .unset, .unset, .unset, .unset, .unset, .unset, .unset, .unset, .unset, .unset, .unset, .unset, .unset, .unset, .unset] [(.int ((p1 &&& (3 : Int32)) % (3 : Int32)))]))
    rcases own_f3 p1 with qf | qf | qf
    · rw [qf]
      show Go p e below _ (s₁.setTop (mkF m 70 #[.val (.int p0), .val (.int p1), .val (.int p2), .val (.long q3), .second, .val (.long q4), .second, .val (.int b0v), .val (.int b1v), .val (.int b2v), .val (.int (1 : Int32)), .val (.int (2 : Int32)), .unset, .unset, .unset, .unset, .unset, .unset, .unset, .unset, .unset, .unset, .unset, .unset, .unset, .unset, .unset, .unset, .unset, .unset] [(.int (0 : Int32))]))
      refine Go.st (fun _ => XS.istore X0.here hx rfl (hb hby at_70) rfl (l' := #[.val (.int p0), .val (.int p1), .val (.int p2), .val (.long q3), .second, .val (.long q4), .second, .val (.int b0v), .val (.int b1v), .val (.int b2v), .val (.int (1 : Int32)), .val (.int (2 : Int32)), .val (.int (0 : Int32)), .unset, .unset, .unset, .unset, .unset, .unset, .unset, .unset, .unset, .unset, .unset, .unset, .unset, .unset, .unset, .unset, .unset]) rfl) ?_
      refine Go.st (fun _ => XS.iloadN X0.here hx rfl (hb hby at_72) rfl) ?_
      refine Go.st (fun _ => XS.iconst X0.here hx rfl (hb hby at_73)) ?_
      refine Go.st (fun _ => XS.iushr X0.here hx rfl (hb hby at_74) rfl) ?_
      refine Go.st (fun _ => XS.iconst X0.here hx rfl (hb hby at_75)) ?_
      refine Go.st (fun _ => XS.iand X0.here hx rfl (hb hby at_76) rfl) ?_
      refine Go.st (fun _ => XS.iload X0.here hx rfl (hb hby at_77) rfl) ?_
      refine Go.st (fun _ => XS.imul X0.here hx rfl (hb hby at_79) rfl) ?_
      refine Go.st (fun _ => XS.istore X0.here hx rfl (hb hby at_80) rfl (l' := #[.val (.int p0), .val (.int p1), .val (.int p2), .val (.long q3), .second, .val (.long q4), .second, .val (.int b0v), .val (.int b1v), .val (.int b2v), .val (.int (1 : Int32)), .val (.int (2 : Int32)), .val (.int (0 : Int32)), .val (.int ((((p1.toUInt32 >>> ((2 : Int32) &&& 31).toUInt32).toInt32) &&& (1 : Int32)) * (2 : Int32))), .unset, .unset, .unset, .unset, .unset, .unset, .unset, .unset, .unset, .unset, .unset, .unset, .unset, .unset, .unset, .unset]) rfl) ?_
      show Go p e below _ (s₁.setTop (mkF m 82 #[.val (.int p0), .val (.int p1), .val (.int p2), .val (.long q3), .second, .val (.long q4), .second, .val (.int b0v), .val (.int b1v), .val (.int b2v), .val (.int (1 : Int32)), .val (.int (2 : Int32)), .val (.int (0 : Int32)), .val (.int ((((p1.toUInt32 >>> ((2 : Int32) &&& 31).toUInt32).toInt32) &&& (1 : Int32)) * (2 : Int32))), .unset, .unset, .unset, .unset, .unset, .unset, .unset, .unset, .unset, .unset, .unset, .unset, .unset, .unset, .unset, .unset] []))
      obtain ⟨po, hpo⟩ : ∃ z, z = ((((p1.toUInt32 >>> ((2 : Int32) &&& 31).toUInt32).toInt32) &&& (1 : Int32)) * (2 : Int32)) := ⟨_, rfl⟩
      rw [← hpo]
      have hpb : po = 0 ∨ po = 2 := by rw [hpo]; exact own_po _ _
      have HJ : 0 ≤ (po + (0 : Int32)).toInt ∧ (po + (0 : Int32)).toInt < (4 : Nat) := by rcases hpb with q | q <;> rw [q] <;> decide
      show Go p e below _ (s₁.setTop (mkF m 82 #[.val (.int p0), .val (.int p1), .val (.int p2), .val (.long q3), .second, .val (.long q4), .second, .val (.int b0v), .val (.int b1v), .val (.int b2v), .val (.int (1 : Int32)), .val (.int (2 : Int32)), .val (.int (0 : Int32)), .val (.int po), .unset, .unset, .unset, .unset, .unset, .unset, .unset, .unset, .unset, .unset, .unset, .unset, .unset, .unset, .unset, .unset] []))
      refine Go.st (fun _ => XS.iload X0.here hx rfl (hb hby at_82) rfl) ?_
      refine Go.st (fun _ => XS.ifNo X0.here hx rfl (hb hby at_84) rfl ((if0 _ _).trans (teq (by decide : (0 : Int32) = (0 : Int32))).2)) ?_
      refine Go.st (fun _ => XS.iload X0.here hx rfl (hb hby at_87) rfl) ?_
      refine Go.st (fun _ => XS.goto X0.here hx rfl (pc0 := 89) (pc' := 105) rfl (hb hby at_89) (by decide) (by decide)) ?_
      refine Go.st (fun _ => XS.istore X0.here hx rfl (hb hby at_105) rfl (l' := #[.val (.int p0), .val (.int p1), .val (.int p2), .val (.long q3), .second, .val (.long q4), .second, .val (.int b0v), .val (.int b1v), .val (.int b2v), .val (.int (1 : Int32)), .val (.int (2 : Int32)), .val (.int (0 : Int32)), .val (.int po), .val (.int b0v), .unset, .unset, .unset, .unset, .unset, .unset, .unset, .unset, .unset, .unset, .unset, .unset, .unset, .unset, .unset]) rfl) ?_
      refine Go.st (fun _ => XS.iload X0.here hx rfl (hb hby at_107) rfl) ?_
      refine Go.st (fun _ => XS.ifNo X0.here hx rfl (hb hby at_109) rfl ((if0 _ _).trans (teq (by decide : (0 : Int32) = (0 : Int32))).2)) ?_
      refine Go.st (fun _ => XS.iconst X0.here hx rfl (hb hby at_112)) ?_
      refine Go.st (fun _ => XS.goto X0.here hx rfl (pc0 := 113) (pc' := 141) rfl (hb hby at_113) (by decide) (by decide)) ?_
      refine Go.st (fun _ => XS.istore X0.here hx rfl (hb hby at_141) rfl (l' := #[.val (.int p0), .val (.int p1), .val (.int p2), .val (.long q3), .second, .val (.long q4), .second, .val (.int b0v), .val (.int b1v), .val (.int b2v), .val (.int (1 : Int32)), .val (.int (2 : Int32)), .val (.int (0 : Int32)), .val (.int po), .val (.int b0v), .val (.int (0 : Int32)), .unset, .unset, .unset, .unset, .unset, .unset, .unset, .unset, .unset, .unset, .unset, .unset, .unset, .unset]) rfl) ?_
      refine Go.st (fun _ => XS.iload X0.here hx rfl (hb hby at_143) rfl) ?_
      refine Go.st (fun _ => XS.iconst X0.here hx rfl (hb hby at_145)) ?_
      show Go p e below _ (s₁.setTop (mkF m 146 #[.val (.int p0), .val (.int p1), .val (.int p2), .val (.long q3), .second, .val (.long q4), .second, .val (.int b0v), .val (.int b1v), .val (.int b2v), .val (.int (1 : Int32)), .val (.int (2 : Int32)), .val (.int (0 : Int32)), .val (.int po), .val (.int b0v), .val (.int (0 : Int32)), .unset, .unset, .unset, .unset, .unset, .unset, .unset, .unset, .unset, .unset, .unset, .unset, .unset, .unset] [(.int (2 : Int32)), (.int (0 : Int32))]))
      refine Go.st (fun _ => XS.icmpYes X0.here hx rfl (pc0 := 146) (pc' := 158) rfl (hb hby at_146) rfl (feq (by decide : ¬ ((0 : Int32) = (2 : Int32)))).2 (by decide) (by decide)) ?_
      refine Go.st (fun _ => XS.iconst X0.here hx rfl (hb hby at_158)) ?_
      refine Go.st (fun _ => XS.istore X0.here hx rfl (hb hby at_159) rfl (l' := #[.val (.int p0), .val (.int p1), .val (.int p2), .val (.long q3), .second, .val (.long q4), .second, .val (.int b0v), .val (.int b1v), .val (.int b2v), .val (.int (1 : Int32)), .val (.int (2 : Int32)), .val (.int (0 : Int32)), .val (.int po), .val (.int b0v), .val (.int (0 : Int32)), .val (.int (0 : Int32)), .unset, .unset, .unset, .unset, .unset, .unset, .unset, .unset, .unset, .unset, .unset, .unset, .unset]) rfl) ?_
      refine Go.st (fun _ => XS.lconst X0.here hx rfl (hb hby at_161)) ?_
      refine Go.st (fun _ => XS.iload X0.here hx rfl (hb hby at_162) rfl) ?_
      refine Go.st (fun _ => XS.lshl X0.here hx rfl (hb hby at_164) rfl) ?_
      refine Go.st (fun _ => XS.lconst X0.here hx rfl (hb hby at_165)) ?_
      refine Go.st (fun _ => XS.lsub X0.here hx rfl (hb hby at_166) rfl) ?_
      refine Go.st (fun _ => XS.lstore X0.here hx rfl (hb hby at_167) rfl (l' := #[.val (.int p0), .val (.int p1), .val (.int p2), .val (.long q3), .second, .val (.long q4), .second, .val (.int b0v), .val (.int b1v), .val (.int b2v), .val (.int (1 : Int32)), .val (.int (2 : Int32)), .val (.int (0 : Int32)), .val (.int po), .val (.int b0v), .val (.int (0 : Int32)), .val (.int (0 : Int32)), .val (.long (((1 : Int64) <<< (b0v &&& 0x3f).toInt64) - (1 : Int64))), .second, .unset, .unset, .unset, .unset, .unset, .unset, .unset, .unset, .unset, .unset, .unset]) rfl) ?_
      refine Go.st (fun _ => XS.iconst X0.here hx rfl (hb hby at_169)) ?_
      show Go p e below _ (s₁.setTop (mkF m 170 #[.val (.int p0), .val (.int p1), .val (.int p2), .val (.long q3), .second, .val (.long q4), .second, .val (.int b0v), .val (.int b1v), .val (.int b2v), .val (.int (1 : Int32)), .val (.int (2 : Int32)), .val (.int (0 : Int32)), .val (.int po), .val (.int b0v), .val (.int (0 : Int32)), .val (.int (0 : Int32)), .val (.long (((1 : Int64) <<< (b0v &&& 0x3f).toInt64) - (1 : Int64))), .second, .unset, .unset, .unset, .unset, .unset, .unset, .unset, .unset, .unset, .unset, .unset] [(.int (3 : Int32))]))
      obtain ⟨T2, h2, k2, X2, e2, E2, A2, st2⟩ := newP X0 hx hZ (hw _ (List.mem_of_getElem? (i := 0) rfl)) e0 (g := (mkF m 170 #[.val (.int p0), .val (.int p1), .val (.int p2), .val (.long q3), .second, .val (.long q4), .second, .val (.int b0v), .val (.int b1v), .val (.int b2v), .val (.int (1 : Int32)), .val (.int (2 : Int32)), .val (.int (0 : Int32)), .val (.int po), .val (.int b0v), .val (.int (0 : Int32)), .val (.int (0 : Int32)), .val (.long (((1 : Int64) <<< (b0v &&& 0x3f).toInt64) - (1 : Int64))), .second, .unset, .unset, .unset, .unset, .unset, .unset, .unset, .unset, .unset, .unset, .unset] [(.int (3 : Int32))])) rfl (hb hby at_170) rfl (by decide) (cap := 3) (by decide) (by decide) (by decide) (by decide)
      obtain ⟨b2, g2⟩ : ∃ z, z = h0.size := ⟨_, rfl⟩
      rw [← g2] at A2 st2
      refine Go.st st2 ?_
      have gn2 : n0 ≤ b2 := oldGe O0 g2
      have O3 : Old Z n0 h2 := O0.ext E2
      have V_4 : Arv Z h2 b2 k2 .long (3 : Int32) [(.long (0 : Int64)), (.long (0 : Int64)), (.long (0 : Int64))] (.long (0 : Int64)) := (Arv.new A2 (by decide)).pad (pad_rep [] (.long (0 : Int64)) 3)
      show Go p e below _ (T2.setTop (mkF m 172 #[.val (.int p0), .val (.int p1), .val (.int p2), .val (.long q3), .second, .val (.long q4), .second, .val (.int b0v), .val (.int b1v), .val (.int b2v), .val (.int (1 : Int32)), .val (.int (2 : Int32)), .val (.int (0 : Int32)), .val (.int po), .val (.int b0v), .val (.int (0 : Int32)), .val (.int (0 : Int32)), .val (.long (((1 : Int64) <<< (b0v &&& 0x3f).toInt64) - (1 : Int64))), .second, .unset, .unset, .unset, .unset, .unset, .unset, .unset, .unset, .unset, .unset, .unset] [(.ref b2)]))
      refine Go.st (fun _ => XS.dup X2.here hx rfl (hb hby at_172) rfl rfl) ?_
      refine Go.st (fun _ => XS.iconst X2.here hx rfl (hb hby at_173)) ?_
      refine Go.st (fun _ => XS.lconst X2.here hx rfl (hb hby at_174)) ?_
      refine Go.st (fun _ => XS.iload X2.here hx rfl (hb hby at_175) rfl) ?_
      refine Go.st (fun _ => XS.lshl X2.here hx rfl (hb hby at_177) rfl) ?_
      show Go p e below _ (T2.setTop (mkF m 178 #[.val (.int p0), .val (.int p1), .val (.int p2), .val (.long q3), .second, .val (.long q4), .second, .val (.int b0v), .val (.int b1v), .val (.int b2v), .val (.int (1 : Int32)), .val (.int (2 : Int32)), .val (.int (0 : Int32)), .val (.int po), .val (.int b0v), .val (.int (0 : Int32)), .val (.int (0 : Int32)), .val (.long (((1 : Int64) <<< (b0v &&& 0x3f).toInt64) - (1 : Int64))), .second, .unset, .unset, .unset, .unset, .unset, .unset, .unset, .unset, .unset, .unset, .unset] [(.long ((1 : Int64) <<< (b0v &&& 0x3f).toInt64)), (.int (0 : Int32)), (.ref b2), (.ref b2)]))
      obtain ⟨cl5, Ar5, qk5, Sz5, Nn5, Ha5, Ga5⟩ := id V_4
      have hin5 : ¬ ((0 : Int32) < 0 ∨ cl5.slots.size ≤ ((0 : Int32) : Int32).toNatClampNeg) := inb_of Sz5 ⟨by decide, by decide⟩
      obtain ⟨T5, h5, X5, e5, W5, st5⟩ := stJ X2 hx hZ e2 Ar5 (j := (0 : Int32)) hin5 (g := (mkF m 178 #[.val (.int p0), .val (.int p1), .val (.int p2), .val (.long q3), .second, .val (.long q4), .second, .val (.int b0v), .val (.int b1v), .val (.int b2v), .val (.int (1 : Int32)), .val (.int (2 : Int32)), .val (.int (0 : Int32)), .val (.int po), .val (.int b0v), .val (.int (0 : Int32)), .val (.int (0 : Int32)), .val (.long (((1 : Int64) <<< (b0v &&& 0x3f).toInt64) - (1 : Int64))), .second, .unset, .unset, .unset, .unset, .unset, .unset, .unset, .unset, .unset, .unset, .unset] [(.long ((1 : Int64) <<< (b0v &&& 0x3f).toInt64)), (.int (0 : Int32)), (.ref b2), (.ref b2)])) rfl rfl (hb hby at_178)
      refine Go.st st5 ?_
      have O6 : Old Z n0 h5 := O3.wr W5 gn2
      have V_7 : Arv Z h5 b2 k2 .long (3 : Int32) [(.long ((1 : Int64) <<< (b0v &&& 0x3f).toInt64)), (.long (0 : Int64)), (.long (0 : Int64))] (.long (0 : Int64)) := Arv.set Ar5 qk5 Sz5 Nn5 Ha5 Ga5 rfl W5 0 rfl (Nat.le_of_ble_eq_true rfl)
      have N5 := Fr.snoc X5 N0 gn2
      show Go p e below _ (T5.setTop (mkF m 179 #[.val (.int p0), .val (.int p1), .val (.int p2), .val (.long q3), .second, .val (.long q4), .second, .val (.int b0v), .val (.int b1v), .val (.int b2v), .val (.int (1 : Int32)), .val (.int (2 : Int32)), .val (.int (0 : Int32)), .val (.int po), .val (.int b0v), .val (.int (0 : Int32)), .val (.int (0 : Int32)), .val (.long (((1 : Int64) <<< (b0v &&& 0x3f).toInt64) - (1 : Int64))), .second, .unset, .unset, .unset, .unset, .unset, .unset, .unset, .unset, .unset, .unset, .unset] [(.ref b2)]))
      refine Go.st (fun _ => XS.dup X5.here hx rfl (hb hby at_179) rfl rfl) ?_
      refine Go.st (fun _ => XS.iconst X5.here hx rfl (hb hby at_180)) ?_
      refine Go.st (fun _ => XS.lconst X5.here hx rfl (hb hby at_181)) ?_
      refine Go.st (fun _ => XS.iload X5.here hx rfl (hb hby at_182) rfl) ?_
      refine Go.st (fun _ => XS.lshl X5.here hx rfl (hb hby at_184) rfl) ?_
      show Go p e below _ (T5.setTop (mkF m 185 #[.val (.int p0), .val (.int p1), .val (.int p2), .val (.long q3), .second, .val (.long q4), .second, .val (.int b0v), .val (.int b1v), .val (.int b2v), .val (.int (1 : Int32)), .val (.int (2 : Int32)), .val (.int (0 : Int32)), .val (.int po), .val (.int b0v), .val (.int (0 : Int32)), .val (.int (0 : Int32)), .val (.long (((1 : Int64) <<< (b0v &&& 0x3f).toInt64) - (1 : Int64))), .second, .unset, .unset, .unset, .unset, .unset, .unset, .unset, .unset, .unset, .unset, .unset] [(.long ((1 : Int64) <<< (b1v &&& 0x3f).toInt64)), (.int (1 : Int32)), (.ref b2), (.ref b2)]))
      obtain ⟨cl8, Ar8, qk8, Sz8, Nn8, Ha8, Ga8⟩ := id V_7
      have hin8 : ¬ ((1 : Int32) < 0 ∨ cl8.slots.size ≤ ((1 : Int32) : Int32).toNatClampNeg) := inb_of Sz8 ⟨by decide, by decide⟩
      obtain ⟨T8, h8, X8, e8, W8, st8⟩ := stJ X5 hx hZ e5 Ar8 (j := (1 : Int32)) hin8 (g := (mkF m 185 #[.val (.int p0), .val (.int p1), .val (.int p2), .val (.long q3), .second, .val (.long q4), .second, .val (.int b0v), .val (.int b1v), .val (.int b2v), .val (.int (1 : Int32)), .val (.int (2 : Int32)), .val (.int (0 : Int32)), .val (.int po), .val (.int b0v), .val (.int (0 : Int32)), .val (.int (0 : Int32)), .val (.long (((1 : Int64) <<< (b0v &&& 0x3f).toInt64) - (1 : Int64))), .second, .unset, .unset, .unset, .unset, .unset, .unset, .unset, .unset, .unset, .unset, .unset] [(.long ((1 : Int64) <<< (b1v &&& 0x3f).toInt64)), (.int (1 : Int32)), (.ref b2), (.ref b2)])) rfl rfl (hb hby at_185)
      refine Go.st st8 ?_
      have O9 : Old Z n0 h8 := O6.wr W8 gn2
      have V_10 : Arv Z h8 b2 k2 .long (3 : Int32) [(.long ((1 : Int64) <<< (b0v &&& 0x3f).toInt64)), (.long ((1 : Int64) <<< (b1v &&& 0x3f).toInt64)), (.long (0 : Int64))] (.long (0 : Int64)) := Arv.set Ar8 qk8 Sz8 Nn8 Ha8 Ga8 rfl W8 1 rfl (Nat.le_of_ble_eq_true rfl)
      have N8 := Fr.snoc X8 N5 gn2
      show Go p e below _ (T8.setTop (mkF m 186 #[.val (.int p0), .val (.int p1), .val (.int p2), .val (.long q3), .second, .val (.long q4), .second, .val (.int b0v), .val (.int b1v), .val (.int b2v), .val (.int (1 : Int32)), .val (.int (2 : Int32)), .val (.int (0 : Int32)), .val (.int po), .val (.int b0v), .val (.int (0 : Int32)), .val (.int (0 : Int32)), .val (.long (((1 : Int64) <<< (b0v &&& 0x3f).toInt64) - (1 : Int64))), .second, .unset, .unset, .unset, .unset, .unset, .unset, .unset, .unset, .unset, .unset, .unset] [(.ref b2)]))
      refine Go.st (fun _ => XS.dup X8.here hx rfl (hb hby at_186) rfl rfl) ?_
      refine Go.st (fun _ => XS.iconst X8.here hx rfl (hb hby at_187)) ?_
      refine Go.st (fun _ => XS.lconst X8.here hx rfl (hb hby at_188)) ?_
      refine Go.st (fun _ => XS.iload X8.here hx rfl (hb hby at_189) rfl) ?_
      refine Go.st (fun _ => XS.lshl X8.here hx rfl (hb hby at_191) rfl) ?_
      show Go p e below _ (T8.setTop (mkF m 192 #[.val (.int p0), .val (.int p1), .val (.int p2), .val (.long q3), .second, .val (.long q4), .second, .val (.int b0v), .val (.int b1v), .val (.int b2v), .val (.int (1 : Int32)), .val (.int (2 : Int32)), .val (.int (0 : Int32)), .val (.int po), .val (.int b0v), .val (.int (0 : Int32)), .val (.int (0 : Int32)), .val (.long (((1 : Int64) <<< (b0v &&& 0x3f).toInt64) - (1 : Int64))), .second, .unset, .unset, .unset, .unset, .unset, .unset, .unset, .unset, .unset, .unset, .unset] [(.long ((1 : Int64) <<< (b2v &&& 0x3f).toInt64)), (.int (2 : Int32)), (.ref b2), (.ref b2)]))
      obtain ⟨cl11, Ar11, qk11, Sz11, Nn11, Ha11, Ga11⟩ := id V_10
      have hin11 : ¬ ((2 : Int32) < 0 ∨ cl11.slots.size ≤ ((2 : Int32) : Int32).toNatClampNeg) := inb_of Sz11 ⟨by decide, by decide⟩
      obtain ⟨T11, h11, X11, e11, W11, st11⟩ := stJ X8 hx hZ e8 Ar11 (j := (2 : Int32)) hin11 (g := (mkF m 192 #[.val (.int p0), .val (.int p1), .val (.int p2), .val (.long q3), .second, .val (.long q4), .second, .val (.int b0v), .val (.int b1v), .val (.int b2v), .val (.int (1 : Int32)), .val (.int (2 : Int32)), .val (.int (0 : Int32)), .val (.int po), .val (.int b0v), .val (.int (0 : Int32)), .val (.int (0 : Int32)), .val (.long (((1 : Int64) <<< (b0v &&& 0x3f).toInt64) - (1 : Int64))), .second, .unset, .unset, .unset, .unset, .unset, .unset, .unset, .unset, .unset, .unset, .unset] [(.long ((1 : Int64) <<< (b2v &&& 0x3f).toInt64)), (.int (2 : Int32)), (.ref b2), (.ref b2)])) rfl rfl (hb hby at_192)
      refine Go.st st11 ?_
      have O12 : Old Z n0 h11 := O9.wr W11 gn2
      have V_13 : Arv Z h11 b2 k2 .long (3 : Int32) [(.long ((1 : Int64) <<< (b0v &&& 0x3f).toInt64)), (.long ((1 : Int64) <<< (b1v &&& 0x3f).toInt64)), (.long ((1 : Int64) <<< (b2v &&& 0x3f).toInt64))] (.long (0 : Int64)) := Arv.set Ar11 qk11 Sz11 Nn11 Ha11 Ga11 rfl W11 2 rfl (Nat.le_of_ble_eq_true rfl)
      have N11 := Fr.snoc X11 N8 gn2
      show Go p e below _ (T11.setTop (mkF m 193 #[.val (.int p0), .val (.int p1), .val (.int p2), .val (.long q3), .second, .val (.long q4), .second, .val (.int b0v), .val (.int b1v), .val (.int b2v), .val (.int (1 : Int32)), .val (.int (2 : Int32)), .val (.int (0 : Int32)), .val (.int po), .val (.int b0v), .val (.int (0 : Int32)), .val (.int (0 : Int32)), .val (.long (((1 : Int64) <<< (b0v &&& 0x3f).toInt64) - (1 : Int64))), .second, .unset, .unset, .unset, .unset, .unset, .unset, .unset, .unset, .unset, .unset, .unset] [(.ref b2)]))
      refine Go.st (fun _ => XS.astore X11.here hx rfl (hb hby at_193) rfl rfl (l' := #[.val (.int p0), .val (.int p1), .val (.int p2), .val (.long q3), .second, .val (.long q4), .second, .val (.int b0v), .val (.int b1v), .val (.int b2v), .val (.int (1 : Int32)), .val (.int (2 : Int32)), .val (.int (0 : Int32)), .val (.int po), .val (.int b0v), .val (.int (0 : Int32)), .val (.int (0 : Int32)), .val (.long (((1 : Int64) <<< (b0v &&& 0x3f).toInt64) - (1 : Int64))), .second, .val (.ref b2), .unset, .unset, .unset, .unset, .unset, .unset, .unset, .unset, .unset, .unset]) rfl) ?_
      show Go p e below _ (T11.setTop (mkF m 195 #[.val (.int p0), .val (.int p1), .val (.int p2), .val (.long q3), .second, .val (.long q4), .second, .val (.int b0v), .val (.int b1v), .val (.int b2v), .val (.int (1 : Int32)), .val (.int (2 : Int32)), .val (.int (0 : Int32)), .val (.int po), .val (.int b0v), .val (.int (0 : Int32)), .val (.int (0 : Int32)), .val (.long (((1 : Int64) <<< (b0v &&& 0x3f).toInt64) - (1 : Int64))), .second, .val (.ref b2), .unset, .unset, .unset, .unset, .unset, .unset, .unset, .unset, .unset, .unset] []))
      obtain ⟨T14, h14, X14, e14, E14, A14, D14, U14, st14⟩ := newO X11 hx hZ hown (hw _ (List.mem_of_getElem? (i := 1) rfl)) (hw _ (List.mem_of_getElem? (i := 2) rfl)) (hw _ (List.mem_of_getElem? (i := 3) rfl)) e11 (g := (mkF m 195 #[.val (.int p0), .val (.int p1), .val (.int p2), .val (.long q3), .second, .val (.long q4), .second, .val (.int b0v), .val (.int b1v), .val (.int b2v), .val (.int (1 : Int32)), .val (.int (2 : Int32)), .val (.int (0 : Int32)), .val (.int po), .val (.int b0v), .val (.int (0 : Int32)), .val (.int (0 : Int32)), .val (.long (((1 : Int64) <<< (b0v &&& 0x3f).toInt64) - (1 : Int64))), .second, .val (.ref b2), .unset, .unset, .unset, .unset, .unset, .unset, .unset, .unset, .unset, .unset] [])) rfl (hb hby at_195) (by decide) (by decide)
      obtain ⟨b14, g14⟩ : ∃ z, z = h11.size := ⟨_, rfl⟩
      rw [← g14] at A14 D14 U14 st14
      refine Go.st st14 ?_
      have gn14 : n0 ≤ b14 := oldGe O12 g14
      have ne15 : b2 ≠ b14 := Nat.ne_of_lt (Nat.lt_of_lt_of_le V_13.lt (Nat.le_of_eq g14.symm))
      have O16 : Old Z n0 h14 := O12.ext E14
      have V_17 : Arv Z h14 b2 k2 .long (3 : Int32) [(.long ((1 : Int64) <<< (b0v &&& 0x3f).toInt64)), (.long ((1 : Int64) <<< (b1v &&& 0x3f).toInt64)), (.long ((1 : Int64) <<< (b2v &&& 0x3f).toInt64))] (.long (0 : Int64)) := V_13.ext E14
      have F18 : Fld Z h14 b14 "com/example/gieres/gieres/model/TupleTable" "pages" "[[J" .null := D14 (Or.inl (hw _ (List.mem_of_getElem? (i := 13) rfl))) (ty := (.array (.array .long))) (by decide)
      have F19 : Fld Z h14 b14 "com/example/gieres/gieres/model/TupleTable" "slotBits" "I" (.int (0 : Int32)) := D14 (Or.inl (hw _ (List.mem_of_getElem? (i := 15) rfl))) (ty := .int) (by decide)
      have F20 : Fld Z h14 b14 "com/example/gieres/gieres/model/TupleTable" "slots" "[I" .null := D14 (Or.inl (hw _ (List.mem_of_getElem? (i := 18) rfl))) (ty := (.array .int)) (by decide)
      have F21 : Fld Z h14 b14 "com/example/gieres/gieres/model/TupleTable" "hashes" "[J" .null := D14 (Or.inl (hw _ (List.mem_of_getElem? (i := 20) rfl))) (ty := (.array .long)) (by decide)
      have F22 : Fld Z h14 b14 "com/example/gieres/gieres/model/TupleTable" "found" "[I" .null := D14 (Or.inl (hw _ (List.mem_of_getElem? (i := 22) rfl))) (ty := (.array .int)) (by decide)
      have F23 : Fld Z h14 b14 "com/example/gieres/gieres/model/TupleTable" "word" "[I" .null := D14 (Or.inr (hw _ (List.mem_of_getElem? (i := 24) rfl))) (ty := (.array .int)) (by decide)
      have F24 : Fld Z h14 b14 "com/example/gieres/gieres/model/TupleTable" "shift" "[I" .null := D14 (Or.inr (hw _ (List.mem_of_getElem? (i := 26) rfl))) (ty := (.array .int)) (by decide)
      have F25 : Fld Z h14 b14 "com/example/gieres/gieres/model/TupleTable" "mask" "[J" .null := D14 (Or.inr (hw _ (List.mem_of_getElem? (i := 28) rfl))) (ty := (.array .long)) (by decide)
      have F26 : Fld Z h14 b14 "com/example/gieres/gieres/model/TupleTable" "width" "I" (.int (0 : Int32)) := D14 (Or.inr (hw _ (List.mem_of_getElem? (i := 38) rfl))) (ty := .int) (by decide)
      show Go p e below _ (T14.setTop (mkF m 198 #[.val (.int p0), .val (.int p1), .val (.int p2), .val (.long q3), .second, .val (.long q4), .second, .val (.int b0v), .val (.int b1v), .val (.int b2v), .val (.int (1 : Int32)), .val (.int (2 : Int32)), .val (.int (0 : Int32)), .val (.int po), .val (.int b0v), .val (.int (0 : Int32)), .val (.int (0 : Int32)), .val (.long (((1 : Int64) <<< (b0v &&& 0x3f).toInt64) - (1 : Int64))), .second, .val (.ref b2), .unset, .unset, .unset, .unset, .unset, .unset, .unset, .unset, .unset, .unset] [(.ref b14)]))
      refine Go.st (fun _ => XS.dup X14.here hx rfl (hb hby at_198) rfl rfl) ?_
      refine Go.st (fun _ => XS.aload X14.here hx rfl (hb hby at_199) rfl rfl) ?_
      show Go p e below _ (T14.setTop (mkF m 201 #[.val (.int p0), .val (.int p1), .val (.int p2), .val (.long q3), .second, .val (.long q4), .second, .val (.int b0v), .val (.int b1v), .val (.int b2v), .val (.int (1 : Int32)), .val (.int (2 : Int32)), .val (.int (0 : Int32)), .val (.int po), .val (.int b0v), .val (.int (0 : Int32)), .val (.int (0 : Int32)), .val (.long (((1 : Int64) <<< (b0v &&& 0x3f).toInt64) - (1 : Int64))), .second, .val (.ref b2), .unset, .unset, .unset, .unset, .unset, .unset, .unset, .unset, .unset, .unset] [(.ref b2), (.ref b14), (.ref b14)]))
      refine goInit X14 hx hZ (y := (⟨"com/example/gieres/gieres/model/TupleTable", "<init>", "([J)V"⟩ : MethodName)) rfl hown (hw _ (List.mem_of_getElem? (i := 4) rfl)) (hw _ (List.mem_of_getElem? (i := 5) rfl)) (hw _ (List.mem_of_getElem? (i := 3) rfl)) (hw _ (List.mem_of_getElem? (i := 6) rfl)) (by decide) (a := b14) (argsL := [(.ref b2)]) (rest := [(.ref b14)]) e14 (rmTT l Z a0 hw [] b14 b2 k2 ((1 : Int64) <<< (b0v &&& 0x3f).toInt64) ((1 : Int64) <<< (b1v &&& 0x3f).toInt64) ((1 : Int64) <<< (b2v &&& 0x3f).toInt64) h14 n0 O16 A14 F18 F19 F20 F21 F22 F23 F24 F25 F26 gn14 V_17 ne15 (own_t32 L0L) (own_t32 L1L) (own_t32 L2L)) 1 (by decide) (by decide) (by decide) (by decide) (mkF m 201 #[.val (.int p0), .val (.int p1), .val (.int p2), .val (.long q3), .second, .val (.long q4), .second, .val (.int b0v), .val (.int b1v), .val (.int b2v), .val (.int (1 : Int32)), .val (.int (2 : Int32)), .val (.int (0 : Int32)), .val (.int po), .val (.int b0v), .val (.int (0 : Int32)), .val (.int (0 : Int32)), .val (.long (((1 : Int64) <<< (b0v &&& 0x3f).toInt64) - (1 : Int64))), .second, .val (.ref b2), .unset, .unset, .unset, .unset, .unset, .unset, .unset, .unset, .unset, .unset] [(.ref b2), (.ref b14), (.ref b14)]) rfl (by rw [hml]; rfl) (lenOf pd_2 rfl) rfl (hb hby at_201) (Nat.le_of_eq rfl) ?_
      intro v27 T27 L27 X27 hQ27
      obtain ⟨rfl, M27, K27, c0, c1, c2, w2, s2, wd, aw, as, am, kw, ks, km, B0, B1, B2, LY, Gw, Vw, Gs, Vs, Gm, Vm, Gd⟩ := hQ27
      have N27 := Fr.app N11 M27
      have O28 : Old Z n0 T27.heap := O16.keep K27 (allS gn14 all0)
      have V_29 : Arv Z T27.heap b2 k2 .long (3 : Int32) [(.long ((1 : Int64) <<< (b0v &&& 0x3f).toInt64)), (.long ((1 : Int64) <<< (b1v &&& 0x3f).toInt64)), (.long ((1 : Int64) <<< (b2v &&& 0x3f).toInt64))] (.long (0 : Int64)) := V_17.keep K27 (ninS ne15 nin0)
      have E_30 : Exa Z T27.heap b14 "com/example/gieres/gieres/model/TupleTable" := A14.keep K27
      obtain rfl : b0v = c0 := own_bits_eq L0L B0
      obtain rfl : b1v = c1 := own_bits_eq L1L B1
      obtain rfl : b2v = c2 := own_bits_eq L2L B2
      obtain ⟨rfl, rfl, rfl⟩ := (LY.resolve_left (fun q => q.1 hc1)).2
      have PL := own_pl0 L0L
      show Go p e below _ (T27.setTop (mkF m 204 #[.val (.int p0), .val (.int p1), .val (.int p2), .val (.long q3), .second, .val (.long q4), .second, .val (.int b0v), .val (.int b1v), .val (.int b2v), .val (.int (1 : Int32)), .val (.int (2 : Int32)), .val (.int (0 : Int32)), .val (.int po), .val (.int b0v), .val (.int (0 : Int32)), .val (.int (0 : Int32)), .val (.long (((1 : Int64) <<< (b0v &&& 0x3f).toInt64) - (1 : Int64))), .second, .val (.ref b2), .unset, .unset, .unset, .unset, .unset, .unset, .unset, .unset, .unset, .unset] [(.ref b14)]))
      refine Go.st (fun _ => XS.astore X27.here hx rfl (hb hby at_204) rfl rfl (l' := #[.val (.int p0), .val (.int p1), .val (.int p2), .val (.long q3), .second, .val (.long q4), .second, .val (.int b0v), .val (.int b1v), .val (.int b2v), .val (.int (1 : Int32)), .val (.int (2 : Int32)), .val (.int (0 : Int32)), .val (.int po), .val (.int b0v), .val (.int (0 : Int32)), .val (.int (0 : Int32)), .val (.long (((1 : Int64) <<< (b0v &&& 0x3f).toInt64) - (1 : Int64))), .second, .val (.ref b2), .val (.ref b14), .unset, .unset, .unset, .unset, .unset, .unset, .unset, .unset, .unset]) rfl) ?_
      refine Go.st (fun _ => XS.iload X27.here hx rfl (hb hby at_206) rfl) ?_
      refine Go.st (fun _ => XS.ifNo X27.here hx rfl (hb hby at_208) rfl ((if0 _ _).trans (feq (by decide : ¬ ((1 : Int32) = (0 : Int32)))).1)) ?_
      refine Go.st (fun _ => XS.iconst X27.here hx rfl (hb hby at_211)) ?_
      show Go p e below _ (T27.setTop (mkF m 212 #[.val (.int p0), .val (.int p1), .val (.int p2), .val (.long q3), .second, .val (.long q4), .second, .val (.int b0v), .val (.int b1v), .val (.int b2v), .val (.int (1 : Int32)), .val (.int (2 : Int32)), .val (.int (0 : Int32)), .val (.int po), .val (.int b0v), .val (.int (0 : Int32)), .val (.int (0 : Int32)), .val (.long (((1 : Int64) <<< (b0v &&& 0x3f).toInt64) - (1 : Int64))), .second, .val (.ref b2), .val (.ref b14), .unset, .unset, .unset, .unset, .unset, .unset, .unset, .unset, .unset] [(.int (4 : Int32))]))
      obtain ⟨T31, h31, k31, X31, e31, E31, A31, st31⟩ := newP X27 hx hZ (hw _ (List.mem_of_getElem? (i := 0) rfl)) rfl (g := (mkF m 212 #[.val (.int p0), .val (.int p1), .val (.int p2), .val (.long q3), .second, .val (.long q4), .second, .val (.int b0v), .val (.int b1v), .val (.int b2v), .val (.int (1 : Int32)), .val (.int (2 : Int32)), .val (.int (0 : Int32)), .val (.int po), .val (.int b0v), .val (.int (0 : Int32)), .val (.int (0 : Int32)), .val (.long (((1 : Int64) <<< (b0v &&& 0x3f).toInt64) - (1 : Int64))), .second, .val (.ref b2), .val (.ref b14), .unset, .unset, .unset, .unset, .unset, .unset, .unset, .unset, .unset] [(.int (4 : Int32))])) rfl (hb hby at_212) rfl (by decide) (cap := 4) (by decide) (by decide) (by decide) (by decide)
      obtain ⟨b31, g31⟩ : ∃ z, z = T27.heap.size := ⟨_, rfl⟩
      rw [← g31] at A31 st31
      refine Go.st st31 ?_
      have gn31 : n0 ≤ b31 := oldGe O28 g31
      have ne32 : b14 ≠ b31 := Nat.ne_of_lt (Nat.lt_of_lt_of_le E_30.lt (Nat.le_of_eq g31.symm))
      have ne33 : aw ≠ b31 := Nat.ne_of_lt (Nat.lt_of_lt_of_le Vw.lt (Nat.le_of_eq g31.symm))
      have ne34 : as ≠ b31 := Nat.ne_of_lt (Nat.lt_of_lt_of_le Vs.lt (Nat.le_of_eq g31.symm))
      have ne35 : am ≠ b31 := Nat.ne_of_lt (Nat.lt_of_lt_of_le Vm.lt (Nat.le_of_eq g31.symm))
      have O36 : Old Z n0 h31 := O28.ext E31
      have E_37 : Exa Z h31 b14 "com/example/gieres/gieres/model/TupleTable" := E_30.ext E31
      have F38 : Fld Z h31 b14 "com/example/gieres/gieres/model/TupleTable" "word" "[I" (.ref aw) := Gw.ext E31
      have V_39 : Arv Z h31 aw kw .int (3 : Int32) [(.int (0 : Int32)), (.int (0 : Int32)), (.int (1 : Int32))] (.int (0 : Int32)) := Vw.ext E31
      have F40 : Fld Z h31 b14 "com/example/gieres/gieres/model/TupleTable" "shift" "[I" (.ref as) := Gs.ext E31
      have V_41 : Arv Z h31 as ks .int (3 : Int32) [(.int (0 : Int32)), (.int b0v), (.int (0 : Int32))] (.int (0 : Int32)) := Vs.ext E31
      have F42 : Fld Z h31 b14 "com/example/gieres/gieres/model/TupleTable" "mask" "[J" (.ref am) := Gm.ext E31
      have V_43 : Arv Z h31 am km .long (3 : Int32) [(.long (own_mask b0v)), (.long (own_mask b1v)), (.long (own_mask b2v))] (.long (0 : Int64)) := Vm.ext E31
      have F44 : Fld Z h31 b14 "com/example/gieres/gieres/model/TupleTable" "width" "I" (.int (2 : Int32)) := Gd.ext E31
      have V_45 : Arv Z h31 b31 k31 .long (4 : Int32) [(.long (0 : Int64)), (.long (0 : Int64)), (.long (0 : Int64)), (.long (0 : Int64))] (.long (0 : Int64)) := (Arv.new A31 (by decide)).pad (pad_rep [] (.long (0 : Int64)) 4)
      show Go p e below _ (T31.setTop (mkF m 214 #[.val (.int p0), .val (.int p1), .val (.int p2), .val (.long q3), .second, .val (.long q4), .second, .val (.int b0v), .val (.int b1v), .val (.int b2v), .val (.int (1 : Int32)), .val (.int (2 : Int32)), .val (.int (0 : Int32)), .val (.int po), .val (.int b0v), .val (.int (0 : Int32)), .val (.int (0 : Int32)), .val (.long (((1 : Int64) <<< (b0v &&& 0x3f).toInt64) - (1 : Int64))), .second, .val (.ref b2), .val (.ref b14), .unset, .unset, .unset, .unset, .unset, .unset, .unset, .unset, .unset] [(.ref b31)]))
      refine Go.st (fun _ => XS.dup X31.here hx rfl (hb hby at_214) rfl rfl) ?_
      refine Go.st (fun _ => XS.iconst X31.here hx rfl (hb hby at_215)) ?_
      refine Go.st (fun _ => XS.lloadN X31.here hx rfl (hb hby at_216) rfl) ?_
      show Go p e below _ (T31.setTop (mkF m 217 #[.val (.int p0), .val (.int p1), .val (.int p2), .val (.long q3), .second, .val (.long q4), .second, .val (.int b0v), .val (.int b1v), .val (.int b2v), .val (.int (1 : Int32)), .val (.int (2 : Int32)), .val (.int (0 : Int32)), .val (.int po), .val (.int b0v), .val (.int (0 : Int32)), .val (.int (0 : Int32)), .val (.long (((1 : Int64) <<< (b0v &&& 0x3f).toInt64) - (1 : Int64))), .second, .val (.ref b2), .val (.ref b14), .unset, .unset, .unset, .unset, .unset, .unset, .unset, .unset, .unset] [(.long q3), (.int (0 : Int32)), (.ref b31), (.ref b31)]))
      obtain ⟨cl46, Ar46, qk46, Sz46, Nn46, Ha46, Ga46⟩ := id V_45
      have hin46 : ¬ ((0 : Int32) < 0 ∨ cl46.slots.size ≤ ((0 : Int32) : Int32).toNatClampNeg) := inb_of Sz46 ⟨by decide, by decide⟩
      obtain ⟨T46, h46, X46, e46, W46, st46⟩ := stJ X31 hx hZ e31 Ar46 (j := (0 : Int32)) hin46 (g := (mkF m 217 #[.val (.int p0), .val (.int p1), .val (.int p2), .val (.long q3), .second, .val (.long q4), .second, .val (.int b0v), .val (.int b1v), .val (.int b2v), .val (.int (1 : Int32)), .val (.int (2 : Int32)), .val (.int (0 : Int32)), .val (.int po), .val (.int b0v), .val (.int (0 : Int32)), .val (.int (0 : Int32)), .val (.long (((1 : Int64) <<< (b0v &&& 0x3f).toInt64) - (1 : Int64))), .second, .val (.ref b2), .val (.ref b14), .unset, .unset, .unset, .unset, .unset, .unset, .unset, .unset, .unset] [(.long q3), (.int (0 : Int32)), (.ref b31), (.ref b31)])) rfl rfl (hb hby at_217)
      refine Go.st st46 ?_
      have O47 : Old Z n0 h46 := O36.wr W46 gn31
      have E_48 : Exa Z h46 b14 "com/example/gieres/gieres/model/TupleTable" := E_37.wr W46
      have F49 : Fld Z h46 b14 "com/example/gieres/gieres/model/TupleTable" "word" "[I" (.ref aw) := F38.other W46 (Or.inl ne32)
      have V_50 : Arv Z h46 aw kw .int (3 : Int32) [(.int (0 : Int32)), (.int (0 : Int32)), (.int (1 : Int32))] (.int (0 : Int32)) := V_39.other W46 ne33
      have F51 : Fld Z h46 b14 "com/example/gieres/gieres/model/TupleTable" "shift" "[I" (.ref as) := F40.other W46 (Or.inl ne32)
      have V_52 : Arv Z h46 as ks .int (3 : Int32) [(.int (0 : Int32)), (.int b0v), (.int (0 : Int32))] (.int (0 : Int32)) := V_41.other W46 ne34
      have F53 : Fld Z h46 b14 "com/example/gieres/gieres/model/TupleTable" "mask" "[J" (.ref am) := F42.other W46 (Or.inl ne32)
      have V_54 : Arv Z h46 am km .long (3 : Int32) [(.long (own_mask b0v)), (.long (own_mask b1v)), (.long (own_mask b2v))] (.long (0 : Int64)) := V_43.other W46 ne35
      have F55 : Fld Z h46 b14 "com/example/gieres/gieres/model/TupleTable" "width" "I" (.int (2 : Int32)) := F44.other W46 (Or.inl ne32)
      have V_56 : Arv Z h46 b31 k31 .long (4 : Int32) [(.long q3), (.long (0 : Int64)), (.long (0 : Int64)), (.long (0 : Int64))] (.long (0 : Int64)) := Arv.set Ar46 qk46 Sz46 Nn46 Ha46 Ga46 rfl W46 0 rfl (Nat.le_of_ble_eq_true rfl)
      have N46 := Fr.snoc X46 N27 gn31
      show Go p e below _ (T46.setTop (mkF m 218 #[.val (.int p0), .val (.int p1), .val (.int p2), .val (.long q3), .second, .val (.long q4), .second, .val (.int b0v), .val (.int b1v), .val (.int b2v), .val (.int (1 : Int32)), .val (.int (2 : Int32)), .val (.int (0 : Int32)), .val (.int po), .val (.int b0v), .val (.int (0 : Int32)), .val (.int (0 : Int32)), .val (.long (((1 : Int64) <<< (b0v &&& 0x3f).toInt64) - (1 : Int64))), .second, .val (.ref b2), .val (.ref b14), .unset, .unset, .unset, .unset, .unset, .unset, .unset, .unset, .unset] [(.ref b31)]))
      refine Go.st (fun _ => XS.dup X46.here hx rfl (hb hby at_218) rfl rfl) ?_
      refine Go.st (fun _ => XS.iconst X46.here hx rfl (hb hby at_219)) ?_
      refine Go.st (fun _ => XS.lload X46.here hx rfl (hb hby at_220) rfl) ?_
      show Go p e below _ (T46.setTop (mkF m 222 #[.val (.int p0), .val (.int p1), .val (.int p2), .val (.long q3), .second, .val (.long q4), .second, .val (.int b0v), .val (.int b1v), .val (.int b2v), .val (.int (1 : Int32)), .val (.int (2 : Int32)), .val (.int (0 : Int32)), .val (.int po), .val (.int b0v), .val (.int (0 : Int32)), .val (.int (0 : Int32)), .val (.long (((1 : Int64) <<< (b0v &&& 0x3f).toInt64) - (1 : Int64))), .second, .val (.ref b2), .val (.ref b14), .unset, .unset, .unset, .unset, .unset, .unset, .unset, .unset, .unset] [(.long q4), (.int (1 : Int32)), (.ref b31), (.ref b31)]))
      obtain ⟨cl57, Ar57, qk57, Sz57, Nn57, Ha57, Ga57⟩ := id V_56
      have hin57 : ¬ ((1 : Int32) < 0 ∨ cl57.slots.size ≤ ((1 : Int32) : Int32).toNatClampNeg) := inb_of Sz57 ⟨by decide, by decide⟩
      obtain ⟨T57, h57, X57, e57, W57, st57⟩ := stJ X46 hx hZ e46 Ar57 (j := (1 : Int32)) hin57 (g := (mkF m 222 #[.val (.int p0), .val (.int p1), .val (.int p2), .val (.long q3), .second, .val (.long q4), .second, .val (.int b0v), .val (.int b1v), .val (.int b2v), .val (.int (1 : Int32)), .val (.int (2 : Int32)), .val (.int (0 : Int32)), .val (.int po), .val (.int b0v), .val (.int (0 : Int32)), .val (.int (0 : Int32)), .val (.long (((1 : Int64) <<< (b0v &&& 0x3f).toInt64) - (1 : Int64))), .second, .val (.ref b2), .val (.ref b14), .unset, .unset, .unset, .unset, .unset, .unset, .unset, .unset, .unset] [(.long q4), (.int (1 : Int32)), (.ref b31), (.ref b31)])) rfl rfl (hb hby at_222)
      refine Go.st st57 ?_
      have O58 : Old Z n0 h57 := O47.wr W57 gn31
      have E_59 : Exa Z h57 b14 "com/example/gieres/gieres/model/TupleTable" := E_48.wr W57
      have F60 : Fld Z h57 b14 "com/example/gieres/gieres/model/TupleTable" "word" "[I" (.ref aw) := F49.other W57 (Or.inl ne32)
      have V_61 : Arv Z h57 aw kw .int (3 : Int32) [(.int (0 : Int32)), (.int (0 : Int32)), (.int (1 : Int32))] (.int (0 : Int32)) := V_50.other W57 ne33
      have F62 : Fld Z h57 b14 "com/example/gieres/gieres/model/TupleTable" "shift" "[I" (.ref as) := F51.other W57 (Or.inl ne32)
      have V_63 : Arv Z h57 as ks .int (3 : Int32) [(.int (0 : Int32)), (.int b0v), (.int (0 : Int32))] (.int (0 : Int32)) := V_52.other W57 ne34
      have F64 : Fld Z h57 b14 "com/example/gieres/gieres/model/TupleTable" "mask" "[J" (.ref am) := F53.other W57 (Or.inl ne32)
      have V_65 : Arv Z h57 am km .long (3 : Int32) [(.long (own_mask b0v)), (.long (own_mask b1v)), (.long (own_mask b2v))] (.long (0 : Int64)) := V_54.other W57 ne35
      have F66 : Fld Z h57 b14 "com/example/gieres/gieres/model/TupleTable" "width" "I" (.int (2 : Int32)) := F55.other W57 (Or.inl ne32)
      have V_67 : Arv Z h57 b31 k31 .long (4 : Int32) [(.long q3), (.long q4), (.long (0 : Int64)), (.long (0 : Int64))] (.long (0 : Int64)) := Arv.set Ar57 qk57 Sz57 Nn57 Ha57 Ga57 rfl W57 1 rfl (Nat.le_of_ble_eq_true rfl)
      have N57 := Fr.snoc X57 N46 gn31
      show Go p e below _ (T57.setTop (mkF m 223 #[.val (.int p0), .val (.int p1), .val (.int p2), .val (.long q3), .second, .val (.long q4), .second, .val (.int b0v), .val (.int b1v), .val (.int b2v), .val (.int (1 : Int32)), .val (.int (2 : Int32)), .val (.int (0 : Int32)), .val (.int po), .val (.int b0v), .val (.int (0 : Int32)), .val (.int (0 : Int32)), .val (.long (((1 : Int64) <<< (b0v &&& 0x3f).toInt64) - (1 : Int64))), .second, .val (.ref b2), .val (.ref b14), .unset, .unset, .unset, .unset, .unset, .unset, .unset, .unset, .unset] [(.ref b31)]))
      refine Go.st (fun _ => XS.dup X57.here hx rfl (hb hby at_223) rfl rfl) ?_
      refine Go.st (fun _ => XS.iconst X57.here hx rfl (hb hby at_224)) ?_
      refine Go.st (fun _ => XS.lload X57.here hx rfl (hb hby at_225) rfl) ?_
      show Go p e below _ (T57.setTop (mkF m 227 #[.val (.int p0), .val (.int p1), .val (.int p2), .val (.long q3), .second, .val (.long q4), .second, .val (.int b0v), .val (.int b1v), .val (.int b2v), .val (.int (1 : Int32)), .val (.int (2 : Int32)), .val (.int (0 : Int32)), .val (.int po), .val (.int b0v), .val (.int (0 : Int32)), .val (.int (0 : Int32)), .val (.long (((1 : Int64) <<< (b0v &&& 0x3f).toInt64) - (1 : Int64))), .second, .val (.ref b2), .val (.ref b14), .unset, .unset, .unset, .unset, .unset, .unset, .unset, .unset, .unset] [(.long q4), (.int (2 : Int32)), (.ref b31), (.ref b31)]))
      refine Go.st (fun _ => X57.ldc2Long hx hown (mvT hZ (hw _ (List.mem_of_getElem? (i := 54) rfl))) (g := (mkF m 227 #[.val (.int p0), .val (.int p1), .val (.int p2), .val (.long q3), .second, .val (.long q4), .second, .val (.int b0v), .val (.int b1v), .val (.int b2v), .val (.int (1 : Int32)), .val (.int (2 : Int32)), .val (.int (0 : Int32)), .val (.int po), .val (.int b0v), .val (.int (0 : Int32)), .val (.int (0 : Int32)), .val (.long (((1 : Int64) <<< (b0v &&& 0x3f).toInt64) - (1 : Int64))), .second, .val (.ref b2), .val (.ref b14), .unset, .unset, .unset, .unset, .unset, .unset, .unset, .unset, .unset] [(.long q4), (.int (2 : Int32)), (.ref b31), (.ref b31)])) rfl (hb hby at_227) _) ?_
      show Go p e below _ (T57.setTop (mkF m 230 #[.val (.int p0), .val (.int p1), .val (.int p2), .val (.long q3), .second, .val (.long q4), .second, .val (.int b0v), .val (.int b1v), .val (.int b2v), .val (.int (1 : Int32)), .val (.int (2 : Int32)), .val (.int (0 : Int32)), .val (.int po), .val (.int b0v), .val (.int (0 : Int32)), .val (.int (0 : Int32)), .val (.long (((1 : Int64) <<< (b0v &&& 0x3f).toInt64) - (1 : Int64))), .second, .val (.ref b2), .val (.ref b14), .unset, .unset, .unset, .unset, .unset, .unset, .unset, .unset, .unset] [(.long (-1 : Int64)), (.long q4), (.int (2 : Int32)), (.ref b31), (.ref b31)]))
      refine Go.st (fun _ => XS.lxor X57.here hx rfl (hb hby at_230) rfl) ?_
      show Go p e below _ (T57.setTop (mkF m 231 #[.val (.int p0), .val (.int p1), .val (.int p2), .val (.long q3), .second, .val (.long q4), .second, .val (.int b0v), .val (.int b1v), .val (.int b2v), .val (.int (1 : Int32)), .val (.int (2 : Int32)), .val (.int (0 : Int32)), .val (.int po), .val (.int b0v), .val (.int (0 : Int32)), .val (.int (0 : Int32)), .val (.long (((1 : Int64) <<< (b0v &&& 0x3f).toInt64) - (1 : Int64))), .second, .val (.ref b2), .val (.ref b14), .unset, .unset, .unset, .unset, .unset, .unset, .unset, .unset, .unset] [(.long (q4 ^^^ (-1 : Int64))), (.int (2 : Int32)), (.ref b31), (.ref b31)]))
      obtain ⟨cl68, Ar68, qk68, Sz68, Nn68, Ha68, Ga68⟩ := id V_67
      have hin68 : ¬ ((2 : Int32) < 0 ∨ cl68.slots.size ≤ ((2 : Int32) : Int32).toNatClampNeg) := inb_of Sz68 ⟨by decide, by decide⟩
      obtain ⟨T68, h68, X68, e68, W68, st68⟩ := stJ X57 hx hZ e57 Ar68 (j := (2 : Int32)) hin68 (g := (mkF m 231 #[.val (.int p0), .val (.int p1), .val (.int p2), .val (.long q3), .second, .val (.long q4), .second, .val (.int b0v), .val (.int b1v), .val (.int b2v), .val (.int (1 : Int32)), .val (.int (2 : Int32)), .val (.int (0 : Int32)), .val (.int po), .val (.int b0v), .val (.int (0 : Int32)), .val (.int (0 : Int32)), .val (.long (((1 : Int64) <<< (b0v &&& 0x3f).toInt64) - (1 : Int64))), .second, .val (.ref b2), .val (.ref b14), .unset, .unset, .unset, .unset, .unset, .unset, .unset, .unset, .unset] [(.long (q4 ^^^ (-1 : Int64))), (.int (2 : Int32)), (.ref b31), (.ref b31)])) rfl rfl (hb hby at_231)
      refine Go.st st68 ?_
      have O69 : Old Z n0 h68 := O58.wr W68 gn31
      have E_70 : Exa Z h68 b14 "com/example/gieres/gieres/model/TupleTable" := E_59.wr W68
      have F71 : Fld Z h68 b14 "com/example/gieres/gieres/model/TupleTable" "word" "[I" (.ref aw) := F60.other W68 (Or.inl ne32)
      have V_72 : Arv Z h68 aw kw .int (3 : Int32) [(.int (0 : Int32)), (.int (0 : Int32)), (.int (1 : Int32))] (.int (0 : Int32)) := V_61.other W68 ne33
      have F73 : Fld Z h68 b14 "com/example/gieres/gieres/model/TupleTable" "shift" "[I" (.ref as) := F62.other W68 (Or.inl ne32)
      have V_74 : Arv Z h68 as ks .int (3 : Int32) [(.int (0 : Int32)), (.int b0v), (.int (0 : Int32))] (.int (0 : Int32)) := V_63.other W68 ne34
      have F75 : Fld Z h68 b14 "com/example/gieres/gieres/model/TupleTable" "mask" "[J" (.ref am) := F64.other W68 (Or.inl ne32)
      have V_76 : Arv Z h68 am km .long (3 : Int32) [(.long (own_mask b0v)), (.long (own_mask b1v)), (.long (own_mask b2v))] (.long (0 : Int64)) := V_65.other W68 ne35
      have F77 : Fld Z h68 b14 "com/example/gieres/gieres/model/TupleTable" "width" "I" (.int (2 : Int32)) := F66.other W68 (Or.inl ne32)
      have V_78 : Arv Z h68 b31 k31 .long (4 : Int32) [(.long q3), (.long q4), (.long (q4 ^^^ (-1 : Int64))), (.long (0 : Int64))] (.long (0 : Int64)) := Arv.set Ar68 qk68 Sz68 Nn68 Ha68 Ga68 rfl W68 2 rfl (Nat.le_of_ble_eq_true rfl)
      have N68 := Fr.snoc X68 N57 gn31
      show Go p e below _ (T68.setTop (mkF m 232 #[.val (.int p0), .val (.int p1), .val (.int p2), .val (.long q3), .second, .val (.long q4), .second, .val (.int b0v), .val (.int b1v), .val (.int b2v), .val (.int (1 : Int32)), .val (.int (2 : Int32)), .val (.int (0 : Int32)), .val (.int po), .val (.int b0v), .val (.int (0 : Int32)), .val (.int (0 : Int32)), .val (.long (((1 : Int64) <<< (b0v &&& 0x3f).toInt64) - (1 : Int64))), .second, .val (.ref b2), .val (.ref b14), .unset, .unset, .unset, .unset, .unset, .unset, .unset, .unset, .unset] [(.ref b31)]))
      refine Go.st (fun _ => XS.dup X68.here hx rfl (hb hby at_232) rfl rfl) ?_
      refine Go.st (fun _ => XS.iconst X68.here hx rfl (hb hby at_233)) ?_
      refine Go.st (fun _ => XS.lloadN X68.here hx rfl (hb hby at_234) rfl) ?_
      show Go p e below _ (T68.setTop (mkF m 235 #[.val (.int p0), .val (.int p1), .val (.int p2), .val (.long q3), .second, .val (.long q4), .second, .val (.int b0v), .val (.int b1v), .val (.int b2v), .val (.int (1 : Int32)), .val (.int (2 : Int32)), .val (.int (0 : Int32)), .val (.int po), .val (.int b0v), .val (.int (0 : Int32)), .val (.int (0 : Int32)), .val (.long (((1 : Int64) <<< (b0v &&& 0x3f).toInt64) - (1 : Int64))), .second, .val (.ref b2), .val (.ref b14), .unset, .unset, .unset, .unset, .unset, .unset, .unset, .unset, .unset] [(.long q3), (.int (3 : Int32)), (.ref b31), (.ref b31)]))
      refine Go.st (fun _ => X68.ldc2Long hx hown (mvT hZ (hw _ (List.mem_of_getElem? (i := 54) rfl))) (g := (mkF m 235 #[.val (.int p0), .val (.int p1), .val (.int p2), .val (.long q3), .second, .val (.long q4), .second, .val (.int b0v), .val (.int b1v), .val (.int b2v), .val (.int (1 : Int32)), .val (.int (2 : Int32)), .val (.int (0 : Int32)), .val (.int po), .val (.int b0v), .val (.int (0 : Int32)), .val (.int (0 : Int32)), .val (.long (((1 : Int64) <<< (b0v &&& 0x3f).toInt64) - (1 : Int64))), .second, .val (.ref b2), .val (.ref b14), .unset, .unset, .unset, .unset, .unset, .unset, .unset, .unset, .unset] [(.long q3), (.int (3 : Int32)), (.ref b31), (.ref b31)])) rfl (hb hby at_235) _) ?_
      show Go p e below _ (T68.setTop (mkF m 238 #[.val (.int p0), .val (.int p1), .val (.int p2), .val (.long q3), .second, .val (.long q4), .second, .val (.int b0v), .val (.int b1v), .val (.int b2v), .val (.int (1 : Int32)), .val (.int (2 : Int32)), .val (.int (0 : Int32)), .val (.int po), .val (.int b0v), .val (.int (0 : Int32)), .val (.int (0 : Int32)), .val (.long (((1 : Int64) <<< (b0v &&& 0x3f).toInt64) - (1 : Int64))), .second, .val (.ref b2), .val (.ref b14), .unset, .unset, .unset, .unset, .unset, .unset, .unset, .unset, .unset] [(.long (-1 : Int64)), (.long q3), (.int (3 : Int32)), (.ref b31), (.ref b31)]))
      refine Go.st (fun _ => XS.lxor X68.here hx rfl (hb hby at_238) rfl) ?_
      show Go p e below _ (T68.setTop (mkF m 239 #[.val (.int p0), .val (.int p1), .val (.int p2), .val (.long q3), .second, .val (.long q4), .second, .val (.int b0v), .val (.int b1v), .val (.int b2v), .val (.int (1 : Int32)), .val (.int (2 : Int32)), .val (.int (0 : Int32)), .val (.int po), .val (.int b0v), .val (.int (0 : Int32)), .val (.int (0 : Int32)), .val (.long (((1 : Int64) <<< (b0v &&& 0x3f).toInt64) - (1 : Int64))), .second, .val (.ref b2), .val (.ref b14), .unset, .unset, .unset, .unset, .unset, .unset, .unset, .unset, .unset] [(.long (q3 ^^^ (-1 : Int64))), (.int (3 : Int32)), (.ref b31), (.ref b31)]))
      obtain ⟨cl79, Ar79, qk79, Sz79, Nn79, Ha79, Ga79⟩ := id V_78
      have hin79 : ¬ ((3 : Int32) < 0 ∨ cl79.slots.size ≤ ((3 : Int32) : Int32).toNatClampNeg) := inb_of Sz79 ⟨by decide, by decide⟩
      obtain ⟨T79, h79, X79, e79, W79, st79⟩ := stJ X68 hx hZ e68 Ar79 (j := (3 : Int32)) hin79 (g := (mkF m 239 #[.val (.int p0), .val (.int p1), .val (.int p2), .val (.long q3), .second, .val (.long q4), .second, .val (.int b0v), .val (.int b1v), .val (.int b2v), .val (.int (1 : Int32)), .val (.int (2 : Int32)), .val (.int (0 : Int32)), .val (.int po), .val (.int b0v), .val (.int (0 : Int32)), .val (.int (0 : Int32)), .val (.long (((1 : Int64) <<< (b0v &&& 0x3f).toInt64) - (1 : Int64))), .second, .val (.ref b2), .val (.ref b14), .unset, .unset, .unset, .unset, .unset, .unset, .unset, .unset, .unset] [(.long (q3 ^^^ (-1 : Int64))), (.int (3 : Int32)), (.ref b31), (.ref b31)])) rfl rfl (hb hby at_239)
      refine Go.st st79 ?_
      have O80 : Old Z n0 h79 := O69.wr W79 gn31
      have E_81 : Exa Z h79 b14 "com/example/gieres/gieres/model/TupleTable" := E_70.wr W79
      have F82 : Fld Z h79 b14 "com/example/gieres/gieres/model/TupleTable" "word" "[I" (.ref aw) := F71.other W79 (Or.inl ne32)
      have V_83 : Arv Z h79 aw kw .int (3 : Int32) [(.int (0 : Int32)), (.int (0 : Int32)), (.int (1 : Int32))] (.int (0 : Int32)) := V_72.other W79 ne33
      have F84 : Fld Z h79 b14 "com/example/gieres/gieres/model/TupleTable" "shift" "[I" (.ref as) := F73.other W79 (Or.inl ne32)
      have V_85 : Arv Z h79 as ks .int (3 : Int32) [(.int (0 : Int32)), (.int b0v), (.int (0 : Int32))] (.int (0 : Int32)) := V_74.other W79 ne34
      have F86 : Fld Z h79 b14 "com/example/gieres/gieres/model/TupleTable" "mask" "[J" (.ref am) := F75.other W79 (Or.inl ne32)
      have V_87 : Arv Z h79 am km .long (3 : Int32) [(.long (own_mask b0v)), (.long (own_mask b1v)), (.long (own_mask b2v))] (.long (0 : Int64)) := V_76.other W79 ne35
      have F88 : Fld Z h79 b14 "com/example/gieres/gieres/model/TupleTable" "width" "I" (.int (2 : Int32)) := F77.other W79 (Or.inl ne32)
      have V_89 : Arv Z h79 b31 k31 .long (4 : Int32) [(.long q3), (.long q4), (.long (q4 ^^^ (-1 : Int64))), (.long (q3 ^^^ (-1 : Int64)))] (.long (0 : Int64)) := Arv.set Ar79 qk79 Sz79 Nn79 Ha79 Ga79 rfl W79 3 rfl (Nat.le_of_ble_eq_true rfl)
      have N79 := Fr.snoc X79 N68 gn31
      show Go p e below _ (T79.setTop (mkF m 240 #[.val (.int p0), .val (.int p1), .val (.int p2), .val (.long q3), .second, .val (.long q4), .second, .val (.int b0v), .val (.int b1v), .val (.int b2v), .val (.int (1 : Int32)), .val (.int (2 : Int32)), .val (.int (0 : Int32)), .val (.int po), .val (.int b0v), .val (.int (0 : Int32)), .val (.int (0 : Int32)), .val (.long (((1 : Int64) <<< (b0v &&& 0x3f).toInt64) - (1 : Int64))), .second, .val (.ref b2), .val (.ref b14), .unset, .unset, .unset, .unset, .unset, .unset, .unset, .unset, .unset] [(.ref b31)]))
      refine Go.st (fun _ => XS.goto X79.here hx rfl (pc0 := 240) (pc' := 255) rfl (hb hby at_240) (by decide) (by decide)) ?_
      refine Go.st (fun _ => XS.astore X79.here hx rfl (hb hby at_255) rfl rfl (l' := #[.val (.int p0), .val (.int p1), .val (.int p2), .val (.long q3), .second, .val (.long q4), .second, .val (.int b0v), .val (.int b1v), .val (.int b2v), .val (.int (1 : Int32)), .val (.int (2 : Int32)), .val (.int (0 : Int32)), .val (.int po), .val (.int b0v), .val (.int (0 : Int32)), .val (.int (0 : Int32)), .val (.long (((1 : Int64) <<< (b0v &&& 0x3f).toInt64) - (1 : Int64))), .second, .val (.ref b2), .val (.ref b14), .val (.ref b31), .unset, .unset, .unset, .unset, .unset, .unset, .unset, .unset]) rfl) ?_
      refine Go.st (fun _ => XS.iload X79.here hx rfl (hb hby at_257) rfl) ?_
      refine Go.st (fun _ => XS.ifNo X79.here hx rfl (hb hby at_259) rfl ((if0 _ _).trans (feq (by decide : ¬ ((1 : Int32) = (0 : Int32)))).1)) ?_
      refine Go.st (fun _ => XS.iconst X79.here hx rfl (hb hby at_262)) ?_
      show Go p e below _ (T79.setTop (mkF m 263 #[.val (.int p0), .val (.int p1), .val (.int p2), .val (.long q3), .second, .val (.long q4), .second, .val (.int b0v), .val (.int b1v), .val (.int b2v), .val (.int (1 : Int32)), .val (.int (2 : Int32)), .val (.int (0 : Int32)), .val (.int po), .val (.int b0v), .val (.int (0 : Int32)), .val (.int (0 : Int32)), .val (.long (((1 : Int64) <<< (b0v &&& 0x3f).toInt64) - (1 : Int64))), .second, .val (.ref b2), .val (.ref b14), .val (.ref b31), .unset, .unset, .unset, .unset, .unset, .unset, .unset, .unset] [(.int (4 : Int32))]))
      obtain ⟨T90, h90, k90, X90, e90, E90, A90, st90⟩ := newP X79 hx hZ (hw _ (List.mem_of_getElem? (i := 0) rfl)) e79 (g := (mkF m 263 #[.val (.int p0), .val (.int p1), .val (.int p2), .val (.long q3), .second, .val (.long q4), .second, .val (.int b0v), .val (.int b1v), .val (.int b2v), .val (.int (1 : Int32)), .val (.int (2 : Int32)), .val (.int (0 : Int32)), .val (.int po), .val (.int b0v), .val (.int (0 : Int32)), .val (.int (0 : Int32)), .val (.long (((1 : Int64) <<< (b0v &&& 0x3f).toInt64) - (1 : Int64))), .second, .val (.ref b2), .val (.ref b14), .val (.ref b31), .unset, .unset, .unset, .unset, .unset, .unset, .unset, .unset] [(.int (4 : Int32))])) rfl (hb hby at_263) rfl (by decide) (cap := 4) (by decide) (by decide) (by decide) (by decide)
      obtain ⟨b90, g90⟩ : ∃ z, z = h79.size := ⟨_, rfl⟩
      rw [← g90] at A90 st90
      refine Go.st st90 ?_
      have gn90 : n0 ≤ b90 := oldGe O80 g90
      have ne91 : b14 ≠ b90 := Nat.ne_of_lt (Nat.lt_of_lt_of_le E_81.lt (Nat.le_of_eq g90.symm))
      have ne92 : aw ≠ b90 := Nat.ne_of_lt (Nat.lt_of_lt_of_le V_83.lt (Nat.le_of_eq g90.symm))
      have ne93 : as ≠ b90 := Nat.ne_of_lt (Nat.lt_of_lt_of_le V_85.lt (Nat.le_of_eq g90.symm))
      have ne94 : am ≠ b90 := Nat.ne_of_lt (Nat.lt_of_lt_of_le V_87.lt (Nat.le_of_eq g90.symm))
      have ne95 : b31 ≠ b90 := Nat.ne_of_lt (Nat.lt_of_lt_of_le V_89.lt (Nat.le_of_eq g90.symm))
      have O96 : Old Z n0 h90 := O80.ext E90
      have E_97 : Exa Z h90 b14 "com/example/gieres/gieres/model/TupleTable" := E_81.ext E90
      have F98 : Fld Z h90 b14 "com/example/gieres/gieres/model/TupleTable" "word" "[I" (.ref aw) := F82.ext E90
      have V_99 : Arv Z h90 aw kw .int (3 : Int32) [(.int (0 : Int32)), (.int (0 : Int32)), (.int (1 : Int32))] (.int (0 : Int32)) := V_83.ext E90
      have F100 : Fld Z h90 b14 "com/example/gieres/gieres/model/TupleTable" "shift" "[I" (.ref as) := F84.ext E90
      have V_101 : Arv Z h90 as ks .int (3 : Int32) [(.int (0 : Int32)), (.int b0v), (.int (0 : Int32))] (.int (0 : Int32)) := V_85.ext E90
      have F102 : Fld Z h90 b14 "com/example/gieres/gieres/model/TupleTable" "mask" "[J" (.ref am) := F86.ext E90
      have V_103 : Arv Z h90 am km .long (3 : Int32) [(.long (own_mask b0v)), (.long (own_mask b1v)), (.long (own_mask b2v))] (.long (0 : Int64)) := V_87.ext E90
      have F104 : Fld Z h90 b14 "com/example/gieres/gieres/model/TupleTable" "width" "I" (.int (2 : Int32)) := F88.ext E90
      have V_105 : Arv Z h90 b31 k31 .long (4 : Int32) [(.long q3), (.long q4), (.long (q4 ^^^ (-1 : Int64))), (.long (q3 ^^^ (-1 : Int64)))] (.long (0 : Int64)) := V_89.ext E90
      have V_106 : Arv Z h90 b90 k90 .long (4 : Int32) [(.long (0 : Int64)), (.long (0 : Int64)), (.long (0 : Int64)), (.long (0 : Int64))] (.long (0 : Int64)) := (Arv.new A90 (by decide)).pad (pad_rep [] (.long (0 : Int64)) 4)
      show Go p e below _ (T90.setTop (mkF m 265 #[.val (.int p0), .val (.int p1), .val (.int p2), .val (.long q3), .second, .val (.long q4), .second, .val (.int b0v), .val (.int b1v), .val (.int b2v), .val (.int (1 : Int32)), .val (.int (2 : Int32)), .val (.int (0 : Int32)), .val (.int po), .val (.int b0v), .val (.int (0 : Int32)), .val (.int (0 : Int32)), .val (.long (((1 : Int64) <<< (b0v &&& 0x3f).toInt64) - (1 : Int64))), .second, .val (.ref b2), .val (.ref b14), .val (.ref b31), .unset, .unset, .unset, .unset, .unset, .unset, .unset, .unset] [(.ref b90)]))
      refine Go.st (fun _ => XS.dup X90.here hx rfl (hb hby at_265) rfl rfl) ?_
      refine Go.st (fun _ => XS.iconst X90.here hx rfl (hb hby at_266)) ?_
      refine Go.st (fun _ => XS.lloadN X90.here hx rfl (hb hby at_267) rfl) ?_
      show Go p e below _ (T90.setTop (mkF m 268 #[.val (.int p0), .val (.int p1), .val (.int p2), .val (.long q3), .second, .val (.long q4), .second, .val (.int b0v), .val (.int b1v), .val (.int b2v), .val (.int (1 : Int32)), .val (.int (2 : Int32)), .val (.int (0 : Int32)), .val (.int po), .val (.int b0v), .val (.int (0 : Int32)), .val (.int (0 : Int32)), .val (.long (((1 : Int64) <<< (b0v &&& 0x3f).toInt64) - (1 : Int64))), .second, .val (.ref b2), .val (.ref b14), .val (.ref b31), .unset, .unset, .unset, .unset, .unset, .unset, .unset, .unset] [(.long q3), (.int (0 : Int32)), (.ref b90), (.ref b90)]))
      obtain ⟨cl107, Ar107, qk107, Sz107, Nn107, Ha107, Ga107⟩ := id V_106
      have hin107 : ¬ ((0 : Int32) < 0 ∨ cl107.slots.size ≤ ((0 : Int32) : Int32).toNatClampNeg) := inb_of Sz107 ⟨by decide, by decide⟩
      obtain ⟨T107, h107, X107, e107, W107, st107⟩ := stJ X90 hx hZ e90 Ar107 (j := (0 : Int32)) hin107 (g := (mkF m 268 #[.val (.int p0), .val (.int p1), .val (.int p2), .val (.long q3), .second, .val (.long q4), .second, .val (.int b0v), .val (.int b1v), .val (.int b2v), .val (.int (1 : Int32)), .val (.int (2 : Int32)), .val (.int (0 : Int32)), .val (.int po), .val (.int b0v), .val (.int (0 : Int32)), .val (.int (0 : Int32)), .val (.long (((1 : Int64) <<< (b0v &&& 0x3f).toInt64) - (1 : Int64))), .second, .val (.ref b2), .val (.ref b14), .val (.ref b31), .unset, .unset, .unset, .unset, .unset, .unset, .unset, .unset] [(.long q3), (.int (0 : Int32)), (.ref b90), (.ref b90)])) rfl rfl (hb hby at_268)
      refine Go.st st107 ?_
      have O108 : Old Z n0 h107 := O96.wr W107 gn90
      have E_109 : Exa Z h107 b14 "com/example/gieres/gieres/model/TupleTable" := E_97.wr W107
      have F110 : Fld Z h107 b14 "com/example/gieres/gieres/model/TupleTable" "word" "[I" (.ref aw) := F98.other W107 (Or.inl ne91)
      have V_111 : Arv Z h107 aw kw .int (3 : Int32) [(.int (0 : Int32)), (.int (0 : Int32)), (.int (1 : Int32))] (.int (0 : Int32)) := V_99.other W107 ne92
      have F112 : Fld Z h107 b14 "com/example/gieres/gieres/model/TupleTable" "shift" "[I" (.ref as) := F100.other W107 (Or.inl ne91)
      have V_113 : Arv Z h107 as ks .int (3 : Int32) [(.int (0 : Int32)), (.int b0v), (.int (0 : Int32))] (.int (0 : Int32)) := V_101.other W107 ne93
      have F114 : Fld Z h107 b14 "com/example/gieres/gieres/model/TupleTable" "mask" "[J" (.ref am) := F102.other W107 (Or.inl ne91)
      have V_115 : Arv Z h107 am km .long (3 : Int32) [(.long (own_mask b0v)), (.long (own_mask b1v)), (.long (own_mask b2v))] (.long (0 : Int64)) := V_103.other W107 ne94
      have F116 : Fld Z h107 b14 "com/example/gieres/gieres/model/TupleTable" "width" "I" (.int (2 : Int32)) := F104.other W107 (Or.inl ne91)
      have V_117 : Arv Z h107 b31 k31 .long (4 : Int32) [(.long q3), (.long q4), (.long (q4 ^^^ (-1 : Int64))), (.long (q3 ^^^ (-1 : Int64)))] (.long (0 : Int64)) := V_105.other W107 ne95
      have V_118 : Arv Z h107 b90 k90 .long (4 : Int32) [(.long q3), (.long (0 : Int64)), (.long (0 : Int64)), (.long (0 : Int64))] (.long (0 : Int64)) := Arv.set Ar107 qk107 Sz107 Nn107 Ha107 Ga107 rfl W107 0 rfl (Nat.le_of_ble_eq_true rfl)
      have N107 := Fr.snoc X107 N79 gn90
      show Go p e below _ (T107.setTop (mkF m 269 #[.val (.int p0), .val (.int p1), .val (.int p2), .val (.long q3), .second, .val (.long q4), .second, .val (.int b0v), .val (.int b1v), .val (.int b2v), .val (.int (1 : Int32)), .val (.int (2 : Int32)), .val (.int (0 : Int32)), .val (.int po), .val (.int b0v), .val (.int (0 : Int32)), .val (.int (0 : Int32)), .val (.long (((1 : Int64) <<< (b0v &&& 0x3f).toInt64) - (1 : Int64))), .second, .val (.ref b2), .val (.ref b14), .val (.ref b31), .unset, .unset, .unset, .unset, .unset, .unset, .unset, .unset] [(.ref b90)]))
      refine Go.st (fun _ => XS.dup X107.here hx rfl (hb hby at_269) rfl rfl) ?_
      refine Go.st (fun _ => XS.iconst X107.here hx rfl (hb hby at_270)) ?_
      refine Go.st (fun _ => XS.lload X107.here hx rfl (hb hby at_271) rfl) ?_
      show Go p e below _ (T107.setTop (mkF m 273 #[.val (.int p0), .val (.int p1), .val (.int p2), .val (.long q3), .second, .val (.long q4), .second, .val (.int b0v), .val (.int b1v), .val (.int b2v), .val (.int (1 : Int32)), .val (.int (2 : Int32)), .val (.int (0 : Int32)), .val (.int po), .val (.int b0v), .val (.int (0 : Int32)), .val (.int (0 : Int32)), .val (.long (((1 : Int64) <<< (b0v &&& 0x3f).toInt64) - (1 : Int64))), .second, .val (.ref b2), .val (.ref b14), .val (.ref b31), .unset, .unset, .unset, .unset, .unset, .unset, .unset, .unset] [(.long q4), (.int (1 : Int32)), (.ref b90), (.ref b90)]))
      obtain ⟨cl119, Ar119, qk119, Sz119, Nn119, Ha119, Ga119⟩ := id V_118
      have hin119 : ¬ ((1 : Int32) < 0 ∨ cl119.slots.size ≤ ((1 : Int32) : Int32).toNatClampNeg) := inb_of Sz119 ⟨by decide, by decide⟩
      obtain ⟨T119, h119, X119, e119, W119, st119⟩ := stJ X107 hx hZ e107 Ar119 (j := (1 : Int32)) hin119 (g := (mkF m 273 #[.val (.int p0), .val (.int p1), .val (.int p2), .val (.long q3), .second, .val (.long q4), .second, .val (.int b0v), .val (.int b1v), .val (.int b2v), .val (.int (1 : Int32)), .val (.int (2 : Int32)), .val (.int (0 : Int32)), .val (.int po), .val (.int b0v), .val (.int (0 : Int32)), .val (.int (0 : Int32)), .val (.long (((1 : Int64) <<< (b0v &&& 0x3f).toInt64) - (1 : Int64))), .second, .val (.ref b2), .val (.ref b14), .val (.ref b31), .unset, .unset, .unset, .unset, .unset, .unset, .unset, .unset] [(.long q4), (.int (1 : Int32)), (.ref b90), (.ref b90)])) rfl rfl (hb hby at_273)
      refine Go.st st119 ?_
      have O120 : Old Z n0 h119 := O108.wr W119 gn90
      have E_121 : Exa Z h119 b14 "com/example/gieres/gieres/model/TupleTable" := E_109.wr W119
      have F122 : Fld Z h119 b14 "com/example/gieres/gieres/model/TupleTable" "word" "[I" (.ref aw) := F110.other W119 (Or.inl ne91)
      have V_123 : Arv Z h119 aw kw .int (3 : Int32) [(.int (0 : Int32)), (.int (0 : Int32)), (.int (1 : Int32))] (.int (0 : Int32)) := V_111.other W119 ne92
      have F124 : Fld Z h119 b14 "com/example/gieres/gieres/model/TupleTable" "shift" "[I" (.ref as) := F112.other W119 (Or.inl ne91)
      have V_125 : Arv Z h119 as ks .int (3 : Int32) [(.int (0 : Int32)), (.int b0v), (.int (0 : Int32))] (.int (0 : Int32)) := V_113.other W119 ne93
      have F126 : Fld Z h119 b14 "com/example/gieres/gieres/model/TupleTable" "mask" "[J" (.ref am) := F114.other W119 (Or.inl ne91)
      have V_127 : Arv Z h119 am km .long (3 : Int32) [(.long (own_mask b0v)), (.long (own_mask b1v)), (.long (own_mask b2v))] (.long (0 : Int64)) := V_115.other W119 ne94
      have F128 : Fld Z h119 b14 "com/example/gieres/gieres/model/TupleTable" "width" "I" (.int (2 : Int32)) := F116.other W119 (Or.inl ne91)
      have V_129 : Arv Z h119 b31 k31 .long (4 : Int32) [(.long q3), (.long q4), (.long (q4 ^^^ (-1 : Int64))), (.long (q3 ^^^ (-1 : Int64)))] (.long (0 : Int64)) := V_117.other W119 ne95
      have V_130 : Arv Z h119 b90 k90 .long (4 : Int32) [(.long q3), (.long q4), (.long (0 : Int64)), (.long (0 : Int64))] (.long (0 : Int64)) := Arv.set Ar119 qk119 Sz119 Nn119 Ha119 Ga119 rfl W119 1 rfl (Nat.le_of_ble_eq_true rfl)
      have N119 := Fr.snoc X119 N107 gn90
      show Go p e below _ (T119.setTop (mkF m 274 #[.val (.int p0), .val (.int p1), .val (.int p2), .val (.long q3), .second, .val (.long q4), .second, .val (.int b0v), .val (.int b1v), .val (.int b2v), .val (.int (1 : Int32)), .val (.int (2 : Int32)), .val (.int (0 : Int32)), .val (.int po), .val (.int b0v), .val (.int (0 : Int32)), .val (.int (0 : Int32)), .val (.long (((1 : Int64) <<< (b0v &&& 0x3f).toInt64) - (1 : Int64))), .second, .val (.ref b2), .val (.ref b14), .val (.ref b31), .unset, .unset, .unset, .unset, .unset, .unset, .unset, .unset] [(.ref b90)]))
      refine Go.st (fun _ => XS.dup X119.here hx rfl (hb hby at_274) rfl rfl) ?_
      refine Go.st (fun _ => XS.iconst X119.here hx rfl (hb hby at_275)) ?_
      refine Go.st (fun _ => XS.lload X119.here hx rfl (hb hby at_276) rfl) ?_
      show Go p e below _ (T119.setTop (mkF m 278 #[.val (.int p0), .val (.int p1), .val (.int p2), .val (.long q3), .second, .val (.long q4), .second, .val (.int b0v), .val (.int b1v), .val (.int b2v), .val (.int (1 : Int32)), .val (.int (2 : Int32)), .val (.int (0 : Int32)), .val (.int po), .val (.int b0v), .val (.int (0 : Int32)), .val (.int (0 : Int32)), .val (.long (((1 : Int64) <<< (b0v &&& 0x3f).toInt64) - (1 : Int64))), .second, .val (.ref b2), .val (.ref b14), .val (.ref b31), .unset, .unset, .unset, .unset, .unset, .unset, .unset, .unset] [(.long q4), (.int (2 : Int32)), (.ref b90), (.ref b90)]))
      refine Go.st (fun _ => X119.ldc2Long hx hown (mvT hZ (hw _ (List.mem_of_getElem? (i := 54) rfl))) (g := (mkF m 278 #[.val (.int p0), .val (.int p1), .val (.int p2), .val (.long q3), .second, .val (.long q4), .second, .val (.int b0v), .val (.int b1v), .val (.int b2v), .val (.int (1 : Int32)), .val (.int (2 : Int32)), .val (.int (0 : Int32)), .val (.int po), .val (.int b0v), .val (.int (0 : Int32)), .val (.int (0 : Int32)), .val (.long (((1 : Int64) <<< (b0v &&& 0x3f).toInt64) - (1 : Int64))), .second, .val (.ref b2), .val (.ref b14), .val (.ref b31), .unset, .unset, .unset, .unset, .unset, .unset, .unset, .unset] [(.long q4), (.int (2 : Int32)), (.ref b90), (.ref b90)])) rfl (hb hby at_278) _) ?_
      show Go p e below _ (T119.setTop (mkF m 281 #[.val (.int p0), .val (.int p1), .val (.int p2), .val (.long q3), .second, .val (.long q4), .second, .val (.int b0v), .val (.int b1v), .val (.int b2v), .val (.int (1 : Int32)), .val (.int (2 : Int32)), .val (.int (0 : Int32)), .val (.int po), .val (.int b0v), .val (.int (0 : Int32)), .val (.int (0 : Int32)), .val (.long (((1 : Int64) <<< (b0v &&& 0x3f).toInt64) - (1 : Int64))), .second, .val (.ref b2), .val (.ref b14), .val (.ref b31), .unset, .unset, .unset, .unset, .unset, .unset, .unset, .unset] [(.long (-1 : Int64)), (.long q4), (.int (2 : Int32)), (.ref b90), (.ref b90)]))
      refine Go.st (fun _ => XS.lxor X119.here hx rfl (hb hby at_281) rfl) ?_
      show Go p e below _ (T119.setTop (mkF m 282 #[.val (.int p0), .val (.int p1), .val (.int p2), .val (.long q3), .second, .val (.long q4), .second, .val (.int b0v), .val (.int b1v), .val (.int b2v), .val (.int (1 : Int32)), .val (.int (2 : Int32)), .val (.int (0 : Int32)), .val (.int po), .val (.int b0v), .val (.int (0 : Int32)), .val (.int (0 : Int32)), .val (.long (((1 : Int64) <<< (b0v &&& 0x3f).toInt64) - (1 : Int64))), .second, .val (.ref b2), .val (.ref b14), .val (.ref b31), .unset, .unset, .unset, .unset, .unset, .unset, .unset, .unset] [(.long (q4 ^^^ (-1 : Int64))), (.int (2 : Int32)), (.ref b90), (.ref b90)]))
      obtain ⟨cl131, Ar131, qk131, Sz131, Nn131, Ha131, Ga131⟩ := id V_130
      have hin131 : ¬ ((2 : Int32) < 0 ∨ cl131.slots.size ≤ ((2 : Int32) : Int32).toNatClampNeg) := inb_of Sz131 ⟨by decide, by decide⟩
      obtain ⟨T131, h131, X131, e131, W131, st131⟩ := stJ X119 hx hZ e119 Ar131 (j := (2 : Int32)) hin131 (g := (mkF m 282 #[.val (.int p0), .val (.int p1), .val (.int p2), .val (.long q3), .second, .val (.long q4), .second, .val (.int b0v), .val (.int b1v), .val (.int b2v), .val (.int (1 : Int32)), .val (.int (2 : Int32)), .val (.int (0 : Int32)), .val (.int po), .val (.int b0v), .val (.int (0 : Int32)), .val (.int (0 : Int32)), .val (.long (((1 : Int64) <<< (b0v &&& 0x3f).toInt64) - (1 : Int64))), .second, .val (.ref b2), .val (.ref b14), .val (.ref b31), .unset, .unset, .unset, .unset, .unset, .unset, .unset, .unset] [(.long (q4 ^^^ (-1 : Int64))), (.int (2 : Int32)), (.ref b90), (.ref b90)])) rfl rfl (hb hby at_282)
      refine Go.st st131 ?_
      have O132 : Old Z n0 h131 := O120.wr W131 gn90
      have E_133 : Exa Z h131 b14 "com/example/gieres/gieres/model/TupleTable" := E_121.wr W131
      have F134 : Fld Z h131 b14 "com/example/gieres/gieres/model/TupleTable" "word" "[I" (.ref aw) := F122.other W131 (Or.inl ne91)
      have V_135 : Arv Z h131 aw kw .int (3 : Int32) [(.int (0 : Int32)), (.int (0 : Int32)), (.int (1 : Int32))] (.int (0 : Int32)) := V_123.other W131 ne92
      have F136 : Fld Z h131 b14 "com/example/gieres/gieres/model/TupleTable" "shift" "[I" (.ref as) := F124.other W131 (Or.inl ne91)
      have V_137 : Arv Z h131 as ks .int (3 : Int32) [(.int (0 : Int32)), (.int b0v), (.int (0 : Int32))] (.int (0 : Int32)) := V_125.other W131 ne93
      have F138 : Fld Z h131 b14 "com/example/gieres/gieres/model/TupleTable" "mask" "[J" (.ref am) := F126.other W131 (Or.inl ne91)
      have V_139 : Arv Z h131 am km .long (3 : Int32) [(.long (own_mask b0v)), (.long (own_mask b1v)), (.long (own_mask b2v))] (.long (0 : Int64)) := V_127.other W131 ne94
      have F140 : Fld Z h131 b14 "com/example/gieres/gieres/model/TupleTable" "width" "I" (.int (2 : Int32)) := F128.other W131 (Or.inl ne91)
      have V_141 : Arv Z h131 b31 k31 .long (4 : Int32) [(.long q3), (.long q4), (.long (q4 ^^^ (-1 : Int64))), (.long (q3 ^^^ (-1 : Int64)))] (.long (0 : Int64)) := V_129.other W131 ne95
      have V_142 : Arv Z h131 b90 k90 .long (4 : Int32) [(.long q3), (.long q4), (.long (q4 ^^^ (-1 : Int64))), (.long (0 : Int64))] (.long (0 : Int64)) := Arv.set Ar131 qk131 Sz131 Nn131 Ha131 Ga131 rfl W131 2 rfl (Nat.le_of_ble_eq_true rfl)
      have N131 := Fr.snoc X131 N119 gn90
      show Go p e below _ (T131.setTop (mkF m 283 #[.val (.int p0), .val (.int p1), .val (.int p2), .val (.long q3), .second, .val (.long q4), .second, .val (.int b0v), .val (.int b1v), .val (.int b2v), .val (.int (1 : Int32)), .val (.int (2 : Int32)), .val (.int (0 : Int32)), .val (.int po), .val (.int b0v), .val (.int (0 : Int32)), .val (.int (0 : Int32)), .val (.long (((1 : Int64) <<< (b0v &&& 0x3f).toInt64) - (1 : Int64))), .second, .val (.ref b2), .val (.ref b14), .val (.ref b31), .unset, .unset, .unset, .unset, .unset, .unset, .unset, .unset] [(.ref b90)]))
      refine Go.st (fun _ => XS.dup X131.here hx rfl (hb hby at_283) rfl rfl) ?_
      refine Go.st (fun _ => XS.iconst X131.here hx rfl (hb hby at_284)) ?_
      refine Go.st (fun _ => XS.lloadN X131.here hx rfl (hb hby at_285) rfl) ?_
      show Go p e below _ (T131.setTop (mkF m 286 #[.val (.int p0), .val (.int p1), .val (.int p2), .val (.long q3), .second, .val (.long q4), .second, .val (.int b0v), .val (.int b1v), .val (.int b2v), .val (.int (1 : Int32)), .val (.int (2 : Int32)), .val (.int (0 : Int32)), .val (.int po), .val (.int b0v), .val (.int (0 : Int32)), .val (.int (0 : Int32)), .val (.long (((1 : Int64) <<< (b0v &&& 0x3f).toInt64) - (1 : Int64))), .second, .val (.ref b2), .val (.ref b14), .val (.ref b31), .unset, .unset, .unset, .unset, .unset, .unset, .unset, .unset] [(.long q3), (.int (3 : Int32)), (.ref b90), (.ref b90)]))
      refine Go.st (fun _ => X131.ldc2Long hx hown (mvT hZ (hw _ (List.mem_of_getElem? (i := 54) rfl))) (g := (mkF m 286 #[.val (.int p0), .val (.int p1), .val (.int p2), .val (.long q3), .second, .val (.long q4), .second, .val (.int b0v), .val (.int b1v), .val (.int b2v), .val (.int (1 : Int32)), .val (.int (2 : Int32)), .val (.int (0 : Int32)), .val (.int po), .val (.int b0v), .val (.int (0 : Int32)), .val (.int (0 : Int32)), .val (.long (((1 : Int64) <<< (b0v &&& 0x3f).toInt64) - (1 : Int64))), .second, .val (.ref b2), .val (.ref b14), .val (.ref b31), .unset, .unset, .unset, .unset, .unset, .unset, .unset, .unset] [(.long q3), (.int (3 : Int32)), (.ref b90), (.ref b90)])) rfl (hb hby at_286) _) ?_
      show Go p e below _ (T131.setTop (mkF m 289 #[.val (.int p0), .val (.int p1), .val (.int p2), .val (.long q3), .second, .val (.long q4), .second, .val (.int b0v), .val (.int b1v), .val (.int b2v), .val (.int (1 : Int32)), .val (.int (2 : Int32)), .val (.int (0 : Int32)), .val (.int po), .val (.int b0v), .val (.int (0 : Int32)), .val (.int (0 : Int32)), .val (.long (((1 : Int64) <<< (b0v &&& 0x3f).toInt64) - (1 : Int64))), .second, .val (.ref b2), .val (.ref b14), .val (.ref b31), .unset, .unset, .unset, .unset, .unset, .unset, .unset, .unset] [(.long (-1 : Int64)), (.long q3), (.int (3 : Int32)), (.ref b90), (.ref b90)]))
      refine Go.st (fun _ => XS.lxor X131.here hx rfl (hb hby at_289) rfl) ?_
      show Go p e below _ (T131.setTop (mkF m 290 #[.val (.int p0), .val (.int p1), .val (.int p2), .val (.long q3), .second, .val (.long q4), .second, .val (.int b0v), .val (.int b1v), .val (.int b2v), .val (.int (1 : Int32)), .val (.int (2 : Int32)), .val (.int (0 : Int32)), .val (.int po), .val (.int b0v), .val (.int (0 : Int32)), .val (.int (0 : Int32)), .val (.long (((1 : Int64) <<< (b0v &&& 0x3f).toInt64) - (1 : Int64))), .second, .val (.ref b2), .val (.ref b14), .val (.ref b31), .unset, .unset, .unset, .unset, .unset, .unset, .unset, .unset] [(.long (q3 ^^^ (-1 : Int64))), (.int (3 : Int32)), (.ref b90), (.ref b90)]))
      obtain ⟨cl143, Ar143, qk143, Sz143, Nn143, Ha143, Ga143⟩ := id V_142
      have hin143 : ¬ ((3 : Int32) < 0 ∨ cl143.slots.size ≤ ((3 : Int32) : Int32).toNatClampNeg) := inb_of Sz143 ⟨by decide, by decide⟩
      obtain ⟨T143, h143, X143, e143, W143, st143⟩ := stJ X131 hx hZ e131 Ar143 (j := (3 : Int32)) hin143 (g := (mkF m 290 #[.val (.int p0), .val (.int p1), .val (.int p2), .val (.long q3), .second, .val (.long q4), .second, .val (.int b0v), .val (.int b1v), .val (.int b2v), .val (.int (1 : Int32)), .val (.int (2 : Int32)), .val (.int (0 : Int32)), .val (.int po), .val (.int b0v), .val (.int (0 : Int32)), .val (.int (0 : Int32)), .val (.long (((1 : Int64) <<< (b0v &&& 0x3f).toInt64) - (1 : Int64))), .second, .val (.ref b2), .val (.ref b14), .val (.ref b31), .unset, .unset, .unset, .unset, .unset, .unset, .unset, .unset] [(.long (q3 ^^^ (-1 : Int64))), (.int (3 : Int32)), (.ref b90), (.ref b90)])) rfl rfl (hb hby at_290)
      refine Go.st st143 ?_
      have O144 : Old Z n0 h143 := O132.wr W143 gn90
      have E_145 : Exa Z h143 b14 "com/example/gieres/gieres/model/TupleTable" := E_133.wr W143
      have F146 : Fld Z h143 b14 "com/example/gieres/gieres/model/TupleTable" "word" "[I" (.ref aw) := F134.other W143 (Or.inl ne91)
      have V_147 : Arv Z h143 aw kw .int (3 : Int32) [(.int (0 : Int32)), (.int (0 : Int32)), (.int (1 : Int32))] (.int (0 : Int32)) := V_135.other W143 ne92
      have F148 : Fld Z h143 b14 "com/example/gieres/gieres/model/TupleTable" "shift" "[I" (.ref as) := F136.other W143 (Or.inl ne91)
      have V_149 : Arv Z h143 as ks .int (3 : Int32) [(.int (0 : Int32)), (.int b0v), (.int (0 : Int32))] (.int (0 : Int32)) := V_137.other W143 ne93
      have F150 : Fld Z h143 b14 "com/example/gieres/gieres/model/TupleTable" "mask" "[J" (.ref am) := F138.other W143 (Or.inl ne91)
      have V_151 : Arv Z h143 am km .long (3 : Int32) [(.long (own_mask b0v)), (.long (own_mask b1v)), (.long (own_mask b2v))] (.long (0 : Int64)) := V_139.other W143 ne94
      have F152 : Fld Z h143 b14 "com/example/gieres/gieres/model/TupleTable" "width" "I" (.int (2 : Int32)) := F140.other W143 (Or.inl ne91)
      have V_153 : Arv Z h143 b31 k31 .long (4 : Int32) [(.long q3), (.long q4), (.long (q4 ^^^ (-1 : Int64))), (.long (q3 ^^^ (-1 : Int64)))] (.long (0 : Int64)) := V_141.other W143 ne95
      have V_154 : Arv Z h143 b90 k90 .long (4 : Int32) [(.long q3), (.long q4), (.long (q4 ^^^ (-1 : Int64))), (.long (q3 ^^^ (-1 : Int64)))] (.long (0 : Int64)) := Arv.set Ar143 qk143 Sz143 Nn143 Ha143 Ga143 rfl W143 3 rfl (Nat.le_of_ble_eq_true rfl)
      have N143 := Fr.snoc X143 N131 gn90
      show Go p e below _ (T143.setTop (mkF m 291 #[.val (.int p0), .val (.int p1), .val (.int p2), .val (.long q3), .second, .val (.long q4), .second, .val (.int b0v), .val (.int b1v), .val (.int b2v), .val (.int (1 : Int32)), .val (.int (2 : Int32)), .val (.int (0 : Int32)), .val (.int po), .val (.int b0v), .val (.int (0 : Int32)), .val (.int (0 : Int32)), .val (.long (((1 : Int64) <<< (b0v &&& 0x3f).toInt64) - (1 : Int64))), .second, .val (.ref b2), .val (.ref b14), .val (.ref b31), .unset, .unset, .unset, .unset, .unset, .unset, .unset, .unset] [(.ref b90)]))
      refine Go.st (fun _ => XS.goto X143.here hx rfl (pc0 := 291) (pc' := 306) rfl (hb hby at_291) (by decide) (by decide)) ?_
      refine Go.st (fun _ => XS.astore X143.here hx rfl (hb hby at_306) rfl rfl (l' := #[.val (.int p0), .val (.int p1), .val (.int p2), .val (.long q3), .second, .val (.long q4), .second, .val (.int b0v), .val (.int b1v), .val (.int b2v), .val (.int (1 : Int32)), .val (.int (2 : Int32)), .val (.int (0 : Int32)), .val (.int po), .val (.int b0v), .val (.int (0 : Int32)), .val (.int (0 : Int32)), .val (.long (((1 : Int64) <<< (b0v &&& 0x3f).toInt64) - (1 : Int64))), .second, .val (.ref b2), .val (.ref b14), .val (.ref b31), .val (.ref b90), .unset, .unset, .unset, .unset, .unset, .unset, .unset]) rfl) ?_
      show Go p e below _ (T143.setTop (mkF m 308 #[.val (.int p0), .val (.int p1), .val (.int p2), .val (.long q3), .second, .val (.long q4), .second, .val (.int b0v), .val (.int b1v), .val (.int b2v), .val (.int (1 : Int32)), .val (.int (2 : Int32)), .val (.int (0 : Int32)), .val (.int po), .val (.int b0v), .val (.int (0 : Int32)), .val (.int (0 : Int32)), .val (.long (((1 : Int64) <<< (b0v &&& 0x3f).toInt64) - (1 : Int64))), .second, .val (.ref b2), .val (.ref b14), .val (.ref b31), .val (.ref b90), .unset, .unset, .unset, .unset, .unset, .unset, .unset] []))
      obtain ⟨f0, hf0⟩ : ∃ f : Nat → Int64, f = fun k => ([q3, q4, (q4 ^^^ (-1 : Int64)), (q3 ^^^ (-1 : Int64))] : List Int64).getD k 0 := ⟨_, rfl⟩
      have KO : LAr Z h143 b31 4 f0 := LAr_of V_153 rfl (by decide) (fun j hj => by rw [hf0]; rcases j with _ | _ | _ | _ | j <;> first | rfl | omega)
      have KK : LAr Z h143 b90 4 f0 := LAr_of V_154 rfl (by decide) (fun j hj => by rw [hf0]; rcases j with _ | _ | _ | _ | j <;> first | rfl | omega)
      show Go p e below _ (T143.setTop (mkF m 308 #[.val (.int p0), .val (.int p1), .val (.int p2), .val (.long q3), .second, .val (.long q4), .second, .val (.int b0v), .val (.int b1v), .val (.int b2v), .val (.int (1 : Int32)), .val (.int (2 : Int32)), .val (.int (0 : Int32)), .val (.int po), .val (.int b0v), .val (.int (0 : Int32)), .val (.int (0 : Int32)), .val (.long (((1 : Int64) <<< (b0v &&& 0x3f).toInt64) - (1 : Int64))), .second, .val (.ref b2), .val (.ref b14), .val (.ref b31), .val (.ref b90), .unset, .unset, .unset, .unset, .unset, .unset, .unset] []))
      refine Go.st (fun _ => XS.aload X143.here hx rfl (hb hby at_308) rfl rfl) ?_
      refine Go.st (fun _ => XS.aload X143.here hx rfl (hb hby at_310) rfl rfl) ?_
      refine Go.st (fun _ => XS.iload X143.here hx rfl (hb hby at_312) rfl) ?_
      refine Go.st (fun _ => XS.iload X143.here hx rfl (hb hby at_314) rfl) ?_
      refine Go.st (fun _ => XS.iloadN X143.here hx rfl (hb hby at_316) rfl) ?_
      show Go p e below _ (T143.setTop (mkF m 317 #[.val (.int p0), .val (.int p1), .val (.int p2), .val (.long q3), .second, .val (.long q4), .second, .val (.int b0v), .val (.int b1v), .val (.int b2v), .val (.int (1 : Int32)), .val (.int (2 : Int32)), .val (.int (0 : Int32)), .val (.int po), .val (.int b0v), .val (.int (0 : Int32)), .val (.int (0 : Int32)), .val (.long (((1 : Int64) <<< (b0v &&& 0x3f).toInt64) - (1 : Int64))), .second, .val (.ref b2), .val (.ref b14), .val (.ref b31), .val (.ref b90), .unset, .unset, .unset, .unset, .unset, .unset, .unset] [(.int p2), (.int (0 : Int32)), (.int po), (.ref b90), (.ref b14)]))
      refine goVirt X143 hx hZ (y := (⟨"com/example/gieres/gieres/model/TupleTable", "setState", "([JIII)V"⟩ : MethodName)) (z := (⟨"com/example/gieres/gieres/model/TupleTable", "setState", "([JIII)V"⟩ : MethodName)) hown (hw _ (List.mem_of_getElem? (i := 39) rfl)) (hw _ (List.mem_of_getElem? (i := 40) rfl)) (notFace_of_selects (args := #[]) (mvT hZ (hw _ (List.mem_of_getElem? (i := 42) rfl)))) (hw _ (List.mem_of_getElem? (i := 42) rfl)) (hw _ (List.mem_of_getElem? (i := 41) rfl)) (hw _ (List.mem_of_getElem? (i := 3) rfl)) (hw _ (List.mem_of_getElem? (i := 43) rfl)) (by decide) (a := b14) (argsL := [(.ref b90), (.int po), (.int (0 : Int32)), (.int p2)]) (rest := []) e143 E_145 (rmS0 l Z a0 hw [] b14 b90 aw as am kw ks km (0 : Int32) (0 : Int32) (1 : Int32) (0 : Int32) b0v (0 : Int32) (own_mask b0v) (own_mask b1v) (own_mask b2v) 4 f0 po p2 h143 n0 O144 F146 V_147 F148 V_149 F150 V_151 KK gn90 HJ.1 HJ.2) 0 (by decide) (by decide) (by decide) (by decide) (mkF m 317 #[.val (.int p0), .val (.int p1), .val (.int p2), .val (.long q3), .second, .val (.long q4), .second, .val (.int b0v), .val (.int b1v), .val (.int b2v), .val (.int (1 : Int32)), .val (.int (2 : Int32)), .val (.int (0 : Int32)), .val (.int po), .val (.int b0v), .val (.int (0 : Int32)), .val (.int (0 : Int32)), .val (.long (((1 : Int64) <<< (b0v &&& 0x3f).toInt64) - (1 : Int64))), .second, .val (.ref b2), .val (.ref b14), .val (.ref b31), .val (.ref b90), .unset, .unset, .unset, .unset, .unset, .unset, .unset] [(.int p2), (.int (0 : Int32)), (.int po), (.ref b90), (.ref b14)]) rfl (by rw [hml]; rfl) (lenOf pd_3 rfl) rfl (hb hby at_317) (Nat.le_of_eq rfl) ?_
      intro v155 T155 L155 X155 hQ155
      obtain ⟨rfl, M155, K155, KA155⟩ := hQ155
      have N155 := Fr.app N143 M155
      have O156 : Old Z n0 T155.heap := O144.keep K155 (allS gn90 all0)
      have E_157 : Exa Z T155.heap b14 "com/example/gieres/gieres/model/TupleTable" := E_145.keep K155
      have F158 : Fld Z T155.heap b14 "com/example/gieres/gieres/model/TupleTable" "word" "[I" (.ref aw) := F146.keep K155 (ninS ne91 nin0)
      have V_159 : Arv Z T155.heap aw kw .int (3 : Int32) [(.int (0 : Int32)), (.int (0 : Int32)), (.int (1 : Int32))] (.int (0 : Int32)) := V_147.keep K155 (ninS ne92 nin0)
      have F160 : Fld Z T155.heap b14 "com/example/gieres/gieres/model/TupleTable" "shift" "[I" (.ref as) := F148.keep K155 (ninS ne91 nin0)
      have V_161 : Arv Z T155.heap as ks .int (3 : Int32) [(.int (0 : Int32)), (.int b0v), (.int (0 : Int32))] (.int (0 : Int32)) := V_149.keep K155 (ninS ne93 nin0)
      have F162 : Fld Z T155.heap b14 "com/example/gieres/gieres/model/TupleTable" "mask" "[J" (.ref am) := F150.keep K155 (ninS ne91 nin0)
      have V_163 : Arv Z T155.heap am km .long (3 : Int32) [(.long (own_mask b0v)), (.long (own_mask b1v)), (.long (own_mask b2v))] (.long (0 : Int64)) := V_151.keep K155 (ninS ne94 nin0)
      have F164 : Fld Z T155.heap b14 "com/example/gieres/gieres/model/TupleTable" "width" "I" (.int (2 : Int32)) := F152.keep K155 (ninS ne91 nin0)
      have VL165 : LAr Z T155.heap b31 4 f0 := LAr_keep KO K155 (ninS ne95 nin0)
      obtain ⟨f1, hf1⟩ : ∃ z, z = (fun k => if k = (po + (0 : Int32)).toNatClampNeg then own_set (f0 (po + (0 : Int32)).toNatClampNeg) (own_mask b0v) (0 : Int32) p2 else f0 k) := ⟨_, rfl⟩
      rw [← hf1] at KA155
      have GV : own_get (f1 (po + (0 : Int32)).toNatClampNeg) (own_mask b0v) (0 : Int32) = p2.toInt64 &&& (own_mask b0v) := by rw [hf1]; simp only [if_true]; exact own_gsP PL
      show Go p e below _ (T155.setTop (mkF m 320 #[.val (.int p0), .val (.int p1), .val (.int p2), .val (.long q3), .second, .val (.long q4), .second, .val (.int b0v), .val (.int b1v), .val (.int b2v), .val (.int (1 : Int32)), .val (.int (2 : Int32)), .val (.int (0 : Int32)), .val (.int po), .val (.int b0v), .val (.int (0 : Int32)), .val (.int (0 : Int32)), .val (.long (((1 : Int64) <<< (b0v &&& 0x3f).toInt64) - (1 : Int64))), .second, .val (.ref b2), .val (.ref b14), .val (.ref b31), .val (.ref b90), .unset, .unset, .unset, .unset, .unset, .unset, .unset] []))
      refine Go.st (fun _ => XS.iload X155.here hx rfl (hb hby at_320) rfl) ?_
      refine Go.st (fun _ => XS.iload X155.here hx rfl (hb hby at_322) rfl) ?_
      refine Go.st (fun _ => XS.iadd X155.here hx rfl (hb hby at_324) rfl) ?_
      refine Go.st (fun _ => XS.istore X155.here hx rfl (hb hby at_325) rfl (l' := #[.val (.int p0), .val (.int p1), .val (.int p2), .val (.long q3), .second, .val (.long q4), .second, .val (.int b0v), .val (.int b1v), .val (.int b2v), .val (.int (1 : Int32)), .val (.int (2 : Int32)), .val (.int (0 : Int32)), .val (.int po), .val (.int b0v), .val (.int (0 : Int32)), .val (.int (0 : Int32)), .val (.long (((1 : Int64) <<< (b0v &&& 0x3f).toInt64) - (1 : Int64))), .second, .val (.ref b2), .val (.ref b14), .val (.ref b31), .val (.ref b90), .val (.int (po + (0 : Int32))), .unset, .unset, .unset, .unset, .unset, .unset]) rfl) ?_
      refine Go.st (fun _ => XS.iloadN X155.here hx rfl (hb hby at_327) rfl) ?_
      refine Go.st (fun _ => XS.i2l X155.here hx rfl (hb hby at_328) rfl) ?_
      refine Go.st (fun _ => XS.lload X155.here hx rfl (hb hby at_329) rfl) ?_
      refine Go.st (fun _ => XS.land X155.here hx rfl (hb hby at_331) rfl) ?_
      refine Go.st (fun _ => XS.lstore X155.here hx rfl (hb hby at_332) rfl (l' := #[.val (.int p0), .val (.int p1), .val (.int p2), .val (.long q3), .second, .val (.long q4), .second, .val (.int b0v), .val (.int b1v), .val (.int b2v), .val (.int (1 : Int32)), .val (.int (2 : Int32)), .val (.int (0 : Int32)), .val (.int po), .val (.int b0v), .val (.int (0 : Int32)), .val (.int (0 : Int32)), .val (.long (((1 : Int64) <<< (b0v &&& 0x3f).toInt64) - (1 : Int64))), .second, .val (.ref b2), .val (.ref b14), .val (.ref b31), .val (.ref b90), .val (.int (po + (0 : Int32))), .val (.long ((p2.toInt64) &&& (((1 : Int64) <<< (b0v &&& 0x3f).toInt64) - (1 : Int64)))), .second, .unset, .unset, .unset, .unset]) rfl) ?_
      refine Go.st (fun _ => XS.lload X155.here hx rfl (hb hby at_334) rfl) ?_
      refine Go.st (fun _ => XS.iload X155.here hx rfl (hb hby at_336) rfl) ?_
      refine Go.st (fun _ => XS.lshl X155.here hx rfl (hb hby at_338) rfl) ?_
      show Go p e below _ (T155.setTop (mkF m 339 #[.val (.int p0), .val (.int p1), .val (.int p2), .val (.long q3), .second, .val (.long q4), .second, .val (.int b0v), .val (.int b1v), .val (.int b2v), .val (.int (1 : Int32)), .val (.int (2 : Int32)), .val (.int (0 : Int32)), .val (.int po), .val (.int b0v), .val (.int (0 : Int32)), .val (.int (0 : Int32)), .val (.long (((1 : Int64) <<< (b0v &&& 0x3f).toInt64) - (1 : Int64))), .second, .val (.ref b2), .val (.ref b14), .val (.ref b31), .val (.ref b90), .val (.int (po + (0 : Int32))), .val (.long ((p2.toInt64) &&& (((1 : Int64) <<< (b0v &&& 0x3f).toInt64) - (1 : Int64)))), .second, .unset, .unset, .unset, .unset] [(.long ((((1 : Int64) <<< (b0v &&& 0x3f).toInt64) - (1 : Int64)) <<< ((0 : Int32) &&& 0x3f).toInt64))]))
      refine Go.st (fun _ => XS.lstore X155.here hx rfl (hb hby at_339) rfl (l' := #[.val (.int p0), .val (.int p1), .val (.int p2), .val (.long q3), .second, .val (.long q4), .second, .val (.int b0v), .val (.int b1v), .val (.int b2v), .val (.int (1 : Int32)), .val (.int (2 : Int32)), .val (.int (0 : Int32)), .val (.int po), .val (.int b0v), .val (.int (0 : Int32)), .val (.int (0 : Int32)), .val (.long (((1 : Int64) <<< (b0v &&& 0x3f).toInt64) - (1 : Int64))), .second, .val (.ref b2), .val (.ref b14), .val (.ref b31), .val (.ref b90), .val (.int (po + (0 : Int32))), .val (.long ((p2.toInt64) &&& (((1 : Int64) <<< (b0v &&& 0x3f).toInt64) - (1 : Int64)))), .second, .val (.long ((((1 : Int64) <<< (b0v &&& 0x3f).toInt64) - (1 : Int64)) <<< ((0 : Int32) &&& 0x3f).toInt64)), .second, .unset, .unset]) rfl) ?_
      refine Go.st (fun _ => XS.aload X155.here hx rfl (hb hby at_341) rfl rfl) ?_
      refine Go.st (fun _ => XS.iload X155.here hx rfl (hb hby at_343) rfl) ?_
      show Go p e below _ (T155.setTop (mkF m 345 #[.val (.int p0), .val (.int p1), .val (.int p2), .val (.long q3), .second, .val (.long q4), .second, .val (.int b0v), .val (.int b1v), .val (.int b2v), .val (.int (1 : Int32)), .val (.int (2 : Int32)), .val (.int (0 : Int32)), .val (.int po), .val (.int b0v), .val (.int (0 : Int32)), .val (.int (0 : Int32)), .val (.long (((1 : Int64) <<< (b0v &&& 0x3f).toInt64) - (1 : Int64))), .second, .val (.ref b2), .val (.ref b14), .val (.ref b31), .val (.ref b90), .val (.int (po + (0 : Int32))), .val (.long ((p2.toInt64) &&& (((1 : Int64) <<< (b0v &&& 0x3f).toInt64) - (1 : Int64)))), .second, .val (.long ((((1 : Int64) <<< (b0v &&& 0x3f).toInt64) - (1 : Int64)) <<< ((0 : Int32) &&& 0x3f).toInt64)), .second, .unset, .unset] [(.int (po + (0 : Int32))), (.ref b90)]))
      obtain ⟨cl166, Ar166, hin166, hat166, -⟩ := LAr_in KA155 (j := (po + (0 : Int32))) HJ.1 HJ.2
      refine Go.st (fun _ => X155.laload hx (j := (po + (0 : Int32))) (v := (.long (f1 ((po + (0 : Int32))).toNatClampNeg))) Ar166.1 (State.isArrayOf_alike hZ.alike Ar166.2.1) Ar166.2.2 hin166 hat166 (g := (mkF m 345 #[.val (.int p0), .val (.int p1), .val (.int p2), .val (.long q3), .second, .val (.long q4), .second, .val (.int b0v), .val (.int b1v), .val (.int b2v), .val (.int (1 : Int32)), .val (.int (2 : Int32)), .val (.int (0 : Int32)), .val (.int po), .val (.int b0v), .val (.int (0 : Int32)), .val (.int (0 : Int32)), .val (.long (((1 : Int64) <<< (b0v &&& 0x3f).toInt64) - (1 : Int64))), .second, .val (.ref b2), .val (.ref b14), .val (.ref b31), .val (.ref b90), .val (.int (po + (0 : Int32))), .val (.long ((p2.toInt64) &&& (((1 : Int64) <<< (b0v &&& 0x3f).toInt64) - (1 : Int64)))), .second, .val (.long ((((1 : Int64) <<< (b0v &&& 0x3f).toInt64) - (1 : Int64)) <<< ((0 : Int32) &&& 0x3f).toInt64)), .second, .unset, .unset] [(.int (po + (0 : Int32))), (.ref b90)])) rfl rfl (hb hby at_345) _) ?_
      show Go p e below _ (T155.setTop (mkF m 346 #[.val (.int p0), .val (.int p1), .val (.int p2), .val (.long q3), .second, .val (.long q4), .second, .val (.int b0v), .val (.int b1v), .val (.int b2v), .val (.int (1 : Int32)), .val (.int (2 : Int32)), .val (.int (0 : Int32)), .val (.int po), .val (.int b0v), .val (.int (0 : Int32)), .val (.int (0 : Int32)), .val (.long (((1 : Int64) <<< (b0v &&& 0x3f).toInt64) - (1 : Int64))), .second, .val (.ref b2), .val (.ref b14), .val (.ref b31), .val (.ref b90), .val (.int (po + (0 : Int32))), .val (.long ((p2.toInt64) &&& (((1 : Int64) <<< (b0v &&& 0x3f).toInt64) - (1 : Int64)))), .second, .val (.long ((((1 : Int64) <<< (b0v &&& 0x3f).toInt64) - (1 : Int64)) <<< ((0 : Int32) &&& 0x3f).toInt64)), .second, .unset, .unset] [(.long (f1 ((po + (0 : Int32))).toNatClampNeg))]))
      refine Go.st (fun _ => XS.iload X155.here hx rfl (hb hby at_346) rfl) ?_
      refine Go.st (fun _ => XS.lushr X155.here hx rfl (hb hby at_348) rfl) ?_
      refine Go.st (fun _ => XS.lload X155.here hx rfl (hb hby at_349) rfl) ?_
      refine Go.st (fun _ => XS.land X155.here hx rfl (hb hby at_351) rfl) ?_
      refine Go.st (fun _ => XS.lload X155.here hx rfl (hb hby at_352) rfl) ?_
      refine Go.st (fun _ => XS.lcmp X155.here hx rfl (hb hby at_354) rfl) ?_
      refine Go.st (fun _ => XS.ifNo X155.here hx rfl (hb hby at_355) rfl ((if0 _ _).trans (teq ((lw_eq _ _).mpr GV)).2)) ?_
      refine Go.st (fun _ => XS.aload X155.here hx rfl (hb hby at_358) rfl rfl) ?_
      refine Go.st (fun _ => XS.aload X155.here hx rfl (hb hby at_360) rfl rfl) ?_
      refine Go.st (fun _ => XS.iload X155.here hx rfl (hb hby at_362) rfl) ?_
      refine Go.st (fun _ => XS.iload X155.here hx rfl (hb hby at_364) rfl) ?_
      show Go p e below _ (T155.setTop (mkF m 366 #[.val (.int p0), .val (.int p1), .val (.int p2), .val (.long q3), .second, .val (.long q4), .second, .val (.int b0v), .val (.int b1v), .val (.int b2v), .val (.int (1 : Int32)), .val (.int (2 : Int32)), .val (.int (0 : Int32)), .val (.int po), .val (.int b0v), .val (.int (0 : Int32)), .val (.int (0 : Int32)), .val (.long (((1 : Int64) <<< (b0v &&& 0x3f).toInt64) - (1 : Int64))), .second, .val (.ref b2), .val (.ref b14), .val (.ref b31), .val (.ref b90), .val (.int (po + (0 : Int32))), .val (.long ((p2.toInt64) &&& (((1 : Int64) <<< (b0v &&& 0x3f).toInt64) - (1 : Int64)))), .second, .val (.long ((((1 : Int64) <<< (b0v &&& 0x3f).toInt64) - (1 : Int64)) <<< ((0 : Int32) &&& 0x3f).toInt64)), .second, .unset, .unset] [(.int (0 : Int32)), (.int po), (.ref b90), (.ref b14)]))
      refine goVirt X155 hx hZ (y := (⟨"com/example/gieres/gieres/model/TupleTable", "state", "([JII)I"⟩ : MethodName)) (z := (⟨"com/example/gieres/gieres/model/TupleTable", "state", "([JII)I"⟩ : MethodName)) hown (hw _ (List.mem_of_getElem? (i := 45) rfl)) (hw _ (List.mem_of_getElem? (i := 46) rfl)) (notFace_of_selects (args := #[]) (mvT hZ (hw _ (List.mem_of_getElem? (i := 48) rfl)))) (hw _ (List.mem_of_getElem? (i := 48) rfl)) (hw _ (List.mem_of_getElem? (i := 47) rfl)) (hw _ (List.mem_of_getElem? (i := 3) rfl)) (hw _ (List.mem_of_getElem? (i := 49) rfl)) (by decide) (a := b14) (argsL := [(.ref b90), (.int po), (.int (0 : Int32))]) (rest := []) rfl E_157 (rmG0 l Z a0 hw [] b14 b90 aw as am kw ks km (0 : Int32) (0 : Int32) (1 : Int32) (0 : Int32) b0v (0 : Int32) (own_mask b0v) (own_mask b1v) (own_mask b2v) 4 f1 po T155.heap n0 O156 F158 V_159 F160 V_161 F162 V_163 KA155 HJ.1 HJ.2) 0 (by decide) (by decide) (by decide) (by decide) (mkF m 366 #[.val (.int p0), .val (.int p1), .val (.int p2), .val (.long q3), .second, .val (.long q4), .second, .val (.int b0v), .val (.int b1v), .val (.int b2v), .val (.int (1 : Int32)), .val (.int (2 : Int32)), .val (.int (0 : Int32)), .val (.int po), .val (.int b0v), .val (.int (0 : Int32)), .val (.int (0 : Int32)), .val (.long (((1 : Int64) <<< (b0v &&& 0x3f).toInt64) - (1 : Int64))), .second, .val (.ref b2), .val (.ref b14), .val (.ref b31), .val (.ref b90), .val (.int (po + (0 : Int32))), .val (.long ((p2.toInt64) &&& (((1 : Int64) <<< (b0v &&& 0x3f).toInt64) - (1 : Int64)))), .second, .val (.long ((((1 : Int64) <<< (b0v &&& 0x3f).toInt64) - (1 : Int64)) <<< ((0 : Int32) &&& 0x3f).toInt64)), .second, .unset, .unset] [(.int (0 : Int32)), (.int po), (.ref b90), (.ref b14)]) rfl (by rw [hml]; rfl) (lenOf pd_4 rfl) rfl (hb hby at_366) (Nat.le_of_eq rfl) ?_
      intro v167 T167 L167 X167 hQ167
      obtain ⟨rfl, M167, e167⟩ := hQ167
      have N167 := Fr.app N155 M167
      show Go p e below _ (T167.setTop (mkF m 369 #[.val (.int p0), .val (.int p1), .val (.int p2), .val (.long q3), .second, .val (.long q4), .second, .val (.int b0v), .val (.int b1v), .val (.int b2v), .val (.int (1 : Int32)), .val (.int (2 : Int32)), .val (.int (0 : Int32)), .val (.int po), .val (.int b0v), .val (.int (0 : Int32)), .val (.int (0 : Int32)), .val (.long (((1 : Int64) <<< (b0v &&& 0x3f).toInt64) - (1 : Int64))), .second, .val (.ref b2), .val (.ref b14), .val (.ref b31), .val (.ref b90), .val (.int (po + (0 : Int32))), .val (.long ((p2.toInt64) &&& (((1 : Int64) <<< (b0v &&& 0x3f).toInt64) - (1 : Int64)))), .second, .val (.long ((((1 : Int64) <<< (b0v &&& 0x3f).toInt64) - (1 : Int64)) <<< ((0 : Int32) &&& 0x3f).toInt64)), .second, .unset, .unset] [(.int ((own_get (f1 (po + (0 : Int32)).toNatClampNeg) (own_mask b0v) (0 : Int32)).toInt32))]))
      refine Go.st (fun _ => XS.lload X167.here hx rfl (hb hby at_369) rfl) ?_
      refine Go.st (fun _ => XS.l2i X167.here hx rfl (hb hby at_371) rfl) ?_
      refine Go.st (fun _ => XS.icmpNo X167.here hx rfl (hb hby at_372) rfl (teq (congrArg Int64.toInt32 GV)).2) ?_
      refine Go.st (fun _ => XS.iconst X167.here hx rfl (hb hby at_375)) ?_
      refine Go.st (fun _ => XS.goto X167.here hx rfl (pc0 := 376) (pc' := 380) rfl (hb hby at_376) (by decide) (by decide)) ?_
      refine Go.st (fun _ => XS.istore X167.here hx rfl (hb hby at_380) rfl (l' := #[.val (.int p0), .val (.int p1), .val (.int p2), .val (.long q3), .second, .val (.long q4), .second, .val (.int b0v), .val (.int b1v), .val (.int b2v), .val (.int (1 : Int32)), .val (.int (2 : Int32)), .val (.int (0 : Int32)), .val (.int po), .val (.int b0v), .val (.int (0 : Int32)), .val (.int (0 : Int32)), .val (.long (((1 : Int64) <<< (b0v &&& 0x3f).toInt64) - (1 : Int64))), .second, .val (.ref b2), .val (.ref b14), .val (.ref b31), .val (.ref b90), .val (.int (po + (0 : Int32))), .val (.long ((p2.toInt64) &&& (((1 : Int64) <<< (b0v &&& 0x3f).toInt64) - (1 : Int64)))), .second, .val (.long ((((1 : Int64) <<< (b0v &&& 0x3f).toInt64) - (1 : Int64)) <<< ((0 : Int32) &&& 0x3f).toInt64)), .second, .val (.int (1 : Int32)), .unset]) rfl) ?_
      refine Go.st (fun _ => XS.aload X167.here hx rfl (hb hby at_382) rfl rfl) ?_
      refine Go.st (fun _ => XS.aload X167.here hx rfl (hb hby at_384) rfl rfl) ?_
      refine Go.st (fun _ => XS.iconst X167.here hx rfl (hb hby at_386)) ?_
      refine Go.st (fun _ => XS.iload X167.here hx rfl (hb hby at_387) rfl) ?_
      refine Go.st (fun _ => XS.lload X167.here hx rfl (hb hby at_389) rfl) ?_
      show Go p e below _ (T167.setTop (mkF m 391 #[.val (.int p0), .val (.int p1), .val (.int p2), .val (.long q3), .second, .val (.long q4), .second, .val (.int b0v), .val (.int b1v), .val (.int b2v), .val (.int (1 : Int32)), .val (.int (2 : Int32)), .val (.int (0 : Int32)), .val (.int po), .val (.int b0v), .val (.int (0 : Int32)), .val (.int (0 : Int32)), .val (.long (((1 : Int64) <<< (b0v &&& 0x3f).toInt64) - (1 : Int64))), .second, .val (.ref b2), .val (.ref b14), .val (.ref b31), .val (.ref b90), .val (.int (po + (0 : Int32))), .val (.long ((p2.toInt64) &&& (((1 : Int64) <<< (b0v &&& 0x3f).toInt64) - (1 : Int64)))), .second, .val (.long ((((1 : Int64) <<< (b0v &&& 0x3f).toInt64) - (1 : Int64)) <<< ((0 : Int32) &&& 0x3f).toInt64)), .second, .val (.int (1 : Int32)), .unset] [(.long ((((1 : Int64) <<< (b0v &&& 0x3f).toInt64) - (1 : Int64)) <<< ((0 : Int32) &&& 0x3f).toInt64)), (.int (po + (0 : Int32))), (.int (0 : Int32)), (.ref b31), (.ref b90)]))
      refine goCallS X167 hx hZ (y := (⟨"com/example/gieres/gieres/model/TupleTableSetStatePinLaw", "same", "([J[JIIJ)Z"⟩ : MethodName)) hown (hw _ (List.mem_of_getElem? (i := 50) rfl)) (hw _ (List.mem_of_getElem? (i := 51) rfl)) (hw _ (List.mem_of_getElem? (i := 52) rfl)) (hw _ (List.mem_of_getElem? (i := 53) rfl)) (by decide) (argsL := [(.ref b90), (.ref b31), (.int (0 : Int32)), (.int (po + (0 : Int32))), (.long ((((1 : Int64) <<< (b0v &&& 0x3f).toInt64) - (1 : Int64)) <<< ((0 : Int32) &&& 0x3f).toInt64))]) (rest := []) e167 (rmSame l Z a0 hw [] b90 b31 (0 : Int32) (po + (0 : Int32)) (4 : Int32) ((((1 : Int64) <<< (b0v &&& 0x3f).toInt64) - (1 : Int64)) <<< ((0 : Int32) &&& 0x3f).toInt64) 4 f1 f0 T155.heap n0 O156 KA155 VL165 rfl rfl (by decide) (own_same1 PL hf1) (own_same2 (by decide) HJ.1 hf1)) 0 (by decide) (by decide) (by decide) (by decide) (mkF m 391 #[.val (.int p0), .val (.int p1), .val (.int p2), .val (.long q3), .second, .val (.long q4), .second, .val (.int b0v), .val (.int b1v), .val (.int b2v), .val (.int (1 : Int32)), .val (.int (2 : Int32)), .val (.int (0 : Int32)), .val (.int po), .val (.int b0v), .val (.int (0 : Int32)), .val (.int (0 : Int32)), .val (.long (((1 : Int64) <<< (b0v &&& 0x3f).toInt64) - (1 : Int64))), .second, .val (.ref b2), .val (.ref b14), .val (.ref b31), .val (.ref b90), .val (.int (po + (0 : Int32))), .val (.long ((p2.toInt64) &&& (((1 : Int64) <<< (b0v &&& 0x3f).toInt64) - (1 : Int64)))), .second, .val (.long ((((1 : Int64) <<< (b0v &&& 0x3f).toInt64) - (1 : Int64)) <<< ((0 : Int32) &&& 0x3f).toInt64)), .second, .val (.int (1 : Int32)), .unset] [(.long ((((1 : Int64) <<< (b0v &&& 0x3f).toInt64) - (1 : Int64)) <<< ((0 : Int32) &&& 0x3f).toInt64)), (.int (po + (0 : Int32))), (.int (0 : Int32)), (.ref b31), (.ref b90)]) rfl (by rw [hml]; rfl) (lenOf pd_5 rfl) rfl (hb hby at_391) (Nat.le_of_eq rfl) ?_
      intro v168 T168 L168 X168 hQ168
      obtain ⟨rfl, M168, e168⟩ := hQ168
      have N168 := Fr.app N167 M168
      show Go p e below _ (T168.setTop (mkF m 394 #[.val (.int p0), .val (.int p1), .val (.int p2), .val (.long q3), .second, .val (.long q4), .second, .val (.int b0v), .val (.int b1v), .val (.int b2v), .val (.int (1 : Int32)), .val (.int (2 : Int32)), .val (.int (0 : Int32)), .val (.int po), .val (.int b0v), .val (.int (0 : Int32)), .val (.int (0 : Int32)), .val (.long (((1 : Int64) <<< (b0v &&& 0x3f).toInt64) - (1 : Int64))), .second, .val (.ref b2), .val (.ref b14), .val (.ref b31), .val (.ref b90), .val (.int (po + (0 : Int32))), .val (.long ((p2.toInt64) &&& (((1 : Int64) <<< (b0v &&& 0x3f).toInt64) - (1 : Int64)))), .second, .val (.long ((((1 : Int64) <<< (b0v &&& 0x3f).toInt64) - (1 : Int64)) <<< ((0 : Int32) &&& 0x3f).toInt64)), .second, .val (.int (1 : Int32)), .unset] [(.int (1 : Int32))]))
      refine Go.st (fun _ => XS.ifNo X168.here hx rfl (hb hby at_394) rfl ((if0 _ _).trans (feq (by decide : ¬ ((1 : Int32) = (0 : Int32)))).1)) ?_
      refine Go.st (fun _ => XS.aload X168.here hx rfl (hb hby at_397) rfl rfl) ?_
      refine Go.st (fun _ => XS.aload X168.here hx rfl (hb hby at_399) rfl rfl) ?_
      refine Go.st (fun _ => XS.iconst X168.here hx rfl (hb hby at_401)) ?_
      refine Go.st (fun _ => XS.iload X168.here hx rfl (hb hby at_402) rfl) ?_
      refine Go.st (fun _ => XS.lload X168.here hx rfl (hb hby at_404) rfl) ?_
      show Go p e below _ (T168.setTop (mkF m 406 #[.val (.int p0), .val (.int p1), .val (.int p2), .val (.long q3), .second, .val (.long q4), .second, .val (.int b0v), .val (.int b1v), .val (.int b2v), .val (.int (1 : Int32)), .val (.int (2 : Int32)), .val (.int (0 : Int32)), .val (.int po), .val (.int b0v), .val (.int (0 : Int32)), .val (.int (0 : Int32)), .val (.long (((1 : Int64) <<< (b0v &&& 0x3f).toInt64) - (1 : Int64))), .second, .val (.ref b2), .val (.ref b14), .val (.ref b31), .val (.ref b90), .val (.int (po + (0 : Int32))), .val (.long ((p2.toInt64) &&& (((1 : Int64) <<< (b0v &&& 0x3f).toInt64) - (1 : Int64)))), .second, .val (.long ((((1 : Int64) <<< (b0v &&& 0x3f).toInt64) - (1 : Int64)) <<< ((0 : Int32) &&& 0x3f).toInt64)), .second, .val (.int (1 : Int32)), .unset] [(.long ((((1 : Int64) <<< (b0v &&& 0x3f).toInt64) - (1 : Int64)) <<< ((0 : Int32) &&& 0x3f).toInt64)), (.int (po + (0 : Int32))), (.int (1 : Int32)), (.ref b31), (.ref b90)]))
      refine goCallS X168 hx hZ (y := (⟨"com/example/gieres/gieres/model/TupleTableSetStatePinLaw", "same", "([J[JIIJ)Z"⟩ : MethodName)) hown (hw _ (List.mem_of_getElem? (i := 50) rfl)) (hw _ (List.mem_of_getElem? (i := 51) rfl)) (hw _ (List.mem_of_getElem? (i := 52) rfl)) (hw _ (List.mem_of_getElem? (i := 53) rfl)) (by decide) (argsL := [(.ref b90), (.ref b31), (.int (1 : Int32)), (.int (po + (0 : Int32))), (.long ((((1 : Int64) <<< (b0v &&& 0x3f).toInt64) - (1 : Int64)) <<< ((0 : Int32) &&& 0x3f).toInt64))]) (rest := []) e168 (rmSame l Z a0 hw [] b90 b31 (1 : Int32) (po + (0 : Int32)) (4 : Int32) ((((1 : Int64) <<< (b0v &&& 0x3f).toInt64) - (1 : Int64)) <<< ((0 : Int32) &&& 0x3f).toInt64) 4 f1 f0 T155.heap n0 O156 KA155 VL165 rfl rfl (by decide) (own_same1 PL hf1) (own_same2 (by decide) HJ.1 hf1)) 0 (by decide) (by decide) (by decide) (by decide) (mkF m 406 #[.val (.int p0), .val (.int p1), .val (.int p2), .val (.long q3), .second, .val (.long q4), .second, .val (.int b0v), .val (.int b1v), .val (.int b2v), .val (.int (1 : Int32)), .val (.int (2 : Int32)), .val (.int (0 : Int32)), .val (.int po), .val (.int b0v), .val (.int (0 : Int32)), .val (.int (0 : Int32)), .val (.long (((1 : Int64) <<< (b0v &&& 0x3f).toInt64) - (1 : Int64))), .second, .val (.ref b2), .val (.ref b14), .val (.ref b31), .val (.ref b90), .val (.int (po + (0 : Int32))), .val (.long ((p2.toInt64) &&& (((1 : Int64) <<< (b0v &&& 0x3f).toInt64) - (1 : Int64)))), .second, .val (.long ((((1 : Int64) <<< (b0v &&& 0x3f).toInt64) - (1 : Int64)) <<< ((0 : Int32) &&& 0x3f).toInt64)), .second, .val (.int (1 : Int32)), .unset] [(.long ((((1 : Int64) <<< (b0v &&& 0x3f).toInt64) - (1 : Int64)) <<< ((0 : Int32) &&& 0x3f).toInt64)), (.int (po + (0 : Int32))), (.int (1 : Int32)), (.ref b31), (.ref b90)]) rfl (by rw [hml]; rfl) (lenOf pd_5 rfl) rfl (hb hby at_406) (Nat.le_of_eq rfl) ?_
      intro v169 T169 L169 X169 hQ169
      obtain ⟨rfl, M169, e169⟩ := hQ169
      have N169 := Fr.app N168 M169
      show Go p e below _ (T169.setTop (mkF m 409 #[.val (.int p0), .val (.int p1), .val (.int p2), .val (.long q3), .second, .val (.long q4), .second, .val (.int b0v), .val (.int b1v), .val (.int b2v), .val (.int (1 : Int32)), .val (.int (2 : Int32)), .val (.int (0 : Int32)), .val (.int po), .val (.int b0v), .val (.int (0 : Int32)), .val (.int (0 : Int32)), .val (.long (((1 : Int64) <<< (b0v &&& 0x3f).toInt64) - (1 : Int64))), .second, .val (.ref b2), .val (.ref b14), .val (.ref b31), .val (.ref b90), .val (.int (po + (0 : Int32))), .val (.long ((p2.toInt64) &&& (((1 : Int64) <<< (b0v &&& 0x3f).toInt64) - (1 : Int64)))), .second, .val (.long ((((1 : Int64) <<< (b0v &&& 0x3f).toInt64) - (1 : Int64)) <<< ((0 : Int32) &&& 0x3f).toInt64)), .second, .val (.int (1 : Int32)), .unset] [(.int (1 : Int32))]))
      refine Go.st (fun _ => XS.ifNo X169.here hx rfl (hb hby at_409) rfl ((if0 _ _).trans (feq (by decide : ¬ ((1 : Int32) = (0 : Int32)))).1)) ?_
      refine Go.st (fun _ => XS.aload X169.here hx rfl (hb hby at_412) rfl rfl) ?_
      refine Go.st (fun _ => XS.aload X169.here hx rfl (hb hby at_414) rfl rfl) ?_
      refine Go.st (fun _ => XS.iconst X169.here hx rfl (hb hby at_416)) ?_
      refine Go.st (fun _ => XS.iload X169.here hx rfl (hb hby at_417) rfl) ?_
      refine Go.st (fun _ => XS.lload X169.here hx rfl (hb hby at_419) rfl) ?_
      show Go p e below _ (T169.setTop (mkF m 421 #[.val (.int p0), .val (.int p1), .val (.int p2), .val (.long q3), .second, .val (.long q4), .second, .val (.int b0v), .val (.int b1v), .val (.int b2v), .val (.int (1 : Int32)), .val (.int (2 : Int32)), .val (.int (0 : Int32)), .val (.int po), .val (.int b0v), .val (.int (0 : Int32)), .val (.int (0 : Int32)), .val (.long (((1 : Int64) <<< (b0v &&& 0x3f).toInt64) - (1 : Int64))), .second, .val (.ref b2), .val (.ref b14), .val (.ref b31), .val (.ref b90), .val (.int (po + (0 : Int32))), .val (.long ((p2.toInt64) &&& (((1 : Int64) <<< (b0v &&& 0x3f).toInt64) - (1 : Int64)))), .second, .val (.long ((((1 : Int64) <<< (b0v &&& 0x3f).toInt64) - (1 : Int64)) <<< ((0 : Int32) &&& 0x3f).toInt64)), .second, .val (.int (1 : Int32)), .unset] [(.long ((((1 : Int64) <<< (b0v &&& 0x3f).toInt64) - (1 : Int64)) <<< ((0 : Int32) &&& 0x3f).toInt64)), (.int (po + (0 : Int32))), (.int (2 : Int32)), (.ref b31), (.ref b90)]))
      refine goCallS X169 hx hZ (y := (⟨"com/example/gieres/gieres/model/TupleTableSetStatePinLaw", "same", "([J[JIIJ)Z"⟩ : MethodName)) hown (hw _ (List.mem_of_getElem? (i := 50) rfl)) (hw _ (List.mem_of_getElem? (i := 51) rfl)) (hw _ (List.mem_of_getElem? (i := 52) rfl)) (hw _ (List.mem_of_getElem? (i := 53) rfl)) (by decide) (argsL := [(.ref b90), (.ref b31), (.int (2 : Int32)), (.int (po + (0 : Int32))), (.long ((((1 : Int64) <<< (b0v &&& 0x3f).toInt64) - (1 : Int64)) <<< ((0 : Int32) &&& 0x3f).toInt64))]) (rest := []) e169 (rmSame l Z a0 hw [] b90 b31 (2 : Int32) (po + (0 : Int32)) (4 : Int32) ((((1 : Int64) <<< (b0v &&& 0x3f).toInt64) - (1 : Int64)) <<< ((0 : Int32) &&& 0x3f).toInt64) 4 f1 f0 T155.heap n0 O156 KA155 VL165 rfl rfl (by decide) (own_same1 PL hf1) (own_same2 (by decide) HJ.1 hf1)) 0 (by decide) (by decide) (by decide) (by decide) (mkF m 421 #[.val (.int p0), .val (.int p1), .val (.int p2), .val (.long q3), .second, .val (.long q4), .second, .val (.int b0v), .val (.int b1v), .val (.int b2v), .val (.int (1 : Int32)), .val (.int (2 : Int32)), .val (.int (0 : Int32)), .val (.int po), .val (.int b0v), .val (.int (0 : Int32)), .val (.int (0 : Int32)), .val (.long (((1 : Int64) <<< (b0v &&& 0x3f).toInt64) - (1 : Int64))), .second, .val (.ref b2), .val (.ref b14), .val (.ref b31), .val (.ref b90), .val (.int (po + (0 : Int32))), .val (.long ((p2.toInt64) &&& (((1 : Int64) <<< (b0v &&& 0x3f).toInt64) - (1 : Int64)))), .second, .val (.long ((((1 : Int64) <<< (b0v &&& 0x3f).toInt64) - (1 : Int64)) <<< ((0 : Int32) &&& 0x3f).toInt64)), .second, .val (.int (1 : Int32)), .unset] [(.long ((((1 : Int64) <<< (b0v &&& 0x3f).toInt64) - (1 : Int64)) <<< ((0 : Int32) &&& 0x3f).toInt64)), (.int (po + (0 : Int32))), (.int (2 : Int32)), (.ref b31), (.ref b90)]) rfl (by rw [hml]; rfl) (lenOf pd_5 rfl) rfl (hb hby at_421) (Nat.le_of_eq rfl) ?_
      intro v170 T170 L170 X170 hQ170
      obtain ⟨rfl, M170, e170⟩ := hQ170
      have N170 := Fr.app N169 M170
      show Go p e below _ (T170.setTop (mkF m 424 #[.val (.int p0), .val (.int p1), .val (.int p2), .val (.long q3), .second, .val (.long q4), .second, .val (.int b0v), .val (.int b1v), .val (.int b2v), .val (.int (1 : Int32)), .val (.int (2 : Int32)), .val (.int (0 : Int32)), .val (.int po), .val (.int b0v), .val (.int (0 : Int32)), .val (.int (0 : Int32)), .val (.long (((1 : Int64) <<< (b0v &&& 0x3f).toInt64) - (1 : Int64))), .second, .val (.ref b2), .val (.ref b14), .val (.ref b31), .val (.ref b90), .val (.int (po + (0 : Int32))), .val (.long ((p2.toInt64) &&& (((1 : Int64) <<< (b0v &&& 0x3f).toInt64) - (1 : Int64)))), .second, .val (.long ((((1 : Int64) <<< (b0v &&& 0x3f).toInt64) - (1 : Int64)) <<< ((0 : Int32) &&& 0x3f).toInt64)), .second, .val (.int (1 : Int32)), .unset] [(.int (1 : Int32))]))
      refine Go.st (fun _ => XS.ifNo X170.here hx rfl (hb hby at_424) rfl ((if0 _ _).trans (feq (by decide : ¬ ((1 : Int32) = (0 : Int32)))).1)) ?_
      refine Go.st (fun _ => XS.aload X170.here hx rfl (hb hby at_427) rfl rfl) ?_
      refine Go.st (fun _ => XS.aload X170.here hx rfl (hb hby at_429) rfl rfl) ?_
      refine Go.st (fun _ => XS.iconst X170.here hx rfl (hb hby at_431)) ?_
      refine Go.st (fun _ => XS.iload X170.here hx rfl (hb hby at_432) rfl) ?_
      refine Go.st (fun _ => XS.lload X170.here hx rfl (hb hby at_434) rfl) ?_
      show Go p e below _ (T170.setTop (mkF m 436 #[.val (.int p0), .val (.int p1), .val (.int p2), .val (.long q3), .second, .val (.long q4), .second, .val (.int b0v), .val (.int b1v), .val (.int b2v), .val (.int (1 : Int32)), .val (.int (2 : Int32)), .val (.int (0 : Int32)), .val (.int po), .val (.int b0v), .val (.int (0 : Int32)), .val (.int (0 : Int32)), .val (.long (((1 : Int64) <<< (b0v &&& 0x3f).toInt64) - (1 : Int64))), .second, .val (.ref b2), .val (.ref b14), .val (.ref b31), .val (.ref b90), .val (.int (po + (0 : Int32))), .val (.long ((p2.toInt64) &&& (((1 : Int64) <<< (b0v &&& 0x3f).toInt64) - (1 : Int64)))), .second, .val (.long ((((1 : Int64) <<< (b0v &&& 0x3f).toInt64) - (1 : Int64)) <<< ((0 : Int32) &&& 0x3f).toInt64)), .second, .val (.int (1 : Int32)), .unset] [(.long ((((1 : Int64) <<< (b0v &&& 0x3f).toInt64) - (1 : Int64)) <<< ((0 : Int32) &&& 0x3f).toInt64)), (.int (po + (0 : Int32))), (.int (3 : Int32)), (.ref b31), (.ref b90)]))
      refine goCallS X170 hx hZ (y := (⟨"com/example/gieres/gieres/model/TupleTableSetStatePinLaw", "same", "([J[JIIJ)Z"⟩ : MethodName)) hown (hw _ (List.mem_of_getElem? (i := 50) rfl)) (hw _ (List.mem_of_getElem? (i := 51) rfl)) (hw _ (List.mem_of_getElem? (i := 52) rfl)) (hw _ (List.mem_of_getElem? (i := 53) rfl)) (by decide) (argsL := [(.ref b90), (.ref b31), (.int (3 : Int32)), (.int (po + (0 : Int32))), (.long ((((1 : Int64) <<< (b0v &&& 0x3f).toInt64) - (1 : Int64)) <<< ((0 : Int32) &&& 0x3f).toInt64))]) (rest := []) e170 (rmSame l Z a0 hw [] b90 b31 (3 : Int32) (po + (0 : Int32)) (4 : Int32) ((((1 : Int64) <<< (b0v &&& 0x3f).toInt64) - (1 : Int64)) <<< ((0 : Int32) &&& 0x3f).toInt64) 4 f1 f0 T155.heap n0 O156 KA155 VL165 rfl rfl (by decide) (own_same1 PL hf1) (own_same2 (by decide) HJ.1 hf1)) 0 (by decide) (by decide) (by decide) (by decide) (mkF m 436 #[.val (.int p0), .val (.int p1), .val (.int p2), .val (.long q3), .second, .val (.long q4), .second, .val (.int b0v), .val (.int b1v), .val (.int b2v), .val (.int (1 : Int32)), .val (.int (2 : Int32)), .val (.int (0 : Int32)), .val (.int po), .val (.int b0v), .val (.int (0 : Int32)), .val (.int (0 : Int32)), .val (.long (((1 : Int64) <<< (b0v &&& 0x3f).toInt64) - (1 : Int64))), .second, .val (.ref b2), .val (.ref b14), .val (.ref b31), .val (.ref b90), .val (.int (po + (0 : Int32))), .val (.long ((p2.toInt64) &&& (((1 : Int64) <<< (b0v &&& 0x3f).toInt64) - (1 : Int64)))), .second, .val (.long ((((1 : Int64) <<< (b0v &&& 0x3f).toInt64) - (1 : Int64)) <<< ((0 : Int32) &&& 0x3f).toInt64)), .second, .val (.int (1 : Int32)), .unset] [(.long ((((1 : Int64) <<< (b0v &&& 0x3f).toInt64) - (1 : Int64)) <<< ((0 : Int32) &&& 0x3f).toInt64)), (.int (po + (0 : Int32))), (.int (3 : Int32)), (.ref b31), (.ref b90)]) rfl (by rw [hml]; rfl) (lenOf pd_5 rfl) rfl (hb hby at_436) (Nat.le_of_eq rfl) ?_
      intro v171 T171 L171 X171 hQ171
      obtain ⟨rfl, M171, e171⟩ := hQ171
      have N171 := Fr.app N170 M171
      show Go p e below _ (T171.setTop (mkF m 439 #[.val (.int p0), .val (.int p1), .val (.int p2), .val (.long q3), .second, .val (.long q4), .second, .val (.int b0v), .val (.int b1v), .val (.int b2v), .val (.int (1 : Int32)), .val (.int (2 : Int32)), .val (.int (0 : Int32)), .val (.int po), .val (.int b0v), .val (.int (0 : Int32)), .val (.int (0 : Int32)), .val (.long (((1 : Int64) <<< (b0v &&& 0x3f).toInt64) - (1 : Int64))), .second, .val (.ref b2), .val (.ref b14), .val (.ref b31), .val (.ref b90), .val (.int (po + (0 : Int32))), .val (.long ((p2.toInt64) &&& (((1 : Int64) <<< (b0v &&& 0x3f).toInt64) - (1 : Int64)))), .second, .val (.long ((((1 : Int64) <<< (b0v &&& 0x3f).toInt64) - (1 : Int64)) <<< ((0 : Int32) &&& 0x3f).toInt64)), .second, .val (.int (1 : Int32)), .unset] [(.int (1 : Int32))]))
      refine Go.st (fun _ => XS.ifNo X171.here hx rfl (hb hby at_439) rfl ((if0 _ _).trans (feq (by decide : ¬ ((1 : Int32) = (0 : Int32)))).1)) ?_
      refine Go.st (fun _ => XS.iconst X171.here hx rfl (hb hby at_442)) ?_
      refine Go.st (fun _ => XS.goto X171.here hx rfl (pc0 := 443) (pc' := 447) rfl (hb hby at_443) (by decide) (by decide)) ?_
      refine Go.st (fun _ => XS.istore X171.here hx rfl (hb hby at_447) rfl (l' := #[.val (.int p0), .val (.int p1), .val (.int p2), .val (.long q3), .second, .val (.long q4), .second, .val (.int b0v), .val (.int b1v), .val (.int b2v), .val (.int (1 : Int32)), .val (.int (2 : Int32)), .val (.int (0 : Int32)), .val (.int po), .val (.int b0v), .val (.int (0 : Int32)), .val (.int (0 : Int32)), .val (.long (((1 : Int64) <<< (b0v &&& 0x3f).toInt64) - (1 : Int64))), .second, .val (.ref b2), .val (.ref b14), .val (.ref b31), .val (.ref b90), .val (.int (po + (0 : Int32))), .val (.long ((p2.toInt64) &&& (((1 : Int64) <<< (b0v &&& 0x3f).toInt64) - (1 : Int64)))), .second, .val (.long ((((1 : Int64) <<< (b0v &&& 0x3f).toInt64) - (1 : Int64)) <<< ((0 : Int32) &&& 0x3f).toInt64)), .second, .val (.int (1 : Int32)), .val (.int (1 : Int32))]) rfl) ?_
      refine Go.st (fun _ => XS.iload X171.here hx rfl (hb hby at_449) rfl) ?_
      refine Go.st (fun _ => XS.ifNo X171.here hx rfl (hb hby at_451) rfl ((if0 _ _).trans (feq (by decide : ¬ ((1 : Int32) = (0 : Int32)))).1)) ?_
      refine Go.st (fun _ => XS.iload X171.here hx rfl (hb hby at_454) rfl) ?_
      refine Go.st (fun _ => XS.ifNo X171.here hx rfl (hb hby at_456) rfl ((if0 _ _).trans (feq (by decide : ¬ ((1 : Int32) = (0 : Int32)))).1)) ?_
      refine Go.st (fun _ => XS.iconst X171.here hx rfl (hb hby at_459)) ?_
      refine Go.st (fun _ => XS.goto X171.here hx rfl (pc0 := 460) (pc' := 464) rfl (hb hby at_460) (by decide) (by decide)) ?_
      show Go p e below _ (T171.setTop (mkF m 464 #[.val (.int p0), .val (.int p1), .val (.int p2), .val (.long q3), .second, .val (.long q4), .second, .val (.int b0v), .val (.int b1v), .val (.int b2v), .val (.int (1 : Int32)), .val (.int (2 : Int32)), .val (.int (0 : Int32)), .val (.int po), .val (.int b0v), .val (.int (0 : Int32)), .val (.int (0 : Int32)), .val (.long (((1 : Int64) <<< (b0v &&& 0x3f).toInt64) - (1 : Int64))), .second, .val (.ref b2), .val (.ref b14), .val (.ref b31), .val (.ref b90), .val (.int (po + (0 : Int32))), .val (.long ((p2.toInt64) &&& (((1 : Int64) <<< (b0v &&& 0x3f).toInt64) - (1 : Int64)))), .second, .val (.long ((((1 : Int64) <<< (b0v &&& 0x3f).toInt64) - (1 : Int64)) <<< ((0 : Int32) &&& 0x3f).toInt64)), .second, .val (.int (1 : Int32)), .val (.int (1 : Int32))] [(.int (1 : Int32))]))
      exact goRetN X171 hx hlk hret (t := .boolean) (by simp) (w := (1 : Int32)) (by decide) e171 (hb hby at_464) (by decide) (by decide) ⟨rfl, N171⟩
    · rw [qf]
      show Go p e below _ (s₁.setTop (mkF m 70 #[.val (.int p0), .val (.int p1), .val (.int p2), .val (.long q3), .second, .val (.long q4), .second, .val (.int b0v), .val (.int b1v), .val (.int b2v), .val (.int (1 : Int32)), .val (.int (2 : Int32)), .unset, .unset, .unset, .unset, .unset, .unset, .unset, .unset, .unset, .unset, .unset, .unset, .unset, .unset, .unset, .unset, .unset, .unset] [(.int (1 : Int32))]))
      refine Go.st (fun _ => XS.istore X0.here hx rfl (hb hby at_70) rfl (l' := #[.val (.int p0), .val (.int p1), .val (.int p2), .val (.long q3), .second, .val (.long q4), .second, .val (.int b0v), .val (.int b1v), .val (.int b2v), .val (.int (1 : Int32)), .val (.int (2 : Int32)), .val (.int (1 : Int32)), .unset, .unset, .unset, .unset, .unset, .unset, .unset, .unset, .unset, .unset, .unset, .unset, .unset, .unset, .unset, .unset, .unset]) rfl) ?_
      refine Go.st (fun _ => XS.iloadN X0.here hx rfl (hb hby at_72) rfl) ?_
      refine Go.st (fun _ => XS.iconst X0.here hx rfl (hb hby at_73)) ?_
      refine Go.st (fun _ => XS.iushr X0.here hx rfl (hb hby at_74) rfl) ?_
      refine Go.st (fun _ => XS.iconst X0.here hx rfl (hb hby at_75)) ?_
      refine Go.st (fun _ => XS.iand X0.here hx rfl (hb hby at_76) rfl) ?_
      refine Go.st (fun _ => XS.iload X0.here hx rfl (hb hby at_77) rfl) ?_
      refine Go.st (fun _ => XS.imul X0.here hx rfl (hb hby at_79) rfl) ?_
      refine Go.st (fun _ => XS.istore X0.here hx rfl (hb hby at_80) rfl (l' := #[.val (.int p0), .val (.int p1), .val (.int p2), .val (.long q3), .second, .val (.long q4), .second, .val (.int b0v), .val (.int b1v), .val (.int b2v), .val (.int (1 : Int32)), .val (.int (2 : Int32)), .val (.int (1 : Int32)), .val (.int ((((p1.toUInt32 >>> ((2 : Int32) &&& 31).toUInt32).toInt32) &&& (1 : Int32)) * (2 : Int32))), .unset, .unset, .unset, .unset, .unset, .unset, .unset, .unset, .unset, .unset, .unset, .unset, .unset, .unset, .unset, .unset]) rfl) ?_
      show Go p e below _ (s₁.setTop (mkF m 82 #[.val (.int p0), .val (.int p1), .val (.int p2), .val (.long q3), .second, .val (.long q4), .second, .val (.int b0v), .val (.int b1v), .val (.int b2v), .val (.int (1 : Int32)), .val (.int (2 : Int32)), .val (.int (1 : Int32)), .val (.int ((((p1.toUInt32 >>> ((2 : Int32) &&& 31).toUInt32).toInt32) &&& (1 : Int32)) * (2 : Int32))), .unset, .unset, .unset, .unset, .unset, .unset, .unset, .unset, .unset, .unset, .unset, .unset, .unset, .unset, .unset, .unset] []))
      obtain ⟨po, hpo⟩ : ∃ z, z = ((((p1.toUInt32 >>> ((2 : Int32) &&& 31).toUInt32).toInt32) &&& (1 : Int32)) * (2 : Int32)) := ⟨_, rfl⟩
      rw [← hpo]
      have hpb : po = 0 ∨ po = 2 := by rw [hpo]; exact own_po _ _
      have HJ : 0 ≤ (po + (0 : Int32)).toInt ∧ (po + (0 : Int32)).toInt < (4 : Nat) := by rcases hpb with q | q <;> rw [q] <;> decide
      show Go p e below _ (s₁.setTop (mkF m 82 #[.val (.int p0), .val (.int p1), .val (.int p2), .val (.long q3), .second, .val (.long q4), .second, .val (.int b0v), .val (.int b1v), .val (.int b2v), .val (.int (1 : Int32)), .val (.int (2 : Int32)), .val (.int (1 : Int32)), .val (.int po), .unset, .unset, .unset, .unset, .unset, .unset, .unset, .unset, .unset, .unset, .unset, .unset, .unset, .unset, .unset, .unset] []))
      refine Go.st (fun _ => XS.iload X0.here hx rfl (hb hby at_82) rfl) ?_
      refine Go.st (fun _ => XS.ifYes X0.here hx rfl (pc0 := 84) (pc' := 92) rfl (hb hby at_84) rfl ((if0 _ _).trans (feq (by decide : ¬ ((1 : Int32) = (0 : Int32)))).2) (by decide) (by decide)) ?_
      refine Go.st (fun _ => XS.iload X0.here hx rfl (hb hby at_92) rfl) ?_
      refine Go.st (fun _ => XS.iconst X0.here hx rfl (hb hby at_94)) ?_
      refine Go.st (fun _ => XS.icmpNo X0.here hx rfl (hb hby at_95) rfl (teq (by decide : (1 : Int32) = (1 : Int32))).2) ?_
      refine Go.st (fun _ => XS.iload X0.here hx rfl (hb hby at_98) rfl) ?_
      refine Go.st (fun _ => XS.goto X0.here hx rfl (pc0 := 100) (pc' := 105) rfl (hb hby at_100) (by decide) (by decide)) ?_
      refine Go.st (fun _ => XS.istore X0.here hx rfl (hb hby at_105) rfl (l' := #[.val (.int p0), .val (.int p1), .val (.int p2), .val (.long q3), .second, .val (.long q4), .second, .val (.int b0v), .val (.int b1v), .val (.int b2v), .val (.int (1 : Int32)), .val (.int (2 : Int32)), .val (.int (1 : Int32)), .val (.int po), .val (.int b1v), .unset, .unset, .unset, .unset, .unset, .unset, .unset, .unset, .unset, .unset, .unset, .unset, .unset, .unset, .unset]) rfl) ?_
      refine Go.st (fun _ => XS.iload X0.here hx rfl (hb hby at_107) rfl) ?_
      refine Go.st (fun _ => XS.ifYes X0.here hx rfl (pc0 := 109) (pc' := 116) rfl (hb hby at_109) rfl ((if0 _ _).trans (feq (by decide : ¬ ((1 : Int32) = (0 : Int32)))).2) (by decide) (by decide)) ?_
      refine Go.st (fun _ => XS.iload X0.here hx rfl (hb hby at_116) rfl) ?_
      refine Go.st (fun _ => XS.iconst X0.here hx rfl (hb hby at_118)) ?_
      show Go p e below _ (s₁.setTop (mkF m 119 #[.val (.int p0), .val (.int p1), .val (.int p2), .val (.long q3), .second, .val (.long q4), .second, .val (.int b0v), .val (.int b1v), .val (.int b2v), .val (.int (1 : Int32)), .val (.int (2 : Int32)), .val (.int (1 : Int32)), .val (.int po), .val (.int b1v), .unset, .unset, .unset, .unset, .unset, .unset, .unset, .unset, .unset, .unset, .unset, .unset, .unset, .unset, .unset] [(.int (1 : Int32)), (.int (1 : Int32))]))
      refine Go.st (fun _ => XS.icmpNo X0.here hx rfl (hb hby at_119) rfl (teq (by decide : (1 : Int32) = (1 : Int32))).2) ?_
      refine Go.st (fun _ => XS.iload X0.here hx rfl (hb hby at_122) rfl) ?_
      refine Go.st (fun _ => XS.goto X0.here hx rfl (pc0 := 124) (pc' := 141) rfl (hb hby at_124) (by decide) (by decide)) ?_
      refine Go.st (fun _ => XS.istore X0.here hx rfl (hb hby at_141) rfl (l' := #[.val (.int p0), .val (.int p1), .val (.int p2), .val (.long q3), .second, .val (.long q4), .second, .val (.int b0v), .val (.int b1v), .val (.int b2v), .val (.int (1 : Int32)), .val (.int (2 : Int32)), .val (.int (1 : Int32)), .val (.int po), .val (.int b1v), .val (.int b0v), .unset, .unset, .unset, .unset, .unset, .unset, .unset, .unset, .unset, .unset, .unset, .unset, .unset, .unset]) rfl) ?_
      refine Go.st (fun _ => XS.iload X0.here hx rfl (hb hby at_143) rfl) ?_
      refine Go.st (fun _ => XS.iconst X0.here hx rfl (hb hby at_145)) ?_
      refine Go.st (fun _ => XS.icmpYes X0.here hx rfl (pc0 := 146) (pc' := 158) rfl (hb hby at_146) rfl (feq (by decide : ¬ ((1 : Int32) = (2 : Int32)))).2 (by decide) (by decide)) ?_
      refine Go.st (fun _ => XS.iconst X0.here hx rfl (hb hby at_158)) ?_
      refine Go.st (fun _ => XS.istore X0.here hx rfl (hb hby at_159) rfl (l' := #[.val (.int p0), .val (.int p1), .val (.int p2), .val (.long q3), .second, .val (.long q4), .second, .val (.int b0v), .val (.int b1v), .val (.int b2v), .val (.int (1 : Int32)), .val (.int (2 : Int32)), .val (.int (1 : Int32)), .val (.int po), .val (.int b1v), .val (.int b0v), .val (.int (0 : Int32)), .unset, .unset, .unset, .unset, .unset, .unset, .unset, .unset, .unset, .unset, .unset, .unset, .unset]) rfl) ?_
      refine Go.st (fun _ => XS.lconst X0.here hx rfl (hb hby at_161)) ?_
      refine Go.st (fun _ => XS.iload X0.here hx rfl (hb hby at_162) rfl) ?_
      refine Go.st (fun _ => XS.lshl X0.here hx rfl (hb hby at_164) rfl) ?_
      show Go p e below _ (s₁.setTop (mkF m 165 #[.val (.int p0), .val (.int p1), .val (.int p2), .val (.long q3), .second, .val (.long q4), .second, .val (.int b0v), .val (.int b1v), .val (.int b2v), .val (.int (1 : Int32)), .val (.int (2 : Int32)), .val (.int (1 : Int32)), .val (.int po), .val (.int b1v), .val (.int b0v), .val (.int (0 : Int32)), .unset, .unset, .unset, .unset, .unset, .unset, .unset, .unset, .unset, .unset, .unset, .unset, .unset] [(.long ((1 : Int64) <<< (b1v &&& 0x3f).toInt64))]))
      refine Go.st (fun _ => XS.lconst X0.here hx rfl (hb hby at_165)) ?_
      refine Go.st (fun _ => XS.lsub X0.here hx rfl (hb hby at_166) rfl) ?_
      refine Go.st (fun _ => XS.lstore X0.here hx rfl (hb hby at_167) rfl (l' := #[.val (.int p0), .val (.int p1), .val (.int p2), .val (.long q3), .second, .val (.long q4), .second, .val (.int b0v), .val (.int b1v), .val (.int b2v), .val (.int (1 : Int32)), .val (.int (2 : Int32)), .val (.int (1 : Int32)), .val (.int po), .val (.int b1v), .val (.int b0v), .val (.int (0 : Int32)), .val (.long (((1 : Int64) <<< (b1v &&& 0x3f).toInt64) - (1 : Int64))), .second, .unset, .unset, .unset, .unset, .unset, .unset, .unset, .unset, .unset, .unset, .unset]) rfl) ?_
      refine Go.st (fun _ => XS.iconst X0.here hx rfl (hb hby at_169)) ?_
      show Go p e below _ (s₁.setTop (mkF m 170 #[.val (.int p0), .val (.int p1), .val (.int p2), .val (.long q3), .second, .val (.long q4), .second, .val (.int b0v), .val (.int b1v), .val (.int b2v), .val (.int (1 : Int32)), .val (.int (2 : Int32)), .val (.int (1 : Int32)), .val (.int po), .val (.int b1v), .val (.int b0v), .val (.int (0 : Int32)), .val (.long (((1 : Int64) <<< (b1v &&& 0x3f).toInt64) - (1 : Int64))), .second, .unset, .unset, .unset, .unset, .unset, .unset, .unset, .unset, .unset, .unset, .unset] [(.int (3 : Int32))]))
      obtain ⟨T172, h172, k172, X172, e172, E172, A172, st172⟩ := newP X0 hx hZ (hw _ (List.mem_of_getElem? (i := 0) rfl)) e0 (g := (mkF m 170 #[.val (.int p0), .val (.int p1), .val (.int p2), .val (.long q3), .second, .val (.long q4), .second, .val (.int b0v), .val (.int b1v), .val (.int b2v), .val (.int (1 : Int32)), .val (.int (2 : Int32)), .val (.int (1 : Int32)), .val (.int po), .val (.int b1v), .val (.int b0v), .val (.int (0 : Int32)), .val (.long (((1 : Int64) <<< (b1v &&& 0x3f).toInt64) - (1 : Int64))), .second, .unset, .unset, .unset, .unset, .unset, .unset, .unset, .unset, .unset, .unset, .unset] [(.int (3 : Int32))])) rfl (hb hby at_170) rfl (by decide) (cap := 3) (by decide) (by decide) (by decide) (by decide)
      obtain ⟨b172, g172⟩ : ∃ z, z = h0.size := ⟨_, rfl⟩
      rw [← g172] at A172 st172
      refine Go.st st172 ?_
      have gn172 : n0 ≤ b172 := oldGe O0 g172
      have O173 : Old Z n0 h172 := O0.ext E172
      have V_174 : Arv Z h172 b172 k172 .long (3 : Int32) [(.long (0 : Int64)), (.long (0 : Int64)), (.long (0 : Int64))] (.long (0 : Int64)) := (Arv.new A172 (by decide)).pad (pad_rep [] (.long (0 : Int64)) 3)
      show Go p e below _ (T172.setTop (mkF m 172 #[.val (.int p0), .val (.int p1), .val (.int p2), .val (.long q3), .second, .val (.long q4), .second, .val (.int b0v), .val (.int b1v), .val (.int b2v), .val (.int (1 : Int32)), .val (.int (2 : Int32)), .val (.int (1 : Int32)), .val (.int po), .val (.int b1v), .val (.int b0v), .val (.int (0 : Int32)), .val (.long (((1 : Int64) <<< (b1v &&& 0x3f).toInt64) - (1 : Int64))), .second, .unset, .unset, .unset, .unset, .unset, .unset, .unset, .unset, .unset, .unset, .unset] [(.ref b172)]))
      refine Go.st (fun _ => XS.dup X172.here hx rfl (hb hby at_172) rfl rfl) ?_
      refine Go.st (fun _ => XS.iconst X172.here hx rfl (hb hby at_173)) ?_
      refine Go.st (fun _ => XS.lconst X172.here hx rfl (hb hby at_174)) ?_
      refine Go.st (fun _ => XS.iload X172.here hx rfl (hb hby at_175) rfl) ?_
      refine Go.st (fun _ => XS.lshl X172.here hx rfl (hb hby at_177) rfl) ?_
      show Go p e below _ (T172.setTop (mkF m 178 #[.val (.int p0), .val (.int p1), .val (.int p2), .val (.long q3), .second, .val (.long q4), .second, .val (.int b0v), .val (.int b1v), .val (.int b2v), .val (.int (1 : Int32)), .val (.int (2 : Int32)), .val (.int (1 : Int32)), .val (.int po), .val (.int b1v), .val (.int b0v), .val (.int (0 : Int32)), .val (.long (((1 : Int64) <<< (b1v &&& 0x3f).toInt64) - (1 : Int64))), .second, .unset, .unset, .unset, .unset, .unset, .unset, .unset, .unset, .unset, .unset, .unset] [(.long ((1 : Int64) <<< (b0v &&& 0x3f).toInt64)), (.int (0 : Int32)), (.ref b172), (.ref b172)]))
      obtain ⟨cl175, Ar175, qk175, Sz175, Nn175, Ha175, Ga175⟩ := id V_174
      have hin175 : ¬ ((0 : Int32) < 0 ∨ cl175.slots.size ≤ ((0 : Int32) : Int32).toNatClampNeg) := inb_of Sz175 ⟨by decide, by decide⟩
      obtain ⟨T175, h175, X175, e175, W175, st175⟩ := stJ X172 hx hZ e172 Ar175 (j := (0 : Int32)) hin175 (g := (mkF m 178 #[.val (.int p0), .val (.int p1), .val (.int p2), .val (.long q3), .second, .val (.long q4), .second, .val (.int b0v), .val (.int b1v), .val (.int b2v), .val (.int (1 : Int32)), .val (.int (2 : Int32)), .val (.int (1 : Int32)), .val (.int po), .val (.int b1v), .val (.int b0v), .val (.int (0 : Int32)), .val (.long (((1 : Int64) <<< (b1v &&& 0x3f).toInt64) - (1 : Int64))), .second, .unset, .unset, .unset, .unset, .unset, .unset, .unset, .unset, .unset, .unset, .unset] [(.long ((1 : Int64) <<< (b0v &&& 0x3f).toInt64)), (.int (0 : Int32)), (.ref b172), (.ref b172)])) rfl rfl (hb hby at_178)
      refine Go.st st175 ?_
      have O176 : Old Z n0 h175 := O173.wr W175 gn172
      have V_177 : Arv Z h175 b172 k172 .long (3 : Int32) [(.long ((1 : Int64) <<< (b0v &&& 0x3f).toInt64)), (.long (0 : Int64)), (.long (0 : Int64))] (.long (0 : Int64)) := Arv.set Ar175 qk175 Sz175 Nn175 Ha175 Ga175 rfl W175 0 rfl (Nat.le_of_ble_eq_true rfl)
      have N175 := Fr.snoc X175 N0 gn172
      show Go p e below _ (T175.setTop (mkF m 179 #[.val (.int p0), .val (.int p1), .val (.int p2), .val (.long q3), .second, .val (.long q4), .second, .val (.int b0v), .val (.int b1v), .val (.int b2v), .val (.int (1 : Int32)), .val (.int (2 : Int32)), .val (.int (1 : Int32)), .val (.int po), .val (.int b1v), .val (.int b0v), .val (.int (0 : Int32)), .val (.long (((1 : Int64) <<< (b1v &&& 0x3f).toInt64) - (1 : Int64))), .second, .unset, .unset, .unset, .unset, .unset, .unset, .unset, .unset, .unset, .unset, .unset] [(.ref b172)]))
      refine Go.st (fun _ => XS.dup X175.here hx rfl (hb hby at_179) rfl rfl) ?_
      refine Go.st (fun _ => XS.iconst X175.here hx rfl (hb hby at_180)) ?_
      refine Go.st (fun _ => XS.lconst X175.here hx rfl (hb hby at_181)) ?_
      refine Go.st (fun _ => XS.iload X175.here hx rfl (hb hby at_182) rfl) ?_
      refine Go.st (fun _ => XS.lshl X175.here hx rfl (hb hby at_184) rfl) ?_
      show Go p e below _ (T175.setTop (mkF m 185 #[.val (.int p0), .val (.int p1), .val (.int p2), .val (.long q3), .second, .val (.long q4), .second, .val (.int b0v), .val (.int b1v), .val (.int b2v), .val (.int (1 : Int32)), .val (.int (2 : Int32)), .val (.int (1 : Int32)), .val (.int po), .val (.int b1v), .val (.int b0v), .val (.int (0 : Int32)), .val (.long (((1 : Int64) <<< (b1v &&& 0x3f).toInt64) - (1 : Int64))), .second, .unset, .unset, .unset, .unset, .unset, .unset, .unset, .unset, .unset, .unset, .unset] [(.long ((1 : Int64) <<< (b1v &&& 0x3f).toInt64)), (.int (1 : Int32)), (.ref b172), (.ref b172)]))
      obtain ⟨cl178, Ar178, qk178, Sz178, Nn178, Ha178, Ga178⟩ := id V_177
      have hin178 : ¬ ((1 : Int32) < 0 ∨ cl178.slots.size ≤ ((1 : Int32) : Int32).toNatClampNeg) := inb_of Sz178 ⟨by decide, by decide⟩
      obtain ⟨T178, h178, X178, e178, W178, st178⟩ := stJ X175 hx hZ e175 Ar178 (j := (1 : Int32)) hin178 (g := (mkF m 185 #[.val (.int p0), .val (.int p1), .val (.int p2), .val (.long q3), .second, .val (.long q4), .second, .val (.int b0v), .val (.int b1v), .val (.int b2v), .val (.int (1 : Int32)), .val (.int (2 : Int32)), .val (.int (1 : Int32)), .val (.int po), .val (.int b1v), .val (.int b0v), .val (.int (0 : Int32)), .val (.long (((1 : Int64) <<< (b1v &&& 0x3f).toInt64) - (1 : Int64))), .second, .unset, .unset, .unset, .unset, .unset, .unset, .unset, .unset, .unset, .unset, .unset] [(.long ((1 : Int64) <<< (b1v &&& 0x3f).toInt64)), (.int (1 : Int32)), (.ref b172), (.ref b172)])) rfl rfl (hb hby at_185)
      refine Go.st st178 ?_
      have O179 : Old Z n0 h178 := O176.wr W178 gn172
      have V_180 : Arv Z h178 b172 k172 .long (3 : Int32) [(.long ((1 : Int64) <<< (b0v &&& 0x3f).toInt64)), (.long ((1 : Int64) <<< (b1v &&& 0x3f).toInt64)), (.long (0 : Int64))] (.long (0 : Int64)) := Arv.set Ar178 qk178 Sz178 Nn178 Ha178 Ga178 rfl W178 1 rfl (Nat.le_of_ble_eq_true rfl)
      have N178 := Fr.snoc X178 N175 gn172
      show Go p e below _ (T178.setTop (mkF m 186 #[.val (.int p0), .val (.int p1), .val (.int p2), .val (.long q3), .second, .val (.long q4), .second, .val (.int b0v), .val (.int b1v), .val (.int b2v), .val (.int (1 : Int32)), .val (.int (2 : Int32)), .val (.int (1 : Int32)), .val (.int po), .val (.int b1v), .val (.int b0v), .val (.int (0 : Int32)), .val (.long (((1 : Int64) <<< (b1v &&& 0x3f).toInt64) - (1 : Int64))), .second, .unset, .unset, .unset, .unset, .unset, .unset, .unset, .unset, .unset, .unset, .unset] [(.ref b172)]))
      refine Go.st (fun _ => XS.dup X178.here hx rfl (hb hby at_186) rfl rfl) ?_
      refine Go.st (fun _ => XS.iconst X178.here hx rfl (hb hby at_187)) ?_
      refine Go.st (fun _ => XS.lconst X178.here hx rfl (hb hby at_188)) ?_
      refine Go.st (fun _ => XS.iload X178.here hx rfl (hb hby at_189) rfl) ?_
      refine Go.st (fun _ => XS.lshl X178.here hx rfl (hb hby at_191) rfl) ?_
      show Go p e below _ (T178.setTop (mkF m 192 #[.val (.int p0), .val (.int p1), .val (.int p2), .val (.long q3), .second, .val (.long q4), .second, .val (.int b0v), .val (.int b1v), .val (.int b2v), .val (.int (1 : Int32)), .val (.int (2 : Int32)), .val (.int (1 : Int32)), .val (.int po), .val (.int b1v), .val (.int b0v), .val (.int (0 : Int32)), .val (.long (((1 : Int64) <<< (b1v &&& 0x3f).toInt64) - (1 : Int64))), .second, .unset, .unset, .unset, .unset, .unset, .unset, .unset, .unset, .unset, .unset, .unset] [(.long ((1 : Int64) <<< (b2v &&& 0x3f).toInt64)), (.int (2 : Int32)), (.ref b172), (.ref b172)]))
      obtain ⟨cl181, Ar181, qk181, Sz181, Nn181, Ha181, Ga181⟩ := id V_180
      have hin181 : ¬ ((2 : Int32) < 0 ∨ cl181.slots.size ≤ ((2 : Int32) : Int32).toNatClampNeg) := inb_of Sz181 ⟨by decide, by decide⟩
      obtain ⟨T181, h181, X181, e181, W181, st181⟩ := stJ X178 hx hZ e178 Ar181 (j := (2 : Int32)) hin181 (g := (mkF m 192 #[.val (.int p0), .val (.int p1), .val (.int p2), .val (.long q3), .second, .val (.long q4), .second, .val (.int b0v), .val (.int b1v), .val (.int b2v), .val (.int (1 : Int32)), .val (.int (2 : Int32)), .val (.int (1 : Int32)), .val (.int po), .val (.int b1v), .val (.int b0v), .val (.int (0 : Int32)), .val (.long (((1 : Int64) <<< (b1v &&& 0x3f).toInt64) - (1 : Int64))), .second, .unset, .unset, .unset, .unset, .unset, .unset, .unset, .unset, .unset, .unset, .unset] [(.long ((1 : Int64) <<< (b2v &&& 0x3f).toInt64)), (.int (2 : Int32)), (.ref b172), (.ref b172)])) rfl rfl (hb hby at_192)
      refine Go.st st181 ?_
      have O182 : Old Z n0 h181 := O179.wr W181 gn172
      have V_183 : Arv Z h181 b172 k172 .long (3 : Int32) [(.long ((1 : Int64) <<< (b0v &&& 0x3f).toInt64)), (.long ((1 : Int64) <<< (b1v &&& 0x3f).toInt64)), (.long ((1 : Int64) <<< (b2v &&& 0x3f).toInt64))] (.long (0 : Int64)) := Arv.set Ar181 qk181 Sz181 Nn181 Ha181 Ga181 rfl W181 2 rfl (Nat.le_of_ble_eq_true rfl)
      have N181 := Fr.snoc X181 N178 gn172
      show Go p e below _ (T181.setTop (mkF m 193 #[.val (.int p0), .val (.int p1), .val (.int p2), .val (.long q3), .second, .val (.long q4), .second, .val (.int b0v), .val (.int b1v), .val (.int b2v), .val (.int (1 : Int32)), .val (.int (2 : Int32)), .val (.int (1 : Int32)), .val (.int po), .val (.int b1v), .val (.int b0v), .val (.int (0 : Int32)), .val (.long (((1 : Int64) <<< (b1v &&& 0x3f).toInt64) - (1 : Int64))), .second, .unset, .unset, .unset, .unset, .unset, .unset, .unset, .unset, .unset, .unset, .unset] [(.ref b172)]))
      refine Go.st (fun _ => XS.astore X181.here hx rfl (hb hby at_193) rfl rfl (l' := #[.val (.int p0), .val (.int p1), .val (.int p2), .val (.long q3), .second, .val (.long q4), .second, .val (.int b0v), .val (.int b1v), .val (.int b2v), .val (.int (1 : Int32)), .val (.int (2 : Int32)), .val (.int (1 : Int32)), .val (.int po), .val (.int b1v), .val (.int b0v), .val (.int (0 : Int32)), .val (.long (((1 : Int64) <<< (b1v &&& 0x3f).toInt64) - (1 : Int64))), .second, .val (.ref b172), .unset, .unset, .unset, .unset, .unset, .unset, .unset, .unset, .unset, .unset]) rfl) ?_
      show Go p e below _ (T181.setTop (mkF m 195 #[.val (.int p0), .val (.int p1), .val (.int p2), .val (.long q3), .second, .val (.long q4), .second, .val (.int b0v), .val (.int b1v), .val (.int b2v), .val (.int (1 : Int32)), .val (.int (2 : Int32)), .val (.int (1 : Int32)), .val (.int po), .val (.int b1v), .val (.int b0v), .val (.int (0 : Int32)), .val (.long (((1 : Int64) <<< (b1v &&& 0x3f).toInt64) - (1 : Int64))), .second, .val (.ref b172), .unset, .unset, .unset, .unset, .unset, .unset, .unset, .unset, .unset, .unset] []))
      obtain ⟨T184, h184, X184, e184, E184, A184, D184, U184, st184⟩ := newO X181 hx hZ hown (hw _ (List.mem_of_getElem? (i := 1) rfl)) (hw _ (List.mem_of_getElem? (i := 2) rfl)) (hw _ (List.mem_of_getElem? (i := 3) rfl)) e181 (g := (mkF m 195 #[.val (.int p0), .val (.int p1), .val (.int p2), .val (.long q3), .second, .val (.long q4), .second, .val (.int b0v), .val (.int b1v), .val (.int b2v), .val (.int (1 : Int32)), .val (.int (2 : Int32)), .val (.int (1 : Int32)), .val (.int po), .val (.int b1v), .val (.int b0v), .val (.int (0 : Int32)), .val (.long (((1 : Int64) <<< (b1v &&& 0x3f).toInt64) - (1 : Int64))), .second, .val (.ref b172), .unset, .unset, .unset, .unset, .unset, .unset, .unset, .unset, .unset, .unset] [])) rfl (hb hby at_195) (by decide) (by decide)
      obtain ⟨b184, g184⟩ : ∃ z, z = h181.size := ⟨_, rfl⟩
      rw [← g184] at A184 D184 U184 st184
      refine Go.st st184 ?_
      have gn184 : n0 ≤ b184 := oldGe O182 g184
      have ne185 : b172 ≠ b184 := Nat.ne_of_lt (Nat.lt_of_lt_of_le V_183.lt (Nat.le_of_eq g184.symm))
      have O186 : Old Z n0 h184 := O182.ext E184
      have V_187 : Arv Z h184 b172 k172 .long (3 : Int32) [(.long ((1 : Int64) <<< (b0v &&& 0x3f).toInt64)), (.long ((1 : Int64) <<< (b1v &&& 0x3f).toInt64)), (.long ((1 : Int64) <<< (b2v &&& 0x3f).toInt64))] (.long (0 : Int64)) := V_183.ext E184
      have F188 : Fld Z h184 b184 "com/example/gieres/gieres/model/TupleTable" "pages" "[[J" .null := D184 (Or.inl (hw _ (List.mem_of_getElem? (i := 13) rfl))) (ty := (.array (.array .long))) (by decide)
      have F189 : Fld Z h184 b184 "com/example/gieres/gieres/model/TupleTable" "slotBits" "I" (.int (0 : Int32)) := D184 (Or.inl (hw _ (List.mem_of_getElem? (i := 15) rfl))) (ty := .int) (by decide)
      have F190 : Fld Z h184 b184 "com/example/gieres/gieres/model/TupleTable" "slots" "[I" .null := D184 (Or.inl (hw _ (List.mem_of_getElem? (i := 18) rfl))) (ty := (.array .int)) (by decide)
      have F191 : Fld Z h184 b184 "com/example/gieres/gieres/model/TupleTable" "hashes" "[J" .null := D184 (Or.inl (hw _ (List.mem_of_getElem? (i := 20) rfl))) (ty := (.array .long)) (by decide)
      have F192 : Fld Z h184 b184 "com/example/gieres/gieres/model/TupleTable" "found" "[I" .null := D184 (Or.inl (hw _ (List.mem_of_getElem? (i := 22) rfl))) (ty := (.array .int)) (by decide)
      have F193 : Fld Z h184 b184 "com/example/gieres/gieres/model/TupleTable" "word" "[I" .null := D184 (Or.inr (hw _ (List.mem_of_getElem? (i := 24) rfl))) (ty := (.array .int)) (by decide)
      have F194 : Fld Z h184 b184 "com/example/gieres/gieres/model/TupleTable" "shift" "[I" .null := D184 (Or.inr (hw _ (List.mem_of_getElem? (i := 26) rfl))) (ty := (.array .int)) (by decide)
      have F195 : Fld Z h184 b184 "com/example/gieres/gieres/model/TupleTable" "mask" "[J" .null := D184 (Or.inr (hw _ (List.mem_of_getElem? (i := 28) rfl))) (ty := (.array .long)) (by decide)
      have F196 : Fld Z h184 b184 "com/example/gieres/gieres/model/TupleTable" "width" "I" (.int (0 : Int32)) := D184 (Or.inr (hw _ (List.mem_of_getElem? (i := 38) rfl))) (ty := .int) (by decide)
      show Go p e below _ (T184.setTop (mkF m 198 #[.val (.int p0), .val (.int p1), .val (.int p2), .val (.long q3), .second, .val (.long q4), .second, .val (.int b0v), .val (.int b1v), .val (.int b2v), .val (.int (1 : Int32)), .val (.int (2 : Int32)), .val (.int (1 : Int32)), .val (.int po), .val (.int b1v), .val (.int b0v), .val (.int (0 : Int32)), .val (.long (((1 : Int64) <<< (b1v &&& 0x3f).toInt64) - (1 : Int64))), .second, .val (.ref b172), .unset, .unset, .unset, .unset, .unset, .unset, .unset, .unset, .unset, .unset] [(.ref b184)]))
      refine Go.st (fun _ => XS.dup X184.here hx rfl (hb hby at_198) rfl rfl) ?_
      refine Go.st (fun _ => XS.aload X184.here hx rfl (hb hby at_199) rfl rfl) ?_
      show Go p e below _ (T184.setTop (mkF m 201 #[.val (.int p0), .val (.int p1), .val (.int p2), .val (.long q3), .second, .val (.long q4), .second, .val (.int b0v), .val (.int b1v), .val (.int b2v), .val (.int (1 : Int32)), .val (.int (2 : Int32)), .val (.int (1 : Int32)), .val (.int po), .val (.int b1v), .val (.int b0v), .val (.int (0 : Int32)), .val (.long (((1 : Int64) <<< (b1v &&& 0x3f).toInt64) - (1 : Int64))), .second, .val (.ref b172), .unset, .unset, .unset, .unset, .unset, .unset, .unset, .unset, .unset, .unset] [(.ref b172), (.ref b184), (.ref b184)]))
      refine goInit X184 hx hZ (y := (⟨"com/example/gieres/gieres/model/TupleTable", "<init>", "([J)V"⟩ : MethodName)) rfl hown (hw _ (List.mem_of_getElem? (i := 4) rfl)) (hw _ (List.mem_of_getElem? (i := 5) rfl)) (hw _ (List.mem_of_getElem? (i := 3) rfl)) (hw _ (List.mem_of_getElem? (i := 6) rfl)) (by decide) (a := b184) (argsL := [(.ref b172)]) (rest := [(.ref b184)]) e184 (rmTT l Z a0 hw [] b184 b172 k172 ((1 : Int64) <<< (b0v &&& 0x3f).toInt64) ((1 : Int64) <<< (b1v &&& 0x3f).toInt64) ((1 : Int64) <<< (b2v &&& 0x3f).toInt64) h184 n0 O186 A184 F188 F189 F190 F191 F192 F193 F194 F195 F196 gn184 V_187 ne185 (own_t32 L0L) (own_t32 L1L) (own_t32 L2L)) 1 (by decide) (by decide) (by decide) (by decide) (mkF m 201 #[.val (.int p0), .val (.int p1), .val (.int p2), .val (.long q3), .second, .val (.long q4), .second, .val (.int b0v), .val (.int b1v), .val (.int b2v), .val (.int (1 : Int32)), .val (.int (2 : Int32)), .val (.int (1 : Int32)), .val (.int po), .val (.int b1v), .val (.int b0v), .val (.int (0 : Int32)), .val (.long (((1 : Int64) <<< (b1v &&& 0x3f).toInt64) - (1 : Int64))), .second, .val (.ref b172), .unset, .unset, .unset, .unset, .unset, .unset, .unset, .unset, .unset, .unset] [(.ref b172), (.ref b184), (.ref b184)]) rfl (by rw [hml]; rfl) (lenOf pd_2 rfl) rfl (hb hby at_201) (Nat.le_of_eq rfl) ?_
      intro v197 T197 L197 X197 hQ197
      obtain ⟨rfl, M197, K197, c0, c1, c2, w2, s2, wd, aw, as, am, kw, ks, km, B0, B1, B2, LY, Gw, Vw, Gs, Vs, Gm, Vm, Gd⟩ := hQ197
      have N197 := Fr.app N181 M197
      have O198 : Old Z n0 T197.heap := O186.keep K197 (allS gn184 all0)
      have V_199 : Arv Z T197.heap b172 k172 .long (3 : Int32) [(.long ((1 : Int64) <<< (b0v &&& 0x3f).toInt64)), (.long ((1 : Int64) <<< (b1v &&& 0x3f).toInt64)), (.long ((1 : Int64) <<< (b2v &&& 0x3f).toInt64))] (.long (0 : Int64)) := V_187.keep K197 (ninS ne185 nin0)
      have E_200 : Exa Z T197.heap b184 "com/example/gieres/gieres/model/TupleTable" := A184.keep K197
      obtain rfl : b0v = c0 := own_bits_eq L0L B0
      obtain rfl : b1v = c1 := own_bits_eq L1L B1
      obtain rfl : b2v = c2 := own_bits_eq L2L B2
      obtain ⟨rfl, rfl, rfl⟩ := (LY.resolve_left (fun q => q.1 hc1)).2
      have PL := own_pl1 L0L L1L
      show Go p e below _ (T197.setTop (mkF m 204 #[.val (.int p0), .val (.int p1), .val (.int p2), .val (.long q3), .second, .val (.long q4), .second, .val (.int b0v), .val (.int b1v), .val (.int b2v), .val (.int (1 : Int32)), .val (.int (2 : Int32)), .val (.int (1 : Int32)), .val (.int po), .val (.int b1v), .val (.int b0v), .val (.int (0 : Int32)), .val (.long (((1 : Int64) <<< (b1v &&& 0x3f).toInt64) - (1 : Int64))), .second, .val (.ref b172), .unset, .unset, .unset, .unset, .unset, .unset, .unset, .unset, .unset, .unset] [(.ref b184)]))
      refine Go.st (fun _ => XS.astore X197.here hx rfl (hb hby at_204) rfl rfl (l' := #[.val (.int p0), .val (.int p1), .val (.int p2), .val (.long q3), .second, .val (.long q4), .second, .val (.int b0v), .val (.int b1v), .val (.int b2v), .val (.int (1 : Int32)), .val (.int (2 : Int32)), .val (.int (1 : Int32)), .val (.int po), .val (.int b1v), .val (.int b0v), .val (.int (0 : Int32)), .val (.long (((1 : Int64) <<< (b1v &&& 0x3f).toInt64) - (1 : Int64))), .second, .val (.ref b172), .val (.ref b184), .unset, .unset, .unset, .unset, .unset, .unset, .unset, .unset, .unset]) rfl) ?_
      refine Go.st (fun _ => XS.iload X197.here hx rfl (hb hby at_206) rfl) ?_
      refine Go.st (fun _ => XS.ifNo X197.here hx rfl (hb hby at_208) rfl ((if0 _ _).trans (feq (by decide : ¬ ((1 : Int32) = (0 : Int32)))).1)) ?_
      refine Go.st (fun _ => XS.iconst X197.here hx rfl (hb hby at_211)) ?_
      show Go p e below _ (T197.setTop (mkF m 212 #[.val (.int p0), .val (.int p1), .val (.int p2), .val (.long q3), .second, .val (.long q4), .second, .val (.int b0v), .val (.int b1v), .val (.int b2v), .val (.int (1 : Int32)), .val (.int (2 : Int32)), .val (.int (1 : Int32)), .val (.int po), .val (.int b1v), .val (.int b0v), .val (.int (0 : Int32)), .val (.long (((1 : Int64) <<< (b1v &&& 0x3f).toInt64) - (1 : Int64))), .second, .val (.ref b172), .val (.ref b184), .unset, .unset, .unset, .unset, .unset, .unset, .unset, .unset, .unset] [(.int (4 : Int32))]))
      obtain ⟨T201, h201, k201, X201, e201, E201, A201, st201⟩ := newP X197 hx hZ (hw _ (List.mem_of_getElem? (i := 0) rfl)) rfl (g := (mkF m 212 #[.val (.int p0), .val (.int p1), .val (.int p2), .val (.long q3), .second, .val (.long q4), .second, .val (.int b0v), .val (.int b1v), .val (.int b2v), .val (.int (1 : Int32)), .val (.int (2 : Int32)), .val (.int (1 : Int32)), .val (.int po), .val (.int b1v), .val (.int b0v), .val (.int (0 : Int32)), .val (.long (((1 : Int64) <<< (b1v &&& 0x3f).toInt64) - (1 : Int64))), .second, .val (.ref b172), .val (.ref b184), .unset, .unset, .unset, .unset, .unset, .unset, .unset, .unset, .unset] [(.int (4 : Int32))])) rfl (hb hby at_212) rfl (by decide) (cap := 4) (by decide) (by decide) (by decide) (by decide)
      obtain ⟨b201, g201⟩ : ∃ z, z = T197.heap.size := ⟨_, rfl⟩
      rw [← g201] at A201 st201
      refine Go.st st201 ?_
      have gn201 : n0 ≤ b201 := oldGe O198 g201
      have ne202 : b184 ≠ b201 := Nat.ne_of_lt (Nat.lt_of_lt_of_le E_200.lt (Nat.le_of_eq g201.symm))
      have ne203 : aw ≠ b201 := Nat.ne_of_lt (Nat.lt_of_lt_of_le Vw.lt (Nat.le_of_eq g201.symm))
      have ne204 : as ≠ b201 := Nat.ne_of_lt (Nat.lt_of_lt_of_le Vs.lt (Nat.le_of_eq g201.symm))
      have ne205 : am ≠ b201 := Nat.ne_of_lt (Nat.lt_of_lt_of_le Vm.lt (Nat.le_of_eq g201.symm))
      have O206 : Old Z n0 h201 := O198.ext E201
      have E_207 : Exa Z h201 b184 "com/example/gieres/gieres/model/TupleTable" := E_200.ext E201
      have F208 : Fld Z h201 b184 "com/example/gieres/gieres/model/TupleTable" "word" "[I" (.ref aw) := Gw.ext E201
      have V_209 : Arv Z h201 aw kw .int (3 : Int32) [(.int (0 : Int32)), (.int (0 : Int32)), (.int (1 : Int32))] (.int (0 : Int32)) := Vw.ext E201
      have F210 : Fld Z h201 b184 "com/example/gieres/gieres/model/TupleTable" "shift" "[I" (.ref as) := Gs.ext E201
      have V_211 : Arv Z h201 as ks .int (3 : Int32) [(.int (0 : Int32)), (.int b0v), (.int (0 : Int32))] (.int (0 : Int32)) := Vs.ext E201
      have F212 : Fld Z h201 b184 "com/example/gieres/gieres/model/TupleTable" "mask" "[J" (.ref am) := Gm.ext E201
      have V_213 : Arv Z h201 am km .long (3 : Int32) [(.long (own_mask b0v)), (.long (own_mask b1v)), (.long (own_mask b2v))] (.long (0 : Int64)) := Vm.ext E201
      have F214 : Fld Z h201 b184 "com/example/gieres/gieres/model/TupleTable" "width" "I" (.int (2 : Int32)) := Gd.ext E201
      have V_215 : Arv Z h201 b201 k201 .long (4 : Int32) [(.long (0 : Int64)), (.long (0 : Int64)), (.long (0 : Int64)), (.long (0 : Int64))] (.long (0 : Int64)) := (Arv.new A201 (by decide)).pad (pad_rep [] (.long (0 : Int64)) 4)
      show Go p e below _ (T201.setTop (mkF m 214 #[.val (.int p0), .val (.int p1), .val (.int p2), .val (.long q3), .second, .val (.long q4), .second, .val (.int b0v), .val (.int b1v), .val (.int b2v), .val (.int (1 : Int32)), .val (.int (2 : Int32)), .val (.int (1 : Int32)), .val (.int po), .val (.int b1v), .val (.int b0v), .val (.int (0 : Int32)), .val (.long (((1 : Int64) <<< (b1v &&& 0x3f).toInt64) - (1 : Int64))), .second, .val (.ref b172), .val (.ref b184), .unset, .unset, .unset, .unset, .unset, .unset, .unset, .unset, .unset] [(.ref b201)]))
      refine Go.st (fun _ => XS.dup X201.here hx rfl (hb hby at_214) rfl rfl) ?_
      refine Go.st (fun _ => XS.iconst X201.here hx rfl (hb hby at_215)) ?_
      refine Go.st (fun _ => XS.lloadN X201.here hx rfl (hb hby at_216) rfl) ?_
      show Go p e below _ (T201.setTop (mkF m 217 #[.val (.int p0), .val (.int p1), .val (.int p2), .val (.long q3), .second, .val (.long q4), .second, .val (.int b0v), .val (.int b1v), .val (.int b2v), .val (.int (1 : Int32)), .val (.int (2 : Int32)), .val (.int (1 : Int32)), .val (.int po), .val (.int b1v), .val (.int b0v), .val (.int (0 : Int32)), .val (.long (((1 : Int64) <<< (b1v &&& 0x3f).toInt64) - (1 : Int64))), .second, .val (.ref b172), .val (.ref b184), .unset, .unset, .unset, .unset, .unset, .unset, .unset, .unset, .unset] [(.long q3), (.int (0 : Int32)), (.ref b201), (.ref b201)]))
      obtain ⟨cl216, Ar216, qk216, Sz216, Nn216, Ha216, Ga216⟩ := id V_215
      have hin216 : ¬ ((0 : Int32) < 0 ∨ cl216.slots.size ≤ ((0 : Int32) : Int32).toNatClampNeg) := inb_of Sz216 ⟨by decide, by decide⟩
      obtain ⟨T216, h216, X216, e216, W216, st216⟩ := stJ X201 hx hZ e201 Ar216 (j := (0 : Int32)) hin216 (g := (mkF m 217 #[.val (.int p0), .val (.int p1), .val (.int p2), .val (.long q3), .second, .val (.long q4), .second, .val (.int b0v), .val (.int b1v), .val (.int b2v), .val (.int (1 : Int32)), .val (.int (2 : Int32)), .val (.int (1 : Int32)), .val (.int po), .val (.int b1v), .val (.int b0v), .val (.int (0 : Int32)), .val (.long (((1 : Int64) <<< (b1v &&& 0x3f).toInt64) - (1 : Int64))), .second, .val (.ref b172), .val (.ref b184), .unset, .unset, .unset, .unset, .unset, .unset, .unset, .unset, .unset] [(.long q3), (.int (0 : Int32)), (.ref b201), (.ref b201)])) rfl rfl (hb hby at_217)
      refine Go.st st216 ?_
      have O217 : Old Z n0 h216 := O206.wr W216 gn201
      have E_218 : Exa Z h216 b184 "com/example/gieres/gieres/model/TupleTable" := E_207.wr W216
      have F219 : Fld Z h216 b184 "com/example/gieres/gieres/model/TupleTable" "word" "[I" (.ref aw) := F208.other W216 (Or.inl ne202)
      have V_220 : Arv Z h216 aw kw .int (3 : Int32) [(.int (0 : Int32)), (.int (0 : Int32)), (.int (1 : Int32))] (.int (0 : Int32)) := V_209.other W216 ne203
      have F221 : Fld Z h216 b184 "com/example/gieres/gieres/model/TupleTable" "shift" "[I" (.ref as) := F210.other W216 (Or.inl ne202)
      have V_222 : Arv Z h216 as ks .int (3 : Int32) [(.int (0 : Int32)), (.int b0v), (.int (0 : Int32))] (.int (0 : Int32)) := V_211.other W216 ne204
      have F223 : Fld Z h216 b184 "com/example/gieres/gieres/model/TupleTable" "mask" "[J" (.ref am) := F212.other W216 (Or.inl ne202)
      have V_224 : Arv Z h216 am km .long (3 : Int32) [(.long (own_mask b0v)), (.long (own_mask b1v)), (.long (own_mask b2v))] (.long (0 : Int64)) := V_213.other W216 ne205
      have F225 : Fld Z h216 b184 "com/example/gieres/gieres/model/TupleTable" "width" "I" (.int (2 : Int32)) := F214.other W216 (Or.inl ne202)
      have V_226 : Arv Z h216 b201 k201 .long (4 : Int32) [(.long q3), (.long (0 : Int64)), (.long (0 : Int64)), (.long (0 : Int64))] (.long (0 : Int64)) := Arv.set Ar216 qk216 Sz216 Nn216 Ha216 Ga216 rfl W216 0 rfl (Nat.le_of_ble_eq_true rfl)
      have N216 := Fr.snoc X216 N197 gn201
      show Go p e below _ (T216.setTop (mkF m 218 #[.val (.int p0), .val (.int p1), .val (.int p2), .val (.long q3), .second, .val (.long q4), .second, .val (.int b0v), .val (.int b1v), .val (.int b2v), .val (.int (1 : Int32)), .val (.int (2 : Int32)), .val (.int (1 : Int32)), .val (.int po), .val (.int b1v), .val (.int b0v), .val (.int (0 : Int32)), .val (.long (((1 : Int64) <<< (b1v &&& 0x3f).toInt64) - (1 : Int64))), .second, .val (.ref b172), .val (.ref b184), .unset, .unset, .unset, .unset, .unset, .unset, .unset, .unset, .unset] [(.ref b201)]))
      refine Go.st (fun _ => XS.dup X216.here hx rfl (hb hby at_218) rfl rfl) ?_
      refine Go.st (fun _ => XS.iconst X216.here hx rfl (hb hby at_219)) ?_
      refine Go.st (fun _ => XS.lload X216.here hx rfl (hb hby at_220) rfl) ?_
      show Go p e below _ (T216.setTop (mkF m 222 #[.val (.int p0), .val (.int p1), .val (.int p2), .val (.long q3), .second, .val (.long q4), .second, .val (.int b0v), .val (.int b1v), .val (.int b2v), .val (.int (1 : Int32)), .val (.int (2 : Int32)), .val (.int (1 : Int32)), .val (.int po), .val (.int b1v), .val (.int b0v), .val (.int (0 : Int32)), .val (.long (((1 : Int64) <<< (b1v &&& 0x3f).toInt64) - (1 : Int64))), .second, .val (.ref b172), .val (.ref b184), .unset, .unset, .unset, .unset, .unset, .unset, .unset, .unset, .unset] [(.long q4), (.int (1 : Int32)), (.ref b201), (.ref b201)]))
      obtain ⟨cl227, Ar227, qk227, Sz227, Nn227, Ha227, Ga227⟩ := id V_226
      have hin227 : ¬ ((1 : Int32) < 0 ∨ cl227.slots.size ≤ ((1 : Int32) : Int32).toNatClampNeg) := inb_of Sz227 ⟨by decide, by decide⟩
      obtain ⟨T227, h227, X227, e227, W227, st227⟩ := stJ X216 hx hZ e216 Ar227 (j := (1 : Int32)) hin227 (g := (mkF m 222 #[.val (.int p0), .val (.int p1), .val (.int p2), .val (.long q3), .second, .val (.long q4), .second, .val (.int b0v), .val (.int b1v), .val (.int b2v), .val (.int (1 : Int32)), .val (.int (2 : Int32)), .val (.int (1 : Int32)), .val (.int po), .val (.int b1v), .val (.int b0v), .val (.int (0 : Int32)), .val (.long (((1 : Int64) <<< (b1v &&& 0x3f).toInt64) - (1 : Int64))), .second, .val (.ref b172), .val (.ref b184), .unset, .unset, .unset, .unset, .unset, .unset, .unset, .unset, .unset] [(.long q4), (.int (1 : Int32)), (.ref b201), (.ref b201)])) rfl rfl (hb hby at_222)
      refine Go.st st227 ?_
      have O228 : Old Z n0 h227 := O217.wr W227 gn201
      have E_229 : Exa Z h227 b184 "com/example/gieres/gieres/model/TupleTable" := E_218.wr W227
      have F230 : Fld Z h227 b184 "com/example/gieres/gieres/model/TupleTable" "word" "[I" (.ref aw) := F219.other W227 (Or.inl ne202)
      have V_231 : Arv Z h227 aw kw .int (3 : Int32) [(.int (0 : Int32)), (.int (0 : Int32)), (.int (1 : Int32))] (.int (0 : Int32)) := V_220.other W227 ne203
      have F232 : Fld Z h227 b184 "com/example/gieres/gieres/model/TupleTable" "shift" "[I" (.ref as) := F221.other W227 (Or.inl ne202)
      have V_233 : Arv Z h227 as ks .int (3 : Int32) [(.int (0 : Int32)), (.int b0v), (.int (0 : Int32))] (.int (0 : Int32)) := V_222.other W227 ne204
      have F234 : Fld Z h227 b184 "com/example/gieres/gieres/model/TupleTable" "mask" "[J" (.ref am) := F223.other W227 (Or.inl ne202)
      have V_235 : Arv Z h227 am km .long (3 : Int32) [(.long (own_mask b0v)), (.long (own_mask b1v)), (.long (own_mask b2v))] (.long (0 : Int64)) := V_224.other W227 ne205
      have F236 : Fld Z h227 b184 "com/example/gieres/gieres/model/TupleTable" "width" "I" (.int (2 : Int32)) := F225.other W227 (Or.inl ne202)
      have V_237 : Arv Z h227 b201 k201 .long (4 : Int32) [(.long q3), (.long q4), (.long (0 : Int64)), (.long (0 : Int64))] (.long (0 : Int64)) := Arv.set Ar227 qk227 Sz227 Nn227 Ha227 Ga227 rfl W227 1 rfl (Nat.le_of_ble_eq_true rfl)
      have N227 := Fr.snoc X227 N216 gn201
      show Go p e below _ (T227.setTop (mkF m 223 #[.val (.int p0), .val (.int p1), .val (.int p2), .val (.long q3), .second, .val (.long q4), .second, .val (.int b0v), .val (.int b1v), .val (.int b2v), .val (.int (1 : Int32)), .val (.int (2 : Int32)), .val (.int (1 : Int32)), .val (.int po), .val (.int b1v), .val (.int b0v), .val (.int (0 : Int32)), .val (.long (((1 : Int64) <<< (b1v &&& 0x3f).toInt64) - (1 : Int64))), .second, .val (.ref b172), .val (.ref b184), .unset, .unset, .unset, .unset, .unset, .unset, .unset, .unset, .unset] [(.ref b201)]))
      refine Go.st (fun _ => XS.dup X227.here hx rfl (hb hby at_223) rfl rfl) ?_
      refine Go.st (fun _ => XS.iconst X227.here hx rfl (hb hby at_224)) ?_
      refine Go.st (fun _ => XS.lload X227.here hx rfl (hb hby at_225) rfl) ?_
      show Go p e below _ (T227.setTop (mkF m 227 #[.val (.int p0), .val (.int p1), .val (.int p2), .val (.long q3), .second, .val (.long q4), .second, .val (.int b0v), .val (.int b1v), .val (.int b2v), .val (.int (1 : Int32)), .val (.int (2 : Int32)), .val (.int (1 : Int32)), .val (.int po), .val (.int b1v), .val (.int b0v), .val (.int (0 : Int32)), .val (.long (((1 : Int64) <<< (b1v &&& 0x3f).toInt64) - (1 : Int64))), .second, .val (.ref b172), .val (.ref b184), .unset, .unset, .unset, .unset, .unset, .unset, .unset, .unset, .unset] [(.long q4), (.int (2 : Int32)), (.ref b201), (.ref b201)]))
      refine Go.st (fun _ => X227.ldc2Long hx hown (mvT hZ (hw _ (List.mem_of_getElem? (i := 54) rfl))) (g := (mkF m 227 #[.val (.int p0), .val (.int p1), .val (.int p2), .val (.long q3), .second, .val (.long q4), .second, .val (.int b0v), .val (.int b1v), .val (.int b2v), .val (.int (1 : Int32)), .val (.int (2 : Int32)), .val (.int (1 : Int32)), .val (.int po), .val (.int b1v), .val (.int b0v), .val (.int (0 : Int32)), .val (.long (((1 : Int64) <<< (b1v &&& 0x3f).toInt64) - (1 : Int64))), .second, .val (.ref b172), .val (.ref b184), .unset, .unset, .unset, .unset, .unset, .unset, .unset, .unset, .unset] [(.long q4), (.int (2 : Int32)), (.ref b201), (.ref b201)])) rfl (hb hby at_227) _) ?_
      show Go p e below _ (T227.setTop (mkF m 230 #[.val (.int p0), .val (.int p1), .val (.int p2), .val (.long q3), .second, .val (.long q4), .second, .val (.int b0v), .val (.int b1v), .val (.int b2v), .val (.int (1 : Int32)), .val (.int (2 : Int32)), .val (.int (1 : Int32)), .val (.int po), .val (.int b1v), .val (.int b0v), .val (.int (0 : Int32)), .val (.long (((1 : Int64) <<< (b1v &&& 0x3f).toInt64) - (1 : Int64))), .second, .val (.ref b172), .val (.ref b184), .unset, .unset, .unset, .unset, .unset, .unset, .unset, .unset, .unset] [(.long (-1 : Int64)), (.long q4), (.int (2 : Int32)), (.ref b201), (.ref b201)]))
      refine Go.st (fun _ => XS.lxor X227.here hx rfl (hb hby at_230) rfl) ?_
      show Go p e below _ (T227.setTop (mkF m 231 #[.val (.int p0), .val (.int p1), .val (.int p2), .val (.long q3), .second, .val (.long q4), .second, .val (.int b0v), .val (.int b1v), .val (.int b2v), .val (.int (1 : Int32)), .val (.int (2 : Int32)), .val (.int (1 : Int32)), .val (.int po), .val (.int b1v), .val (.int b0v), .val (.int (0 : Int32)), .val (.long (((1 : Int64) <<< (b1v &&& 0x3f).toInt64) - (1 : Int64))), .second, .val (.ref b172), .val (.ref b184), .unset, .unset, .unset, .unset, .unset, .unset, .unset, .unset, .unset] [(.long (q4 ^^^ (-1 : Int64))), (.int (2 : Int32)), (.ref b201), (.ref b201)]))
      obtain ⟨cl238, Ar238, qk238, Sz238, Nn238, Ha238, Ga238⟩ := id V_237
      have hin238 : ¬ ((2 : Int32) < 0 ∨ cl238.slots.size ≤ ((2 : Int32) : Int32).toNatClampNeg) := inb_of Sz238 ⟨by decide, by decide⟩
      obtain ⟨T238, h238, X238, e238, W238, st238⟩ := stJ X227 hx hZ e227 Ar238 (j := (2 : Int32)) hin238 (g := (mkF m 231 #[.val (.int p0), .val (.int p1), .val (.int p2), .val (.long q3), .second, .val (.long q4), .second, .val (.int b0v), .val (.int b1v), .val (.int b2v), .val (.int (1 : Int32)), .val (.int (2 : Int32)), .val (.int (1 : Int32)), .val (.int po), .val (.int b1v), .val (.int b0v), .val (.int (0 : Int32)), .val (.long (((1 : Int64) <<< (b1v &&& 0x3f).toInt64) - (1 : Int64))), .second, .val (.ref b172), .val (.ref b184), .unset, .unset, .unset, .unset, .unset, .unset, .unset, .unset, .unset] [(.long (q4 ^^^ (-1 : Int64))), (.int (2 : Int32)), (.ref b201), (.ref b201)])) rfl rfl (hb hby at_231)
      refine Go.st st238 ?_
      have O239 : Old Z n0 h238 := O228.wr W238 gn201
      have E_240 : Exa Z h238 b184 "com/example/gieres/gieres/model/TupleTable" := E_229.wr W238
      have F241 : Fld Z h238 b184 "com/example/gieres/gieres/model/TupleTable" "word" "[I" (.ref aw) := F230.other W238 (Or.inl ne202)
      have V_242 : Arv Z h238 aw kw .int (3 : Int32) [(.int (0 : Int32)), (.int (0 : Int32)), (.int (1 : Int32))] (.int (0 : Int32)) := V_231.other W238 ne203
      have F243 : Fld Z h238 b184 "com/example/gieres/gieres/model/TupleTable" "shift" "[I" (.ref as) := F232.other W238 (Or.inl ne202)
      have V_244 : Arv Z h238 as ks .int (3 : Int32) [(.int (0 : Int32)), (.int b0v), (.int (0 : Int32))] (.int (0 : Int32)) := V_233.other W238 ne204
      have F245 : Fld Z h238 b184 "com/example/gieres/gieres/model/TupleTable" "mask" "[J" (.ref am) := F234.other W238 (Or.inl ne202)
      have V_246 : Arv Z h238 am km .long (3 : Int32) [(.long (own_mask b0v)), (.long (own_mask b1v)), (.long (own_mask b2v))] (.long (0 : Int64)) := V_235.other W238 ne205
      have F247 : Fld Z h238 b184 "com/example/gieres/gieres/model/TupleTable" "width" "I" (.int (2 : Int32)) := F236.other W238 (Or.inl ne202)
      have V_248 : Arv Z h238 b201 k201 .long (4 : Int32) [(.long q3), (.long q4), (.long (q4 ^^^ (-1 : Int64))), (.long (0 : Int64))] (.long (0 : Int64)) := Arv.set Ar238 qk238 Sz238 Nn238 Ha238 Ga238 rfl W238 2 rfl (Nat.le_of_ble_eq_true rfl)
      have N238 := Fr.snoc X238 N227 gn201
      show Go p e below _ (T238.setTop (mkF m 232 #[.val (.int p0), .val (.int p1), .val (.int p2), .val (.long q3), .second, .val (.long q4), .second, .val (.int b0v), .val (.int b1v), .val (.int b2v), .val (.int (1 : Int32)), .val (.int (2 : Int32)), .val (.int (1 : Int32)), .val (.int po), .val (.int b1v), .val (.int b0v), .val (.int (0 : Int32)), .val (.long (((1 : Int64) <<< (b1v &&& 0x3f).toInt64) - (1 : Int64))), .second, .val (.ref b172), .val (.ref b184), .unset, .unset, .unset, .unset, .unset, .unset, .unset, .unset, .unset] [(.ref b201)]))
      refine Go.st (fun _ => XS.dup X238.here hx rfl (hb hby at_232) rfl rfl) ?_
      refine Go.st (fun _ => XS.iconst X238.here hx rfl (hb hby at_233)) ?_
      refine Go.st (fun _ => XS.lloadN X238.here hx rfl (hb hby at_234) rfl) ?_
      show Go p e below _ (T238.setTop (mkF m 235 #[.val (.int p0), .val (.int p1), .val (.int p2), .val (.long q3), .second, .val (.long q4), .second, .val (.int b0v), .val (.int b1v), .val (.int b2v), .val (.int (1 : Int32)), .val (.int (2 : Int32)), .val (.int (1 : Int32)), .val (.int po), .val (.int b1v), .val (.int b0v), .val (.int (0 : Int32)), .val (.long (((1 : Int64) <<< (b1v &&& 0x3f).toInt64) - (1 : Int64))), .second, .val (.ref b172), .val (.ref b184), .unset, .unset, .unset, .unset, .unset, .unset, .unset, .unset, .unset] [(.long q3), (.int (3 : Int32)), (.ref b201), (.ref b201)]))
      refine Go.st (fun _ => X238.ldc2Long hx hown (mvT hZ (hw _ (List.mem_of_getElem? (i := 54) rfl))) (g := (mkF m 235 #[.val (.int p0), .val (.int p1), .val (.int p2), .val (.long q3), .second, .val (.long q4), .second, .val (.int b0v), .val (.int b1v), .val (.int b2v), .val (.int (1 : Int32)), .val (.int (2 : Int32)), .val (.int (1 : Int32)), .val (.int po), .val (.int b1v), .val (.int b0v), .val (.int (0 : Int32)), .val (.long (((1 : Int64) <<< (b1v &&& 0x3f).toInt64) - (1 : Int64))), .second, .val (.ref b172), .val (.ref b184), .unset, .unset, .unset, .unset, .unset, .unset, .unset, .unset, .unset] [(.long q3), (.int (3 : Int32)), (.ref b201), (.ref b201)])) rfl (hb hby at_235) _) ?_
      show Go p e below _ (T238.setTop (mkF m 238 #[.val (.int p0), .val (.int p1), .val (.int p2), .val (.long q3), .second, .val (.long q4), .second, .val (.int b0v), .val (.int b1v), .val (.int b2v), .val (.int (1 : Int32)), .val (.int (2 : Int32)), .val (.int (1 : Int32)), .val (.int po), .val (.int b1v), .val (.int b0v), .val (.int (0 : Int32)), .val (.long (((1 : Int64) <<< (b1v &&& 0x3f).toInt64) - (1 : Int64))), .second, .val (.ref b172), .val (.ref b184), .unset, .unset, .unset, .unset, .unset, .unset, .unset, .unset, .unset] [(.long (-1 : Int64)), (.long q3), (.int (3 : Int32)), (.ref b201), (.ref b201)]))
      refine Go.st (fun _ => XS.lxor X238.here hx rfl (hb hby at_238) rfl) ?_
      show Go p e below _ (T238.setTop (mkF m 239 #[.val (.int p0), .val (.int p1), .val (.int p2), .val (.long q3), .second, .val (.long q4), .second, .val (.int b0v), .val (.int b1v), .val (.int b2v), .val (.int (1 : Int32)), .val (.int (2 : Int32)), .val (.int (1 : Int32)), .val (.int po), .val (.int b1v), .val (.int b0v), .val (.int (0 : Int32)), .val (.long (((1 : Int64) <<< (b1v &&& 0x3f).toInt64) - (1 : Int64))), .second, .val (.ref b172), .val (.ref b184), .unset, .unset, .unset, .unset, .unset, .unset, .unset, .unset, .unset] [(.long (q3 ^^^ (-1 : Int64))), (.int (3 : Int32)), (.ref b201), (.ref b201)]))
      obtain ⟨cl249, Ar249, qk249, Sz249, Nn249, Ha249, Ga249⟩ := id V_248
      have hin249 : ¬ ((3 : Int32) < 0 ∨ cl249.slots.size ≤ ((3 : Int32) : Int32).toNatClampNeg) := inb_of Sz249 ⟨by decide, by decide⟩
      obtain ⟨T249, h249, X249, e249, W249, st249⟩ := stJ X238 hx hZ e238 Ar249 (j := (3 : Int32)) hin249 (g := (mkF m 239 #[.val (.int p0), .val (.int p1), .val (.int p2), .val (.long q3), .second, .val (.long q4), .second, .val (.int b0v), .val (.int b1v), .val (.int b2v), .val (.int (1 : Int32)), .val (.int (2 : Int32)), .val (.int (1 : Int32)), .val (.int po), .val (.int b1v), .val (.int b0v), .val (.int (0 : Int32)), .val (.long (((1 : Int64) <<< (b1v &&& 0x3f).toInt64) - (1 : Int64))), .second, .val (.ref b172), .val (.ref b184), .unset, .unset, .unset, .unset, .unset, .unset, .unset, .unset, .unset] [(.long (q3 ^^^ (-1 : Int64))), (.int (3 : Int32)), (.ref b201), (.ref b201)])) rfl rfl (hb hby at_239)
      refine Go.st st249 ?_
      have O250 : Old Z n0 h249 := O239.wr W249 gn201
      have E_251 : Exa Z h249 b184 "com/example/gieres/gieres/model/TupleTable" := E_240.wr W249
      have F252 : Fld Z h249 b184 "com/example/gieres/gieres/model/TupleTable" "word" "[I" (.ref aw) := F241.other W249 (Or.inl ne202)
      have V_253 : Arv Z h249 aw kw .int (3 : Int32) [(.int (0 : Int32)), (.int (0 : Int32)), (.int (1 : Int32))] (.int (0 : Int32)) := V_242.other W249 ne203
      have F254 : Fld Z h249 b184 "com/example/gieres/gieres/model/TupleTable" "shift" "[I" (.ref as) := F243.other W249 (Or.inl ne202)
      have V_255 : Arv Z h249 as ks .int (3 : Int32) [(.int (0 : Int32)), (.int b0v), (.int (0 : Int32))] (.int (0 : Int32)) := V_244.other W249 ne204
      have F256 : Fld Z h249 b184 "com/example/gieres/gieres/model/TupleTable" "mask" "[J" (.ref am) := F245.other W249 (Or.inl ne202)
      have V_257 : Arv Z h249 am km .long (3 : Int32) [(.long (own_mask b0v)), (.long (own_mask b1v)), (.long (own_mask b2v))] (.long (0 : Int64)) := V_246.other W249 ne205
      have F258 : Fld Z h249 b184 "com/example/gieres/gieres/model/TupleTable" "width" "I" (.int (2 : Int32)) := F247.other W249 (Or.inl ne202)
      have V_259 : Arv Z h249 b201 k201 .long (4 : Int32) [(.long q3), (.long q4), (.long (q4 ^^^ (-1 : Int64))), (.long (q3 ^^^ (-1 : Int64)))] (.long (0 : Int64)) := Arv.set Ar249 qk249 Sz249 Nn249 Ha249 Ga249 rfl W249 3 rfl (Nat.le_of_ble_eq_true rfl)
      have N249 := Fr.snoc X249 N238 gn201
      show Go p e below _ (T249.setTop (mkF m 240 #[.val (.int p0), .val (.int p1), .val (.int p2), .val (.long q3), .second, .val (.long q4), .second, .val (.int b0v), .val (.int b1v), .val (.int b2v), .val (.int (1 : Int32)), .val (.int (2 : Int32)), .val (.int (1 : Int32)), .val (.int po), .val (.int b1v), .val (.int b0v), .val (.int (0 : Int32)), .val (.long (((1 : Int64) <<< (b1v &&& 0x3f).toInt64) - (1 : Int64))), .second, .val (.ref b172), .val (.ref b184), .unset, .unset, .unset, .unset, .unset, .unset, .unset, .unset, .unset] [(.ref b201)]))
      refine Go.st (fun _ => XS.goto X249.here hx rfl (pc0 := 240) (pc' := 255) rfl (hb hby at_240) (by decide) (by decide)) ?_
      refine Go.st (fun _ => XS.astore X249.here hx rfl (hb hby at_255) rfl rfl (l' := #[.val (.int p0), .val (.int p1), .val (.int p2), .val (.long q3), .second, .val (.long q4), .second, .val (.int b0v), .val (.int b1v), .val (.int b2v), .val (.int (1 : Int32)), .val (.int (2 : Int32)), .val (.int (1 : Int32)), .val (.int po), .val (.int b1v), .val (.int b0v), .val (.int (0 : Int32)), .val (.long (((1 : Int64) <<< (b1v &&& 0x3f).toInt64) - (1 : Int64))), .second, .val (.ref b172), .val (.ref b184), .val (.ref b201), .unset, .unset, .unset, .unset, .unset, .unset, .unset, .unset]) rfl) ?_
      refine Go.st (fun _ => XS.iload X249.here hx rfl (hb hby at_257) rfl) ?_
      refine Go.st (fun _ => XS.ifNo X249.here hx rfl (hb hby at_259) rfl ((if0 _ _).trans (feq (by decide : ¬ ((1 : Int32) = (0 : Int32)))).1)) ?_
      refine Go.st (fun _ => XS.iconst X249.here hx rfl (hb hby at_262)) ?_
      show Go p e below _ (T249.setTop (mkF m 263 #[.val (.int p0), .val (.int p1), .val (.int p2), .val (.long q3), .second, .val (.long q4), .second, .val (.int b0v), .val (.int b1v), .val (.int b2v), .val (.int (1 : Int32)), .val (.int (2 : Int32)), .val (.int (1 : Int32)), .val (.int po), .val (.int b1v), .val (.int b0v), .val (.int (0 : Int32)), .val (.long (((1 : Int64) <<< (b1v &&& 0x3f).toInt64) - (1 : Int64))), .second, .val (.ref b172), .val (.ref b184), .val (.ref b201), .unset, .unset, .unset, .unset, .unset, .unset, .unset, .unset] [(.int (4 : Int32))]))
      obtain ⟨T260, h260, k260, X260, e260, E260, A260, st260⟩ := newP X249 hx hZ (hw _ (List.mem_of_getElem? (i := 0) rfl)) e249 (g := (mkF m 263 #[.val (.int p0), .val (.int p1), .val (.int p2), .val (.long q3), .second, .val (.long q4), .second, .val (.int b0v), .val (.int b1v), .val (.int b2v), .val (.int (1 : Int32)), .val (.int (2 : Int32)), .val (.int (1 : Int32)), .val (.int po), .val (.int b1v), .val (.int b0v), .val (.int (0 : Int32)), .val (.long (((1 : Int64) <<< (b1v &&& 0x3f).toInt64) - (1 : Int64))), .second, .val (.ref b172), .val (.ref b184), .val (.ref b201), .unset, .unset, .unset, .unset, .unset, .unset, .unset, .unset] [(.int (4 : Int32))])) rfl (hb hby at_263) rfl (by decide) (cap := 4) (by decide) (by decide) (by decide) (by decide)
      obtain ⟨b260, g260⟩ : ∃ z, z = h249.size := ⟨_, rfl⟩
      rw [← g260] at A260 st260
      refine Go.st st260 ?_
      have gn260 : n0 ≤ b260 := oldGe O250 g260
      have ne261 : b184 ≠ b260 := Nat.ne_of_lt (Nat.lt_of_lt_of_le E_251.lt (Nat.le_of_eq g260.symm))
      have ne262 : aw ≠ b260 := Nat.ne_of_lt (Nat.lt_of_lt_of_le V_253.lt (Nat.le_of_eq g260.symm))
      have ne263 : as ≠ b260 := Nat.ne_of_lt (Nat.lt_of_lt_of_le V_255.lt (Nat.le_of_eq g260.symm))
      have ne264 : am ≠ b260 := Nat.ne_of_lt (Nat.lt_of_lt_of_le V_257.lt (Nat.le_of_eq g260.symm))
      have ne265 : b201 ≠ b260 := Nat.ne_of_lt (Nat.lt_of_lt_of_le V_259.lt (Nat.le_of_eq g260.symm))
      have O266 : Old Z n0 h260 := O250.ext E260
      have E_267 : Exa Z h260 b184 "com/example/gieres/gieres/model/TupleTable" := E_251.ext E260
      have F268 : Fld Z h260 b184 "com/example/gieres/gieres/model/TupleTable" "word" "[I" (.ref aw) := F252.ext E260
      have V_269 : Arv Z h260 aw kw .int (3 : Int32) [(.int (0 : Int32)), (.int (0 : Int32)), (.int (1 : Int32))] (.int (0 : Int32)) := V_253.ext E260
      have F270 : Fld Z h260 b184 "com/example/gieres/gieres/model/TupleTable" "shift" "[I" (.ref as) := F254.ext E260
      have V_271 : Arv Z h260 as ks .int (3 : Int32) [(.int (0 : Int32)), (.int b0v), (.int (0 : Int32))] (.int (0 : Int32)) := V_255.ext E260
      have F272 : Fld Z h260 b184 "com/example/gieres/gieres/model/TupleTable" "mask" "[J" (.ref am) := F256.ext E260
      have V_273 : Arv Z h260 am km .long (3 : Int32) [(.long (own_mask b0v)), (.long (own_mask b1v)), (.long (own_mask b2v))] (.long (0 : Int64)) := V_257.ext E260
      have F274 : Fld Z h260 b184 "com/example/gieres/gieres/model/TupleTable" "width" "I" (.int (2 : Int32)) := F258.ext E260
      have V_275 : Arv Z h260 b201 k201 .long (4 : Int32) [(.long q3), (.long q4), (.long (q4 ^^^ (-1 : Int64))), (.long (q3 ^^^ (-1 : Int64)))] (.long (0 : Int64)) := V_259.ext E260
      have V_276 : Arv Z h260 b260 k260 .long (4 : Int32) [(.long (0 : Int64)), (.long (0 : Int64)), (.long (0 : Int64)), (.long (0 : Int64))] (.long (0 : Int64)) := (Arv.new A260 (by decide)).pad (pad_rep [] (.long (0 : Int64)) 4)
      show Go p e below _ (T260.setTop (mkF m 265 #[.val (.int p0), .val (.int p1), .val (.int p2), .val (.long q3), .second, .val (.long q4), .second, .val (.int b0v), .val (.int b1v), .val (.int b2v), .val (.int (1 : Int32)), .val (.int (2 : Int32)), .val (.int (1 : Int32)), .val (.int po), .val (.int b1v), .val (.int b0v), .val (.int (0 : Int32)), .val (.long (((1 : Int64) <<< (b1v &&& 0x3f).toInt64) - (1 : Int64))), .second, .val (.ref b172), .val (.ref b184), .val (.ref b201), .unset, .unset, .unset, .unset, .unset, .unset, .unset, .unset] [(.ref b260)]))
      refine Go.st (fun _ => XS.dup X260.here hx rfl (hb hby at_265) rfl rfl) ?_
      refine Go.st (fun _ => XS.iconst X260.here hx rfl (hb hby at_266)) ?_
      refine Go.st (fun _ => XS.lloadN X260.here hx rfl (hb hby at_267) rfl) ?_
      show Go p e below _ (T260.setTop (mkF m 268 #[.val (.int p0), .val (.int p1), .val (.int p2), .val (.long q3), .second, .val (.long q4), .second, .val (.int b0v), .val (.int b1v), .val (.int b2v), .val (.int (1 : Int32)), .val (.int (2 : Int32)), .val (.int (1 : Int32)), .val (.int po), .val (.int b1v), .val (.int b0v), .val (.int (0 : Int32)), .val (.long (((1 : Int64) <<< (b1v &&& 0x3f).toInt64) - (1 : Int64))), .second, .val (.ref b172), .val (.ref b184), .val (.ref b201), .unset, .unset, .unset, .unset, .unset, .unset, .unset, .unset] [(.long q3), (.int (0 : Int32)), (.ref b260), (.ref b260)]))
      obtain ⟨cl277, Ar277, qk277, Sz277, Nn277, Ha277, Ga277⟩ := id V_276
      have hin277 : ¬ ((0 : Int32) < 0 ∨ cl277.slots.size ≤ ((0 : Int32) : Int32).toNatClampNeg) := inb_of Sz277 ⟨by decide, by decide⟩
      obtain ⟨T277, h277, X277, e277, W277, st277⟩ := stJ X260 hx hZ e260 Ar277 (j := (0 : Int32)) hin277 (g := (mkF m 268 #[.val (.int p0), .val (.int p1), .val (.int p2), .val (.long q3), .second, .val (.long q4), .second, .val (.int b0v), .val (.int b1v), .val (.int b2v), .val (.int (1 : Int32)), .val (.int (2 : Int32)), .val (.int (1 : Int32)), .val (.int po), .val (.int b1v), .val (.int b0v), .val (.int (0 : Int32)), .val (.long (((1 : Int64) <<< (b1v &&& 0x3f).toInt64) - (1 : Int64))), .second, .val (.ref b172), .val (.ref b184), .val (.ref b201), .unset, .unset, .unset, .unset, .unset, .unset, .unset, .unset] [(.long q3), (.int (0 : Int32)), (.ref b260), (.ref b260)])) rfl rfl (hb hby at_268)
      refine Go.st st277 ?_
      have O278 : Old Z n0 h277 := O266.wr W277 gn260
      have E_279 : Exa Z h277 b184 "com/example/gieres/gieres/model/TupleTable" := E_267.wr W277
      have F280 : Fld Z h277 b184 "com/example/gieres/gieres/model/TupleTable" "word" "[I" (.ref aw) := F268.other W277 (Or.inl ne261)
      have V_281 : Arv Z h277 aw kw .int (3 : Int32) [(.int (0 : Int32)), (.int (0 : Int32)), (.int (1 : Int32))] (.int (0 : Int32)) := V_269.other W277 ne262
      have F282 : Fld Z h277 b184 "com/example/gieres/gieres/model/TupleTable" "shift" "[I" (.ref as) := F270.other W277 (Or.inl ne261)
      have V_283 : Arv Z h277 as ks .int (3 : Int32) [(.int (0 : Int32)), (.int b0v), (.int (0 : Int32))] (.int (0 : Int32)) := V_271.other W277 ne263
      have F284 : Fld Z h277 b184 "com/example/gieres/gieres/model/TupleTable" "mask" "[J" (.ref am) := F272.other W277 (Or.inl ne261)
      have V_285 : Arv Z h277 am km .long (3 : Int32) [(.long (own_mask b0v)), (.long (own_mask b1v)), (.long (own_mask b2v))] (.long (0 : Int64)) := V_273.other W277 ne264
      have F286 : Fld Z h277 b184 "com/example/gieres/gieres/model/TupleTable" "width" "I" (.int (2 : Int32)) := F274.other W277 (Or.inl ne261)
      have V_287 : Arv Z h277 b201 k201 .long (4 : Int32) [(.long q3), (.long q4), (.long (q4 ^^^ (-1 : Int64))), (.long (q3 ^^^ (-1 : Int64)))] (.long (0 : Int64)) := V_275.other W277 ne265
      have V_288 : Arv Z h277 b260 k260 .long (4 : Int32) [(.long q3), (.long (0 : Int64)), (.long (0 : Int64)), (.long (0 : Int64))] (.long (0 : Int64)) := Arv.set Ar277 qk277 Sz277 Nn277 Ha277 Ga277 rfl W277 0 rfl (Nat.le_of_ble_eq_true rfl)
      have N277 := Fr.snoc X277 N249 gn260
      show Go p e below _ (T277.setTop (mkF m 269 #[.val (.int p0), .val (.int p1), .val (.int p2), .val (.long q3), .second, .val (.long q4), .second, .val (.int b0v), .val (.int b1v), .val (.int b2v), .val (.int (1 : Int32)), .val (.int (2 : Int32)), .val (.int (1 : Int32)), .val (.int po), .val (.int b1v), .val (.int b0v), .val (.int (0 : Int32)), .val (.long (((1 : Int64) <<< (b1v &&& 0x3f).toInt64) - (1 : Int64))), .second, .val (.ref b172), .val (.ref b184), .val (.ref b201), .unset, .unset, .unset, .unset, .unset, .unset, .unset, .unset] [(.ref b260)]))
      refine Go.st (fun _ => XS.dup X277.here hx rfl (hb hby at_269) rfl rfl) ?_
      refine Go.st (fun _ => XS.iconst X277.here hx rfl (hb hby at_270)) ?_
      refine Go.st (fun _ => XS.lload X277.here hx rfl (hb hby at_271) rfl) ?_
      show Go p e below _ (T277.setTop (mkF m 273 #[.val (.int p0), .val (.int p1), .val (.int p2), .val (.long q3), .second, .val (.long q4), .second, .val (.int b0v), .val (.int b1v), .val (.int b2v), .val (.int (1 : Int32)), .val (.int (2 : Int32)), .val (.int (1 : Int32)), .val (.int po), .val (.int b1v), .val (.int b0v), .val (.int (0 : Int32)), .val (.long (((1 : Int64) <<< (b1v &&& 0x3f).toInt64) - (1 : Int64))), .second, .val (.ref b172), .val (.ref b184), .val (.ref b201), .unset, .unset, .unset, .unset, .unset, .unset, .unset, .unset] [(.long q4), (.int (1 : Int32)), (.ref b260), (.ref b260)]))
      obtain ⟨cl289, Ar289, qk289, Sz289, Nn289, Ha289, Ga289⟩ := id V_288
      have hin289 : ¬ ((1 : Int32) < 0 ∨ cl289.slots.size ≤ ((1 : Int32) : Int32).toNatClampNeg) := inb_of Sz289 ⟨by decide, by decide⟩
      obtain ⟨T289, h289, X289, e289, W289, st289⟩ := stJ X277 hx hZ e277 Ar289 (j := (1 : Int32)) hin289 (g := (mkF m 273 #[.val (.int p0), .val (.int p1), .val (.int p2), .val (.long q3), .second, .val (.long q4), .second, .val (.int b0v), .val (.int b1v), .val (.int b2v), .val (.int (1 : Int32)), .val (.int (2 : Int32)), .val (.int (1 : Int32)), .val (.int po), .val (.int b1v), .val (.int b0v), .val (.int (0 : Int32)), .val (.long (((1 : Int64) <<< (b1v &&& 0x3f).toInt64) - (1 : Int64))), .second, .val (.ref b172), .val (.ref b184), .val (.ref b201), .unset, .unset, .unset, .unset, .unset, .unset, .unset, .unset] [(.long q4), (.int (1 : Int32)), (.ref b260), (.ref b260)])) rfl rfl (hb hby at_273)
      refine Go.st st289 ?_
      have O290 : Old Z n0 h289 := O278.wr W289 gn260
      have E_291 : Exa Z h289 b184 "com/example/gieres/gieres/model/TupleTable" := E_279.wr W289
      have F292 : Fld Z h289 b184 "com/example/gieres/gieres/model/TupleTable" "word" "[I" (.ref aw) := F280.other W289 (Or.inl ne261)
      have V_293 : Arv Z h289 aw kw .int (3 : Int32) [(.int (0 : Int32)), (.int (0 : Int32)), (.int (1 : Int32))] (.int (0 : Int32)) := V_281.other W289 ne262
      have F294 : Fld Z h289 b184 "com/example/gieres/gieres/model/TupleTable" "shift" "[I" (.ref as) := F282.other W289 (Or.inl ne261)
      have V_295 : Arv Z h289 as ks .int (3 : Int32) [(.int (0 : Int32)), (.int b0v), (.int (0 : Int32))] (.int (0 : Int32)) := V_283.other W289 ne263
      have F296 : Fld Z h289 b184 "com/example/gieres/gieres/model/TupleTable" "mask" "[J" (.ref am) := F284.other W289 (Or.inl ne261)
      have V_297 : Arv Z h289 am km .long (3 : Int32) [(.long (own_mask b0v)), (.long (own_mask b1v)), (.long (own_mask b2v))] (.long (0 : Int64)) := V_285.other W289 ne264
      have F298 : Fld Z h289 b184 "com/example/gieres/gieres/model/TupleTable" "width" "I" (.int (2 : Int32)) := F286.other W289 (Or.inl ne261)
      have V_299 : Arv Z h289 b201 k201 .long (4 : Int32) [(.long q3), (.long q4), (.long (q4 ^^^ (-1 : Int64))), (.long (q3 ^^^ (-1 : Int64)))] (.long (0 : Int64)) := V_287.other W289 ne265
      have V_300 : Arv Z h289 b260 k260 .long (4 : Int32) [(.long q3), (.long q4), (.long (0 : Int64)), (.long (0 : Int64))] (.long (0 : Int64)) := Arv.set Ar289 qk289 Sz289 Nn289 Ha289 Ga289 rfl W289 1 rfl (Nat.le_of_ble_eq_true rfl)
      have N289 := Fr.snoc X289 N277 gn260
      show Go p e below _ (T289.setTop (mkF m 274 #[.val (.int p0), .val (.int p1), .val (.int p2), .val (.long q3), .second, .val (.long q4), .second, .val (.int b0v), .val (.int b1v), .val (.int b2v), .val (.int (1 : Int32)), .val (.int (2 : Int32)), .val (.int (1 : Int32)), .val (.int po), .val (.int b1v), .val (.int b0v), .val (.int (0 : Int32)), .val (.long (((1 : Int64) <<< (b1v &&& 0x3f).toInt64) - (1 : Int64))), .second, .val (.ref b172), .val (.ref b184), .val (.ref b201), .unset, .unset, .unset, .unset, .unset, .unset, .unset, .unset] [(.ref b260)]))
      refine Go.st (fun _ => XS.dup X289.here hx rfl (hb hby at_274) rfl rfl) ?_
      refine Go.st (fun _ => XS.iconst X289.here hx rfl (hb hby at_275)) ?_
      refine Go.st (fun _ => XS.lload X289.here hx rfl (hb hby at_276) rfl) ?_
      show Go p e below _ (T289.setTop (mkF m 278 #[.val (.int p0), .val (.int p1), .val (.int p2), .val (.long q3), .second, .val (.long q4), .second, .val (.int b0v), .val (.int b1v), .val (.int b2v), .val (.int (1 : Int32)), .val (.int (2 : Int32)), .val (.int (1 : Int32)), .val (.int po), .val (.int b1v), .val (.int b0v), .val (.int (0 : Int32)), .val (.long (((1 : Int64) <<< (b1v &&& 0x3f).toInt64) - (1 : Int64))), .second, .val (.ref b172), .val (.ref b184), .val (.ref b201), .unset, .unset, .unset, .unset, .unset, .unset, .unset, .unset] [(.long q4), (.int (2 : Int32)), (.ref b260), (.ref b260)]))
      refine Go.st (fun _ => X289.ldc2Long hx hown (mvT hZ (hw _ (List.mem_of_getElem? (i := 54) rfl))) (g := (mkF m 278 #[.val (.int p0), .val (.int p1), .val (.int p2), .val (.long q3), .second, .val (.long q4), .second, .val (.int b0v), .val (.int b1v), .val (.int b2v), .val (.int (1 : Int32)), .val (.int (2 : Int32)), .val (.int (1 : Int32)), .val (.int po), .val (.int b1v), .val (.int b0v), .val (.int (0 : Int32)), .val (.long (((1 : Int64) <<< (b1v &&& 0x3f).toInt64) - (1 : Int64))), .second, .val (.ref b172), .val (.ref b184), .val (.ref b201), .unset, .unset, .unset, .unset, .unset, .unset, .unset, .unset] [(.long q4), (.int (2 : Int32)), (.ref b260), (.ref b260)])) rfl (hb hby at_278) _) ?_
      show Go p e below _ (T289.setTop (mkF m 281 #[.val (.int p0), .val (.int p1), .val (.int p2), .val (.long q3), .second, .val (.long q4), .second, .val (.int b0v), .val (.int b1v), .val (.int b2v), .val (.int (1 : Int32)), .val (.int (2 : Int32)), .val (.int (1 : Int32)), .val (.int po), .val (.int b1v), .val (.int b0v), .val (.int (0 : Int32)), .val (.long (((1 : Int64) <<< (b1v &&& 0x3f).toInt64) - (1 : Int64))), .second, .val (.ref b172), .val (.ref b184), .val (.ref b201), .unset, .unset, .unset, .unset, .unset, .unset, .unset, .unset] [(.long (-1 : Int64)), (.long q4), (.int (2 : Int32)), (.ref b260), (.ref b260)]))
      refine Go.st (fun _ => XS.lxor X289.here hx rfl (hb hby at_281) rfl) ?_
      show Go p e below _ (T289.setTop (mkF m 282 #[.val (.int p0), .val (.int p1), .val (.int p2), .val (.long q3), .second, .val (.long q4), .second, .val (.int b0v), .val (.int b1v), .val (.int b2v), .val (.int (1 : Int32)), .val (.int (2 : Int32)), .val (.int (1 : Int32)), .val (.int po), .val (.int b1v), .val (.int b0v), .val (.int (0 : Int32)), .val (.long (((1 : Int64) <<< (b1v &&& 0x3f).toInt64) - (1 : Int64))), .second, .val (.ref b172), .val (.ref b184), .val (.ref b201), .unset, .unset, .unset, .unset, .unset, .unset, .unset, .unset] [(.long (q4 ^^^ (-1 : Int64))), (.int (2 : Int32)), (.ref b260), (.ref b260)]))
      obtain ⟨cl301, Ar301, qk301, Sz301, Nn301, Ha301, Ga301⟩ := id V_300
      have hin301 : ¬ ((2 : Int32) < 0 ∨ cl301.slots.size ≤ ((2 : Int32) : Int32).toNatClampNeg) := inb_of Sz301 ⟨by decide, by decide⟩
      obtain ⟨T301, h301, X301, e301, W301, st301⟩ := stJ X289 hx hZ e289 Ar301 (j := (2 : Int32)) hin301 (g := (mkF m 282 #[.val (.int p0), .val (.int p1), .val (.int p2), .val (.long q3), .second, .val (.long q4), .second, .val (.int b0v), .val (.int b1v), .val (.int b2v), .val (.int (1 : Int32)), .val (.int (2 : Int32)), .val (.int (1 : Int32)), .val (.int po), .val (.int b1v), .val (.int b0v), .val (.int (0 : Int32)), .val (.long (((1 : Int64) <<< (b1v &&& 0x3f).toInt64) - (1 : Int64))), .second, .val (.ref b172), .val (.ref b184), .val (.ref b201), .unset, .unset, .unset, .unset, .unset, .unset, .unset, .unset] [(.long (q4 ^^^ (-1 : Int64))), (.int (2 : Int32)), (.ref b260), (.ref b260)])) rfl rfl (hb hby at_282)
      refine Go.st st301 ?_
      have O302 : Old Z n0 h301 := O290.wr W301 gn260
      have E_303 : Exa Z h301 b184 "com/example/gieres/gieres/model/TupleTable" := E_291.wr W301
      have F304 : Fld Z h301 b184 "com/example/gieres/gieres/model/TupleTable" "word" "[I" (.ref aw) := F292.other W301 (Or.inl ne261)
      have V_305 : Arv Z h301 aw kw .int (3 : Int32) [(.int (0 : Int32)), (.int (0 : Int32)), (.int (1 : Int32))] (.int (0 : Int32)) := V_293.other W301 ne262
      have F306 : Fld Z h301 b184 "com/example/gieres/gieres/model/TupleTable" "shift" "[I" (.ref as) := F294.other W301 (Or.inl ne261)
      have V_307 : Arv Z h301 as ks .int (3 : Int32) [(.int (0 : Int32)), (.int b0v), (.int (0 : Int32))] (.int (0 : Int32)) := V_295.other W301 ne263
      have F308 : Fld Z h301 b184 "com/example/gieres/gieres/model/TupleTable" "mask" "[J" (.ref am) := F296.other W301 (Or.inl ne261)
      have V_309 : Arv Z h301 am km .long (3 : Int32) [(.long (own_mask b0v)), (.long (own_mask b1v)), (.long (own_mask b2v))] (.long (0 : Int64)) := V_297.other W301 ne264
      have F310 : Fld Z h301 b184 "com/example/gieres/gieres/model/TupleTable" "width" "I" (.int (2 : Int32)) := F298.other W301 (Or.inl ne261)
      have V_311 : Arv Z h301 b201 k201 .long (4 : Int32) [(.long q3), (.long q4), (.long (q4 ^^^ (-1 : Int64))), (.long (q3 ^^^ (-1 : Int64)))] (.long (0 : Int64)) := V_299.other W301 ne265
      have V_312 : Arv Z h301 b260 k260 .long (4 : Int32) [(.long q3), (.long q4), (.long (q4 ^^^ (-1 : Int64))), (.long (0 : Int64))] (.long (0 : Int64)) := Arv.set Ar301 qk301 Sz301 Nn301 Ha301 Ga301 rfl W301 2 rfl (Nat.le_of_ble_eq_true rfl)
      have N301 := Fr.snoc X301 N289 gn260
      show Go p e below _ (T301.setTop (mkF m 283 #[.val (.int p0), .val (.int p1), .val (.int p2), .val (.long q3), .second, .val (.long q4), .second, .val (.int b0v), .val (.int b1v), .val (.int b2v), .val (.int (1 : Int32)), .val (.int (2 : Int32)), .val (.int (1 : Int32)), .val (.int po), .val (.int b1v), .val (.int b0v), .val (.int (0 : Int32)), .val (.long (((1 : Int64) <<< (b1v &&& 0x3f).toInt64) - (1 : Int64))), .second, .val (.ref b172), .val (.ref b184), .val (.ref b201), .unset, .unset, .unset, .unset, .unset, .unset, .unset, .unset] [(.ref b260)]))
      refine Go.st (fun _ => XS.dup X301.here hx rfl (hb hby at_283) rfl rfl) ?_
      refine Go.st (fun _ => XS.iconst X301.here hx rfl (hb hby at_284)) ?_
      refine Go.st (fun _ => XS.lloadN X301.here hx rfl (hb hby at_285) rfl) ?_
      show Go p e below _ (T301.setTop (mkF m 286 #[.val (.int p0), .val (.int p1), .val (.int p2), .val (.long q3), .second, .val (.long q4), .second, .val (.int b0v), .val (.int b1v), .val (.int b2v), .val (.int (1 : Int32)), .val (.int (2 : Int32)), .val (.int (1 : Int32)), .val (.int po), .val (.int b1v), .val (.int b0v), .val (.int (0 : Int32)), .val (.long (((1 : Int64) <<< (b1v &&& 0x3f).toInt64) - (1 : Int64))), .second, .val (.ref b172), .val (.ref b184), .val (.ref b201), .unset, .unset, .unset, .unset, .unset, .unset, .unset, .unset] [(.long q3), (.int (3 : Int32)), (.ref b260), (.ref b260)]))
      refine Go.st (fun _ => X301.ldc2Long hx hown (mvT hZ (hw _ (List.mem_of_getElem? (i := 54) rfl))) (g := (mkF m 286 #[.val (.int p0), .val (.int p1), .val (.int p2), .val (.long q3), .second, .val (.long q4), .second, .val (.int b0v), .val (.int b1v), .val (.int b2v), .val (.int (1 : Int32)), .val (.int (2 : Int32)), .val (.int (1 : Int32)), .val (.int po), .val (.int b1v), .val (.int b0v), .val (.int (0 : Int32)), .val (.long (((1 : Int64) <<< (b1v &&& 0x3f).toInt64) - (1 : Int64))), .second, .val (.ref b172), .val (.ref b184), .val (.ref b201), .unset, .unset, .unset, .unset, .unset, .unset, .unset, .unset] [(.long q3), (.int (3 : Int32)), (.ref b260), (.ref b260)])) rfl (hb hby at_286) _) ?_
      show Go p e below _ (T301.setTop (mkF m 289 #[.val (.int p0), .val (.int p1), .val (.int p2), .val (.long q3), .second, .val (.long q4), .second, .val (.int b0v), .val (.int b1v), .val (.int b2v), .val (.int (1 : Int32)), .val (.int (2 : Int32)), .val (.int (1 : Int32)), .val (.int po), .val (.int b1v), .val (.int b0v), .val (.int (0 : Int32)), .val (.long (((1 : Int64) <<< (b1v &&& 0x3f).toInt64) - (1 : Int64))), .second, .val (.ref b172), .val (.ref b184), .val (.ref b201), .unset, .unset, .unset, .unset, .unset, .unset, .unset, .unset] [(.long (-1 : Int64)), (.long q3), (.int (3 : Int32)), (.ref b260), (.ref b260)]))
      refine Go.st (fun _ => XS.lxor X301.here hx rfl (hb hby at_289) rfl) ?_
      show Go p e below _ (T301.setTop (mkF m 290 #[.val (.int p0), .val (.int p1), .val (.int p2), .val (.long q3), .second, .val (.long q4), .second, .val (.int b0v), .val (.int b1v), .val (.int b2v), .val (.int (1 : Int32)), .val (.int (2 : Int32)), .val (.int (1 : Int32)), .val (.int po), .val (.int b1v), .val (.int b0v), .val (.int (0 : Int32)), .val (.long (((1 : Int64) <<< (b1v &&& 0x3f).toInt64) - (1 : Int64))), .second, .val (.ref b172), .val (.ref b184), .val (.ref b201), .unset, .unset, .unset, .unset, .unset, .unset, .unset, .unset] [(.long (q3 ^^^ (-1 : Int64))), (.int (3 : Int32)), (.ref b260), (.ref b260)]))
      obtain ⟨cl313, Ar313, qk313, Sz313, Nn313, Ha313, Ga313⟩ := id V_312
      have hin313 : ¬ ((3 : Int32) < 0 ∨ cl313.slots.size ≤ ((3 : Int32) : Int32).toNatClampNeg) := inb_of Sz313 ⟨by decide, by decide⟩
      obtain ⟨T313, h313, X313, e313, W313, st313⟩ := stJ X301 hx hZ e301 Ar313 (j := (3 : Int32)) hin313 (g := (mkF m 290 #[.val (.int p0), .val (.int p1), .val (.int p2), .val (.long q3), .second, .val (.long q4), .second, .val (.int b0v), .val (.int b1v), .val (.int b2v), .val (.int (1 : Int32)), .val (.int (2 : Int32)), .val (.int (1 : Int32)), .val (.int po), .val (.int b1v), .val (.int b0v), .val (.int (0 : Int32)), .val (.long (((1 : Int64) <<< (b1v &&& 0x3f).toInt64) - (1 : Int64))), .second, .val (.ref b172), .val (.ref b184), .val (.ref b201), .unset, .unset, .unset, .unset, .unset, .unset, .unset, .unset] [(.long (q3 ^^^ (-1 : Int64))), (.int (3 : Int32)), (.ref b260), (.ref b260)])) rfl rfl (hb hby at_290)
      refine Go.st st313 ?_
      have O314 : Old Z n0 h313 := O302.wr W313 gn260
      have E_315 : Exa Z h313 b184 "com/example/gieres/gieres/model/TupleTable" := E_303.wr W313
      have F316 : Fld Z h313 b184 "com/example/gieres/gieres/model/TupleTable" "word" "[I" (.ref aw) := F304.other W313 (Or.inl ne261)
      have V_317 : Arv Z h313 aw kw .int (3 : Int32) [(.int (0 : Int32)), (.int (0 : Int32)), (.int (1 : Int32))] (.int (0 : Int32)) := V_305.other W313 ne262
      have F318 : Fld Z h313 b184 "com/example/gieres/gieres/model/TupleTable" "shift" "[I" (.ref as) := F306.other W313 (Or.inl ne261)
      have V_319 : Arv Z h313 as ks .int (3 : Int32) [(.int (0 : Int32)), (.int b0v), (.int (0 : Int32))] (.int (0 : Int32)) := V_307.other W313 ne263
      have F320 : Fld Z h313 b184 "com/example/gieres/gieres/model/TupleTable" "mask" "[J" (.ref am) := F308.other W313 (Or.inl ne261)
      have V_321 : Arv Z h313 am km .long (3 : Int32) [(.long (own_mask b0v)), (.long (own_mask b1v)), (.long (own_mask b2v))] (.long (0 : Int64)) := V_309.other W313 ne264
      have F322 : Fld Z h313 b184 "com/example/gieres/gieres/model/TupleTable" "width" "I" (.int (2 : Int32)) := F310.other W313 (Or.inl ne261)
      have V_323 : Arv Z h313 b201 k201 .long (4 : Int32) [(.long q3), (.long q4), (.long (q4 ^^^ (-1 : Int64))), (.long (q3 ^^^ (-1 : Int64)))] (.long (0 : Int64)) := V_311.other W313 ne265
      have V_324 : Arv Z h313 b260 k260 .long (4 : Int32) [(.long q3), (.long q4), (.long (q4 ^^^ (-1 : Int64))), (.long (q3 ^^^ (-1 : Int64)))] (.long (0 : Int64)) := Arv.set Ar313 qk313 Sz313 Nn313 Ha313 Ga313 rfl W313 3 rfl (Nat.le_of_ble_eq_true rfl)
      have N313 := Fr.snoc X313 N301 gn260
      show Go p e below _ (T313.setTop (mkF m 291 #[.val (.int p0), .val (.int p1), .val (.int p2), .val (.long q3), .second, .val (.long q4), .second, .val (.int b0v), .val (.int b1v), .val (.int b2v), .val (.int (1 : Int32)), .val (.int (2 : Int32)), .val (.int (1 : Int32)), .val (.int po), .val (.int b1v), .val (.int b0v), .val (.int (0 : Int32)), .val (.long (((1 : Int64) <<< (b1v &&& 0x3f).toInt64) - (1 : Int64))), .second, .val (.ref b172), .val (.ref b184), .val (.ref b201), .unset, .unset, .unset, .unset, .unset, .unset, .unset, .unset] [(.ref b260)]))
      refine Go.st (fun _ => XS.goto X313.here hx rfl (pc0 := 291) (pc' := 306) rfl (hb hby at_291) (by decide) (by decide)) ?_
      refine Go.st (fun _ => XS.astore X313.here hx rfl (hb hby at_306) rfl rfl (l' := #[.val (.int p0), .val (.int p1), .val (.int p2), .val (.long q3), .second, .val (.long q4), .second, .val (.int b0v), .val (.int b1v), .val (.int b2v), .val (.int (1 : Int32)), .val (.int (2 : Int32)), .val (.int (1 : Int32)), .val (.int po), .val (.int b1v), .val (.int b0v), .val (.int (0 : Int32)), .val (.long (((1 : Int64) <<< (b1v &&& 0x3f).toInt64) - (1 : Int64))), .second, .val (.ref b172), .val (.ref b184), .val (.ref b201), .val (.ref b260), .unset, .unset, .unset, .unset, .unset, .unset, .unset]) rfl) ?_
      show Go p e below _ (T313.setTop (mkF m 308 #[.val (.int p0), .val (.int p1), .val (.int p2), .val (.long q3), .second, .val (.long q4), .second, .val (.int b0v), .val (.int b1v), .val (.int b2v), .val (.int (1 : Int32)), .val (.int (2 : Int32)), .val (.int (1 : Int32)), .val (.int po), .val (.int b1v), .val (.int b0v), .val (.int (0 : Int32)), .val (.long (((1 : Int64) <<< (b1v &&& 0x3f).toInt64) - (1 : Int64))), .second, .val (.ref b172), .val (.ref b184), .val (.ref b201), .val (.ref b260), .unset, .unset, .unset, .unset, .unset, .unset, .unset] []))
      obtain ⟨f0, hf0⟩ : ∃ f : Nat → Int64, f = fun k => ([q3, q4, (q4 ^^^ (-1 : Int64)), (q3 ^^^ (-1 : Int64))] : List Int64).getD k 0 := ⟨_, rfl⟩
      have KO : LAr Z h313 b201 4 f0 := LAr_of V_323 rfl (by decide) (fun j hj => by rw [hf0]; rcases j with _ | _ | _ | _ | j <;> first | rfl | omega)
      have KK : LAr Z h313 b260 4 f0 := LAr_of V_324 rfl (by decide) (fun j hj => by rw [hf0]; rcases j with _ | _ | _ | _ | j <;> first | rfl | omega)
      show Go p e below _ (T313.setTop (mkF m 308 #[.val (.int p0), .val (.int p1), .val (.int p2), .val (.long q3), .second, .val (.long q4), .second, .val (.int b0v), .val (.int b1v), .val (.int b2v), .val (.int (1 : Int32)), .val (.int (2 : Int32)), .val (.int (1 : Int32)), .val (.int po), .val (.int b1v), .val (.int b0v), .val (.int (0 : Int32)), .val (.long (((1 : Int64) <<< (b1v &&& 0x3f).toInt64) - (1 : Int64))), .second, .val (.ref b172), .val (.ref b184), .val (.ref b201), .val (.ref b260), .unset, .unset, .unset, .unset, .unset, .unset, .unset] []))
      refine Go.st (fun _ => XS.aload X313.here hx rfl (hb hby at_308) rfl rfl) ?_
      refine Go.st (fun _ => XS.aload X313.here hx rfl (hb hby at_310) rfl rfl) ?_
      refine Go.st (fun _ => XS.iload X313.here hx rfl (hb hby at_312) rfl) ?_
      refine Go.st (fun _ => XS.iload X313.here hx rfl (hb hby at_314) rfl) ?_
      refine Go.st (fun _ => XS.iloadN X313.here hx rfl (hb hby at_316) rfl) ?_
      show Go p e below _ (T313.setTop (mkF m 317 #[.val (.int p0), .val (.int p1), .val (.int p2), .val (.long q3), .second, .val (.long q4), .second, .val (.int b0v), .val (.int b1v), .val (.int b2v), .val (.int (1 : Int32)), .val (.int (2 : Int32)), .val (.int (1 : Int32)), .val (.int po), .val (.int b1v), .val (.int b0v), .val (.int (0 : Int32)), .val (.long (((1 : Int64) <<< (b1v &&& 0x3f).toInt64) - (1 : Int64))), .second, .val (.ref b172), .val (.ref b184), .val (.ref b201), .val (.ref b260), .unset, .unset, .unset, .unset, .unset, .unset, .unset] [(.int p2), (.int (1 : Int32)), (.int po), (.ref b260), (.ref b184)]))
      refine goVirt X313 hx hZ (y := (⟨"com/example/gieres/gieres/model/TupleTable", "setState", "([JIII)V"⟩ : MethodName)) (z := (⟨"com/example/gieres/gieres/model/TupleTable", "setState", "([JIII)V"⟩ : MethodName)) hown (hw _ (List.mem_of_getElem? (i := 39) rfl)) (hw _ (List.mem_of_getElem? (i := 40) rfl)) (notFace_of_selects (args := #[]) (mvT hZ (hw _ (List.mem_of_getElem? (i := 42) rfl)))) (hw _ (List.mem_of_getElem? (i := 42) rfl)) (hw _ (List.mem_of_getElem? (i := 41) rfl)) (hw _ (List.mem_of_getElem? (i := 3) rfl)) (hw _ (List.mem_of_getElem? (i := 43) rfl)) (by decide) (a := b184) (argsL := [(.ref b260), (.int po), (.int (1 : Int32)), (.int p2)]) (rest := []) e313 E_315 (rmS1 l Z a0 hw [] b184 b260 aw as am kw ks km (0 : Int32) (0 : Int32) (1 : Int32) (0 : Int32) b0v (0 : Int32) (own_mask b0v) (own_mask b1v) (own_mask b2v) 4 f0 po p2 h313 n0 O314 F316 V_317 F318 V_319 F320 V_321 KK gn260 HJ.1 HJ.2) 0 (by decide) (by decide) (by decide) (by decide) (mkF m 317 #[.val (.int p0), .val (.int p1), .val (.int p2), .val (.long q3), .second, .val (.long q4), .second, .val (.int b0v), .val (.int b1v), .val (.int b2v), .val (.int (1 : Int32)), .val (.int (2 : Int32)), .val (.int (1 : Int32)), .val (.int po), .val (.int b1v), .val (.int b0v), .val (.int (0 : Int32)), .val (.long (((1 : Int64) <<< (b1v &&& 0x3f).toInt64) - (1 : Int64))), .second, .val (.ref b172), .val (.ref b184), .val (.ref b201), .val (.ref b260), .unset, .unset, .unset, .unset, .unset, .unset, .unset] [(.int p2), (.int (1 : Int32)), (.int po), (.ref b260), (.ref b184)]) rfl (by rw [hml]; rfl) (lenOf pd_3 rfl) rfl (hb hby at_317) (Nat.le_of_eq rfl) ?_
      intro v325 T325 L325 X325 hQ325
      obtain ⟨rfl, M325, K325, KA325⟩ := hQ325
      have N325 := Fr.app N313 M325
      have O326 : Old Z n0 T325.heap := O314.keep K325 (allS gn260 all0)
      have E_327 : Exa Z T325.heap b184 "com/example/gieres/gieres/model/TupleTable" := E_315.keep K325
      have F328 : Fld Z T325.heap b184 "com/example/gieres/gieres/model/TupleTable" "word" "[I" (.ref aw) := F316.keep K325 (ninS ne261 nin0)
      have V_329 : Arv Z T325.heap aw kw .int (3 : Int32) [(.int (0 : Int32)), (.int (0 : Int32)), (.int (1 : Int32))] (.int (0 : Int32)) := V_317.keep K325 (ninS ne262 nin0)
      have F330 : Fld Z T325.heap b184 "com/example/gieres/gieres/model/TupleTable" "shift" "[I" (.ref as) := F318.keep K325 (ninS ne261 nin0)
      have V_331 : Arv Z T325.heap as ks .int (3 : Int32) [(.int (0 : Int32)), (.int b0v), (.int (0 : Int32))] (.int (0 : Int32)) := V_319.keep K325 (ninS ne263 nin0)
      have F332 : Fld Z T325.heap b184 "com/example/gieres/gieres/model/TupleTable" "mask" "[J" (.ref am) := F320.keep K325 (ninS ne261 nin0)
      have V_333 : Arv Z T325.heap am km .long (3 : Int32) [(.long (own_mask b0v)), (.long (own_mask b1v)), (.long (own_mask b2v))] (.long (0 : Int64)) := V_321.keep K325 (ninS ne264 nin0)
      have F334 : Fld Z T325.heap b184 "com/example/gieres/gieres/model/TupleTable" "width" "I" (.int (2 : Int32)) := F322.keep K325 (ninS ne261 nin0)
      have VL335 : LAr Z T325.heap b201 4 f0 := LAr_keep KO K325 (ninS ne265 nin0)
      obtain ⟨f1, hf1⟩ : ∃ z, z = (fun k => if k = (po + (0 : Int32)).toNatClampNeg then own_set (f0 (po + (0 : Int32)).toNatClampNeg) (own_mask b1v) b0v p2 else f0 k) := ⟨_, rfl⟩
      rw [← hf1] at KA325
      have GV : own_get (f1 (po + (0 : Int32)).toNatClampNeg) (own_mask b1v) b0v = p2.toInt64 &&& (own_mask b1v) := by rw [hf1]; simp only [if_true]; exact own_gsP PL
      show Go p e below _ (T325.setTop (mkF m 320 #[.val (.int p0), .val (.int p1), .val (.int p2), .val (.long q3), .second, .val (.long q4), .second, .val (.int b0v), .val (.int b1v), .val (.int b2v), .val (.int (1 : Int32)), .val (.int (2 : Int32)), .val (.int (1 : Int32)), .val (.int po), .val (.int b1v), .val (.int b0v), .val (.int (0 : Int32)), .val (.long (((1 : Int64) <<< (b1v &&& 0x3f).toInt64) - (1 : Int64))), .second, .val (.ref b172), .val (.ref b184), .val (.ref b201), .val (.ref b260), .unset, .unset, .unset, .unset, .unset, .unset, .unset] []))
      refine Go.st (fun _ => XS.iload X325.here hx rfl (hb hby at_320) rfl) ?_
      refine Go.st (fun _ => XS.iload X325.here hx rfl (hb hby at_322) rfl) ?_
      refine Go.st (fun _ => XS.iadd X325.here hx rfl (hb hby at_324) rfl) ?_
      refine Go.st (fun _ => XS.istore X325.here hx rfl (hb hby at_325) rfl (l' := #[.val (.int p0), .val (.int p1), .val (.int p2), .val (.long q3), .second, .val (.long q4), .second, .val (.int b0v), .val (.int b1v), .val (.int b2v), .val (.int (1 : Int32)), .val (.int (2 : Int32)), .val (.int (1 : Int32)), .val (.int po), .val (.int b1v), .val (.int b0v), .val (.int (0 : Int32)), .val (.long (((1 : Int64) <<< (b1v &&& 0x3f).toInt64) - (1 : Int64))), .second, .val (.ref b172), .val (.ref b184), .val (.ref b201), .val (.ref b260), .val (.int (po + (0 : Int32))), .unset, .unset, .unset, .unset, .unset, .unset]) rfl) ?_
      refine Go.st (fun _ => XS.iloadN X325.here hx rfl (hb hby at_327) rfl) ?_
      refine Go.st (fun _ => XS.i2l X325.here hx rfl (hb hby at_328) rfl) ?_
      refine Go.st (fun _ => XS.lload X325.here hx rfl (hb hby at_329) rfl) ?_
      refine Go.st (fun _ => XS.land X325.here hx rfl (hb hby at_331) rfl) ?_
      refine Go.st (fun _ => XS.lstore X325.here hx rfl (hb hby at_332) rfl (l' := #[.val (.int p0), .val (.int p1), .val (.int p2), .val (.long q3), .second, .val (.long q4), .second, .val (.int b0v), .val (.int b1v), .val (.int b2v), .val (.int (1 : Int32)), .val (.int (2 : Int32)), .val (.int (1 : Int32)), .val (.int po), .val (.int b1v), .val (.int b0v), .val (.int (0 : Int32)), .val (.long (((1 : Int64) <<< (b1v &&& 0x3f).toInt64) - (1 : Int64))), .second, .val (.ref b172), .val (.ref b184), .val (.ref b201), .val (.ref b260), .val (.int (po + (0 : Int32))), .val (.long ((p2.toInt64) &&& (((1 : Int64) <<< (b1v &&& 0x3f).toInt64) - (1 : Int64)))), .second, .unset, .unset, .unset, .unset]) rfl) ?_
      refine Go.st (fun _ => XS.lload X325.here hx rfl (hb hby at_334) rfl) ?_
      refine Go.st (fun _ => XS.iload X325.here hx rfl (hb hby at_336) rfl) ?_
      refine Go.st (fun _ => XS.lshl X325.here hx rfl (hb hby at_338) rfl) ?_
      show Go p e below _ (T325.setTop (mkF m 339 #[.val (.int p0), .val (.int p1), .val (.int p2), .val (.long q3), .second, .val (.long q4), .second, .val (.int b0v), .val (.int b1v), .val (.int b2v), .val (.int (1 : Int32)), .val (.int (2 : Int32)), .val (.int (1 : Int32)), .val (.int po), .val (.int b1v), .val (.int b0v), .val (.int (0 : Int32)), .val (.long (((1 : Int64) <<< (b1v &&& 0x3f).toInt64) - (1 : Int64))), .second, .val (.ref b172), .val (.ref b184), .val (.ref b201), .val (.ref b260), .val (.int (po + (0 : Int32))), .val (.long ((p2.toInt64) &&& (((1 : Int64) <<< (b1v &&& 0x3f).toInt64) - (1 : Int64)))), .second, .unset, .unset, .unset, .unset] [(.long ((((1 : Int64) <<< (b1v &&& 0x3f).toInt64) - (1 : Int64)) <<< (b0v &&& 0x3f).toInt64))]))
      refine Go.st (fun _ => XS.lstore X325.here hx rfl (hb hby at_339) rfl (l' := #[.val (.int p0), .val (.int p1), .val (.int p2), .val (.long q3), .second, .val (.long q4), .second, .val (.int b0v), .val (.int b1v), .val (.int b2v), .val (.int (1 : Int32)), .val (.int (2 : Int32)), .val (.int (1 : Int32)), .val (.int po), .val (.int b1v), .val (.int b0v), .val (.int (0 : Int32)), .val (.long (((1 : Int64) <<< (b1v &&& 0x3f).toInt64) - (1 : Int64))), .second, .val (.ref b172), .val (.ref b184), .val (.ref b201), .val (.ref b260), .val (.int (po + (0 : Int32))), .val (.long ((p2.toInt64) &&& (((1 : Int64) <<< (b1v &&& 0x3f).toInt64) - (1 : Int64)))), .second, .val (.long ((((1 : Int64) <<< (b1v &&& 0x3f).toInt64) - (1 : Int64)) <<< (b0v &&& 0x3f).toInt64)), .second, .unset, .unset]) rfl) ?_
      refine Go.st (fun _ => XS.aload X325.here hx rfl (hb hby at_341) rfl rfl) ?_
      refine Go.st (fun _ => XS.iload X325.here hx rfl (hb hby at_343) rfl) ?_
      show Go p e below _ (T325.setTop (mkF m 345 #[.val (.int p0), .val (.int p1), .val (.int p2), .val (.long q3), .second, .val (.long q4), .second, .val (.int b0v), .val (.int b1v), .val (.int b2v), .val (.int (1 : Int32)), .val (.int (2 : Int32)), .val (.int (1 : Int32)), .val (.int po), .val (.int b1v), .val (.int b0v), .val (.int (0 : Int32)), .val (.long (((1 : Int64) <<< (b1v &&& 0x3f).toInt64) - (1 : Int64))), .second, .val (.ref b172), .val (.ref b184), .val (.ref b201), .val (.ref b260), .val (.int (po + (0 : Int32))), .val (.long ((p2.toInt64) &&& (((1 : Int64) <<< (b1v &&& 0x3f).toInt64) - (1 : Int64)))), .second, .val (.long ((((1 : Int64) <<< (b1v &&& 0x3f).toInt64) - (1 : Int64)) <<< (b0v &&& 0x3f).toInt64)), .second, .unset, .unset] [(.int (po + (0 : Int32))), (.ref b260)]))
      obtain ⟨cl336, Ar336, hin336, hat336, -⟩ := LAr_in KA325 (j := (po + (0 : Int32))) HJ.1 HJ.2
      refine Go.st (fun _ => X325.laload hx (j := (po + (0 : Int32))) (v := (.long (f1 ((po + (0 : Int32))).toNatClampNeg))) Ar336.1 (State.isArrayOf_alike hZ.alike Ar336.2.1) Ar336.2.2 hin336 hat336 (g := (mkF m 345 #[.val (.int p0), .val (.int p1), .val (.int p2), .val (.long q3), .second, .val (.long q4), .second, .val (.int b0v), .val (.int b1v), .val (.int b2v), .val (.int (1 : Int32)), .val (.int (2 : Int32)), .val (.int (1 : Int32)), .val (.int po), .val (.int b1v), .val (.int b0v), .val (.int (0 : Int32)), .val (.long (((1 : Int64) <<< (b1v &&& 0x3f).toInt64) - (1 : Int64))), .second, .val (.ref b172), .val (.ref b184), .val (.ref b201), .val (.ref b260), .val (.int (po + (0 : Int32))), .val (.long ((p2.toInt64) &&& (((1 : Int64) <<< (b1v &&& 0x3f).toInt64) - (1 : Int64)))), .second, .val (.long ((((1 : Int64) <<< (b1v &&& 0x3f).toInt64) - (1 : Int64)) <<< (b0v &&& 0x3f).toInt64)), .second, .unset, .unset] [(.int (po + (0 : Int32))), (.ref b260)])) rfl rfl (hb hby at_345) _) ?_
      show Go p e below _ (T325.setTop (mkF m 346 #[.val (.int p0), .val (.int p1), .val (.int p2), .val (.long q3), .second, .val (.long q4), .second, .val (.int b0v), .val (.int b1v), .val (.int b2v), .val (.int (1 : Int32)), .val (.int (2 : Int32)), .val (.int (1 : Int32)), .val (.int po), .val (.int b1v), .val (.int b0v), .val (.int (0 : Int32)), .val (.long (((1 : Int64) <<< (b1v &&& 0x3f).toInt64) - (1 : Int64))), .second, .val (.ref b172), .val (.ref b184), .val (.ref b201), .val (.ref b260), .val (.int (po + (0 : Int32))), .val (.long ((p2.toInt64) &&& (((1 : Int64) <<< (b1v &&& 0x3f).toInt64) - (1 : Int64)))), .second, .val (.long ((((1 : Int64) <<< (b1v &&& 0x3f).toInt64) - (1 : Int64)) <<< (b0v &&& 0x3f).toInt64)), .second, .unset, .unset] [(.long (f1 ((po + (0 : Int32))).toNatClampNeg))]))
      refine Go.st (fun _ => XS.iload X325.here hx rfl (hb hby at_346) rfl) ?_
      refine Go.st (fun _ => XS.lushr X325.here hx rfl (hb hby at_348) rfl) ?_
      refine Go.st (fun _ => XS.lload X325.here hx rfl (hb hby at_349) rfl) ?_
      refine Go.st (fun _ => XS.land X325.here hx rfl (hb hby at_351) rfl) ?_
      refine Go.st (fun _ => XS.lload X325.here hx rfl (hb hby at_352) rfl) ?_
      refine Go.st (fun _ => XS.lcmp X325.here hx rfl (hb hby at_354) rfl) ?_
      refine Go.st (fun _ => XS.ifNo X325.here hx rfl (hb hby at_355) rfl ((if0 _ _).trans (teq ((lw_eq _ _).mpr GV)).2)) ?_
      refine Go.st (fun _ => XS.aload X325.here hx rfl (hb hby at_358) rfl rfl) ?_
      refine Go.st (fun _ => XS.aload X325.here hx rfl (hb hby at_360) rfl rfl) ?_
      refine Go.st (fun _ => XS.iload X325.here hx rfl (hb hby at_362) rfl) ?_
      refine Go.st (fun _ => XS.iload X325.here hx rfl (hb hby at_364) rfl) ?_
      show Go p e below _ (T325.setTop (mkF m 366 #[.val (.int p0), .val (.int p1), .val (.int p2), .val (.long q3), .second, .val (.long q4), .second, .val (.int b0v), .val (.int b1v), .val (.int b2v), .val (.int (1 : Int32)), .val (.int (2 : Int32)), .val (.int (1 : Int32)), .val (.int po), .val (.int b1v), .val (.int b0v), .val (.int (0 : Int32)), .val (.long (((1 : Int64) <<< (b1v &&& 0x3f).toInt64) - (1 : Int64))), .second, .val (.ref b172), .val (.ref b184), .val (.ref b201), .val (.ref b260), .val (.int (po + (0 : Int32))), .val (.long ((p2.toInt64) &&& (((1 : Int64) <<< (b1v &&& 0x3f).toInt64) - (1 : Int64)))), .second, .val (.long ((((1 : Int64) <<< (b1v &&& 0x3f).toInt64) - (1 : Int64)) <<< (b0v &&& 0x3f).toInt64)), .second, .unset, .unset] [(.int (1 : Int32)), (.int po), (.ref b260), (.ref b184)]))
      refine goVirt X325 hx hZ (y := (⟨"com/example/gieres/gieres/model/TupleTable", "state", "([JII)I"⟩ : MethodName)) (z := (⟨"com/example/gieres/gieres/model/TupleTable", "state", "([JII)I"⟩ : MethodName)) hown (hw _ (List.mem_of_getElem? (i := 45) rfl)) (hw _ (List.mem_of_getElem? (i := 46) rfl)) (notFace_of_selects (args := #[]) (mvT hZ (hw _ (List.mem_of_getElem? (i := 48) rfl)))) (hw _ (List.mem_of_getElem? (i := 48) rfl)) (hw _ (List.mem_of_getElem? (i := 47) rfl)) (hw _ (List.mem_of_getElem? (i := 3) rfl)) (hw _ (List.mem_of_getElem? (i := 49) rfl)) (by decide) (a := b184) (argsL := [(.ref b260), (.int po), (.int (1 : Int32))]) (rest := []) rfl E_327 (rmG1 l Z a0 hw [] b184 b260 aw as am kw ks km (0 : Int32) (0 : Int32) (1 : Int32) (0 : Int32) b0v (0 : Int32) (own_mask b0v) (own_mask b1v) (own_mask b2v) 4 f1 po T325.heap n0 O326 F328 V_329 F330 V_331 F332 V_333 KA325 HJ.1 HJ.2) 0 (by decide) (by decide) (by decide) (by decide) (mkF m 366 #[.val (.int p0), .val (.int p1), .val (.int p2), .val (.long q3), .second, .val (.long q4), .second, .val (.int b0v), .val (.int b1v), .val (.int b2v), .val (.int (1 : Int32)), .val (.int (2 : Int32)), .val (.int (1 : Int32)), .val (.int po), .val (.int b1v), .val (.int b0v), .val (.int (0 : Int32)), .val (.long (((1 : Int64) <<< (b1v &&& 0x3f).toInt64) - (1 : Int64))), .second, .val (.ref b172), .val (.ref b184), .val (.ref b201), .val (.ref b260), .val (.int (po + (0 : Int32))), .val (.long ((p2.toInt64) &&& (((1 : Int64) <<< (b1v &&& 0x3f).toInt64) - (1 : Int64)))), .second, .val (.long ((((1 : Int64) <<< (b1v &&& 0x3f).toInt64) - (1 : Int64)) <<< (b0v &&& 0x3f).toInt64)), .second, .unset, .unset] [(.int (1 : Int32)), (.int po), (.ref b260), (.ref b184)]) rfl (by rw [hml]; rfl) (lenOf pd_4 rfl) rfl (hb hby at_366) (Nat.le_of_eq rfl) ?_
      intro v337 T337 L337 X337 hQ337
      obtain ⟨rfl, M337, e337⟩ := hQ337
      have N337 := Fr.app N325 M337
      show Go p e below _ (T337.setTop (mkF m 369 #[.val (.int p0), .val (.int p1), .val (.int p2), .val (.long q3), .second, .val (.long q4), .second, .val (.int b0v), .val (.int b1v), .val (.int b2v), .val (.int (1 : Int32)), .val (.int (2 : Int32)), .val (.int (1 : Int32)), .val (.int po), .val (.int b1v), .val (.int b0v), .val (.int (0 : Int32)), .val (.long (((1 : Int64) <<< (b1v &&& 0x3f).toInt64) - (1 : Int64))), .second, .val (.ref b172), .val (.ref b184), .val (.ref b201), .val (.ref b260), .val (.int (po + (0 : Int32))), .val (.long ((p2.toInt64) &&& (((1 : Int64) <<< (b1v &&& 0x3f).toInt64) - (1 : Int64)))), .second, .val (.long ((((1 : Int64) <<< (b1v &&& 0x3f).toInt64) - (1 : Int64)) <<< (b0v &&& 0x3f).toInt64)), .second, .unset, .unset] [(.int ((own_get (f1 (po + (0 : Int32)).toNatClampNeg) (own_mask b1v) b0v).toInt32))]))
      refine Go.st (fun _ => XS.lload X337.here hx rfl (hb hby at_369) rfl) ?_
      refine Go.st (fun _ => XS.l2i X337.here hx rfl (hb hby at_371) rfl) ?_
      refine Go.st (fun _ => XS.icmpNo X337.here hx rfl (hb hby at_372) rfl (teq (congrArg Int64.toInt32 GV)).2) ?_
      refine Go.st (fun _ => XS.iconst X337.here hx rfl (hb hby at_375)) ?_
      refine Go.st (fun _ => XS.goto X337.here hx rfl (pc0 := 376) (pc' := 380) rfl (hb hby at_376) (by decide) (by decide)) ?_
      refine Go.st (fun _ => XS.istore X337.here hx rfl (hb hby at_380) rfl (l' := #[.val (.int p0), .val (.int p1), .val (.int p2), .val (.long q3), .second, .val (.long q4), .second, .val (.int b0v), .val (.int b1v), .val (.int b2v), .val (.int (1 : Int32)), .val (.int (2 : Int32)), .val (.int (1 : Int32)), .val (.int po), .val (.int b1v), .val (.int b0v), .val (.int (0 : Int32)), .val (.long (((1 : Int64) <<< (b1v &&& 0x3f).toInt64) - (1 : Int64))), .second, .val (.ref b172), .val (.ref b184), .val (.ref b201), .val (.ref b260), .val (.int (po + (0 : Int32))), .val (.long ((p2.toInt64) &&& (((1 : Int64) <<< (b1v &&& 0x3f).toInt64) - (1 : Int64)))), .second, .val (.long ((((1 : Int64) <<< (b1v &&& 0x3f).toInt64) - (1 : Int64)) <<< (b0v &&& 0x3f).toInt64)), .second, .val (.int (1 : Int32)), .unset]) rfl) ?_
      refine Go.st (fun _ => XS.aload X337.here hx rfl (hb hby at_382) rfl rfl) ?_
      refine Go.st (fun _ => XS.aload X337.here hx rfl (hb hby at_384) rfl rfl) ?_
      refine Go.st (fun _ => XS.iconst X337.here hx rfl (hb hby at_386)) ?_
      refine Go.st (fun _ => XS.iload X337.here hx rfl (hb hby at_387) rfl) ?_
      refine Go.st (fun _ => XS.lload X337.here hx rfl (hb hby at_389) rfl) ?_
      show Go p e below _ (T337.setTop (mkF m 391 #[.val (.int p0), .val (.int p1), .val (.int p2), .val (.long q3), .second, .val (.long q4), .second, .val (.int b0v), .val (.int b1v), .val (.int b2v), .val (.int (1 : Int32)), .val (.int (2 : Int32)), .val (.int (1 : Int32)), .val (.int po), .val (.int b1v), .val (.int b0v), .val (.int (0 : Int32)), .val (.long (((1 : Int64) <<< (b1v &&& 0x3f).toInt64) - (1 : Int64))), .second, .val (.ref b172), .val (.ref b184), .val (.ref b201), .val (.ref b260), .val (.int (po + (0 : Int32))), .val (.long ((p2.toInt64) &&& (((1 : Int64) <<< (b1v &&& 0x3f).toInt64) - (1 : Int64)))), .second, .val (.long ((((1 : Int64) <<< (b1v &&& 0x3f).toInt64) - (1 : Int64)) <<< (b0v &&& 0x3f).toInt64)), .second, .val (.int (1 : Int32)), .unset] [(.long ((((1 : Int64) <<< (b1v &&& 0x3f).toInt64) - (1 : Int64)) <<< (b0v &&& 0x3f).toInt64)), (.int (po + (0 : Int32))), (.int (0 : Int32)), (.ref b201), (.ref b260)]))
      refine goCallS X337 hx hZ (y := (⟨"com/example/gieres/gieres/model/TupleTableSetStatePinLaw", "same", "([J[JIIJ)Z"⟩ : MethodName)) hown (hw _ (List.mem_of_getElem? (i := 50) rfl)) (hw _ (List.mem_of_getElem? (i := 51) rfl)) (hw _ (List.mem_of_getElem? (i := 52) rfl)) (hw _ (List.mem_of_getElem? (i := 53) rfl)) (by decide) (argsL := [(.ref b260), (.ref b201), (.int (0 : Int32)), (.int (po + (0 : Int32))), (.long ((((1 : Int64) <<< (b1v &&& 0x3f).toInt64) - (1 : Int64)) <<< (b0v &&& 0x3f).toInt64))]) (rest := []) e337 (rmSame l Z a0 hw [] b260 b201 (0 : Int32) (po + (0 : Int32)) (4 : Int32) ((((1 : Int64) <<< (b1v &&& 0x3f).toInt64) - (1 : Int64)) <<< (b0v &&& 0x3f).toInt64) 4 f1 f0 T325.heap n0 O326 KA325 VL335 rfl rfl (by decide) (own_same1 PL hf1) (own_same2 (by decide) HJ.1 hf1)) 0 (by decide) (by decide) (by decide) (by decide) (mkF m 391 #[.val (.int p0), .val (.int p1), .val (.int p2), .val (.long q3), .second, .val (.long q4), .second, .val (.int b0v), .val (.int b1v), .val (.int b2v), .val (.int (1 : Int32)), .val (.int (2 : Int32)), .val (.int (1 : Int32)), .val (.int po), .val (.int b1v), .val (.int b0v), .val (.int (0 : Int32)), .val (.long (((1 : Int64) <<< (b1v &&& 0x3f).toInt64) - (1 : Int64))), .second, .val (.ref b172), .val (.ref b184), .val (.ref b201), .val (.ref b260), .val (.int (po + (0 : Int32))), .val (.long ((p2.toInt64) &&& (((1 : Int64) <<< (b1v &&& 0x3f).toInt64) - (1 : Int64)))), .second, .val (.long ((((1 : Int64) <<< (b1v &&& 0x3f).toInt64) - (1 : Int64)) <<< (b0v &&& 0x3f).toInt64)), .second, .val (.int (1 : Int32)), .unset] [(.long ((((1 : Int64) <<< (b1v &&& 0x3f).toInt64) - (1 : Int64)) <<< (b0v &&& 0x3f).toInt64)), (.int (po + (0 : Int32))), (.int (0 : Int32)), (.ref b201), (.ref b260)]) rfl (by rw [hml]; rfl) (lenOf pd_5 rfl) rfl (hb hby at_391) (Nat.le_of_eq rfl) ?_
      intro v338 T338 L338 X338 hQ338
      obtain ⟨rfl, M338, e338⟩ := hQ338
      have N338 := Fr.app N337 M338
      show Go p e below _ (T338.setTop (mkF m 394 #[.val (.int p0), .val (.int p1), .val (.int p2), .val (.long q3), .second, .val (.long q4), .second, .val (.int b0v), .val (.int b1v), .val (.int b2v), .val (.int (1 : Int32)), .val (.int (2 : Int32)), .val (.int (1 : Int32)), .val (.int po), .val (.int b1v), .val (.int b0v), .val (.int (0 : Int32)), .val (.long (((1 : Int64) <<< (b1v &&& 0x3f).toInt64) - (1 : Int64))), .second, .val (.ref b172), .val (.ref b184), .val (.ref b201), .val (.ref b260), .val (.int (po + (0 : Int32))), .val (.long ((p2.toInt64) &&& (((1 : Int64) <<< (b1v &&& 0x3f).toInt64) - (1 : Int64)))), .second, .val (.long ((((1 : Int64) <<< (b1v &&& 0x3f).toInt64) - (1 : Int64)) <<< (b0v &&& 0x3f).toInt64)), .second, .val (.int (1 : Int32)), .unset] [(.int (1 : Int32))]))
      refine Go.st (fun _ => XS.ifNo X338.here hx rfl (hb hby at_394) rfl ((if0 _ _).trans (feq (by decide : ¬ ((1 : Int32) = (0 : Int32)))).1)) ?_
      refine Go.st (fun _ => XS.aload X338.here hx rfl (hb hby at_397) rfl rfl) ?_
      refine Go.st (fun _ => XS.aload X338.here hx rfl (hb hby at_399) rfl rfl) ?_
      refine Go.st (fun _ => XS.iconst X338.here hx rfl (hb hby at_401)) ?_
      refine Go.st (fun _ => XS.iload X338.here hx rfl (hb hby at_402) rfl) ?_
      refine Go.st (fun _ => XS.lload X338.here hx rfl (hb hby at_404) rfl) ?_
      show Go p e below _ (T338.setTop (mkF m 406 #[.val (.int p0), .val (.int p1), .val (.int p2), .val (.long q3), .second, .val (.long q4), .second, .val (.int b0v), .val (.int b1v), .val (.int b2v), .val (.int (1 : Int32)), .val (.int (2 : Int32)), .val (.int (1 : Int32)), .val (.int po), .val (.int b1v), .val (.int b0v), .val (.int (0 : Int32)), .val (.long (((1 : Int64) <<< (b1v &&& 0x3f).toInt64) - (1 : Int64))), .second, .val (.ref b172), .val (.ref b184), .val (.ref b201), .val (.ref b260), .val (.int (po + (0 : Int32))), .val (.long ((p2.toInt64) &&& (((1 : Int64) <<< (b1v &&& 0x3f).toInt64) - (1 : Int64)))), .second, .val (.long ((((1 : Int64) <<< (b1v &&& 0x3f).toInt64) - (1 : Int64)) <<< (b0v &&& 0x3f).toInt64)), .second, .val (.int (1 : Int32)), .unset] [(.long ((((1 : Int64) <<< (b1v &&& 0x3f).toInt64) - (1 : Int64)) <<< (b0v &&& 0x3f).toInt64)), (.int (po + (0 : Int32))), (.int (1 : Int32)), (.ref b201), (.ref b260)]))
      refine goCallS X338 hx hZ (y := (⟨"com/example/gieres/gieres/model/TupleTableSetStatePinLaw", "same", "([J[JIIJ)Z"⟩ : MethodName)) hown (hw _ (List.mem_of_getElem? (i := 50) rfl)) (hw _ (List.mem_of_getElem? (i := 51) rfl)) (hw _ (List.mem_of_getElem? (i := 52) rfl)) (hw _ (List.mem_of_getElem? (i := 53) rfl)) (by decide) (argsL := [(.ref b260), (.ref b201), (.int (1 : Int32)), (.int (po + (0 : Int32))), (.long ((((1 : Int64) <<< (b1v &&& 0x3f).toInt64) - (1 : Int64)) <<< (b0v &&& 0x3f).toInt64))]) (rest := []) e338 (rmSame l Z a0 hw [] b260 b201 (1 : Int32) (po + (0 : Int32)) (4 : Int32) ((((1 : Int64) <<< (b1v &&& 0x3f).toInt64) - (1 : Int64)) <<< (b0v &&& 0x3f).toInt64) 4 f1 f0 T325.heap n0 O326 KA325 VL335 rfl rfl (by decide) (own_same1 PL hf1) (own_same2 (by decide) HJ.1 hf1)) 0 (by decide) (by decide) (by decide) (by decide) (mkF m 406 #[.val (.int p0), .val (.int p1), .val (.int p2), .val (.long q3), .second, .val (.long q4), .second, .val (.int b0v), .val (.int b1v), .val (.int b2v), .val (.int (1 : Int32)), .val (.int (2 : Int32)), .val (.int (1 : Int32)), .val (.int po), .val (.int b1v), .val (.int b0v), .val (.int (0 : Int32)), .val (.long (((1 : Int64) <<< (b1v &&& 0x3f).toInt64) - (1 : Int64))), .second, .val (.ref b172), .val (.ref b184), .val (.ref b201), .val (.ref b260), .val (.int (po + (0 : Int32))), .val (.long ((p2.toInt64) &&& (((1 : Int64) <<< (b1v &&& 0x3f).toInt64) - (1 : Int64)))), .second, .val (.long ((((1 : Int64) <<< (b1v &&& 0x3f).toInt64) - (1 : Int64)) <<< (b0v &&& 0x3f).toInt64)), .second, .val (.int (1 : Int32)), .unset] [(.long ((((1 : Int64) <<< (b1v &&& 0x3f).toInt64) - (1 : Int64)) <<< (b0v &&& 0x3f).toInt64)), (.int (po + (0 : Int32))), (.int (1 : Int32)), (.ref b201), (.ref b260)]) rfl (by rw [hml]; rfl) (lenOf pd_5 rfl) rfl (hb hby at_406) (Nat.le_of_eq rfl) ?_
      intro v339 T339 L339 X339 hQ339
      obtain ⟨rfl, M339, e339⟩ := hQ339
      have N339 := Fr.app N338 M339
      show Go p e below _ (T339.setTop (mkF m 409 #[.val (.int p0), .val (.int p1), .val (.int p2), .val (.long q3), .second, .val (.long q4), .second, .val (.int b0v), .val (.int b1v), .val (.int b2v), .val (.int (1 : Int32)), .val (.int (2 : Int32)), .val (.int (1 : Int32)), .val (.int po), .val (.int b1v), .val (.int b0v), .val (.int (0 : Int32)), .val (.long (((1 : Int64) <<< (b1v &&& 0x3f).toInt64) - (1 : Int64))), .second, .val (.ref b172), .val (.ref b184), .val (.ref b201), .val (.ref b260), .val (.int (po + (0 : Int32))), .val (.long ((p2.toInt64) &&& (((1 : Int64) <<< (b1v &&& 0x3f).toInt64) - (1 : Int64)))), .second, .val (.long ((((1 : Int64) <<< (b1v &&& 0x3f).toInt64) - (1 : Int64)) <<< (b0v &&& 0x3f).toInt64)), .second, .val (.int (1 : Int32)), .unset] [(.int (1 : Int32))]))
      refine Go.st (fun _ => XS.ifNo X339.here hx rfl (hb hby at_409) rfl ((if0 _ _).trans (feq (by decide : ¬ ((1 : Int32) = (0 : Int32)))).1)) ?_
      refine Go.st (fun _ => XS.aload X339.here hx rfl (hb hby at_412) rfl rfl) ?_
      refine Go.st (fun _ => XS.aload X339.here hx rfl (hb hby at_414) rfl rfl) ?_
      refine Go.st (fun _ => XS.iconst X339.here hx rfl (hb hby at_416)) ?_
      refine Go.st (fun _ => XS.iload X339.here hx rfl (hb hby at_417) rfl) ?_
      refine Go.st (fun _ => XS.lload X339.here hx rfl (hb hby at_419) rfl) ?_
      show Go p e below _ (T339.setTop (mkF m 421 #[.val (.int p0), .val (.int p1), .val (.int p2), .val (.long q3), .second, .val (.long q4), .second, .val (.int b0v), .val (.int b1v), .val (.int b2v), .val (.int (1 : Int32)), .val (.int (2 : Int32)), .val (.int (1 : Int32)), .val (.int po), .val (.int b1v), .val (.int b0v), .val (.int (0 : Int32)), .val (.long (((1 : Int64) <<< (b1v &&& 0x3f).toInt64) - (1 : Int64))), .second, .val (.ref b172), .val (.ref b184), .val (.ref b201), .val (.ref b260), .val (.int (po + (0 : Int32))), .val (.long ((p2.toInt64) &&& (((1 : Int64) <<< (b1v &&& 0x3f).toInt64) - (1 : Int64)))), .second, .val (.long ((((1 : Int64) <<< (b1v &&& 0x3f).toInt64) - (1 : Int64)) <<< (b0v &&& 0x3f).toInt64)), .second, .val (.int (1 : Int32)), .unset] [(.long ((((1 : Int64) <<< (b1v &&& 0x3f).toInt64) - (1 : Int64)) <<< (b0v &&& 0x3f).toInt64)), (.int (po + (0 : Int32))), (.int (2 : Int32)), (.ref b201), (.ref b260)]))
      refine goCallS X339 hx hZ (y := (⟨"com/example/gieres/gieres/model/TupleTableSetStatePinLaw", "same", "([J[JIIJ)Z"⟩ : MethodName)) hown (hw _ (List.mem_of_getElem? (i := 50) rfl)) (hw _ (List.mem_of_getElem? (i := 51) rfl)) (hw _ (List.mem_of_getElem? (i := 52) rfl)) (hw _ (List.mem_of_getElem? (i := 53) rfl)) (by decide) (argsL := [(.ref b260), (.ref b201), (.int (2 : Int32)), (.int (po + (0 : Int32))), (.long ((((1 : Int64) <<< (b1v &&& 0x3f).toInt64) - (1 : Int64)) <<< (b0v &&& 0x3f).toInt64))]) (rest := []) e339 (rmSame l Z a0 hw [] b260 b201 (2 : Int32) (po + (0 : Int32)) (4 : Int32) ((((1 : Int64) <<< (b1v &&& 0x3f).toInt64) - (1 : Int64)) <<< (b0v &&& 0x3f).toInt64) 4 f1 f0 T325.heap n0 O326 KA325 VL335 rfl rfl (by decide) (own_same1 PL hf1) (own_same2 (by decide) HJ.1 hf1)) 0 (by decide) (by decide) (by decide) (by decide) (mkF m 421 #[.val (.int p0), .val (.int p1), .val (.int p2), .val (.long q3), .second, .val (.long q4), .second, .val (.int b0v), .val (.int b1v), .val (.int b2v), .val (.int (1 : Int32)), .val (.int (2 : Int32)), .val (.int (1 : Int32)), .val (.int po), .val (.int b1v), .val (.int b0v), .val (.int (0 : Int32)), .val (.long (((1 : Int64) <<< (b1v &&& 0x3f).toInt64) - (1 : Int64))), .second, .val (.ref b172), .val (.ref b184), .val (.ref b201), .val (.ref b260), .val (.int (po + (0 : Int32))), .val (.long ((p2.toInt64) &&& (((1 : Int64) <<< (b1v &&& 0x3f).toInt64) - (1 : Int64)))), .second, .val (.long ((((1 : Int64) <<< (b1v &&& 0x3f).toInt64) - (1 : Int64)) <<< (b0v &&& 0x3f).toInt64)), .second, .val (.int (1 : Int32)), .unset] [(.long ((((1 : Int64) <<< (b1v &&& 0x3f).toInt64) - (1 : Int64)) <<< (b0v &&& 0x3f).toInt64)), (.int (po + (0 : Int32))), (.int (2 : Int32)), (.ref b201), (.ref b260)]) rfl (by rw [hml]; rfl) (lenOf pd_5 rfl) rfl (hb hby at_421) (Nat.le_of_eq rfl) ?_
      intro v340 T340 L340 X340 hQ340
      obtain ⟨rfl, M340, e340⟩ := hQ340
      have N340 := Fr.app N339 M340
      show Go p e below _ (T340.setTop (mkF m 424 #[.val (.int p0), .val (.int p1), .val (.int p2), .val (.long q3), .second, .val (.long q4), .second, .val (.int b0v), .val (.int b1v), .val (.int b2v), .val (.int (1 : Int32)), .val (.int (2 : Int32)), .val (.int (1 : Int32)), .val (.int po), .val (.int b1v), .val (.int b0v), .val (.int (0 : Int32)), .val (.long (((1 : Int64) <<< (b1v &&& 0x3f).toInt64) - (1 : Int64))), .second, .val (.ref b172), .val (.ref b184), .val (.ref b201), .val (.ref b260), .val (.int (po + (0 : Int32))), .val (.long ((p2.toInt64) &&& (((1 : Int64) <<< (b1v &&& 0x3f).toInt64) - (1 : Int64)))), .second, .val (.long ((((1 : Int64) <<< (b1v &&& 0x3f).toInt64) - (1 : Int64)) <<< (b0v &&& 0x3f).toInt64)), .second, .val (.int (1 : Int32)), .unset] [(.int (1 : Int32))]))
      refine Go.st (fun _ => XS.ifNo X340.here hx rfl (hb hby at_424) rfl ((if0 _ _).trans (feq (by decide : ¬ ((1 : Int32) = (0 : Int32)))).1)) ?_
      refine Go.st (fun _ => XS.aload X340.here hx rfl (hb hby at_427) rfl rfl) ?_
      refine Go.st (fun _ => XS.aload X340.here hx rfl (hb hby at_429) rfl rfl) ?_
      refine Go.st (fun _ => XS.iconst X340.here hx rfl (hb hby at_431)) ?_
      refine Go.st (fun _ => XS.iload X340.here hx rfl (hb hby at_432) rfl) ?_
      refine Go.st (fun _ => XS.lload X340.here hx rfl (hb hby at_434) rfl) ?_
      show Go p e below _ (T340.setTop (mkF m 436 #[.val (.int p0), .val (.int p1), .val (.int p2), .val (.long q3), .second, .val (.long q4), .second, .val (.int b0v), .val (.int b1v), .val (.int b2v), .val (.int (1 : Int32)), .val (.int (2 : Int32)), .val (.int (1 : Int32)), .val (.int po), .val (.int b1v), .val (.int b0v), .val (.int (0 : Int32)), .val (.long (((1 : Int64) <<< (b1v &&& 0x3f).toInt64) - (1 : Int64))), .second, .val (.ref b172), .val (.ref b184), .val (.ref b201), .val (.ref b260), .val (.int (po + (0 : Int32))), .val (.long ((p2.toInt64) &&& (((1 : Int64) <<< (b1v &&& 0x3f).toInt64) - (1 : Int64)))), .second, .val (.long ((((1 : Int64) <<< (b1v &&& 0x3f).toInt64) - (1 : Int64)) <<< (b0v &&& 0x3f).toInt64)), .second, .val (.int (1 : Int32)), .unset] [(.long ((((1 : Int64) <<< (b1v &&& 0x3f).toInt64) - (1 : Int64)) <<< (b0v &&& 0x3f).toInt64)), (.int (po + (0 : Int32))), (.int (3 : Int32)), (.ref b201), (.ref b260)]))
      refine goCallS X340 hx hZ (y := (⟨"com/example/gieres/gieres/model/TupleTableSetStatePinLaw", "same", "([J[JIIJ)Z"⟩ : MethodName)) hown (hw _ (List.mem_of_getElem? (i := 50) rfl)) (hw _ (List.mem_of_getElem? (i := 51) rfl)) (hw _ (List.mem_of_getElem? (i := 52) rfl)) (hw _ (List.mem_of_getElem? (i := 53) rfl)) (by decide) (argsL := [(.ref b260), (.ref b201), (.int (3 : Int32)), (.int (po + (0 : Int32))), (.long ((((1 : Int64) <<< (b1v &&& 0x3f).toInt64) - (1 : Int64)) <<< (b0v &&& 0x3f).toInt64))]) (rest := []) e340 (rmSame l Z a0 hw [] b260 b201 (3 : Int32) (po + (0 : Int32)) (4 : Int32) ((((1 : Int64) <<< (b1v &&& 0x3f).toInt64) - (1 : Int64)) <<< (b0v &&& 0x3f).toInt64) 4 f1 f0 T325.heap n0 O326 KA325 VL335 rfl rfl (by decide) (own_same1 PL hf1) (own_same2 (by decide) HJ.1 hf1)) 0 (by decide) (by decide) (by decide) (by decide) (mkF m 436 #[.val (.int p0), .val (.int p1), .val (.int p2), .val (.long q3), .second, .val (.long q4), .second, .val (.int b0v), .val (.int b1v), .val (.int b2v), .val (.int (1 : Int32)), .val (.int (2 : Int32)), .val (.int (1 : Int32)), .val (.int po), .val (.int b1v), .val (.int b0v), .val (.int (0 : Int32)), .val (.long (((1 : Int64) <<< (b1v &&& 0x3f).toInt64) - (1 : Int64))), .second, .val (.ref b172), .val (.ref b184), .val (.ref b201), .val (.ref b260), .val (.int (po + (0 : Int32))), .val (.long ((p2.toInt64) &&& (((1 : Int64) <<< (b1v &&& 0x3f).toInt64) - (1 : Int64)))), .second, .val (.long ((((1 : Int64) <<< (b1v &&& 0x3f).toInt64) - (1 : Int64)) <<< (b0v &&& 0x3f).toInt64)), .second, .val (.int (1 : Int32)), .unset] [(.long ((((1 : Int64) <<< (b1v &&& 0x3f).toInt64) - (1 : Int64)) <<< (b0v &&& 0x3f).toInt64)), (.int (po + (0 : Int32))), (.int (3 : Int32)), (.ref b201), (.ref b260)]) rfl (by rw [hml]; rfl) (lenOf pd_5 rfl) rfl (hb hby at_436) (Nat.le_of_eq rfl) ?_
      intro v341 T341 L341 X341 hQ341
      obtain ⟨rfl, M341, e341⟩ := hQ341
      have N341 := Fr.app N340 M341
      show Go p e below _ (T341.setTop (mkF m 439 #[.val (.int p0), .val (.int p1), .val (.int p2), .val (.long q3), .second, .val (.long q4), .second, .val (.int b0v), .val (.int b1v), .val (.int b2v), .val (.int (1 : Int32)), .val (.int (2 : Int32)), .val (.int (1 : Int32)), .val (.int po), .val (.int b1v), .val (.int b0v), .val (.int (0 : Int32)), .val (.long (((1 : Int64) <<< (b1v &&& 0x3f).toInt64) - (1 : Int64))), .second, .val (.ref b172), .val (.ref b184), .val (.ref b201), .val (.ref b260), .val (.int (po + (0 : Int32))), .val (.long ((p2.toInt64) &&& (((1 : Int64) <<< (b1v &&& 0x3f).toInt64) - (1 : Int64)))), .second, .val (.long ((((1 : Int64) <<< (b1v &&& 0x3f).toInt64) - (1 : Int64)) <<< (b0v &&& 0x3f).toInt64)), .second, .val (.int (1 : Int32)), .unset] [(.int (1 : Int32))]))
      refine Go.st (fun _ => XS.ifNo X341.here hx rfl (hb hby at_439) rfl ((if0 _ _).trans (feq (by decide : ¬ ((1 : Int32) = (0 : Int32)))).1)) ?_
      refine Go.st (fun _ => XS.iconst X341.here hx rfl (hb hby at_442)) ?_
      refine Go.st (fun _ => XS.goto X341.here hx rfl (pc0 := 443) (pc' := 447) rfl (hb hby at_443) (by decide) (by decide)) ?_
      refine Go.st (fun _ => XS.istore X341.here hx rfl (hb hby at_447) rfl (l' := #[.val (.int p0), .val (.int p1), .val (.int p2), .val (.long q3), .second, .val (.long q4), .second, .val (.int b0v), .val (.int b1v), .val (.int b2v), .val (.int (1 : Int32)), .val (.int (2 : Int32)), .val (.int (1 : Int32)), .val (.int po), .val (.int b1v), .val (.int b0v), .val (.int (0 : Int32)), .val (.long (((1 : Int64) <<< (b1v &&& 0x3f).toInt64) - (1 : Int64))), .second, .val (.ref b172), .val (.ref b184), .val (.ref b201), .val (.ref b260), .val (.int (po + (0 : Int32))), .val (.long ((p2.toInt64) &&& (((1 : Int64) <<< (b1v &&& 0x3f).toInt64) - (1 : Int64)))), .second, .val (.long ((((1 : Int64) <<< (b1v &&& 0x3f).toInt64) - (1 : Int64)) <<< (b0v &&& 0x3f).toInt64)), .second, .val (.int (1 : Int32)), .val (.int (1 : Int32))]) rfl) ?_
      refine Go.st (fun _ => XS.iload X341.here hx rfl (hb hby at_449) rfl) ?_
      refine Go.st (fun _ => XS.ifNo X341.here hx rfl (hb hby at_451) rfl ((if0 _ _).trans (feq (by decide : ¬ ((1 : Int32) = (0 : Int32)))).1)) ?_
      refine Go.st (fun _ => XS.iload X341.here hx rfl (hb hby at_454) rfl) ?_
      refine Go.st (fun _ => XS.ifNo X341.here hx rfl (hb hby at_456) rfl ((if0 _ _).trans (feq (by decide : ¬ ((1 : Int32) = (0 : Int32)))).1)) ?_
      refine Go.st (fun _ => XS.iconst X341.here hx rfl (hb hby at_459)) ?_
      refine Go.st (fun _ => XS.goto X341.here hx rfl (pc0 := 460) (pc' := 464) rfl (hb hby at_460) (by decide) (by decide)) ?_
      show Go p e below _ (T341.setTop (mkF m 464 #[.val (.int p0), .val (.int p1), .val (.int p2), .val (.long q3), .second, .val (.long q4), .second, .val (.int b0v), .val (.int b1v), .val (.int b2v), .val (.int (1 : Int32)), .val (.int (2 : Int32)), .val (.int (1 : Int32)), .val (.int po), .val (.int b1v), .val (.int b0v), .val (.int (0 : Int32)), .val (.long (((1 : Int64) <<< (b1v &&& 0x3f).toInt64) - (1 : Int64))), .second, .val (.ref b172), .val (.ref b184), .val (.ref b201), .val (.ref b260), .val (.int (po + (0 : Int32))), .val (.long ((p2.toInt64) &&& (((1 : Int64) <<< (b1v &&& 0x3f).toInt64) - (1 : Int64)))), .second, .val (.long ((((1 : Int64) <<< (b1v &&& 0x3f).toInt64) - (1 : Int64)) <<< (b0v &&& 0x3f).toInt64)), .second, .val (.int (1 : Int32)), .val (.int (1 : Int32))] [(.int (1 : Int32))]))
      exact goRetN X341 hx hlk hret (t := .boolean) (by simp) (w := (1 : Int32)) (by decide) e341 (hb hby at_464) (by decide) (by decide) ⟨rfl, N341⟩
    · rw [qf]
      show Go p e below _ (s₁.setTop (mkF m 70 #[.val (.int p0), .val (.int p1), .val (.int p2), .val (.long q3), .second, .val (.long q4), .second, .val (.int b0v), .val (.int b1v), .val (.int b2v), .val (.int (1 : Int32)), .val (.int (2 : Int32)), .unset, .unset, .unset, .unset, .unset, .unset, .unset, .unset, .unset, .unset, .unset, .unset, .unset, .unset, .unset, .unset, .unset, .unset] [(.int (2 : Int32))]))
      refine Go.st (fun _ => XS.istore X0.here hx rfl (hb hby at_70) rfl (l' := #[.val (.int p0), .val (.int p1), .val (.int p2), .val (.long q3), .second, .val (.long q4), .second, .val (.int b0v), .val (.int b1v), .val (.int b2v), .val (.int (1 : Int32)), .val (.int (2 : Int32)), .val (.int (2 : Int32)), .unset, .unset, .unset, .unset, .unset, .unset, .unset, .unset, .unset, .unset, .unset, .unset, .unset, .unset, .unset, .unset, .unset]) rfl) ?_
      refine Go.st (fun _ => XS.iloadN X0.here hx rfl (hb hby at_72) rfl) ?_
      refine Go.st (fun _ => XS.iconst X0.here hx rfl (hb hby at_73)) ?_
      refine Go.st (fun _ => XS.iushr X0.here hx rfl (hb hby at_74) rfl) ?_
      refine Go.st (fun _ => XS.iconst X0.here hx rfl (hb hby at_75)) ?_
      refine Go.st (fun _ => XS.iand X0.here hx rfl (hb hby at_76) rfl) ?_
      refine Go.st (fun _ => XS.iload X0.here hx rfl (hb hby at_77) rfl) ?_
      refine Go.st (fun _ => XS.imul X0.here hx rfl (hb hby at_79) rfl) ?_
      refine Go.st (fun _ => XS.istore X0.here hx rfl (hb hby at_80) rfl (l' := #[.val (.int p0), .val (.int p1), .val (.int p2), .val (.long q3), .second, .val (.long q4), .second, .val (.int b0v), .val (.int b1v), .val (.int b2v), .val (.int (1 : Int32)), .val (.int (2 : Int32)), .val (.int (2 : Int32)), .val (.int ((((p1.toUInt32 >>> ((2 : Int32) &&& 31).toUInt32).toInt32) &&& (1 : Int32)) * (2 : Int32))), .unset, .unset, .unset, .unset, .unset, .unset, .unset, .unset, .unset, .unset, .unset, .unset, .unset, .unset, .unset, .unset]) rfl) ?_
      show Go p e below _ (s₁.setTop (mkF m 82 #[.val (.int p0), .val (.int p1), .val (.int p2), .val (.long q3), .second, .val (.long q4), .second, .val (.int b0v), .val (.int b1v), .val (.int b2v), .val (.int (1 : Int32)), .val (.int (2 : Int32)), .val (.int (2 : Int32)), .val (.int ((((p1.toUInt32 >>> ((2 : Int32) &&& 31).toUInt32).toInt32) &&& (1 : Int32)) * (2 : Int32))), .unset, .unset, .unset, .unset, .unset, .unset, .unset, .unset, .unset, .unset, .unset, .unset, .unset, .unset, .unset, .unset] []))
      obtain ⟨po, hpo⟩ : ∃ z, z = ((((p1.toUInt32 >>> ((2 : Int32) &&& 31).toUInt32).toInt32) &&& (1 : Int32)) * (2 : Int32)) := ⟨_, rfl⟩
      rw [← hpo]
      have hpb : po = 0 ∨ po = 2 := by rw [hpo]; exact own_po _ _
      have HJ : 0 ≤ (po + (1 : Int32)).toInt ∧ (po + (1 : Int32)).toInt < (4 : Nat) := by rcases hpb with q | q <;> rw [q] <;> decide
      show Go p e below _ (s₁.setTop (mkF m 82 #[.val (.int p0), .val (.int p1), .val (.int p2), .val (.long q3), .second, .val (.long q4), .second, .val (.int b0v), .val (.int b1v), .val (.int b2v), .val (.int (1 : Int32)), .val (.int (2 : Int32)), .val (.int (2 : Int32)), .val (.int po), .unset, .unset, .unset, .unset, .unset, .unset, .unset, .unset, .unset, .unset, .unset, .unset, .unset, .unset, .unset, .unset] []))
      refine Go.st (fun _ => XS.iload X0.here hx rfl (hb hby at_82) rfl) ?_
      refine Go.st (fun _ => XS.ifYes X0.here hx rfl (pc0 := 84) (pc' := 92) rfl (hb hby at_84) rfl ((if0 _ _).trans (feq (by decide : ¬ ((2 : Int32) = (0 : Int32)))).2) (by decide) (by decide)) ?_
      refine Go.st (fun _ => XS.iload X0.here hx rfl (hb hby at_92) rfl) ?_
      refine Go.st (fun _ => XS.iconst X0.here hx rfl (hb hby at_94)) ?_
      refine Go.st (fun _ => XS.icmpYes X0.here hx rfl (pc0 := 95) (pc' := 103) rfl (hb hby at_95) rfl (feq (by decide : ¬ ((2 : Int32) = (1 : Int32)))).2 (by decide) (by decide)) ?_
      refine Go.st (fun _ => XS.iload X0.here hx rfl (hb hby at_103) rfl) ?_
      refine Go.st (fun _ => XS.istore X0.here hx rfl (hb hby at_105) rfl (l' := #[.val (.int p0), .val (.int p1), .val (.int p2), .val (.long q3), .second, .val (.long q4), .second, .val (.int b0v), .val (.int b1v), .val (.int b2v), .val (.int (1 : Int32)), .val (.int (2 : Int32)), .val (.int (2 : Int32)), .val (.int po), .val (.int b2v), .unset, .unset, .unset, .unset, .unset, .unset, .unset, .unset, .unset, .unset, .unset, .unset, .unset, .unset, .unset]) rfl) ?_
      refine Go.st (fun _ => XS.iload X0.here hx rfl (hb hby at_107) rfl) ?_
      refine Go.st (fun _ => XS.ifYes X0.here hx rfl (pc0 := 109) (pc' := 116) rfl (hb hby at_109) rfl ((if0 _ _).trans (feq (by decide : ¬ ((2 : Int32) = (0 : Int32)))).2) (by decide) (by decide)) ?_
      refine Go.st (fun _ => XS.iload X0.here hx rfl (hb hby at_116) rfl) ?_
      refine Go.st (fun _ => XS.iconst X0.here hx rfl (hb hby at_118)) ?_
      refine Go.st (fun _ => XS.icmpYes X0.here hx rfl (pc0 := 119) (pc' := 127) rfl (hb hby at_119) rfl (feq (by decide : ¬ ((2 : Int32) = (1 : Int32)))).2 (by decide) (by decide)) ?_
      show Go p e below _ (s₁.setTop (mkF m 127 #[.val (.int p0), .val (.int p1), .val (.int p2), .val (.long q3), .second, .val (.long q4), .second, .val (.int b0v), .val (.int b1v), .val (.int b2v), .val (.int (1 : Int32)), .val (.int (2 : Int32)), .val (.int (2 : Int32)), .val (.int po), .val (.int b2v), .unset, .unset, .unset, .unset, .unset, .unset, .unset, .unset, .unset, .unset, .unset, .unset, .unset, .unset, .unset] []))
      refine Go.st (fun _ => XS.iload X0.here hx rfl (hb hby at_127) rfl) ?_
      refine Go.st (fun _ => XS.ifNo X0.here hx rfl (hb hby at_129) rfl ((if0 _ _).trans (feq (by decide : ¬ ((1 : Int32) = (0 : Int32)))).1)) ?_
      refine Go.st (fun _ => XS.iconst X0.here hx rfl (hb hby at_132)) ?_
      refine Go.st (fun _ => XS.goto X0.here hx rfl (pc0 := 133) (pc' := 141) rfl (hb hby at_133) (by decide) (by decide)) ?_
      refine Go.st (fun _ => XS.istore X0.here hx rfl (hb hby at_141) rfl (l' := #[.val (.int p0), .val (.int p1), .val (.int p2), .val (.long q3), .second, .val (.long q4), .second, .val (.int b0v), .val (.int b1v), .val (.int b2v), .val (.int (1 : Int32)), .val (.int (2 : Int32)), .val (.int (2 : Int32)), .val (.int po), .val (.int b2v), .val (.int (0 : Int32)), .unset, .unset, .unset, .unset, .unset, .unset, .unset, .unset, .unset, .unset, .unset, .unset, .unset, .unset]) rfl) ?_
      refine Go.st (fun _ => XS.iload X0.here hx rfl (hb hby at_143) rfl) ?_
      refine Go.st (fun _ => XS.iconst X0.here hx rfl (hb hby at_145)) ?_
      refine Go.st (fun _ => XS.icmpNo X0.here hx rfl (hb hby at_146) rfl (teq (by decide : (2 : Int32) = (2 : Int32))).2) ?_
      refine Go.st (fun _ => XS.iload X0.here hx rfl (hb hby at_149) rfl) ?_
      refine Go.st (fun _ => XS.ifNo X0.here hx rfl (hb hby at_151) rfl ((if0 _ _).trans (feq (by decide : ¬ ((1 : Int32) = (0 : Int32)))).1)) ?_
      refine Go.st (fun _ => XS.iconst X0.here hx rfl (hb hby at_154)) ?_
      refine Go.st (fun _ => XS.goto X0.here hx rfl (pc0 := 155) (pc' := 159) rfl (hb hby at_155) (by decide) (by decide)) ?_
      show Go p e below _ (s₁.setTop (mkF m 159 #[.val (.int p0), .val (.int p1), .val (.int p2), .val (.long q3), .second, .val (.long q4), .second, .val (.int b0v), .val (.int b1v), .val (.int b2v), .val (.int (1 : Int32)), .val (.int (2 : Int32)), .val (.int (2 : Int32)), .val (.int po), .val (.int b2v), .val (.int (0 : Int32)), .unset, .unset, .unset, .unset, .unset, .unset, .unset, .unset, .unset, .unset, .unset, .unset, .unset, .unset] [(.int (1 : Int32))]))
      refine Go.st (fun _ => XS.istore X0.here hx rfl (hb hby at_159) rfl (l' := #[.val (.int p0), .val (.int p1), .val (.int p2), .val (.long q3), .second, .val (.long q4), .second, .val (.int b0v), .val (.int b1v), .val (.int b2v), .val (.int (1 : Int32)), .val (.int (2 : Int32)), .val (.int (2 : Int32)), .val (.int po), .val (.int b2v), .val (.int (0 : Int32)), .val (.int (1 : Int32)), .unset, .unset, .unset, .unset, .unset, .unset, .unset, .unset, .unset, .unset, .unset, .unset, .unset]) rfl) ?_
      refine Go.st (fun _ => XS.lconst X0.here hx rfl (hb hby at_161)) ?_
      refine Go.st (fun _ => XS.iload X0.here hx rfl (hb hby at_162) rfl) ?_
      refine Go.st (fun _ => XS.lshl X0.here hx rfl (hb hby at_164) rfl) ?_
      refine Go.st (fun _ => XS.lconst X0.here hx rfl (hb hby at_165)) ?_
      refine Go.st (fun _ => XS.lsub X0.here hx rfl (hb hby at_166) rfl) ?_
      refine Go.st (fun _ => XS.lstore X0.here hx rfl (hb hby at_167) rfl (l' := #[.val (.int p0), .val (.int p1), .val (.int p2), .val (.long q3), .second, .val (.long q4), .second, .val (.int b0v), .val (.int b1v), .val (.int b2v), .val (.int (1 : Int32)), .val (.int (2 : Int32)), .val (.int (2 : Int32)), .val (.int po), .val (.int b2v), .val (.int (0 : Int32)), .val (.int (1 : Int32)), .val (.long (((1 : Int64) <<< (b2v &&& 0x3f).toInt64) - (1 : Int64))), .second, .unset, .unset, .unset, .unset, .unset, .unset, .unset, .unset, .unset, .unset, .unset]) rfl) ?_
      refine Go.st (fun _ => XS.iconst X0.here hx rfl (hb hby at_169)) ?_
      show Go p e below _ (s₁.setTop (mkF m 170 #[.val (.int p0), .val (.int p1), .val (.int p2), .val (.long q3), .second, .val (.long q4), .second, .val (.int b0v), .val (.int b1v), .val (.int b2v), .val (.int (1 : Int32)), .val (.int (2 : Int32)), .val (.int (2 : Int32)), .val (.int po), .val (.int b2v), .val (.int (0 : Int32)), .val (.int (1 : Int32)), .val (.long (((1 : Int64) <<< (b2v &&& 0x3f).toInt64) - (1 : Int64))), .second, .unset, .unset, .unset, .unset, .unset, .unset, .unset, .unset, .unset, .unset, .unset] [(.int (3 : Int32))]))
      obtain ⟨T342, h342, k342, X342, e342, E342, A342, st342⟩ := newP X0 hx hZ (hw _ (List.mem_of_getElem? (i := 0) rfl)) e0 (g := (mkF m 170 #[.val (.int p0), .val (.int p1), .val (.int p2), .val (.long q3), .second, .val (.long q4), .second, .val (.int b0v), .val (.int b1v), .val (.int b2v), .val (.int (1 : Int32)), .val (.int (2 : Int32)), .val (.int (2 : Int32)), .val (.int po), .val (.int b2v), .val (.int (0 : Int32)), .val (.int (1 : Int32)), .val (.long (((1 : Int64) <<< (b2v &&& 0x3f).toInt64) - (1 : Int64))), .second, .unset, .unset, .unset, .unset, .unset, .unset, .unset, .unset, .unset, .unset, .unset] [(.int (3 : Int32))])) rfl (hb hby at_170) rfl (by decide) (cap := 3) (by decide) (by decide) (by decide) (by decide)
      obtain ⟨b342, g342⟩ : ∃ z, z = h0.size := ⟨_, rfl⟩
      rw [← g342] at A342 st342
      refine Go.st st342 ?_
      have gn342 : n0 ≤ b342 := oldGe O0 g342
      have O343 : Old Z n0 h342 := O0.ext E342
      have V_344 : Arv Z h342 b342 k342 .long (3 : Int32) [(.long (0 : Int64)), (.long (0 : Int64)), (.long (0 : Int64))] (.long (0 : Int64)) := (Arv.new A342 (by decide)).pad (pad_rep [] (.long (0 : Int64)) 3)
      show Go p e below _ (T342.setTop (mkF m 172 #[.val (.int p0), .val (.int p1), .val (.int p2), .val (.long q3), .second, .val (.long q4), .second, .val (.int b0v), .val (.int b1v), .val (.int b2v), .val (.int (1 : Int32)), .val (.int (2 : Int32)), .val (.int (2 : Int32)), .val (.int po), .val (.int b2v), .val (.int (0 : Int32)), .val (.int (1 : Int32)), .val (.long (((1 : Int64) <<< (b2v &&& 0x3f).toInt64) - (1 : Int64))), .second, .unset, .unset, .unset, .unset, .unset, .unset, .unset, .unset, .unset, .unset, .unset] [(.ref b342)]))
      refine Go.st (fun _ => XS.dup X342.here hx rfl (hb hby at_172) rfl rfl) ?_
      refine Go.st (fun _ => XS.iconst X342.here hx rfl (hb hby at_173)) ?_
      refine Go.st (fun _ => XS.lconst X342.here hx rfl (hb hby at_174)) ?_
      refine Go.st (fun _ => XS.iload X342.here hx rfl (hb hby at_175) rfl) ?_
      refine Go.st (fun _ => XS.lshl X342.here hx rfl (hb hby at_177) rfl) ?_
      show Go p e below _ (T342.setTop (mkF m 178 #[.val (.int p0), .val (.int p1), .val (.int p2), .val (.long q3), .second, .val (.long q4), .second, .val (.int b0v), .val (.int b1v), .val (.int b2v), .val (.int (1 : Int32)), .val (.int (2 : Int32)), .val (.int (2 : Int32)), .val (.int po), .val (.int b2v), .val (.int (0 : Int32)), .val (.int (1 : Int32)), .val (.long (((1 : Int64) <<< (b2v &&& 0x3f).toInt64) - (1 : Int64))), .second, .unset, .unset, .unset, .unset, .unset, .unset, .unset, .unset, .unset, .unset, .unset] [(.long ((1 : Int64) <<< (b0v &&& 0x3f).toInt64)), (.int (0 : Int32)), (.ref b342), (.ref b342)]))
      obtain ⟨cl345, Ar345, qk345, Sz345, Nn345, Ha345, Ga345⟩ := id V_344
      have hin345 : ¬ ((0 : Int32) < 0 ∨ cl345.slots.size ≤ ((0 : Int32) : Int32).toNatClampNeg) := inb_of Sz345 ⟨by decide, by decide⟩
      obtain ⟨T345, h345, X345, e345, W345, st345⟩ := stJ X342 hx hZ e342 Ar345 (j := (0 : Int32)) hin345 (g := (mkF m 178 #[.val (.int p0), .val (.int p1), .val (.int p2), .val (.long q3), .second, .val (.long q4), .second, .val (.int b0v), .val (.int b1v), .val (.int b2v), .val (.int (1 : Int32)), .val (.int (2 : Int32)), .val (.int (2 : Int32)), .val (.int po), .val (.int b2v), .val (.int (0 : Int32)), .val (.int (1 : Int32)), .val (.long (((1 : Int64) <<< (b2v &&& 0x3f).toInt64) - (1 : Int64))), .second, .unset, .unset, .unset, .unset, .unset, .unset, .unset, .unset, .unset, .unset, .unset] [(.long ((1 : Int64) <<< (b0v &&& 0x3f).toInt64)), (.int (0 : Int32)), (.ref b342), (.ref b342)])) rfl rfl (hb hby at_178)
      refine Go.st st345 ?_
      have O346 : Old Z n0 h345 := O343.wr W345 gn342
      have V_347 : Arv Z h345 b342 k342 .long (3 : Int32) [(.long ((1 : Int64) <<< (b0v &&& 0x3f).toInt64)), (.long (0 : Int64)), (.long (0 : Int64))] (.long (0 : Int64)) := Arv.set Ar345 qk345 Sz345 Nn345 Ha345 Ga345 rfl W345 0 rfl (Nat.le_of_ble_eq_true rfl)
      have N345 := Fr.snoc X345 N0 gn342
      show Go p e below _ (T345.setTop (mkF m 179 #[.val (.int p0), .val (.int p1), .val (.int p2), .val (.long q3), .second, .val (.long q4), .second, .val (.int b0v), .val (.int b1v), .val (.int b2v), .val (.int (1 : Int32)), .val (.int (2 : Int32)), .val (.int (2 : Int32)), .val (.int po), .val (.int b2v), .val (.int (0 : Int32)), .val (.int (1 : Int32)), .val (.long (((1 : Int64) <<< (b2v &&& 0x3f).toInt64) - (1 : Int64))), .second, .unset, .unset, .unset, .unset, .unset, .unset, .unset, .unset, .unset, .unset, .unset] [(.ref b342)]))
      refine Go.st (fun _ => XS.dup X345.here hx rfl (hb hby at_179) rfl rfl) ?_
      refine Go.st (fun _ => XS.iconst X345.here hx rfl (hb hby at_180)) ?_
      refine Go.st (fun _ => XS.lconst X345.here hx rfl (hb hby at_181)) ?_
      refine Go.st (fun _ => XS.iload X345.here hx rfl (hb hby at_182) rfl) ?_
      refine Go.st (fun _ => XS.lshl X345.here hx rfl (hb hby at_184) rfl) ?_
      show Go p e below _ (T345.setTop (mkF m 185 #[.val (.int p0), .val (.int p1), .val (.int p2), .val (.long q3), .second, .val (.long q4), .second, .val (.int b0v), .val (.int b1v), .val (.int b2v), .val (.int (1 : Int32)), .val (.int (2 : Int32)), .val (.int (2 : Int32)), .val (.int po), .val (.int b2v), .val (.int (0 : Int32)), .val (.int (1 : Int32)), .val (.long (((1 : Int64) <<< (b2v &&& 0x3f).toInt64) - (1 : Int64))), .second, .unset, .unset, .unset, .unset, .unset, .unset, .unset, .unset, .unset, .unset, .unset] [(.long ((1 : Int64) <<< (b1v &&& 0x3f).toInt64)), (.int (1 : Int32)), (.ref b342), (.ref b342)]))
      obtain ⟨cl348, Ar348, qk348, Sz348, Nn348, Ha348, Ga348⟩ := id V_347
      have hin348 : ¬ ((1 : Int32) < 0 ∨ cl348.slots.size ≤ ((1 : Int32) : Int32).toNatClampNeg) := inb_of Sz348 ⟨by decide, by decide⟩
      obtain ⟨T348, h348, X348, e348, W348, st348⟩ := stJ X345 hx hZ e345 Ar348 (j := (1 : Int32)) hin348 (g := (mkF m 185 #[.val (.int p0), .val (.int p1), .val (.int p2), .val (.long q3), .second, .val (.long q4), .second, .val (.int b0v), .val (.int b1v), .val (.int b2v), .val (.int (1 : Int32)), .val (.int (2 : Int32)), .val (.int (2 : Int32)), .val (.int po), .val (.int b2v), .val (.int (0 : Int32)), .val (.int (1 : Int32)), .val (.long (((1 : Int64) <<< (b2v &&& 0x3f).toInt64) - (1 : Int64))), .second, .unset, .unset, .unset, .unset, .unset, .unset, .unset, .unset, .unset, .unset, .unset] [(.long ((1 : Int64) <<< (b1v &&& 0x3f).toInt64)), (.int (1 : Int32)), (.ref b342), (.ref b342)])) rfl rfl (hb hby at_185)
      refine Go.st st348 ?_
      have O349 : Old Z n0 h348 := O346.wr W348 gn342
      have V_350 : Arv Z h348 b342 k342 .long (3 : Int32) [(.long ((1 : Int64) <<< (b0v &&& 0x3f).toInt64)), (.long ((1 : Int64) <<< (b1v &&& 0x3f).toInt64)), (.long (0 : Int64))] (.long (0 : Int64)) := Arv.set Ar348 qk348 Sz348 Nn348 Ha348 Ga348 rfl W348 1 rfl (Nat.le_of_ble_eq_true rfl)
      have N348 := Fr.snoc X348 N345 gn342
      show Go p e below _ (T348.setTop (mkF m 186 #[.val (.int p0), .val (.int p1), .val (.int p2), .val (.long q3), .second, .val (.long q4), .second, .val (.int b0v), .val (.int b1v), .val (.int b2v), .val (.int (1 : Int32)), .val (.int (2 : Int32)), .val (.int (2 : Int32)), .val (.int po), .val (.int b2v), .val (.int (0 : Int32)), .val (.int (1 : Int32)), .val (.long (((1 : Int64) <<< (b2v &&& 0x3f).toInt64) - (1 : Int64))), .second, .unset, .unset, .unset, .unset, .unset, .unset, .unset, .unset, .unset, .unset, .unset] [(.ref b342)]))
      refine Go.st (fun _ => XS.dup X348.here hx rfl (hb hby at_186) rfl rfl) ?_
      refine Go.st (fun _ => XS.iconst X348.here hx rfl (hb hby at_187)) ?_
      refine Go.st (fun _ => XS.lconst X348.here hx rfl (hb hby at_188)) ?_
      refine Go.st (fun _ => XS.iload X348.here hx rfl (hb hby at_189) rfl) ?_
      refine Go.st (fun _ => XS.lshl X348.here hx rfl (hb hby at_191) rfl) ?_
      show Go p e below _ (T348.setTop (mkF m 192 #[.val (.int p0), .val (.int p1), .val (.int p2), .val (.long q3), .second, .val (.long q4), .second, .val (.int b0v), .val (.int b1v), .val (.int b2v), .val (.int (1 : Int32)), .val (.int (2 : Int32)), .val (.int (2 : Int32)), .val (.int po), .val (.int b2v), .val (.int (0 : Int32)), .val (.int (1 : Int32)), .val (.long (((1 : Int64) <<< (b2v &&& 0x3f).toInt64) - (1 : Int64))), .second, .unset, .unset, .unset, .unset, .unset, .unset, .unset, .unset, .unset, .unset, .unset] [(.long ((1 : Int64) <<< (b2v &&& 0x3f).toInt64)), (.int (2 : Int32)), (.ref b342), (.ref b342)]))
      obtain ⟨cl351, Ar351, qk351, Sz351, Nn351, Ha351, Ga351⟩ := id V_350
      have hin351 : ¬ ((2 : Int32) < 0 ∨ cl351.slots.size ≤ ((2 : Int32) : Int32).toNatClampNeg) := inb_of Sz351 ⟨by decide, by decide⟩
      obtain ⟨T351, h351, X351, e351, W351, st351⟩ := stJ X348 hx hZ e348 Ar351 (j := (2 : Int32)) hin351 (g := (mkF m 192 #[.val (.int p0), .val (.int p1), .val (.int p2), .val (.long q3), .second, .val (.long q4), .second, .val (.int b0v), .val (.int b1v), .val (.int b2v), .val (.int (1 : Int32)), .val (.int (2 : Int32)), .val (.int (2 : Int32)), .val (.int po), .val (.int b2v), .val (.int (0 : Int32)), .val (.int (1 : Int32)), .val (.long (((1 : Int64) <<< (b2v &&& 0x3f).toInt64) - (1 : Int64))), .second, .unset, .unset, .unset, .unset, .unset, .unset, .unset, .unset, .unset, .unset, .unset] [(.long ((1 : Int64) <<< (b2v &&& 0x3f).toInt64)), (.int (2 : Int32)), (.ref b342), (.ref b342)])) rfl rfl (hb hby at_192)
      refine Go.st st351 ?_
      have O352 : Old Z n0 h351 := O349.wr W351 gn342
      have V_353 : Arv Z h351 b342 k342 .long (3 : Int32) [(.long ((1 : Int64) <<< (b0v &&& 0x3f).toInt64)), (.long ((1 : Int64) <<< (b1v &&& 0x3f).toInt64)), (.long ((1 : Int64) <<< (b2v &&& 0x3f).toInt64))] (.long (0 : Int64)) := Arv.set Ar351 qk351 Sz351 Nn351 Ha351 Ga351 rfl W351 2 rfl (Nat.le_of_ble_eq_true rfl)
      have N351 := Fr.snoc X351 N348 gn342
      show Go p e below _ (T351.setTop (mkF m 193 #[.val (.int p0), .val (.int p1), .val (.int p2), .val (.long q3), .second, .val (.long q4), .second, .val (.int b0v), .val (.int b1v), .val (.int b2v), .val (.int (1 : Int32)), .val (.int (2 : Int32)), .val (.int (2 : Int32)), .val (.int po), .val (.int b2v), .val (.int (0 : Int32)), .val (.int (1 : Int32)), .val (.long (((1 : Int64) <<< (b2v &&& 0x3f).toInt64) - (1 : Int64))), .second, .unset, .unset, .unset, .unset, .unset, .unset, .unset, .unset, .unset, .unset, .unset] [(.ref b342)]))
      refine Go.st (fun _ => XS.astore X351.here hx rfl (hb hby at_193) rfl rfl (l' := #[.val (.int p0), .val (.int p1), .val (.int p2), .val (.long q3), .second, .val (.long q4), .second, .val (.int b0v), .val (.int b1v), .val (.int b2v), .val (.int (1 : Int32)), .val (.int (2 : Int32)), .val (.int (2 : Int32)), .val (.int po), .val (.int b2v), .val (.int (0 : Int32)), .val (.int (1 : Int32)), .val (.long (((1 : Int64) <<< (b2v &&& 0x3f).toInt64) - (1 : Int64))), .second, .val (.ref b342), .unset, .unset, .unset, .unset, .unset, .unset, .unset, .unset, .unset, .unset]) rfl) ?_
      show Go p e below _ (T351.setTop (mkF m 195 #[.val (.int p0), .val (.int p1), .val (.int p2), .val (.long q3), .second, .val (.long q4), .second, .val (.int b0v), .val (.int b1v), .val (.int b2v), .val (.int (1 : Int32)), .val (.int (2 : Int32)), .val (.int (2 : Int32)), .val (.int po), .val (.int b2v), .val (.int (0 : Int32)), .val (.int (1 : Int32)), .val (.long (((1 : Int64) <<< (b2v &&& 0x3f).toInt64) - (1 : Int64))), .second, .val (.ref b342), .unset, .unset, .unset, .unset, .unset, .unset, .unset, .unset, .unset, .unset] []))
      obtain ⟨T354, h354, X354, e354, E354, A354, D354, U354, st354⟩ := newO X351 hx hZ hown (hw _ (List.mem_of_getElem? (i := 1) rfl)) (hw _ (List.mem_of_getElem? (i := 2) rfl)) (hw _ (List.mem_of_getElem? (i := 3) rfl)) e351 (g := (mkF m 195 #[.val (.int p0), .val (.int p1), .val (.int p2), .val (.long q3), .second, .val (.long q4), .second, .val (.int b0v), .val (.int b1v), .val (.int b2v), .val (.int (1 : Int32)), .val (.int (2 : Int32)), .val (.int (2 : Int32)), .val (.int po), .val (.int b2v), .val (.int (0 : Int32)), .val (.int (1 : Int32)), .val (.long (((1 : Int64) <<< (b2v &&& 0x3f).toInt64) - (1 : Int64))), .second, .val (.ref b342), .unset, .unset, .unset, .unset, .unset, .unset, .unset, .unset, .unset, .unset] [])) rfl (hb hby at_195) (by decide) (by decide)
      obtain ⟨b354, g354⟩ : ∃ z, z = h351.size := ⟨_, rfl⟩
      rw [← g354] at A354 D354 U354 st354
      refine Go.st st354 ?_
      have gn354 : n0 ≤ b354 := oldGe O352 g354
      have ne355 : b342 ≠ b354 := Nat.ne_of_lt (Nat.lt_of_lt_of_le V_353.lt (Nat.le_of_eq g354.symm))
      have O356 : Old Z n0 h354 := O352.ext E354
      have V_357 : Arv Z h354 b342 k342 .long (3 : Int32) [(.long ((1 : Int64) <<< (b0v &&& 0x3f).toInt64)), (.long ((1 : Int64) <<< (b1v &&& 0x3f).toInt64)), (.long ((1 : Int64) <<< (b2v &&& 0x3f).toInt64))] (.long (0 : Int64)) := V_353.ext E354
      have F358 : Fld Z h354 b354 "com/example/gieres/gieres/model/TupleTable" "pages" "[[J" .null := D354 (Or.inl (hw _ (List.mem_of_getElem? (i := 13) rfl))) (ty := (.array (.array .long))) (by decide)
      have F359 : Fld Z h354 b354 "com/example/gieres/gieres/model/TupleTable" "slotBits" "I" (.int (0 : Int32)) := D354 (Or.inl (hw _ (List.mem_of_getElem? (i := 15) rfl))) (ty := .int) (by decide)
      have F360 : Fld Z h354 b354 "com/example/gieres/gieres/model/TupleTable" "slots" "[I" .null := D354 (Or.inl (hw _ (List.mem_of_getElem? (i := 18) rfl))) (ty := (.array .int)) (by decide)
      have F361 : Fld Z h354 b354 "com/example/gieres/gieres/model/TupleTable" "hashes" "[J" .null := D354 (Or.inl (hw _ (List.mem_of_getElem? (i := 20) rfl))) (ty := (.array .long)) (by decide)
      have F362 : Fld Z h354 b354 "com/example/gieres/gieres/model/TupleTable" "found" "[I" .null := D354 (Or.inl (hw _ (List.mem_of_getElem? (i := 22) rfl))) (ty := (.array .int)) (by decide)
      have F363 : Fld Z h354 b354 "com/example/gieres/gieres/model/TupleTable" "word" "[I" .null := D354 (Or.inr (hw _ (List.mem_of_getElem? (i := 24) rfl))) (ty := (.array .int)) (by decide)
      have F364 : Fld Z h354 b354 "com/example/gieres/gieres/model/TupleTable" "shift" "[I" .null := D354 (Or.inr (hw _ (List.mem_of_getElem? (i := 26) rfl))) (ty := (.array .int)) (by decide)
      have F365 : Fld Z h354 b354 "com/example/gieres/gieres/model/TupleTable" "mask" "[J" .null := D354 (Or.inr (hw _ (List.mem_of_getElem? (i := 28) rfl))) (ty := (.array .long)) (by decide)
      have F366 : Fld Z h354 b354 "com/example/gieres/gieres/model/TupleTable" "width" "I" (.int (0 : Int32)) := D354 (Or.inr (hw _ (List.mem_of_getElem? (i := 38) rfl))) (ty := .int) (by decide)
      show Go p e below _ (T354.setTop (mkF m 198 #[.val (.int p0), .val (.int p1), .val (.int p2), .val (.long q3), .second, .val (.long q4), .second, .val (.int b0v), .val (.int b1v), .val (.int b2v), .val (.int (1 : Int32)), .val (.int (2 : Int32)), .val (.int (2 : Int32)), .val (.int po), .val (.int b2v), .val (.int (0 : Int32)), .val (.int (1 : Int32)), .val (.long (((1 : Int64) <<< (b2v &&& 0x3f).toInt64) - (1 : Int64))), .second, .val (.ref b342), .unset, .unset, .unset, .unset, .unset, .unset, .unset, .unset, .unset, .unset] [(.ref b354)]))
      refine Go.st (fun _ => XS.dup X354.here hx rfl (hb hby at_198) rfl rfl) ?_
      refine Go.st (fun _ => XS.aload X354.here hx rfl (hb hby at_199) rfl rfl) ?_
      show Go p e below _ (T354.setTop (mkF m 201 #[.val (.int p0), .val (.int p1), .val (.int p2), .val (.long q3), .second, .val (.long q4), .second, .val (.int b0v), .val (.int b1v), .val (.int b2v), .val (.int (1 : Int32)), .val (.int (2 : Int32)), .val (.int (2 : Int32)), .val (.int po), .val (.int b2v), .val (.int (0 : Int32)), .val (.int (1 : Int32)), .val (.long (((1 : Int64) <<< (b2v &&& 0x3f).toInt64) - (1 : Int64))), .second, .val (.ref b342), .unset, .unset, .unset, .unset, .unset, .unset, .unset, .unset, .unset, .unset] [(.ref b342), (.ref b354), (.ref b354)]))
      refine goInit X354 hx hZ (y := (⟨"com/example/gieres/gieres/model/TupleTable", "<init>", "([J)V"⟩ : MethodName)) rfl hown (hw _ (List.mem_of_getElem? (i := 4) rfl)) (hw _ (List.mem_of_getElem? (i := 5) rfl)) (hw _ (List.mem_of_getElem? (i := 3) rfl)) (hw _ (List.mem_of_getElem? (i := 6) rfl)) (by decide) (a := b354) (argsL := [(.ref b342)]) (rest := [(.ref b354)]) e354 (rmTT l Z a0 hw [] b354 b342 k342 ((1 : Int64) <<< (b0v &&& 0x3f).toInt64) ((1 : Int64) <<< (b1v &&& 0x3f).toInt64) ((1 : Int64) <<< (b2v &&& 0x3f).toInt64) h354 n0 O356 A354 F358 F359 F360 F361 F362 F363 F364 F365 F366 gn354 V_357 ne355 (own_t32 L0L) (own_t32 L1L) (own_t32 L2L)) 1 (by decide) (by decide) (by decide) (by decide) (mkF m 201 #[.val (.int p0), .val (.int p1), .val (.int p2), .val (.long q3), .second, .val (.long q4), .second, .val (.int b0v), .val (.int b1v), .val (.int b2v), .val (.int (1 : Int32)), .val (.int (2 : Int32)), .val (.int (2 : Int32)), .val (.int po), .val (.int b2v), .val (.int (0 : Int32)), .val (.int (1 : Int32)), .val (.long (((1 : Int64) <<< (b2v &&& 0x3f).toInt64) - (1 : Int64))), .second, .val (.ref b342), .unset, .unset, .unset, .unset, .unset, .unset, .unset, .unset, .unset, .unset] [(.ref b342), (.ref b354), (.ref b354)]) rfl (by rw [hml]; rfl) (lenOf pd_2 rfl) rfl (hb hby at_201) (Nat.le_of_eq rfl) ?_
      intro v367 T367 L367 X367 hQ367
      obtain ⟨rfl, M367, K367, c0, c1, c2, w2, s2, wd, aw, as, am, kw, ks, km, B0, B1, B2, LY, Gw, Vw, Gs, Vs, Gm, Vm, Gd⟩ := hQ367
      have N367 := Fr.app N351 M367
      have O368 : Old Z n0 T367.heap := O356.keep K367 (allS gn354 all0)
      have V_369 : Arv Z T367.heap b342 k342 .long (3 : Int32) [(.long ((1 : Int64) <<< (b0v &&& 0x3f).toInt64)), (.long ((1 : Int64) <<< (b1v &&& 0x3f).toInt64)), (.long ((1 : Int64) <<< (b2v &&& 0x3f).toInt64))] (.long (0 : Int64)) := V_357.keep K367 (ninS ne355 nin0)
      have E_370 : Exa Z T367.heap b354 "com/example/gieres/gieres/model/TupleTable" := A354.keep K367
      obtain rfl : b0v = c0 := own_bits_eq L0L B0
      obtain rfl : b1v = c1 := own_bits_eq L1L B1
      obtain rfl : b2v = c2 := own_bits_eq L2L B2
      obtain ⟨rfl, rfl, rfl⟩ := (LY.resolve_left (fun q => q.1 hc1)).2
      have PL := own_pl0 L2L
      show Go p e below _ (T367.setTop (mkF m 204 #[.val (.int p0), .val (.int p1), .val (.int p2), .val (.long q3), .second, .val (.long q4), .second, .val (.int b0v), .val (.int b1v), .val (.int b2v), .val (.int (1 : Int32)), .val (.int (2 : Int32)), .val (.int (2 : Int32)), .val (.int po), .val (.int b2v), .val (.int (0 : Int32)), .val (.int (1 : Int32)), .val (.long (((1 : Int64) <<< (b2v &&& 0x3f).toInt64) - (1 : Int64))), .second, .val (.ref b342), .unset, .unset, .unset, .unset, .unset, .unset, .unset, .unset, .unset, .unset] [(.ref b354)]))
      refine Go.st (fun _ => XS.astore X367.here hx rfl (hb hby at_204) rfl rfl (l' := #[.val (.int p0), .val (.int p1), .val (.int p2), .val (.long q3), .second, .val (.long q4), .second, .val (.int b0v), .val (.int b1v), .val (.int b2v), .val (.int (1 : Int32)), .val (.int (2 : Int32)), .val (.int (2 : Int32)), .val (.int po), .val (.int b2v), .val (.int (0 : Int32)), .val (.int (1 : Int32)), .val (.long (((1 : Int64) <<< (b2v &&& 0x3f).toInt64) - (1 : Int64))), .second, .val (.ref b342), .val (.ref b354), .unset, .unset, .unset, .unset, .unset, .unset, .unset, .unset, .unset]) rfl) ?_
      refine Go.st (fun _ => XS.iload X367.here hx rfl (hb hby at_206) rfl) ?_
      refine Go.st (fun _ => XS.ifNo X367.here hx rfl (hb hby at_208) rfl ((if0 _ _).trans (feq (by decide : ¬ ((1 : Int32) = (0 : Int32)))).1)) ?_
      refine Go.st (fun _ => XS.iconst X367.here hx rfl (hb hby at_211)) ?_
      show Go p e below _ (T367.setTop (mkF m 212 #[.val (.int p0), .val (.int p1), .val (.int p2), .val (.long q3), .second, .val (.long q4), .second, .val (.int b0v), .val (.int b1v), .val (.int b2v), .val (.int (1 : Int32)), .val (.int (2 : Int32)), .val (.int (2 : Int32)), .val (.int po), .val (.int b2v), .val (.int (0 : Int32)), .val (.int (1 : Int32)), .val (.long (((1 : Int64) <<< (b2v &&& 0x3f).toInt64) - (1 : Int64))), .second, .val (.ref b342), .val (.ref b354), .unset, .unset, .unset, .unset, .unset, .unset, .unset, .unset, .unset] [(.int (4 : Int32))]))
      obtain ⟨T371, h371, k371, X371, e371, E371, A371, st371⟩ := newP X367 hx hZ (hw _ (List.mem_of_getElem? (i := 0) rfl)) rfl (g := (mkF m 212 #[.val (.int p0), .val (.int p1), .val (.int p2), .val (.long q3), .second, .val (.long q4), .second, .val (.int b0v), .val (.int b1v), .val (.int b2v), .val (.int (1 : Int32)), .val (.int (2 : Int32)), .val (.int (2 : Int32)), .val (.int po), .val (.int b2v), .val (.int (0 : Int32)), .val (.int (1 : Int32)), .val (.long (((1 : Int64) <<< (b2v &&& 0x3f).toInt64) - (1 : Int64))), .second, .val (.ref b342), .val (.ref b354), .unset, .unset, .unset, .unset, .unset, .unset, .unset, .unset, .unset] [(.int (4 : Int32))])) rfl (hb hby at_212) rfl (by decide) (cap := 4) (by decide) (by decide) (by decide) (by decide)
      obtain ⟨b371, g371⟩ : ∃ z, z = T367.heap.size := ⟨_, rfl⟩
      rw [← g371] at A371 st371
      refine Go.st st371 ?_
      have gn371 : n0 ≤ b371 := oldGe O368 g371
      have ne372 : b354 ≠ b371 := Nat.ne_of_lt (Nat.lt_of_lt_of_le E_370.lt (Nat.le_of_eq g371.symm))
      have ne373 : aw ≠ b371 := Nat.ne_of_lt (Nat.lt_of_lt_of_le Vw.lt (Nat.le_of_eq g371.symm))
      have ne374 : as ≠ b371 := Nat.ne_of_lt (Nat.lt_of_lt_of_le Vs.lt (Nat.le_of_eq g371.symm))
      have ne375 : am ≠ b371 := Nat.ne_of_lt (Nat.lt_of_lt_of_le Vm.lt (Nat.le_of_eq g371.symm))
      have O376 : Old Z n0 h371 := O368.ext E371
      have E_377 : Exa Z h371 b354 "com/example/gieres/gieres/model/TupleTable" := E_370.ext E371
      have F378 : Fld Z h371 b354 "com/example/gieres/gieres/model/TupleTable" "word" "[I" (.ref aw) := Gw.ext E371
      have V_379 : Arv Z h371 aw kw .int (3 : Int32) [(.int (0 : Int32)), (.int (0 : Int32)), (.int (1 : Int32))] (.int (0 : Int32)) := Vw.ext E371
      have F380 : Fld Z h371 b354 "com/example/gieres/gieres/model/TupleTable" "shift" "[I" (.ref as) := Gs.ext E371
      have V_381 : Arv Z h371 as ks .int (3 : Int32) [(.int (0 : Int32)), (.int b0v), (.int (0 : Int32))] (.int (0 : Int32)) := Vs.ext E371
      have F382 : Fld Z h371 b354 "com/example/gieres/gieres/model/TupleTable" "mask" "[J" (.ref am) := Gm.ext E371
      have V_383 : Arv Z h371 am km .long (3 : Int32) [(.long (own_mask b0v)), (.long (own_mask b1v)), (.long (own_mask b2v))] (.long (0 : Int64)) := Vm.ext E371
      have F384 : Fld Z h371 b354 "com/example/gieres/gieres/model/TupleTable" "width" "I" (.int (2 : Int32)) := Gd.ext E371
      have V_385 : Arv Z h371 b371 k371 .long (4 : Int32) [(.long (0 : Int64)), (.long (0 : Int64)), (.long (0 : Int64)), (.long (0 : Int64))] (.long (0 : Int64)) := (Arv.new A371 (by decide)).pad (pad_rep [] (.long (0 : Int64)) 4)
      show Go p e below _ (T371.setTop (mkF m 214 #[.val (.int p0), .val (.int p1), .val (.int p2), .val (.long q3), .second, .val (.long q4), .second, .val (.int b0v), .val (.int b1v), .val (.int b2v), .val (.int (1 : Int32)), .val (.int (2 : Int32)), .val (.int (2 : Int32)), .val (.int po), .val (.int b2v), .val (.int (0 : Int32)), .val (.int (1 : Int32)), .val (.long (((1 : Int64) <<< (b2v &&& 0x3f).toInt64) - (1 : Int64))), .second, .val (.ref b342), .val (.ref b354), .unset, .unset, .unset, .unset, .unset, .unset, .unset, .unset, .unset] [(.ref b371)]))
      refine Go.st (fun _ => XS.dup X371.here hx rfl (hb hby at_214) rfl rfl) ?_
      refine Go.st (fun _ => XS.iconst X371.here hx rfl (hb hby at_215)) ?_
      refine Go.st (fun _ => XS.lloadN X371.here hx rfl (hb hby at_216) rfl) ?_
      show Go p e below _ (T371.setTop (mkF m 217 #[.val (.int p0), .val (.int p1), .val (.int p2), .val (.long q3), .second, .val (.long q4), .second, .val (.int b0v), .val (.int b1v), .val (.int b2v), .val (.int (1 : Int32)), .val (.int (2 : Int32)), .val (.int (2 : Int32)), .val (.int po), .val (.int b2v), .val (.int (0 : Int32)), .val (.int (1 : Int32)), .val (.long (((1 : Int64) <<< (b2v &&& 0x3f).toInt64) - (1 : Int64))), .second, .val (.ref b342), .val (.ref b354), .unset, .unset, .unset, .unset, .unset, .unset, .unset, .unset, .unset] [(.long q3), (.int (0 : Int32)), (.ref b371), (.ref b371)]))
      obtain ⟨cl386, Ar386, qk386, Sz386, Nn386, Ha386, Ga386⟩ := id V_385
      have hin386 : ¬ ((0 : Int32) < 0 ∨ cl386.slots.size ≤ ((0 : Int32) : Int32).toNatClampNeg) := inb_of Sz386 ⟨by decide, by decide⟩
      obtain ⟨T386, h386, X386, e386, W386, st386⟩ := stJ X371 hx hZ e371 Ar386 (j := (0 : Int32)) hin386 (g := (mkF m 217 #[.val (.int p0), .val (.int p1), .val (.int p2), .val (.long q3), .second, .val (.long q4), .second, .val (.int b0v), .val (.int b1v), .val (.int b2v), .val (.int (1 : Int32)), .val (.int (2 : Int32)), .val (.int (2 : Int32)), .val (.int po), .val (.int b2v), .val (.int (0 : Int32)), .val (.int (1 : Int32)), .val (.long (((1 : Int64) <<< (b2v &&& 0x3f).toInt64) - (1 : Int64))), .second, .val (.ref b342), .val (.ref b354), .unset, .unset, .unset, .unset, .unset, .unset, .unset, .unset, .unset] [(.long q3), (.int (0 : Int32)), (.ref b371), (.ref b371)])) rfl rfl (hb hby at_217)
      refine Go.st st386 ?_
      have O387 : Old Z n0 h386 := O376.wr W386 gn371
      have E_388 : Exa Z h386 b354 "com/example/gieres/gieres/model/TupleTable" := E_377.wr W386
      have F389 : Fld Z h386 b354 "com/example/gieres/gieres/model/TupleTable" "word" "[I" (.ref aw) := F378.other W386 (Or.inl ne372)
      have V_390 : Arv Z h386 aw kw .int (3 : Int32) [(.int (0 : Int32)), (.int (0 : Int32)), (.int (1 : Int32))] (.int (0 : Int32)) := V_379.other W386 ne373
      have F391 : Fld Z h386 b354 "com/example/gieres/gieres/model/TupleTable" "shift" "[I" (.ref as) := F380.other W386 (Or.inl ne372)
      have V_392 : Arv Z h386 as ks .int (3 : Int32) [(.int (0 : Int32)), (.int b0v), (.int (0 : Int32))] (.int (0 : Int32)) := V_381.other W386 ne374
      have F393 : Fld Z h386 b354 "com/example/gieres/gieres/model/TupleTable" "mask" "[J" (.ref am) := F382.other W386 (Or.inl ne372)
      have V_394 : Arv Z h386 am km .long (3 : Int32) [(.long (own_mask b0v)), (.long (own_mask b1v)), (.long (own_mask b2v))] (.long (0 : Int64)) := V_383.other W386 ne375
      have F395 : Fld Z h386 b354 "com/example/gieres/gieres/model/TupleTable" "width" "I" (.int (2 : Int32)) := F384.other W386 (Or.inl ne372)
      have V_396 : Arv Z h386 b371 k371 .long (4 : Int32) [(.long q3), (.long (0 : Int64)), (.long (0 : Int64)), (.long (0 : Int64))] (.long (0 : Int64)) := Arv.set Ar386 qk386 Sz386 Nn386 Ha386 Ga386 rfl W386 0 rfl (Nat.le_of_ble_eq_true rfl)
      have N386 := Fr.snoc X386 N367 gn371
      show Go p e below _ (T386.setTop (mkF m 218 #[.val (.int p0), .val (.int p1), .val (.int p2), .val (.long q3), .second, .val (.long q4), .second, .val (.int b0v), .val (.int b1v), .val (.int b2v), .val (.int (1 : Int32)), .val (.int (2 : Int32)), .val (.int (2 : Int32)), .val (.int po), .val (.int b2v), .val (.int (0 : Int32)), .val (.int (1 : Int32)), .val (.long (((1 : Int64) <<< (b2v &&& 0x3f).toInt64) - (1 : Int64))), .second, .val (.ref b342), .val (.ref b354), .unset, .unset, .unset, .unset, .unset, .unset, .unset, .unset, .unset] [(.ref b371)]))
      refine Go.st (fun _ => XS.dup X386.here hx rfl (hb hby at_218) rfl rfl) ?_
      refine Go.st (fun _ => XS.iconst X386.here hx rfl (hb hby at_219)) ?_
      refine Go.st (fun _ => XS.lload X386.here hx rfl (hb hby at_220) rfl) ?_
      show Go p e below _ (T386.setTop (mkF m 222 #[.val (.int p0), .val (.int p1), .val (.int p2), .val (.long q3), .second, .val (.long q4), .second, .val (.int b0v), .val (.int b1v), .val (.int b2v), .val (.int (1 : Int32)), .val (.int (2 : Int32)), .val (.int (2 : Int32)), .val (.int po), .val (.int b2v), .val (.int (0 : Int32)), .val (.int (1 : Int32)), .val (.long (((1 : Int64) <<< (b2v &&& 0x3f).toInt64) - (1 : Int64))), .second, .val (.ref b342), .val (.ref b354), .unset, .unset, .unset, .unset, .unset, .unset, .unset, .unset, .unset] [(.long q4), (.int (1 : Int32)), (.ref b371), (.ref b371)]))
      obtain ⟨cl397, Ar397, qk397, Sz397, Nn397, Ha397, Ga397⟩ := id V_396
      have hin397 : ¬ ((1 : Int32) < 0 ∨ cl397.slots.size ≤ ((1 : Int32) : Int32).toNatClampNeg) := inb_of Sz397 ⟨by decide, by decide⟩
      obtain ⟨T397, h397, X397, e397, W397, st397⟩ := stJ X386 hx hZ e386 Ar397 (j := (1 : Int32)) hin397 (g := (mkF m 222 #[.val (.int p0), .val (.int p1), .val (.int p2), .val (.long q3), .second, .val (.long q4), .second, .val (.int b0v), .val (.int b1v), .val (.int b2v), .val (.int (1 : Int32)), .val (.int (2 : Int32)), .val (.int (2 : Int32)), .val (.int po), .val (.int b2v), .val (.int (0 : Int32)), .val (.int (1 : Int32)), .val (.long (((1 : Int64) <<< (b2v &&& 0x3f).toInt64) - (1 : Int64))), .second, .val (.ref b342), .val (.ref b354), .unset, .unset, .unset, .unset, .unset, .unset, .unset, .unset, .unset] [(.long q4), (.int (1 : Int32)), (.ref b371), (.ref b371)])) rfl rfl (hb hby at_222)
      refine Go.st st397 ?_
      have O398 : Old Z n0 h397 := O387.wr W397 gn371
      have E_399 : Exa Z h397 b354 "com/example/gieres/gieres/model/TupleTable" := E_388.wr W397
      have F400 : Fld Z h397 b354 "com/example/gieres/gieres/model/TupleTable" "word" "[I" (.ref aw) := F389.other W397 (Or.inl ne372)
      have V_401 : Arv Z h397 aw kw .int (3 : Int32) [(.int (0 : Int32)), (.int (0 : Int32)), (.int (1 : Int32))] (.int (0 : Int32)) := V_390.other W397 ne373
      have F402 : Fld Z h397 b354 "com/example/gieres/gieres/model/TupleTable" "shift" "[I" (.ref as) := F391.other W397 (Or.inl ne372)
      have V_403 : Arv Z h397 as ks .int (3 : Int32) [(.int (0 : Int32)), (.int b0v), (.int (0 : Int32))] (.int (0 : Int32)) := V_392.other W397 ne374
      have F404 : Fld Z h397 b354 "com/example/gieres/gieres/model/TupleTable" "mask" "[J" (.ref am) := F393.other W397 (Or.inl ne372)
      have V_405 : Arv Z h397 am km .long (3 : Int32) [(.long (own_mask b0v)), (.long (own_mask b1v)), (.long (own_mask b2v))] (.long (0 : Int64)) := V_394.other W397 ne375
      have F406 : Fld Z h397 b354 "com/example/gieres/gieres/model/TupleTable" "width" "I" (.int (2 : Int32)) := F395.other W397 (Or.inl ne372)
      have V_407 : Arv Z h397 b371 k371 .long (4 : Int32) [(.long q3), (.long q4), (.long (0 : Int64)), (.long (0 : Int64))] (.long (0 : Int64)) := Arv.set Ar397 qk397 Sz397 Nn397 Ha397 Ga397 rfl W397 1 rfl (Nat.le_of_ble_eq_true rfl)
      have N397 := Fr.snoc X397 N386 gn371
      show Go p e below _ (T397.setTop (mkF m 223 #[.val (.int p0), .val (.int p1), .val (.int p2), .val (.long q3), .second, .val (.long q4), .second, .val (.int b0v), .val (.int b1v), .val (.int b2v), .val (.int (1 : Int32)), .val (.int (2 : Int32)), .val (.int (2 : Int32)), .val (.int po), .val (.int b2v), .val (.int (0 : Int32)), .val (.int (1 : Int32)), .val (.long (((1 : Int64) <<< (b2v &&& 0x3f).toInt64) - (1 : Int64))), .second, .val (.ref b342), .val (.ref b354), .unset, .unset, .unset, .unset, .unset, .unset, .unset, .unset, .unset] [(.ref b371)]))
      refine Go.st (fun _ => XS.dup X397.here hx rfl (hb hby at_223) rfl rfl) ?_
      refine Go.st (fun _ => XS.iconst X397.here hx rfl (hb hby at_224)) ?_
      refine Go.st (fun _ => XS.lload X397.here hx rfl (hb hby at_225) rfl) ?_
      show Go p e below _ (T397.setTop (mkF m 227 #[.val (.int p0), .val (.int p1), .val (.int p2), .val (.long q3), .second, .val (.long q4), .second, .val (.int b0v), .val (.int b1v), .val (.int b2v), .val (.int (1 : Int32)), .val (.int (2 : Int32)), .val (.int (2 : Int32)), .val (.int po), .val (.int b2v), .val (.int (0 : Int32)), .val (.int (1 : Int32)), .val (.long (((1 : Int64) <<< (b2v &&& 0x3f).toInt64) - (1 : Int64))), .second, .val (.ref b342), .val (.ref b354), .unset, .unset, .unset, .unset, .unset, .unset, .unset, .unset, .unset] [(.long q4), (.int (2 : Int32)), (.ref b371), (.ref b371)]))
      refine Go.st (fun _ => X397.ldc2Long hx hown (mvT hZ (hw _ (List.mem_of_getElem? (i := 54) rfl))) (g := (mkF m 227 #[.val (.int p0), .val (.int p1), .val (.int p2), .val (.long q3), .second, .val (.long q4), .second, .val (.int b0v), .val (.int b1v), .val (.int b2v), .val (.int (1 : Int32)), .val (.int (2 : Int32)), .val (.int (2 : Int32)), .val (.int po), .val (.int b2v), .val (.int (0 : Int32)), .val (.int (1 : Int32)), .val (.long (((1 : Int64) <<< (b2v &&& 0x3f).toInt64) - (1 : Int64))), .second, .val (.ref b342), .val (.ref b354), .unset, .unset, .unset, .unset, .unset, .unset, .unset, .unset, .unset] [(.long q4), (.int (2 : Int32)), (.ref b371), (.ref b371)])) rfl (hb hby at_227) _) ?_
      show Go p e below _ (T397.setTop (mkF m 230 #[.val (.int p0), .val (.int p1), .val (.int p2), .val (.long q3), .second, .val (.long q4), .second, .val (.int b0v), .val (.int b1v), .val (.int b2v), .val (.int (1 : Int32)), .val (.int (2 : Int32)), .val (.int (2 : Int32)), .val (.int po), .val (.int b2v), .val (.int (0 : Int32)), .val (.int (1 : Int32)), .val (.long (((1 : Int64) <<< (b2v &&& 0x3f).toInt64) - (1 : Int64))), .second, .val (.ref b342), .val (.ref b354), .unset, .unset, .unset, .unset, .unset, .unset, .unset, .unset, .unset] [(.long (-1 : Int64)), (.long q4), (.int (2 : Int32)), (.ref b371), (.ref b371)]))
      refine Go.st (fun _ => XS.lxor X397.here hx rfl (hb hby at_230) rfl) ?_
      show Go p e below _ (T397.setTop (mkF m 231 #[.val (.int p0), .val (.int p1), .val (.int p2), .val (.long q3), .second, .val (.long q4), .second, .val (.int b0v), .val (.int b1v), .val (.int b2v), .val (.int (1 : Int32)), .val (.int (2 : Int32)), .val (.int (2 : Int32)), .val (.int po), .val (.int b2v), .val (.int (0 : Int32)), .val (.int (1 : Int32)), .val (.long (((1 : Int64) <<< (b2v &&& 0x3f).toInt64) - (1 : Int64))), .second, .val (.ref b342), .val (.ref b354), .unset, .unset, .unset, .unset, .unset, .unset, .unset, .unset, .unset] [(.long (q4 ^^^ (-1 : Int64))), (.int (2 : Int32)), (.ref b371), (.ref b371)]))
      obtain ⟨cl408, Ar408, qk408, Sz408, Nn408, Ha408, Ga408⟩ := id V_407
      have hin408 : ¬ ((2 : Int32) < 0 ∨ cl408.slots.size ≤ ((2 : Int32) : Int32).toNatClampNeg) := inb_of Sz408 ⟨by decide, by decide⟩
      obtain ⟨T408, h408, X408, e408, W408, st408⟩ := stJ X397 hx hZ e397 Ar408 (j := (2 : Int32)) hin408 (g := (mkF m 231 #[.val (.int p0), .val (.int p1), .val (.int p2), .val (.long q3), .second, .val (.long q4), .second, .val (.int b0v), .val (.int b1v), .val (.int b2v), .val (.int (1 : Int32)), .val (.int (2 : Int32)), .val (.int (2 : Int32)), .val (.int po), .val (.int b2v), .val (.int (0 : Int32)), .val (.int (1 : Int32)), .val (.long (((1 : Int64) <<< (b2v &&& 0x3f).toInt64) - (1 : Int64))), .second, .val (.ref b342), .val (.ref b354), .unset, .unset, .unset, .unset, .unset, .unset, .unset, .unset, .unset] [(.long (q4 ^^^ (-1 : Int64))), (.int (2 : Int32)), (.ref b371), (.ref b371)])) rfl rfl (hb hby at_231)
      refine Go.st st408 ?_
      have O409 : Old Z n0 h408 := O398.wr W408 gn371
      have E_410 : Exa Z h408 b354 "com/example/gieres/gieres/model/TupleTable" := E_399.wr W408
      have F411 : Fld Z h408 b354 "com/example/gieres/gieres/model/TupleTable" "word" "[I" (.ref aw) := F400.other W408 (Or.inl ne372)
      have V_412 : Arv Z h408 aw kw .int (3 : Int32) [(.int (0 : Int32)), (.int (0 : Int32)), (.int (1 : Int32))] (.int (0 : Int32)) := V_401.other W408 ne373
      have F413 : Fld Z h408 b354 "com/example/gieres/gieres/model/TupleTable" "shift" "[I" (.ref as) := F402.other W408 (Or.inl ne372)
      have V_414 : Arv Z h408 as ks .int (3 : Int32) [(.int (0 : Int32)), (.int b0v), (.int (0 : Int32))] (.int (0 : Int32)) := V_403.other W408 ne374
      have F415 : Fld Z h408 b354 "com/example/gieres/gieres/model/TupleTable" "mask" "[J" (.ref am) := F404.other W408 (Or.inl ne372)
      have V_416 : Arv Z h408 am km .long (3 : Int32) [(.long (own_mask b0v)), (.long (own_mask b1v)), (.long (own_mask b2v))] (.long (0 : Int64)) := V_405.other W408 ne375
      have F417 : Fld Z h408 b354 "com/example/gieres/gieres/model/TupleTable" "width" "I" (.int (2 : Int32)) := F406.other W408 (Or.inl ne372)
      have V_418 : Arv Z h408 b371 k371 .long (4 : Int32) [(.long q3), (.long q4), (.long (q4 ^^^ (-1 : Int64))), (.long (0 : Int64))] (.long (0 : Int64)) := Arv.set Ar408 qk408 Sz408 Nn408 Ha408 Ga408 rfl W408 2 rfl (Nat.le_of_ble_eq_true rfl)
      have N408 := Fr.snoc X408 N397 gn371
      show Go p e below _ (T408.setTop (mkF m 232 #[.val (.int p0), .val (.int p1), .val (.int p2), .val (.long q3), .second, .val (.long q4), .second, .val (.int b0v), .val (.int b1v), .val (.int b2v), .val (.int (1 : Int32)), .val (.int (2 : Int32)), .val (.int (2 : Int32)), .val (.int po), .val (.int b2v), .val (.int (0 : Int32)), .val (.int (1 : Int32)), .val (.long (((1 : Int64) <<< (b2v &&& 0x3f).toInt64) - (1 : Int64))), .second, .val (.ref b342), .val (.ref b354), .unset, .unset, .unset, .unset, .unset, .unset, .unset, .unset, .unset] [(.ref b371)]))
      refine Go.st (fun _ => XS.dup X408.here hx rfl (hb hby at_232) rfl rfl) ?_
      refine Go.st (fun _ => XS.iconst X408.here hx rfl (hb hby at_233)) ?_
      refine Go.st (fun _ => XS.lloadN X408.here hx rfl (hb hby at_234) rfl) ?_
      show Go p e below _ (T408.setTop (mkF m 235 #[.val (.int p0), .val (.int p1), .val (.int p2), .val (.long q3), .second, .val (.long q4), .second, .val (.int b0v), .val (.int b1v), .val (.int b2v), .val (.int (1 : Int32)), .val (.int (2 : Int32)), .val (.int (2 : Int32)), .val (.int po), .val (.int b2v), .val (.int (0 : Int32)), .val (.int (1 : Int32)), .val (.long (((1 : Int64) <<< (b2v &&& 0x3f).toInt64) - (1 : Int64))), .second, .val (.ref b342), .val (.ref b354), .unset, .unset, .unset, .unset, .unset, .unset, .unset, .unset, .unset] [(.long q3), (.int (3 : Int32)), (.ref b371), (.ref b371)]))
      refine Go.st (fun _ => X408.ldc2Long hx hown (mvT hZ (hw _ (List.mem_of_getElem? (i := 54) rfl))) (g := (mkF m 235 #[.val (.int p0), .val (.int p1), .val (.int p2), .val (.long q3), .second, .val (.long q4), .second, .val (.int b0v), .val (.int b1v), .val (.int b2v), .val (.int (1 : Int32)), .val (.int (2 : Int32)), .val (.int (2 : Int32)), .val (.int po), .val (.int b2v), .val (.int (0 : Int32)), .val (.int (1 : Int32)), .val (.long (((1 : Int64) <<< (b2v &&& 0x3f).toInt64) - (1 : Int64))), .second, .val (.ref b342), .val (.ref b354), .unset, .unset, .unset, .unset, .unset, .unset, .unset, .unset, .unset] [(.long q3), (.int (3 : Int32)), (.ref b371), (.ref b371)])) rfl (hb hby at_235) _) ?_
      show Go p e below _ (T408.setTop (mkF m 238 #[.val (.int p0), .val (.int p1), .val (.int p2), .val (.long q3), .second, .val (.long q4), .second, .val (.int b0v), .val (.int b1v), .val (.int b2v), .val (.int (1 : Int32)), .val (.int (2 : Int32)), .val (.int (2 : Int32)), .val (.int po), .val (.int b2v), .val (.int (0 : Int32)), .val (.int (1 : Int32)), .val (.long (((1 : Int64) <<< (b2v &&& 0x3f).toInt64) - (1 : Int64))), .second, .val (.ref b342), .val (.ref b354), .unset, .unset, .unset, .unset, .unset, .unset, .unset, .unset, .unset] [(.long (-1 : Int64)), (.long q3), (.int (3 : Int32)), (.ref b371), (.ref b371)]))
      refine Go.st (fun _ => XS.lxor X408.here hx rfl (hb hby at_238) rfl) ?_
      show Go p e below _ (T408.setTop (mkF m 239 #[.val (.int p0), .val (.int p1), .val (.int p2), .val (.long q3), .second, .val (.long q4), .second, .val (.int b0v), .val (.int b1v), .val (.int b2v), .val (.int (1 : Int32)), .val (.int (2 : Int32)), .val (.int (2 : Int32)), .val (.int po), .val (.int b2v), .val (.int (0 : Int32)), .val (.int (1 : Int32)), .val (.long (((1 : Int64) <<< (b2v &&& 0x3f).toInt64) - (1 : Int64))), .second, .val (.ref b342), .val (.ref b354), .unset, .unset, .unset, .unset, .unset, .unset, .unset, .unset, .unset] [(.long (q3 ^^^ (-1 : Int64))), (.int (3 : Int32)), (.ref b371), (.ref b371)]))
      obtain ⟨cl419, Ar419, qk419, Sz419, Nn419, Ha419, Ga419⟩ := id V_418
      have hin419 : ¬ ((3 : Int32) < 0 ∨ cl419.slots.size ≤ ((3 : Int32) : Int32).toNatClampNeg) := inb_of Sz419 ⟨by decide, by decide⟩
      obtain ⟨T419, h419, X419, e419, W419, st419⟩ := stJ X408 hx hZ e408 Ar419 (j := (3 : Int32)) hin419 (g := (mkF m 239 #[.val (.int p0), .val (.int p1), .val (.int p2), .val (.long q3), .second, .val (.long q4), .second, .val (.int b0v), .val (.int b1v), .val (.int b2v), .val (.int (1 : Int32)), .val (.int (2 : Int32)), .val (.int (2 : Int32)), .val (.int po), .val (.int b2v), .val (.int (0 : Int32)), .val (.int (1 : Int32)), .val (.long (((1 : Int64) <<< (b2v &&& 0x3f).toInt64) - (1 : Int64))), .second, .val (.ref b342), .val (.ref b354), .unset, .unset, .unset, .unset, .unset, .unset, .unset, .unset, .unset] [(.long (q3 ^^^ (-1 : Int64))), (.int (3 : Int32)), (.ref b371), (.ref b371)])) rfl rfl (hb hby at_239)
      refine Go.st st419 ?_
      have O420 : Old Z n0 h419 := O409.wr W419 gn371
      have E_421 : Exa Z h419 b354 "com/example/gieres/gieres/model/TupleTable" := E_410.wr W419
      have F422 : Fld Z h419 b354 "com/example/gieres/gieres/model/TupleTable" "word" "[I" (.ref aw) := F411.other W419 (Or.inl ne372)
      have V_423 : Arv Z h419 aw kw .int (3 : Int32) [(.int (0 : Int32)), (.int (0 : Int32)), (.int (1 : Int32))] (.int (0 : Int32)) := V_412.other W419 ne373
      have F424 : Fld Z h419 b354 "com/example/gieres/gieres/model/TupleTable" "shift" "[I" (.ref as) := F413.other W419 (Or.inl ne372)
      have V_425 : Arv Z h419 as ks .int (3 : Int32) [(.int (0 : Int32)), (.int b0v), (.int (0 : Int32))] (.int (0 : Int32)) := V_414.other W419 ne374
      have F426 : Fld Z h419 b354 "com/example/gieres/gieres/model/TupleTable" "mask" "[J" (.ref am) := F415.other W419 (Or.inl ne372)
      have V_427 : Arv Z h419 am km .long (3 : Int32) [(.long (own_mask b0v)), (.long (own_mask b1v)), (.long (own_mask b2v))] (.long (0 : Int64)) := V_416.other W419 ne375
      have F428 : Fld Z h419 b354 "com/example/gieres/gieres/model/TupleTable" "width" "I" (.int (2 : Int32)) := F417.other W419 (Or.inl ne372)
      have V_429 : Arv Z h419 b371 k371 .long (4 : Int32) [(.long q3), (.long q4), (.long (q4 ^^^ (-1 : Int64))), (.long (q3 ^^^ (-1 : Int64)))] (.long (0 : Int64)) := Arv.set Ar419 qk419 Sz419 Nn419 Ha419 Ga419 rfl W419 3 rfl (Nat.le_of_ble_eq_true rfl)
      have N419 := Fr.snoc X419 N408 gn371
      show Go p e below _ (T419.setTop (mkF m 240 #[.val (.int p0), .val (.int p1), .val (.int p2), .val (.long q3), .second, .val (.long q4), .second, .val (.int b0v), .val (.int b1v), .val (.int b2v), .val (.int (1 : Int32)), .val (.int (2 : Int32)), .val (.int (2 : Int32)), .val (.int po), .val (.int b2v), .val (.int (0 : Int32)), .val (.int (1 : Int32)), .val (.long (((1 : Int64) <<< (b2v &&& 0x3f).toInt64) - (1 : Int64))), .second, .val (.ref b342), .val (.ref b354), .unset, .unset, .unset, .unset, .unset, .unset, .unset, .unset, .unset] [(.ref b371)]))
      refine Go.st (fun _ => XS.goto X419.here hx rfl (pc0 := 240) (pc' := 255) rfl (hb hby at_240) (by decide) (by decide)) ?_
      refine Go.st (fun _ => XS.astore X419.here hx rfl (hb hby at_255) rfl rfl (l' := #[.val (.int p0), .val (.int p1), .val (.int p2), .val (.long q3), .second, .val (.long q4), .second, .val (.int b0v), .val (.int b1v), .val (.int b2v), .val (.int (1 : Int32)), .val (.int (2 : Int32)), .val (.int (2 : Int32)), .val (.int po), .val (.int b2v), .val (.int (0 : Int32)), .val (.int (1 : Int32)), .val (.long (((1 : Int64) <<< (b2v &&& 0x3f).toInt64) - (1 : Int64))), .second, .val (.ref b342), .val (.ref b354), .val (.ref b371), .unset, .unset, .unset, .unset, .unset, .unset, .unset, .unset]) rfl) ?_
      refine Go.st (fun _ => XS.iload X419.here hx rfl (hb hby at_257) rfl) ?_
      refine Go.st (fun _ => XS.ifNo X419.here hx rfl (hb hby at_259) rfl ((if0 _ _).trans (feq (by decide : ¬ ((1 : Int32) = (0 : Int32)))).1)) ?_
      refine Go.st (fun _ => XS.iconst X419.here hx rfl (hb hby at_262)) ?_
      show Go p e below _ (T419.setTop (mkF m 263 #[.val (.int p0), .val (.int p1), .val (.int p2), .val (.long q3), .second, .val (.long q4), .second, .val (.int b0v), .val (.int b1v), .val (.int b2v), .val (.int (1 : Int32)), .val (.int (2 : Int32)), .val (.int (2 : Int32)), .val (.int po), .val (.int b2v), .val (.int (0 : Int32)), .val (.int (1 : Int32)), .val (.long (((1 : Int64) <<< (b2v &&& 0x3f).toInt64) - (1 : Int64))), .second, .val (.ref b342), .val (.ref b354), .val (.ref b371), .unset, .unset, .unset, .unset, .unset, .unset, .unset, .unset] [(.int (4 : Int32))]))
      obtain ⟨T430, h430, k430, X430, e430, E430, A430, st430⟩ := newP X419 hx hZ (hw _ (List.mem_of_getElem? (i := 0) rfl)) e419 (g := (mkF m 263 #[.val (.int p0), .val (.int p1), .val (.int p2), .val (.long q3), .second, .val (.long q4), .second, .val (.int b0v), .val (.int b1v), .val (.int b2v), .val (.int (1 : Int32)), .val (.int (2 : Int32)), .val (.int (2 : Int32)), .val (.int po), .val (.int b2v), .val (.int (0 : Int32)), .val (.int (1 : Int32)), .val (.long (((1 : Int64) <<< (b2v &&& 0x3f).toInt64) - (1 : Int64))), .second, .val (.ref b342), .val (.ref b354), .val (.ref b371), .unset, .unset, .unset, .unset, .unset, .unset, .unset, .unset] [(.int (4 : Int32))])) rfl (hb hby at_263) rfl (by decide) (cap := 4) (by decide) (by decide) (by decide) (by decide)
      obtain ⟨b430, g430⟩ : ∃ z, z = h419.size := ⟨_, rfl⟩
      rw [← g430] at A430 st430
      refine Go.st st430 ?_
      have gn430 : n0 ≤ b430 := oldGe O420 g430
      have ne431 : b354 ≠ b430 := Nat.ne_of_lt (Nat.lt_of_lt_of_le E_421.lt (Nat.le_of_eq g430.symm))
      have ne432 : aw ≠ b430 := Nat.ne_of_lt (Nat.lt_of_lt_of_le V_423.lt (Nat.le_of_eq g430.symm))
      have ne433 : as ≠ b430 := Nat.ne_of_lt (Nat.lt_of_lt_of_le V_425.lt (Nat.le_of_eq g430.symm))
      have ne434 : am ≠ b430 := Nat.ne_of_lt (Nat.lt_of_lt_of_le V_427.lt (Nat.le_of_eq g430.symm))
      have ne435 : b371 ≠ b430 := Nat.ne_of_lt (Nat.lt_of_lt_of_le V_429.lt (Nat.le_of_eq g430.symm))
      have O436 : Old Z n0 h430 := O420.ext E430
      have E_437 : Exa Z h430 b354 "com/example/gieres/gieres/model/TupleTable" := E_421.ext E430
      have F438 : Fld Z h430 b354 "com/example/gieres/gieres/model/TupleTable" "word" "[I" (.ref aw) := F422.ext E430
      have V_439 : Arv Z h430 aw kw .int (3 : Int32) [(.int (0 : Int32)), (.int (0 : Int32)), (.int (1 : Int32))] (.int (0 : Int32)) := V_423.ext E430
      have F440 : Fld Z h430 b354 "com/example/gieres/gieres/model/TupleTable" "shift" "[I" (.ref as) := F424.ext E430
      have V_441 : Arv Z h430 as ks .int (3 : Int32) [(.int (0 : Int32)), (.int b0v), (.int (0 : Int32))] (.int (0 : Int32)) := V_425.ext E430
      have F442 : Fld Z h430 b354 "com/example/gieres/gieres/model/TupleTable" "mask" "[J" (.ref am) := F426.ext E430
      have V_443 : Arv Z h430 am km .long (3 : Int32) [(.long (own_mask b0v)), (.long (own_mask b1v)), (.long (own_mask b2v))] (.long (0 : Int64)) := V_427.ext E430
      have F444 : Fld Z h430 b354 "com/example/gieres/gieres/model/TupleTable" "width" "I" (.int (2 : Int32)) := F428.ext E430
      have V_445 : Arv Z h430 b371 k371 .long (4 : Int32) [(.long q3), (.long q4), (.long (q4 ^^^ (-1 : Int64))), (.long (q3 ^^^ (-1 : Int64)))] (.long (0 : Int64)) := V_429.ext E430
      have V_446 : Arv Z h430 b430 k430 .long (4 : Int32) [(.long (0 : Int64)), (.long (0 : Int64)), (.long (0 : Int64)), (.long (0 : Int64))] (.long (0 : Int64)) := (Arv.new A430 (by decide)).pad (pad_rep [] (.long (0 : Int64)) 4)
      show Go p e below _ (T430.setTop (mkF m 265 #[.val (.int p0), .val (.int p1), .val (.int p2), .val (.long q3), .second, .val (.long q4), .second, .val (.int b0v), .val (.int b1v), .val (.int b2v), .val (.int (1 : Int32)), .val (.int (2 : Int32)), .val (.int (2 : Int32)), .val (.int po), .val (.int b2v), .val (.int (0 : Int32)), .val (.int (1 : Int32)), .val (.long (((1 : Int64) <<< (b2v &&& 0x3f).toInt64) - (1 : Int64))), .second, .val (.ref b342), .val (.ref b354), .val (.ref b371), .unset, .unset, .unset, .unset, .unset, .unset, .unset, .unset] [(.ref b430)]))
      refine Go.st (fun _ => XS.dup X430.here hx rfl (hb hby at_265) rfl rfl) ?_
      refine Go.st (fun _ => XS.iconst X430.here hx rfl (hb hby at_266)) ?_
      refine Go.st (fun _ => XS.lloadN X430.here hx rfl (hb hby at_267) rfl) ?_
      show Go p e below _ (T430.setTop (mkF m 268 #[.val (.int p0), .val (.int p1), .val (.int p2), .val (.long q3), .second, .val (.long q4), .second, .val (.int b0v), .val (.int b1v), .val (.int b2v), .val (.int (1 : Int32)), .val (.int (2 : Int32)), .val (.int (2 : Int32)), .val (.int po), .val (.int b2v), .val (.int (0 : Int32)), .val (.int (1 : Int32)), .val (.long (((1 : Int64) <<< (b2v &&& 0x3f).toInt64) - (1 : Int64))), .second, .val (.ref b342), .val (.ref b354), .val (.ref b371), .unset, .unset, .unset, .unset, .unset, .unset, .unset, .unset] [(.long q3), (.int (0 : Int32)), (.ref b430), (.ref b430)]))
      obtain ⟨cl447, Ar447, qk447, Sz447, Nn447, Ha447, Ga447⟩ := id V_446
      have hin447 : ¬ ((0 : Int32) < 0 ∨ cl447.slots.size ≤ ((0 : Int32) : Int32).toNatClampNeg) := inb_of Sz447 ⟨by decide, by decide⟩
      obtain ⟨T447, h447, X447, e447, W447, st447⟩ := stJ X430 hx hZ e430 Ar447 (j := (0 : Int32)) hin447 (g := (mkF m 268 #[.val (.int p0), .val (.int p1), .val (.int p2), .val (.long q3), .second, .val (.long q4), .second, .val (.int b0v), .val (.int b1v), .val (.int b2v), .val (.int (1 : Int32)), .val (.int (2 : Int32)), .val (.int (2 : Int32)), .val (.int po), .val (.int b2v), .val (.int (0 : Int32)), .val (.int (1 : Int32)), .val (.long (((1 : Int64) <<< (b2v &&& 0x3f).toInt64) - (1 : Int64))), .second, .val (.ref b342), .val (.ref b354), .val (.ref b371), .unset, .unset, .unset, .unset, .unset, .unset, .unset, .unset] [(.long q3), (.int (0 : Int32)), (.ref b430), (.ref b430)])) rfl rfl (hb hby at_268)
      refine Go.st st447 ?_
      have O448 : Old Z n0 h447 := O436.wr W447 gn430
      have E_449 : Exa Z h447 b354 "com/example/gieres/gieres/model/TupleTable" := E_437.wr W447
      have F450 : Fld Z h447 b354 "com/example/gieres/gieres/model/TupleTable" "word" "[I" (.ref aw) := F438.other W447 (Or.inl ne431)
      have V_451 : Arv Z h447 aw kw .int (3 : Int32) [(.int (0 : Int32)), (.int (0 : Int32)), (.int (1 : Int32))] (.int (0 : Int32)) := V_439.other W447 ne432
      have F452 : Fld Z h447 b354 "com/example/gieres/gieres/model/TupleTable" "shift" "[I" (.ref as) := F440.other W447 (Or.inl ne431)
      have V_453 : Arv Z h447 as ks .int (3 : Int32) [(.int (0 : Int32)), (.int b0v), (.int (0 : Int32))] (.int (0 : Int32)) := V_441.other W447 ne433
      have F454 : Fld Z h447 b354 "com/example/gieres/gieres/model/TupleTable" "mask" "[J" (.ref am) := F442.other W447 (Or.inl ne431)
      have V_455 : Arv Z h447 am km .long (3 : Int32) [(.long (own_mask b0v)), (.long (own_mask b1v)), (.long (own_mask b2v))] (.long (0 : Int64)) := V_443.other W447 ne434
      have F456 : Fld Z h447 b354 "com/example/gieres/gieres/model/TupleTable" "width" "I" (.int (2 : Int32)) := F444.other W447 (Or.inl ne431)
      have V_457 : Arv Z h447 b371 k371 .long (4 : Int32) [(.long q3), (.long q4), (.long (q4 ^^^ (-1 : Int64))), (.long (q3 ^^^ (-1 : Int64)))] (.long (0 : Int64)) := V_445.other W447 ne435
      have V_458 : Arv Z h447 b430 k430 .long (4 : Int32) [(.long q3), (.long (0 : Int64)), (.long (0 : Int64)), (.long (0 : Int64))] (.long (0 : Int64)) := Arv.set Ar447 qk447 Sz447 Nn447 Ha447 Ga447 rfl W447 0 rfl (Nat.le_of_ble_eq_true rfl)
      have N447 := Fr.snoc X447 N419 gn430
      show Go p e below _ (T447.setTop (mkF m 269 #[.val (.int p0), .val (.int p1), .val (.int p2), .val (.long q3), .second, .val (.long q4), .second, .val (.int b0v), .val (.int b1v), .val (.int b2v), .val (.int (1 : Int32)), .val (.int (2 : Int32)), .val (.int (2 : Int32)), .val (.int po), .val (.int b2v), .val (.int (0 : Int32)), .val (.int (1 : Int32)), .val (.long (((1 : Int64) <<< (b2v &&& 0x3f).toInt64) - (1 : Int64))), .second, .val (.ref b342), .val (.ref b354), .val (.ref b371), .unset, .unset, .unset, .unset, .unset, .unset, .unset, .unset] [(.ref b430)]))
      refine Go.st (fun _ => XS.dup X447.here hx rfl (hb hby at_269) rfl rfl) ?_
      refine Go.st (fun _ => XS.iconst X447.here hx rfl (hb hby at_270)) ?_
      refine Go.st (fun _ => XS.lload X447.here hx rfl (hb hby at_271) rfl) ?_
      show Go p e below _ (T447.setTop (mkF m 273 #[.val (.int p0), .val (.int p1), .val (.int p2), .val (.long q3), .second, .val (.long q4), .second, .val (.int b0v), .val (.int b1v), .val (.int b2v), .val (.int (1 : Int32)), .val (.int (2 : Int32)), .val (.int (2 : Int32)), .val (.int po), .val (.int b2v), .val (.int (0 : Int32)), .val (.int (1 : Int32)), .val (.long (((1 : Int64) <<< (b2v &&& 0x3f).toInt64) - (1 : Int64))), .second, .val (.ref b342), .val (.ref b354), .val (.ref b371), .unset, .unset, .unset, .unset, .unset, .unset, .unset, .unset] [(.long q4), (.int (1 : Int32)), (.ref b430), (.ref b430)]))
      obtain ⟨cl459, Ar459, qk459, Sz459, Nn459, Ha459, Ga459⟩ := id V_458
      have hin459 : ¬ ((1 : Int32) < 0 ∨ cl459.slots.size ≤ ((1 : Int32) : Int32).toNatClampNeg) := inb_of Sz459 ⟨by decide, by decide⟩
      obtain ⟨T459, h459, X459, e459, W459, st459⟩ := stJ X447 hx hZ e447 Ar459 (j := (1 : Int32)) hin459 (g := (mkF m 273 #[.val (.int p0), .val (.int p1), .val (.int p2), .val (.long q3), .second, .val (.long q4), .second, .val (.int b0v), .val (.int b1v), .val (.int b2v), .val (.int (1 : Int32)), .val (.int (2 : Int32)), .val (.int (2 : Int32)), .val (.int po), .val (.int b2v), .val (.int (0 : Int32)), .val (.int (1 : Int32)), .val (.long (((1 : Int64) <<< (b2v &&& 0x3f).toInt64) - (1 : Int64))), .second, .val (.ref b342), .val (.ref b354), .val (.ref b371), .unset, .unset, .unset, .unset, .unset, .unset, .unset, .unset] [(.long q4), (.int (1 : Int32)), (.ref b430), (.ref b430)])) rfl rfl (hb hby at_273)
      refine Go.st st459 ?_
      have O460 : Old Z n0 h459 := O448.wr W459 gn430
      have E_461 : Exa Z h459 b354 "com/example/gieres/gieres/model/TupleTable" := E_449.wr W459
      have F462 : Fld Z h459 b354 "com/example/gieres/gieres/model/TupleTable" "word" "[I" (.ref aw) := F450.other W459 (Or.inl ne431)
      have V_463 : Arv Z h459 aw kw .int (3 : Int32) [(.int (0 : Int32)), (.int (0 : Int32)), (.int (1 : Int32))] (.int (0 : Int32)) := V_451.other W459 ne432
      have F464 : Fld Z h459 b354 "com/example/gieres/gieres/model/TupleTable" "shift" "[I" (.ref as) := F452.other W459 (Or.inl ne431)
      have V_465 : Arv Z h459 as ks .int (3 : Int32) [(.int (0 : Int32)), (.int b0v), (.int (0 : Int32))] (.int (0 : Int32)) := V_453.other W459 ne433
      have F466 : Fld Z h459 b354 "com/example/gieres/gieres/model/TupleTable" "mask" "[J" (.ref am) := F454.other W459 (Or.inl ne431)
      have V_467 : Arv Z h459 am km .long (3 : Int32) [(.long (own_mask b0v)), (.long (own_mask b1v)), (.long (own_mask b2v))] (.long (0 : Int64)) := V_455.other W459 ne434
      have F468 : Fld Z h459 b354 "com/example/gieres/gieres/model/TupleTable" "width" "I" (.int (2 : Int32)) := F456.other W459 (Or.inl ne431)
      have V_469 : Arv Z h459 b371 k371 .long (4 : Int32) [(.long q3), (.long q4), (.long (q4 ^^^ (-1 : Int64))), (.long (q3 ^^^ (-1 : Int64)))] (.long (0 : Int64)) := V_457.other W459 ne435
      have V_470 : Arv Z h459 b430 k430 .long (4 : Int32) [(.long q3), (.long q4), (.long (0 : Int64)), (.long (0 : Int64))] (.long (0 : Int64)) := Arv.set Ar459 qk459 Sz459 Nn459 Ha459 Ga459 rfl W459 1 rfl (Nat.le_of_ble_eq_true rfl)
      have N459 := Fr.snoc X459 N447 gn430
      show Go p e below _ (T459.setTop (mkF m 274 #[.val (.int p0), .val (.int p1), .val (.int p2), .val (.long q3), .second, .val (.long q4), .second, .val (.int b0v), .val (.int b1v), .val (.int b2v), .val (.int (1 : Int32)), .val (.int (2 : Int32)), .val (.int (2 : Int32)), .val (.int po), .val (.int b2v), .val (.int (0 : Int32)), .val (.int (1 : Int32)), .val (.long (((1 : Int64) <<< (b2v &&& 0x3f).toInt64) - (1 : Int64))), .second, .val (.ref b342), .val (.ref b354), .val (.ref b371), .unset, .unset, .unset, .unset, .unset, .unset, .unset, .unset] [(.ref b430)]))
      refine Go.st (fun _ => XS.dup X459.here hx rfl (hb hby at_274) rfl rfl) ?_
      refine Go.st (fun _ => XS.iconst X459.here hx rfl (hb hby at_275)) ?_
      refine Go.st (fun _ => XS.lload X459.here hx rfl (hb hby at_276) rfl) ?_
      show Go p e below _ (T459.setTop (mkF m 278 #[.val (.int p0), .val (.int p1), .val (.int p2), .val (.long q3), .second, .val (.long q4), .second, .val (.int b0v), .val (.int b1v), .val (.int b2v), .val (.int (1 : Int32)), .val (.int (2 : Int32)), .val (.int (2 : Int32)), .val (.int po), .val (.int b2v), .val (.int (0 : Int32)), .val (.int (1 : Int32)), .val (.long (((1 : Int64) <<< (b2v &&& 0x3f).toInt64) - (1 : Int64))), .second, .val (.ref b342), .val (.ref b354), .val (.ref b371), .unset, .unset, .unset, .unset, .unset, .unset, .unset, .unset] [(.long q4), (.int (2 : Int32)), (.ref b430), (.ref b430)]))
      refine Go.st (fun _ => X459.ldc2Long hx hown (mvT hZ (hw _ (List.mem_of_getElem? (i := 54) rfl))) (g := (mkF m 278 #[.val (.int p0), .val (.int p1), .val (.int p2), .val (.long q3), .second, .val (.long q4), .second, .val (.int b0v), .val (.int b1v), .val (.int b2v), .val (.int (1 : Int32)), .val (.int (2 : Int32)), .val (.int (2 : Int32)), .val (.int po), .val (.int b2v), .val (.int (0 : Int32)), .val (.int (1 : Int32)), .val (.long (((1 : Int64) <<< (b2v &&& 0x3f).toInt64) - (1 : Int64))), .second, .val (.ref b342), .val (.ref b354), .val (.ref b371), .unset, .unset, .unset, .unset, .unset, .unset, .unset, .unset] [(.long q4), (.int (2 : Int32)), (.ref b430), (.ref b430)])) rfl (hb hby at_278) _) ?_
      show Go p e below _ (T459.setTop (mkF m 281 #[.val (.int p0), .val (.int p1), .val (.int p2), .val (.long q3), .second, .val (.long q4), .second, .val (.int b0v), .val (.int b1v), .val (.int b2v), .val (.int (1 : Int32)), .val (.int (2 : Int32)), .val (.int (2 : Int32)), .val (.int po), .val (.int b2v), .val (.int (0 : Int32)), .val (.int (1 : Int32)), .val (.long (((1 : Int64) <<< (b2v &&& 0x3f).toInt64) - (1 : Int64))), .second, .val (.ref b342), .val (.ref b354), .val (.ref b371), .unset, .unset, .unset, .unset, .unset, .unset, .unset, .unset] [(.long (-1 : Int64)), (.long q4), (.int (2 : Int32)), (.ref b430), (.ref b430)]))
      refine Go.st (fun _ => XS.lxor X459.here hx rfl (hb hby at_281) rfl) ?_
      show Go p e below _ (T459.setTop (mkF m 282 #[.val (.int p0), .val (.int p1), .val (.int p2), .val (.long q3), .second, .val (.long q4), .second, .val (.int b0v), .val (.int b1v), .val (.int b2v), .val (.int (1 : Int32)), .val (.int (2 : Int32)), .val (.int (2 : Int32)), .val (.int po), .val (.int b2v), .val (.int (0 : Int32)), .val (.int (1 : Int32)), .val (.long (((1 : Int64) <<< (b2v &&& 0x3f).toInt64) - (1 : Int64))), .second, .val (.ref b342), .val (.ref b354), .val (.ref b371), .unset, .unset, .unset, .unset, .unset, .unset, .unset, .unset] [(.long (q4 ^^^ (-1 : Int64))), (.int (2 : Int32)), (.ref b430), (.ref b430)]))
      obtain ⟨cl471, Ar471, qk471, Sz471, Nn471, Ha471, Ga471⟩ := id V_470
      have hin471 : ¬ ((2 : Int32) < 0 ∨ cl471.slots.size ≤ ((2 : Int32) : Int32).toNatClampNeg) := inb_of Sz471 ⟨by decide, by decide⟩
      obtain ⟨T471, h471, X471, e471, W471, st471⟩ := stJ X459 hx hZ e459 Ar471 (j := (2 : Int32)) hin471 (g := (mkF m 282 #[.val (.int p0), .val (.int p1), .val (.int p2), .val (.long q3), .second, .val (.long q4), .second, .val (.int b0v), .val (.int b1v), .val (.int b2v), .val (.int (1 : Int32)), .val (.int (2 : Int32)), .val (.int (2 : Int32)), .val (.int po), .val (.int b2v), .val (.int (0 : Int32)), .val (.int (1 : Int32)), .val (.long (((1 : Int64) <<< (b2v &&& 0x3f).toInt64) - (1 : Int64))), .second, .val (.ref b342), .val (.ref b354), .val (.ref b371), .unset, .unset, .unset, .unset, .unset, .unset, .unset, .unset] [(.long (q4 ^^^ (-1 : Int64))), (.int (2 : Int32)), (.ref b430), (.ref b430)])) rfl rfl (hb hby at_282)
      refine Go.st st471 ?_
      have O472 : Old Z n0 h471 := O460.wr W471 gn430
      have E_473 : Exa Z h471 b354 "com/example/gieres/gieres/model/TupleTable" := E_461.wr W471
      have F474 : Fld Z h471 b354 "com/example/gieres/gieres/model/TupleTable" "word" "[I" (.ref aw) := F462.other W471 (Or.inl ne431)
      have V_475 : Arv Z h471 aw kw .int (3 : Int32) [(.int (0 : Int32)), (.int (0 : Int32)), (.int (1 : Int32))] (.int (0 : Int32)) := V_463.other W471 ne432
      have F476 : Fld Z h471 b354 "com/example/gieres/gieres/model/TupleTable" "shift" "[I" (.ref as) := F464.other W471 (Or.inl ne431)
      have V_477 : Arv Z h471 as ks .int (3 : Int32) [(.int (0 : Int32)), (.int b0v), (.int (0 : Int32))] (.int (0 : Int32)) := V_465.other W471 ne433
      have F478 : Fld Z h471 b354 "com/example/gieres/gieres/model/TupleTable" "mask" "[J" (.ref am) := F466.other W471 (Or.inl ne431)
      have V_479 : Arv Z h471 am km .long (3 : Int32) [(.long (own_mask b0v)), (.long (own_mask b1v)), (.long (own_mask b2v))] (.long (0 : Int64)) := V_467.other W471 ne434
      have F480 : Fld Z h471 b354 "com/example/gieres/gieres/model/TupleTable" "width" "I" (.int (2 : Int32)) := F468.other W471 (Or.inl ne431)
      have V_481 : Arv Z h471 b371 k371 .long (4 : Int32) [(.long q3), (.long q4), (.long (q4 ^^^ (-1 : Int64))), (.long (q3 ^^^ (-1 : Int64)))] (.long (0 : Int64)) := V_469.other W471 ne435
      have V_482 : Arv Z h471 b430 k430 .long (4 : Int32) [(.long q3), (.long q4), (.long (q4 ^^^ (-1 : Int64))), (.long (0 : Int64))] (.long (0 : Int64)) := Arv.set Ar471 qk471 Sz471 Nn471 Ha471 Ga471 rfl W471 2 rfl (Nat.le_of_ble_eq_true rfl)
      have N471 := Fr.snoc X471 N459 gn430
      show Go p e below _ (T471.setTop (mkF m 283 #[.val (.int p0), .val (.int p1), .val (.int p2), .val (.long q3), .second, .val (.long q4), .second, .val (.int b0v), .val (.int b1v), .val (.int b2v), .val (.int (1 : Int32)), .val (.int (2 : Int32)), .val (.int (2 : Int32)), .val (.int po), .val (.int b2v), .val (.int (0 : Int32)), .val (.int (1 : Int32)), .val (.long (((1 : Int64) <<< (b2v &&& 0x3f).toInt64) - (1 : Int64))), .second, .val (.ref b342), .val (.ref b354), .val (.ref b371), .unset, .unset, .unset, .unset, .unset, .unset, .unset, .unset] [(.ref b430)]))
      refine Go.st (fun _ => XS.dup X471.here hx rfl (hb hby at_283) rfl rfl) ?_
      refine Go.st (fun _ => XS.iconst X471.here hx rfl (hb hby at_284)) ?_
      refine Go.st (fun _ => XS.lloadN X471.here hx rfl (hb hby at_285) rfl) ?_
      show Go p e below _ (T471.setTop (mkF m 286 #[.val (.int p0), .val (.int p1), .val (.int p2), .val (.long q3), .second, .val (.long q4), .second, .val (.int b0v), .val (.int b1v), .val (.int b2v), .val (.int (1 : Int32)), .val (.int (2 : Int32)), .val (.int (2 : Int32)), .val (.int po), .val (.int b2v), .val (.int (0 : Int32)), .val (.int (1 : Int32)), .val (.long (((1 : Int64) <<< (b2v &&& 0x3f).toInt64) - (1 : Int64))), .second, .val (.ref b342), .val (.ref b354), .val (.ref b371), .unset, .unset, .unset, .unset, .unset, .unset, .unset, .unset] [(.long q3), (.int (3 : Int32)), (.ref b430), (.ref b430)]))
      refine Go.st (fun _ => X471.ldc2Long hx hown (mvT hZ (hw _ (List.mem_of_getElem? (i := 54) rfl))) (g := (mkF m 286 #[.val (.int p0), .val (.int p1), .val (.int p2), .val (.long q3), .second, .val (.long q4), .second, .val (.int b0v), .val (.int b1v), .val (.int b2v), .val (.int (1 : Int32)), .val (.int (2 : Int32)), .val (.int (2 : Int32)), .val (.int po), .val (.int b2v), .val (.int (0 : Int32)), .val (.int (1 : Int32)), .val (.long (((1 : Int64) <<< (b2v &&& 0x3f).toInt64) - (1 : Int64))), .second, .val (.ref b342), .val (.ref b354), .val (.ref b371), .unset, .unset, .unset, .unset, .unset, .unset, .unset, .unset] [(.long q3), (.int (3 : Int32)), (.ref b430), (.ref b430)])) rfl (hb hby at_286) _) ?_
      show Go p e below _ (T471.setTop (mkF m 289 #[.val (.int p0), .val (.int p1), .val (.int p2), .val (.long q3), .second, .val (.long q4), .second, .val (.int b0v), .val (.int b1v), .val (.int b2v), .val (.int (1 : Int32)), .val (.int (2 : Int32)), .val (.int (2 : Int32)), .val (.int po), .val (.int b2v), .val (.int (0 : Int32)), .val (.int (1 : Int32)), .val (.long (((1 : Int64) <<< (b2v &&& 0x3f).toInt64) - (1 : Int64))), .second, .val (.ref b342), .val (.ref b354), .val (.ref b371), .unset, .unset, .unset, .unset, .unset, .unset, .unset, .unset] [(.long (-1 : Int64)), (.long q3), (.int (3 : Int32)), (.ref b430), (.ref b430)]))
      refine Go.st (fun _ => XS.lxor X471.here hx rfl (hb hby at_289) rfl) ?_
      show Go p e below _ (T471.setTop (mkF m 290 #[.val (.int p0), .val (.int p1), .val (.int p2), .val (.long q3), .second, .val (.long q4), .second, .val (.int b0v), .val (.int b1v), .val (.int b2v), .val (.int (1 : Int32)), .val (.int (2 : Int32)), .val (.int (2 : Int32)), .val (.int po), .val (.int b2v), .val (.int (0 : Int32)), .val (.int (1 : Int32)), .val (.long (((1 : Int64) <<< (b2v &&& 0x3f).toInt64) - (1 : Int64))), .second, .val (.ref b342), .val (.ref b354), .val (.ref b371), .unset, .unset, .unset, .unset, .unset, .unset, .unset, .unset] [(.long (q3 ^^^ (-1 : Int64))), (.int (3 : Int32)), (.ref b430), (.ref b430)]))
      obtain ⟨cl483, Ar483, qk483, Sz483, Nn483, Ha483, Ga483⟩ := id V_482
      have hin483 : ¬ ((3 : Int32) < 0 ∨ cl483.slots.size ≤ ((3 : Int32) : Int32).toNatClampNeg) := inb_of Sz483 ⟨by decide, by decide⟩
      obtain ⟨T483, h483, X483, e483, W483, st483⟩ := stJ X471 hx hZ e471 Ar483 (j := (3 : Int32)) hin483 (g := (mkF m 290 #[.val (.int p0), .val (.int p1), .val (.int p2), .val (.long q3), .second, .val (.long q4), .second, .val (.int b0v), .val (.int b1v), .val (.int b2v), .val (.int (1 : Int32)), .val (.int (2 : Int32)), .val (.int (2 : Int32)), .val (.int po), .val (.int b2v), .val (.int (0 : Int32)), .val (.int (1 : Int32)), .val (.long (((1 : Int64) <<< (b2v &&& 0x3f).toInt64) - (1 : Int64))), .second, .val (.ref b342), .val (.ref b354), .val (.ref b371), .unset, .unset, .unset, .unset, .unset, .unset, .unset, .unset] [(.long (q3 ^^^ (-1 : Int64))), (.int (3 : Int32)), (.ref b430), (.ref b430)])) rfl rfl (hb hby at_290)
      refine Go.st st483 ?_
      have O484 : Old Z n0 h483 := O472.wr W483 gn430
      have E_485 : Exa Z h483 b354 "com/example/gieres/gieres/model/TupleTable" := E_473.wr W483
      have F486 : Fld Z h483 b354 "com/example/gieres/gieres/model/TupleTable" "word" "[I" (.ref aw) := F474.other W483 (Or.inl ne431)
      have V_487 : Arv Z h483 aw kw .int (3 : Int32) [(.int (0 : Int32)), (.int (0 : Int32)), (.int (1 : Int32))] (.int (0 : Int32)) := V_475.other W483 ne432
      have F488 : Fld Z h483 b354 "com/example/gieres/gieres/model/TupleTable" "shift" "[I" (.ref as) := F476.other W483 (Or.inl ne431)
      have V_489 : Arv Z h483 as ks .int (3 : Int32) [(.int (0 : Int32)), (.int b0v), (.int (0 : Int32))] (.int (0 : Int32)) := V_477.other W483 ne433
      have F490 : Fld Z h483 b354 "com/example/gieres/gieres/model/TupleTable" "mask" "[J" (.ref am) := F478.other W483 (Or.inl ne431)
      have V_491 : Arv Z h483 am km .long (3 : Int32) [(.long (own_mask b0v)), (.long (own_mask b1v)), (.long (own_mask b2v))] (.long (0 : Int64)) := V_479.other W483 ne434
      have F492 : Fld Z h483 b354 "com/example/gieres/gieres/model/TupleTable" "width" "I" (.int (2 : Int32)) := F480.other W483 (Or.inl ne431)
      have V_493 : Arv Z h483 b371 k371 .long (4 : Int32) [(.long q3), (.long q4), (.long (q4 ^^^ (-1 : Int64))), (.long (q3 ^^^ (-1 : Int64)))] (.long (0 : Int64)) := V_481.other W483 ne435
      have V_494 : Arv Z h483 b430 k430 .long (4 : Int32) [(.long q3), (.long q4), (.long (q4 ^^^ (-1 : Int64))), (.long (q3 ^^^ (-1 : Int64)))] (.long (0 : Int64)) := Arv.set Ar483 qk483 Sz483 Nn483 Ha483 Ga483 rfl W483 3 rfl (Nat.le_of_ble_eq_true rfl)
      have N483 := Fr.snoc X483 N471 gn430
      show Go p e below _ (T483.setTop (mkF m 291 #[.val (.int p0), .val (.int p1), .val (.int p2), .val (.long q3), .second, .val (.long q4), .second, .val (.int b0v), .val (.int b1v), .val (.int b2v), .val (.int (1 : Int32)), .val (.int (2 : Int32)), .val (.int (2 : Int32)), .val (.int po), .val (.int b2v), .val (.int (0 : Int32)), .val (.int (1 : Int32)), .val (.long (((1 : Int64) <<< (b2v &&& 0x3f).toInt64) - (1 : Int64))), .second, .val (.ref b342), .val (.ref b354), .val (.ref b371), .unset, .unset, .unset, .unset, .unset, .unset, .unset, .unset] [(.ref b430)]))
      refine Go.st (fun _ => XS.goto X483.here hx rfl (pc0 := 291) (pc' := 306) rfl (hb hby at_291) (by decide) (by decide)) ?_
      refine Go.st (fun _ => XS.astore X483.here hx rfl (hb hby at_306) rfl rfl (l' := #[.val (.int p0), .val (.int p1), .val (.int p2), .val (.long q3), .second, .val (.long q4), .second, .val (.int b0v), .val (.int b1v), .val (.int b2v), .val (.int (1 : Int32)), .val (.int (2 : Int32)), .val (.int (2 : Int32)), .val (.int po), .val (.int b2v), .val (.int (0 : Int32)), .val (.int (1 : Int32)), .val (.long (((1 : Int64) <<< (b2v &&& 0x3f).toInt64) - (1 : Int64))), .second, .val (.ref b342), .val (.ref b354), .val (.ref b371), .val (.ref b430), .unset, .unset, .unset, .unset, .unset, .unset, .unset]) rfl) ?_
      show Go p e below _ (T483.setTop (mkF m 308 #[.val (.int p0), .val (.int p1), .val (.int p2), .val (.long q3), .second, .val (.long q4), .second, .val (.int b0v), .val (.int b1v), .val (.int b2v), .val (.int (1 : Int32)), .val (.int (2 : Int32)), .val (.int (2 : Int32)), .val (.int po), .val (.int b2v), .val (.int (0 : Int32)), .val (.int (1 : Int32)), .val (.long (((1 : Int64) <<< (b2v &&& 0x3f).toInt64) - (1 : Int64))), .second, .val (.ref b342), .val (.ref b354), .val (.ref b371), .val (.ref b430), .unset, .unset, .unset, .unset, .unset, .unset, .unset] []))
      obtain ⟨f0, hf0⟩ : ∃ f : Nat → Int64, f = fun k => ([q3, q4, (q4 ^^^ (-1 : Int64)), (q3 ^^^ (-1 : Int64))] : List Int64).getD k 0 := ⟨_, rfl⟩
      have KO : LAr Z h483 b371 4 f0 := LAr_of V_493 rfl (by decide) (fun j hj => by rw [hf0]; rcases j with _ | _ | _ | _ | j <;> first | rfl | omega)
      have KK : LAr Z h483 b430 4 f0 := LAr_of V_494 rfl (by decide) (fun j hj => by rw [hf0]; rcases j with _ | _ | _ | _ | j <;> first | rfl | omega)
      show Go p e below _ (T483.setTop (mkF m 308 #[.val (.int p0), .val (.int p1), .val (.int p2), .val (.long q3), .second, .val (.long q4), .second, .val (.int b0v), .val (.int b1v), .val (.int b2v), .val (.int (1 : Int32)), .val (.int (2 : Int32)), .val (.int (2 : Int32)), .val (.int po), .val (.int b2v), .val (.int (0 : Int32)), .val (.int (1 : Int32)), .val (.long (((1 : Int64) <<< (b2v &&& 0x3f).toInt64) - (1 : Int64))), .second, .val (.ref b342), .val (.ref b354), .val (.ref b371), .val (.ref b430), .unset, .unset, .unset, .unset, .unset, .unset, .unset] []))
      refine Go.st (fun _ => XS.aload X483.here hx rfl (hb hby at_308) rfl rfl) ?_
      refine Go.st (fun _ => XS.aload X483.here hx rfl (hb hby at_310) rfl rfl) ?_
      refine Go.st (fun _ => XS.iload X483.here hx rfl (hb hby at_312) rfl) ?_
      refine Go.st (fun _ => XS.iload X483.here hx rfl (hb hby at_314) rfl) ?_
      refine Go.st (fun _ => XS.iloadN X483.here hx rfl (hb hby at_316) rfl) ?_
      show Go p e below _ (T483.setTop (mkF m 317 #[.val (.int p0), .val (.int p1), .val (.int p2), .val (.long q3), .second, .val (.long q4), .second, .val (.int b0v), .val (.int b1v), .val (.int b2v), .val (.int (1 : Int32)), .val (.int (2 : Int32)), .val (.int (2 : Int32)), .val (.int po), .val (.int b2v), .val (.int (0 : Int32)), .val (.int (1 : Int32)), .val (.long (((1 : Int64) <<< (b2v &&& 0x3f).toInt64) - (1 : Int64))), .second, .val (.ref b342), .val (.ref b354), .val (.ref b371), .val (.ref b430), .unset, .unset, .unset, .unset, .unset, .unset, .unset] [(.int p2), (.int (2 : Int32)), (.int po), (.ref b430), (.ref b354)]))
      refine goVirt X483 hx hZ (y := (⟨"com/example/gieres/gieres/model/TupleTable", "setState", "([JIII)V"⟩ : MethodName)) (z := (⟨"com/example/gieres/gieres/model/TupleTable", "setState", "([JIII)V"⟩ : MethodName)) hown (hw _ (List.mem_of_getElem? (i := 39) rfl)) (hw _ (List.mem_of_getElem? (i := 40) rfl)) (notFace_of_selects (args := #[]) (mvT hZ (hw _ (List.mem_of_getElem? (i := 42) rfl)))) (hw _ (List.mem_of_getElem? (i := 42) rfl)) (hw _ (List.mem_of_getElem? (i := 41) rfl)) (hw _ (List.mem_of_getElem? (i := 3) rfl)) (hw _ (List.mem_of_getElem? (i := 43) rfl)) (by decide) (a := b354) (argsL := [(.ref b430), (.int po), (.int (2 : Int32)), (.int p2)]) (rest := []) e483 E_485 (rmS2 l Z a0 hw [] b354 b430 aw as am kw ks km (0 : Int32) (0 : Int32) (1 : Int32) (0 : Int32) b0v (0 : Int32) (own_mask b0v) (own_mask b1v) (own_mask b2v) 4 f0 po p2 h483 n0 O484 F486 V_487 F488 V_489 F490 V_491 KK gn430 HJ.1 HJ.2) 0 (by decide) (by decide) (by decide) (by decide) (mkF m 317 #[.val (.int p0), .val (.int p1), .val (.int p2), .val (.long q3), .second, .val (.long q4), .second, .val (.int b0v), .val (.int b1v), .val (.int b2v), .val (.int (1 : Int32)), .val (.int (2 : Int32)), .val (.int (2 : Int32)), .val (.int po), .val (.int b2v), .val (.int (0 : Int32)), .val (.int (1 : Int32)), .val (.long (((1 : Int64) <<< (b2v &&& 0x3f).toInt64) - (1 : Int64))), .second, .val (.ref b342), .val (.ref b354), .val (.ref b371), .val (.ref b430), .unset, .unset, .unset, .unset, .unset, .unset, .unset] [(.int p2), (.int (2 : Int32)), (.int po), (.ref b430), (.ref b354)]) rfl (by rw [hml]; rfl) (lenOf pd_3 rfl) rfl (hb hby at_317) (Nat.le_of_eq rfl) ?_
      intro v495 T495 L495 X495 hQ495
      obtain ⟨rfl, M495, K495, KA495⟩ := hQ495
      have N495 := Fr.app N483 M495
      have O496 : Old Z n0 T495.heap := O484.keep K495 (allS gn430 all0)
      have E_497 : Exa Z T495.heap b354 "com/example/gieres/gieres/model/TupleTable" := E_485.keep K495
      have F498 : Fld Z T495.heap b354 "com/example/gieres/gieres/model/TupleTable" "word" "[I" (.ref aw) := F486.keep K495 (ninS ne431 nin0)
      have V_499 : Arv Z T495.heap aw kw .int (3 : Int32) [(.int (0 : Int32)), (.int (0 : Int32)), (.int (1 : Int32))] (.int (0 : Int32)) := V_487.keep K495 (ninS ne432 nin0)
      have F500 : Fld Z T495.heap b354 "com/example/gieres/gieres/model/TupleTable" "shift" "[I" (.ref as) := F488.keep K495 (ninS ne431 nin0)
      have V_501 : Arv Z T495.heap as ks .int (3 : Int32) [(.int (0 : Int32)), (.int b0v), (.int (0 : Int32))] (.int (0 : Int32)) := V_489.keep K495 (ninS ne433 nin0)
      have F502 : Fld Z T495.heap b354 "com/example/gieres/gieres/model/TupleTable" "mask" "[J" (.ref am) := F490.keep K495 (ninS ne431 nin0)
      have V_503 : Arv Z T495.heap am km .long (3 : Int32) [(.long (own_mask b0v)), (.long (own_mask b1v)), (.long (own_mask b2v))] (.long (0 : Int64)) := V_491.keep K495 (ninS ne434 nin0)
      have F504 : Fld Z T495.heap b354 "com/example/gieres/gieres/model/TupleTable" "width" "I" (.int (2 : Int32)) := F492.keep K495 (ninS ne431 nin0)
      have VL505 : LAr Z T495.heap b371 4 f0 := LAr_keep KO K495 (ninS ne435 nin0)
      obtain ⟨f1, hf1⟩ : ∃ z, z = (fun k => if k = (po + (1 : Int32)).toNatClampNeg then own_set (f0 (po + (1 : Int32)).toNatClampNeg) (own_mask b2v) (0 : Int32) p2 else f0 k) := ⟨_, rfl⟩
      rw [← hf1] at KA495
      have GV : own_get (f1 (po + (1 : Int32)).toNatClampNeg) (own_mask b2v) (0 : Int32) = p2.toInt64 &&& (own_mask b2v) := by rw [hf1]; simp only [if_true]; exact own_gsP PL
      show Go p e below _ (T495.setTop (mkF m 320 #[.val (.int p0), .val (.int p1), .val (.int p2), .val (.long q3), .second, .val (.long q4), .second, .val (.int b0v), .val (.int b1v), .val (.int b2v), .val (.int (1 : Int32)), .val (.int (2 : Int32)), .val (.int (2 : Int32)), .val (.int po), .val (.int b2v), .val (.int (0 : Int32)), .val (.int (1 : Int32)), .val (.long (((1 : Int64) <<< (b2v &&& 0x3f).toInt64) - (1 : Int64))), .second, .val (.ref b342), .val (.ref b354), .val (.ref b371), .val (.ref b430), .unset, .unset, .unset, .unset, .unset, .unset, .unset] []))
      refine Go.st (fun _ => XS.iload X495.here hx rfl (hb hby at_320) rfl) ?_
      refine Go.st (fun _ => XS.iload X495.here hx rfl (hb hby at_322) rfl) ?_
      refine Go.st (fun _ => XS.iadd X495.here hx rfl (hb hby at_324) rfl) ?_
      refine Go.st (fun _ => XS.istore X495.here hx rfl (hb hby at_325) rfl (l' := #[.val (.int p0), .val (.int p1), .val (.int p2), .val (.long q3), .second, .val (.long q4), .second, .val (.int b0v), .val (.int b1v), .val (.int b2v), .val (.int (1 : Int32)), .val (.int (2 : Int32)), .val (.int (2 : Int32)), .val (.int po), .val (.int b2v), .val (.int (0 : Int32)), .val (.int (1 : Int32)), .val (.long (((1 : Int64) <<< (b2v &&& 0x3f).toInt64) - (1 : Int64))), .second, .val (.ref b342), .val (.ref b354), .val (.ref b371), .val (.ref b430), .val (.int (po + (1 : Int32))), .unset, .unset, .unset, .unset, .unset, .unset]) rfl) ?_
      refine Go.st (fun _ => XS.iloadN X495.here hx rfl (hb hby at_327) rfl) ?_
      refine Go.st (fun _ => XS.i2l X495.here hx rfl (hb hby at_328) rfl) ?_
      refine Go.st (fun _ => XS.lload X495.here hx rfl (hb hby at_329) rfl) ?_
      refine Go.st (fun _ => XS.land X495.here hx rfl (hb hby at_331) rfl) ?_
      refine Go.st (fun _ => XS.lstore X495.here hx rfl (hb hby at_332) rfl (l' := #[.val (.int p0), .val (.int p1), .val (.int p2), .val (.long q3), .second, .val (.long q4), .second, .val (.int b0v), .val (.int b1v), .val (.int b2v), .val (.int (1 : Int32)), .val (.int (2 : Int32)), .val (.int (2 : Int32)), .val (.int po), .val (.int b2v), .val (.int (0 : Int32)), .val (.int (1 : Int32)), .val (.long (((1 : Int64) <<< (b2v &&& 0x3f).toInt64) - (1 : Int64))), .second, .val (.ref b342), .val (.ref b354), .val (.ref b371), .val (.ref b430), .val (.int (po + (1 : Int32))), .val (.long ((p2.toInt64) &&& (((1 : Int64) <<< (b2v &&& 0x3f).toInt64) - (1 : Int64)))), .second, .unset, .unset, .unset, .unset]) rfl) ?_
      refine Go.st (fun _ => XS.lload X495.here hx rfl (hb hby at_334) rfl) ?_
      refine Go.st (fun _ => XS.iload X495.here hx rfl (hb hby at_336) rfl) ?_
      refine Go.st (fun _ => XS.lshl X495.here hx rfl (hb hby at_338) rfl) ?_
      show Go p e below _ (T495.setTop (mkF m 339 #[.val (.int p0), .val (.int p1), .val (.int p2), .val (.long q3), .second, .val (.long q4), .second, .val (.int b0v), .val (.int b1v), .val (.int b2v), .val (.int (1 : Int32)), .val (.int (2 : Int32)), .val (.int (2 : Int32)), .val (.int po), .val (.int b2v), .val (.int (0 : Int32)), .val (.int (1 : Int32)), .val (.long (((1 : Int64) <<< (b2v &&& 0x3f).toInt64) - (1 : Int64))), .second, .val (.ref b342), .val (.ref b354), .val (.ref b371), .val (.ref b430), .val (.int (po + (1 : Int32))), .val (.long ((p2.toInt64) &&& (((1 : Int64) <<< (b2v &&& 0x3f).toInt64) - (1 : Int64)))), .second, .unset, .unset, .unset, .unset] [(.long ((((1 : Int64) <<< (b2v &&& 0x3f).toInt64) - (1 : Int64)) <<< ((0 : Int32) &&& 0x3f).toInt64))]))
      refine Go.st (fun _ => XS.lstore X495.here hx rfl (hb hby at_339) rfl (l' := #[.val (.int p0), .val (.int p1), .val (.int p2), .val (.long q3), .second, .val (.long q4), .second, .val (.int b0v), .val (.int b1v), .val (.int b2v), .val (.int (1 : Int32)), .val (.int (2 : Int32)), .val (.int (2 : Int32)), .val (.int po), .val (.int b2v), .val (.int (0 : Int32)), .val (.int (1 : Int32)), .val (.long (((1 : Int64) <<< (b2v &&& 0x3f).toInt64) - (1 : Int64))), .second, .val (.ref b342), .val (.ref b354), .val (.ref b371), .val (.ref b430), .val (.int (po + (1 : Int32))), .val (.long ((p2.toInt64) &&& (((1 : Int64) <<< (b2v &&& 0x3f).toInt64) - (1 : Int64)))), .second, .val (.long ((((1 : Int64) <<< (b2v &&& 0x3f).toInt64) - (1 : Int64)) <<< ((0 : Int32) &&& 0x3f).toInt64)), .second, .unset, .unset]) rfl) ?_
      refine Go.st (fun _ => XS.aload X495.here hx rfl (hb hby at_341) rfl rfl) ?_
      refine Go.st (fun _ => XS.iload X495.here hx rfl (hb hby at_343) rfl) ?_
      show Go p e below _ (T495.setTop (mkF m 345 #[.val (.int p0), .val (.int p1), .val (.int p2), .val (.long q3), .second, .val (.long q4), .second, .val (.int b0v), .val (.int b1v), .val (.int b2v), .val (.int (1 : Int32)), .val (.int (2 : Int32)), .val (.int (2 : Int32)), .val (.int po), .val (.int b2v), .val (.int (0 : Int32)), .val (.int (1 : Int32)), .val (.long (((1 : Int64) <<< (b2v &&& 0x3f).toInt64) - (1 : Int64))), .second, .val (.ref b342), .val (.ref b354), .val (.ref b371), .val (.ref b430), .val (.int (po + (1 : Int32))), .val (.long ((p2.toInt64) &&& (((1 : Int64) <<< (b2v &&& 0x3f).toInt64) - (1 : Int64)))), .second, .val (.long ((((1 : Int64) <<< (b2v &&& 0x3f).toInt64) - (1 : Int64)) <<< ((0 : Int32) &&& 0x3f).toInt64)), .second, .unset, .unset] [(.int (po + (1 : Int32))), (.ref b430)]))
      obtain ⟨cl506, Ar506, hin506, hat506, -⟩ := LAr_in KA495 (j := (po + (1 : Int32))) HJ.1 HJ.2
      refine Go.st (fun _ => X495.laload hx (j := (po + (1 : Int32))) (v := (.long (f1 ((po + (1 : Int32))).toNatClampNeg))) Ar506.1 (State.isArrayOf_alike hZ.alike Ar506.2.1) Ar506.2.2 hin506 hat506 (g := (mkF m 345 #[.val (.int p0), .val (.int p1), .val (.int p2), .val (.long q3), .second, .val (.long q4), .second, .val (.int b0v), .val (.int b1v), .val (.int b2v), .val (.int (1 : Int32)), .val (.int (2 : Int32)), .val (.int (2 : Int32)), .val (.int po), .val (.int b2v), .val (.int (0 : Int32)), .val (.int (1 : Int32)), .val (.long (((1 : Int64) <<< (b2v &&& 0x3f).toInt64) - (1 : Int64))), .second, .val (.ref b342), .val (.ref b354), .val (.ref b371), .val (.ref b430), .val (.int (po + (1 : Int32))), .val (.long ((p2.toInt64) &&& (((1 : Int64) <<< (b2v &&& 0x3f).toInt64) - (1 : Int64)))), .second, .val (.long ((((1 : Int64) <<< (b2v &&& 0x3f).toInt64) - (1 : Int64)) <<< ((0 : Int32) &&& 0x3f).toInt64)), .second, .unset, .unset] [(.int (po + (1 : Int32))), (.ref b430)])) rfl rfl (hb hby at_345) _) ?_
      show Go p e below _ (T495.setTop (mkF m 346 #[.val (.int p0), .val (.int p1), .val (.int p2), .val (.long q3), .second, .val (.long q4), .second, .val (.int b0v), .val (.int b1v), .val (.int b2v), .val (.int (1 : Int32)), .val (.int (2 : Int32)), .val (.int (2 : Int32)), .val (.int po), .val (.int b2v), .val (.int (0 : Int32)), .val (.int (1 : Int32)), .val (.long (((1 : Int64) <<< (b2v &&& 0x3f).toInt64) - (1 : Int64))), .second, .val (.ref b342), .val (.ref b354), .val (.ref b371), .val (.ref b430), .val (.int (po + (1 : Int32))), .val (.long ((p2.toInt64) &&& (((1 : Int64) <<< (b2v &&& 0x3f).toInt64) - (1 : Int64)))), .second, .val (.long ((((1 : Int64) <<< (b2v &&& 0x3f).toInt64) - (1 : Int64)) <<< ((0 : Int32) &&& 0x3f).toInt64)), .second, .unset, .unset] [(.long (f1 ((po + (1 : Int32))).toNatClampNeg))]))
      refine Go.st (fun _ => XS.iload X495.here hx rfl (hb hby at_346) rfl) ?_
      refine Go.st (fun _ => XS.lushr X495.here hx rfl (hb hby at_348) rfl) ?_
      refine Go.st (fun _ => XS.lload X495.here hx rfl (hb hby at_349) rfl) ?_
      refine Go.st (fun _ => XS.land X495.here hx rfl (hb hby at_351) rfl) ?_
      refine Go.st (fun _ => XS.lload X495.here hx rfl (hb hby at_352) rfl) ?_
      refine Go.st (fun _ => XS.lcmp X495.here hx rfl (hb hby at_354) rfl) ?_
      refine Go.st (fun _ => XS.ifNo X495.here hx rfl (hb hby at_355) rfl ((if0 _ _).trans (teq ((lw_eq _ _).mpr GV)).2)) ?_
      refine Go.st (fun _ => XS.aload X495.here hx rfl (hb hby at_358) rfl rfl) ?_
      refine Go.st (fun _ => XS.aload X495.here hx rfl (hb hby at_360) rfl rfl) ?_
      refine Go.st (fun _ => XS.iload X495.here hx rfl (hb hby at_362) rfl) ?_
      refine Go.st (fun _ => XS.iload X495.here hx rfl (hb hby at_364) rfl) ?_
      show Go p e below _ (T495.setTop (mkF m 366 #[.val (.int p0), .val (.int p1), .val (.int p2), .val (.long q3), .second, .val (.long q4), .second, .val (.int b0v), .val (.int b1v), .val (.int b2v), .val (.int (1 : Int32)), .val (.int (2 : Int32)), .val (.int (2 : Int32)), .val (.int po), .val (.int b2v), .val (.int (0 : Int32)), .val (.int (1 : Int32)), .val (.long (((1 : Int64) <<< (b2v &&& 0x3f).toInt64) - (1 : Int64))), .second, .val (.ref b342), .val (.ref b354), .val (.ref b371), .val (.ref b430), .val (.int (po + (1 : Int32))), .val (.long ((p2.toInt64) &&& (((1 : Int64) <<< (b2v &&& 0x3f).toInt64) - (1 : Int64)))), .second, .val (.long ((((1 : Int64) <<< (b2v &&& 0x3f).toInt64) - (1 : Int64)) <<< ((0 : Int32) &&& 0x3f).toInt64)), .second, .unset, .unset] [(.int (2 : Int32)), (.int po), (.ref b430), (.ref b354)]))
      refine goVirt X495 hx hZ (y := (⟨"com/example/gieres/gieres/model/TupleTable", "state", "([JII)I"⟩ : MethodName)) (z := (⟨"com/example/gieres/gieres/model/TupleTable", "state", "([JII)I"⟩ : MethodName)) hown (hw _ (List.mem_of_getElem? (i := 45) rfl)) (hw _ (List.mem_of_getElem? (i := 46) rfl)) (notFace_of_selects (args := #[]) (mvT hZ (hw _ (List.mem_of_getElem? (i := 48) rfl)))) (hw _ (List.mem_of_getElem? (i := 48) rfl)) (hw _ (List.mem_of_getElem? (i := 47) rfl)) (hw _ (List.mem_of_getElem? (i := 3) rfl)) (hw _ (List.mem_of_getElem? (i := 49) rfl)) (by decide) (a := b354) (argsL := [(.ref b430), (.int po), (.int (2 : Int32))]) (rest := []) rfl E_497 (rmG2 l Z a0 hw [] b354 b430 aw as am kw ks km (0 : Int32) (0 : Int32) (1 : Int32) (0 : Int32) b0v (0 : Int32) (own_mask b0v) (own_mask b1v) (own_mask b2v) 4 f1 po T495.heap n0 O496 F498 V_499 F500 V_501 F502 V_503 KA495 HJ.1 HJ.2) 0 (by decide) (by decide) (by decide) (by decide) (mkF m 366 #[.val (.int p0), .val (.int p1), .val (.int p2), .val (.long q3), .second, .val (.long q4), .second, .val (.int b0v), .val (.int b1v), .val (.int b2v), .val (.int (1 : Int32)), .val (.int (2 : Int32)), .val (.int (2 : Int32)), .val (.int po), .val (.int b2v), .val (.int (0 : Int32)), .val (.int (1 : Int32)), .val (.long (((1 : Int64) <<< (b2v &&& 0x3f).toInt64) - (1 : Int64))), .second, .val (.ref b342), .val (.ref b354), .val (.ref b371), .val (.ref b430), .val (.int (po + (1 : Int32))), .val (.long ((p2.toInt64) &&& (((1 : Int64) <<< (b2v &&& 0x3f).toInt64) - (1 : Int64)))), .second, .val (.long ((((1 : Int64) <<< (b2v &&& 0x3f).toInt64) - (1 : Int64)) <<< ((0 : Int32) &&& 0x3f).toInt64)), .second, .unset, .unset] [(.int (2 : Int32)), (.int po), (.ref b430), (.ref b354)]) rfl (by rw [hml]; rfl) (lenOf pd_4 rfl) rfl (hb hby at_366) (Nat.le_of_eq rfl) ?_
      intro v507 T507 L507 X507 hQ507
      obtain ⟨rfl, M507, e507⟩ := hQ507
      have N507 := Fr.app N495 M507
      show Go p e below _ (T507.setTop (mkF m 369 #[.val (.int p0), .val (.int p1), .val (.int p2), .val (.long q3), .second, .val (.long q4), .second, .val (.int b0v), .val (.int b1v), .val (.int b2v), .val (.int (1 : Int32)), .val (.int (2 : Int32)), .val (.int (2 : Int32)), .val (.int po), .val (.int b2v), .val (.int (0 : Int32)), .val (.int (1 : Int32)), .val (.long (((1 : Int64) <<< (b2v &&& 0x3f).toInt64) - (1 : Int64))), .second, .val (.ref b342), .val (.ref b354), .val (.ref b371), .val (.ref b430), .val (.int (po + (1 : Int32))), .val (.long ((p2.toInt64) &&& (((1 : Int64) <<< (b2v &&& 0x3f).toInt64) - (1 : Int64)))), .second, .val (.long ((((1 : Int64) <<< (b2v &&& 0x3f).toInt64) - (1 : Int64)) <<< ((0 : Int32) &&& 0x3f).toInt64)), .second, .unset, .unset] [(.int ((own_get (f1 (po + (1 : Int32)).toNatClampNeg) (own_mask b2v) (0 : Int32)).toInt32))]))
      refine Go.st (fun _ => XS.lload X507.here hx rfl (hb hby at_369) rfl) ?_
      refine Go.st (fun _ => XS.l2i X507.here hx rfl (hb hby at_371) rfl) ?_
      refine Go.st (fun _ => XS.icmpNo X507.here hx rfl (hb hby at_372) rfl (teq (congrArg Int64.toInt32 GV)).2) ?_
      refine Go.st (fun _ => XS.iconst X507.here hx rfl (hb hby at_375)) ?_
      refine Go.st (fun _ => XS.goto X507.here hx rfl (pc0 := 376) (pc' := 380) rfl (hb hby at_376) (by decide) (by decide)) ?_
      refine Go.st (fun _ => XS.istore X507.here hx rfl (hb hby at_380) rfl (l' := #[.val (.int p0), .val (.int p1), .val (.int p2), .val (.long q3), .second, .val (.long q4), .second, .val (.int b0v), .val (.int b1v), .val (.int b2v), .val (.int (1 : Int32)), .val (.int (2 : Int32)), .val (.int (2 : Int32)), .val (.int po), .val (.int b2v), .val (.int (0 : Int32)), .val (.int (1 : Int32)), .val (.long (((1 : Int64) <<< (b2v &&& 0x3f).toInt64) - (1 : Int64))), .second, .val (.ref b342), .val (.ref b354), .val (.ref b371), .val (.ref b430), .val (.int (po + (1 : Int32))), .val (.long ((p2.toInt64) &&& (((1 : Int64) <<< (b2v &&& 0x3f).toInt64) - (1 : Int64)))), .second, .val (.long ((((1 : Int64) <<< (b2v &&& 0x3f).toInt64) - (1 : Int64)) <<< ((0 : Int32) &&& 0x3f).toInt64)), .second, .val (.int (1 : Int32)), .unset]) rfl) ?_
      refine Go.st (fun _ => XS.aload X507.here hx rfl (hb hby at_382) rfl rfl) ?_
      refine Go.st (fun _ => XS.aload X507.here hx rfl (hb hby at_384) rfl rfl) ?_
      refine Go.st (fun _ => XS.iconst X507.here hx rfl (hb hby at_386)) ?_
      refine Go.st (fun _ => XS.iload X507.here hx rfl (hb hby at_387) rfl) ?_
      refine Go.st (fun _ => XS.lload X507.here hx rfl (hb hby at_389) rfl) ?_
      show Go p e below _ (T507.setTop (mkF m 391 #[.val (.int p0), .val (.int p1), .val (.int p2), .val (.long q3), .second, .val (.long q4), .second, .val (.int b0v), .val (.int b1v), .val (.int b2v), .val (.int (1 : Int32)), .val (.int (2 : Int32)), .val (.int (2 : Int32)), .val (.int po), .val (.int b2v), .val (.int (0 : Int32)), .val (.int (1 : Int32)), .val (.long (((1 : Int64) <<< (b2v &&& 0x3f).toInt64) - (1 : Int64))), .second, .val (.ref b342), .val (.ref b354), .val (.ref b371), .val (.ref b430), .val (.int (po + (1 : Int32))), .val (.long ((p2.toInt64) &&& (((1 : Int64) <<< (b2v &&& 0x3f).toInt64) - (1 : Int64)))), .second, .val (.long ((((1 : Int64) <<< (b2v &&& 0x3f).toInt64) - (1 : Int64)) <<< ((0 : Int32) &&& 0x3f).toInt64)), .second, .val (.int (1 : Int32)), .unset] [(.long ((((1 : Int64) <<< (b2v &&& 0x3f).toInt64) - (1 : Int64)) <<< ((0 : Int32) &&& 0x3f).toInt64)), (.int (po + (1 : Int32))), (.int (0 : Int32)), (.ref b371), (.ref b430)]))
      refine goCallS X507 hx hZ (y := (⟨"com/example/gieres/gieres/model/TupleTableSetStatePinLaw", "same", "([J[JIIJ)Z"⟩ : MethodName)) hown (hw _ (List.mem_of_getElem? (i := 50) rfl)) (hw _ (List.mem_of_getElem? (i := 51) rfl)) (hw _ (List.mem_of_getElem? (i := 52) rfl)) (hw _ (List.mem_of_getElem? (i := 53) rfl)) (by decide) (argsL := [(.ref b430), (.ref b371), (.int (0 : Int32)), (.int (po + (1 : Int32))), (.long ((((1 : Int64) <<< (b2v &&& 0x3f).toInt64) - (1 : Int64)) <<< ((0 : Int32) &&& 0x3f).toInt64))]) (rest := []) e507 (rmSame l Z a0 hw [] b430 b371 (0 : Int32) (po + (1 : Int32)) (4 : Int32) ((((1 : Int64) <<< (b2v &&& 0x3f).toInt64) - (1 : Int64)) <<< ((0 : Int32) &&& 0x3f).toInt64) 4 f1 f0 T495.heap n0 O496 KA495 VL505 rfl rfl (by decide) (own_same1 PL hf1) (own_same2 (by decide) HJ.1 hf1)) 0 (by decide) (by decide) (by decide) (by decide) (mkF m 391 #[.val (.int p0), .val (.int p1), .val (.int p2), .val (.long q3), .second, .val (.long q4), .second, .val (.int b0v), .val (.int b1v), .val (.int b2v), .val (.int (1 : Int32)), .val (.int (2 : Int32)), .val (.int (2 : Int32)), .val (.int po), .val (.int b2v), .val (.int (0 : Int32)), .val (.int (1 : Int32)), .val (.long (((1 : Int64) <<< (b2v &&& 0x3f).toInt64) - (1 : Int64))), .second, .val (.ref b342), .val (.ref b354), .val (.ref b371), .val (.ref b430), .val (.int (po + (1 : Int32))), .val (.long ((p2.toInt64) &&& (((1 : Int64) <<< (b2v &&& 0x3f).toInt64) - (1 : Int64)))), .second, .val (.long ((((1 : Int64) <<< (b2v &&& 0x3f).toInt64) - (1 : Int64)) <<< ((0 : Int32) &&& 0x3f).toInt64)), .second, .val (.int (1 : Int32)), .unset] [(.long ((((1 : Int64) <<< (b2v &&& 0x3f).toInt64) - (1 : Int64)) <<< ((0 : Int32) &&& 0x3f).toInt64)), (.int (po + (1 : Int32))), (.int (0 : Int32)), (.ref b371), (.ref b430)]) rfl (by rw [hml]; rfl) (lenOf pd_5 rfl) rfl (hb hby at_391) (Nat.le_of_eq rfl) ?_
      intro v508 T508 L508 X508 hQ508
      obtain ⟨rfl, M508, e508⟩ := hQ508
      have N508 := Fr.app N507 M508
      show Go p e below _ (T508.setTop (mkF m 394 #[.val (.int p0), .val (.int p1), .val (.int p2), .val (.long q3), .second, .val (.long q4), .second, .val (.int b0v), .val (.int b1v), .val (.int b2v), .val (.int (1 : Int32)), .val (.int (2 : Int32)), .val (.int (2 : Int32)), .val (.int po), .val (.int b2v), .val (.int (0 : Int32)), .val (.int (1 : Int32)), .val (.long (((1 : Int64) <<< (b2v &&& 0x3f).toInt64) - (1 : Int64))), .second, .val (.ref b342), .val (.ref b354), .val (.ref b371), .val (.ref b430), .val (.int (po + (1 : Int32))), .val (.long ((p2.toInt64) &&& (((1 : Int64) <<< (b2v &&& 0x3f).toInt64) - (1 : Int64)))), .second, .val (.long ((((1 : Int64) <<< (b2v &&& 0x3f).toInt64) - (1 : Int64)) <<< ((0 : Int32) &&& 0x3f).toInt64)), .second, .val (.int (1 : Int32)), .unset] [(.int (1 : Int32))]))
      refine Go.st (fun _ => XS.ifNo X508.here hx rfl (hb hby at_394) rfl ((if0 _ _).trans (feq (by decide : ¬ ((1 : Int32) = (0 : Int32)))).1)) ?_
      refine Go.st (fun _ => XS.aload X508.here hx rfl (hb hby at_397) rfl rfl) ?_
      refine Go.st (fun _ => XS.aload X508.here hx rfl (hb hby at_399) rfl rfl) ?_
      refine Go.st (fun _ => XS.iconst X508.here hx rfl (hb hby at_401)) ?_
      refine Go.st (fun _ => XS.iload X508.here hx rfl (hb hby at_402) rfl) ?_
      refine Go.st (fun _ => XS.lload X508.here hx rfl (hb hby at_404) rfl) ?_
      show Go p e below _ (T508.setTop (mkF m 406 #[.val (.int p0), .val (.int p1), .val (.int p2), .val (.long q3), .second, .val (.long q4), .second, .val (.int b0v), .val (.int b1v), .val (.int b2v), .val (.int (1 : Int32)), .val (.int (2 : Int32)), .val (.int (2 : Int32)), .val (.int po), .val (.int b2v), .val (.int (0 : Int32)), .val (.int (1 : Int32)), .val (.long (((1 : Int64) <<< (b2v &&& 0x3f).toInt64) - (1 : Int64))), .second, .val (.ref b342), .val (.ref b354), .val (.ref b371), .val (.ref b430), .val (.int (po + (1 : Int32))), .val (.long ((p2.toInt64) &&& (((1 : Int64) <<< (b2v &&& 0x3f).toInt64) - (1 : Int64)))), .second, .val (.long ((((1 : Int64) <<< (b2v &&& 0x3f).toInt64) - (1 : Int64)) <<< ((0 : Int32) &&& 0x3f).toInt64)), .second, .val (.int (1 : Int32)), .unset] [(.long ((((1 : Int64) <<< (b2v &&& 0x3f).toInt64) - (1 : Int64)) <<< ((0 : Int32) &&& 0x3f).toInt64)), (.int (po + (1 : Int32))), (.int (1 : Int32)), (.ref b371), (.ref b430)]))
      refine goCallS X508 hx hZ (y := (⟨"com/example/gieres/gieres/model/TupleTableSetStatePinLaw", "same", "([J[JIIJ)Z"⟩ : MethodName)) hown (hw _ (List.mem_of_getElem? (i := 50) rfl)) (hw _ (List.mem_of_getElem? (i := 51) rfl)) (hw _ (List.mem_of_getElem? (i := 52) rfl)) (hw _ (List.mem_of_getElem? (i := 53) rfl)) (by decide) (argsL := [(.ref b430), (.ref b371), (.int (1 : Int32)), (.int (po + (1 : Int32))), (.long ((((1 : Int64) <<< (b2v &&& 0x3f).toInt64) - (1 : Int64)) <<< ((0 : Int32) &&& 0x3f).toInt64))]) (rest := []) e508 (rmSame l Z a0 hw [] b430 b371 (1 : Int32) (po + (1 : Int32)) (4 : Int32) ((((1 : Int64) <<< (b2v &&& 0x3f).toInt64) - (1 : Int64)) <<< ((0 : Int32) &&& 0x3f).toInt64) 4 f1 f0 T495.heap n0 O496 KA495 VL505 rfl rfl (by decide) (own_same1 PL hf1) (own_same2 (by decide) HJ.1 hf1)) 0 (by decide) (by decide) (by decide) (by decide) (mkF m 406 #[.val (.int p0), .val (.int p1), .val (.int p2), .val (.long q3), .second, .val (.long q4), .second, .val (.int b0v), .val (.int b1v), .val (.int b2v), .val (.int (1 : Int32)), .val (.int (2 : Int32)), .val (.int (2 : Int32)), .val (.int po), .val (.int b2v), .val (.int (0 : Int32)), .val (.int (1 : Int32)), .val (.long (((1 : Int64) <<< (b2v &&& 0x3f).toInt64) - (1 : Int64))), .second, .val (.ref b342), .val (.ref b354), .val (.ref b371), .val (.ref b430), .val (.int (po + (1 : Int32))), .val (.long ((p2.toInt64) &&& (((1 : Int64) <<< (b2v &&& 0x3f).toInt64) - (1 : Int64)))), .second, .val (.long ((((1 : Int64) <<< (b2v &&& 0x3f).toInt64) - (1 : Int64)) <<< ((0 : Int32) &&& 0x3f).toInt64)), .second, .val (.int (1 : Int32)), .unset] [(.long ((((1 : Int64) <<< (b2v &&& 0x3f).toInt64) - (1 : Int64)) <<< ((0 : Int32) &&& 0x3f).toInt64)), (.int (po + (1 : Int32))), (.int (1 : Int32)), (.ref b371), (.ref b430)]) rfl (by rw [hml]; rfl) (lenOf pd_5 rfl) rfl (hb hby at_406) (Nat.le_of_eq rfl) ?_
      intro v509 T509 L509 X509 hQ509
      obtain ⟨rfl, M509, e509⟩ := hQ509
      have N509 := Fr.app N508 M509
      show Go p e below _ (T509.setTop (mkF m 409 #[.val (.int p0), .val (.int p1), .val (.int p2), .val (.long q3), .second, .val (.long q4), .second, .val (.int b0v), .val (.int b1v), .val (.int b2v), .val (.int (1 : Int32)), .val (.int (2 : Int32)), .val (.int (2 : Int32)), .val (.int po), .val (.int b2v), .val (.int (0 : Int32)), .val (.int (1 : Int32)), .val (.long (((1 : Int64) <<< (b2v &&& 0x3f).toInt64) - (1 : Int64))), .second, .val (.ref b342), .val (.ref b354), .val (.ref b371), .val (.ref b430), .val (.int (po + (1 : Int32))), .val (.long ((p2.toInt64) &&& (((1 : Int64) <<< (b2v &&& 0x3f).toInt64) - (1 : Int64)))), .second, .val (.long ((((1 : Int64) <<< (b2v &&& 0x3f).toInt64) - (1 : Int64)) <<< ((0 : Int32) &&& 0x3f).toInt64)), .second, .val (.int (1 : Int32)), .unset] [(.int (1 : Int32))]))
      refine Go.st (fun _ => XS.ifNo X509.here hx rfl (hb hby at_409) rfl ((if0 _ _).trans (feq (by decide : ¬ ((1 : Int32) = (0 : Int32)))).1)) ?_
      refine Go.st (fun _ => XS.aload X509.here hx rfl (hb hby at_412) rfl rfl) ?_
      refine Go.st (fun _ => XS.aload X509.here hx rfl (hb hby at_414) rfl rfl) ?_
      refine Go.st (fun _ => XS.iconst X509.here hx rfl (hb hby at_416)) ?_
      refine Go.st (fun _ => XS.iload X509.here hx rfl (hb hby at_417) rfl) ?_
      refine Go.st (fun _ => XS.lload X509.here hx rfl (hb hby at_419) rfl) ?_
      show Go p e below _ (T509.setTop (mkF m 421 #[.val (.int p0), .val (.int p1), .val (.int p2), .val (.long q3), .second, .val (.long q4), .second, .val (.int b0v), .val (.int b1v), .val (.int b2v), .val (.int (1 : Int32)), .val (.int (2 : Int32)), .val (.int (2 : Int32)), .val (.int po), .val (.int b2v), .val (.int (0 : Int32)), .val (.int (1 : Int32)), .val (.long (((1 : Int64) <<< (b2v &&& 0x3f).toInt64) - (1 : Int64))), .second, .val (.ref b342), .val (.ref b354), .val (.ref b371), .val (.ref b430), .val (.int (po + (1 : Int32))), .val (.long ((p2.toInt64) &&& (((1 : Int64) <<< (b2v &&& 0x3f).toInt64) - (1 : Int64)))), .second, .val (.long ((((1 : Int64) <<< (b2v &&& 0x3f).toInt64) - (1 : Int64)) <<< ((0 : Int32) &&& 0x3f).toInt64)), .second, .val (.int (1 : Int32)), .unset] [(.long ((((1 : Int64) <<< (b2v &&& 0x3f).toInt64) - (1 : Int64)) <<< ((0 : Int32) &&& 0x3f).toInt64)), (.int (po + (1 : Int32))), (.int (2 : Int32)), (.ref b371), (.ref b430)]))
      refine goCallS X509 hx hZ (y := (⟨"com/example/gieres/gieres/model/TupleTableSetStatePinLaw", "same", "([J[JIIJ)Z"⟩ : MethodName)) hown (hw _ (List.mem_of_getElem? (i := 50) rfl)) (hw _ (List.mem_of_getElem? (i := 51) rfl)) (hw _ (List.mem_of_getElem? (i := 52) rfl)) (hw _ (List.mem_of_getElem? (i := 53) rfl)) (by decide) (argsL := [(.ref b430), (.ref b371), (.int (2 : Int32)), (.int (po + (1 : Int32))), (.long ((((1 : Int64) <<< (b2v &&& 0x3f).toInt64) - (1 : Int64)) <<< ((0 : Int32) &&& 0x3f).toInt64))]) (rest := []) e509 (rmSame l Z a0 hw [] b430 b371 (2 : Int32) (po + (1 : Int32)) (4 : Int32) ((((1 : Int64) <<< (b2v &&& 0x3f).toInt64) - (1 : Int64)) <<< ((0 : Int32) &&& 0x3f).toInt64) 4 f1 f0 T495.heap n0 O496 KA495 VL505 rfl rfl (by decide) (own_same1 PL hf1) (own_same2 (by decide) HJ.1 hf1)) 0 (by decide) (by decide) (by decide) (by decide) (mkF m 421 #[.val (.int p0), .val (.int p1), .val (.int p2), .val (.long q3), .second, .val (.long q4), .second, .val (.int b0v), .val (.int b1v), .val (.int b2v), .val (.int (1 : Int32)), .val (.int (2 : Int32)), .val (.int (2 : Int32)), .val (.int po), .val (.int b2v), .val (.int (0 : Int32)), .val (.int (1 : Int32)), .val (.long (((1 : Int64) <<< (b2v &&& 0x3f).toInt64) - (1 : Int64))), .second, .val (.ref b342), .val (.ref b354), .val (.ref b371), .val (.ref b430), .val (.int (po + (1 : Int32))), .val (.long ((p2.toInt64) &&& (((1 : Int64) <<< (b2v &&& 0x3f).toInt64) - (1 : Int64)))), .second, .val (.long ((((1 : Int64) <<< (b2v &&& 0x3f).toInt64) - (1 : Int64)) <<< ((0 : Int32) &&& 0x3f).toInt64)), .second, .val (.int (1 : Int32)), .unset] [(.long ((((1 : Int64) <<< (b2v &&& 0x3f).toInt64) - (1 : Int64)) <<< ((0 : Int32) &&& 0x3f).toInt64)), (.int (po + (1 : Int32))), (.int (2 : Int32)), (.ref b371), (.ref b430)]) rfl (by rw [hml]; rfl) (lenOf pd_5 rfl) rfl (hb hby at_421) (Nat.le_of_eq rfl) ?_
      intro v510 T510 L510 X510 hQ510
      obtain ⟨rfl, M510, e510⟩ := hQ510
      have N510 := Fr.app N509 M510
      show Go p e below _ (T510.setTop (mkF m 424 #[.val (.int p0), .val (.int p1), .val (.int p2), .val (.long q3), .second, .val (.long q4), .second, .val (.int b0v), .val (.int b1v), .val (.int b2v), .val (.int (1 : Int32)), .val (.int (2 : Int32)), .val (.int (2 : Int32)), .val (.int po), .val (.int b2v), .val (.int (0 : Int32)), .val (.int (1 : Int32)), .val (.long (((1 : Int64) <<< (b2v &&& 0x3f).toInt64) - (1 : Int64))), .second, .val (.ref b342), .val (.ref b354), .val (.ref b371), .val (.ref b430), .val (.int (po + (1 : Int32))), .val (.long ((p2.toInt64) &&& (((1 : Int64) <<< (b2v &&& 0x3f).toInt64) - (1 : Int64)))), .second, .val (.long ((((1 : Int64) <<< (b2v &&& 0x3f).toInt64) - (1 : Int64)) <<< ((0 : Int32) &&& 0x3f).toInt64)), .second, .val (.int (1 : Int32)), .unset] [(.int (1 : Int32))]))
      refine Go.st (fun _ => XS.ifNo X510.here hx rfl (hb hby at_424) rfl ((if0 _ _).trans (feq (by decide : ¬ ((1 : Int32) = (0 : Int32)))).1)) ?_
      refine Go.st (fun _ => XS.aload X510.here hx rfl (hb hby at_427) rfl rfl) ?_
      refine Go.st (fun _ => XS.aload X510.here hx rfl (hb hby at_429) rfl rfl) ?_
      refine Go.st (fun _ => XS.iconst X510.here hx rfl (hb hby at_431)) ?_
      refine Go.st (fun _ => XS.iload X510.here hx rfl (hb hby at_432) rfl) ?_
      refine Go.st (fun _ => XS.lload X510.here hx rfl (hb hby at_434) rfl) ?_
      show Go p e below _ (T510.setTop (mkF m 436 #[.val (.int p0), .val (.int p1), .val (.int p2), .val (.long q3), .second, .val (.long q4), .second, .val (.int b0v), .val (.int b1v), .val (.int b2v), .val (.int (1 : Int32)), .val (.int (2 : Int32)), .val (.int (2 : Int32)), .val (.int po), .val (.int b2v), .val (.int (0 : Int32)), .val (.int (1 : Int32)), .val (.long (((1 : Int64) <<< (b2v &&& 0x3f).toInt64) - (1 : Int64))), .second, .val (.ref b342), .val (.ref b354), .val (.ref b371), .val (.ref b430), .val (.int (po + (1 : Int32))), .val (.long ((p2.toInt64) &&& (((1 : Int64) <<< (b2v &&& 0x3f).toInt64) - (1 : Int64)))), .second, .val (.long ((((1 : Int64) <<< (b2v &&& 0x3f).toInt64) - (1 : Int64)) <<< ((0 : Int32) &&& 0x3f).toInt64)), .second, .val (.int (1 : Int32)), .unset] [(.long ((((1 : Int64) <<< (b2v &&& 0x3f).toInt64) - (1 : Int64)) <<< ((0 : Int32) &&& 0x3f).toInt64)), (.int (po + (1 : Int32))), (.int (3 : Int32)), (.ref b371), (.ref b430)]))
      refine goCallS X510 hx hZ (y := (⟨"com/example/gieres/gieres/model/TupleTableSetStatePinLaw", "same", "([J[JIIJ)Z"⟩ : MethodName)) hown (hw _ (List.mem_of_getElem? (i := 50) rfl)) (hw _ (List.mem_of_getElem? (i := 51) rfl)) (hw _ (List.mem_of_getElem? (i := 52) rfl)) (hw _ (List.mem_of_getElem? (i := 53) rfl)) (by decide) (argsL := [(.ref b430), (.ref b371), (.int (3 : Int32)), (.int (po + (1 : Int32))), (.long ((((1 : Int64) <<< (b2v &&& 0x3f).toInt64) - (1 : Int64)) <<< ((0 : Int32) &&& 0x3f).toInt64))]) (rest := []) e510 (rmSame l Z a0 hw [] b430 b371 (3 : Int32) (po + (1 : Int32)) (4 : Int32) ((((1 : Int64) <<< (b2v &&& 0x3f).toInt64) - (1 : Int64)) <<< ((0 : Int32) &&& 0x3f).toInt64) 4 f1 f0 T495.heap n0 O496 KA495 VL505 rfl rfl (by decide) (own_same1 PL hf1) (own_same2 (by decide) HJ.1 hf1)) 0 (by decide) (by decide) (by decide) (by decide) (mkF m 436 #[.val (.int p0), .val (.int p1), .val (.int p2), .val (.long q3), .second, .val (.long q4), .second, .val (.int b0v), .val (.int b1v), .val (.int b2v), .val (.int (1 : Int32)), .val (.int (2 : Int32)), .val (.int (2 : Int32)), .val (.int po), .val (.int b2v), .val (.int (0 : Int32)), .val (.int (1 : Int32)), .val (.long (((1 : Int64) <<< (b2v &&& 0x3f).toInt64) - (1 : Int64))), .second, .val (.ref b342), .val (.ref b354), .val (.ref b371), .val (.ref b430), .val (.int (po + (1 : Int32))), .val (.long ((p2.toInt64) &&& (((1 : Int64) <<< (b2v &&& 0x3f).toInt64) - (1 : Int64)))), .second, .val (.long ((((1 : Int64) <<< (b2v &&& 0x3f).toInt64) - (1 : Int64)) <<< ((0 : Int32) &&& 0x3f).toInt64)), .second, .val (.int (1 : Int32)), .unset] [(.long ((((1 : Int64) <<< (b2v &&& 0x3f).toInt64) - (1 : Int64)) <<< ((0 : Int32) &&& 0x3f).toInt64)), (.int (po + (1 : Int32))), (.int (3 : Int32)), (.ref b371), (.ref b430)]) rfl (by rw [hml]; rfl) (lenOf pd_5 rfl) rfl (hb hby at_436) (Nat.le_of_eq rfl) ?_
      intro v511 T511 L511 X511 hQ511
      obtain ⟨rfl, M511, e511⟩ := hQ511
      have N511 := Fr.app N510 M511
      show Go p e below _ (T511.setTop (mkF m 439 #[.val (.int p0), .val (.int p1), .val (.int p2), .val (.long q3), .second, .val (.long q4), .second, .val (.int b0v), .val (.int b1v), .val (.int b2v), .val (.int (1 : Int32)), .val (.int (2 : Int32)), .val (.int (2 : Int32)), .val (.int po), .val (.int b2v), .val (.int (0 : Int32)), .val (.int (1 : Int32)), .val (.long (((1 : Int64) <<< (b2v &&& 0x3f).toInt64) - (1 : Int64))), .second, .val (.ref b342), .val (.ref b354), .val (.ref b371), .val (.ref b430), .val (.int (po + (1 : Int32))), .val (.long ((p2.toInt64) &&& (((1 : Int64) <<< (b2v &&& 0x3f).toInt64) - (1 : Int64)))), .second, .val (.long ((((1 : Int64) <<< (b2v &&& 0x3f).toInt64) - (1 : Int64)) <<< ((0 : Int32) &&& 0x3f).toInt64)), .second, .val (.int (1 : Int32)), .unset] [(.int (1 : Int32))]))
      refine Go.st (fun _ => XS.ifNo X511.here hx rfl (hb hby at_439) rfl ((if0 _ _).trans (feq (by decide : ¬ ((1 : Int32) = (0 : Int32)))).1)) ?_
      refine Go.st (fun _ => XS.iconst X511.here hx rfl (hb hby at_442)) ?_
      refine Go.st (fun _ => XS.goto X511.here hx rfl (pc0 := 443) (pc' := 447) rfl (hb hby at_443) (by decide) (by decide)) ?_
      refine Go.st (fun _ => XS.istore X511.here hx rfl (hb hby at_447) rfl (l' := #[.val (.int p0), .val (.int p1), .val (.int p2), .val (.long q3), .second, .val (.long q4), .second, .val (.int b0v), .val (.int b1v), .val (.int b2v), .val (.int (1 : Int32)), .val (.int (2 : Int32)), .val (.int (2 : Int32)), .val (.int po), .val (.int b2v), .val (.int (0 : Int32)), .val (.int (1 : Int32)), .val (.long (((1 : Int64) <<< (b2v &&& 0x3f).toInt64) - (1 : Int64))), .second, .val (.ref b342), .val (.ref b354), .val (.ref b371), .val (.ref b430), .val (.int (po + (1 : Int32))), .val (.long ((p2.toInt64) &&& (((1 : Int64) <<< (b2v &&& 0x3f).toInt64) - (1 : Int64)))), .second, .val (.long ((((1 : Int64) <<< (b2v &&& 0x3f).toInt64) - (1 : Int64)) <<< ((0 : Int32) &&& 0x3f).toInt64)), .second, .val (.int (1 : Int32)), .val (.int (1 : Int32))]) rfl) ?_
      refine Go.st (fun _ => XS.iload X511.here hx rfl (hb hby at_449) rfl) ?_
      refine Go.st (fun _ => XS.ifNo X511.here hx rfl (hb hby at_451) rfl ((if0 _ _).trans (feq (by decide : ¬ ((1 : Int32) = (0 : Int32)))).1)) ?_
      refine Go.st (fun _ => XS.iload X511.here hx rfl (hb hby at_454) rfl) ?_
      refine Go.st (fun _ => XS.ifNo X511.here hx rfl (hb hby at_456) rfl ((if0 _ _).trans (feq (by decide : ¬ ((1 : Int32) = (0 : Int32)))).1)) ?_
      refine Go.st (fun _ => XS.iconst X511.here hx rfl (hb hby at_459)) ?_
      refine Go.st (fun _ => XS.goto X511.here hx rfl (pc0 := 460) (pc' := 464) rfl (hb hby at_460) (by decide) (by decide)) ?_
      show Go p e below _ (T511.setTop (mkF m 464 #[.val (.int p0), .val (.int p1), .val (.int p2), .val (.long q3), .second, .val (.long q4), .second, .val (.int b0v), .val (.int b1v), .val (.int b2v), .val (.int (1 : Int32)), .val (.int (2 : Int32)), .val (.int (2 : Int32)), .val (.int po), .val (.int b2v), .val (.int (0 : Int32)), .val (.int (1 : Int32)), .val (.long (((1 : Int64) <<< (b2v &&& 0x3f).toInt64) - (1 : Int64))), .second, .val (.ref b342), .val (.ref b354), .val (.ref b371), .val (.ref b430), .val (.int (po + (1 : Int32))), .val (.long ((p2.toInt64) &&& (((1 : Int64) <<< (b2v &&& 0x3f).toInt64) - (1 : Int64)))), .second, .val (.long ((((1 : Int64) <<< (b2v &&& 0x3f).toInt64) - (1 : Int64)) <<< ((0 : Int32) &&& 0x3f).toInt64)), .second, .val (.int (1 : Int32)), .val (.int (1 : Int32))] [(.int (1 : Int32))]))
      exact goRetN X511 hx hlk hret (t := .boolean) (by simp) (w := (1 : Int32)) (by decide) e511 (hb hby at_464) (by decide) (by decide) ⟨rfl, N511⟩
  · refine Go.st (fun _ => XS.icmpYes X0.here hx rfl (pc0 := 43) (pc' := 50) rfl (hb hby at_43) rfl (flt hc1).2.2.2 (by decide) (by decide)) ?_
    refine Go.st (fun _ => XS.iconst X0.here hx rfl (hb hby at_50)) ?_
    refine Go.st (fun _ => XS.istore X0.here hx rfl (hb hby at_51) rfl (l' := #[.val (.int p0), .val (.int p1), .val (.int p2), .val (.long q3), .second, .val (.long q4), .second, .val (.int b0v), .val (.int b1v), .val (.int b2v), .val (.int (0 : Int32)), .unset, .unset, .unset, .unset, .unset, .unset, .unset, .unset, .unset, .unset, .unset, .unset, .unset, .unset, .unset, .unset, .unset, .unset, .unset]) rfl) ?_
    refine Go.st (fun _ => XS.iload X0.here hx rfl (hb hby at_53) rfl) ?_
    refine Go.st (fun _ => XS.ifYes X0.here hx rfl (pc0 := 55) (pc' := 62) rfl (hb hby at_55) rfl ((if0 _ _).trans (teq (by decide : (0 : Int32) = (0 : Int32))).1) (by decide) (by decide)) ?_
    refine Go.st (fun _ => XS.iconst X0.here hx rfl (hb hby at_62)) ?_
    refine Go.st (fun _ => XS.istore X0.here hx rfl (hb hby at_63) rfl (l' := #[.val (.int p0), .val (.int p1), .val (.int p2), .val (.long q3), .second, .val (.long q4), .second, .val (.int b0v), .val (.int b1v), .val (.int b2v), .val (.int (0 : Int32)), .val (.int (1 : Int32)), .unset, .unset, .unset, .unset, .unset, .unset, .unset, .unset, .unset, .unset, .unset, .unset, .unset, .unset, .unset, .unset, .unset, .unset]) rfl) ?_
    refine Go.st (fun _ => XS.iloadN X0.here hx rfl (hb hby at_65) rfl) ?_
    refine Go.st (fun _ => XS.iconst X0.here hx rfl (hb hby at_66)) ?_
    refine Go.st (fun _ => XS.iand X0.here hx rfl (hb hby at_67) rfl) ?_
    refine Go.st (fun _ => XS.iconst X0.here hx rfl (hb hby at_68)) ?_
    show Go p e below _ (s₁.setTop (mkF m 69 #[.val (.int p0), .val (.int p1), .val (.int p2), .val (.long q3), .second, .val (.long q4), .second, .val (.int b0v), .val (.int b1v), .val (.int b2v), .val (.int (0 : Int32)), .val (.int (1 : Int32)), .unset, .unset, .unset, .unset, .unset, .unset, .unset, .unset, .unset, .unset, .unset, .unset, .unset, .unset, .unset, .unset, .unset, .unset] [(.int (3 : Int32)), (.int (p1 &&& (3 : Int32)))]))
    refine Go.st (fun _ => iremM (g := (mkF m 69 #[.val (.int p0), .val (.int p1), .val (.int p2), .val (.long q3), .second, .val (.long q4), .second, .val (.int b0v), .val (.int b1v), .val (.int b2v), .val (.int (0 : Int32)), .val (.int (1 : Int32)), .unset, .unset, .unset, .unset, .unset, .unset, .unset, .unset, .unset, .unset, .unset, .unset, .unset, .unset, .unset, .unset, .unset, .unset] [(.int (3 : Int32)), (.int (p1 &&& (3 : Int32)))])) X0 hx rfl (hb hby at_69) rfl (by decide)) ?_
    show Go p e below _ (s₁.setTop (mkF m 70 #[.val (.int p0), .val (.int p1), .val (.int p2), .val (.long q3), .second, .val (.long q4), .second, .val (.int b0v), .val (.int b1v), .val (.int b2v), .val (.int (0 : Int32)), .val (.int (1 : Int32)), .unset, .unset, .unset, .unset, .unset, .unset, .unset, .unset, .unset, .unset, .unset, .unset, .unset, .unset, .unset, .unset, .unset, .unset] [(.int ((p1 &&& (3 : Int32)) % (3 : Int32)))]))
    rcases own_f3 p1 with qf | qf | qf
    · rw [qf]
      show Go p e below _ (s₁.setTop (mkF m 70 #[.val (.int p0), .val (.int p1), .val (.int p2), .val (.long q3), .second, .val (.long q4), .second, .val (.int b0v), .val (.int b1v), .val (.int b2v), .val (.int (0 : Int32)), .val (.int (1 : Int32)), .unset, .unset, .unset, .unset, .unset, .unset, .unset, .unset, .unset, .unset, .unset, .unset, .unset, .unset, .unset, .unset, .unset, .unset] [(.int (0 : Int32))]))
      refine Go.st (fun _ => XS.istore X0.here hx rfl (hb hby at_70) rfl (l' := #[.val (.int p0), .val (.int p1), .val (.int p2), .val (.long q3), .second, .val (.long q4), .second, .val (.int b0v), .val (.int b1v), .val (.int b2v), .val (.int (0 : Int32)), .val (.int (1 : Int32)), .val (.int (0 : Int32)), .unset, .unset, .unset, .unset, .unset, .unset, .unset, .unset, .unset, .unset, .unset, .unset, .unset, .unset, .unset, .unset, .unset]) rfl) ?_
      refine Go.st (fun _ => XS.iloadN X0.here hx rfl (hb hby at_72) rfl) ?_
      refine Go.st (fun _ => XS.iconst X0.here hx rfl (hb hby at_73)) ?_
      refine Go.st (fun _ => XS.iushr X0.here hx rfl (hb hby at_74) rfl) ?_
      refine Go.st (fun _ => XS.iconst X0.here hx rfl (hb hby at_75)) ?_
      refine Go.st (fun _ => XS.iand X0.here hx rfl (hb hby at_76) rfl) ?_
      refine Go.st (fun _ => XS.iload X0.here hx rfl (hb hby at_77) rfl) ?_
      refine Go.st (fun _ => XS.imul X0.here hx rfl (hb hby at_79) rfl) ?_
      refine Go.st (fun _ => XS.istore X0.here hx rfl (hb hby at_80) rfl (l' := #[.val (.int p0), .val (.int p1), .val (.int p2), .val (.long q3), .second, .val (.long q4), .second, .val (.int b0v), .val (.int b1v), .val (.int b2v), .val (.int (0 : Int32)), .val (.int (1 : Int32)), .val (.int (0 : Int32)), .val (.int ((((p1.toUInt32 >>> ((2 : Int32) &&& 31).toUInt32).toInt32) &&& (1 : Int32)) * (1 : Int32))), .unset, .unset, .unset, .unset, .unset, .unset, .unset, .unset, .unset, .unset, .unset, .unset, .unset, .unset, .unset, .unset]) rfl) ?_
      show Go p e below _ (s₁.setTop (mkF m 82 #[.val (.int p0), .val (.int p1), .val (.int p2), .val (.long q3), .second, .val (.long q4), .second, .val (.int b0v), .val (.int b1v), .val (.int b2v), .val (.int (0 : Int32)), .val (.int (1 : Int32)), .val (.int (0 : Int32)), .val (.int ((((p1.toUInt32 >>> ((2 : Int32) &&& 31).toUInt32).toInt32) &&& (1 : Int32)) * (1 : Int32))), .unset, .unset, .unset, .unset, .unset, .unset, .unset, .unset, .unset, .unset, .unset, .unset, .unset, .unset, .unset, .unset] []))
      obtain ⟨po, hpo⟩ : ∃ z, z = ((((p1.toUInt32 >>> ((2 : Int32) &&& 31).toUInt32).toInt32) &&& (1 : Int32)) * (1 : Int32)) := ⟨_, rfl⟩
      rw [← hpo]
      have hpb : po = 0 ∨ po = 1 := by rw [hpo]; exact own_po _ _
      have HJ : 0 ≤ (po + (0 : Int32)).toInt ∧ (po + (0 : Int32)).toInt < (2 : Nat) := by rcases hpb with q | q <;> rw [q] <;> decide
      show Go p e below _ (s₁.setTop (mkF m 82 #[.val (.int p0), .val (.int p1), .val (.int p2), .val (.long q3), .second, .val (.long q4), .second, .val (.int b0v), .val (.int b1v), .val (.int b2v), .val (.int (0 : Int32)), .val (.int (1 : Int32)), .val (.int (0 : Int32)), .val (.int po), .unset, .unset, .unset, .unset, .unset, .unset, .unset, .unset, .unset, .unset, .unset, .unset, .unset, .unset, .unset, .unset] []))
      refine Go.st (fun _ => XS.iload X0.here hx rfl (hb hby at_82) rfl) ?_
      refine Go.st (fun _ => XS.ifNo X0.here hx rfl (hb hby at_84) rfl ((if0 _ _).trans (teq (by decide : (0 : Int32) = (0 : Int32))).2)) ?_
      refine Go.st (fun _ => XS.iload X0.here hx rfl (hb hby at_87) rfl) ?_
      refine Go.st (fun _ => XS.goto X0.here hx rfl (pc0 := 89) (pc' := 105) rfl (hb hby at_89) (by decide) (by decide)) ?_
      refine Go.st (fun _ => XS.istore X0.here hx rfl (hb hby at_105) rfl (l' := #[.val (.int p0), .val (.int p1), .val (.int p2), .val (.long q3), .second, .val (.long q4), .second, .val (.int b0v), .val (.int b1v), .val (.int b2v), .val (.int (0 : Int32)), .val (.int (1 : Int32)), .val (.int (0 : Int32)), .val (.int po), .val (.int b0v), .unset, .unset, .unset, .unset, .unset, .unset, .unset, .unset, .unset, .unset, .unset, .unset, .unset, .unset, .unset]) rfl) ?_
      refine Go.st (fun _ => XS.iload X0.here hx rfl (hb hby at_107) rfl) ?_
      refine Go.st (fun _ => XS.ifNo X0.here hx rfl (hb hby at_109) rfl ((if0 _ _).trans (teq (by decide : (0 : Int32) = (0 : Int32))).2)) ?_
      refine Go.st (fun _ => XS.iconst X0.here hx rfl (hb hby at_112)) ?_
      refine Go.st (fun _ => XS.goto X0.here hx rfl (pc0 := 113) (pc' := 141) rfl (hb hby at_113) (by decide) (by decide)) ?_
      refine Go.st (fun _ => XS.istore X0.here hx rfl (hb hby at_141) rfl (l' := #[.val (.int p0), .val (.int p1), .val (.int p2), .val (.long q3), .second, .val (.long q4), .second, .val (.int b0v), .val (.int b1v), .val (.int b2v), .val (.int (0 : Int32)), .val (.int (1 : Int32)), .val (.int (0 : Int32)), .val (.int po), .val (.int b0v), .val (.int (0 : Int32)), .unset, .unset, .unset, .unset, .unset, .unset, .unset, .unset, .unset, .unset, .unset, .unset, .unset, .unset]) rfl) ?_
      refine Go.st (fun _ => XS.iload X0.here hx rfl (hb hby at_143) rfl) ?_
      refine Go.st (fun _ => XS.iconst X0.here hx rfl (hb hby at_145)) ?_
      show Go p e below _ (s₁.setTop (mkF m 146 #[.val (.int p0), .val (.int p1), .val (.int p2), .val (.long q3), .second, .val (.long q4), .second, .val (.int b0v), .val (.int b1v), .val (.int b2v), .val (.int (0 : Int32)), .val (.int (1 : Int32)), .val (.int (0 : Int32)), .val (.int po), .val (.int b0v), .val (.int (0 : Int32)), .unset, .unset, .unset, .unset, .unset, .unset, .unset, .unset, .unset, .unset, .unset, .unset, .unset, .unset] [(.int (2 : Int32)), (.int (0 : Int32))]))
      refine Go.st (fun _ => XS.icmpYes X0.here hx rfl (pc0 := 146) (pc' := 158) rfl (hb hby at_146) rfl (feq (by decide : ¬ ((0 : Int32) = (2 : Int32)))).2 (by decide) (by decide)) ?_
      refine Go.st (fun _ => XS.iconst X0.here hx rfl (hb hby at_158)) ?_
      refine Go.st (fun _ => XS.istore X0.here hx rfl (hb hby at_159) rfl (l' := #[.val (.int p0), .val (.int p1), .val (.int p2), .val (.long q3), .second, .val (.long q4), .second, .val (.int b0v), .val (.int b1v), .val (.int b2v), .val (.int (0 : Int32)), .val (.int (1 : Int32)), .val (.int (0 : Int32)), .val (.int po), .val (.int b0v), .val (.int (0 : Int32)), .val (.int (0 : Int32)), .unset, .unset, .unset, .unset, .unset, .unset, .unset, .unset, .unset, .unset, .unset, .unset, .unset]) rfl) ?_
      refine Go.st (fun _ => XS.lconst X0.here hx rfl (hb hby at_161)) ?_
      refine Go.st (fun _ => XS.iload X0.here hx rfl (hb hby at_162) rfl) ?_
      refine Go.st (fun _ => XS.lshl X0.here hx rfl (hb hby at_164) rfl) ?_
      refine Go.st (fun _ => XS.lconst X0.here hx rfl (hb hby at_165)) ?_
      refine Go.st (fun _ => XS.lsub X0.here hx rfl (hb hby at_166) rfl) ?_
      refine Go.st (fun _ => XS.lstore X0.here hx rfl (hb hby at_167) rfl (l' := #[.val (.int p0), .val (.int p1), .val (.int p2), .val (.long q3), .second, .val (.long q4), .second, .val (.int b0v), .val (.int b1v), .val (.int b2v), .val (.int (0 : Int32)), .val (.int (1 : Int32)), .val (.int (0 : Int32)), .val (.int po), .val (.int b0v), .val (.int (0 : Int32)), .val (.int (0 : Int32)), .val (.long (((1 : Int64) <<< (b0v &&& 0x3f).toInt64) - (1 : Int64))), .second, .unset, .unset, .unset, .unset, .unset, .unset, .unset, .unset, .unset, .unset, .unset]) rfl) ?_
      refine Go.st (fun _ => XS.iconst X0.here hx rfl (hb hby at_169)) ?_
      show Go p e below _ (s₁.setTop (mkF m 170 #[.val (.int p0), .val (.int p1), .val (.int p2), .val (.long q3), .second, .val (.long q4), .second, .val (.int b0v), .val (.int b1v), .val (.int b2v), .val (.int (0 : Int32)), .val (.int (1 : Int32)), .val (.int (0 : Int32)), .val (.int po), .val (.int b0v), .val (.int (0 : Int32)), .val (.int (0 : Int32)), .val (.long (((1 : Int64) <<< (b0v &&& 0x3f).toInt64) - (1 : Int64))), .second, .unset, .unset, .unset, .unset, .unset, .unset, .unset, .unset, .unset, .unset, .unset] [(.int (3 : Int32))]))
      obtain ⟨T512, h512, k512, X512, e512, E512, A512, st512⟩ := newP X0 hx hZ (hw _ (List.mem_of_getElem? (i := 0) rfl)) e0 (g := (mkF m 170 #[.val (.int p0), .val (.int p1), .val (.int p2), .val (.long q3), .second, .val (.long q4), .second, .val (.int b0v), .val (.int b1v), .val (.int b2v), .val (.int (0 : Int32)), .val (.int (1 : Int32)), .val (.int (0 : Int32)), .val (.int po), .val (.int b0v), .val (.int (0 : Int32)), .val (.int (0 : Int32)), .val (.long (((1 : Int64) <<< (b0v &&& 0x3f).toInt64) - (1 : Int64))), .second, .unset, .unset, .unset, .unset, .unset, .unset, .unset, .unset, .unset, .unset, .unset] [(.int (3 : Int32))])) rfl (hb hby at_170) rfl (by decide) (cap := 3) (by decide) (by decide) (by decide) (by decide)
      obtain ⟨b512, g512⟩ : ∃ z, z = h0.size := ⟨_, rfl⟩
      rw [← g512] at A512 st512
      refine Go.st st512 ?_
      have gn512 : n0 ≤ b512 := oldGe O0 g512
      have O513 : Old Z n0 h512 := O0.ext E512
      have V_514 : Arv Z h512 b512 k512 .long (3 : Int32) [(.long (0 : Int64)), (.long (0 : Int64)), (.long (0 : Int64))] (.long (0 : Int64)) := (Arv.new A512 (by decide)).pad (pad_rep [] (.long (0 : Int64)) 3)
      show Go p e below _ (T512.setTop (mkF m 172 #[.val (.int p0), .val (.int p1), .val (.int p2), .val (.long q3), .second, .val (.long q4), .second, .val (.int b0v), .val (.int b1v), .val (.int b2v), .val (.int (0 : Int32)), .val (.int (1 : Int32)), .val (.int (0 : Int32)), .val (.int po), .val (.int b0v), .val (.int (0 : Int32)), .val (.int (0 : Int32)), .val (.long (((1 : Int64) <<< (b0v &&& 0x3f).toInt64) - (1 : Int64))), .second, .unset, .unset, .unset, .unset, .unset, .unset, .unset, .unset, .unset, .unset, .unset] [(.ref b512)]))
      refine Go.st (fun _ => XS.dup X512.here hx rfl (hb hby at_172) rfl rfl) ?_
      refine Go.st (fun _ => XS.iconst X512.here hx rfl (hb hby at_173)) ?_
      refine Go.st (fun _ => XS.lconst X512.here hx rfl (hb hby at_174)) ?_
      refine Go.st (fun _ => XS.iload X512.here hx rfl (hb hby at_175) rfl) ?_
      refine Go.st (fun _ => XS.lshl X512.here hx rfl (hb hby at_177) rfl) ?_
      show Go p e below _ (T512.setTop (mkF m 178 #[.val (.int p0), .val (.int p1), .val (.int p2), .val (.long q3), .second, .val (.long q4), .second, .val (.int b0v), .val (.int b1v), .val (.int b2v), .val (.int (0 : Int32)), .val (.int (1 : Int32)), .val (.int (0 : Int32)), .val (.int po), .val (.int b0v), .val (.int (0 : Int32)), .val (.int (0 : Int32)), .val (.long (((1 : Int64) <<< (b0v &&& 0x3f).toInt64) - (1 : Int64))), .second, .unset, .unset, .unset, .unset, .unset, .unset, .unset, .unset, .unset, .unset, .unset] [(.long ((1 : Int64) <<< (b0v &&& 0x3f).toInt64)), (.int (0 : Int32)), (.ref b512), (.ref b512)]))
      obtain ⟨cl515, Ar515, qk515, Sz515, Nn515, Ha515, Ga515⟩ := id V_514
      have hin515 : ¬ ((0 : Int32) < 0 ∨ cl515.slots.size ≤ ((0 : Int32) : Int32).toNatClampNeg) := inb_of Sz515 ⟨by decide, by decide⟩
      obtain ⟨T515, h515, X515, e515, W515, st515⟩ := stJ X512 hx hZ e512 Ar515 (j := (0 : Int32)) hin515 (g := (mkF m 178 #[.val (.int p0), .val (.int p1), .val (.int p2), .val (.long q3), .second, .val (.long q4), .second, .val (.int b0v), .val (.int b1v), .val (.int b2v), .val (.int (0 : Int32)), .val (.int (1 : Int32)), .val (.int (0 : Int32)), .val (.int po), .val (.int b0v), .val (.int (0 : Int32)), .val (.int (0 : Int32)), .val (.long (((1 : Int64) <<< (b0v &&& 0x3f).toInt64) - (1 : Int64))), .second, .unset, .unset, .unset, .unset, .unset, .unset, .unset, .unset, .unset, .unset, .unset] [(.long ((1 : Int64) <<< (b0v &&& 0x3f).toInt64)), (.int (0 : Int32)), (.ref b512), (.ref b512)])) rfl rfl (hb hby at_178)
      refine Go.st st515 ?_
      have O516 : Old Z n0 h515 := O513.wr W515 gn512
      have V_517 : Arv Z h515 b512 k512 .long (3 : Int32) [(.long ((1 : Int64) <<< (b0v &&& 0x3f).toInt64)), (.long (0 : Int64)), (.long (0 : Int64))] (.long (0 : Int64)) := Arv.set Ar515 qk515 Sz515 Nn515 Ha515 Ga515 rfl W515 0 rfl (Nat.le_of_ble_eq_true rfl)
      have N515 := Fr.snoc X515 N0 gn512
      show Go p e below _ (T515.setTop (mkF m 179 #[.val (.int p0), .val (.int p1), .val (.int p2), .val (.long q3), .second, .val (.long q4), .second, .val (.int b0v), .val (.int b1v), .val (.int b2v), .val (.int (0 : Int32)), .val (.int (1 : Int32)), .val (.int (0 : Int32)), .val (.int po), .val (.int b0v), .val (.int (0 : Int32)), .val (.int (0 : Int32)), .val (.long (((1 : Int64) <<< (b0v &&& 0x3f).toInt64) - (1 : Int64))), .second, .unset, .unset, .unset, .unset, .unset, .unset, .unset, .unset, .unset, .unset, .unset] [(.ref b512)]))
      refine Go.st (fun _ => XS.dup X515.here hx rfl (hb hby at_179) rfl rfl) ?_
      refine Go.st (fun _ => XS.iconst X515.here hx rfl (hb hby at_180)) ?_
      refine Go.st (fun _ => XS.lconst X515.here hx rfl (hb hby at_181)) ?_
      refine Go.st (fun _ => XS.iload X515.here hx rfl (hb hby at_182) rfl) ?_
      refine Go.st (fun _ => XS.lshl X515.here hx rfl (hb hby at_184) rfl) ?_
      show Go p e below _ (T515.setTop (mkF m 185 #[.val (.int p0), .val (.int p1), .val (.int p2), .val (.long q3), .second, .val (.long q4), .second, .val (.int b0v), .val (.int b1v), .val (.int b2v), .val (.int (0 : Int32)), .val (.int (1 : Int32)), .val (.int (0 : Int32)), .val (.int po), .val (.int b0v), .val (.int (0 : Int32)), .val (.int (0 : Int32)), .val (.long (((1 : Int64) <<< (b0v &&& 0x3f).toInt64) - (1 : Int64))), .second, .unset, .unset, .unset, .unset, .unset, .unset, .unset, .unset, .unset, .unset, .unset] [(.long ((1 : Int64) <<< (b1v &&& 0x3f).toInt64)), (.int (1 : Int32)), (.ref b512), (.ref b512)]))
      obtain ⟨cl518, Ar518, qk518, Sz518, Nn518, Ha518, Ga518⟩ := id V_517
      have hin518 : ¬ ((1 : Int32) < 0 ∨ cl518.slots.size ≤ ((1 : Int32) : Int32).toNatClampNeg) := inb_of Sz518 ⟨by decide, by decide⟩
      obtain ⟨T518, h518, X518, e518, W518, st518⟩ := stJ X515 hx hZ e515 Ar518 (j := (1 : Int32)) hin518 (g := (mkF m 185 #[.val (.int p0), .val (.int p1), .val (.int p2), .val (.long q3), .second, .val (.long q4), .second, .val (.int b0v), .val (.int b1v), .val (.int b2v), .val (.int (0 : Int32)), .val (.int (1 : Int32)), .val (.int (0 : Int32)), .val (.int po), .val (.int b0v), .val (.int (0 : Int32)), .val (.int (0 : Int32)), .val (.long (((1 : Int64) <<< (b0v &&& 0x3f).toInt64) - (1 : Int64))), .second, .unset, .unset, .unset, .unset, .unset, .unset, .unset, .unset, .unset, .unset, .unset] [(.long ((1 : Int64) <<< (b1v &&& 0x3f).toInt64)), (.int (1 : Int32)), (.ref b512), (.ref b512)])) rfl rfl (hb hby at_185)
      refine Go.st st518 ?_
      have O519 : Old Z n0 h518 := O516.wr W518 gn512
      have V_520 : Arv Z h518 b512 k512 .long (3 : Int32) [(.long ((1 : Int64) <<< (b0v &&& 0x3f).toInt64)), (.long ((1 : Int64) <<< (b1v &&& 0x3f).toInt64)), (.long (0 : Int64))] (.long (0 : Int64)) := Arv.set Ar518 qk518 Sz518 Nn518 Ha518 Ga518 rfl W518 1 rfl (Nat.le_of_ble_eq_true rfl)
      have N518 := Fr.snoc X518 N515 gn512
      show Go p e below _ (T518.setTop (mkF m 186 #[.val (.int p0), .val (.int p1), .val (.int p2), .val (.long q3), .second, .val (.long q4), .second, .val (.int b0v), .val (.int b1v), .val (.int b2v), .val (.int (0 : Int32)), .val (.int (1 : Int32)), .val (.int (0 : Int32)), .val (.int po), .val (.int b0v), .val (.int (0 : Int32)), .val (.int (0 : Int32)), .val (.long (((1 : Int64) <<< (b0v &&& 0x3f).toInt64) - (1 : Int64))), .second, .unset, .unset, .unset, .unset, .unset, .unset, .unset, .unset, .unset, .unset, .unset] [(.ref b512)]))
      refine Go.st (fun _ => XS.dup X518.here hx rfl (hb hby at_186) rfl rfl) ?_
      refine Go.st (fun _ => XS.iconst X518.here hx rfl (hb hby at_187)) ?_
      refine Go.st (fun _ => XS.lconst X518.here hx rfl (hb hby at_188)) ?_
      refine Go.st (fun _ => XS.iload X518.here hx rfl (hb hby at_189) rfl) ?_
      refine Go.st (fun _ => XS.lshl X518.here hx rfl (hb hby at_191) rfl) ?_
      show Go p e below _ (T518.setTop (mkF m 192 #[.val (.int p0), .val (.int p1), .val (.int p2), .val (.long q3), .second, .val (.long q4), .second, .val (.int b0v), .val (.int b1v), .val (.int b2v), .val (.int (0 : Int32)), .val (.int (1 : Int32)), .val (.int (0 : Int32)), .val (.int po), .val (.int b0v), .val (.int (0 : Int32)), .val (.int (0 : Int32)), .val (.long (((1 : Int64) <<< (b0v &&& 0x3f).toInt64) - (1 : Int64))), .second, .unset, .unset, .unset, .unset, .unset, .unset, .unset, .unset, .unset, .unset, .unset] [(.long ((1 : Int64) <<< (b2v &&& 0x3f).toInt64)), (.int (2 : Int32)), (.ref b512), (.ref b512)]))
      obtain ⟨cl521, Ar521, qk521, Sz521, Nn521, Ha521, Ga521⟩ := id V_520
      have hin521 : ¬ ((2 : Int32) < 0 ∨ cl521.slots.size ≤ ((2 : Int32) : Int32).toNatClampNeg) := inb_of Sz521 ⟨by decide, by decide⟩
      obtain ⟨T521, h521, X521, e521, W521, st521⟩ := stJ X518 hx hZ e518 Ar521 (j := (2 : Int32)) hin521 (g := (mkF m 192 #[.val (.int p0), .val (.int p1), .val (.int p2), .val (.long q3), .second, .val (.long q4), .second, .val (.int b0v), .val (.int b1v), .val (.int b2v), .val (.int (0 : Int32)), .val (.int (1 : Int32)), .val (.int (0 : Int32)), .val (.int po), .val (.int b0v), .val (.int (0 : Int32)), .val (.int (0 : Int32)), .val (.long (((1 : Int64) <<< (b0v &&& 0x3f).toInt64) - (1 : Int64))), .second, .unset, .unset, .unset, .unset, .unset, .unset, .unset, .unset, .unset, .unset, .unset] [(.long ((1 : Int64) <<< (b2v &&& 0x3f).toInt64)), (.int (2 : Int32)), (.ref b512), (.ref b512)])) rfl rfl (hb hby at_192)
      refine Go.st st521 ?_
      have O522 : Old Z n0 h521 := O519.wr W521 gn512
      have V_523 : Arv Z h521 b512 k512 .long (3 : Int32) [(.long ((1 : Int64) <<< (b0v &&& 0x3f).toInt64)), (.long ((1 : Int64) <<< (b1v &&& 0x3f).toInt64)), (.long ((1 : Int64) <<< (b2v &&& 0x3f).toInt64))] (.long (0 : Int64)) := Arv.set Ar521 qk521 Sz521 Nn521 Ha521 Ga521 rfl W521 2 rfl (Nat.le_of_ble_eq_true rfl)
      have N521 := Fr.snoc X521 N518 gn512
      show Go p e below _ (T521.setTop (mkF m 193 #[.val (.int p0), .val (.int p1), .val (.int p2), .val (.long q3), .second, .val (.long q4), .second, .val (.int b0v), .val (.int b1v), .val (.int b2v), .val (.int (0 : Int32)), .val (.int (1 : Int32)), .val (.int (0 : Int32)), .val (.int po), .val (.int b0v), .val (.int (0 : Int32)), .val (.int (0 : Int32)), .val (.long (((1 : Int64) <<< (b0v &&& 0x3f).toInt64) - (1 : Int64))), .second, .unset, .unset, .unset, .unset, .unset, .unset, .unset, .unset, .unset, .unset, .unset] [(.ref b512)]))
      refine Go.st (fun _ => XS.astore X521.here hx rfl (hb hby at_193) rfl rfl (l' := #[.val (.int p0), .val (.int p1), .val (.int p2), .val (.long q3), .second, .val (.long q4), .second, .val (.int b0v), .val (.int b1v), .val (.int b2v), .val (.int (0 : Int32)), .val (.int (1 : Int32)), .val (.int (0 : Int32)), .val (.int po), .val (.int b0v), .val (.int (0 : Int32)), .val (.int (0 : Int32)), .val (.long (((1 : Int64) <<< (b0v &&& 0x3f).toInt64) - (1 : Int64))), .second, .val (.ref b512), .unset, .unset, .unset, .unset, .unset, .unset, .unset, .unset, .unset, .unset]) rfl) ?_
      show Go p e below _ (T521.setTop (mkF m 195 #[.val (.int p0), .val (.int p1), .val (.int p2), .val (.long q3), .second, .val (.long q4), .second, .val (.int b0v), .val (.int b1v), .val (.int b2v), .val (.int (0 : Int32)), .val (.int (1 : Int32)), .val (.int (0 : Int32)), .val (.int po), .val (.int b0v), .val (.int (0 : Int32)), .val (.int (0 : Int32)), .val (.long (((1 : Int64) <<< (b0v &&& 0x3f).toInt64) - (1 : Int64))), .second, .val (.ref b512), .unset, .unset, .unset, .unset, .unset, .unset, .unset, .unset, .unset, .unset] []))
      obtain ⟨T524, h524, X524, e524, E524, A524, D524, U524, st524⟩ := newO X521 hx hZ hown (hw _ (List.mem_of_getElem? (i := 1) rfl)) (hw _ (List.mem_of_getElem? (i := 2) rfl)) (hw _ (List.mem_of_getElem? (i := 3) rfl)) e521 (g := (mkF m 195 #[.val (.int p0), .val (.int p1), .val (.int p2), .val (.long q3), .second, .val (.long q4), .second, .val (.int b0v), .val (.int b1v), .val (.int b2v), .val (.int (0 : Int32)), .val (.int (1 : Int32)), .val (.int (0 : Int32)), .val (.int po), .val (.int b0v), .val (.int (0 : Int32)), .val (.int (0 : Int32)), .val (.long (((1 : Int64) <<< (b0v &&& 0x3f).toInt64) - (1 : Int64))), .second, .val (.ref b512), .unset, .unset, .unset, .unset, .unset, .unset, .unset, .unset, .unset, .unset] [])) rfl (hb hby at_195) (by decide) (by decide)
      obtain ⟨b524, g524⟩ : ∃ z, z = h521.size := ⟨_, rfl⟩
      rw [← g524] at A524 D524 U524 st524
      refine Go.st st524 ?_
      have gn524 : n0 ≤ b524 := oldGe O522 g524
      have ne525 : b512 ≠ b524 := Nat.ne_of_lt (Nat.lt_of_lt_of_le V_523.lt (Nat.le_of_eq g524.symm))
      have O526 : Old Z n0 h524 := O522.ext E524
      have V_527 : Arv Z h524 b512 k512 .long (3 : Int32) [(.long ((1 : Int64) <<< (b0v &&& 0x3f).toInt64)), (.long ((1 : Int64) <<< (b1v &&& 0x3f).toInt64)), (.long ((1 : Int64) <<< (b2v &&& 0x3f).toInt64))] (.long (0 : Int64)) := V_523.ext E524
      have F528 : Fld Z h524 b524 "com/example/gieres/gieres/model/TupleTable" "pages" "[[J" .null := D524 (Or.inl (hw _ (List.mem_of_getElem? (i := 13) rfl))) (ty := (.array (.array .long))) (by decide)
      have F529 : Fld Z h524 b524 "com/example/gieres/gieres/model/TupleTable" "slotBits" "I" (.int (0 : Int32)) := D524 (Or.inl (hw _ (List.mem_of_getElem? (i := 15) rfl))) (ty := .int) (by decide)
      have F530 : Fld Z h524 b524 "com/example/gieres/gieres/model/TupleTable" "slots" "[I" .null := D524 (Or.inl (hw _ (List.mem_of_getElem? (i := 18) rfl))) (ty := (.array .int)) (by decide)
      have F531 : Fld Z h524 b524 "com/example/gieres/gieres/model/TupleTable" "hashes" "[J" .null := D524 (Or.inl (hw _ (List.mem_of_getElem? (i := 20) rfl))) (ty := (.array .long)) (by decide)
      have F532 : Fld Z h524 b524 "com/example/gieres/gieres/model/TupleTable" "found" "[I" .null := D524 (Or.inl (hw _ (List.mem_of_getElem? (i := 22) rfl))) (ty := (.array .int)) (by decide)
      have F533 : Fld Z h524 b524 "com/example/gieres/gieres/model/TupleTable" "word" "[I" .null := D524 (Or.inr (hw _ (List.mem_of_getElem? (i := 24) rfl))) (ty := (.array .int)) (by decide)
      have F534 : Fld Z h524 b524 "com/example/gieres/gieres/model/TupleTable" "shift" "[I" .null := D524 (Or.inr (hw _ (List.mem_of_getElem? (i := 26) rfl))) (ty := (.array .int)) (by decide)
      have F535 : Fld Z h524 b524 "com/example/gieres/gieres/model/TupleTable" "mask" "[J" .null := D524 (Or.inr (hw _ (List.mem_of_getElem? (i := 28) rfl))) (ty := (.array .long)) (by decide)
      have F536 : Fld Z h524 b524 "com/example/gieres/gieres/model/TupleTable" "width" "I" (.int (0 : Int32)) := D524 (Or.inr (hw _ (List.mem_of_getElem? (i := 38) rfl))) (ty := .int) (by decide)
      show Go p e below _ (T524.setTop (mkF m 198 #[.val (.int p0), .val (.int p1), .val (.int p2), .val (.long q3), .second, .val (.long q4), .second, .val (.int b0v), .val (.int b1v), .val (.int b2v), .val (.int (0 : Int32)), .val (.int (1 : Int32)), .val (.int (0 : Int32)), .val (.int po), .val (.int b0v), .val (.int (0 : Int32)), .val (.int (0 : Int32)), .val (.long (((1 : Int64) <<< (b0v &&& 0x3f).toInt64) - (1 : Int64))), .second, .val (.ref b512), .unset, .unset, .unset, .unset, .unset, .unset, .unset, .unset, .unset, .unset] [(.ref b524)]))
      refine Go.st (fun _ => XS.dup X524.here hx rfl (hb hby at_198) rfl rfl) ?_
      refine Go.st (fun _ => XS.aload X524.here hx rfl (hb hby at_199) rfl rfl) ?_
      show Go p e below _ (T524.setTop (mkF m 201 #[.val (.int p0), .val (.int p1), .val (.int p2), .val (.long q3), .second, .val (.long q4), .second, .val (.int b0v), .val (.int b1v), .val (.int b2v), .val (.int (0 : Int32)), .val (.int (1 : Int32)), .val (.int (0 : Int32)), .val (.int po), .val (.int b0v), .val (.int (0 : Int32)), .val (.int (0 : Int32)), .val (.long (((1 : Int64) <<< (b0v &&& 0x3f).toInt64) - (1 : Int64))), .second, .val (.ref b512), .unset, .unset, .unset, .unset, .unset, .unset, .unset, .unset, .unset, .unset] [(.ref b512), (.ref b524), (.ref b524)]))
      refine goInit X524 hx hZ (y := (⟨"com/example/gieres/gieres/model/TupleTable", "<init>", "([J)V"⟩ : MethodName)) rfl hown (hw _ (List.mem_of_getElem? (i := 4) rfl)) (hw _ (List.mem_of_getElem? (i := 5) rfl)) (hw _ (List.mem_of_getElem? (i := 3) rfl)) (hw _ (List.mem_of_getElem? (i := 6) rfl)) (by decide) (a := b524) (argsL := [(.ref b512)]) (rest := [(.ref b524)]) e524 (rmTT l Z a0 hw [] b524 b512 k512 ((1 : Int64) <<< (b0v &&& 0x3f).toInt64) ((1 : Int64) <<< (b1v &&& 0x3f).toInt64) ((1 : Int64) <<< (b2v &&& 0x3f).toInt64) h524 n0 O526 A524 F528 F529 F530 F531 F532 F533 F534 F535 F536 gn524 V_527 ne525 (own_t32 L0L) (own_t32 L1L) (own_t32 L2L)) 1 (by decide) (by decide) (by decide) (by decide) (mkF m 201 #[.val (.int p0), .val (.int p1), .val (.int p2), .val (.long q3), .second, .val (.long q4), .second, .val (.int b0v), .val (.int b1v), .val (.int b2v), .val (.int (0 : Int32)), .val (.int (1 : Int32)), .val (.int (0 : Int32)), .val (.int po), .val (.int b0v), .val (.int (0 : Int32)), .val (.int (0 : Int32)), .val (.long (((1 : Int64) <<< (b0v &&& 0x3f).toInt64) - (1 : Int64))), .second, .val (.ref b512), .unset, .unset, .unset, .unset, .unset, .unset, .unset, .unset, .unset, .unset] [(.ref b512), (.ref b524), (.ref b524)]) rfl (by rw [hml]; rfl) (lenOf pd_2 rfl) rfl (hb hby at_201) (Nat.le_of_eq rfl) ?_
      intro v537 T537 L537 X537 hQ537
      obtain ⟨rfl, M537, K537, c0, c1, c2, w2, s2, wd, aw, as, am, kw, ks, km, B0, B1, B2, LY, Gw, Vw, Gs, Vs, Gm, Vm, Gd⟩ := hQ537
      have N537 := Fr.app N521 M537
      have O538 : Old Z n0 T537.heap := O526.keep K537 (allS gn524 all0)
      have V_539 : Arv Z T537.heap b512 k512 .long (3 : Int32) [(.long ((1 : Int64) <<< (b0v &&& 0x3f).toInt64)), (.long ((1 : Int64) <<< (b1v &&& 0x3f).toInt64)), (.long ((1 : Int64) <<< (b2v &&& 0x3f).toInt64))] (.long (0 : Int64)) := V_527.keep K537 (ninS ne525 nin0)
      have E_540 : Exa Z T537.heap b524 "com/example/gieres/gieres/model/TupleTable" := A524.keep K537
      obtain rfl : b0v = c0 := own_bits_eq L0L B0
      obtain rfl : b1v = c1 := own_bits_eq L1L B1
      obtain rfl : b2v = c2 := own_bits_eq L2L B2
      obtain ⟨rfl, rfl, rfl⟩ := (LY.resolve_right (fun q => hc1 q.1)).2
      have PL := own_pl0 L0L
      show Go p e below _ (T537.setTop (mkF m 204 #[.val (.int p0), .val (.int p1), .val (.int p2), .val (.long q3), .second, .val (.long q4), .second, .val (.int b0v), .val (.int b1v), .val (.int b2v), .val (.int (0 : Int32)), .val (.int (1 : Int32)), .val (.int (0 : Int32)), .val (.int po), .val (.int b0v), .val (.int (0 : Int32)), .val (.int (0 : Int32)), .val (.long (((1 : Int64) <<< (b0v &&& 0x3f).toInt64) - (1 : Int64))), .second, .val (.ref b512), .unset, .unset, .unset, .unset, .unset, .unset, .unset, .unset, .unset, .unset] [(.ref b524)]))
      refine Go.st (fun _ => XS.astore X537.here hx rfl (hb hby at_204) rfl rfl (l' := #[.val (.int p0), .val (.int p1), .val (.int p2), .val (.long q3), .second, .val (.long q4), .second, .val (.int b0v), .val (.int b1v), .val (.int b2v), .val (.int (0 : Int32)), .val (.int (1 : Int32)), .val (.int (0 : Int32)), .val (.int po), .val (.int b0v), .val (.int (0 : Int32)), .val (.int (0 : Int32)), .val (.long (((1 : Int64) <<< (b0v &&& 0x3f).toInt64) - (1 : Int64))), .second, .val (.ref b512), .val (.ref b524), .unset, .unset, .unset, .unset, .unset, .unset, .unset, .unset, .unset]) rfl) ?_
      refine Go.st (fun _ => XS.iload X537.here hx rfl (hb hby at_206) rfl) ?_
      refine Go.st (fun _ => XS.ifYes X537.here hx rfl (pc0 := 208) (pc' := 243) rfl (hb hby at_208) rfl ((if0 _ _).trans (teq (by decide : (0 : Int32) = (0 : Int32))).1) (by decide) (by decide)) ?_
      refine Go.st (fun _ => XS.iconst X537.here hx rfl (hb hby at_243)) ?_
      show Go p e below _ (T537.setTop (mkF m 244 #[.val (.int p0), .val (.int p1), .val (.int p2), .val (.long q3), .second, .val (.long q4), .second, .val (.int b0v), .val (.int b1v), .val (.int b2v), .val (.int (0 : Int32)), .val (.int (1 : Int32)), .val (.int (0 : Int32)), .val (.int po), .val (.int b0v), .val (.int (0 : Int32)), .val (.int (0 : Int32)), .val (.long (((1 : Int64) <<< (b0v &&& 0x3f).toInt64) - (1 : Int64))), .second, .val (.ref b512), .val (.ref b524), .unset, .unset, .unset, .unset, .unset, .unset, .unset, .unset, .unset] [(.int (2 : Int32))]))
      obtain ⟨T541, h541, k541, X541, e541, E541, A541, st541⟩ := newP X537 hx hZ (hw _ (List.mem_of_getElem? (i := 0) rfl)) rfl (g := (mkF m 244 #[.val (.int p0), .val (.int p1), .val (.int p2), .val (.long q3), .second, .val (.long q4), .second, .val (.int b0v), .val (.int b1v), .val (.int b2v), .val (.int (0 : Int32)), .val (.int (1 : Int32)), .val (.int (0 : Int32)), .val (.int po), .val (.int b0v), .val (.int (0 : Int32)), .val (.int (0 : Int32)), .val (.long (((1 : Int64) <<< (b0v &&& 0x3f).toInt64) - (1 : Int64))), .second, .val (.ref b512), .val (.ref b524), .unset, .unset, .unset, .unset, .unset, .unset, .unset, .unset, .unset] [(.int (2 : Int32))])) rfl (hb hby at_244) rfl (by decide) (cap := 2) (by decide) (by decide) (by decide) (by decide)
      obtain ⟨b541, g541⟩ : ∃ z, z = T537.heap.size := ⟨_, rfl⟩
      rw [← g541] at A541 st541
      refine Go.st st541 ?_
      have gn541 : n0 ≤ b541 := oldGe O538 g541
      have ne542 : b524 ≠ b541 := Nat.ne_of_lt (Nat.lt_of_lt_of_le E_540.lt (Nat.le_of_eq g541.symm))
      have ne543 : aw ≠ b541 := Nat.ne_of_lt (Nat.lt_of_lt_of_le Vw.lt (Nat.le_of_eq g541.symm))
      have ne544 : as ≠ b541 := Nat.ne_of_lt (Nat.lt_of_lt_of_le Vs.lt (Nat.le_of_eq g541.symm))
      have ne545 : am ≠ b541 := Nat.ne_of_lt (Nat.lt_of_lt_of_le Vm.lt (Nat.le_of_eq g541.symm))
      have O546 : Old Z n0 h541 := O538.ext E541
      have E_547 : Exa Z h541 b524 "com/example/gieres/gieres/model/TupleTable" := E_540.ext E541
      have F548 : Fld Z h541 b524 "com/example/gieres/gieres/model/TupleTable" "word" "[I" (.ref aw) := Gw.ext E541
      have V_549 : Arv Z h541 aw kw .int (3 : Int32) [(.int (0 : Int32)), (.int (0 : Int32)), (.int (0 : Int32))] (.int (0 : Int32)) := Vw.ext E541
      have F550 : Fld Z h541 b524 "com/example/gieres/gieres/model/TupleTable" "shift" "[I" (.ref as) := Gs.ext E541
      have V_551 : Arv Z h541 as ks .int (3 : Int32) [(.int (0 : Int32)), (.int b0v), (.int (b0v + b1v))] (.int (0 : Int32)) := Vs.ext E541
      have F552 : Fld Z h541 b524 "com/example/gieres/gieres/model/TupleTable" "mask" "[J" (.ref am) := Gm.ext E541
      have V_553 : Arv Z h541 am km .long (3 : Int32) [(.long (own_mask b0v)), (.long (own_mask b1v)), (.long (own_mask b2v))] (.long (0 : Int64)) := Vm.ext E541
      have F554 : Fld Z h541 b524 "com/example/gieres/gieres/model/TupleTable" "width" "I" (.int (1 : Int32)) := Gd.ext E541
      have V_555 : Arv Z h541 b541 k541 .long (2 : Int32) [(.long (0 : Int64)), (.long (0 : Int64))] (.long (0 : Int64)) := (Arv.new A541 (by decide)).pad (pad_rep [] (.long (0 : Int64)) 2)
      show Go p e below _ (T541.setTop (mkF m 246 #[.val (.int p0), .val (.int p1), .val (.int p2), .val (.long q3), .second, .val (.long q4), .second, .val (.int b0v), .val (.int b1v), .val (.int b2v), .val (.int (0 : Int32)), .val (.int (1 : Int32)), .val (.int (0 : Int32)), .val (.int po), .val (.int b0v), .val (.int (0 : Int32)), .val (.int (0 : Int32)), .val (.long (((1 : Int64) <<< (b0v &&& 0x3f).toInt64) - (1 : Int64))), .second, .val (.ref b512), .val (.ref b524), .unset, .unset, .unset, .unset, .unset, .unset, .unset, .unset, .unset] [(.ref b541)]))
      refine Go.st (fun _ => XS.dup X541.here hx rfl (hb hby at_246) rfl rfl) ?_
      refine Go.st (fun _ => XS.iconst X541.here hx rfl (hb hby at_247)) ?_
      refine Go.st (fun _ => XS.lloadN X541.here hx rfl (hb hby at_248) rfl) ?_
      show Go p e below _ (T541.setTop (mkF m 249 #[.val (.int p0), .val (.int p1), .val (.int p2), .val (.long q3), .second, .val (.long q4), .second, .val (.int b0v), .val (.int b1v), .val (.int b2v), .val (.int (0 : Int32)), .val (.int (1 : Int32)), .val (.int (0 : Int32)), .val (.int po), .val (.int b0v), .val (.int (0 : Int32)), .val (.int (0 : Int32)), .val (.long (((1 : Int64) <<< (b0v &&& 0x3f).toInt64) - (1 : Int64))), .second, .val (.ref b512), .val (.ref b524), .unset, .unset, .unset, .unset, .unset, .unset, .unset, .unset, .unset] [(.long q3), (.int (0 : Int32)), (.ref b541), (.ref b541)]))
      obtain ⟨cl556, Ar556, qk556, Sz556, Nn556, Ha556, Ga556⟩ := id V_555
      have hin556 : ¬ ((0 : Int32) < 0 ∨ cl556.slots.size ≤ ((0 : Int32) : Int32).toNatClampNeg) := inb_of Sz556 ⟨by decide, by decide⟩
      obtain ⟨T556, h556, X556, e556, W556, st556⟩ := stJ X541 hx hZ e541 Ar556 (j := (0 : Int32)) hin556 (g := (mkF m 249 #[.val (.int p0), .val (.int p1), .val (.int p2), .val (.long q3), .second, .val (.long q4), .second, .val (.int b0v), .val (.int b1v), .val (.int b2v), .val (.int (0 : Int32)), .val (.int (1 : Int32)), .val (.int (0 : Int32)), .val (.int po), .val (.int b0v), .val (.int (0 : Int32)), .val (.int (0 : Int32)), .val (.long (((1 : Int64) <<< (b0v &&& 0x3f).toInt64) - (1 : Int64))), .second, .val (.ref b512), .val (.ref b524), .unset, .unset, .unset, .unset, .unset, .unset, .unset, .unset, .unset] [(.long q3), (.int (0 : Int32)), (.ref b541), (.ref b541)])) rfl rfl (hb hby at_249)
      refine Go.st st556 ?_
      have O557 : Old Z n0 h556 := O546.wr W556 gn541
      have E_558 : Exa Z h556 b524 "com/example/gieres/gieres/model/TupleTable" := E_547.wr W556
      have F559 : Fld Z h556 b524 "com/example/gieres/gieres/model/TupleTable" "word" "[I" (.ref aw) := F548.other W556 (Or.inl ne542)
      have V_560 : Arv Z h556 aw kw .int (3 : Int32) [(.int (0 : Int32)), (.int (0 : Int32)), (.int (0 : Int32))] (.int (0 : Int32)) := V_549.other W556 ne543
      have F561 : Fld Z h556 b524 "com/example/gieres/gieres/model/TupleTable" "shift" "[I" (.ref as) := F550.other W556 (Or.inl ne542)
      have V_562 : Arv Z h556 as ks .int (3 : Int32) [(.int (0 : Int32)), (.int b0v), (.int (b0v + b1v))] (.int (0 : Int32)) := V_551.other W556 ne544
      have F563 : Fld Z h556 b524 "com/example/gieres/gieres/model/TupleTable" "mask" "[J" (.ref am) := F552.other W556 (Or.inl ne542)
      have V_564 : Arv Z h556 am km .long (3 : Int32) [(.long (own_mask b0v)), (.long (own_mask b1v)), (.long (own_mask b2v))] (.long (0 : Int64)) := V_553.other W556 ne545
      have F565 : Fld Z h556 b524 "com/example/gieres/gieres/model/TupleTable" "width" "I" (.int (1 : Int32)) := F554.other W556 (Or.inl ne542)
      have V_566 : Arv Z h556 b541 k541 .long (2 : Int32) [(.long q3), (.long (0 : Int64))] (.long (0 : Int64)) := Arv.set Ar556 qk556 Sz556 Nn556 Ha556 Ga556 rfl W556 0 rfl (Nat.le_of_ble_eq_true rfl)
      have N556 := Fr.snoc X556 N537 gn541
      show Go p e below _ (T556.setTop (mkF m 250 #[.val (.int p0), .val (.int p1), .val (.int p2), .val (.long q3), .second, .val (.long q4), .second, .val (.int b0v), .val (.int b1v), .val (.int b2v), .val (.int (0 : Int32)), .val (.int (1 : Int32)), .val (.int (0 : Int32)), .val (.int po), .val (.int b0v), .val (.int (0 : Int32)), .val (.int (0 : Int32)), .val (.long (((1 : Int64) <<< (b0v &&& 0x3f).toInt64) - (1 : Int64))), .second, .val (.ref b512), .val (.ref b524), .unset, .unset, .unset, .unset, .unset, .unset, .unset, .unset, .unset] [(.ref b541)]))
      refine Go.st (fun _ => XS.dup X556.here hx rfl (hb hby at_250) rfl rfl) ?_
      refine Go.st (fun _ => XS.iconst X556.here hx rfl (hb hby at_251)) ?_
      refine Go.st (fun _ => XS.lload X556.here hx rfl (hb hby at_252) rfl) ?_
      show Go p e below _ (T556.setTop (mkF m 254 #[.val (.int p0), .val (.int p1), .val (.int p2), .val (.long q3), .second, .val (.long q4), .second, .val (.int b0v), .val (.int b1v), .val (.int b2v), .val (.int (0 : Int32)), .val (.int (1 : Int32)), .val (.int (0 : Int32)), .val (.int po), .val (.int b0v), .val (.int (0 : Int32)), .val (.int (0 : Int32)), .val (.long (((1 : Int64) <<< (b0v &&& 0x3f).toInt64) - (1 : Int64))), .second, .val (.ref b512), .val (.ref b524), .unset, .unset, .unset, .unset, .unset, .unset, .unset, .unset, .unset] [(.long q4), (.int (1 : Int32)), (.ref b541), (.ref b541)]))
      obtain ⟨cl567, Ar567, qk567, Sz567, Nn567, Ha567, Ga567⟩ := id V_566
      have hin567 : ¬ ((1 : Int32) < 0 ∨ cl567.slots.size ≤ ((1 : Int32) : Int32).toNatClampNeg) := inb_of Sz567 ⟨by decide, by decide⟩
      obtain ⟨T567, h567, X567, e567, W567, st567⟩ := stJ X556 hx hZ e556 Ar567 (j := (1 : Int32)) hin567 (g := (mkF m 254 #[.val (.int p0), .val (.int p1), .val (.int p2), .val (.long q3), .second, .val (.long q4), .second, .val (.int b0v), .val (.int b1v), .val (.int b2v), .val (.int (0 : Int32)), .val (.int (1 : Int32)), .val (.int (0 : Int32)), .val (.int po), .val (.int b0v), .val (.int (0 : Int32)), .val (.int (0 : Int32)), .val (.long (((1 : Int64) <<< (b0v &&& 0x3f).toInt64) - (1 : Int64))), .second, .val (.ref b512), .val (.ref b524), .unset, .unset, .unset, .unset, .unset, .unset, .unset, .unset, .unset] [(.long q4), (.int (1 : Int32)), (.ref b541), (.ref b541)])) rfl rfl (hb hby at_254)
      refine Go.st st567 ?_
      have O568 : Old Z n0 h567 := O557.wr W567 gn541
      have E_569 : Exa Z h567 b524 "com/example/gieres/gieres/model/TupleTable" := E_558.wr W567
      have F570 : Fld Z h567 b524 "com/example/gieres/gieres/model/TupleTable" "word" "[I" (.ref aw) := F559.other W567 (Or.inl ne542)
      have V_571 : Arv Z h567 aw kw .int (3 : Int32) [(.int (0 : Int32)), (.int (0 : Int32)), (.int (0 : Int32))] (.int (0 : Int32)) := V_560.other W567 ne543
      have F572 : Fld Z h567 b524 "com/example/gieres/gieres/model/TupleTable" "shift" "[I" (.ref as) := F561.other W567 (Or.inl ne542)
      have V_573 : Arv Z h567 as ks .int (3 : Int32) [(.int (0 : Int32)), (.int b0v), (.int (b0v + b1v))] (.int (0 : Int32)) := V_562.other W567 ne544
      have F574 : Fld Z h567 b524 "com/example/gieres/gieres/model/TupleTable" "mask" "[J" (.ref am) := F563.other W567 (Or.inl ne542)
      have V_575 : Arv Z h567 am km .long (3 : Int32) [(.long (own_mask b0v)), (.long (own_mask b1v)), (.long (own_mask b2v))] (.long (0 : Int64)) := V_564.other W567 ne545
      have F576 : Fld Z h567 b524 "com/example/gieres/gieres/model/TupleTable" "width" "I" (.int (1 : Int32)) := F565.other W567 (Or.inl ne542)
      have V_577 : Arv Z h567 b541 k541 .long (2 : Int32) [(.long q3), (.long q4)] (.long (0 : Int64)) := Arv.set Ar567 qk567 Sz567 Nn567 Ha567 Ga567 rfl W567 1 rfl (Nat.le_of_ble_eq_true rfl)
      have N567 := Fr.snoc X567 N556 gn541
      show Go p e below _ (T567.setTop (mkF m 255 #[.val (.int p0), .val (.int p1), .val (.int p2), .val (.long q3), .second, .val (.long q4), .second, .val (.int b0v), .val (.int b1v), .val (.int b2v), .val (.int (0 : Int32)), .val (.int (1 : Int32)), .val (.int (0 : Int32)), .val (.int po), .val (.int b0v), .val (.int (0 : Int32)), .val (.int (0 : Int32)), .val (.long (((1 : Int64) <<< (b0v &&& 0x3f).toInt64) - (1 : Int64))), .second, .val (.ref b512), .val (.ref b524), .unset, .unset, .unset, .unset, .unset, .unset, .unset, .unset, .unset] [(.ref b541)]))
      refine Go.st (fun _ => XS.astore X567.here hx rfl (hb hby at_255) rfl rfl (l' := #[.val (.int p0), .val (.int p1), .val (.int p2), .val (.long q3), .second, .val (.long q4), .second, .val (.int b0v), .val (.int b1v), .val (.int b2v), .val (.int (0 : Int32)), .val (.int (1 : Int32)), .val (.int (0 : Int32)), .val (.int po), .val (.int b0v), .val (.int (0 : Int32)), .val (.int (0 : Int32)), .val (.long (((1 : Int64) <<< (b0v &&& 0x3f).toInt64) - (1 : Int64))), .second, .val (.ref b512), .val (.ref b524), .val (.ref b541), .unset, .unset, .unset, .unset, .unset, .unset, .unset, .unset]) rfl) ?_
      refine Go.st (fun _ => XS.iload X567.here hx rfl (hb hby at_257) rfl) ?_
      refine Go.st (fun _ => XS.ifYes X567.here hx rfl (pc0 := 259) (pc' := 294) rfl (hb hby at_259) rfl ((if0 _ _).trans (teq (by decide : (0 : Int32) = (0 : Int32))).1) (by decide) (by decide)) ?_
      refine Go.st (fun _ => XS.iconst X567.here hx rfl (hb hby at_294)) ?_
      show Go p e below _ (T567.setTop (mkF m 295 #[.val (.int p0), .val (.int p1), .val (.int p2), .val (.long q3), .second, .val (.long q4), .second, .val (.int b0v), .val (.int b1v), .val (.int b2v), .val (.int (0 : Int32)), .val (.int (1 : Int32)), .val (.int (0 : Int32)), .val (.int po), .val (.int b0v), .val (.int (0 : Int32)), .val (.int (0 : Int32)), .val (.long (((1 : Int64) <<< (b0v &&& 0x3f).toInt64) - (1 : Int64))), .second, .val (.ref b512), .val (.ref b524), .val (.ref b541), .unset, .unset, .unset, .unset, .unset, .unset, .unset, .unset] [(.int (2 : Int32))]))
      obtain ⟨T578, h578, k578, X578, e578, E578, A578, st578⟩ := newP X567 hx hZ (hw _ (List.mem_of_getElem? (i := 0) rfl)) e567 (g := (mkF m 295 #[.val (.int p0), .val (.int p1), .val (.int p2), .val (.long q3), .second, .val (.long q4), .second, .val (.int b0v), .val (.int b1v), .val (.int b2v), .val (.int (0 : Int32)), .val (.int (1 : Int32)), .val (.int (0 : Int32)), .val (.int po), .val (.int b0v), .val (.int (0 : Int32)), .val (.int (0 : Int32)), .val (.long (((1 : Int64) <<< (b0v &&& 0x3f).toInt64) - (1 : Int64))), .second, .val (.ref b512), .val (.ref b524), .val (.ref b541), .unset, .unset, .unset, .unset, .unset, .unset, .unset, .unset] [(.int (2 : Int32))])) rfl (hb hby at_295) rfl (by decide) (cap := 2) (by decide) (by decide) (by decide) (by decide)
      obtain ⟨b578, g578⟩ : ∃ z, z = h567.size := ⟨_, rfl⟩
      rw [← g578] at A578 st578
      refine Go.st st578 ?_
      have gn578 : n0 ≤ b578 := oldGe O568 g578
      have ne579 : b524 ≠ b578 := Nat.ne_of_lt (Nat.lt_of_lt_of_le E_569.lt (Nat.le_of_eq g578.symm))
      have ne580 : aw ≠ b578 := Nat.ne_of_lt (Nat.lt_of_lt_of_le V_571.lt (Nat.le_of_eq g578.symm))
      have ne581 : as ≠ b578 := Nat.ne_of_lt (Nat.lt_of_lt_of_le V_573.lt (Nat.le_of_eq g578.symm))
      have ne582 : am ≠ b578 := Nat.ne_of_lt (Nat.lt_of_lt_of_le V_575.lt (Nat.le_of_eq g578.symm))
      have ne583 : b541 ≠ b578 := Nat.ne_of_lt (Nat.lt_of_lt_of_le V_577.lt (Nat.le_of_eq g578.symm))
      have O584 : Old Z n0 h578 := O568.ext E578
      have E_585 : Exa Z h578 b524 "com/example/gieres/gieres/model/TupleTable" := E_569.ext E578
      have F586 : Fld Z h578 b524 "com/example/gieres/gieres/model/TupleTable" "word" "[I" (.ref aw) := F570.ext E578
      have V_587 : Arv Z h578 aw kw .int (3 : Int32) [(.int (0 : Int32)), (.int (0 : Int32)), (.int (0 : Int32))] (.int (0 : Int32)) := V_571.ext E578
      have F588 : Fld Z h578 b524 "com/example/gieres/gieres/model/TupleTable" "shift" "[I" (.ref as) := F572.ext E578
      have V_589 : Arv Z h578 as ks .int (3 : Int32) [(.int (0 : Int32)), (.int b0v), (.int (b0v + b1v))] (.int (0 : Int32)) := V_573.ext E578
      have F590 : Fld Z h578 b524 "com/example/gieres/gieres/model/TupleTable" "mask" "[J" (.ref am) := F574.ext E578
      have V_591 : Arv Z h578 am km .long (3 : Int32) [(.long (own_mask b0v)), (.long (own_mask b1v)), (.long (own_mask b2v))] (.long (0 : Int64)) := V_575.ext E578
      have F592 : Fld Z h578 b524 "com/example/gieres/gieres/model/TupleTable" "width" "I" (.int (1 : Int32)) := F576.ext E578
      have V_593 : Arv Z h578 b541 k541 .long (2 : Int32) [(.long q3), (.long q4)] (.long (0 : Int64)) := V_577.ext E578
      have V_594 : Arv Z h578 b578 k578 .long (2 : Int32) [(.long (0 : Int64)), (.long (0 : Int64))] (.long (0 : Int64)) := (Arv.new A578 (by decide)).pad (pad_rep [] (.long (0 : Int64)) 2)
      show Go p e below _ (T578.setTop (mkF m 297 #[.val (.int p0), .val (.int p1), .val (.int p2), .val (.long q3), .second, .val (.long q4), .second, .val (.int b0v), .val (.int b1v), .val (.int b2v), .val (.int (0 : Int32)), .val (.int (1 : Int32)), .val (.int (0 : Int32)), .val (.int po), .val (.int b0v), .val (.int (0 : Int32)), .val (.int (0 : Int32)), .val (.long (((1 : Int64) <<< (b0v &&& 0x3f).toInt64) - (1 : Int64))), .second, .val (.ref b512), .val (.ref b524), .val (.ref b541), .unset, .unset, .unset, .unset, .unset, .unset, .unset, .unset] [(.ref b578)]))
      refine Go.st (fun _ => XS.dup X578.here hx rfl (hb hby at_297) rfl rfl) ?_
      refine Go.st (fun _ => XS.iconst X578.here hx rfl (hb hby at_298)) ?_
      refine Go.st (fun _ => XS.lloadN X578.here hx rfl (hb hby at_299) rfl) ?_
      show Go p e below _ (T578.setTop (mkF m 300 #[.val (.int p0), .val (.int p1), .val (.int p2), .val (.long q3), .second, .val (.long q4), .second, .val (.int b0v), .val (.int b1v), .val (.int b2v), .val (.int (0 : Int32)), .val (.int (1 : Int32)), .val (.int (0 : Int32)), .val (.int po), .val (.int b0v), .val (.int (0 : Int32)), .val (.int (0 : Int32)), .val (.long (((1 : Int64) <<< (b0v &&& 0x3f).toInt64) - (1 : Int64))), .second, .val (.ref b512), .val (.ref b524), .val (.ref b541), .unset, .unset, .unset, .unset, .unset, .unset, .unset, .unset] [(.long q3), (.int (0 : Int32)), (.ref b578), (.ref b578)]))
      obtain ⟨cl595, Ar595, qk595, Sz595, Nn595, Ha595, Ga595⟩ := id V_594
      have hin595 : ¬ ((0 : Int32) < 0 ∨ cl595.slots.size ≤ ((0 : Int32) : Int32).toNatClampNeg) := inb_of Sz595 ⟨by decide, by decide⟩
      obtain ⟨T595, h595, X595, e595, W595, st595⟩ := stJ X578 hx hZ e578 Ar595 (j := (0 : Int32)) hin595 (g := (mkF m 300 #[.val (.int p0), .val (.int p1), .val (.int p2), .val (.long q3), .second, .val (.long q4), .second, .val (.int b0v), .val (.int b1v), .val (.int b2v), .val (.int (0 : Int32)), .val (.int (1 : Int32)), .val (.int (0 : Int32)), .val (.int po), .val (.int b0v), .val (.int (0 : Int32)), .val (.int (0 : Int32)), .val (.long (((1 : Int64) <<< (b0v &&& 0x3f).toInt64) - (1 : Int64))), .second, .val (.ref b512), .val (.ref b524), .val (.ref b541), .unset, .unset, .unset, .unset, .unset, .unset, .unset, .unset] [(.long q3), (.int (0 : Int32)), (.ref b578), (.ref b578)])) rfl rfl (hb hby at_300)
      refine Go.st st595 ?_
      have O596 : Old Z n0 h595 := O584.wr W595 gn578
      have E_597 : Exa Z h595 b524 "com/example/gieres/gieres/model/TupleTable" := E_585.wr W595
      have F598 : Fld Z h595 b524 "com/example/gieres/gieres/model/TupleTable" "word" "[I" (.ref aw) := F586.other W595 (Or.inl ne579)
      have V_599 : Arv Z h595 aw kw .int (3 : Int32) [(.int (0 : Int32)), (.int (0 : Int32)), (.int (0 : Int32))] (.int (0 : Int32)) := V_587.other W595 ne580
      have F600 : Fld Z h595 b524 "com/example/gieres/gieres/model/TupleTable" "shift" "[I" (.ref as) := F588.other W595 (Or.inl ne579)
      have V_601 : Arv Z h595 as ks .int (3 : Int32) [(.int (0 : Int32)), (.int b0v), (.int (b0v + b1v))] (.int (0 : Int32)) := V_589.other W595 ne581
      have F602 : Fld Z h595 b524 "com/example/gieres/gieres/model/TupleTable" "mask" "[J" (.ref am) := F590.other W595 (Or.inl ne579)
      have V_603 : Arv Z h595 am km .long (3 : Int32) [(.long (own_mask b0v)), (.long (own_mask b1v)), (.long (own_mask b2v))] (.long (0 : Int64)) := V_591.other W595 ne582
      have F604 : Fld Z h595 b524 "com/example/gieres/gieres/model/TupleTable" "width" "I" (.int (1 : Int32)) := F592.other W595 (Or.inl ne579)
      have V_605 : Arv Z h595 b541 k541 .long (2 : Int32) [(.long q3), (.long q4)] (.long (0 : Int64)) := V_593.other W595 ne583
      have V_606 : Arv Z h595 b578 k578 .long (2 : Int32) [(.long q3), (.long (0 : Int64))] (.long (0 : Int64)) := Arv.set Ar595 qk595 Sz595 Nn595 Ha595 Ga595 rfl W595 0 rfl (Nat.le_of_ble_eq_true rfl)
      have N595 := Fr.snoc X595 N567 gn578
      show Go p e below _ (T595.setTop (mkF m 301 #[.val (.int p0), .val (.int p1), .val (.int p2), .val (.long q3), .second, .val (.long q4), .second, .val (.int b0v), .val (.int b1v), .val (.int b2v), .val (.int (0 : Int32)), .val (.int (1 : Int32)), .val (.int (0 : Int32)), .val (.int po), .val (.int b0v), .val (.int (0 : Int32)), .val (.int (0 : Int32)), .val (.long (((1 : Int64) <<< (b0v &&& 0x3f).toInt64) - (1 : Int64))), .second, .val (.ref b512), .val (.ref b524), .val (.ref b541), .unset, .unset, .unset, .unset, .unset, .unset, .unset, .unset] [(.ref b578)]))
      refine Go.st (fun _ => XS.dup X595.here hx rfl (hb hby at_301) rfl rfl) ?_
      refine Go.st (fun _ => XS.iconst X595.here hx rfl (hb hby at_302)) ?_
      refine Go.st (fun _ => XS.lload X595.here hx rfl (hb hby at_303) rfl) ?_
      show Go p e below _ (T595.setTop (mkF m 305 #[.val (.int p0), .val (.int p1), .val (.int p2), .val (.long q3), .second, .val (.long q4), .second, .val (.int b0v), .val (.int b1v), .val (.int b2v), .val (.int (0 : Int32)), .val (.int (1 : Int32)), .val (.int (0 : Int32)), .val (.int po), .val (.int b0v), .val (.int (0 : Int32)), .val (.int (0 : Int32)), .val (.long (((1 : Int64) <<< (b0v &&& 0x3f).toInt64) - (1 : Int64))), .second, .val (.ref b512), .val (.ref b524), .val (.ref b541), .unset, .unset, .unset, .unset, .unset, .unset, .unset, .unset] [(.long q4), (.int (1 : Int32)), (.ref b578), (.ref b578)]))
      obtain ⟨cl607, Ar607, qk607, Sz607, Nn607, Ha607, Ga607⟩ := id V_606
      have hin607 : ¬ ((1 : Int32) < 0 ∨ cl607.slots.size ≤ ((1 : Int32) : Int32).toNatClampNeg) := inb_of Sz607 ⟨by decide, by decide⟩
      obtain ⟨T607, h607, X607, e607, W607, st607⟩ := stJ X595 hx hZ e595 Ar607 (j := (1 : Int32)) hin607 (g := (mkF m 305 #[.val (.int p0), .val (.int p1), .val (.int p2), .val (.long q3), .second, .val (.long q4), .second, .val (.int b0v), .val (.int b1v), .val (.int b2v), .val (.int (0 : Int32)), .val (.int (1 : Int32)), .val (.int (0 : Int32)), .val (.int po), .val (.int b0v), .val (.int (0 : Int32)), .val (.int (0 : Int32)), .val (.long (((1 : Int64) <<< (b0v &&& 0x3f).toInt64) - (1 : Int64))), .second, .val (.ref b512), .val (.ref b524), .val (.ref b541), .unset, .unset, .unset, .unset, .unset, .unset, .unset, .unset] [(.long q4), (.int (1 : Int32)), (.ref b578), (.ref b578)])) rfl rfl (hb hby at_305)
      refine Go.st st607 ?_
      have O608 : Old Z n0 h607 := O596.wr W607 gn578
      have E_609 : Exa Z h607 b524 "com/example/gieres/gieres/model/TupleTable" := E_597.wr W607
      have F610 : Fld Z h607 b524 "com/example/gieres/gieres/model/TupleTable" "word" "[I" (.ref aw) := F598.other W607 (Or.inl ne579)
      have V_611 : Arv Z h607 aw kw .int (3 : Int32) [(.int (0 : Int32)), (.int (0 : Int32)), (.int (0 : Int32))] (.int (0 : Int32)) := V_599.other W607 ne580
      have F612 : Fld Z h607 b524 "com/example/gieres/gieres/model/TupleTable" "shift" "[I" (.ref as) := F600.other W607 (Or.inl ne579)
      have V_613 : Arv Z h607 as ks .int (3 : Int32) [(.int (0 : Int32)), (.int b0v), (.int (b0v + b1v))] (.int (0 : Int32)) := V_601.other W607 ne581
      have F614 : Fld Z h607 b524 "com/example/gieres/gieres/model/TupleTable" "mask" "[J" (.ref am) := F602.other W607 (Or.inl ne579)
      have V_615 : Arv Z h607 am km .long (3 : Int32) [(.long (own_mask b0v)), (.long (own_mask b1v)), (.long (own_mask b2v))] (.long (0 : Int64)) := V_603.other W607 ne582
      have F616 : Fld Z h607 b524 "com/example/gieres/gieres/model/TupleTable" "width" "I" (.int (1 : Int32)) := F604.other W607 (Or.inl ne579)
      have V_617 : Arv Z h607 b541 k541 .long (2 : Int32) [(.long q3), (.long q4)] (.long (0 : Int64)) := V_605.other W607 ne583
      have V_618 : Arv Z h607 b578 k578 .long (2 : Int32) [(.long q3), (.long q4)] (.long (0 : Int64)) := Arv.set Ar607 qk607 Sz607 Nn607 Ha607 Ga607 rfl W607 1 rfl (Nat.le_of_ble_eq_true rfl)
      have N607 := Fr.snoc X607 N595 gn578
      show Go p e below _ (T607.setTop (mkF m 306 #[.val (.int p0), .val (.int p1), .val (.int p2), .val (.long q3), .second, .val (.long q4), .second, .val (.int b0v), .val (.int b1v), .val (.int b2v), .val (.int (0 : Int32)), .val (.int (1 : Int32)), .val (.int (0 : Int32)), .val (.int po), .val (.int b0v), .val (.int (0 : Int32)), .val (.int (0 : Int32)), .val (.long (((1 : Int64) <<< (b0v &&& 0x3f).toInt64) - (1 : Int64))), .second, .val (.ref b512), .val (.ref b524), .val (.ref b541), .unset, .unset, .unset, .unset, .unset, .unset, .unset, .unset] [(.ref b578)]))
      refine Go.st (fun _ => XS.astore X607.here hx rfl (hb hby at_306) rfl rfl (l' := #[.val (.int p0), .val (.int p1), .val (.int p2), .val (.long q3), .second, .val (.long q4), .second, .val (.int b0v), .val (.int b1v), .val (.int b2v), .val (.int (0 : Int32)), .val (.int (1 : Int32)), .val (.int (0 : Int32)), .val (.int po), .val (.int b0v), .val (.int (0 : Int32)), .val (.int (0 : Int32)), .val (.long (((1 : Int64) <<< (b0v &&& 0x3f).toInt64) - (1 : Int64))), .second, .val (.ref b512), .val (.ref b524), .val (.ref b541), .val (.ref b578), .unset, .unset, .unset, .unset, .unset, .unset, .unset]) rfl) ?_
      show Go p e below _ (T607.setTop (mkF m 308 #[.val (.int p0), .val (.int p1), .val (.int p2), .val (.long q3), .second, .val (.long q4), .second, .val (.int b0v), .val (.int b1v), .val (.int b2v), .val (.int (0 : Int32)), .val (.int (1 : Int32)), .val (.int (0 : Int32)), .val (.int po), .val (.int b0v), .val (.int (0 : Int32)), .val (.int (0 : Int32)), .val (.long (((1 : Int64) <<< (b0v &&& 0x3f).toInt64) - (1 : Int64))), .second, .val (.ref b512), .val (.ref b524), .val (.ref b541), .val (.ref b578), .unset, .unset, .unset, .unset, .unset, .unset, .unset] []))
      obtain ⟨f0, hf0⟩ : ∃ f : Nat → Int64, f = fun k => ([q3, q4] : List Int64).getD k 0 := ⟨_, rfl⟩
      have KO : LAr Z h607 b541 2 f0 := LAr_of V_617 rfl (by decide) (fun j hj => by rw [hf0]; rcases j with _ | _ | j <;> first | rfl | omega)
      have KK : LAr Z h607 b578 2 f0 := LAr_of V_618 rfl (by decide) (fun j hj => by rw [hf0]; rcases j with _ | _ | j <;> first | rfl | omega)
      show Go p e below _ (T607.setTop (mkF m 308 #[.val (.int p0), .val (.int p1), .val (.int p2), .val (.long q3), .second, .val (.long q4), .second, .val (.int b0v), .val (.int b1v), .val (.int b2v), .val (.int (0 : Int32)), .val (.int (1 : Int32)), .val (.int (0 : Int32)), .val (.int po), .val (.int b0v), .val (.int (0 : Int32)), .val (.int (0 : Int32)), .val (.long (((1 : Int64) <<< (b0v &&& 0x3f).toInt64) - (1 : Int64))), .second, .val (.ref b512), .val (.ref b524), .val (.ref b541), .val (.ref b578), .unset, .unset, .unset, .unset, .unset, .unset, .unset] []))
      refine Go.st (fun _ => XS.aload X607.here hx rfl (hb hby at_308) rfl rfl) ?_
      refine Go.st (fun _ => XS.aload X607.here hx rfl (hb hby at_310) rfl rfl) ?_
      refine Go.st (fun _ => XS.iload X607.here hx rfl (hb hby at_312) rfl) ?_
      refine Go.st (fun _ => XS.iload X607.here hx rfl (hb hby at_314) rfl) ?_
      refine Go.st (fun _ => XS.iloadN X607.here hx rfl (hb hby at_316) rfl) ?_
      show Go p e below _ (T607.setTop (mkF m 317 #[.val (.int p0), .val (.int p1), .val (.int p2), .val (.long q3), .second, .val (.long q4), .second, .val (.int b0v), .val (.int b1v), .val (.int b2v), .val (.int (0 : Int32)), .val (.int (1 : Int32)), .val (.int (0 : Int32)), .val (.int po), .val (.int b0v), .val (.int (0 : Int32)), .val (.int (0 : Int32)), .val (.long (((1 : Int64) <<< (b0v &&& 0x3f).toInt64) - (1 : Int64))), .second, .val (.ref b512), .val (.ref b524), .val (.ref b541), .val (.ref b578), .unset, .unset, .unset, .unset, .unset, .unset, .unset] [(.int p2), (.int (0 : Int32)), (.int po), (.ref b578), (.ref b524)]))
      refine goVirt X607 hx hZ (y := (⟨"com/example/gieres/gieres/model/TupleTable", "setState", "([JIII)V"⟩ : MethodName)) (z := (⟨"com/example/gieres/gieres/model/TupleTable", "setState", "([JIII)V"⟩ : MethodName)) hown (hw _ (List.mem_of_getElem? (i := 39) rfl)) (hw _ (List.mem_of_getElem? (i := 40) rfl)) (notFace_of_selects (args := #[]) (mvT hZ (hw _ (List.mem_of_getElem? (i := 42) rfl)))) (hw _ (List.mem_of_getElem? (i := 42) rfl)) (hw _ (List.mem_of_getElem? (i := 41) rfl)) (hw _ (List.mem_of_getElem? (i := 3) rfl)) (hw _ (List.mem_of_getElem? (i := 43) rfl)) (by decide) (a := b524) (argsL := [(.ref b578), (.int po), (.int (0 : Int32)), (.int p2)]) (rest := []) e607 E_609 (rmS0 l Z a0 hw [] b524 b578 aw as am kw ks km (0 : Int32) (0 : Int32) (0 : Int32) (0 : Int32) b0v (b0v + b1v) (own_mask b0v) (own_mask b1v) (own_mask b2v) 2 f0 po p2 h607 n0 O608 F610 V_611 F612 V_613 F614 V_615 KK gn578 HJ.1 HJ.2) 0 (by decide) (by decide) (by decide) (by decide) (mkF m 317 #[.val (.int p0), .val (.int p1), .val (.int p2), .val (.long q3), .second, .val (.long q4), .second, .val (.int b0v), .val (.int b1v), .val (.int b2v), .val (.int (0 : Int32)), .val (.int (1 : Int32)), .val (.int (0 : Int32)), .val (.int po), .val (.int b0v), .val (.int (0 : Int32)), .val (.int (0 : Int32)), .val (.long (((1 : Int64) <<< (b0v &&& 0x3f).toInt64) - (1 : Int64))), .second, .val (.ref b512), .val (.ref b524), .val (.ref b541), .val (.ref b578), .unset, .unset, .unset, .unset, .unset, .unset, .unset] [(.int p2), (.int (0 : Int32)), (.int po), (.ref b578), (.ref b524)]) rfl (by rw [hml]; rfl) (lenOf pd_3 rfl) rfl (hb hby at_317) (Nat.le_of_eq rfl) ?_
      intro v619 T619 L619 X619 hQ619
      obtain ⟨rfl, M619, K619, KA619⟩ := hQ619
      have N619 := Fr.app N607 M619
      have O620 : Old Z n0 T619.heap := O608.keep K619 (allS gn578 all0)
      have E_621 : Exa Z T619.heap b524 "com/example/gieres/gieres/model/TupleTable" := E_609.keep K619
      have F622 : Fld Z T619.heap b524 "com/example/gieres/gieres/model/TupleTable" "word" "[I" (.ref aw) := F610.keep K619 (ninS ne579 nin0)
      have V_623 : Arv Z T619.heap aw kw .int (3 : Int32) [(.int (0 : Int32)), (.int (0 : Int32)), (.int (0 : Int32))] (.int (0 : Int32)) := V_611.keep K619 (ninS ne580 nin0)
      have F624 : Fld Z T619.heap b524 "com/example/gieres/gieres/model/TupleTable" "shift" "[I" (.ref as) := F612.keep K619 (ninS ne579 nin0)
      have V_625 : Arv Z T619.heap as ks .int (3 : Int32) [(.int (0 : Int32)), (.int b0v), (.int (b0v + b1v))] (.int (0 : Int32)) := V_613.keep K619 (ninS ne581 nin0)
      have F626 : Fld Z T619.heap b524 "com/example/gieres/gieres/model/TupleTable" "mask" "[J" (.ref am) := F614.keep K619 (ninS ne579 nin0)
      have V_627 : Arv Z T619.heap am km .long (3 : Int32) [(.long (own_mask b0v)), (.long (own_mask b1v)), (.long (own_mask b2v))] (.long (0 : Int64)) := V_615.keep K619 (ninS ne582 nin0)
      have F628 : Fld Z T619.heap b524 "com/example/gieres/gieres/model/TupleTable" "width" "I" (.int (1 : Int32)) := F616.keep K619 (ninS ne579 nin0)
      have VL629 : LAr Z T619.heap b541 2 f0 := LAr_keep KO K619 (ninS ne583 nin0)
      obtain ⟨f1, hf1⟩ : ∃ z, z = (fun k => if k = (po + (0 : Int32)).toNatClampNeg then own_set (f0 (po + (0 : Int32)).toNatClampNeg) (own_mask b0v) (0 : Int32) p2 else f0 k) := ⟨_, rfl⟩
      rw [← hf1] at KA619
      have GV : own_get (f1 (po + (0 : Int32)).toNatClampNeg) (own_mask b0v) (0 : Int32) = p2.toInt64 &&& (own_mask b0v) := by rw [hf1]; simp only [if_true]; exact own_gsP PL
      show Go p e below _ (T619.setTop (mkF m 320 #[.val (.int p0), .val (.int p1), .val (.int p2), .val (.long q3), .second, .val (.long q4), .second, .val (.int b0v), .val (.int b1v), .val (.int b2v), .val (.int (0 : Int32)), .val (.int (1 : Int32)), .val (.int (0 : Int32)), .val (.int po), .val (.int b0v), .val (.int (0 : Int32)), .val (.int (0 : Int32)), .val (.long (((1 : Int64) <<< (b0v &&& 0x3f).toInt64) - (1 : Int64))), .second, .val (.ref b512), .val (.ref b524), .val (.ref b541), .val (.ref b578), .unset, .unset, .unset, .unset, .unset, .unset, .unset] []))
      refine Go.st (fun _ => XS.iload X619.here hx rfl (hb hby at_320) rfl) ?_
      refine Go.st (fun _ => XS.iload X619.here hx rfl (hb hby at_322) rfl) ?_
      refine Go.st (fun _ => XS.iadd X619.here hx rfl (hb hby at_324) rfl) ?_
      refine Go.st (fun _ => XS.istore X619.here hx rfl (hb hby at_325) rfl (l' := #[.val (.int p0), .val (.int p1), .val (.int p2), .val (.long q3), .second, .val (.long q4), .second, .val (.int b0v), .val (.int b1v), .val (.int b2v), .val (.int (0 : Int32)), .val (.int (1 : Int32)), .val (.int (0 : Int32)), .val (.int po), .val (.int b0v), .val (.int (0 : Int32)), .val (.int (0 : Int32)), .val (.long (((1 : Int64) <<< (b0v &&& 0x3f).toInt64) - (1 : Int64))), .second, .val (.ref b512), .val (.ref b524), .val (.ref b541), .val (.ref b578), .val (.int (po + (0 : Int32))), .unset, .unset, .unset, .unset, .unset, .unset]) rfl) ?_
      refine Go.st (fun _ => XS.iloadN X619.here hx rfl (hb hby at_327) rfl) ?_
      refine Go.st (fun _ => XS.i2l X619.here hx rfl (hb hby at_328) rfl) ?_
      refine Go.st (fun _ => XS.lload X619.here hx rfl (hb hby at_329) rfl) ?_
      refine Go.st (fun _ => XS.land X619.here hx rfl (hb hby at_331) rfl) ?_
      refine Go.st (fun _ => XS.lstore X619.here hx rfl (hb hby at_332) rfl (l' := #[.val (.int p0), .val (.int p1), .val (.int p2), .val (.long q3), .second, .val (.long q4), .second, .val (.int b0v), .val (.int b1v), .val (.int b2v), .val (.int (0 : Int32)), .val (.int (1 : Int32)), .val (.int (0 : Int32)), .val (.int po), .val (.int b0v), .val (.int (0 : Int32)), .val (.int (0 : Int32)), .val (.long (((1 : Int64) <<< (b0v &&& 0x3f).toInt64) - (1 : Int64))), .second, .val (.ref b512), .val (.ref b524), .val (.ref b541), .val (.ref b578), .val (.int (po + (0 : Int32))), .val (.long ((p2.toInt64) &&& (((1 : Int64) <<< (b0v &&& 0x3f).toInt64) - (1 : Int64)))), .second, .unset, .unset, .unset, .unset]) rfl) ?_
      refine Go.st (fun _ => XS.lload X619.here hx rfl (hb hby at_334) rfl) ?_
      refine Go.st (fun _ => XS.iload X619.here hx rfl (hb hby at_336) rfl) ?_
      refine Go.st (fun _ => XS.lshl X619.here hx rfl (hb hby at_338) rfl) ?_
      show Go p e below _ (T619.setTop (mkF m 339 #[.val (.int p0), .val (.int p1), .val (.int p2), .val (.long q3), .second, .val (.long q4), .second, .val (.int b0v), .val (.int b1v), .val (.int b2v), .val (.int (0 : Int32)), .val (.int (1 : Int32)), .val (.int (0 : Int32)), .val (.int po), .val (.int b0v), .val (.int (0 : Int32)), .val (.int (0 : Int32)), .val (.long (((1 : Int64) <<< (b0v &&& 0x3f).toInt64) - (1 : Int64))), .second, .val (.ref b512), .val (.ref b524), .val (.ref b541), .val (.ref b578), .val (.int (po + (0 : Int32))), .val (.long ((p2.toInt64) &&& (((1 : Int64) <<< (b0v &&& 0x3f).toInt64) - (1 : Int64)))), .second, .unset, .unset, .unset, .unset] [(.long ((((1 : Int64) <<< (b0v &&& 0x3f).toInt64) - (1 : Int64)) <<< ((0 : Int32) &&& 0x3f).toInt64))]))
      refine Go.st (fun _ => XS.lstore X619.here hx rfl (hb hby at_339) rfl (l' := #[.val (.int p0), .val (.int p1), .val (.int p2), .val (.long q3), .second, .val (.long q4), .second, .val (.int b0v), .val (.int b1v), .val (.int b2v), .val (.int (0 : Int32)), .val (.int (1 : Int32)), .val (.int (0 : Int32)), .val (.int po), .val (.int b0v), .val (.int (0 : Int32)), .val (.int (0 : Int32)), .val (.long (((1 : Int64) <<< (b0v &&& 0x3f).toInt64) - (1 : Int64))), .second, .val (.ref b512), .val (.ref b524), .val (.ref b541), .val (.ref b578), .val (.int (po + (0 : Int32))), .val (.long ((p2.toInt64) &&& (((1 : Int64) <<< (b0v &&& 0x3f).toInt64) - (1 : Int64)))), .second, .val (.long ((((1 : Int64) <<< (b0v &&& 0x3f).toInt64) - (1 : Int64)) <<< ((0 : Int32) &&& 0x3f).toInt64)), .second, .unset, .unset]) rfl) ?_
      refine Go.st (fun _ => XS.aload X619.here hx rfl (hb hby at_341) rfl rfl) ?_
      refine Go.st (fun _ => XS.iload X619.here hx rfl (hb hby at_343) rfl) ?_
      show Go p e below _ (T619.setTop (mkF m 345 #[.val (.int p0), .val (.int p1), .val (.int p2), .val (.long q3), .second, .val (.long q4), .second, .val (.int b0v), .val (.int b1v), .val (.int b2v), .val (.int (0 : Int32)), .val (.int (1 : Int32)), .val (.int (0 : Int32)), .val (.int po), .val (.int b0v), .val (.int (0 : Int32)), .val (.int (0 : Int32)), .val (.long (((1 : Int64) <<< (b0v &&& 0x3f).toInt64) - (1 : Int64))), .second, .val (.ref b512), .val (.ref b524), .val (.ref b541), .val (.ref b578), .val (.int (po + (0 : Int32))), .val (.long ((p2.toInt64) &&& (((1 : Int64) <<< (b0v &&& 0x3f).toInt64) - (1 : Int64)))), .second, .val (.long ((((1 : Int64) <<< (b0v &&& 0x3f).toInt64) - (1 : Int64)) <<< ((0 : Int32) &&& 0x3f).toInt64)), .second, .unset, .unset] [(.int (po + (0 : Int32))), (.ref b578)]))
      obtain ⟨cl630, Ar630, hin630, hat630, -⟩ := LAr_in KA619 (j := (po + (0 : Int32))) HJ.1 HJ.2
      refine Go.st (fun _ => X619.laload hx (j := (po + (0 : Int32))) (v := (.long (f1 ((po + (0 : Int32))).toNatClampNeg))) Ar630.1 (State.isArrayOf_alike hZ.alike Ar630.2.1) Ar630.2.2 hin630 hat630 (g := (mkF m 345 #[.val (.int p0), .val (.int p1), .val (.int p2), .val (.long q3), .second, .val (.long q4), .second, .val (.int b0v), .val (.int b1v), .val (.int b2v), .val (.int (0 : Int32)), .val (.int (1 : Int32)), .val (.int (0 : Int32)), .val (.int po), .val (.int b0v), .val (.int (0 : Int32)), .val (.int (0 : Int32)), .val (.long (((1 : Int64) <<< (b0v &&& 0x3f).toInt64) - (1 : Int64))), .second, .val (.ref b512), .val (.ref b524), .val (.ref b541), .val (.ref b578), .val (.int (po + (0 : Int32))), .val (.long ((p2.toInt64) &&& (((1 : Int64) <<< (b0v &&& 0x3f).toInt64) - (1 : Int64)))), .second, .val (.long ((((1 : Int64) <<< (b0v &&& 0x3f).toInt64) - (1 : Int64)) <<< ((0 : Int32) &&& 0x3f).toInt64)), .second, .unset, .unset] [(.int (po + (0 : Int32))), (.ref b578)])) rfl rfl (hb hby at_345) _) ?_
      show Go p e below _ (T619.setTop (mkF m 346 #[.val (.int p0), .val (.int p1), .val (.int p2), .val (.long q3), .second, .val (.long q4), .second, .val (.int b0v), .val (.int b1v), .val (.int b2v), .val (.int (0 : Int32)), .val (.int (1 : Int32)), .val (.int (0 : Int32)), .val (.int po), .val (.int b0v), .val (.int (0 : Int32)), .val (.int (0 : Int32)), .val (.long (((1 : Int64) <<< (b0v &&& 0x3f).toInt64) - (1 : Int64))), .second, .val (.ref b512), .val (.ref b524), .val (.ref b541), .val (.ref b578), .val (.int (po + (0 : Int32))), .val (.long ((p2.toInt64) &&& (((1 : Int64) <<< (b0v &&& 0x3f).toInt64) - (1 : Int64)))), .second, .val (.long ((((1 : Int64) <<< (b0v &&& 0x3f).toInt64) - (1 : Int64)) <<< ((0 : Int32) &&& 0x3f).toInt64)), .second, .unset, .unset] [(.long (f1 ((po + (0 : Int32))).toNatClampNeg))]))
      refine Go.st (fun _ => XS.iload X619.here hx rfl (hb hby at_346) rfl) ?_
      refine Go.st (fun _ => XS.lushr X619.here hx rfl (hb hby at_348) rfl) ?_
      refine Go.st (fun _ => XS.lload X619.here hx rfl (hb hby at_349) rfl) ?_
      refine Go.st (fun _ => XS.land X619.here hx rfl (hb hby at_351) rfl) ?_
      refine Go.st (fun _ => XS.lload X619.here hx rfl (hb hby at_352) rfl) ?_
      refine Go.st (fun _ => XS.lcmp X619.here hx rfl (hb hby at_354) rfl) ?_
      refine Go.st (fun _ => XS.ifNo X619.here hx rfl (hb hby at_355) rfl ((if0 _ _).trans (teq ((lw_eq _ _).mpr GV)).2)) ?_
      refine Go.st (fun _ => XS.aload X619.here hx rfl (hb hby at_358) rfl rfl) ?_
      refine Go.st (fun _ => XS.aload X619.here hx rfl (hb hby at_360) rfl rfl) ?_
      refine Go.st (fun _ => XS.iload X619.here hx rfl (hb hby at_362) rfl) ?_
      refine Go.st (fun _ => XS.iload X619.here hx rfl (hb hby at_364) rfl) ?_
      show Go p e below _ (T619.setTop (mkF m 366 #[.val (.int p0), .val (.int p1), .val (.int p2), .val (.long q3), .second, .val (.long q4), .second, .val (.int b0v), .val (.int b1v), .val (.int b2v), .val (.int (0 : Int32)), .val (.int (1 : Int32)), .val (.int (0 : Int32)), .val (.int po), .val (.int b0v), .val (.int (0 : Int32)), .val (.int (0 : Int32)), .val (.long (((1 : Int64) <<< (b0v &&& 0x3f).toInt64) - (1 : Int64))), .second, .val (.ref b512), .val (.ref b524), .val (.ref b541), .val (.ref b578), .val (.int (po + (0 : Int32))), .val (.long ((p2.toInt64) &&& (((1 : Int64) <<< (b0v &&& 0x3f).toInt64) - (1 : Int64)))), .second, .val (.long ((((1 : Int64) <<< (b0v &&& 0x3f).toInt64) - (1 : Int64)) <<< ((0 : Int32) &&& 0x3f).toInt64)), .second, .unset, .unset] [(.int (0 : Int32)), (.int po), (.ref b578), (.ref b524)]))
      refine goVirt X619 hx hZ (y := (⟨"com/example/gieres/gieres/model/TupleTable", "state", "([JII)I"⟩ : MethodName)) (z := (⟨"com/example/gieres/gieres/model/TupleTable", "state", "([JII)I"⟩ : MethodName)) hown (hw _ (List.mem_of_getElem? (i := 45) rfl)) (hw _ (List.mem_of_getElem? (i := 46) rfl)) (notFace_of_selects (args := #[]) (mvT hZ (hw _ (List.mem_of_getElem? (i := 48) rfl)))) (hw _ (List.mem_of_getElem? (i := 48) rfl)) (hw _ (List.mem_of_getElem? (i := 47) rfl)) (hw _ (List.mem_of_getElem? (i := 3) rfl)) (hw _ (List.mem_of_getElem? (i := 49) rfl)) (by decide) (a := b524) (argsL := [(.ref b578), (.int po), (.int (0 : Int32))]) (rest := []) rfl E_621 (rmG0 l Z a0 hw [] b524 b578 aw as am kw ks km (0 : Int32) (0 : Int32) (0 : Int32) (0 : Int32) b0v (b0v + b1v) (own_mask b0v) (own_mask b1v) (own_mask b2v) 2 f1 po T619.heap n0 O620 F622 V_623 F624 V_625 F626 V_627 KA619 HJ.1 HJ.2) 0 (by decide) (by decide) (by decide) (by decide) (mkF m 366 #[.val (.int p0), .val (.int p1), .val (.int p2), .val (.long q3), .second, .val (.long q4), .second, .val (.int b0v), .val (.int b1v), .val (.int b2v), .val (.int (0 : Int32)), .val (.int (1 : Int32)), .val (.int (0 : Int32)), .val (.int po), .val (.int b0v), .val (.int (0 : Int32)), .val (.int (0 : Int32)), .val (.long (((1 : Int64) <<< (b0v &&& 0x3f).toInt64) - (1 : Int64))), .second, .val (.ref b512), .val (.ref b524), .val (.ref b541), .val (.ref b578), .val (.int (po + (0 : Int32))), .val (.long ((p2.toInt64) &&& (((1 : Int64) <<< (b0v &&& 0x3f).toInt64) - (1 : Int64)))), .second, .val (.long ((((1 : Int64) <<< (b0v &&& 0x3f).toInt64) - (1 : Int64)) <<< ((0 : Int32) &&& 0x3f).toInt64)), .second, .unset, .unset] [(.int (0 : Int32)), (.int po), (.ref b578), (.ref b524)]) rfl (by rw [hml]; rfl) (lenOf pd_4 rfl) rfl (hb hby at_366) (Nat.le_of_eq rfl) ?_
      intro v631 T631 L631 X631 hQ631
      obtain ⟨rfl, M631, e631⟩ := hQ631
      have N631 := Fr.app N619 M631
      show Go p e below _ (T631.setTop (mkF m 369 #[.val (.int p0), .val (.int p1), .val (.int p2), .val (.long q3), .second, .val (.long q4), .second, .val (.int b0v), .val (.int b1v), .val (.int b2v), .val (.int (0 : Int32)), .val (.int (1 : Int32)), .val (.int (0 : Int32)), .val (.int po), .val (.int b0v), .val (.int (0 : Int32)), .val (.int (0 : Int32)), .val (.long (((1 : Int64) <<< (b0v &&& 0x3f).toInt64) - (1 : Int64))), .second, .val (.ref b512), .val (.ref b524), .val (.ref b541), .val (.ref b578), .val (.int (po + (0 : Int32))), .val (.long ((p2.toInt64) &&& (((1 : Int64) <<< (b0v &&& 0x3f).toInt64) - (1 : Int64)))), .second, .val (.long ((((1 : Int64) <<< (b0v &&& 0x3f).toInt64) - (1 : Int64)) <<< ((0 : Int32) &&& 0x3f).toInt64)), .second, .unset, .unset] [(.int ((own_get (f1 (po + (0 : Int32)).toNatClampNeg) (own_mask b0v) (0 : Int32)).toInt32))]))
      refine Go.st (fun _ => XS.lload X631.here hx rfl (hb hby at_369) rfl) ?_
      refine Go.st (fun _ => XS.l2i X631.here hx rfl (hb hby at_371) rfl) ?_
      refine Go.st (fun _ => XS.icmpNo X631.here hx rfl (hb hby at_372) rfl (teq (congrArg Int64.toInt32 GV)).2) ?_
      refine Go.st (fun _ => XS.iconst X631.here hx rfl (hb hby at_375)) ?_
      refine Go.st (fun _ => XS.goto X631.here hx rfl (pc0 := 376) (pc' := 380) rfl (hb hby at_376) (by decide) (by decide)) ?_
      refine Go.st (fun _ => XS.istore X631.here hx rfl (hb hby at_380) rfl (l' := #[.val (.int p0), .val (.int p1), .val (.int p2), .val (.long q3), .second, .val (.long q4), .second, .val (.int b0v), .val (.int b1v), .val (.int b2v), .val (.int (0 : Int32)), .val (.int (1 : Int32)), .val (.int (0 : Int32)), .val (.int po), .val (.int b0v), .val (.int (0 : Int32)), .val (.int (0 : Int32)), .val (.long (((1 : Int64) <<< (b0v &&& 0x3f).toInt64) - (1 : Int64))), .second, .val (.ref b512), .val (.ref b524), .val (.ref b541), .val (.ref b578), .val (.int (po + (0 : Int32))), .val (.long ((p2.toInt64) &&& (((1 : Int64) <<< (b0v &&& 0x3f).toInt64) - (1 : Int64)))), .second, .val (.long ((((1 : Int64) <<< (b0v &&& 0x3f).toInt64) - (1 : Int64)) <<< ((0 : Int32) &&& 0x3f).toInt64)), .second, .val (.int (1 : Int32)), .unset]) rfl) ?_
      refine Go.st (fun _ => XS.aload X631.here hx rfl (hb hby at_382) rfl rfl) ?_
      refine Go.st (fun _ => XS.aload X631.here hx rfl (hb hby at_384) rfl rfl) ?_
      refine Go.st (fun _ => XS.iconst X631.here hx rfl (hb hby at_386)) ?_
      refine Go.st (fun _ => XS.iload X631.here hx rfl (hb hby at_387) rfl) ?_
      refine Go.st (fun _ => XS.lload X631.here hx rfl (hb hby at_389) rfl) ?_
      show Go p e below _ (T631.setTop (mkF m 391 #[.val (.int p0), .val (.int p1), .val (.int p2), .val (.long q3), .second, .val (.long q4), .second, .val (.int b0v), .val (.int b1v), .val (.int b2v), .val (.int (0 : Int32)), .val (.int (1 : Int32)), .val (.int (0 : Int32)), .val (.int po), .val (.int b0v), .val (.int (0 : Int32)), .val (.int (0 : Int32)), .val (.long (((1 : Int64) <<< (b0v &&& 0x3f).toInt64) - (1 : Int64))), .second, .val (.ref b512), .val (.ref b524), .val (.ref b541), .val (.ref b578), .val (.int (po + (0 : Int32))), .val (.long ((p2.toInt64) &&& (((1 : Int64) <<< (b0v &&& 0x3f).toInt64) - (1 : Int64)))), .second, .val (.long ((((1 : Int64) <<< (b0v &&& 0x3f).toInt64) - (1 : Int64)) <<< ((0 : Int32) &&& 0x3f).toInt64)), .second, .val (.int (1 : Int32)), .unset] [(.long ((((1 : Int64) <<< (b0v &&& 0x3f).toInt64) - (1 : Int64)) <<< ((0 : Int32) &&& 0x3f).toInt64)), (.int (po + (0 : Int32))), (.int (0 : Int32)), (.ref b541), (.ref b578)]))
      refine goCallS X631 hx hZ (y := (⟨"com/example/gieres/gieres/model/TupleTableSetStatePinLaw", "same", "([J[JIIJ)Z"⟩ : MethodName)) hown (hw _ (List.mem_of_getElem? (i := 50) rfl)) (hw _ (List.mem_of_getElem? (i := 51) rfl)) (hw _ (List.mem_of_getElem? (i := 52) rfl)) (hw _ (List.mem_of_getElem? (i := 53) rfl)) (by decide) (argsL := [(.ref b578), (.ref b541), (.int (0 : Int32)), (.int (po + (0 : Int32))), (.long ((((1 : Int64) <<< (b0v &&& 0x3f).toInt64) - (1 : Int64)) <<< ((0 : Int32) &&& 0x3f).toInt64))]) (rest := []) e631 (rmSame l Z a0 hw [] b578 b541 (0 : Int32) (po + (0 : Int32)) (2 : Int32) ((((1 : Int64) <<< (b0v &&& 0x3f).toInt64) - (1 : Int64)) <<< ((0 : Int32) &&& 0x3f).toInt64) 2 f1 f0 T619.heap n0 O620 KA619 VL629 rfl rfl (by decide) (own_same1 PL hf1) (own_same2 (by decide) HJ.1 hf1)) 0 (by decide) (by decide) (by decide) (by decide) (mkF m 391 #[.val (.int p0), .val (.int p1), .val (.int p2), .val (.long q3), .second, .val (.long q4), .second, .val (.int b0v), .val (.int b1v), .val (.int b2v), .val (.int (0 : Int32)), .val (.int (1 : Int32)), .val (.int (0 : Int32)), .val (.int po), .val (.int b0v), .val (.int (0 : Int32)), .val (.int (0 : Int32)), .val (.long (((1 : Int64) <<< (b0v &&& 0x3f).toInt64) - (1 : Int64))), .second, .val (.ref b512), .val (.ref b524), .val (.ref b541), .val (.ref b578), .val (.int (po + (0 : Int32))), .val (.long ((p2.toInt64) &&& (((1 : Int64) <<< (b0v &&& 0x3f).toInt64) - (1 : Int64)))), .second, .val (.long ((((1 : Int64) <<< (b0v &&& 0x3f).toInt64) - (1 : Int64)) <<< ((0 : Int32) &&& 0x3f).toInt64)), .second, .val (.int (1 : Int32)), .unset] [(.long ((((1 : Int64) <<< (b0v &&& 0x3f).toInt64) - (1 : Int64)) <<< ((0 : Int32) &&& 0x3f).toInt64)), (.int (po + (0 : Int32))), (.int (0 : Int32)), (.ref b541), (.ref b578)]) rfl (by rw [hml]; rfl) (lenOf pd_5 rfl) rfl (hb hby at_391) (Nat.le_of_eq rfl) ?_
      intro v632 T632 L632 X632 hQ632
      obtain ⟨rfl, M632, e632⟩ := hQ632
      have N632 := Fr.app N631 M632
      show Go p e below _ (T632.setTop (mkF m 394 #[.val (.int p0), .val (.int p1), .val (.int p2), .val (.long q3), .second, .val (.long q4), .second, .val (.int b0v), .val (.int b1v), .val (.int b2v), .val (.int (0 : Int32)), .val (.int (1 : Int32)), .val (.int (0 : Int32)), .val (.int po), .val (.int b0v), .val (.int (0 : Int32)), .val (.int (0 : Int32)), .val (.long (((1 : Int64) <<< (b0v &&& 0x3f).toInt64) - (1 : Int64))), .second, .val (.ref b512), .val (.ref b524), .val (.ref b541), .val (.ref b578), .val (.int (po + (0 : Int32))), .val (.long ((p2.toInt64) &&& (((1 : Int64) <<< (b0v &&& 0x3f).toInt64) - (1 : Int64)))), .second, .val (.long ((((1 : Int64) <<< (b0v &&& 0x3f).toInt64) - (1 : Int64)) <<< ((0 : Int32) &&& 0x3f).toInt64)), .second, .val (.int (1 : Int32)), .unset] [(.int (1 : Int32))]))
      refine Go.st (fun _ => XS.ifNo X632.here hx rfl (hb hby at_394) rfl ((if0 _ _).trans (feq (by decide : ¬ ((1 : Int32) = (0 : Int32)))).1)) ?_
      refine Go.st (fun _ => XS.aload X632.here hx rfl (hb hby at_397) rfl rfl) ?_
      refine Go.st (fun _ => XS.aload X632.here hx rfl (hb hby at_399) rfl rfl) ?_
      refine Go.st (fun _ => XS.iconst X632.here hx rfl (hb hby at_401)) ?_
      refine Go.st (fun _ => XS.iload X632.here hx rfl (hb hby at_402) rfl) ?_
      refine Go.st (fun _ => XS.lload X632.here hx rfl (hb hby at_404) rfl) ?_
      show Go p e below _ (T632.setTop (mkF m 406 #[.val (.int p0), .val (.int p1), .val (.int p2), .val (.long q3), .second, .val (.long q4), .second, .val (.int b0v), .val (.int b1v), .val (.int b2v), .val (.int (0 : Int32)), .val (.int (1 : Int32)), .val (.int (0 : Int32)), .val (.int po), .val (.int b0v), .val (.int (0 : Int32)), .val (.int (0 : Int32)), .val (.long (((1 : Int64) <<< (b0v &&& 0x3f).toInt64) - (1 : Int64))), .second, .val (.ref b512), .val (.ref b524), .val (.ref b541), .val (.ref b578), .val (.int (po + (0 : Int32))), .val (.long ((p2.toInt64) &&& (((1 : Int64) <<< (b0v &&& 0x3f).toInt64) - (1 : Int64)))), .second, .val (.long ((((1 : Int64) <<< (b0v &&& 0x3f).toInt64) - (1 : Int64)) <<< ((0 : Int32) &&& 0x3f).toInt64)), .second, .val (.int (1 : Int32)), .unset] [(.long ((((1 : Int64) <<< (b0v &&& 0x3f).toInt64) - (1 : Int64)) <<< ((0 : Int32) &&& 0x3f).toInt64)), (.int (po + (0 : Int32))), (.int (1 : Int32)), (.ref b541), (.ref b578)]))
      refine goCallS X632 hx hZ (y := (⟨"com/example/gieres/gieres/model/TupleTableSetStatePinLaw", "same", "([J[JIIJ)Z"⟩ : MethodName)) hown (hw _ (List.mem_of_getElem? (i := 50) rfl)) (hw _ (List.mem_of_getElem? (i := 51) rfl)) (hw _ (List.mem_of_getElem? (i := 52) rfl)) (hw _ (List.mem_of_getElem? (i := 53) rfl)) (by decide) (argsL := [(.ref b578), (.ref b541), (.int (1 : Int32)), (.int (po + (0 : Int32))), (.long ((((1 : Int64) <<< (b0v &&& 0x3f).toInt64) - (1 : Int64)) <<< ((0 : Int32) &&& 0x3f).toInt64))]) (rest := []) e632 (rmSame l Z a0 hw [] b578 b541 (1 : Int32) (po + (0 : Int32)) (2 : Int32) ((((1 : Int64) <<< (b0v &&& 0x3f).toInt64) - (1 : Int64)) <<< ((0 : Int32) &&& 0x3f).toInt64) 2 f1 f0 T619.heap n0 O620 KA619 VL629 rfl rfl (by decide) (own_same1 PL hf1) (own_same2 (by decide) HJ.1 hf1)) 0 (by decide) (by decide) (by decide) (by decide) (mkF m 406 #[.val (.int p0), .val (.int p1), .val (.int p2), .val (.long q3), .second, .val (.long q4), .second, .val (.int b0v), .val (.int b1v), .val (.int b2v), .val (.int (0 : Int32)), .val (.int (1 : Int32)), .val (.int (0 : Int32)), .val (.int po), .val (.int b0v), .val (.int (0 : Int32)), .val (.int (0 : Int32)), .val (.long (((1 : Int64) <<< (b0v &&& 0x3f).toInt64) - (1 : Int64))), .second, .val (.ref b512), .val (.ref b524), .val (.ref b541), .val (.ref b578), .val (.int (po + (0 : Int32))), .val (.long ((p2.toInt64) &&& (((1 : Int64) <<< (b0v &&& 0x3f).toInt64) - (1 : Int64)))), .second, .val (.long ((((1 : Int64) <<< (b0v &&& 0x3f).toInt64) - (1 : Int64)) <<< ((0 : Int32) &&& 0x3f).toInt64)), .second, .val (.int (1 : Int32)), .unset] [(.long ((((1 : Int64) <<< (b0v &&& 0x3f).toInt64) - (1 : Int64)) <<< ((0 : Int32) &&& 0x3f).toInt64)), (.int (po + (0 : Int32))), (.int (1 : Int32)), (.ref b541), (.ref b578)]) rfl (by rw [hml]; rfl) (lenOf pd_5 rfl) rfl (hb hby at_406) (Nat.le_of_eq rfl) ?_
      intro v633 T633 L633 X633 hQ633
      obtain ⟨rfl, M633, e633⟩ := hQ633
      have N633 := Fr.app N632 M633
      show Go p e below _ (T633.setTop (mkF m 409 #[.val (.int p0), .val (.int p1), .val (.int p2), .val (.long q3), .second, .val (.long q4), .second, .val (.int b0v), .val (.int b1v), .val (.int b2v), .val (.int (0 : Int32)), .val (.int (1 : Int32)), .val (.int (0 : Int32)), .val (.int po), .val (.int b0v), .val (.int (0 : Int32)), .val (.int (0 : Int32)), .val (.long (((1 : Int64) <<< (b0v &&& 0x3f).toInt64) - (1 : Int64))), .second, .val (.ref b512), .val (.ref b524), .val (.ref b541), .val (.ref b578), .val (.int (po + (0 : Int32))), .val (.long ((p2.toInt64) &&& (((1 : Int64) <<< (b0v &&& 0x3f).toInt64) - (1 : Int64)))), .second, .val (.long ((((1 : Int64) <<< (b0v &&& 0x3f).toInt64) - (1 : Int64)) <<< ((0 : Int32) &&& 0x3f).toInt64)), .second, .val (.int (1 : Int32)), .unset] [(.int (1 : Int32))]))
      refine Go.st (fun _ => XS.ifNo X633.here hx rfl (hb hby at_409) rfl ((if0 _ _).trans (feq (by decide : ¬ ((1 : Int32) = (0 : Int32)))).1)) ?_
      refine Go.st (fun _ => XS.aload X633.here hx rfl (hb hby at_412) rfl rfl) ?_
      refine Go.st (fun _ => XS.aload X633.here hx rfl (hb hby at_414) rfl rfl) ?_
      refine Go.st (fun _ => XS.iconst X633.here hx rfl (hb hby at_416)) ?_
      refine Go.st (fun _ => XS.iload X633.here hx rfl (hb hby at_417) rfl) ?_
      refine Go.st (fun _ => XS.lload X633.here hx rfl (hb hby at_419) rfl) ?_
      show Go p e below _ (T633.setTop (mkF m 421 #[.val (.int p0), .val (.int p1), .val (.int p2), .val (.long q3), .second, .val (.long q4), .second, .val (.int b0v), .val (.int b1v), .val (.int b2v), .val (.int (0 : Int32)), .val (.int (1 : Int32)), .val (.int (0 : Int32)), .val (.int po), .val (.int b0v), .val (.int (0 : Int32)), .val (.int (0 : Int32)), .val (.long (((1 : Int64) <<< (b0v &&& 0x3f).toInt64) - (1 : Int64))), .second, .val (.ref b512), .val (.ref b524), .val (.ref b541), .val (.ref b578), .val (.int (po + (0 : Int32))), .val (.long ((p2.toInt64) &&& (((1 : Int64) <<< (b0v &&& 0x3f).toInt64) - (1 : Int64)))), .second, .val (.long ((((1 : Int64) <<< (b0v &&& 0x3f).toInt64) - (1 : Int64)) <<< ((0 : Int32) &&& 0x3f).toInt64)), .second, .val (.int (1 : Int32)), .unset] [(.long ((((1 : Int64) <<< (b0v &&& 0x3f).toInt64) - (1 : Int64)) <<< ((0 : Int32) &&& 0x3f).toInt64)), (.int (po + (0 : Int32))), (.int (2 : Int32)), (.ref b541), (.ref b578)]))
      refine goCallS X633 hx hZ (y := (⟨"com/example/gieres/gieres/model/TupleTableSetStatePinLaw", "same", "([J[JIIJ)Z"⟩ : MethodName)) hown (hw _ (List.mem_of_getElem? (i := 50) rfl)) (hw _ (List.mem_of_getElem? (i := 51) rfl)) (hw _ (List.mem_of_getElem? (i := 52) rfl)) (hw _ (List.mem_of_getElem? (i := 53) rfl)) (by decide) (argsL := [(.ref b578), (.ref b541), (.int (2 : Int32)), (.int (po + (0 : Int32))), (.long ((((1 : Int64) <<< (b0v &&& 0x3f).toInt64) - (1 : Int64)) <<< ((0 : Int32) &&& 0x3f).toInt64))]) (rest := []) e633 (rmSame l Z a0 hw [] b578 b541 (2 : Int32) (po + (0 : Int32)) (2 : Int32) ((((1 : Int64) <<< (b0v &&& 0x3f).toInt64) - (1 : Int64)) <<< ((0 : Int32) &&& 0x3f).toInt64) 2 f1 f0 T619.heap n0 O620 KA619 VL629 rfl rfl (by decide) (own_same1 PL hf1) (own_same2 (by decide) HJ.1 hf1)) 0 (by decide) (by decide) (by decide) (by decide) (mkF m 421 #[.val (.int p0), .val (.int p1), .val (.int p2), .val (.long q3), .second, .val (.long q4), .second, .val (.int b0v), .val (.int b1v), .val (.int b2v), .val (.int (0 : Int32)), .val (.int (1 : Int32)), .val (.int (0 : Int32)), .val (.int po), .val (.int b0v), .val (.int (0 : Int32)), .val (.int (0 : Int32)), .val (.long (((1 : Int64) <<< (b0v &&& 0x3f).toInt64) - (1 : Int64))), .second, .val (.ref b512), .val (.ref b524), .val (.ref b541), .val (.ref b578), .val (.int (po + (0 : Int32))), .val (.long ((p2.toInt64) &&& (((1 : Int64) <<< (b0v &&& 0x3f).toInt64) - (1 : Int64)))), .second, .val (.long ((((1 : Int64) <<< (b0v &&& 0x3f).toInt64) - (1 : Int64)) <<< ((0 : Int32) &&& 0x3f).toInt64)), .second, .val (.int (1 : Int32)), .unset] [(.long ((((1 : Int64) <<< (b0v &&& 0x3f).toInt64) - (1 : Int64)) <<< ((0 : Int32) &&& 0x3f).toInt64)), (.int (po + (0 : Int32))), (.int (2 : Int32)), (.ref b541), (.ref b578)]) rfl (by rw [hml]; rfl) (lenOf pd_5 rfl) rfl (hb hby at_421) (Nat.le_of_eq rfl) ?_
      intro v634 T634 L634 X634 hQ634
      obtain ⟨rfl, M634, e634⟩ := hQ634
      have N634 := Fr.app N633 M634
      show Go p e below _ (T634.setTop (mkF m 424 #[.val (.int p0), .val (.int p1), .val (.int p2), .val (.long q3), .second, .val (.long q4), .second, .val (.int b0v), .val (.int b1v), .val (.int b2v), .val (.int (0 : Int32)), .val (.int (1 : Int32)), .val (.int (0 : Int32)), .val (.int po), .val (.int b0v), .val (.int (0 : Int32)), .val (.int (0 : Int32)), .val (.long (((1 : Int64) <<< (b0v &&& 0x3f).toInt64) - (1 : Int64))), .second, .val (.ref b512), .val (.ref b524), .val (.ref b541), .val (.ref b578), .val (.int (po + (0 : Int32))), .val (.long ((p2.toInt64) &&& (((1 : Int64) <<< (b0v &&& 0x3f).toInt64) - (1 : Int64)))), .second, .val (.long ((((1 : Int64) <<< (b0v &&& 0x3f).toInt64) - (1 : Int64)) <<< ((0 : Int32) &&& 0x3f).toInt64)), .second, .val (.int (1 : Int32)), .unset] [(.int (1 : Int32))]))
      refine Go.st (fun _ => XS.ifNo X634.here hx rfl (hb hby at_424) rfl ((if0 _ _).trans (feq (by decide : ¬ ((1 : Int32) = (0 : Int32)))).1)) ?_
      refine Go.st (fun _ => XS.aload X634.here hx rfl (hb hby at_427) rfl rfl) ?_
      refine Go.st (fun _ => XS.aload X634.here hx rfl (hb hby at_429) rfl rfl) ?_
      refine Go.st (fun _ => XS.iconst X634.here hx rfl (hb hby at_431)) ?_
      refine Go.st (fun _ => XS.iload X634.here hx rfl (hb hby at_432) rfl) ?_
      refine Go.st (fun _ => XS.lload X634.here hx rfl (hb hby at_434) rfl) ?_
      show Go p e below _ (T634.setTop (mkF m 436 #[.val (.int p0), .val (.int p1), .val (.int p2), .val (.long q3), .second, .val (.long q4), .second, .val (.int b0v), .val (.int b1v), .val (.int b2v), .val (.int (0 : Int32)), .val (.int (1 : Int32)), .val (.int (0 : Int32)), .val (.int po), .val (.int b0v), .val (.int (0 : Int32)), .val (.int (0 : Int32)), .val (.long (((1 : Int64) <<< (b0v &&& 0x3f).toInt64) - (1 : Int64))), .second, .val (.ref b512), .val (.ref b524), .val (.ref b541), .val (.ref b578), .val (.int (po + (0 : Int32))), .val (.long ((p2.toInt64) &&& (((1 : Int64) <<< (b0v &&& 0x3f).toInt64) - (1 : Int64)))), .second, .val (.long ((((1 : Int64) <<< (b0v &&& 0x3f).toInt64) - (1 : Int64)) <<< ((0 : Int32) &&& 0x3f).toInt64)), .second, .val (.int (1 : Int32)), .unset] [(.long ((((1 : Int64) <<< (b0v &&& 0x3f).toInt64) - (1 : Int64)) <<< ((0 : Int32) &&& 0x3f).toInt64)), (.int (po + (0 : Int32))), (.int (3 : Int32)), (.ref b541), (.ref b578)]))
      refine goCallS X634 hx hZ (y := (⟨"com/example/gieres/gieres/model/TupleTableSetStatePinLaw", "same", "([J[JIIJ)Z"⟩ : MethodName)) hown (hw _ (List.mem_of_getElem? (i := 50) rfl)) (hw _ (List.mem_of_getElem? (i := 51) rfl)) (hw _ (List.mem_of_getElem? (i := 52) rfl)) (hw _ (List.mem_of_getElem? (i := 53) rfl)) (by decide) (argsL := [(.ref b578), (.ref b541), (.int (3 : Int32)), (.int (po + (0 : Int32))), (.long ((((1 : Int64) <<< (b0v &&& 0x3f).toInt64) - (1 : Int64)) <<< ((0 : Int32) &&& 0x3f).toInt64))]) (rest := []) e634 (rmSame l Z a0 hw [] b578 b541 (3 : Int32) (po + (0 : Int32)) (2 : Int32) ((((1 : Int64) <<< (b0v &&& 0x3f).toInt64) - (1 : Int64)) <<< ((0 : Int32) &&& 0x3f).toInt64) 2 f1 f0 T619.heap n0 O620 KA619 VL629 rfl rfl (by decide) (own_same1 PL hf1) (own_same2 (by decide) HJ.1 hf1)) 0 (by decide) (by decide) (by decide) (by decide) (mkF m 436 #[.val (.int p0), .val (.int p1), .val (.int p2), .val (.long q3), .second, .val (.long q4), .second, .val (.int b0v), .val (.int b1v), .val (.int b2v), .val (.int (0 : Int32)), .val (.int (1 : Int32)), .val (.int (0 : Int32)), .val (.int po), .val (.int b0v), .val (.int (0 : Int32)), .val (.int (0 : Int32)), .val (.long (((1 : Int64) <<< (b0v &&& 0x3f).toInt64) - (1 : Int64))), .second, .val (.ref b512), .val (.ref b524), .val (.ref b541), .val (.ref b578), .val (.int (po + (0 : Int32))), .val (.long ((p2.toInt64) &&& (((1 : Int64) <<< (b0v &&& 0x3f).toInt64) - (1 : Int64)))), .second, .val (.long ((((1 : Int64) <<< (b0v &&& 0x3f).toInt64) - (1 : Int64)) <<< ((0 : Int32) &&& 0x3f).toInt64)), .second, .val (.int (1 : Int32)), .unset] [(.long ((((1 : Int64) <<< (b0v &&& 0x3f).toInt64) - (1 : Int64)) <<< ((0 : Int32) &&& 0x3f).toInt64)), (.int (po + (0 : Int32))), (.int (3 : Int32)), (.ref b541), (.ref b578)]) rfl (by rw [hml]; rfl) (lenOf pd_5 rfl) rfl (hb hby at_436) (Nat.le_of_eq rfl) ?_
      intro v635 T635 L635 X635 hQ635
      obtain ⟨rfl, M635, e635⟩ := hQ635
      have N635 := Fr.app N634 M635
      show Go p e below _ (T635.setTop (mkF m 439 #[.val (.int p0), .val (.int p1), .val (.int p2), .val (.long q3), .second, .val (.long q4), .second, .val (.int b0v), .val (.int b1v), .val (.int b2v), .val (.int (0 : Int32)), .val (.int (1 : Int32)), .val (.int (0 : Int32)), .val (.int po), .val (.int b0v), .val (.int (0 : Int32)), .val (.int (0 : Int32)), .val (.long (((1 : Int64) <<< (b0v &&& 0x3f).toInt64) - (1 : Int64))), .second, .val (.ref b512), .val (.ref b524), .val (.ref b541), .val (.ref b578), .val (.int (po + (0 : Int32))), .val (.long ((p2.toInt64) &&& (((1 : Int64) <<< (b0v &&& 0x3f).toInt64) - (1 : Int64)))), .second, .val (.long ((((1 : Int64) <<< (b0v &&& 0x3f).toInt64) - (1 : Int64)) <<< ((0 : Int32) &&& 0x3f).toInt64)), .second, .val (.int (1 : Int32)), .unset] [(.int (1 : Int32))]))
      refine Go.st (fun _ => XS.ifNo X635.here hx rfl (hb hby at_439) rfl ((if0 _ _).trans (feq (by decide : ¬ ((1 : Int32) = (0 : Int32)))).1)) ?_
      refine Go.st (fun _ => XS.iconst X635.here hx rfl (hb hby at_442)) ?_
      refine Go.st (fun _ => XS.goto X635.here hx rfl (pc0 := 443) (pc' := 447) rfl (hb hby at_443) (by decide) (by decide)) ?_
      refine Go.st (fun _ => XS.istore X635.here hx rfl (hb hby at_447) rfl (l' := #[.val (.int p0), .val (.int p1), .val (.int p2), .val (.long q3), .second, .val (.long q4), .second, .val (.int b0v), .val (.int b1v), .val (.int b2v), .val (.int (0 : Int32)), .val (.int (1 : Int32)), .val (.int (0 : Int32)), .val (.int po), .val (.int b0v), .val (.int (0 : Int32)), .val (.int (0 : Int32)), .val (.long (((1 : Int64) <<< (b0v &&& 0x3f).toInt64) - (1 : Int64))), .second, .val (.ref b512), .val (.ref b524), .val (.ref b541), .val (.ref b578), .val (.int (po + (0 : Int32))), .val (.long ((p2.toInt64) &&& (((1 : Int64) <<< (b0v &&& 0x3f).toInt64) - (1 : Int64)))), .second, .val (.long ((((1 : Int64) <<< (b0v &&& 0x3f).toInt64) - (1 : Int64)) <<< ((0 : Int32) &&& 0x3f).toInt64)), .second, .val (.int (1 : Int32)), .val (.int (1 : Int32))]) rfl) ?_
      refine Go.st (fun _ => XS.iload X635.here hx rfl (hb hby at_449) rfl) ?_
      refine Go.st (fun _ => XS.ifNo X635.here hx rfl (hb hby at_451) rfl ((if0 _ _).trans (feq (by decide : ¬ ((1 : Int32) = (0 : Int32)))).1)) ?_
      refine Go.st (fun _ => XS.iload X635.here hx rfl (hb hby at_454) rfl) ?_
      refine Go.st (fun _ => XS.ifNo X635.here hx rfl (hb hby at_456) rfl ((if0 _ _).trans (feq (by decide : ¬ ((1 : Int32) = (0 : Int32)))).1)) ?_
      refine Go.st (fun _ => XS.iconst X635.here hx rfl (hb hby at_459)) ?_
      refine Go.st (fun _ => XS.goto X635.here hx rfl (pc0 := 460) (pc' := 464) rfl (hb hby at_460) (by decide) (by decide)) ?_
      show Go p e below _ (T635.setTop (mkF m 464 #[.val (.int p0), .val (.int p1), .val (.int p2), .val (.long q3), .second, .val (.long q4), .second, .val (.int b0v), .val (.int b1v), .val (.int b2v), .val (.int (0 : Int32)), .val (.int (1 : Int32)), .val (.int (0 : Int32)), .val (.int po), .val (.int b0v), .val (.int (0 : Int32)), .val (.int (0 : Int32)), .val (.long (((1 : Int64) <<< (b0v &&& 0x3f).toInt64) - (1 : Int64))), .second, .val (.ref b512), .val (.ref b524), .val (.ref b541), .val (.ref b578), .val (.int (po + (0 : Int32))), .val (.long ((p2.toInt64) &&& (((1 : Int64) <<< (b0v &&& 0x3f).toInt64) - (1 : Int64)))), .second, .val (.long ((((1 : Int64) <<< (b0v &&& 0x3f).toInt64) - (1 : Int64)) <<< ((0 : Int32) &&& 0x3f).toInt64)), .second, .val (.int (1 : Int32)), .val (.int (1 : Int32))] [(.int (1 : Int32))]))
      exact goRetN X635 hx hlk hret (t := .boolean) (by simp) (w := (1 : Int32)) (by decide) e635 (hb hby at_464) (by decide) (by decide) ⟨rfl, N635⟩
    · rw [qf]
      show Go p e below _ (s₁.setTop (mkF m 70 #[.val (.int p0), .val (.int p1), .val (.int p2), .val (.long q3), .second, .val (.long q4), .second, .val (.int b0v), .val (.int b1v), .val (.int b2v), .val (.int (0 : Int32)), .val (.int (1 : Int32)), .unset, .unset, .unset, .unset, .unset, .unset, .unset, .unset, .unset, .unset, .unset, .unset, .unset, .unset, .unset, .unset, .unset, .unset] [(.int (1 : Int32))]))
      refine Go.st (fun _ => XS.istore X0.here hx rfl (hb hby at_70) rfl (l' := #[.val (.int p0), .val (.int p1), .val (.int p2), .val (.long q3), .second, .val (.long q4), .second, .val (.int b0v), .val (.int b1v), .val (.int b2v), .val (.int (0 : Int32)), .val (.int (1 : Int32)), .val (.int (1 : Int32)), .unset, .unset, .unset, .unset, .unset, .unset, .unset, .unset, .unset, .unset, .unset, .unset, .unset, .unset, .unset, .unset, .unset]) rfl) ?_
      refine Go.st (fun _ => XS.iloadN X0.here hx rfl (hb hby at_72) rfl) ?_
      refine Go.st (fun _ => XS.iconst X0.here hx rfl (hb hby at_73)) ?_
      refine Go.st (fun _ => XS.iushr X0.here hx rfl (hb hby at_74) rfl) ?_
      refine Go.st (fun _ => XS.iconst X0.here hx rfl (hb hby at_75)) ?_
      refine Go.st (fun _ => XS.iand X0.here hx rfl (hb hby at_76) rfl) ?_
      refine Go.st (fun _ => XS.iload X0.here hx rfl (hb hby at_77) rfl) ?_
      refine Go.st (fun _ => XS.imul X0.here hx rfl (hb hby at_79) rfl) ?_
      refine Go.st (fun _ => XS.istore X0.here hx rfl (hb hby at_80) rfl (l' := #[.val (.int p0), .val (.int p1), .val (.int p2), .val (.long q3), .second, .val (.long q4), .second, .val (.int b0v), .val (.int b1v), .val (.int b2v), .val (.int (0 : Int32)), .val (.int (1 : Int32)), .val (.int (1 : Int32)), .val (.int ((((p1.toUInt32 >>> ((2 : Int32) &&& 31).toUInt32).toInt32) &&& (1 : Int32)) * (1 : Int32))), .unset, .unset, .unset, .unset, .unset, .unset, .unset, .unset, .unset, .unset, .unset, .unset, .unset, .unset, .unset, .unset]) rfl) ?_
      show Go p e below _ (s₁.setTop (mkF m 82 #[.val (.int p0), .val (.int p1), .val (.int p2), .val (.long q3), .second, .val (.long q4), .second, .val (.int b0v), .val (.int b1v), .val (.int b2v), .val (.int (0 : Int32)), .val (.int (1 : Int32)), .val (.int (1 : Int32)), .val (.int ((((p1.toUInt32 >>> ((2 : Int32) &&& 31).toUInt32).toInt32) &&& (1 : Int32)) * (1 : Int32))), .unset, .unset, .unset, .unset, .unset, .unset, .unset, .unset, .unset, .unset, .unset, .unset, .unset, .unset, .unset, .unset] []))
      obtain ⟨po, hpo⟩ : ∃ z, z = ((((p1.toUInt32 >>> ((2 : Int32) &&& 31).toUInt32).toInt32) &&& (1 : Int32)) * (1 : Int32)) := ⟨_, rfl⟩
      rw [← hpo]
      have hpb : po = 0 ∨ po = 1 := by rw [hpo]; exact own_po _ _
      have HJ : 0 ≤ (po + (0 : Int32)).toInt ∧ (po + (0 : Int32)).toInt < (2 : Nat) := by rcases hpb with q | q <;> rw [q] <;> decide
      show Go p e below _ (s₁.setTop (mkF m 82 #[.val (.int p0), .val (.int p1), .val (.int p2), .val (.long q3), .second, .val (.long q4), .second, .val (.int b0v), .val (.int b1v), .val (.int b2v), .val (.int (0 : Int32)), .val (.int (1 : Int32)), .val (.int (1 : Int32)), .val (.int po), .unset, .unset, .unset, .unset, .unset, .unset, .unset, .unset, .unset, .unset, .unset, .unset, .unset, .unset, .unset, .unset] []))
      refine Go.st (fun _ => XS.iload X0.here hx rfl (hb hby at_82) rfl) ?_
      refine Go.st (fun _ => XS.ifYes X0.here hx rfl (pc0 := 84) (pc' := 92) rfl (hb hby at_84) rfl ((if0 _ _).trans (feq (by decide : ¬ ((1 : Int32) = (0 : Int32)))).2) (by decide) (by decide)) ?_
      refine Go.st (fun _ => XS.iload X0.here hx rfl (hb hby at_92) rfl) ?_
      refine Go.st (fun _ => XS.iconst X0.here hx rfl (hb hby at_94)) ?_
      refine Go.st (fun _ => XS.icmpNo X0.here hx rfl (hb hby at_95) rfl (teq (by decide : (1 : Int32) = (1 : Int32))).2) ?_
      refine Go.st (fun _ => XS.iload X0.here hx rfl (hb hby at_98) rfl) ?_
      refine Go.st (fun _ => XS.goto X0.here hx rfl (pc0 := 100) (pc' := 105) rfl (hb hby at_100) (by decide) (by decide)) ?_
      refine Go.st (fun _ => XS.istore X0.here hx rfl (hb hby at_105) rfl (l' := #[.val (.int p0), .val (.int p1), .val (.int p2), .val (.long q3), .second, .val (.long q4), .second, .val (.int b0v), .val (.int b1v), .val (.int b2v), .val (.int (0 : Int32)), .val (.int (1 : Int32)), .val (.int (1 : Int32)), .val (.int po), .val (.int b1v), .unset, .unset, .unset, .unset, .unset, .unset, .unset, .unset, .unset, .unset, .unset, .unset, .unset, .unset, .unset]) rfl) ?_
      refine Go.st (fun _ => XS.iload X0.here hx rfl (hb hby at_107) rfl) ?_
      refine Go.st (fun _ => XS.ifYes X0.here hx rfl (pc0 := 109) (pc' := 116) rfl (hb hby at_109) rfl ((if0 _ _).trans (feq (by decide : ¬ ((1 : Int32) = (0 : Int32)))).2) (by decide) (by decide)) ?_
      refine Go.st (fun _ => XS.iload X0.here hx rfl (hb hby at_116) rfl) ?_
      refine Go.st (fun _ => XS.iconst X0.here hx rfl (hb hby at_118)) ?_
      show Go p e below _ (s₁.setTop (mkF m 119 #[.val (.int p0), .val (.int p1), .val (.int p2), .val (.long q3), .second, .val (.long q4), .second, .val (.int b0v), .val (.int b1v), .val (.int b2v), .val (.int (0 : Int32)), .val (.int (1 : Int32)), .val (.int (1 : Int32)), .val (.int po), .val (.int b1v), .unset, .unset, .unset, .unset, .unset, .unset, .unset, .unset, .unset, .unset, .unset, .unset, .unset, .unset, .unset] [(.int (1 : Int32)), (.int (1 : Int32))]))
      refine Go.st (fun _ => XS.icmpNo X0.here hx rfl (hb hby at_119) rfl (teq (by decide : (1 : Int32) = (1 : Int32))).2) ?_
      refine Go.st (fun _ => XS.iload X0.here hx rfl (hb hby at_122) rfl) ?_
      refine Go.st (fun _ => XS.goto X0.here hx rfl (pc0 := 124) (pc' := 141) rfl (hb hby at_124) (by decide) (by decide)) ?_
      refine Go.st (fun _ => XS.istore X0.here hx rfl (hb hby at_141) rfl (l' := #[.val (.int p0), .val (.int p1), .val (.int p2), .val (.long q3), .second, .val (.long q4), .second, .val (.int b0v), .val (.int b1v), .val (.int b2v), .val (.int (0 : Int32)), .val (.int (1 : Int32)), .val (.int (1 : Int32)), .val (.int po), .val (.int b1v), .val (.int b0v), .unset, .unset, .unset, .unset, .unset, .unset, .unset, .unset, .unset, .unset, .unset, .unset, .unset, .unset]) rfl) ?_
      refine Go.st (fun _ => XS.iload X0.here hx rfl (hb hby at_143) rfl) ?_
      refine Go.st (fun _ => XS.iconst X0.here hx rfl (hb hby at_145)) ?_
      refine Go.st (fun _ => XS.icmpYes X0.here hx rfl (pc0 := 146) (pc' := 158) rfl (hb hby at_146) rfl (feq (by decide : ¬ ((1 : Int32) = (2 : Int32)))).2 (by decide) (by decide)) ?_
      refine Go.st (fun _ => XS.iconst X0.here hx rfl (hb hby at_158)) ?_
      refine Go.st (fun _ => XS.istore X0.here hx rfl (hb hby at_159) rfl (l' := #[.val (.int p0), .val (.int p1), .val (.int p2), .val (.long q3), .second, .val (.long q4), .second, .val (.int b0v), .val (.int b1v), .val (.int b2v), .val (.int (0 : Int32)), .val (.int (1 : Int32)), .val (.int (1 : Int32)), .val (.int po), .val (.int b1v), .val (.int b0v), .val (.int (0 : Int32)), .unset, .unset, .unset, .unset, .unset, .unset, .unset, .unset, .unset, .unset, .unset, .unset, .unset]) rfl) ?_
      refine Go.st (fun _ => XS.lconst X0.here hx rfl (hb hby at_161)) ?_
      refine Go.st (fun _ => XS.iload X0.here hx rfl (hb hby at_162) rfl) ?_
      refine Go.st (fun _ => XS.lshl X0.here hx rfl (hb hby at_164) rfl) ?_
      show Go p e below _ (s₁.setTop (mkF m 165 #[.val (.int p0), .val (.int p1), .val (.int p2), .val (.long q3), .second, .val (.long q4), .second, .val (.int b0v), .val (.int b1v), .val (.int b2v), .val (.int (0 : Int32)), .val (.int (1 : Int32)), .val (.int (1 : Int32)), .val (.int po), .val (.int b1v), .val (.int b0v), .val (.int (0 : Int32)), .unset, .unset, .unset, .unset, .unset, .unset, .unset, .unset, .unset, .unset, .unset, .unset, .unset] [(.long ((1 : Int64) <<< (b1v &&& 0x3f).toInt64))]))
      refine Go.st (fun _ => XS.lconst X0.here hx rfl (hb hby at_165)) ?_
      refine Go.st (fun _ => XS.lsub X0.here hx rfl (hb hby at_166) rfl) ?_
      refine Go.st (fun _ => XS.lstore X0.here hx rfl (hb hby at_167) rfl (l' := #[.val (.int p0), .val (.int p1), .val (.int p2), .val (.long q3), .second, .val (.long q4), .second, .val (.int b0v), .val (.int b1v), .val (.int b2v), .val (.int (0 : Int32)), .val (.int (1 : Int32)), .val (.int (1 : Int32)), .val (.int po), .val (.int b1v), .val (.int b0v), .val (.int (0 : Int32)), .val (.long (((1 : Int64) <<< (b1v &&& 0x3f).toInt64) - (1 : Int64))), .second, .unset, .unset, .unset, .unset, .unset, .unset, .unset, .unset, .unset, .unset, .unset]) rfl) ?_
      refine Go.st (fun _ => XS.iconst X0.here hx rfl (hb hby at_169)) ?_
      show Go p e below _ (s₁.setTop (mkF m 170 #[.val (.int p0), .val (.int p1), .val (.int p2), .val (.long q3), .second, .val (.long q4), .second, .val (.int b0v), .val (.int b1v), .val (.int b2v), .val (.int (0 : Int32)), .val (.int (1 : Int32)), .val (.int (1 : Int32)), .val (.int po), .val (.int b1v), .val (.int b0v), .val (.int (0 : Int32)), .val (.long (((1 : Int64) <<< (b1v &&& 0x3f).toInt64) - (1 : Int64))), .second, .unset, .unset, .unset, .unset, .unset, .unset, .unset, .unset, .unset, .unset, .unset] [(.int (3 : Int32))]))
      obtain ⟨T636, h636, k636, X636, e636, E636, A636, st636⟩ := newP X0 hx hZ (hw _ (List.mem_of_getElem? (i := 0) rfl)) e0 (g := (mkF m 170 #[.val (.int p0), .val (.int p1), .val (.int p2), .val (.long q3), .second, .val (.long q4), .second, .val (.int b0v), .val (.int b1v), .val (.int b2v), .val (.int (0 : Int32)), .val (.int (1 : Int32)), .val (.int (1 : Int32)), .val (.int po), .val (.int b1v), .val (.int b0v), .val (.int (0 : Int32)), .val (.long (((1 : Int64) <<< (b1v &&& 0x3f).toInt64) - (1 : Int64))), .second, .unset, .unset, .unset, .unset, .unset, .unset, .unset, .unset, .unset, .unset, .unset] [(.int (3 : Int32))])) rfl (hb hby at_170) rfl (by decide) (cap := 3) (by decide) (by decide) (by decide) (by decide)
      obtain ⟨b636, g636⟩ : ∃ z, z = h0.size := ⟨_, rfl⟩
      rw [← g636] at A636 st636
      refine Go.st st636 ?_
      have gn636 : n0 ≤ b636 := oldGe O0 g636
      have O637 : Old Z n0 h636 := O0.ext E636
      have V_638 : Arv Z h636 b636 k636 .long (3 : Int32) [(.long (0 : Int64)), (.long (0 : Int64)), (.long (0 : Int64))] (.long (0 : Int64)) := (Arv.new A636 (by decide)).pad (pad_rep [] (.long (0 : Int64)) 3)
      show Go p e below _ (T636.setTop (mkF m 172 #[.val (.int p0), .val (.int p1), .val (.int p2), .val (.long q3), .second, .val (.long q4), .second, .val (.int b0v), .val (.int b1v), .val (.int b2v), .val (.int (0 : Int32)), .val (.int (1 : Int32)), .val (.int (1 : Int32)), .val (.int po), .val (.int b1v), .val (.int b0v), .val (.int (0 : Int32)), .val (.long (((1 : Int64) <<< (b1v &&& 0x3f).toInt64) - (1 : Int64))), .second, .unset, .unset, .unset, .unset, .unset, .unset, .unset, .unset, .unset, .unset, .unset] [(.ref b636)]))
      refine Go.st (fun _ => XS.dup X636.here hx rfl (hb hby at_172) rfl rfl) ?_
      refine Go.st (fun _ => XS.iconst X636.here hx rfl (hb hby at_173)) ?_
      refine Go.st (fun _ => XS.lconst X636.here hx rfl (hb hby at_174)) ?_
      refine Go.st (fun _ => XS.iload X636.here hx rfl (hb hby at_175) rfl) ?_
      refine Go.st (fun _ => XS.lshl X636.here hx rfl (hb hby at_177) rfl) ?_
      show Go p e below _ (T636.setTop (mkF m 178 #[.val (.int p0), .val (.int p1), .val (.int p2), .val (.long q3), .second, .val (.long q4), .second, .val (.int b0v), .val (.int b1v), .val (.int b2v), .val (.int (0 : Int32)), .val (.int (1 : Int32)), .val (.int (1 : Int32)), .val (.int po), .val (.int b1v), .val (.int b0v), .val (.int (0 : Int32)), .val (.long (((1 : Int64) <<< (b1v &&& 0x3f).toInt64) - (1 : Int64))), .second, .unset, .unset, .unset, .unset, .unset, .unset, .unset, .unset, .unset, .unset, .unset] [(.long ((1 : Int64) <<< (b0v &&& 0x3f).toInt64)), (.int (0 : Int32)), (.ref b636), (.ref b636)]))
      obtain ⟨cl639, Ar639, qk639, Sz639, Nn639, Ha639, Ga639⟩ := id V_638
      have hin639 : ¬ ((0 : Int32) < 0 ∨ cl639.slots.size ≤ ((0 : Int32) : Int32).toNatClampNeg) := inb_of Sz639 ⟨by decide, by decide⟩
      obtain ⟨T639, h639, X639, e639, W639, st639⟩ := stJ X636 hx hZ e636 Ar639 (j := (0 : Int32)) hin639 (g := (mkF m 178 #[.val (.int p0), .val (.int p1), .val (.int p2), .val (.long q3), .second, .val (.long q4), .second, .val (.int b0v), .val (.int b1v), .val (.int b2v), .val (.int (0 : Int32)), .val (.int (1 : Int32)), .val (.int (1 : Int32)), .val (.int po), .val (.int b1v), .val (.int b0v), .val (.int (0 : Int32)), .val (.long (((1 : Int64) <<< (b1v &&& 0x3f).toInt64) - (1 : Int64))), .second, .unset, .unset, .unset, .unset, .unset, .unset, .unset, .unset, .unset, .unset, .unset] [(.long ((1 : Int64) <<< (b0v &&& 0x3f).toInt64)), (.int (0 : Int32)), (.ref b636), (.ref b636)])) rfl rfl (hb hby at_178)
      refine Go.st st639 ?_
      have O640 : Old Z n0 h639 := O637.wr W639 gn636
      have V_641 : Arv Z h639 b636 k636 .long (3 : Int32) [(.long ((1 : Int64) <<< (b0v &&& 0x3f).toInt64)), (.long (0 : Int64)), (.long (0 : Int64))] (.long (0 : Int64)) := Arv.set Ar639 qk639 Sz639 Nn639 Ha639 Ga639 rfl W639 0 rfl (Nat.le_of_ble_eq_true rfl)
      have N639 := Fr.snoc X639 N0 gn636
      show Go p e below _ (T639.setTop (mkF m 179 #[.val (.int p0), .val (.int p1), .val (.int p2), .val (.long q3), .second, .val (.long q4), .second, .val (.int b0v), .val (.int b1v), .val (.int b2v), .val (.int (0 : Int32)), .val (.int (1 : Int32)), .val (.int (1 : Int32)), .val (.int po), .val (.int b1v), .val (.int b0v), .val (.int (0 : Int32)), .val (.long (((1 : Int64) <<< (b1v &&& 0x3f).toInt64) - (1 : Int64))), .second, .unset, .unset, .unset, .unset, .unset, .unset, .unset, .unset, .unset, .unset, .unset] [(.ref b636)]))
      refine Go.st (fun _ => XS.dup X639.here hx rfl (hb hby at_179) rfl rfl) ?_
      refine Go.st (fun _ => XS.iconst X639.here hx rfl (hb hby at_180)) ?_
      refine Go.st (fun _ => XS.lconst X639.here hx rfl (hb hby at_181)) ?_
      refine Go.st (fun _ => XS.iload X639.here hx rfl (hb hby at_182) rfl) ?_
      refine Go.st (fun _ => XS.lshl X639.here hx rfl (hb hby at_184) rfl) ?_
      show Go p e below _ (T639.setTop (mkF m 185 #[.val (.int p0), .val (.int p1), .val (.int p2), .val (.long q3), .second, .val (.long q4), .second, .val (.int b0v), .val (.int b1v), .val (.int b2v), .val (.int (0 : Int32)), .val (.int (1 : Int32)), .val (.int (1 : Int32)), .val (.int po), .val (.int b1v), .val (.int b0v), .val (.int (0 : Int32)), .val (.long (((1 : Int64) <<< (b1v &&& 0x3f).toInt64) - (1 : Int64))), .second, .unset, .unset, .unset, .unset, .unset, .unset, .unset, .unset, .unset, .unset, .unset] [(.long ((1 : Int64) <<< (b1v &&& 0x3f).toInt64)), (.int (1 : Int32)), (.ref b636), (.ref b636)]))
      obtain ⟨cl642, Ar642, qk642, Sz642, Nn642, Ha642, Ga642⟩ := id V_641
      have hin642 : ¬ ((1 : Int32) < 0 ∨ cl642.slots.size ≤ ((1 : Int32) : Int32).toNatClampNeg) := inb_of Sz642 ⟨by decide, by decide⟩
      obtain ⟨T642, h642, X642, e642, W642, st642⟩ := stJ X639 hx hZ e639 Ar642 (j := (1 : Int32)) hin642 (g := (mkF m 185 #[.val (.int p0), .val (.int p1), .val (.int p2), .val (.long q3), .second, .val (.long q4), .second, .val (.int b0v), .val (.int b1v), .val (.int b2v), .val (.int (0 : Int32)), .val (.int (1 : Int32)), .val (.int (1 : Int32)), .val (.int po), .val (.int b1v), .val (.int b0v), .val (.int (0 : Int32)), .val (.long (((1 : Int64) <<< (b1v &&& 0x3f).toInt64) - (1 : Int64))), .second, .unset, .unset, .unset, .unset, .unset, .unset, .unset, .unset, .unset, .unset, .unset] [(.long ((1 : Int64) <<< (b1v &&& 0x3f).toInt64)), (.int (1 : Int32)), (.ref b636), (.ref b636)])) rfl rfl (hb hby at_185)
      refine Go.st st642 ?_
      have O643 : Old Z n0 h642 := O640.wr W642 gn636
      have V_644 : Arv Z h642 b636 k636 .long (3 : Int32) [(.long ((1 : Int64) <<< (b0v &&& 0x3f).toInt64)), (.long ((1 : Int64) <<< (b1v &&& 0x3f).toInt64)), (.long (0 : Int64))] (.long (0 : Int64)) := Arv.set Ar642 qk642 Sz642 Nn642 Ha642 Ga642 rfl W642 1 rfl (Nat.le_of_ble_eq_true rfl)
      have N642 := Fr.snoc X642 N639 gn636
      show Go p e below _ (T642.setTop (mkF m 186 #[.val (.int p0), .val (.int p1), .val (.int p2), .val (.long q3), .second, .val (.long q4), .second, .val (.int b0v), .val (.int b1v), .val (.int b2v), .val (.int (0 : Int32)), .val (.int (1 : Int32)), .val (.int (1 : Int32)), .val (.int po), .val (.int b1v), .val (.int b0v), .val (.int (0 : Int32)), .val (.long (((1 : Int64) <<< (b1v &&& 0x3f).toInt64) - (1 : Int64))), .second, .unset, .unset, .unset, .unset, .unset, .unset, .unset, .unset, .unset, .unset, .unset] [(.ref b636)]))
      refine Go.st (fun _ => XS.dup X642.here hx rfl (hb hby at_186) rfl rfl) ?_
      refine Go.st (fun _ => XS.iconst X642.here hx rfl (hb hby at_187)) ?_
      refine Go.st (fun _ => XS.lconst X642.here hx rfl (hb hby at_188)) ?_
      refine Go.st (fun _ => XS.iload X642.here hx rfl (hb hby at_189) rfl) ?_
      refine Go.st (fun _ => XS.lshl X642.here hx rfl (hb hby at_191) rfl) ?_
      show Go p e below _ (T642.setTop (mkF m 192 #[.val (.int p0), .val (.int p1), .val (.int p2), .val (.long q3), .second, .val (.long q4), .second, .val (.int b0v), .val (.int b1v), .val (.int b2v), .val (.int (0 : Int32)), .val (.int (1 : Int32)), .val (.int (1 : Int32)), .val (.int po), .val (.int b1v), .val (.int b0v), .val (.int (0 : Int32)), .val (.long (((1 : Int64) <<< (b1v &&& 0x3f).toInt64) - (1 : Int64))), .second, .unset, .unset, .unset, .unset, .unset, .unset, .unset, .unset, .unset, .unset, .unset] [(.long ((1 : Int64) <<< (b2v &&& 0x3f).toInt64)), (.int (2 : Int32)), (.ref b636), (.ref b636)]))
      obtain ⟨cl645, Ar645, qk645, Sz645, Nn645, Ha645, Ga645⟩ := id V_644
      have hin645 : ¬ ((2 : Int32) < 0 ∨ cl645.slots.size ≤ ((2 : Int32) : Int32).toNatClampNeg) := inb_of Sz645 ⟨by decide, by decide⟩
      obtain ⟨T645, h645, X645, e645, W645, st645⟩ := stJ X642 hx hZ e642 Ar645 (j := (2 : Int32)) hin645 (g := (mkF m 192 #[.val (.int p0), .val (.int p1), .val (.int p2), .val (.long q3), .second, .val (.long q4), .second, .val (.int b0v), .val (.int b1v), .val (.int b2v), .val (.int (0 : Int32)), .val (.int (1 : Int32)), .val (.int (1 : Int32)), .val (.int po), .val (.int b1v), .val (.int b0v), .val (.int (0 : Int32)), .val (.long (((1 : Int64) <<< (b1v &&& 0x3f).toInt64) - (1 : Int64))), .second, .unset, .unset, .unset, .unset, .unset, .unset, .unset, .unset, .unset, .unset, .unset] [(.long ((1 : Int64) <<< (b2v &&& 0x3f).toInt64)), (.int (2 : Int32)), (.ref b636), (.ref b636)])) rfl rfl (hb hby at_192)
      refine Go.st st645 ?_
      have O646 : Old Z n0 h645 := O643.wr W645 gn636
      have V_647 : Arv Z h645 b636 k636 .long (3 : Int32) [(.long ((1 : Int64) <<< (b0v &&& 0x3f).toInt64)), (.long ((1 : Int64) <<< (b1v &&& 0x3f).toInt64)), (.long ((1 : Int64) <<< (b2v &&& 0x3f).toInt64))] (.long (0 : Int64)) := Arv.set Ar645 qk645 Sz645 Nn645 Ha645 Ga645 rfl W645 2 rfl (Nat.le_of_ble_eq_true rfl)
      have N645 := Fr.snoc X645 N642 gn636
      show Go p e below _ (T645.setTop (mkF m 193 #[.val (.int p0), .val (.int p1), .val (.int p2), .val (.long q3), .second, .val (.long q4), .second, .val (.int b0v), .val (.int b1v), .val (.int b2v), .val (.int (0 : Int32)), .val (.int (1 : Int32)), .val (.int (1 : Int32)), .val (.int po), .val (.int b1v), .val (.int b0v), .val (.int (0 : Int32)), .val (.long (((1 : Int64) <<< (b1v &&& 0x3f).toInt64) - (1 : Int64))), .second, .unset, .unset, .unset, .unset, .unset, .unset, .unset, .unset, .unset, .unset, .unset] [(.ref b636)]))
      refine Go.st (fun _ => XS.astore X645.here hx rfl (hb hby at_193) rfl rfl (l' := #[.val (.int p0), .val (.int p1), .val (.int p2), .val (.long q3), .second, .val (.long q4), .second, .val (.int b0v), .val (.int b1v), .val (.int b2v), .val (.int (0 : Int32)), .val (.int (1 : Int32)), .val (.int (1 : Int32)), .val (.int po), .val (.int b1v), .val (.int b0v), .val (.int (0 : Int32)), .val (.long (((1 : Int64) <<< (b1v &&& 0x3f).toInt64) - (1 : Int64))), .second, .val (.ref b636), .unset, .unset, .unset, .unset, .unset, .unset, .unset, .unset, .unset, .unset]) rfl) ?_
      show Go p e below _ (T645.setTop (mkF m 195 #[.val (.int p0), .val (.int p1), .val (.int p2), .val (.long q3), .second, .val (.long q4), .second, .val (.int b0v), .val (.int b1v), .val (.int b2v), .val (.int (0 : Int32)), .val (.int (1 : Int32)), .val (.int (1 : Int32)), .val (.int po), .val (.int b1v), .val (.int b0v), .val (.int (0 : Int32)), .val (.long (((1 : Int64) <<< (b1v &&& 0x3f).toInt64) - (1 : Int64))), .second, .val (.ref b636), .unset, .unset, .unset, .unset, .unset, .unset, .unset, .unset, .unset, .unset] []))
      obtain ⟨T648, h648, X648, e648, E648, A648, D648, U648, st648⟩ := newO X645 hx hZ hown (hw _ (List.mem_of_getElem? (i := 1) rfl)) (hw _ (List.mem_of_getElem? (i := 2) rfl)) (hw _ (List.mem_of_getElem? (i := 3) rfl)) e645 (g := (mkF m 195 #[.val (.int p0), .val (.int p1), .val (.int p2), .val (.long q3), .second, .val (.long q4), .second, .val (.int b0v), .val (.int b1v), .val (.int b2v), .val (.int (0 : Int32)), .val (.int (1 : Int32)), .val (.int (1 : Int32)), .val (.int po), .val (.int b1v), .val (.int b0v), .val (.int (0 : Int32)), .val (.long (((1 : Int64) <<< (b1v &&& 0x3f).toInt64) - (1 : Int64))), .second, .val (.ref b636), .unset, .unset, .unset, .unset, .unset, .unset, .unset, .unset, .unset, .unset] [])) rfl (hb hby at_195) (by decide) (by decide)
      obtain ⟨b648, g648⟩ : ∃ z, z = h645.size := ⟨_, rfl⟩
      rw [← g648] at A648 D648 U648 st648
      refine Go.st st648 ?_
      have gn648 : n0 ≤ b648 := oldGe O646 g648
      have ne649 : b636 ≠ b648 := Nat.ne_of_lt (Nat.lt_of_lt_of_le V_647.lt (Nat.le_of_eq g648.symm))
      have O650 : Old Z n0 h648 := O646.ext E648
      have V_651 : Arv Z h648 b636 k636 .long (3 : Int32) [(.long ((1 : Int64) <<< (b0v &&& 0x3f).toInt64)), (.long ((1 : Int64) <<< (b1v &&& 0x3f).toInt64)), (.long ((1 : Int64) <<< (b2v &&& 0x3f).toInt64))] (.long (0 : Int64)) := V_647.ext E648
      have F652 : Fld Z h648 b648 "com/example/gieres/gieres/model/TupleTable" "pages" "[[J" .null := D648 (Or.inl (hw _ (List.mem_of_getElem? (i := 13) rfl))) (ty := (.array (.array .long))) (by decide)
      have F653 : Fld Z h648 b648 "com/example/gieres/gieres/model/TupleTable" "slotBits" "I" (.int (0 : Int32)) := D648 (Or.inl (hw _ (List.mem_of_getElem? (i := 15) rfl))) (ty := .int) (by decide)
      have F654 : Fld Z h648 b648 "com/example/gieres/gieres/model/TupleTable" "slots" "[I" .null := D648 (Or.inl (hw _ (List.mem_of_getElem? (i := 18) rfl))) (ty := (.array .int)) (by decide)
      have F655 : Fld Z h648 b648 "com/example/gieres/gieres/model/TupleTable" "hashes" "[J" .null := D648 (Or.inl (hw _ (List.mem_of_getElem? (i := 20) rfl))) (ty := (.array .long)) (by decide)
      have F656 : Fld Z h648 b648 "com/example/gieres/gieres/model/TupleTable" "found" "[I" .null := D648 (Or.inl (hw _ (List.mem_of_getElem? (i := 22) rfl))) (ty := (.array .int)) (by decide)
      have F657 : Fld Z h648 b648 "com/example/gieres/gieres/model/TupleTable" "word" "[I" .null := D648 (Or.inr (hw _ (List.mem_of_getElem? (i := 24) rfl))) (ty := (.array .int)) (by decide)
      have F658 : Fld Z h648 b648 "com/example/gieres/gieres/model/TupleTable" "shift" "[I" .null := D648 (Or.inr (hw _ (List.mem_of_getElem? (i := 26) rfl))) (ty := (.array .int)) (by decide)
      have F659 : Fld Z h648 b648 "com/example/gieres/gieres/model/TupleTable" "mask" "[J" .null := D648 (Or.inr (hw _ (List.mem_of_getElem? (i := 28) rfl))) (ty := (.array .long)) (by decide)
      have F660 : Fld Z h648 b648 "com/example/gieres/gieres/model/TupleTable" "width" "I" (.int (0 : Int32)) := D648 (Or.inr (hw _ (List.mem_of_getElem? (i := 38) rfl))) (ty := .int) (by decide)
      show Go p e below _ (T648.setTop (mkF m 198 #[.val (.int p0), .val (.int p1), .val (.int p2), .val (.long q3), .second, .val (.long q4), .second, .val (.int b0v), .val (.int b1v), .val (.int b2v), .val (.int (0 : Int32)), .val (.int (1 : Int32)), .val (.int (1 : Int32)), .val (.int po), .val (.int b1v), .val (.int b0v), .val (.int (0 : Int32)), .val (.long (((1 : Int64) <<< (b1v &&& 0x3f).toInt64) - (1 : Int64))), .second, .val (.ref b636), .unset, .unset, .unset, .unset, .unset, .unset, .unset, .unset, .unset, .unset] [(.ref b648)]))
      refine Go.st (fun _ => XS.dup X648.here hx rfl (hb hby at_198) rfl rfl) ?_
      refine Go.st (fun _ => XS.aload X648.here hx rfl (hb hby at_199) rfl rfl) ?_
      show Go p e below _ (T648.setTop (mkF m 201 #[.val (.int p0), .val (.int p1), .val (.int p2), .val (.long q3), .second, .val (.long q4), .second, .val (.int b0v), .val (.int b1v), .val (.int b2v), .val (.int (0 : Int32)), .val (.int (1 : Int32)), .val (.int (1 : Int32)), .val (.int po), .val (.int b1v), .val (.int b0v), .val (.int (0 : Int32)), .val (.long (((1 : Int64) <<< (b1v &&& 0x3f).toInt64) - (1 : Int64))), .second, .val (.ref b636), .unset, .unset, .unset, .unset, .unset, .unset, .unset, .unset, .unset, .unset] [(.ref b636), (.ref b648), (.ref b648)]))
      refine goInit X648 hx hZ (y := (⟨"com/example/gieres/gieres/model/TupleTable", "<init>", "([J)V"⟩ : MethodName)) rfl hown (hw _ (List.mem_of_getElem? (i := 4) rfl)) (hw _ (List.mem_of_getElem? (i := 5) rfl)) (hw _ (List.mem_of_getElem? (i := 3) rfl)) (hw _ (List.mem_of_getElem? (i := 6) rfl)) (by decide) (a := b648) (argsL := [(.ref b636)]) (rest := [(.ref b648)]) e648 (rmTT l Z a0 hw [] b648 b636 k636 ((1 : Int64) <<< (b0v &&& 0x3f).toInt64) ((1 : Int64) <<< (b1v &&& 0x3f).toInt64) ((1 : Int64) <<< (b2v &&& 0x3f).toInt64) h648 n0 O650 A648 F652 F653 F654 F655 F656 F657 F658 F659 F660 gn648 V_651 ne649 (own_t32 L0L) (own_t32 L1L) (own_t32 L2L)) 1 (by decide) (by decide) (by decide) (by decide) (mkF m 201 #[.val (.int p0), .val (.int p1), .val (.int p2), .val (.long q3), .second, .val (.long q4), .second, .val (.int b0v), .val (.int b1v), .val (.int b2v), .val (.int (0 : Int32)), .val (.int (1 : Int32)), .val (.int (1 : Int32)), .val (.int po), .val (.int b1v), .val (.int b0v), .val (.int (0 : Int32)), .val (.long (((1 : Int64) <<< (b1v &&& 0x3f).toInt64) - (1 : Int64))), .second, .val (.ref b636), .unset, .unset, .unset, .unset, .unset, .unset, .unset, .unset, .unset, .unset] [(.ref b636), (.ref b648), (.ref b648)]) rfl (by rw [hml]; rfl) (lenOf pd_2 rfl) rfl (hb hby at_201) (Nat.le_of_eq rfl) ?_
      intro v661 T661 L661 X661 hQ661
      obtain ⟨rfl, M661, K661, c0, c1, c2, w2, s2, wd, aw, as, am, kw, ks, km, B0, B1, B2, LY, Gw, Vw, Gs, Vs, Gm, Vm, Gd⟩ := hQ661
      have N661 := Fr.app N645 M661
      have O662 : Old Z n0 T661.heap := O650.keep K661 (allS gn648 all0)
      have V_663 : Arv Z T661.heap b636 k636 .long (3 : Int32) [(.long ((1 : Int64) <<< (b0v &&& 0x3f).toInt64)), (.long ((1 : Int64) <<< (b1v &&& 0x3f).toInt64)), (.long ((1 : Int64) <<< (b2v &&& 0x3f).toInt64))] (.long (0 : Int64)) := V_651.keep K661 (ninS ne649 nin0)
      have E_664 : Exa Z T661.heap b648 "com/example/gieres/gieres/model/TupleTable" := A648.keep K661
      obtain rfl : b0v = c0 := own_bits_eq L0L B0
      obtain rfl : b1v = c1 := own_bits_eq L1L B1
      obtain rfl : b2v = c2 := own_bits_eq L2L B2
      obtain ⟨rfl, rfl, rfl⟩ := (LY.resolve_right (fun q => hc1 q.1)).2
      have PL := own_pl1 L0L L1L
      show Go p e below _ (T661.setTop (mkF m 204 #[.val (.int p0), .val (.int p1), .val (.int p2), .val (.long q3), .second, .val (.long q4), .second, .val (.int b0v), .val (.int b1v), .val (.int b2v), .val (.int (0 : Int32)), .val (.int (1 : Int32)), .val (.int (1 : Int32)), .val (.int po), .val (.int b1v), .val (.int b0v), .val (.int (0 : Int32)), .val (.long (((1 : Int64) <<< (b1v &&& 0x3f).toInt64) - (1 : Int64))), .second, .val (.ref b636), .unset, .unset, .unset, .unset, .unset, .unset, .unset, .unset, .unset, .unset] [(.ref b648)]))
      refine Go.st (fun _ => XS.astore X661.here hx rfl (hb hby at_204) rfl rfl (l' := #[.val (.int p0), .val (.int p1), .val (.int p2), .val (.long q3), .second, .val (.long q4), .second, .val (.int b0v), .val (.int b1v), .val (.int b2v), .val (.int (0 : Int32)), .val (.int (1 : Int32)), .val (.int (1 : Int32)), .val (.int po), .val (.int b1v), .val (.int b0v), .val (.int (0 : Int32)), .val (.long (((1 : Int64) <<< (b1v &&& 0x3f).toInt64) - (1 : Int64))), .second, .val (.ref b636), .val (.ref b648), .unset, .unset, .unset, .unset, .unset, .unset, .unset, .unset, .unset]) rfl) ?_
      refine Go.st (fun _ => XS.iload X661.here hx rfl (hb hby at_206) rfl) ?_
      refine Go.st (fun _ => XS.ifYes X661.here hx rfl (pc0 := 208) (pc' := 243) rfl (hb hby at_208) rfl ((if0 _ _).trans (teq (by decide : (0 : Int32) = (0 : Int32))).1) (by decide) (by decide)) ?_
      refine Go.st (fun _ => XS.iconst X661.here hx rfl (hb hby at_243)) ?_
      show Go p e below _ (T661.setTop (mkF m 244 #[.val (.int p0), .val (.int p1), .val (.int p2), .val (.long q3), .second, .val (.long q4), .second, .val (.int b0v), .val (.int b1v), .val (.int b2v), .val (.int (0 : Int32)), .val (.int (1 : Int32)), .val (.int (1 : Int32)), .val (.int po), .val (.int b1v), .val (.int b0v), .val (.int (0 : Int32)), .val (.long (((1 : Int64) <<< (b1v &&& 0x3f).toInt64) - (1 : Int64))), .second, .val (.ref b636), .val (.ref b648), .unset, .unset, .unset, .unset, .unset, .unset, .unset, .unset, .unset] [(.int (2 : Int32))]))
      obtain ⟨T665, h665, k665, X665, e665, E665, A665, st665⟩ := newP X661 hx hZ (hw _ (List.mem_of_getElem? (i := 0) rfl)) rfl (g := (mkF m 244 #[.val (.int p0), .val (.int p1), .val (.int p2), .val (.long q3), .second, .val (.long q4), .second, .val (.int b0v), .val (.int b1v), .val (.int b2v), .val (.int (0 : Int32)), .val (.int (1 : Int32)), .val (.int (1 : Int32)), .val (.int po), .val (.int b1v), .val (.int b0v), .val (.int (0 : Int32)), .val (.long (((1 : Int64) <<< (b1v &&& 0x3f).toInt64) - (1 : Int64))), .second, .val (.ref b636), .val (.ref b648), .unset, .unset, .unset, .unset, .unset, .unset, .unset, .unset, .unset] [(.int (2 : Int32))])) rfl (hb hby at_244) rfl (by decide) (cap := 2) (by decide) (by decide) (by decide) (by decide)
      obtain ⟨b665, g665⟩ : ∃ z, z = T661.heap.size := ⟨_, rfl⟩
      rw [← g665] at A665 st665
      refine Go.st st665 ?_
      have gn665 : n0 ≤ b665 := oldGe O662 g665
      have ne666 : b648 ≠ b665 := Nat.ne_of_lt (Nat.lt_of_lt_of_le E_664.lt (Nat.le_of_eq g665.symm))
      have ne667 : aw ≠ b665 := Nat.ne_of_lt (Nat.lt_of_lt_of_le Vw.lt (Nat.le_of_eq g665.symm))
      have ne668 : as ≠ b665 := Nat.ne_of_lt (Nat.lt_of_lt_of_le Vs.lt (Nat.le_of_eq g665.symm))
      have ne669 : am ≠ b665 := Nat.ne_of_lt (Nat.lt_of_lt_of_le Vm.lt (Nat.le_of_eq g665.symm))
      have O670 : Old Z n0 h665 := O662.ext E665
      have E_671 : Exa Z h665 b648 "com/example/gieres/gieres/model/TupleTable" := E_664.ext E665
      have F672 : Fld Z h665 b648 "com/example/gieres/gieres/model/TupleTable" "word" "[I" (.ref aw) := Gw.ext E665
      have V_673 : Arv Z h665 aw kw .int (3 : Int32) [(.int (0 : Int32)), (.int (0 : Int32)), (.int (0 : Int32))] (.int (0 : Int32)) := Vw.ext E665
      have F674 : Fld Z h665 b648 "com/example/gieres/gieres/model/TupleTable" "shift" "[I" (.ref as) := Gs.ext E665
      have V_675 : Arv Z h665 as ks .int (3 : Int32) [(.int (0 : Int32)), (.int b0v), (.int (b0v + b1v))] (.int (0 : Int32)) := Vs.ext E665
      have F676 : Fld Z h665 b648 "com/example/gieres/gieres/model/TupleTable" "mask" "[J" (.ref am) := Gm.ext E665
      have V_677 : Arv Z h665 am km .long (3 : Int32) [(.long (own_mask b0v)), (.long (own_mask b1v)), (.long (own_mask b2v))] (.long (0 : Int64)) := Vm.ext E665
      have F678 : Fld Z h665 b648 "com/example/gieres/gieres/model/TupleTable" "width" "I" (.int (1 : Int32)) := Gd.ext E665
      have V_679 : Arv Z h665 b665 k665 .long (2 : Int32) [(.long (0 : Int64)), (.long (0 : Int64))] (.long (0 : Int64)) := (Arv.new A665 (by decide)).pad (pad_rep [] (.long (0 : Int64)) 2)
      show Go p e below _ (T665.setTop (mkF m 246 #[.val (.int p0), .val (.int p1), .val (.int p2), .val (.long q3), .second, .val (.long q4), .second, .val (.int b0v), .val (.int b1v), .val (.int b2v), .val (.int (0 : Int32)), .val (.int (1 : Int32)), .val (.int (1 : Int32)), .val (.int po), .val (.int b1v), .val (.int b0v), .val (.int (0 : Int32)), .val (.long (((1 : Int64) <<< (b1v &&& 0x3f).toInt64) - (1 : Int64))), .second, .val (.ref b636), .val (.ref b648), .unset, .unset, .unset, .unset, .unset, .unset, .unset, .unset, .unset] [(.ref b665)]))
      refine Go.st (fun _ => XS.dup X665.here hx rfl (hb hby at_246) rfl rfl) ?_
      refine Go.st (fun _ => XS.iconst X665.here hx rfl (hb hby at_247)) ?_
      refine Go.st (fun _ => XS.lloadN X665.here hx rfl (hb hby at_248) rfl) ?_
      show Go p e below _ (T665.setTop (mkF m 249 #[.val (.int p0), .val (.int p1), .val (.int p2), .val (.long q3), .second, .val (.long q4), .second, .val (.int b0v), .val (.int b1v), .val (.int b2v), .val (.int (0 : Int32)), .val (.int (1 : Int32)), .val (.int (1 : Int32)), .val (.int po), .val (.int b1v), .val (.int b0v), .val (.int (0 : Int32)), .val (.long (((1 : Int64) <<< (b1v &&& 0x3f).toInt64) - (1 : Int64))), .second, .val (.ref b636), .val (.ref b648), .unset, .unset, .unset, .unset, .unset, .unset, .unset, .unset, .unset] [(.long q3), (.int (0 : Int32)), (.ref b665), (.ref b665)]))
      obtain ⟨cl680, Ar680, qk680, Sz680, Nn680, Ha680, Ga680⟩ := id V_679
      have hin680 : ¬ ((0 : Int32) < 0 ∨ cl680.slots.size ≤ ((0 : Int32) : Int32).toNatClampNeg) := inb_of Sz680 ⟨by decide, by decide⟩
      obtain ⟨T680, h680, X680, e680, W680, st680⟩ := stJ X665 hx hZ e665 Ar680 (j := (0 : Int32)) hin680 (g := (mkF m 249 #[.val (.int p0), .val (.int p1), .val (.int p2), .val (.long q3), .second, .val (.long q4), .second, .val (.int b0v), .val (.int b1v), .val (.int b2v), .val (.int (0 : Int32)), .val (.int (1 : Int32)), .val (.int (1 : Int32)), .val (.int po), .val (.int b1v), .val (.int b0v), .val (.int (0 : Int32)), .val (.long (((1 : Int64) <<< (b1v &&& 0x3f).toInt64) - (1 : Int64))), .second, .val (.ref b636), .val (.ref b648), .unset, .unset, .unset, .unset, .unset, .unset, .unset, .unset, .unset] [(.long q3), (.int (0 : Int32)), (.ref b665), (.ref b665)])) rfl rfl (hb hby at_249)
      refine Go.st st680 ?_
      have O681 : Old Z n0 h680 := O670.wr W680 gn665
      have E_682 : Exa Z h680 b648 "com/example/gieres/gieres/model/TupleTable" := E_671.wr W680
      have F683 : Fld Z h680 b648 "com/example/gieres/gieres/model/TupleTable" "word" "[I" (.ref aw) := F672.other W680 (Or.inl ne666)
      have V_684 : Arv Z h680 aw kw .int (3 : Int32) [(.int (0 : Int32)), (.int (0 : Int32)), (.int (0 : Int32))] (.int (0 : Int32)) := V_673.other W680 ne667
      have F685 : Fld Z h680 b648 "com/example/gieres/gieres/model/TupleTable" "shift" "[I" (.ref as) := F674.other W680 (Or.inl ne666)
      have V_686 : Arv Z h680 as ks .int (3 : Int32) [(.int (0 : Int32)), (.int b0v), (.int (b0v + b1v))] (.int (0 : Int32)) := V_675.other W680 ne668
      have F687 : Fld Z h680 b648 "com/example/gieres/gieres/model/TupleTable" "mask" "[J" (.ref am) := F676.other W680 (Or.inl ne666)
      have V_688 : Arv Z h680 am km .long (3 : Int32) [(.long (own_mask b0v)), (.long (own_mask b1v)), (.long (own_mask b2v))] (.long (0 : Int64)) := V_677.other W680 ne669
      have F689 : Fld Z h680 b648 "com/example/gieres/gieres/model/TupleTable" "width" "I" (.int (1 : Int32)) := F678.other W680 (Or.inl ne666)
      have V_690 : Arv Z h680 b665 k665 .long (2 : Int32) [(.long q3), (.long (0 : Int64))] (.long (0 : Int64)) := Arv.set Ar680 qk680 Sz680 Nn680 Ha680 Ga680 rfl W680 0 rfl (Nat.le_of_ble_eq_true rfl)
      have N680 := Fr.snoc X680 N661 gn665
      show Go p e below _ (T680.setTop (mkF m 250 #[.val (.int p0), .val (.int p1), .val (.int p2), .val (.long q3), .second, .val (.long q4), .second, .val (.int b0v), .val (.int b1v), .val (.int b2v), .val (.int (0 : Int32)), .val (.int (1 : Int32)), .val (.int (1 : Int32)), .val (.int po), .val (.int b1v), .val (.int b0v), .val (.int (0 : Int32)), .val (.long (((1 : Int64) <<< (b1v &&& 0x3f).toInt64) - (1 : Int64))), .second, .val (.ref b636), .val (.ref b648), .unset, .unset, .unset, .unset, .unset, .unset, .unset, .unset, .unset] [(.ref b665)]))
      refine Go.st (fun _ => XS.dup X680.here hx rfl (hb hby at_250) rfl rfl) ?_
      refine Go.st (fun _ => XS.iconst X680.here hx rfl (hb hby at_251)) ?_
      refine Go.st (fun _ => XS.lload X680.here hx rfl (hb hby at_252) rfl) ?_
      show Go p e below _ (T680.setTop (mkF m 254 #[.val (.int p0), .val (.int p1), .val (.int p2), .val (.long q3), .second, .val (.long q4), .second, .val (.int b0v), .val (.int b1v), .val (.int b2v), .val (.int (0 : Int32)), .val (.int (1 : Int32)), .val (.int (1 : Int32)), .val (.int po), .val (.int b1v), .val (.int b0v), .val (.int (0 : Int32)), .val (.long (((1 : Int64) <<< (b1v &&& 0x3f).toInt64) - (1 : Int64))), .second, .val (.ref b636), .val (.ref b648), .unset, .unset, .unset, .unset, .unset, .unset, .unset, .unset, .unset] [(.long q4), (.int (1 : Int32)), (.ref b665), (.ref b665)]))
      obtain ⟨cl691, Ar691, qk691, Sz691, Nn691, Ha691, Ga691⟩ := id V_690
      have hin691 : ¬ ((1 : Int32) < 0 ∨ cl691.slots.size ≤ ((1 : Int32) : Int32).toNatClampNeg) := inb_of Sz691 ⟨by decide, by decide⟩
      obtain ⟨T691, h691, X691, e691, W691, st691⟩ := stJ X680 hx hZ e680 Ar691 (j := (1 : Int32)) hin691 (g := (mkF m 254 #[.val (.int p0), .val (.int p1), .val (.int p2), .val (.long q3), .second, .val (.long q4), .second, .val (.int b0v), .val (.int b1v), .val (.int b2v), .val (.int (0 : Int32)), .val (.int (1 : Int32)), .val (.int (1 : Int32)), .val (.int po), .val (.int b1v), .val (.int b0v), .val (.int (0 : Int32)), .val (.long (((1 : Int64) <<< (b1v &&& 0x3f).toInt64) - (1 : Int64))), .second, .val (.ref b636), .val (.ref b648), .unset, .unset, .unset, .unset, .unset, .unset, .unset, .unset, .unset] [(.long q4), (.int (1 : Int32)), (.ref b665), (.ref b665)])) rfl rfl (hb hby at_254)
      refine Go.st st691 ?_
      have O692 : Old Z n0 h691 := O681.wr W691 gn665
      have E_693 : Exa Z h691 b648 "com/example/gieres/gieres/model/TupleTable" := E_682.wr W691
      have F694 : Fld Z h691 b648 "com/example/gieres/gieres/model/TupleTable" "word" "[I" (.ref aw) := F683.other W691 (Or.inl ne666)
      have V_695 : Arv Z h691 aw kw .int (3 : Int32) [(.int (0 : Int32)), (.int (0 : Int32)), (.int (0 : Int32))] (.int (0 : Int32)) := V_684.other W691 ne667
      have F696 : Fld Z h691 b648 "com/example/gieres/gieres/model/TupleTable" "shift" "[I" (.ref as) := F685.other W691 (Or.inl ne666)
      have V_697 : Arv Z h691 as ks .int (3 : Int32) [(.int (0 : Int32)), (.int b0v), (.int (b0v + b1v))] (.int (0 : Int32)) := V_686.other W691 ne668
      have F698 : Fld Z h691 b648 "com/example/gieres/gieres/model/TupleTable" "mask" "[J" (.ref am) := F687.other W691 (Or.inl ne666)
      have V_699 : Arv Z h691 am km .long (3 : Int32) [(.long (own_mask b0v)), (.long (own_mask b1v)), (.long (own_mask b2v))] (.long (0 : Int64)) := V_688.other W691 ne669
      have F700 : Fld Z h691 b648 "com/example/gieres/gieres/model/TupleTable" "width" "I" (.int (1 : Int32)) := F689.other W691 (Or.inl ne666)
      have V_701 : Arv Z h691 b665 k665 .long (2 : Int32) [(.long q3), (.long q4)] (.long (0 : Int64)) := Arv.set Ar691 qk691 Sz691 Nn691 Ha691 Ga691 rfl W691 1 rfl (Nat.le_of_ble_eq_true rfl)
      have N691 := Fr.snoc X691 N680 gn665
      show Go p e below _ (T691.setTop (mkF m 255 #[.val (.int p0), .val (.int p1), .val (.int p2), .val (.long q3), .second, .val (.long q4), .second, .val (.int b0v), .val (.int b1v), .val (.int b2v), .val (.int (0 : Int32)), .val (.int (1 : Int32)), .val (.int (1 : Int32)), .val (.int po), .val (.int b1v), .val (.int b0v), .val (.int (0 : Int32)), .val (.long (((1 : Int64) <<< (b1v &&& 0x3f).toInt64) - (1 : Int64))), .second, .val (.ref b636), .val (.ref b648), .unset, .unset, .unset, .unset, .unset, .unset, .unset, .unset, .unset] [(.ref b665)]))
      refine Go.st (fun _ => XS.astore X691.here hx rfl (hb hby at_255) rfl rfl (l' := #[.val (.int p0), .val (.int p1), .val (.int p2), .val (.long q3), .second, .val (.long q4), .second, .val (.int b0v), .val (.int b1v), .val (.int b2v), .val (.int (0 : Int32)), .val (.int (1 : Int32)), .val (.int (1 : Int32)), .val (.int po), .val (.int b1v), .val (.int b0v), .val (.int (0 : Int32)), .val (.long (((1 : Int64) <<< (b1v &&& 0x3f).toInt64) - (1 : Int64))), .second, .val (.ref b636), .val (.ref b648), .val (.ref b665), .unset, .unset, .unset, .unset, .unset, .unset, .unset, .unset]) rfl) ?_
      refine Go.st (fun _ => XS.iload X691.here hx rfl (hb hby at_257) rfl) ?_
      refine Go.st (fun _ => XS.ifYes X691.here hx rfl (pc0 := 259) (pc' := 294) rfl (hb hby at_259) rfl ((if0 _ _).trans (teq (by decide : (0 : Int32) = (0 : Int32))).1) (by decide) (by decide)) ?_
      refine Go.st (fun _ => XS.iconst X691.here hx rfl (hb hby at_294)) ?_
      show Go p e below _ (T691.setTop (mkF m 295 #[.val (.int p0), .val (.int p1), .val (.int p2), .val (.long q3), .second, .val (.long q4), .second, .val (.int b0v), .val (.int b1v), .val (.int b2v), .val (.int (0 : Int32)), .val (.int (1 : Int32)), .val (.int (1 : Int32)), .val (.int po), .val (.int b1v), .val (.int b0v), .val (.int (0 : Int32)), .val (.long (((1 : Int64) <<< (b1v &&& 0x3f).toInt64) - (1 : Int64))), .second, .val (.ref b636), .val (.ref b648), .val (.ref b665), .unset, .unset, .unset, .unset, .unset, .unset, .unset, .unset] [(.int (2 : Int32))]))
      obtain ⟨T702, h702, k702, X702, e702, E702, A702, st702⟩ := newP X691 hx hZ (hw _ (List.mem_of_getElem? (i := 0) rfl)) e691 (g := (mkF m 295 #[.val (.int p0), .val (.int p1), .val (.int p2), .val (.long q3), .second, .val (.long q4), .second, .val (.int b0v), .val (.int b1v), .val (.int b2v), .val (.int (0 : Int32)), .val (.int (1 : Int32)), .val (.int (1 : Int32)), .val (.int po), .val (.int b1v), .val (.int b0v), .val (.int (0 : Int32)), .val (.long (((1 : Int64) <<< (b1v &&& 0x3f).toInt64) - (1 : Int64))), .second, .val (.ref b636), .val (.ref b648), .val (.ref b665), .unset, .unset, .unset, .unset, .unset, .unset, .unset, .unset] [(.int (2 : Int32))])) rfl (hb hby at_295) rfl (by decide) (cap := 2) (by decide) (by decide) (by decide) (by decide)
      obtain ⟨b702, g702⟩ : ∃ z, z = h691.size := ⟨_, rfl⟩
      rw [← g702] at A702 st702
      refine Go.st st702 ?_
      have gn702 : n0 ≤ b702 := oldGe O692 g702
      have ne703 : b648 ≠ b702 := Nat.ne_of_lt (Nat.lt_of_lt_of_le E_693.lt (Nat.le_of_eq g702.symm))
      have ne704 : aw ≠ b702 := Nat.ne_of_lt (Nat.lt_of_lt_of_le V_695.lt (Nat.le_of_eq g702.symm))
      have ne705 : as ≠ b702 := Nat.ne_of_lt (Nat.lt_of_lt_of_le V_697.lt (Nat.le_of_eq g702.symm))
      have ne706 : am ≠ b702 := Nat.ne_of_lt (Nat.lt_of_lt_of_le V_699.lt (Nat.le_of_eq g702.symm))
      have ne707 : b665 ≠ b702 := Nat.ne_of_lt (Nat.lt_of_lt_of_le V_701.lt (Nat.le_of_eq g702.symm))
      have O708 : Old Z n0 h702 := O692.ext E702
      have E_709 : Exa Z h702 b648 "com/example/gieres/gieres/model/TupleTable" := E_693.ext E702
      have F710 : Fld Z h702 b648 "com/example/gieres/gieres/model/TupleTable" "word" "[I" (.ref aw) := F694.ext E702
      have V_711 : Arv Z h702 aw kw .int (3 : Int32) [(.int (0 : Int32)), (.int (0 : Int32)), (.int (0 : Int32))] (.int (0 : Int32)) := V_695.ext E702
      have F712 : Fld Z h702 b648 "com/example/gieres/gieres/model/TupleTable" "shift" "[I" (.ref as) := F696.ext E702
      have V_713 : Arv Z h702 as ks .int (3 : Int32) [(.int (0 : Int32)), (.int b0v), (.int (b0v + b1v))] (.int (0 : Int32)) := V_697.ext E702
      have F714 : Fld Z h702 b648 "com/example/gieres/gieres/model/TupleTable" "mask" "[J" (.ref am) := F698.ext E702
      have V_715 : Arv Z h702 am km .long (3 : Int32) [(.long (own_mask b0v)), (.long (own_mask b1v)), (.long (own_mask b2v))] (.long (0 : Int64)) := V_699.ext E702
      have F716 : Fld Z h702 b648 "com/example/gieres/gieres/model/TupleTable" "width" "I" (.int (1 : Int32)) := F700.ext E702
      have V_717 : Arv Z h702 b665 k665 .long (2 : Int32) [(.long q3), (.long q4)] (.long (0 : Int64)) := V_701.ext E702
      have V_718 : Arv Z h702 b702 k702 .long (2 : Int32) [(.long (0 : Int64)), (.long (0 : Int64))] (.long (0 : Int64)) := (Arv.new A702 (by decide)).pad (pad_rep [] (.long (0 : Int64)) 2)
      show Go p e below _ (T702.setTop (mkF m 297 #[.val (.int p0), .val (.int p1), .val (.int p2), .val (.long q3), .second, .val (.long q4), .second, .val (.int b0v), .val (.int b1v), .val (.int b2v), .val (.int (0 : Int32)), .val (.int (1 : Int32)), .val (.int (1 : Int32)), .val (.int po), .val (.int b1v), .val (.int b0v), .val (.int (0 : Int32)), .val (.long (((1 : Int64) <<< (b1v &&& 0x3f).toInt64) - (1 : Int64))), .second, .val (.ref b636), .val (.ref b648), .val (.ref b665), .unset, .unset, .unset, .unset, .unset, .unset, .unset, .unset] [(.ref b702)]))
      refine Go.st (fun _ => XS.dup X702.here hx rfl (hb hby at_297) rfl rfl) ?_
      refine Go.st (fun _ => XS.iconst X702.here hx rfl (hb hby at_298)) ?_
      refine Go.st (fun _ => XS.lloadN X702.here hx rfl (hb hby at_299) rfl) ?_
      show Go p e below _ (T702.setTop (mkF m 300 #[.val (.int p0), .val (.int p1), .val (.int p2), .val (.long q3), .second, .val (.long q4), .second, .val (.int b0v), .val (.int b1v), .val (.int b2v), .val (.int (0 : Int32)), .val (.int (1 : Int32)), .val (.int (1 : Int32)), .val (.int po), .val (.int b1v), .val (.int b0v), .val (.int (0 : Int32)), .val (.long (((1 : Int64) <<< (b1v &&& 0x3f).toInt64) - (1 : Int64))), .second, .val (.ref b636), .val (.ref b648), .val (.ref b665), .unset, .unset, .unset, .unset, .unset, .unset, .unset, .unset] [(.long q3), (.int (0 : Int32)), (.ref b702), (.ref b702)]))
      obtain ⟨cl719, Ar719, qk719, Sz719, Nn719, Ha719, Ga719⟩ := id V_718
      have hin719 : ¬ ((0 : Int32) < 0 ∨ cl719.slots.size ≤ ((0 : Int32) : Int32).toNatClampNeg) := inb_of Sz719 ⟨by decide, by decide⟩
      obtain ⟨T719, h719, X719, e719, W719, st719⟩ := stJ X702 hx hZ e702 Ar719 (j := (0 : Int32)) hin719 (g := (mkF m 300 #[.val (.int p0), .val (.int p1), .val (.int p2), .val (.long q3), .second, .val (.long q4), .second, .val (.int b0v), .val (.int b1v), .val (.int b2v), .val (.int (0 : Int32)), .val (.int (1 : Int32)), .val (.int (1 : Int32)), .val (.int po), .val (.int b1v), .val (.int b0v), .val (.int (0 : Int32)), .val (.long (((1 : Int64) <<< (b1v &&& 0x3f).toInt64) - (1 : Int64))), .second, .val (.ref b636), .val (.ref b648), .val (.ref b665), .unset, .unset, .unset, .unset, .unset, .unset, .unset, .unset] [(.long q3), (.int (0 : Int32)), (.ref b702), (.ref b702)])) rfl rfl (hb hby at_300)
      refine Go.st st719 ?_
      have O720 : Old Z n0 h719 := O708.wr W719 gn702
      have E_721 : Exa Z h719 b648 "com/example/gieres/gieres/model/TupleTable" := E_709.wr W719
      have F722 : Fld Z h719 b648 "com/example/gieres/gieres/model/TupleTable" "word" "[I" (.ref aw) := F710.other W719 (Or.inl ne703)
      have V_723 : Arv Z h719 aw kw .int (3 : Int32) [(.int (0 : Int32)), (.int (0 : Int32)), (.int (0 : Int32))] (.int (0 : Int32)) := V_711.other W719 ne704
      have F724 : Fld Z h719 b648 "com/example/gieres/gieres/model/TupleTable" "shift" "[I" (.ref as) := F712.other W719 (Or.inl ne703)
      have V_725 : Arv Z h719 as ks .int (3 : Int32) [(.int (0 : Int32)), (.int b0v), (.int (b0v + b1v))] (.int (0 : Int32)) := V_713.other W719 ne705
      have F726 : Fld Z h719 b648 "com/example/gieres/gieres/model/TupleTable" "mask" "[J" (.ref am) := F714.other W719 (Or.inl ne703)
      have V_727 : Arv Z h719 am km .long (3 : Int32) [(.long (own_mask b0v)), (.long (own_mask b1v)), (.long (own_mask b2v))] (.long (0 : Int64)) := V_715.other W719 ne706
      have F728 : Fld Z h719 b648 "com/example/gieres/gieres/model/TupleTable" "width" "I" (.int (1 : Int32)) := F716.other W719 (Or.inl ne703)
      have V_729 : Arv Z h719 b665 k665 .long (2 : Int32) [(.long q3), (.long q4)] (.long (0 : Int64)) := V_717.other W719 ne707
      have V_730 : Arv Z h719 b702 k702 .long (2 : Int32) [(.long q3), (.long (0 : Int64))] (.long (0 : Int64)) := Arv.set Ar719 qk719 Sz719 Nn719 Ha719 Ga719 rfl W719 0 rfl (Nat.le_of_ble_eq_true rfl)
      have N719 := Fr.snoc X719 N691 gn702
      show Go p e below _ (T719.setTop (mkF m 301 #[.val (.int p0), .val (.int p1), .val (.int p2), .val (.long q3), .second, .val (.long q4), .second, .val (.int b0v), .val (.int b1v), .val (.int b2v), .val (.int (0 : Int32)), .val (.int (1 : Int32)), .val (.int (1 : Int32)), .val (.int po), .val (.int b1v), .val (.int b0v), .val (.int (0 : Int32)), .val (.long (((1 : Int64) <<< (b1v &&& 0x3f).toInt64) - (1 : Int64))), .second, .val (.ref b636), .val (.ref b648), .val (.ref b665), .unset, .unset, .unset, .unset, .unset, .unset, .unset, .unset] [(.ref b702)]))
      refine Go.st (fun _ => XS.dup X719.here hx rfl (hb hby at_301) rfl rfl) ?_
      refine Go.st (fun _ => XS.iconst X719.here hx rfl (hb hby at_302)) ?_
      refine Go.st (fun _ => XS.lload X719.here hx rfl (hb hby at_303) rfl) ?_
      show Go p e below _ (T719.setTop (mkF m 305 #[.val (.int p0), .val (.int p1), .val (.int p2), .val (.long q3), .second, .val (.long q4), .second, .val (.int b0v), .val (.int b1v), .val (.int b2v), .val (.int (0 : Int32)), .val (.int (1 : Int32)), .val (.int (1 : Int32)), .val (.int po), .val (.int b1v), .val (.int b0v), .val (.int (0 : Int32)), .val (.long (((1 : Int64) <<< (b1v &&& 0x3f).toInt64) - (1 : Int64))), .second, .val (.ref b636), .val (.ref b648), .val (.ref b665), .unset, .unset, .unset, .unset, .unset, .unset, .unset, .unset] [(.long q4), (.int (1 : Int32)), (.ref b702), (.ref b702)]))
      obtain ⟨cl731, Ar731, qk731, Sz731, Nn731, Ha731, Ga731⟩ := id V_730
      have hin731 : ¬ ((1 : Int32) < 0 ∨ cl731.slots.size ≤ ((1 : Int32) : Int32).toNatClampNeg) := inb_of Sz731 ⟨by decide, by decide⟩
      obtain ⟨T731, h731, X731, e731, W731, st731⟩ := stJ X719 hx hZ e719 Ar731 (j := (1 : Int32)) hin731 (g := (mkF m 305 #[.val (.int p0), .val (.int p1), .val (.int p2), .val (.long q3), .second, .val (.long q4), .second, .val (.int b0v), .val (.int b1v), .val (.int b2v), .val (.int (0 : Int32)), .val (.int (1 : Int32)), .val (.int (1 : Int32)), .val (.int po), .val (.int b1v), .val (.int b0v), .val (.int (0 : Int32)), .val (.long (((1 : Int64) <<< (b1v &&& 0x3f).toInt64) - (1 : Int64))), .second, .val (.ref b636), .val (.ref b648), .val (.ref b665), .unset, .unset, .unset, .unset, .unset, .unset, .unset, .unset] [(.long q4), (.int (1 : Int32)), (.ref b702), (.ref b702)])) rfl rfl (hb hby at_305)
      refine Go.st st731 ?_
      have O732 : Old Z n0 h731 := O720.wr W731 gn702
      have E_733 : Exa Z h731 b648 "com/example/gieres/gieres/model/TupleTable" := E_721.wr W731
      have F734 : Fld Z h731 b648 "com/example/gieres/gieres/model/TupleTable" "word" "[I" (.ref aw) := F722.other W731 (Or.inl ne703)
      have V_735 : Arv Z h731 aw kw .int (3 : Int32) [(.int (0 : Int32)), (.int (0 : Int32)), (.int (0 : Int32))] (.int (0 : Int32)) := V_723.other W731 ne704
      have F736 : Fld Z h731 b648 "com/example/gieres/gieres/model/TupleTable" "shift" "[I" (.ref as) := F724.other W731 (Or.inl ne703)
      have V_737 : Arv Z h731 as ks .int (3 : Int32) [(.int (0 : Int32)), (.int b0v), (.int (b0v + b1v))] (.int (0 : Int32)) := V_725.other W731 ne705
      have F738 : Fld Z h731 b648 "com/example/gieres/gieres/model/TupleTable" "mask" "[J" (.ref am) := F726.other W731 (Or.inl ne703)
      have V_739 : Arv Z h731 am km .long (3 : Int32) [(.long (own_mask b0v)), (.long (own_mask b1v)), (.long (own_mask b2v))] (.long (0 : Int64)) := V_727.other W731 ne706
      have F740 : Fld Z h731 b648 "com/example/gieres/gieres/model/TupleTable" "width" "I" (.int (1 : Int32)) := F728.other W731 (Or.inl ne703)
      have V_741 : Arv Z h731 b665 k665 .long (2 : Int32) [(.long q3), (.long q4)] (.long (0 : Int64)) := V_729.other W731 ne707
      have V_742 : Arv Z h731 b702 k702 .long (2 : Int32) [(.long q3), (.long q4)] (.long (0 : Int64)) := Arv.set Ar731 qk731 Sz731 Nn731 Ha731 Ga731 rfl W731 1 rfl (Nat.le_of_ble_eq_true rfl)
      have N731 := Fr.snoc X731 N719 gn702
      show Go p e below _ (T731.setTop (mkF m 306 #[.val (.int p0), .val (.int p1), .val (.int p2), .val (.long q3), .second, .val (.long q4), .second, .val (.int b0v), .val (.int b1v), .val (.int b2v), .val (.int (0 : Int32)), .val (.int (1 : Int32)), .val (.int (1 : Int32)), .val (.int po), .val (.int b1v), .val (.int b0v), .val (.int (0 : Int32)), .val (.long (((1 : Int64) <<< (b1v &&& 0x3f).toInt64) - (1 : Int64))), .second, .val (.ref b636), .val (.ref b648), .val (.ref b665), .unset, .unset, .unset, .unset, .unset, .unset, .unset, .unset] [(.ref b702)]))
      refine Go.st (fun _ => XS.astore X731.here hx rfl (hb hby at_306) rfl rfl (l' := #[.val (.int p0), .val (.int p1), .val (.int p2), .val (.long q3), .second, .val (.long q4), .second, .val (.int b0v), .val (.int b1v), .val (.int b2v), .val (.int (0 : Int32)), .val (.int (1 : Int32)), .val (.int (1 : Int32)), .val (.int po), .val (.int b1v), .val (.int b0v), .val (.int (0 : Int32)), .val (.long (((1 : Int64) <<< (b1v &&& 0x3f).toInt64) - (1 : Int64))), .second, .val (.ref b636), .val (.ref b648), .val (.ref b665), .val (.ref b702), .unset, .unset, .unset, .unset, .unset, .unset, .unset]) rfl) ?_
      show Go p e below _ (T731.setTop (mkF m 308 #[.val (.int p0), .val (.int p1), .val (.int p2), .val (.long q3), .second, .val (.long q4), .second, .val (.int b0v), .val (.int b1v), .val (.int b2v), .val (.int (0 : Int32)), .val (.int (1 : Int32)), .val (.int (1 : Int32)), .val (.int po), .val (.int b1v), .val (.int b0v), .val (.int (0 : Int32)), .val (.long (((1 : Int64) <<< (b1v &&& 0x3f).toInt64) - (1 : Int64))), .second, .val (.ref b636), .val (.ref b648), .val (.ref b665), .val (.ref b702), .unset, .unset, .unset, .unset, .unset, .unset, .unset] []))
      obtain ⟨f0, hf0⟩ : ∃ f : Nat → Int64, f = fun k => ([q3, q4] : List Int64).getD k 0 := ⟨_, rfl⟩
      have KO : LAr Z h731 b665 2 f0 := LAr_of V_741 rfl (by decide) (fun j hj => by rw [hf0]; rcases j with _ | _ | j <;> first | rfl | omega)
      have KK : LAr Z h731 b702 2 f0 := LAr_of V_742 rfl (by decide) (fun j hj => by rw [hf0]; rcases j with _ | _ | j <;> first | rfl | omega)
      show Go p e below _ (T731.setTop (mkF m 308 #[.val (.int p0), .val (.int p1), .val (.int p2), .val (.long q3), .second, .val (.long q4), .second, .val (.int b0v), .val (.int b1v), .val (.int b2v), .val (.int (0 : Int32)), .val (.int (1 : Int32)), .val (.int (1 : Int32)), .val (.int po), .val (.int b1v), .val (.int b0v), .val (.int (0 : Int32)), .val (.long (((1 : Int64) <<< (b1v &&& 0x3f).toInt64) - (1 : Int64))), .second, .val (.ref b636), .val (.ref b648), .val (.ref b665), .val (.ref b702), .unset, .unset, .unset, .unset, .unset, .unset, .unset] []))
      refine Go.st (fun _ => XS.aload X731.here hx rfl (hb hby at_308) rfl rfl) ?_
      refine Go.st (fun _ => XS.aload X731.here hx rfl (hb hby at_310) rfl rfl) ?_
      refine Go.st (fun _ => XS.iload X731.here hx rfl (hb hby at_312) rfl) ?_
      refine Go.st (fun _ => XS.iload X731.here hx rfl (hb hby at_314) rfl) ?_
      refine Go.st (fun _ => XS.iloadN X731.here hx rfl (hb hby at_316) rfl) ?_
      show Go p e below _ (T731.setTop (mkF m 317 #[.val (.int p0), .val (.int p1), .val (.int p2), .val (.long q3), .second, .val (.long q4), .second, .val (.int b0v), .val (.int b1v), .val (.int b2v), .val (.int (0 : Int32)), .val (.int (1 : Int32)), .val (.int (1 : Int32)), .val (.int po), .val (.int b1v), .val (.int b0v), .val (.int (0 : Int32)), .val (.long (((1 : Int64) <<< (b1v &&& 0x3f).toInt64) - (1 : Int64))), .second, .val (.ref b636), .val (.ref b648), .val (.ref b665), .val (.ref b702), .unset, .unset, .unset, .unset, .unset, .unset, .unset] [(.int p2), (.int (1 : Int32)), (.int po), (.ref b702), (.ref b648)]))
      refine goVirt X731 hx hZ (y := (⟨"com/example/gieres/gieres/model/TupleTable", "setState", "([JIII)V"⟩ : MethodName)) (z := (⟨"com/example/gieres/gieres/model/TupleTable", "setState", "([JIII)V"⟩ : MethodName)) hown (hw _ (List.mem_of_getElem? (i := 39) rfl)) (hw _ (List.mem_of_getElem? (i := 40) rfl)) (notFace_of_selects (args := #[]) (mvT hZ (hw _ (List.mem_of_getElem? (i := 42) rfl)))) (hw _ (List.mem_of_getElem? (i := 42) rfl)) (hw _ (List.mem_of_getElem? (i := 41) rfl)) (hw _ (List.mem_of_getElem? (i := 3) rfl)) (hw _ (List.mem_of_getElem? (i := 43) rfl)) (by decide) (a := b648) (argsL := [(.ref b702), (.int po), (.int (1 : Int32)), (.int p2)]) (rest := []) e731 E_733 (rmS1 l Z a0 hw [] b648 b702 aw as am kw ks km (0 : Int32) (0 : Int32) (0 : Int32) (0 : Int32) b0v (b0v + b1v) (own_mask b0v) (own_mask b1v) (own_mask b2v) 2 f0 po p2 h731 n0 O732 F734 V_735 F736 V_737 F738 V_739 KK gn702 HJ.1 HJ.2) 0 (by decide) (by decide) (by decide) (by decide) (mkF m 317 #[.val (.int p0), .val (.int p1), .val (.int p2), .val (.long q3), .second, .val (.long q4), .second, .val (.int b0v), .val (.int b1v), .val (.int b2v), .val (.int (0 : Int32)), .val (.int (1 : Int32)), .val (.int (1 : Int32)), .val (.int po), .val (.int b1v), .val (.int b0v), .val (.int (0 : Int32)), .val (.long (((1 : Int64) <<< (b1v &&& 0x3f).toInt64) - (1 : Int64))), .second, .val (.ref b636), .val (.ref b648), .val (.ref b665), .val (.ref b702), .unset, .unset, .unset, .unset, .unset, .unset, .unset] [(.int p2), (.int (1 : Int32)), (.int po), (.ref b702), (.ref b648)]) rfl (by rw [hml]; rfl) (lenOf pd_3 rfl) rfl (hb hby at_317) (Nat.le_of_eq rfl) ?_
      intro v743 T743 L743 X743 hQ743
      obtain ⟨rfl, M743, K743, KA743⟩ := hQ743
      have N743 := Fr.app N731 M743
      have O744 : Old Z n0 T743.heap := O732.keep K743 (allS gn702 all0)
      have E_745 : Exa Z T743.heap b648 "com/example/gieres/gieres/model/TupleTable" := E_733.keep K743
      have F746 : Fld Z T743.heap b648 "com/example/gieres/gieres/model/TupleTable" "word" "[I" (.ref aw) := F734.keep K743 (ninS ne703 nin0)
      have V_747 : Arv Z T743.heap aw kw .int (3 : Int32) [(.int (0 : Int32)), (.int (0 : Int32)), (.int (0 : Int32))] (.int (0 : Int32)) := V_735.keep K743 (ninS ne704 nin0)
      have F748 : Fld Z T743.heap b648 "com/example/gieres/gieres/model/TupleTable" "shift" "[I" (.ref as) := F736.keep K743 (ninS ne703 nin0)
      have V_749 : Arv Z T743.heap as ks .int (3 : Int32) [(.int (0 : Int32)), (.int b0v), (.int (b0v + b1v))] (.int (0 : Int32)) := V_737.keep K743 (ninS ne705 nin0)
      have F750 : Fld Z T743.heap b648 "com/example/gieres/gieres/model/TupleTable" "mask" "[J" (.ref am) := F738.keep K743 (ninS ne703 nin0)
      have V_751 : Arv Z T743.heap am km .long (3 : Int32) [(.long (own_mask b0v)), (.long (own_mask b1v)), (.long (own_mask b2v))] (.long (0 : Int64)) := V_739.keep K743 (ninS ne706 nin0)
      have F752 : Fld Z T743.heap b648 "com/example/gieres/gieres/model/TupleTable" "width" "I" (.int (1 : Int32)) := F740.keep K743 (ninS ne703 nin0)
      have VL753 : LAr Z T743.heap b665 2 f0 := LAr_keep KO K743 (ninS ne707 nin0)
      obtain ⟨f1, hf1⟩ : ∃ z, z = (fun k => if k = (po + (0 : Int32)).toNatClampNeg then own_set (f0 (po + (0 : Int32)).toNatClampNeg) (own_mask b1v) b0v p2 else f0 k) := ⟨_, rfl⟩
      rw [← hf1] at KA743
      have GV : own_get (f1 (po + (0 : Int32)).toNatClampNeg) (own_mask b1v) b0v = p2.toInt64 &&& (own_mask b1v) := by rw [hf1]; simp only [if_true]; exact own_gsP PL
      show Go p e below _ (T743.setTop (mkF m 320 #[.val (.int p0), .val (.int p1), .val (.int p2), .val (.long q3), .second, .val (.long q4), .second, .val (.int b0v), .val (.int b1v), .val (.int b2v), .val (.int (0 : Int32)), .val (.int (1 : Int32)), .val (.int (1 : Int32)), .val (.int po), .val (.int b1v), .val (.int b0v), .val (.int (0 : Int32)), .val (.long (((1 : Int64) <<< (b1v &&& 0x3f).toInt64) - (1 : Int64))), .second, .val (.ref b636), .val (.ref b648), .val (.ref b665), .val (.ref b702), .unset, .unset, .unset, .unset, .unset, .unset, .unset] []))
      refine Go.st (fun _ => XS.iload X743.here hx rfl (hb hby at_320) rfl) ?_
      refine Go.st (fun _ => XS.iload X743.here hx rfl (hb hby at_322) rfl) ?_
      refine Go.st (fun _ => XS.iadd X743.here hx rfl (hb hby at_324) rfl) ?_
      refine Go.st (fun _ => XS.istore X743.here hx rfl (hb hby at_325) rfl (l' := #[.val (.int p0), .val (.int p1), .val (.int p2), .val (.long q3), .second, .val (.long q4), .second, .val (.int b0v), .val (.int b1v), .val (.int b2v), .val (.int (0 : Int32)), .val (.int (1 : Int32)), .val (.int (1 : Int32)), .val (.int po), .val (.int b1v), .val (.int b0v), .val (.int (0 : Int32)), .val (.long (((1 : Int64) <<< (b1v &&& 0x3f).toInt64) - (1 : Int64))), .second, .val (.ref b636), .val (.ref b648), .val (.ref b665), .val (.ref b702), .val (.int (po + (0 : Int32))), .unset, .unset, .unset, .unset, .unset, .unset]) rfl) ?_
      refine Go.st (fun _ => XS.iloadN X743.here hx rfl (hb hby at_327) rfl) ?_
      refine Go.st (fun _ => XS.i2l X743.here hx rfl (hb hby at_328) rfl) ?_
      refine Go.st (fun _ => XS.lload X743.here hx rfl (hb hby at_329) rfl) ?_
      refine Go.st (fun _ => XS.land X743.here hx rfl (hb hby at_331) rfl) ?_
      refine Go.st (fun _ => XS.lstore X743.here hx rfl (hb hby at_332) rfl (l' := #[.val (.int p0), .val (.int p1), .val (.int p2), .val (.long q3), .second, .val (.long q4), .second, .val (.int b0v), .val (.int b1v), .val (.int b2v), .val (.int (0 : Int32)), .val (.int (1 : Int32)), .val (.int (1 : Int32)), .val (.int po), .val (.int b1v), .val (.int b0v), .val (.int (0 : Int32)), .val (.long (((1 : Int64) <<< (b1v &&& 0x3f).toInt64) - (1 : Int64))), .second, .val (.ref b636), .val (.ref b648), .val (.ref b665), .val (.ref b702), .val (.int (po + (0 : Int32))), .val (.long ((p2.toInt64) &&& (((1 : Int64) <<< (b1v &&& 0x3f).toInt64) - (1 : Int64)))), .second, .unset, .unset, .unset, .unset]) rfl) ?_
      refine Go.st (fun _ => XS.lload X743.here hx rfl (hb hby at_334) rfl) ?_
      refine Go.st (fun _ => XS.iload X743.here hx rfl (hb hby at_336) rfl) ?_
      refine Go.st (fun _ => XS.lshl X743.here hx rfl (hb hby at_338) rfl) ?_
      show Go p e below _ (T743.setTop (mkF m 339 #[.val (.int p0), .val (.int p1), .val (.int p2), .val (.long q3), .second, .val (.long q4), .second, .val (.int b0v), .val (.int b1v), .val (.int b2v), .val (.int (0 : Int32)), .val (.int (1 : Int32)), .val (.int (1 : Int32)), .val (.int po), .val (.int b1v), .val (.int b0v), .val (.int (0 : Int32)), .val (.long (((1 : Int64) <<< (b1v &&& 0x3f).toInt64) - (1 : Int64))), .second, .val (.ref b636), .val (.ref b648), .val (.ref b665), .val (.ref b702), .val (.int (po + (0 : Int32))), .val (.long ((p2.toInt64) &&& (((1 : Int64) <<< (b1v &&& 0x3f).toInt64) - (1 : Int64)))), .second, .unset, .unset, .unset, .unset] [(.long ((((1 : Int64) <<< (b1v &&& 0x3f).toInt64) - (1 : Int64)) <<< (b0v &&& 0x3f).toInt64))]))
      refine Go.st (fun _ => XS.lstore X743.here hx rfl (hb hby at_339) rfl (l' := #[.val (.int p0), .val (.int p1), .val (.int p2), .val (.long q3), .second, .val (.long q4), .second, .val (.int b0v), .val (.int b1v), .val (.int b2v), .val (.int (0 : Int32)), .val (.int (1 : Int32)), .val (.int (1 : Int32)), .val (.int po), .val (.int b1v), .val (.int b0v), .val (.int (0 : Int32)), .val (.long (((1 : Int64) <<< (b1v &&& 0x3f).toInt64) - (1 : Int64))), .second, .val (.ref b636), .val (.ref b648), .val (.ref b665), .val (.ref b702), .val (.int (po + (0 : Int32))), .val (.long ((p2.toInt64) &&& (((1 : Int64) <<< (b1v &&& 0x3f).toInt64) - (1 : Int64)))), .second, .val (.long ((((1 : Int64) <<< (b1v &&& 0x3f).toInt64) - (1 : Int64)) <<< (b0v &&& 0x3f).toInt64)), .second, .unset, .unset]) rfl) ?_
      refine Go.st (fun _ => XS.aload X743.here hx rfl (hb hby at_341) rfl rfl) ?_
      refine Go.st (fun _ => XS.iload X743.here hx rfl (hb hby at_343) rfl) ?_
      show Go p e below _ (T743.setTop (mkF m 345 #[.val (.int p0), .val (.int p1), .val (.int p2), .val (.long q3), .second, .val (.long q4), .second, .val (.int b0v), .val (.int b1v), .val (.int b2v), .val (.int (0 : Int32)), .val (.int (1 : Int32)), .val (.int (1 : Int32)), .val (.int po), .val (.int b1v), .val (.int b0v), .val (.int (0 : Int32)), .val (.long (((1 : Int64) <<< (b1v &&& 0x3f).toInt64) - (1 : Int64))), .second, .val (.ref b636), .val (.ref b648), .val (.ref b665), .val (.ref b702), .val (.int (po + (0 : Int32))), .val (.long ((p2.toInt64) &&& (((1 : Int64) <<< (b1v &&& 0x3f).toInt64) - (1 : Int64)))), .second, .val (.long ((((1 : Int64) <<< (b1v &&& 0x3f).toInt64) - (1 : Int64)) <<< (b0v &&& 0x3f).toInt64)), .second, .unset, .unset] [(.int (po + (0 : Int32))), (.ref b702)]))
      obtain ⟨cl754, Ar754, hin754, hat754, -⟩ := LAr_in KA743 (j := (po + (0 : Int32))) HJ.1 HJ.2
      refine Go.st (fun _ => X743.laload hx (j := (po + (0 : Int32))) (v := (.long (f1 ((po + (0 : Int32))).toNatClampNeg))) Ar754.1 (State.isArrayOf_alike hZ.alike Ar754.2.1) Ar754.2.2 hin754 hat754 (g := (mkF m 345 #[.val (.int p0), .val (.int p1), .val (.int p2), .val (.long q3), .second, .val (.long q4), .second, .val (.int b0v), .val (.int b1v), .val (.int b2v), .val (.int (0 : Int32)), .val (.int (1 : Int32)), .val (.int (1 : Int32)), .val (.int po), .val (.int b1v), .val (.int b0v), .val (.int (0 : Int32)), .val (.long (((1 : Int64) <<< (b1v &&& 0x3f).toInt64) - (1 : Int64))), .second, .val (.ref b636), .val (.ref b648), .val (.ref b665), .val (.ref b702), .val (.int (po + (0 : Int32))), .val (.long ((p2.toInt64) &&& (((1 : Int64) <<< (b1v &&& 0x3f).toInt64) - (1 : Int64)))), .second, .val (.long ((((1 : Int64) <<< (b1v &&& 0x3f).toInt64) - (1 : Int64)) <<< (b0v &&& 0x3f).toInt64)), .second, .unset, .unset] [(.int (po + (0 : Int32))), (.ref b702)])) rfl rfl (hb hby at_345) _) ?_
      show Go p e below _ (T743.setTop (mkF m 346 #[.val (.int p0), .val (.int p1), .val (.int p2), .val (.long q3), .second, .val (.long q4), .second, .val (.int b0v), .val (.int b1v), .val (.int b2v), .val (.int (0 : Int32)), .val (.int (1 : Int32)), .val (.int (1 : Int32)), .val (.int po), .val (.int b1v), .val (.int b0v), .val (.int (0 : Int32)), .val (.long (((1 : Int64) <<< (b1v &&& 0x3f).toInt64) - (1 : Int64))), .second, .val (.ref b636), .val (.ref b648), .val (.ref b665), .val (.ref b702), .val (.int (po + (0 : Int32))), .val (.long ((p2.toInt64) &&& (((1 : Int64) <<< (b1v &&& 0x3f).toInt64) - (1 : Int64)))), .second, .val (.long ((((1 : Int64) <<< (b1v &&& 0x3f).toInt64) - (1 : Int64)) <<< (b0v &&& 0x3f).toInt64)), .second, .unset, .unset] [(.long (f1 ((po + (0 : Int32))).toNatClampNeg))]))
      refine Go.st (fun _ => XS.iload X743.here hx rfl (hb hby at_346) rfl) ?_
      refine Go.st (fun _ => XS.lushr X743.here hx rfl (hb hby at_348) rfl) ?_
      refine Go.st (fun _ => XS.lload X743.here hx rfl (hb hby at_349) rfl) ?_
      refine Go.st (fun _ => XS.land X743.here hx rfl (hb hby at_351) rfl) ?_
      refine Go.st (fun _ => XS.lload X743.here hx rfl (hb hby at_352) rfl) ?_
      refine Go.st (fun _ => XS.lcmp X743.here hx rfl (hb hby at_354) rfl) ?_
      refine Go.st (fun _ => XS.ifNo X743.here hx rfl (hb hby at_355) rfl ((if0 _ _).trans (teq ((lw_eq _ _).mpr GV)).2)) ?_
      refine Go.st (fun _ => XS.aload X743.here hx rfl (hb hby at_358) rfl rfl) ?_
      refine Go.st (fun _ => XS.aload X743.here hx rfl (hb hby at_360) rfl rfl) ?_
      refine Go.st (fun _ => XS.iload X743.here hx rfl (hb hby at_362) rfl) ?_
      refine Go.st (fun _ => XS.iload X743.here hx rfl (hb hby at_364) rfl) ?_
      show Go p e below _ (T743.setTop (mkF m 366 #[.val (.int p0), .val (.int p1), .val (.int p2), .val (.long q3), .second, .val (.long q4), .second, .val (.int b0v), .val (.int b1v), .val (.int b2v), .val (.int (0 : Int32)), .val (.int (1 : Int32)), .val (.int (1 : Int32)), .val (.int po), .val (.int b1v), .val (.int b0v), .val (.int (0 : Int32)), .val (.long (((1 : Int64) <<< (b1v &&& 0x3f).toInt64) - (1 : Int64))), .second, .val (.ref b636), .val (.ref b648), .val (.ref b665), .val (.ref b702), .val (.int (po + (0 : Int32))), .val (.long ((p2.toInt64) &&& (((1 : Int64) <<< (b1v &&& 0x3f).toInt64) - (1 : Int64)))), .second, .val (.long ((((1 : Int64) <<< (b1v &&& 0x3f).toInt64) - (1 : Int64)) <<< (b0v &&& 0x3f).toInt64)), .second, .unset, .unset] [(.int (1 : Int32)), (.int po), (.ref b702), (.ref b648)]))
      refine goVirt X743 hx hZ (y := (⟨"com/example/gieres/gieres/model/TupleTable", "state", "([JII)I"⟩ : MethodName)) (z := (⟨"com/example/gieres/gieres/model/TupleTable", "state", "([JII)I"⟩ : MethodName)) hown (hw _ (List.mem_of_getElem? (i := 45) rfl)) (hw _ (List.mem_of_getElem? (i := 46) rfl)) (notFace_of_selects (args := #[]) (mvT hZ (hw _ (List.mem_of_getElem? (i := 48) rfl)))) (hw _ (List.mem_of_getElem? (i := 48) rfl)) (hw _ (List.mem_of_getElem? (i := 47) rfl)) (hw _ (List.mem_of_getElem? (i := 3) rfl)) (hw _ (List.mem_of_getElem? (i := 49) rfl)) (by decide) (a := b648) (argsL := [(.ref b702), (.int po), (.int (1 : Int32))]) (rest := []) rfl E_745 (rmG1 l Z a0 hw [] b648 b702 aw as am kw ks km (0 : Int32) (0 : Int32) (0 : Int32) (0 : Int32) b0v (b0v + b1v) (own_mask b0v) (own_mask b1v) (own_mask b2v) 2 f1 po T743.heap n0 O744 F746 V_747 F748 V_749 F750 V_751 KA743 HJ.1 HJ.2) 0 (by decide) (by decide) (by decide) (by decide) (mkF m 366 #[.val (.int p0), .val (.int p1), .val (.int p2), .val (.long q3), .second, .val (.long q4), .second, .val (.int b0v), .val (.int b1v), .val (.int b2v), .val (.int (0 : Int32)), .val (.int (1 : Int32)), .val (.int (1 : Int32)), .val (.int po), .val (.int b1v), .val (.int b0v), .val (.int (0 : Int32)), .val (.long (((1 : Int64) <<< (b1v &&& 0x3f).toInt64) - (1 : Int64))), .second, .val (.ref b636), .val (.ref b648), .val (.ref b665), .val (.ref b702), .val (.int (po + (0 : Int32))), .val (.long ((p2.toInt64) &&& (((1 : Int64) <<< (b1v &&& 0x3f).toInt64) - (1 : Int64)))), .second, .val (.long ((((1 : Int64) <<< (b1v &&& 0x3f).toInt64) - (1 : Int64)) <<< (b0v &&& 0x3f).toInt64)), .second, .unset, .unset] [(.int (1 : Int32)), (.int po), (.ref b702), (.ref b648)]) rfl (by rw [hml]; rfl) (lenOf pd_4 rfl) rfl (hb hby at_366) (Nat.le_of_eq rfl) ?_
      intro v755 T755 L755 X755 hQ755
      obtain ⟨rfl, M755, e755⟩ := hQ755
      have N755 := Fr.app N743 M755
      show Go p e below _ (T755.setTop (mkF m 369 #[.val (.int p0), .val (.int p1), .val (.int p2), .val (.long q3), .second, .val (.long q4), .second, .val (.int b0v), .val (.int b1v), .val (.int b2v), .val (.int (0 : Int32)), .val (.int (1 : Int32)), .val (.int (1 : Int32)), .val (.int po), .val (.int b1v), .val (.int b0v), .val (.int (0 : Int32)), .val (.long (((1 : Int64) <<< (b1v &&& 0x3f).toInt64) - (1 : Int64))), .second, .val (.ref b636), .val (.ref b648), .val (.ref b665), .val (.ref b702), .val (.int (po + (0 : Int32))), .val (.long ((p2.toInt64) &&& (((1 : Int64) <<< (b1v &&& 0x3f).toInt64) - (1 : Int64)))), .second, .val (.long ((((1 : Int64) <<< (b1v &&& 0x3f).toInt64) - (1 : Int64)) <<< (b0v &&& 0x3f).toInt64)), .second, .unset, .unset] [(.int ((own_get (f1 (po + (0 : Int32)).toNatClampNeg) (own_mask b1v) b0v).toInt32))]))
      refine Go.st (fun _ => XS.lload X755.here hx rfl (hb hby at_369) rfl) ?_
      refine Go.st (fun _ => XS.l2i X755.here hx rfl (hb hby at_371) rfl) ?_
      refine Go.st (fun _ => XS.icmpNo X755.here hx rfl (hb hby at_372) rfl (teq (congrArg Int64.toInt32 GV)).2) ?_
      refine Go.st (fun _ => XS.iconst X755.here hx rfl (hb hby at_375)) ?_
      refine Go.st (fun _ => XS.goto X755.here hx rfl (pc0 := 376) (pc' := 380) rfl (hb hby at_376) (by decide) (by decide)) ?_
      refine Go.st (fun _ => XS.istore X755.here hx rfl (hb hby at_380) rfl (l' := #[.val (.int p0), .val (.int p1), .val (.int p2), .val (.long q3), .second, .val (.long q4), .second, .val (.int b0v), .val (.int b1v), .val (.int b2v), .val (.int (0 : Int32)), .val (.int (1 : Int32)), .val (.int (1 : Int32)), .val (.int po), .val (.int b1v), .val (.int b0v), .val (.int (0 : Int32)), .val (.long (((1 : Int64) <<< (b1v &&& 0x3f).toInt64) - (1 : Int64))), .second, .val (.ref b636), .val (.ref b648), .val (.ref b665), .val (.ref b702), .val (.int (po + (0 : Int32))), .val (.long ((p2.toInt64) &&& (((1 : Int64) <<< (b1v &&& 0x3f).toInt64) - (1 : Int64)))), .second, .val (.long ((((1 : Int64) <<< (b1v &&& 0x3f).toInt64) - (1 : Int64)) <<< (b0v &&& 0x3f).toInt64)), .second, .val (.int (1 : Int32)), .unset]) rfl) ?_
      refine Go.st (fun _ => XS.aload X755.here hx rfl (hb hby at_382) rfl rfl) ?_
      refine Go.st (fun _ => XS.aload X755.here hx rfl (hb hby at_384) rfl rfl) ?_
      refine Go.st (fun _ => XS.iconst X755.here hx rfl (hb hby at_386)) ?_
      refine Go.st (fun _ => XS.iload X755.here hx rfl (hb hby at_387) rfl) ?_
      refine Go.st (fun _ => XS.lload X755.here hx rfl (hb hby at_389) rfl) ?_
      show Go p e below _ (T755.setTop (mkF m 391 #[.val (.int p0), .val (.int p1), .val (.int p2), .val (.long q3), .second, .val (.long q4), .second, .val (.int b0v), .val (.int b1v), .val (.int b2v), .val (.int (0 : Int32)), .val (.int (1 : Int32)), .val (.int (1 : Int32)), .val (.int po), .val (.int b1v), .val (.int b0v), .val (.int (0 : Int32)), .val (.long (((1 : Int64) <<< (b1v &&& 0x3f).toInt64) - (1 : Int64))), .second, .val (.ref b636), .val (.ref b648), .val (.ref b665), .val (.ref b702), .val (.int (po + (0 : Int32))), .val (.long ((p2.toInt64) &&& (((1 : Int64) <<< (b1v &&& 0x3f).toInt64) - (1 : Int64)))), .second, .val (.long ((((1 : Int64) <<< (b1v &&& 0x3f).toInt64) - (1 : Int64)) <<< (b0v &&& 0x3f).toInt64)), .second, .val (.int (1 : Int32)), .unset] [(.long ((((1 : Int64) <<< (b1v &&& 0x3f).toInt64) - (1 : Int64)) <<< (b0v &&& 0x3f).toInt64)), (.int (po + (0 : Int32))), (.int (0 : Int32)), (.ref b665), (.ref b702)]))
      refine goCallS X755 hx hZ (y := (⟨"com/example/gieres/gieres/model/TupleTableSetStatePinLaw", "same", "([J[JIIJ)Z"⟩ : MethodName)) hown (hw _ (List.mem_of_getElem? (i := 50) rfl)) (hw _ (List.mem_of_getElem? (i := 51) rfl)) (hw _ (List.mem_of_getElem? (i := 52) rfl)) (hw _ (List.mem_of_getElem? (i := 53) rfl)) (by decide) (argsL := [(.ref b702), (.ref b665), (.int (0 : Int32)), (.int (po + (0 : Int32))), (.long ((((1 : Int64) <<< (b1v &&& 0x3f).toInt64) - (1 : Int64)) <<< (b0v &&& 0x3f).toInt64))]) (rest := []) e755 (rmSame l Z a0 hw [] b702 b665 (0 : Int32) (po + (0 : Int32)) (2 : Int32) ((((1 : Int64) <<< (b1v &&& 0x3f).toInt64) - (1 : Int64)) <<< (b0v &&& 0x3f).toInt64) 2 f1 f0 T743.heap n0 O744 KA743 VL753 rfl rfl (by decide) (own_same1 PL hf1) (own_same2 (by decide) HJ.1 hf1)) 0 (by decide) (by decide) (by decide) (by decide) (mkF m 391 #[.val (.int p0), .val (.int p1), .val (.int p2), .val (.long q3), .second, .val (.long q4), .second, .val (.int b0v), .val (.int b1v), .val (.int b2v), .val (.int (0 : Int32)), .val (.int (1 : Int32)), .val (.int (1 : Int32)), .val (.int po), .val (.int b1v), .val (.int b0v), .val (.int (0 : Int32)), .val (.long (((1 : Int64) <<< (b1v &&& 0x3f).toInt64) - (1 : Int64))), .second, .val (.ref b636), .val (.ref b648), .val (.ref b665), .val (.ref b702), .val (.int (po + (0 : Int32))), .val (.long ((p2.toInt64) &&& (((1 : Int64) <<< (b1v &&& 0x3f).toInt64) - (1 : Int64)))), .second, .val (.long ((((1 : Int64) <<< (b1v &&& 0x3f).toInt64) - (1 : Int64)) <<< (b0v &&& 0x3f).toInt64)), .second, .val (.int (1 : Int32)), .unset] [(.long ((((1 : Int64) <<< (b1v &&& 0x3f).toInt64) - (1 : Int64)) <<< (b0v &&& 0x3f).toInt64)), (.int (po + (0 : Int32))), (.int (0 : Int32)), (.ref b665), (.ref b702)]) rfl (by rw [hml]; rfl) (lenOf pd_5 rfl) rfl (hb hby at_391) (Nat.le_of_eq rfl) ?_
      intro v756 T756 L756 X756 hQ756
      obtain ⟨rfl, M756, e756⟩ := hQ756
      have N756 := Fr.app N755 M756
      show Go p e below _ (T756.setTop (mkF m 394 #[.val (.int p0), .val (.int p1), .val (.int p2), .val (.long q3), .second, .val (.long q4), .second, .val (.int b0v), .val (.int b1v), .val (.int b2v), .val (.int (0 : Int32)), .val (.int (1 : Int32)), .val (.int (1 : Int32)), .val (.int po), .val (.int b1v), .val (.int b0v), .val (.int (0 : Int32)), .val (.long (((1 : Int64) <<< (b1v &&& 0x3f).toInt64) - (1 : Int64))), .second, .val (.ref b636), .val (.ref b648), .val (.ref b665), .val (.ref b702), .val (.int (po + (0 : Int32))), .val (.long ((p2.toInt64) &&& (((1 : Int64) <<< (b1v &&& 0x3f).toInt64) - (1 : Int64)))), .second, .val (.long ((((1 : Int64) <<< (b1v &&& 0x3f).toInt64) - (1 : Int64)) <<< (b0v &&& 0x3f).toInt64)), .second, .val (.int (1 : Int32)), .unset] [(.int (1 : Int32))]))
      refine Go.st (fun _ => XS.ifNo X756.here hx rfl (hb hby at_394) rfl ((if0 _ _).trans (feq (by decide : ¬ ((1 : Int32) = (0 : Int32)))).1)) ?_
      refine Go.st (fun _ => XS.aload X756.here hx rfl (hb hby at_397) rfl rfl) ?_
      refine Go.st (fun _ => XS.aload X756.here hx rfl (hb hby at_399) rfl rfl) ?_
      refine Go.st (fun _ => XS.iconst X756.here hx rfl (hb hby at_401)) ?_
      refine Go.st (fun _ => XS.iload X756.here hx rfl (hb hby at_402) rfl) ?_
      refine Go.st (fun _ => XS.lload X756.here hx rfl (hb hby at_404) rfl) ?_
      show Go p e below _ (T756.setTop (mkF m 406 #[.val (.int p0), .val (.int p1), .val (.int p2), .val (.long q3), .second, .val (.long q4), .second, .val (.int b0v), .val (.int b1v), .val (.int b2v), .val (.int (0 : Int32)), .val (.int (1 : Int32)), .val (.int (1 : Int32)), .val (.int po), .val (.int b1v), .val (.int b0v), .val (.int (0 : Int32)), .val (.long (((1 : Int64) <<< (b1v &&& 0x3f).toInt64) - (1 : Int64))), .second, .val (.ref b636), .val (.ref b648), .val (.ref b665), .val (.ref b702), .val (.int (po + (0 : Int32))), .val (.long ((p2.toInt64) &&& (((1 : Int64) <<< (b1v &&& 0x3f).toInt64) - (1 : Int64)))), .second, .val (.long ((((1 : Int64) <<< (b1v &&& 0x3f).toInt64) - (1 : Int64)) <<< (b0v &&& 0x3f).toInt64)), .second, .val (.int (1 : Int32)), .unset] [(.long ((((1 : Int64) <<< (b1v &&& 0x3f).toInt64) - (1 : Int64)) <<< (b0v &&& 0x3f).toInt64)), (.int (po + (0 : Int32))), (.int (1 : Int32)), (.ref b665), (.ref b702)]))
      refine goCallS X756 hx hZ (y := (⟨"com/example/gieres/gieres/model/TupleTableSetStatePinLaw", "same", "([J[JIIJ)Z"⟩ : MethodName)) hown (hw _ (List.mem_of_getElem? (i := 50) rfl)) (hw _ (List.mem_of_getElem? (i := 51) rfl)) (hw _ (List.mem_of_getElem? (i := 52) rfl)) (hw _ (List.mem_of_getElem? (i := 53) rfl)) (by decide) (argsL := [(.ref b702), (.ref b665), (.int (1 : Int32)), (.int (po + (0 : Int32))), (.long ((((1 : Int64) <<< (b1v &&& 0x3f).toInt64) - (1 : Int64)) <<< (b0v &&& 0x3f).toInt64))]) (rest := []) e756 (rmSame l Z a0 hw [] b702 b665 (1 : Int32) (po + (0 : Int32)) (2 : Int32) ((((1 : Int64) <<< (b1v &&& 0x3f).toInt64) - (1 : Int64)) <<< (b0v &&& 0x3f).toInt64) 2 f1 f0 T743.heap n0 O744 KA743 VL753 rfl rfl (by decide) (own_same1 PL hf1) (own_same2 (by decide) HJ.1 hf1)) 0 (by decide) (by decide) (by decide) (by decide) (mkF m 406 #[.val (.int p0), .val (.int p1), .val (.int p2), .val (.long q3), .second, .val (.long q4), .second, .val (.int b0v), .val (.int b1v), .val (.int b2v), .val (.int (0 : Int32)), .val (.int (1 : Int32)), .val (.int (1 : Int32)), .val (.int po), .val (.int b1v), .val (.int b0v), .val (.int (0 : Int32)), .val (.long (((1 : Int64) <<< (b1v &&& 0x3f).toInt64) - (1 : Int64))), .second, .val (.ref b636), .val (.ref b648), .val (.ref b665), .val (.ref b702), .val (.int (po + (0 : Int32))), .val (.long ((p2.toInt64) &&& (((1 : Int64) <<< (b1v &&& 0x3f).toInt64) - (1 : Int64)))), .second, .val (.long ((((1 : Int64) <<< (b1v &&& 0x3f).toInt64) - (1 : Int64)) <<< (b0v &&& 0x3f).toInt64)), .second, .val (.int (1 : Int32)), .unset] [(.long ((((1 : Int64) <<< (b1v &&& 0x3f).toInt64) - (1 : Int64)) <<< (b0v &&& 0x3f).toInt64)), (.int (po + (0 : Int32))), (.int (1 : Int32)), (.ref b665), (.ref b702)]) rfl (by rw [hml]; rfl) (lenOf pd_5 rfl) rfl (hb hby at_406) (Nat.le_of_eq rfl) ?_
      intro v757 T757 L757 X757 hQ757
      obtain ⟨rfl, M757, e757⟩ := hQ757
      have N757 := Fr.app N756 M757
      show Go p e below _ (T757.setTop (mkF m 409 #[.val (.int p0), .val (.int p1), .val (.int p2), .val (.long q3), .second, .val (.long q4), .second, .val (.int b0v), .val (.int b1v), .val (.int b2v), .val (.int (0 : Int32)), .val (.int (1 : Int32)), .val (.int (1 : Int32)), .val (.int po), .val (.int b1v), .val (.int b0v), .val (.int (0 : Int32)), .val (.long (((1 : Int64) <<< (b1v &&& 0x3f).toInt64) - (1 : Int64))), .second, .val (.ref b636), .val (.ref b648), .val (.ref b665), .val (.ref b702), .val (.int (po + (0 : Int32))), .val (.long ((p2.toInt64) &&& (((1 : Int64) <<< (b1v &&& 0x3f).toInt64) - (1 : Int64)))), .second, .val (.long ((((1 : Int64) <<< (b1v &&& 0x3f).toInt64) - (1 : Int64)) <<< (b0v &&& 0x3f).toInt64)), .second, .val (.int (1 : Int32)), .unset] [(.int (1 : Int32))]))
      refine Go.st (fun _ => XS.ifNo X757.here hx rfl (hb hby at_409) rfl ((if0 _ _).trans (feq (by decide : ¬ ((1 : Int32) = (0 : Int32)))).1)) ?_
      refine Go.st (fun _ => XS.aload X757.here hx rfl (hb hby at_412) rfl rfl) ?_
      refine Go.st (fun _ => XS.aload X757.here hx rfl (hb hby at_414) rfl rfl) ?_
      refine Go.st (fun _ => XS.iconst X757.here hx rfl (hb hby at_416)) ?_
      refine Go.st (fun _ => XS.iload X757.here hx rfl (hb hby at_417) rfl) ?_
      refine Go.st (fun _ => XS.lload X757.here hx rfl (hb hby at_419) rfl) ?_
      show Go p e below _ (T757.setTop (mkF m 421 #[.val (.int p0), .val (.int p1), .val (.int p2), .val (.long q3), .second, .val (.long q4), .second, .val (.int b0v), .val (.int b1v), .val (.int b2v), .val (.int (0 : Int32)), .val (.int (1 : Int32)), .val (.int (1 : Int32)), .val (.int po), .val (.int b1v), .val (.int b0v), .val (.int (0 : Int32)), .val (.long (((1 : Int64) <<< (b1v &&& 0x3f).toInt64) - (1 : Int64))), .second, .val (.ref b636), .val (.ref b648), .val (.ref b665), .val (.ref b702), .val (.int (po + (0 : Int32))), .val (.long ((p2.toInt64) &&& (((1 : Int64) <<< (b1v &&& 0x3f).toInt64) - (1 : Int64)))), .second, .val (.long ((((1 : Int64) <<< (b1v &&& 0x3f).toInt64) - (1 : Int64)) <<< (b0v &&& 0x3f).toInt64)), .second, .val (.int (1 : Int32)), .unset] [(.long ((((1 : Int64) <<< (b1v &&& 0x3f).toInt64) - (1 : Int64)) <<< (b0v &&& 0x3f).toInt64)), (.int (po + (0 : Int32))), (.int (2 : Int32)), (.ref b665), (.ref b702)]))
      refine goCallS X757 hx hZ (y := (⟨"com/example/gieres/gieres/model/TupleTableSetStatePinLaw", "same", "([J[JIIJ)Z"⟩ : MethodName)) hown (hw _ (List.mem_of_getElem? (i := 50) rfl)) (hw _ (List.mem_of_getElem? (i := 51) rfl)) (hw _ (List.mem_of_getElem? (i := 52) rfl)) (hw _ (List.mem_of_getElem? (i := 53) rfl)) (by decide) (argsL := [(.ref b702), (.ref b665), (.int (2 : Int32)), (.int (po + (0 : Int32))), (.long ((((1 : Int64) <<< (b1v &&& 0x3f).toInt64) - (1 : Int64)) <<< (b0v &&& 0x3f).toInt64))]) (rest := []) e757 (rmSame l Z a0 hw [] b702 b665 (2 : Int32) (po + (0 : Int32)) (2 : Int32) ((((1 : Int64) <<< (b1v &&& 0x3f).toInt64) - (1 : Int64)) <<< (b0v &&& 0x3f).toInt64) 2 f1 f0 T743.heap n0 O744 KA743 VL753 rfl rfl (by decide) (own_same1 PL hf1) (own_same2 (by decide) HJ.1 hf1)) 0 (by decide) (by decide) (by decide) (by decide) (mkF m 421 #[.val (.int p0), .val (.int p1), .val (.int p2), .val (.long q3), .second, .val (.long q4), .second, .val (.int b0v), .val (.int b1v), .val (.int b2v), .val (.int (0 : Int32)), .val (.int (1 : Int32)), .val (.int (1 : Int32)), .val (.int po), .val (.int b1v), .val (.int b0v), .val (.int (0 : Int32)), .val (.long (((1 : Int64) <<< (b1v &&& 0x3f).toInt64) - (1 : Int64))), .second, .val (.ref b636), .val (.ref b648), .val (.ref b665), .val (.ref b702), .val (.int (po + (0 : Int32))), .val (.long ((p2.toInt64) &&& (((1 : Int64) <<< (b1v &&& 0x3f).toInt64) - (1 : Int64)))), .second, .val (.long ((((1 : Int64) <<< (b1v &&& 0x3f).toInt64) - (1 : Int64)) <<< (b0v &&& 0x3f).toInt64)), .second, .val (.int (1 : Int32)), .unset] [(.long ((((1 : Int64) <<< (b1v &&& 0x3f).toInt64) - (1 : Int64)) <<< (b0v &&& 0x3f).toInt64)), (.int (po + (0 : Int32))), (.int (2 : Int32)), (.ref b665), (.ref b702)]) rfl (by rw [hml]; rfl) (lenOf pd_5 rfl) rfl (hb hby at_421) (Nat.le_of_eq rfl) ?_
      intro v758 T758 L758 X758 hQ758
      obtain ⟨rfl, M758, e758⟩ := hQ758
      have N758 := Fr.app N757 M758
      show Go p e below _ (T758.setTop (mkF m 424 #[.val (.int p0), .val (.int p1), .val (.int p2), .val (.long q3), .second, .val (.long q4), .second, .val (.int b0v), .val (.int b1v), .val (.int b2v), .val (.int (0 : Int32)), .val (.int (1 : Int32)), .val (.int (1 : Int32)), .val (.int po), .val (.int b1v), .val (.int b0v), .val (.int (0 : Int32)), .val (.long (((1 : Int64) <<< (b1v &&& 0x3f).toInt64) - (1 : Int64))), .second, .val (.ref b636), .val (.ref b648), .val (.ref b665), .val (.ref b702), .val (.int (po + (0 : Int32))), .val (.long ((p2.toInt64) &&& (((1 : Int64) <<< (b1v &&& 0x3f).toInt64) - (1 : Int64)))), .second, .val (.long ((((1 : Int64) <<< (b1v &&& 0x3f).toInt64) - (1 : Int64)) <<< (b0v &&& 0x3f).toInt64)), .second, .val (.int (1 : Int32)), .unset] [(.int (1 : Int32))]))
      refine Go.st (fun _ => XS.ifNo X758.here hx rfl (hb hby at_424) rfl ((if0 _ _).trans (feq (by decide : ¬ ((1 : Int32) = (0 : Int32)))).1)) ?_
      refine Go.st (fun _ => XS.aload X758.here hx rfl (hb hby at_427) rfl rfl) ?_
      refine Go.st (fun _ => XS.aload X758.here hx rfl (hb hby at_429) rfl rfl) ?_
      refine Go.st (fun _ => XS.iconst X758.here hx rfl (hb hby at_431)) ?_
      refine Go.st (fun _ => XS.iload X758.here hx rfl (hb hby at_432) rfl) ?_
      refine Go.st (fun _ => XS.lload X758.here hx rfl (hb hby at_434) rfl) ?_
      show Go p e below _ (T758.setTop (mkF m 436 #[.val (.int p0), .val (.int p1), .val (.int p2), .val (.long q3), .second, .val (.long q4), .second, .val (.int b0v), .val (.int b1v), .val (.int b2v), .val (.int (0 : Int32)), .val (.int (1 : Int32)), .val (.int (1 : Int32)), .val (.int po), .val (.int b1v), .val (.int b0v), .val (.int (0 : Int32)), .val (.long (((1 : Int64) <<< (b1v &&& 0x3f).toInt64) - (1 : Int64))), .second, .val (.ref b636), .val (.ref b648), .val (.ref b665), .val (.ref b702), .val (.int (po + (0 : Int32))), .val (.long ((p2.toInt64) &&& (((1 : Int64) <<< (b1v &&& 0x3f).toInt64) - (1 : Int64)))), .second, .val (.long ((((1 : Int64) <<< (b1v &&& 0x3f).toInt64) - (1 : Int64)) <<< (b0v &&& 0x3f).toInt64)), .second, .val (.int (1 : Int32)), .unset] [(.long ((((1 : Int64) <<< (b1v &&& 0x3f).toInt64) - (1 : Int64)) <<< (b0v &&& 0x3f).toInt64)), (.int (po + (0 : Int32))), (.int (3 : Int32)), (.ref b665), (.ref b702)]))
      refine goCallS X758 hx hZ (y := (⟨"com/example/gieres/gieres/model/TupleTableSetStatePinLaw", "same", "([J[JIIJ)Z"⟩ : MethodName)) hown (hw _ (List.mem_of_getElem? (i := 50) rfl)) (hw _ (List.mem_of_getElem? (i := 51) rfl)) (hw _ (List.mem_of_getElem? (i := 52) rfl)) (hw _ (List.mem_of_getElem? (i := 53) rfl)) (by decide) (argsL := [(.ref b702), (.ref b665), (.int (3 : Int32)), (.int (po + (0 : Int32))), (.long ((((1 : Int64) <<< (b1v &&& 0x3f).toInt64) - (1 : Int64)) <<< (b0v &&& 0x3f).toInt64))]) (rest := []) e758 (rmSame l Z a0 hw [] b702 b665 (3 : Int32) (po + (0 : Int32)) (2 : Int32) ((((1 : Int64) <<< (b1v &&& 0x3f).toInt64) - (1 : Int64)) <<< (b0v &&& 0x3f).toInt64) 2 f1 f0 T743.heap n0 O744 KA743 VL753 rfl rfl (by decide) (own_same1 PL hf1) (own_same2 (by decide) HJ.1 hf1)) 0 (by decide) (by decide) (by decide) (by decide) (mkF m 436 #[.val (.int p0), .val (.int p1), .val (.int p2), .val (.long q3), .second, .val (.long q4), .second, .val (.int b0v), .val (.int b1v), .val (.int b2v), .val (.int (0 : Int32)), .val (.int (1 : Int32)), .val (.int (1 : Int32)), .val (.int po), .val (.int b1v), .val (.int b0v), .val (.int (0 : Int32)), .val (.long (((1 : Int64) <<< (b1v &&& 0x3f).toInt64) - (1 : Int64))), .second, .val (.ref b636), .val (.ref b648), .val (.ref b665), .val (.ref b702), .val (.int (po + (0 : Int32))), .val (.long ((p2.toInt64) &&& (((1 : Int64) <<< (b1v &&& 0x3f).toInt64) - (1 : Int64)))), .second, .val (.long ((((1 : Int64) <<< (b1v &&& 0x3f).toInt64) - (1 : Int64)) <<< (b0v &&& 0x3f).toInt64)), .second, .val (.int (1 : Int32)), .unset] [(.long ((((1 : Int64) <<< (b1v &&& 0x3f).toInt64) - (1 : Int64)) <<< (b0v &&& 0x3f).toInt64)), (.int (po + (0 : Int32))), (.int (3 : Int32)), (.ref b665), (.ref b702)]) rfl (by rw [hml]; rfl) (lenOf pd_5 rfl) rfl (hb hby at_436) (Nat.le_of_eq rfl) ?_
      intro v759 T759 L759 X759 hQ759
      obtain ⟨rfl, M759, e759⟩ := hQ759
      have N759 := Fr.app N758 M759
      show Go p e below _ (T759.setTop (mkF m 439 #[.val (.int p0), .val (.int p1), .val (.int p2), .val (.long q3), .second, .val (.long q4), .second, .val (.int b0v), .val (.int b1v), .val (.int b2v), .val (.int (0 : Int32)), .val (.int (1 : Int32)), .val (.int (1 : Int32)), .val (.int po), .val (.int b1v), .val (.int b0v), .val (.int (0 : Int32)), .val (.long (((1 : Int64) <<< (b1v &&& 0x3f).toInt64) - (1 : Int64))), .second, .val (.ref b636), .val (.ref b648), .val (.ref b665), .val (.ref b702), .val (.int (po + (0 : Int32))), .val (.long ((p2.toInt64) &&& (((1 : Int64) <<< (b1v &&& 0x3f).toInt64) - (1 : Int64)))), .second, .val (.long ((((1 : Int64) <<< (b1v &&& 0x3f).toInt64) - (1 : Int64)) <<< (b0v &&& 0x3f).toInt64)), .second, .val (.int (1 : Int32)), .unset] [(.int (1 : Int32))]))
      refine Go.st (fun _ => XS.ifNo X759.here hx rfl (hb hby at_439) rfl ((if0 _ _).trans (feq (by decide : ¬ ((1 : Int32) = (0 : Int32)))).1)) ?_
      refine Go.st (fun _ => XS.iconst X759.here hx rfl (hb hby at_442)) ?_
      refine Go.st (fun _ => XS.goto X759.here hx rfl (pc0 := 443) (pc' := 447) rfl (hb hby at_443) (by decide) (by decide)) ?_
      refine Go.st (fun _ => XS.istore X759.here hx rfl (hb hby at_447) rfl (l' := #[.val (.int p0), .val (.int p1), .val (.int p2), .val (.long q3), .second, .val (.long q4), .second, .val (.int b0v), .val (.int b1v), .val (.int b2v), .val (.int (0 : Int32)), .val (.int (1 : Int32)), .val (.int (1 : Int32)), .val (.int po), .val (.int b1v), .val (.int b0v), .val (.int (0 : Int32)), .val (.long (((1 : Int64) <<< (b1v &&& 0x3f).toInt64) - (1 : Int64))), .second, .val (.ref b636), .val (.ref b648), .val (.ref b665), .val (.ref b702), .val (.int (po + (0 : Int32))), .val (.long ((p2.toInt64) &&& (((1 : Int64) <<< (b1v &&& 0x3f).toInt64) - (1 : Int64)))), .second, .val (.long ((((1 : Int64) <<< (b1v &&& 0x3f).toInt64) - (1 : Int64)) <<< (b0v &&& 0x3f).toInt64)), .second, .val (.int (1 : Int32)), .val (.int (1 : Int32))]) rfl) ?_
      refine Go.st (fun _ => XS.iload X759.here hx rfl (hb hby at_449) rfl) ?_
      refine Go.st (fun _ => XS.ifNo X759.here hx rfl (hb hby at_451) rfl ((if0 _ _).trans (feq (by decide : ¬ ((1 : Int32) = (0 : Int32)))).1)) ?_
      refine Go.st (fun _ => XS.iload X759.here hx rfl (hb hby at_454) rfl) ?_
      refine Go.st (fun _ => XS.ifNo X759.here hx rfl (hb hby at_456) rfl ((if0 _ _).trans (feq (by decide : ¬ ((1 : Int32) = (0 : Int32)))).1)) ?_
      refine Go.st (fun _ => XS.iconst X759.here hx rfl (hb hby at_459)) ?_
      refine Go.st (fun _ => XS.goto X759.here hx rfl (pc0 := 460) (pc' := 464) rfl (hb hby at_460) (by decide) (by decide)) ?_
      show Go p e below _ (T759.setTop (mkF m 464 #[.val (.int p0), .val (.int p1), .val (.int p2), .val (.long q3), .second, .val (.long q4), .second, .val (.int b0v), .val (.int b1v), .val (.int b2v), .val (.int (0 : Int32)), .val (.int (1 : Int32)), .val (.int (1 : Int32)), .val (.int po), .val (.int b1v), .val (.int b0v), .val (.int (0 : Int32)), .val (.long (((1 : Int64) <<< (b1v &&& 0x3f).toInt64) - (1 : Int64))), .second, .val (.ref b636), .val (.ref b648), .val (.ref b665), .val (.ref b702), .val (.int (po + (0 : Int32))), .val (.long ((p2.toInt64) &&& (((1 : Int64) <<< (b1v &&& 0x3f).toInt64) - (1 : Int64)))), .second, .val (.long ((((1 : Int64) <<< (b1v &&& 0x3f).toInt64) - (1 : Int64)) <<< (b0v &&& 0x3f).toInt64)), .second, .val (.int (1 : Int32)), .val (.int (1 : Int32))] [(.int (1 : Int32))]))
      exact goRetN X759 hx hlk hret (t := .boolean) (by simp) (w := (1 : Int32)) (by decide) e759 (hb hby at_464) (by decide) (by decide) ⟨rfl, N759⟩
    · rw [qf]
      show Go p e below _ (s₁.setTop (mkF m 70 #[.val (.int p0), .val (.int p1), .val (.int p2), .val (.long q3), .second, .val (.long q4), .second, .val (.int b0v), .val (.int b1v), .val (.int b2v), .val (.int (0 : Int32)), .val (.int (1 : Int32)), .unset, .unset, .unset, .unset, .unset, .unset, .unset, .unset, .unset, .unset, .unset, .unset, .unset, .unset, .unset, .unset, .unset, .unset] [(.int (2 : Int32))]))
      refine Go.st (fun _ => XS.istore X0.here hx rfl (hb hby at_70) rfl (l' := #[.val (.int p0), .val (.int p1), .val (.int p2), .val (.long q3), .second, .val (.long q4), .second, .val (.int b0v), .val (.int b1v), .val (.int b2v), .val (.int (0 : Int32)), .val (.int (1 : Int32)), .val (.int (2 : Int32)), .unset, .unset, .unset, .unset, .unset, .unset, .unset, .unset, .unset, .unset, .unset, .unset, .unset, .unset, .unset, .unset, .unset]) rfl) ?_
      refine Go.st (fun _ => XS.iloadN X0.here hx rfl (hb hby at_72) rfl) ?_
      refine Go.st (fun _ => XS.iconst X0.here hx rfl (hb hby at_73)) ?_
      refine Go.st (fun _ => XS.iushr X0.here hx rfl (hb hby at_74) rfl) ?_
      refine Go.st (fun _ => XS.iconst X0.here hx rfl (hb hby at_75)) ?_
      refine Go.st (fun _ => XS.iand X0.here hx rfl (hb hby at_76) rfl) ?_
      refine Go.st (fun _ => XS.iload X0.here hx rfl (hb hby at_77) rfl) ?_
      refine Go.st (fun _ => XS.imul X0.here hx rfl (hb hby at_79) rfl) ?_
      refine Go.st (fun _ => XS.istore X0.here hx rfl (hb hby at_80) rfl (l' := #[.val (.int p0), .val (.int p1), .val (.int p2), .val (.long q3), .second, .val (.long q4), .second, .val (.int b0v), .val (.int b1v), .val (.int b2v), .val (.int (0 : Int32)), .val (.int (1 : Int32)), .val (.int (2 : Int32)), .val (.int ((((p1.toUInt32 >>> ((2 : Int32) &&& 31).toUInt32).toInt32) &&& (1 : Int32)) * (1 : Int32))), .unset, .unset, .unset, .unset, .unset, .unset, .unset, .unset, .unset, .unset, .unset, .unset, .unset, .unset, .unset, .unset]) rfl) ?_
      show Go p e below _ (s₁.setTop (mkF m 82 #[.val (.int p0), .val (.int p1), .val (.int p2), .val (.long q3), .second, .val (.long q4), .second, .val (.int b0v), .val (.int b1v), .val (.int b2v), .val (.int (0 : Int32)), .val (.int (1 : Int32)), .val (.int (2 : Int32)), .val (.int ((((p1.toUInt32 >>> ((2 : Int32) &&& 31).toUInt32).toInt32) &&& (1 : Int32)) * (1 : Int32))), .unset, .unset, .unset, .unset, .unset, .unset, .unset, .unset, .unset, .unset, .unset, .unset, .unset, .unset, .unset, .unset] []))
      obtain ⟨po, hpo⟩ : ∃ z, z = ((((p1.toUInt32 >>> ((2 : Int32) &&& 31).toUInt32).toInt32) &&& (1 : Int32)) * (1 : Int32)) := ⟨_, rfl⟩
      rw [← hpo]
      have hpb : po = 0 ∨ po = 1 := by rw [hpo]; exact own_po _ _
      have HJ : 0 ≤ (po + (0 : Int32)).toInt ∧ (po + (0 : Int32)).toInt < (2 : Nat) := by rcases hpb with q | q <;> rw [q] <;> decide
      show Go p e below _ (s₁.setTop (mkF m 82 #[.val (.int p0), .val (.int p1), .val (.int p2), .val (.long q3), .second, .val (.long q4), .second, .val (.int b0v), .val (.int b1v), .val (.int b2v), .val (.int (0 : Int32)), .val (.int (1 : Int32)), .val (.int (2 : Int32)), .val (.int po), .unset, .unset, .unset, .unset, .unset, .unset, .unset, .unset, .unset, .unset, .unset, .unset, .unset, .unset, .unset, .unset] []))
      refine Go.st (fun _ => XS.iload X0.here hx rfl (hb hby at_82) rfl) ?_
      refine Go.st (fun _ => XS.ifYes X0.here hx rfl (pc0 := 84) (pc' := 92) rfl (hb hby at_84) rfl ((if0 _ _).trans (feq (by decide : ¬ ((2 : Int32) = (0 : Int32)))).2) (by decide) (by decide)) ?_
      refine Go.st (fun _ => XS.iload X0.here hx rfl (hb hby at_92) rfl) ?_
      refine Go.st (fun _ => XS.iconst X0.here hx rfl (hb hby at_94)) ?_
      refine Go.st (fun _ => XS.icmpYes X0.here hx rfl (pc0 := 95) (pc' := 103) rfl (hb hby at_95) rfl (feq (by decide : ¬ ((2 : Int32) = (1 : Int32)))).2 (by decide) (by decide)) ?_
      refine Go.st (fun _ => XS.iload X0.here hx rfl (hb hby at_103) rfl) ?_
      refine Go.st (fun _ => XS.istore X0.here hx rfl (hb hby at_105) rfl (l' := #[.val (.int p0), .val (.int p1), .val (.int p2), .val (.long q3), .second, .val (.long q4), .second, .val (.int b0v), .val (.int b1v), .val (.int b2v), .val (.int (0 : Int32)), .val (.int (1 : Int32)), .val (.int (2 : Int32)), .val (.int po), .val (.int b2v), .unset, .unset, .unset, .unset, .unset, .unset, .unset, .unset, .unset, .unset, .unset, .unset, .unset, .unset, .unset]) rfl) ?_
      refine Go.st (fun _ => XS.iload X0.here hx rfl (hb hby at_107) rfl) ?_
      refine Go.st (fun _ => XS.ifYes X0.here hx rfl (pc0 := 109) (pc' := 116) rfl (hb hby at_109) rfl ((if0 _ _).trans (feq (by decide : ¬ ((2 : Int32) = (0 : Int32)))).2) (by decide) (by decide)) ?_
      refine Go.st (fun _ => XS.iload X0.here hx rfl (hb hby at_116) rfl) ?_
      refine Go.st (fun _ => XS.iconst X0.here hx rfl (hb hby at_118)) ?_
      refine Go.st (fun _ => XS.icmpYes X0.here hx rfl (pc0 := 119) (pc' := 127) rfl (hb hby at_119) rfl (feq (by decide : ¬ ((2 : Int32) = (1 : Int32)))).2 (by decide) (by decide)) ?_
      show Go p e below _ (s₁.setTop (mkF m 127 #[.val (.int p0), .val (.int p1), .val (.int p2), .val (.long q3), .second, .val (.long q4), .second, .val (.int b0v), .val (.int b1v), .val (.int b2v), .val (.int (0 : Int32)), .val (.int (1 : Int32)), .val (.int (2 : Int32)), .val (.int po), .val (.int b2v), .unset, .unset, .unset, .unset, .unset, .unset, .unset, .unset, .unset, .unset, .unset, .unset, .unset, .unset, .unset] []))
      refine Go.st (fun _ => XS.iload X0.here hx rfl (hb hby at_127) rfl) ?_
      refine Go.st (fun _ => XS.ifYes X0.here hx rfl (pc0 := 129) (pc' := 136) rfl (hb hby at_129) rfl ((if0 _ _).trans (teq (by decide : (0 : Int32) = (0 : Int32))).1) (by decide) (by decide)) ?_
      refine Go.st (fun _ => XS.iload X0.here hx rfl (hb hby at_136) rfl) ?_
      refine Go.st (fun _ => XS.iload X0.here hx rfl (hb hby at_138) rfl) ?_
      refine Go.st (fun _ => XS.iadd X0.here hx rfl (hb hby at_140) rfl) ?_
      refine Go.st (fun _ => XS.istore X0.here hx rfl (hb hby at_141) rfl (l' := #[.val (.int p0), .val (.int p1), .val (.int p2), .val (.long q3), .second, .val (.long q4), .second, .val (.int b0v), .val (.int b1v), .val (.int b2v), .val (.int (0 : Int32)), .val (.int (1 : Int32)), .val (.int (2 : Int32)), .val (.int po), .val (.int b2v), .val (.int (b0v + b1v)), .unset, .unset, .unset, .unset, .unset, .unset, .unset, .unset, .unset, .unset, .unset, .unset, .unset, .unset]) rfl) ?_
      refine Go.st (fun _ => XS.iload X0.here hx rfl (hb hby at_143) rfl) ?_
      refine Go.st (fun _ => XS.iconst X0.here hx rfl (hb hby at_145)) ?_
      refine Go.st (fun _ => XS.icmpNo X0.here hx rfl (hb hby at_146) rfl (teq (by decide : (2 : Int32) = (2 : Int32))).2) ?_
      refine Go.st (fun _ => XS.iload X0.here hx rfl (hb hby at_149) rfl) ?_
      refine Go.st (fun _ => XS.ifYes X0.here hx rfl (pc0 := 151) (pc' := 158) rfl (hb hby at_151) rfl ((if0 _ _).trans (teq (by decide : (0 : Int32) = (0 : Int32))).1) (by decide) (by decide)) ?_
      refine Go.st (fun _ => XS.iconst X0.here hx rfl (hb hby at_158)) ?_
      show Go p e below _ (s₁.setTop (mkF m 159 #[.val (.int p0), .val (.int p1), .val (.int p2), .val (.long q3), .second, .val (.long q4), .second, .val (.int b0v), .val (.int b1v), .val (.int b2v), .val (.int (0 : Int32)), .val (.int (1 : Int32)), .val (.int (2 : Int32)), .val (.int po), .val (.int b2v), .val (.int (b0v + b1v)), .unset, .unset, .unset, .unset, .unset, .unset, .unset, .unset, .unset, .unset, .unset, .unset, .unset, .unset] [(.int (0 : Int32))]))
      refine Go.st (fun _ => XS.istore X0.here hx rfl (hb hby at_159) rfl (l' := #[.val (.int p0), .val (.int p1), .val (.int p2), .val (.long q3), .second, .val (.long q4), .second, .val (.int b0v), .val (.int b1v), .val (.int b2v), .val (.int (0 : Int32)), .val (.int (1 : Int32)), .val (.int (2 : Int32)), .val (.int po), .val (.int b2v), .val (.int (b0v + b1v)), .val (.int (0 : Int32)), .unset, .unset, .unset, .unset, .unset, .unset, .unset, .unset, .unset, .unset, .unset, .unset, .unset]) rfl) ?_
      refine Go.st (fun _ => XS.lconst X0.here hx rfl (hb hby at_161)) ?_
      refine Go.st (fun _ => XS.iload X0.here hx rfl (hb hby at_162) rfl) ?_
      refine Go.st (fun _ => XS.lshl X0.here hx rfl (hb hby at_164) rfl) ?_
      refine Go.st (fun _ => XS.lconst X0.here hx rfl (hb hby at_165)) ?_
      refine Go.st (fun _ => XS.lsub X0.here hx rfl (hb hby at_166) rfl) ?_
      refine Go.st (fun _ => XS.lstore X0.here hx rfl (hb hby at_167) rfl (l' := #[.val (.int p0), .val (.int p1), .val (.int p2), .val (.long q3), .second, .val (.long q4), .second, .val (.int b0v), .val (.int b1v), .val (.int b2v), .val (.int (0 : Int32)), .val (.int (1 : Int32)), .val (.int (2 : Int32)), .val (.int po), .val (.int b2v), .val (.int (b0v + b1v)), .val (.int (0 : Int32)), .val (.long (((1 : Int64) <<< (b2v &&& 0x3f).toInt64) - (1 : Int64))), .second, .unset, .unset, .unset, .unset, .unset, .unset, .unset, .unset, .unset, .unset, .unset]) rfl) ?_
      refine Go.st (fun _ => XS.iconst X0.here hx rfl (hb hby at_169)) ?_
      show Go p e below _ (s₁.setTop (mkF m 170 #[.val (.int p0), .val (.int p1), .val (.int p2), .val (.long q3), .second, .val (.long q4), .second, .val (.int b0v), .val (.int b1v), .val (.int b2v), .val (.int (0 : Int32)), .val (.int (1 : Int32)), .val (.int (2 : Int32)), .val (.int po), .val (.int b2v), .val (.int (b0v + b1v)), .val (.int (0 : Int32)), .val (.long (((1 : Int64) <<< (b2v &&& 0x3f).toInt64) - (1 : Int64))), .second, .unset, .unset, .unset, .unset, .unset, .unset, .unset, .unset, .unset, .unset, .unset] [(.int (3 : Int32))]))
      obtain ⟨T760, h760, k760, X760, e760, E760, A760, st760⟩ := newP X0 hx hZ (hw _ (List.mem_of_getElem? (i := 0) rfl)) e0 (g := (mkF m 170 #[.val (.int p0), .val (.int p1), .val (.int p2), .val (.long q3), .second, .val (.long q4), .second, .val (.int b0v), .val (.int b1v), .val (.int b2v), .val (.int (0 : Int32)), .val (.int (1 : Int32)), .val (.int (2 : Int32)), .val (.int po), .val (.int b2v), .val (.int (b0v + b1v)), .val (.int (0 : Int32)), .val (.long (((1 : Int64) <<< (b2v &&& 0x3f).toInt64) - (1 : Int64))), .second, .unset, .unset, .unset, .unset, .unset, .unset, .unset, .unset, .unset, .unset, .unset] [(.int (3 : Int32))])) rfl (hb hby at_170) rfl (by decide) (cap := 3) (by decide) (by decide) (by decide) (by decide)
      obtain ⟨b760, g760⟩ : ∃ z, z = h0.size := ⟨_, rfl⟩
      rw [← g760] at A760 st760
      refine Go.st st760 ?_
      have gn760 : n0 ≤ b760 := oldGe O0 g760
      have O761 : Old Z n0 h760 := O0.ext E760
      have V_762 : Arv Z h760 b760 k760 .long (3 : Int32) [(.long (0 : Int64)), (.long (0 : Int64)), (.long (0 : Int64))] (.long (0 : Int64)) := (Arv.new A760 (by decide)).pad (pad_rep [] (.long (0 : Int64)) 3)
      show Go p e below _ (T760.setTop (mkF m 172 #[.val (.int p0), .val (.int p1), .val (.int p2), .val (.long q3), .second, .val (.long q4), .second, .val (.int b0v), .val (.int b1v), .val (.int b2v), .val (.int (0 : Int32)), .val (.int (1 : Int32)), .val (.int (2 : Int32)), .val (.int po), .val (.int b2v), .val (.int (b0v + b1v)), .val (.int (0 : Int32)), .val (.long (((1 : Int64) <<< (b2v &&& 0x3f).toInt64) - (1 : Int64))), .second, .unset, .unset, .unset, .unset, .unset, .unset, .unset, .unset, .unset, .unset, .unset] [(.ref b760)]))
      refine Go.st (fun _ => XS.dup X760.here hx rfl (hb hby at_172) rfl rfl) ?_
      refine Go.st (fun _ => XS.iconst X760.here hx rfl (hb hby at_173)) ?_
      refine Go.st (fun _ => XS.lconst X760.here hx rfl (hb hby at_174)) ?_
      refine Go.st (fun _ => XS.iload X760.here hx rfl (hb hby at_175) rfl) ?_
      refine Go.st (fun _ => XS.lshl X760.here hx rfl (hb hby at_177) rfl) ?_
      show Go p e below _ (T760.setTop (mkF m 178 #[.val (.int p0), .val (.int p1), .val (.int p2), .val (.long q3), .second, .val (.long q4), .second, .val (.int b0v), .val (.int b1v), .val (.int b2v), .val (.int (0 : Int32)), .val (.int (1 : Int32)), .val (.int (2 : Int32)), .val (.int po), .val (.int b2v), .val (.int (b0v + b1v)), .val (.int (0 : Int32)), .val (.long (((1 : Int64) <<< (b2v &&& 0x3f).toInt64) - (1 : Int64))), .second, .unset, .unset, .unset, .unset, .unset, .unset, .unset, .unset, .unset, .unset, .unset] [(.long ((1 : Int64) <<< (b0v &&& 0x3f).toInt64)), (.int (0 : Int32)), (.ref b760), (.ref b760)]))
      obtain ⟨cl763, Ar763, qk763, Sz763, Nn763, Ha763, Ga763⟩ := id V_762
      have hin763 : ¬ ((0 : Int32) < 0 ∨ cl763.slots.size ≤ ((0 : Int32) : Int32).toNatClampNeg) := inb_of Sz763 ⟨by decide, by decide⟩
      obtain ⟨T763, h763, X763, e763, W763, st763⟩ := stJ X760 hx hZ e760 Ar763 (j := (0 : Int32)) hin763 (g := (mkF m 178 #[.val (.int p0), .val (.int p1), .val (.int p2), .val (.long q3), .second, .val (.long q4), .second, .val (.int b0v), .val (.int b1v), .val (.int b2v), .val (.int (0 : Int32)), .val (.int (1 : Int32)), .val (.int (2 : Int32)), .val (.int po), .val (.int b2v), .val (.int (b0v + b1v)), .val (.int (0 : Int32)), .val (.long (((1 : Int64) <<< (b2v &&& 0x3f).toInt64) - (1 : Int64))), .second, .unset, .unset, .unset, .unset, .unset, .unset, .unset, .unset, .unset, .unset, .unset] [(.long ((1 : Int64) <<< (b0v &&& 0x3f).toInt64)), (.int (0 : Int32)), (.ref b760), (.ref b760)])) rfl rfl (hb hby at_178)
      refine Go.st st763 ?_
      have O764 : Old Z n0 h763 := O761.wr W763 gn760
      have V_765 : Arv Z h763 b760 k760 .long (3 : Int32) [(.long ((1 : Int64) <<< (b0v &&& 0x3f).toInt64)), (.long (0 : Int64)), (.long (0 : Int64))] (.long (0 : Int64)) := Arv.set Ar763 qk763 Sz763 Nn763 Ha763 Ga763 rfl W763 0 rfl (Nat.le_of_ble_eq_true rfl)
      have N763 := Fr.snoc X763 N0 gn760
      show Go p e below _ (T763.setTop (mkF m 179 #[.val (.int p0), .val (.int p1), .val (.int p2), .val (.long q3), .second, .val (.long q4), .second, .val (.int b0v), .val (.int b1v), .val (.int b2v), .val (.int (0 : Int32)), .val (.int (1 : Int32)), .val (.int (2 : Int32)), .val (.int po), .val (.int b2v), .val (.int (b0v + b1v)), .val (.int (0 : Int32)), .val (.long (((1 : Int64) <<< (b2v &&& 0x3f).toInt64) - (1 : Int64))), .second, .unset, .unset, .unset, .unset, .unset, .unset, .unset, .unset, .unset, .unset, .unset] [(.ref b760)]))
      refine Go.st (fun _ => XS.dup X763.here hx rfl (hb hby at_179) rfl rfl) ?_
      refine Go.st (fun _ => XS.iconst X763.here hx rfl (hb hby at_180)) ?_
      refine Go.st (fun _ => XS.lconst X763.here hx rfl (hb hby at_181)) ?_
      refine Go.st (fun _ => XS.iload X763.here hx rfl (hb hby at_182) rfl) ?_
      refine Go.st (fun _ => XS.lshl X763.here hx rfl (hb hby at_184) rfl) ?_
      show Go p e below _ (T763.setTop (mkF m 185 #[.val (.int p0), .val (.int p1), .val (.int p2), .val (.long q3), .second, .val (.long q4), .second, .val (.int b0v), .val (.int b1v), .val (.int b2v), .val (.int (0 : Int32)), .val (.int (1 : Int32)), .val (.int (2 : Int32)), .val (.int po), .val (.int b2v), .val (.int (b0v + b1v)), .val (.int (0 : Int32)), .val (.long (((1 : Int64) <<< (b2v &&& 0x3f).toInt64) - (1 : Int64))), .second, .unset, .unset, .unset, .unset, .unset, .unset, .unset, .unset, .unset, .unset, .unset] [(.long ((1 : Int64) <<< (b1v &&& 0x3f).toInt64)), (.int (1 : Int32)), (.ref b760), (.ref b760)]))
      obtain ⟨cl766, Ar766, qk766, Sz766, Nn766, Ha766, Ga766⟩ := id V_765
      have hin766 : ¬ ((1 : Int32) < 0 ∨ cl766.slots.size ≤ ((1 : Int32) : Int32).toNatClampNeg) := inb_of Sz766 ⟨by decide, by decide⟩
      obtain ⟨T766, h766, X766, e766, W766, st766⟩ := stJ X763 hx hZ e763 Ar766 (j := (1 : Int32)) hin766 (g := (mkF m 185 #[.val (.int p0), .val (.int p1), .val (.int p2), .val (.long q3), .second, .val (.long q4), .second, .val (.int b0v), .val (.int b1v), .val (.int b2v), .val (.int (0 : Int32)), .val (.int (1 : Int32)), .val (.int (2 : Int32)), .val (.int po), .val (.int b2v), .val (.int (b0v + b1v)), .val (.int (0 : Int32)), .val (.long (((1 : Int64) <<< (b2v &&& 0x3f).toInt64) - (1 : Int64))), .second, .unset, .unset, .unset, .unset, .unset, .unset, .unset, .unset, .unset, .unset, .unset] [(.long ((1 : Int64) <<< (b1v &&& 0x3f).toInt64)), (.int (1 : Int32)), (.ref b760), (.ref b760)])) rfl rfl (hb hby at_185)
      refine Go.st st766 ?_
      have O767 : Old Z n0 h766 := O764.wr W766 gn760
      have V_768 : Arv Z h766 b760 k760 .long (3 : Int32) [(.long ((1 : Int64) <<< (b0v &&& 0x3f).toInt64)), (.long ((1 : Int64) <<< (b1v &&& 0x3f).toInt64)), (.long (0 : Int64))] (.long (0 : Int64)) := Arv.set Ar766 qk766 Sz766 Nn766 Ha766 Ga766 rfl W766 1 rfl (Nat.le_of_ble_eq_true rfl)
      have N766 := Fr.snoc X766 N763 gn760
      show Go p e below _ (T766.setTop (mkF m 186 #[.val (.int p0), .val (.int p1), .val (.int p2), .val (.long q3), .second, .val (.long q4), .second, .val (.int b0v), .val (.int b1v), .val (.int b2v), .val (.int (0 : Int32)), .val (.int (1 : Int32)), .val (.int (2 : Int32)), .val (.int po), .val (.int b2v), .val (.int (b0v + b1v)), .val (.int (0 : Int32)), .val (.long (((1 : Int64) <<< (b2v &&& 0x3f).toInt64) - (1 : Int64))), .second, .unset, .unset, .unset, .unset, .unset, .unset, .unset, .unset, .unset, .unset, .unset] [(.ref b760)]))
      refine Go.st (fun _ => XS.dup X766.here hx rfl (hb hby at_186) rfl rfl) ?_
      refine Go.st (fun _ => XS.iconst X766.here hx rfl (hb hby at_187)) ?_
      refine Go.st (fun _ => XS.lconst X766.here hx rfl (hb hby at_188)) ?_
      refine Go.st (fun _ => XS.iload X766.here hx rfl (hb hby at_189) rfl) ?_
      refine Go.st (fun _ => XS.lshl X766.here hx rfl (hb hby at_191) rfl) ?_
      show Go p e below _ (T766.setTop (mkF m 192 #[.val (.int p0), .val (.int p1), .val (.int p2), .val (.long q3), .second, .val (.long q4), .second, .val (.int b0v), .val (.int b1v), .val (.int b2v), .val (.int (0 : Int32)), .val (.int (1 : Int32)), .val (.int (2 : Int32)), .val (.int po), .val (.int b2v), .val (.int (b0v + b1v)), .val (.int (0 : Int32)), .val (.long (((1 : Int64) <<< (b2v &&& 0x3f).toInt64) - (1 : Int64))), .second, .unset, .unset, .unset, .unset, .unset, .unset, .unset, .unset, .unset, .unset, .unset] [(.long ((1 : Int64) <<< (b2v &&& 0x3f).toInt64)), (.int (2 : Int32)), (.ref b760), (.ref b760)]))
      obtain ⟨cl769, Ar769, qk769, Sz769, Nn769, Ha769, Ga769⟩ := id V_768
      have hin769 : ¬ ((2 : Int32) < 0 ∨ cl769.slots.size ≤ ((2 : Int32) : Int32).toNatClampNeg) := inb_of Sz769 ⟨by decide, by decide⟩
      obtain ⟨T769, h769, X769, e769, W769, st769⟩ := stJ X766 hx hZ e766 Ar769 (j := (2 : Int32)) hin769 (g := (mkF m 192 #[.val (.int p0), .val (.int p1), .val (.int p2), .val (.long q3), .second, .val (.long q4), .second, .val (.int b0v), .val (.int b1v), .val (.int b2v), .val (.int (0 : Int32)), .val (.int (1 : Int32)), .val (.int (2 : Int32)), .val (.int po), .val (.int b2v), .val (.int (b0v + b1v)), .val (.int (0 : Int32)), .val (.long (((1 : Int64) <<< (b2v &&& 0x3f).toInt64) - (1 : Int64))), .second, .unset, .unset, .unset, .unset, .unset, .unset, .unset, .unset, .unset, .unset, .unset] [(.long ((1 : Int64) <<< (b2v &&& 0x3f).toInt64)), (.int (2 : Int32)), (.ref b760), (.ref b760)])) rfl rfl (hb hby at_192)
      refine Go.st st769 ?_
      have O770 : Old Z n0 h769 := O767.wr W769 gn760
      have V_771 : Arv Z h769 b760 k760 .long (3 : Int32) [(.long ((1 : Int64) <<< (b0v &&& 0x3f).toInt64)), (.long ((1 : Int64) <<< (b1v &&& 0x3f).toInt64)), (.long ((1 : Int64) <<< (b2v &&& 0x3f).toInt64))] (.long (0 : Int64)) := Arv.set Ar769 qk769 Sz769 Nn769 Ha769 Ga769 rfl W769 2 rfl (Nat.le_of_ble_eq_true rfl)
      have N769 := Fr.snoc X769 N766 gn760
      show Go p e below _ (T769.setTop (mkF m 193 #[.val (.int p0), .val (.int p1), .val (.int p2), .val (.long q3), .second, .val (.long q4), .second, .val (.int b0v), .val (.int b1v), .val (.int b2v), .val (.int (0 : Int32)), .val (.int (1 : Int32)), .val (.int (2 : Int32)), .val (.int po), .val (.int b2v), .val (.int (b0v + b1v)), .val (.int (0 : Int32)), .val (.long (((1 : Int64) <<< (b2v &&& 0x3f).toInt64) - (1 : Int64))), .second, .unset, .unset, .unset, .unset, .unset, .unset, .unset, .unset, .unset, .unset, .unset] [(.ref b760)]))
      refine Go.st (fun _ => XS.astore X769.here hx rfl (hb hby at_193) rfl rfl (l' := #[.val (.int p0), .val (.int p1), .val (.int p2), .val (.long q3), .second, .val (.long q4), .second, .val (.int b0v), .val (.int b1v), .val (.int b2v), .val (.int (0 : Int32)), .val (.int (1 : Int32)), .val (.int (2 : Int32)), .val (.int po), .val (.int b2v), .val (.int (b0v + b1v)), .val (.int (0 : Int32)), .val (.long (((1 : Int64) <<< (b2v &&& 0x3f).toInt64) - (1 : Int64))), .second, .val (.ref b760), .unset, .unset, .unset, .unset, .unset, .unset, .unset, .unset, .unset, .unset]) rfl) ?_
      show Go p e below _ (T769.setTop (mkF m 195 #[.val (.int p0), .val (.int p1), .val (.int p2), .val (.long q3), .second, .val (.long q4), .second, .val (.int b0v), .val (.int b1v), .val (.int b2v), .val (.int (0 : Int32)), .val (.int (1 : Int32)), .val (.int (2 : Int32)), .val (.int po), .val (.int b2v), .val (.int (b0v + b1v)), .val (.int (0 : Int32)), .val (.long (((1 : Int64) <<< (b2v &&& 0x3f).toInt64) - (1 : Int64))), .second, .val (.ref b760), .unset, .unset, .unset, .unset, .unset, .unset, .unset, .unset, .unset, .unset] []))
      obtain ⟨T772, h772, X772, e772, E772, A772, D772, U772, st772⟩ := newO X769 hx hZ hown (hw _ (List.mem_of_getElem? (i := 1) rfl)) (hw _ (List.mem_of_getElem? (i := 2) rfl)) (hw _ (List.mem_of_getElem? (i := 3) rfl)) e769 (g := (mkF m 195 #[.val (.int p0), .val (.int p1), .val (.int p2), .val (.long q3), .second, .val (.long q4), .second, .val (.int b0v), .val (.int b1v), .val (.int b2v), .val (.int (0 : Int32)), .val (.int (1 : Int32)), .val (.int (2 : Int32)), .val (.int po), .val (.int b2v), .val (.int (b0v + b1v)), .val (.int (0 : Int32)), .val (.long (((1 : Int64) <<< (b2v &&& 0x3f).toInt64) - (1 : Int64))), .second, .val (.ref b760), .unset, .unset, .unset, .unset, .unset, .unset, .unset, .unset, .unset, .unset] [])) rfl (hb hby at_195) (by decide) (by decide)
      obtain ⟨b772, g772⟩ : ∃ z, z = h769.size := ⟨_, rfl⟩
      rw [← g772] at A772 D772 U772 st772
      refine Go.st st772 ?_
      have gn772 : n0 ≤ b772 := oldGe O770 g772
      have ne773 : b760 ≠ b772 := Nat.ne_of_lt (Nat.lt_of_lt_of_le V_771.lt (Nat.le_of_eq g772.symm))
      have O774 : Old Z n0 h772 := O770.ext E772
      have V_775 : Arv Z h772 b760 k760 .long (3 : Int32) [(.long ((1 : Int64) <<< (b0v &&& 0x3f).toInt64)), (.long ((1 : Int64) <<< (b1v &&& 0x3f).toInt64)), (.long ((1 : Int64) <<< (b2v &&& 0x3f).toInt64))] (.long (0 : Int64)) := V_771.ext E772
      have F776 : Fld Z h772 b772 "com/example/gieres/gieres/model/TupleTable" "pages" "[[J" .null := D772 (Or.inl (hw _ (List.mem_of_getElem? (i := 13) rfl))) (ty := (.array (.array .long))) (by decide)
      have F777 : Fld Z h772 b772 "com/example/gieres/gieres/model/TupleTable" "slotBits" "I" (.int (0 : Int32)) := D772 (Or.inl (hw _ (List.mem_of_getElem? (i := 15) rfl))) (ty := .int) (by decide)
      have F778 : Fld Z h772 b772 "com/example/gieres/gieres/model/TupleTable" "slots" "[I" .null := D772 (Or.inl (hw _ (List.mem_of_getElem? (i := 18) rfl))) (ty := (.array .int)) (by decide)
      have F779 : Fld Z h772 b772 "com/example/gieres/gieres/model/TupleTable" "hashes" "[J" .null := D772 (Or.inl (hw _ (List.mem_of_getElem? (i := 20) rfl))) (ty := (.array .long)) (by decide)
      have F780 : Fld Z h772 b772 "com/example/gieres/gieres/model/TupleTable" "found" "[I" .null := D772 (Or.inl (hw _ (List.mem_of_getElem? (i := 22) rfl))) (ty := (.array .int)) (by decide)
      have F781 : Fld Z h772 b772 "com/example/gieres/gieres/model/TupleTable" "word" "[I" .null := D772 (Or.inr (hw _ (List.mem_of_getElem? (i := 24) rfl))) (ty := (.array .int)) (by decide)
      have F782 : Fld Z h772 b772 "com/example/gieres/gieres/model/TupleTable" "shift" "[I" .null := D772 (Or.inr (hw _ (List.mem_of_getElem? (i := 26) rfl))) (ty := (.array .int)) (by decide)
      have F783 : Fld Z h772 b772 "com/example/gieres/gieres/model/TupleTable" "mask" "[J" .null := D772 (Or.inr (hw _ (List.mem_of_getElem? (i := 28) rfl))) (ty := (.array .long)) (by decide)
      have F784 : Fld Z h772 b772 "com/example/gieres/gieres/model/TupleTable" "width" "I" (.int (0 : Int32)) := D772 (Or.inr (hw _ (List.mem_of_getElem? (i := 38) rfl))) (ty := .int) (by decide)
      show Go p e below _ (T772.setTop (mkF m 198 #[.val (.int p0), .val (.int p1), .val (.int p2), .val (.long q3), .second, .val (.long q4), .second, .val (.int b0v), .val (.int b1v), .val (.int b2v), .val (.int (0 : Int32)), .val (.int (1 : Int32)), .val (.int (2 : Int32)), .val (.int po), .val (.int b2v), .val (.int (b0v + b1v)), .val (.int (0 : Int32)), .val (.long (((1 : Int64) <<< (b2v &&& 0x3f).toInt64) - (1 : Int64))), .second, .val (.ref b760), .unset, .unset, .unset, .unset, .unset, .unset, .unset, .unset, .unset, .unset] [(.ref b772)]))
      refine Go.st (fun _ => XS.dup X772.here hx rfl (hb hby at_198) rfl rfl) ?_
      refine Go.st (fun _ => XS.aload X772.here hx rfl (hb hby at_199) rfl rfl) ?_
      show Go p e below _ (T772.setTop (mkF m 201 #[.val (.int p0), .val (.int p1), .val (.int p2), .val (.long q3), .second, .val (.long q4), .second, .val (.int b0v), .val (.int b1v), .val (.int b2v), .val (.int (0 : Int32)), .val (.int (1 : Int32)), .val (.int (2 : Int32)), .val (.int po), .val (.int b2v), .val (.int (b0v + b1v)), .val (.int (0 : Int32)), .val (.long (((1 : Int64) <<< (b2v &&& 0x3f).toInt64) - (1 : Int64))), .second, .val (.ref b760), .unset, .unset, .unset, .unset, .unset, .unset, .unset, .unset, .unset, .unset] [(.ref b760), (.ref b772), (.ref b772)]))
      refine goInit X772 hx hZ (y := (⟨"com/example/gieres/gieres/model/TupleTable", "<init>", "([J)V"⟩ : MethodName)) rfl hown (hw _ (List.mem_of_getElem? (i := 4) rfl)) (hw _ (List.mem_of_getElem? (i := 5) rfl)) (hw _ (List.mem_of_getElem? (i := 3) rfl)) (hw _ (List.mem_of_getElem? (i := 6) rfl)) (by decide) (a := b772) (argsL := [(.ref b760)]) (rest := [(.ref b772)]) e772 (rmTT l Z a0 hw [] b772 b760 k760 ((1 : Int64) <<< (b0v &&& 0x3f).toInt64) ((1 : Int64) <<< (b1v &&& 0x3f).toInt64) ((1 : Int64) <<< (b2v &&& 0x3f).toInt64) h772 n0 O774 A772 F776 F777 F778 F779 F780 F781 F782 F783 F784 gn772 V_775 ne773 (own_t32 L0L) (own_t32 L1L) (own_t32 L2L)) 1 (by decide) (by decide) (by decide) (by decide) (mkF m 201 #[.val (.int p0), .val (.int p1), .val (.int p2), .val (.long q3), .second, .val (.long q4), .second, .val (.int b0v), .val (.int b1v), .val (.int b2v), .val (.int (0 : Int32)), .val (.int (1 : Int32)), .val (.int (2 : Int32)), .val (.int po), .val (.int b2v), .val (.int (b0v + b1v)), .val (.int (0 : Int32)), .val (.long (((1 : Int64) <<< (b2v &&& 0x3f).toInt64) - (1 : Int64))), .second, .val (.ref b760), .unset, .unset, .unset, .unset, .unset, .unset, .unset, .unset, .unset, .unset] [(.ref b760), (.ref b772), (.ref b772)]) rfl (by rw [hml]; rfl) (lenOf pd_2 rfl) rfl (hb hby at_201) (Nat.le_of_eq rfl) ?_
      intro v785 T785 L785 X785 hQ785
      obtain ⟨rfl, M785, K785, c0, c1, c2, w2, s2, wd, aw, as, am, kw, ks, km, B0, B1, B2, LY, Gw, Vw, Gs, Vs, Gm, Vm, Gd⟩ := hQ785
      have N785 := Fr.app N769 M785
      have O786 : Old Z n0 T785.heap := O774.keep K785 (allS gn772 all0)
      have V_787 : Arv Z T785.heap b760 k760 .long (3 : Int32) [(.long ((1 : Int64) <<< (b0v &&& 0x3f).toInt64)), (.long ((1 : Int64) <<< (b1v &&& 0x3f).toInt64)), (.long ((1 : Int64) <<< (b2v &&& 0x3f).toInt64))] (.long (0 : Int64)) := V_775.keep K785 (ninS ne773 nin0)
      have E_788 : Exa Z T785.heap b772 "com/example/gieres/gieres/model/TupleTable" := A772.keep K785
      obtain rfl : b0v = c0 := own_bits_eq L0L B0
      obtain rfl : b1v = c1 := own_bits_eq L1L B1
      obtain rfl : b2v = c2 := own_bits_eq L2L B2
      obtain ⟨rfl, rfl, rfl⟩ := (LY.resolve_right (fun q => hc1 q.1)).2
      have PL := own_pl2 L0L L1L L2L hc1
      show Go p e below _ (T785.setTop (mkF m 204 #[.val (.int p0), .val (.int p1), .val (.int p2), .val (.long q3), .second, .val (.long q4), .second, .val (.int b0v), .val (.int b1v), .val (.int b2v), .val (.int (0 : Int32)), .val (.int (1 : Int32)), .val (.int (2 : Int32)), .val (.int po), .val (.int b2v), .val (.int (b0v + b1v)), .val (.int (0 : Int32)), .val (.long (((1 : Int64) <<< (b2v &&& 0x3f).toInt64) - (1 : Int64))), .second, .val (.ref b760), .unset, .unset, .unset, .unset, .unset, .unset, .unset, .unset, .unset, .unset] [(.ref b772)]))
      refine Go.st (fun _ => XS.astore X785.here hx rfl (hb hby at_204) rfl rfl (l' := #[.val (.int p0), .val (.int p1), .val (.int p2), .val (.long q3), .second, .val (.long q4), .second, .val (.int b0v), .val (.int b1v), .val (.int b2v), .val (.int (0 : Int32)), .val (.int (1 : Int32)), .val (.int (2 : Int32)), .val (.int po), .val (.int b2v), .val (.int (b0v + b1v)), .val (.int (0 : Int32)), .val (.long (((1 : Int64) <<< (b2v &&& 0x3f).toInt64) - (1 : Int64))), .second, .val (.ref b760), .val (.ref b772), .unset, .unset, .unset, .unset, .unset, .unset, .unset, .unset, .unset]) rfl) ?_
      refine Go.st (fun _ => XS.iload X785.here hx rfl (hb hby at_206) rfl) ?_
      refine Go.st (fun _ => XS.ifYes X785.here hx rfl (pc0 := 208) (pc' := 243) rfl (hb hby at_208) rfl ((if0 _ _).trans (teq (by decide : (0 : Int32) = (0 : Int32))).1) (by decide) (by decide)) ?_
      refine Go.st (fun _ => XS.iconst X785.here hx rfl (hb hby at_243)) ?_
      show Go p e below _ (T785.setTop (mkF m 244 #[.val (.int p0), .val (.int p1), .val (.int p2), .val (.long q3), .second, .val (.long q4), .second, .val (.int b0v), .val (.int b1v), .val (.int b2v), .val (.int (0 : Int32)), .val (.int (1 : Int32)), .val (.int (2 : Int32)), .val (.int po), .val (.int b2v), .val (.int (b0v + b1v)), .val (.int (0 : Int32)), .val (.long (((1 : Int64) <<< (b2v &&& 0x3f).toInt64) - (1 : Int64))), .second, .val (.ref b760), .val (.ref b772), .unset, .unset, .unset, .unset, .unset, .unset, .unset, .unset, .unset] [(.int (2 : Int32))]))
      obtain ⟨T789, h789, k789, X789, e789, E789, A789, st789⟩ := newP X785 hx hZ (hw _ (List.mem_of_getElem? (i := 0) rfl)) rfl (g := (mkF m 244 #[.val (.int p0), .val (.int p1), .val (.int p2), .val (.long q3), .second, .val (.long q4), .second, .val (.int b0v), .val (.int b1v), .val (.int b2v), .val (.int (0 : Int32)), .val (.int (1 : Int32)), .val (.int (2 : Int32)), .val (.int po), .val (.int b2v), .val (.int (b0v + b1v)), .val (.int (0 : Int32)), .val (.long (((1 : Int64) <<< (b2v &&& 0x3f).toInt64) - (1 : Int64))), .second, .val (.ref b760), .val (.ref b772), .unset, .unset, .unset, .unset, .unset, .unset, .unset, .unset, .unset] [(.int (2 : Int32))])) rfl (hb hby at_244) rfl (by decide) (cap := 2) (by decide) (by decide) (by decide) (by decide)
      obtain ⟨b789, g789⟩ : ∃ z, z = T785.heap.size := ⟨_, rfl⟩
      rw [← g789] at A789 st789
      refine Go.st st789 ?_
      have gn789 : n0 ≤ b789 := oldGe O786 g789
      have ne790 : b772 ≠ b789 := Nat.ne_of_lt (Nat.lt_of_lt_of_le E_788.lt (Nat.le_of_eq g789.symm))
      have ne791 : aw ≠ b789 := Nat.ne_of_lt (Nat.lt_of_lt_of_le Vw.lt (Nat.le_of_eq g789.symm))
      have ne792 : as ≠ b789 := Nat.ne_of_lt (Nat.lt_of_lt_of_le Vs.lt (Nat.le_of_eq g789.symm))
      have ne793 : am ≠ b789 := Nat.ne_of_lt (Nat.lt_of_lt_of_le Vm.lt (Nat.le_of_eq g789.symm))
      have O794 : Old Z n0 h789 := O786.ext E789
      have E_795 : Exa Z h789 b772 "com/example/gieres/gieres/model/TupleTable" := E_788.ext E789
      have F796 : Fld Z h789 b772 "com/example/gieres/gieres/model/TupleTable" "word" "[I" (.ref aw) := Gw.ext E789
      have V_797 : Arv Z h789 aw kw .int (3 : Int32) [(.int (0 : Int32)), (.int (0 : Int32)), (.int (0 : Int32))] (.int (0 : Int32)) := Vw.ext E789
      have F798 : Fld Z h789 b772 "com/example/gieres/gieres/model/TupleTable" "shift" "[I" (.ref as) := Gs.ext E789
      have V_799 : Arv Z h789 as ks .int (3 : Int32) [(.int (0 : Int32)), (.int b0v), (.int (b0v + b1v))] (.int (0 : Int32)) := Vs.ext E789
      have F800 : Fld Z h789 b772 "com/example/gieres/gieres/model/TupleTable" "mask" "[J" (.ref am) := Gm.ext E789
      have V_801 : Arv Z h789 am km .long (3 : Int32) [(.long (own_mask b0v)), (.long (own_mask b1v)), (.long (own_mask b2v))] (.long (0 : Int64)) := Vm.ext E789
      have F802 : Fld Z h789 b772 "com/example/gieres/gieres/model/TupleTable" "width" "I" (.int (1 : Int32)) := Gd.ext E789
      have V_803 : Arv Z h789 b789 k789 .long (2 : Int32) [(.long (0 : Int64)), (.long (0 : Int64))] (.long (0 : Int64)) := (Arv.new A789 (by decide)).pad (pad_rep [] (.long (0 : Int64)) 2)
      show Go p e below _ (T789.setTop (mkF m 246 #[.val (.int p0), .val (.int p1), .val (.int p2), .val (.long q3), .second, .val (.long q4), .second, .val (.int b0v), .val (.int b1v), .val (.int b2v), .val (.int (0 : Int32)), .val (.int (1 : Int32)), .val (.int (2 : Int32)), .val (.int po), .val (.int b2v), .val (.int (b0v + b1v)), .val (.int (0 : Int32)), .val (.long (((1 : Int64) <<< (b2v &&& 0x3f).toInt64) - (1 : Int64))), .second, .val (.ref b760), .val (.ref b772), .unset, .unset, .unset, .unset, .unset, .unset, .unset, .unset, .unset] [(.ref b789)]))
      refine Go.st (fun _ => XS.dup X789.here hx rfl (hb hby at_246) rfl rfl) ?_
      refine Go.st (fun _ => XS.iconst X789.here hx rfl (hb hby at_247)) ?_
      refine Go.st (fun _ => XS.lloadN X789.here hx rfl (hb hby at_248) rfl) ?_
      show Go p e below _ (T789.setTop (mkF m 249 #[.val (.int p0), .val (.int p1), .val (.int p2), .val (.long q3), .second, .val (.long q4), .second, .val (.int b0v), .val (.int b1v), .val (.int b2v), .val (.int (0 : Int32)), .val (.int (1 : Int32)), .val (.int (2 : Int32)), .val (.int po), .val (.int b2v), .val (.int (b0v + b1v)), .val (.int (0 : Int32)), .val (.long (((1 : Int64) <<< (b2v &&& 0x3f).toInt64) - (1 : Int64))), .second, .val (.ref b760), .val (.ref b772), .unset, .unset, .unset, .unset, .unset, .unset, .unset, .unset, .unset] [(.long q3), (.int (0 : Int32)), (.ref b789), (.ref b789)]))
      obtain ⟨cl804, Ar804, qk804, Sz804, Nn804, Ha804, Ga804⟩ := id V_803
      have hin804 : ¬ ((0 : Int32) < 0 ∨ cl804.slots.size ≤ ((0 : Int32) : Int32).toNatClampNeg) := inb_of Sz804 ⟨by decide, by decide⟩
      obtain ⟨T804, h804, X804, e804, W804, st804⟩ := stJ X789 hx hZ e789 Ar804 (j := (0 : Int32)) hin804 (g := (mkF m 249 #[.val (.int p0), .val (.int p1), .val (.int p2), .val (.long q3), .second, .val (.long q4), .second, .val (.int b0v), .val (.int b1v), .val (.int b2v), .val (.int (0 : Int32)), .val (.int (1 : Int32)), .val (.int (2 : Int32)), .val (.int po), .val (.int b2v), .val (.int (b0v + b1v)), .val (.int (0 : Int32)), .val (.long (((1 : Int64) <<< (b2v &&& 0x3f).toInt64) - (1 : Int64))), .second, .val (.ref b760), .val (.ref b772), .unset, .unset, .unset, .unset, .unset, .unset, .unset, .unset, .unset] [(.long q3), (.int (0 : Int32)), (.ref b789), (.ref b789)])) rfl rfl (hb hby at_249)
      refine Go.st st804 ?_
      have O805 : Old Z n0 h804 := O794.wr W804 gn789
      have E_806 : Exa Z h804 b772 "com/example/gieres/gieres/model/TupleTable" := E_795.wr W804
      have F807 : Fld Z h804 b772 "com/example/gieres/gieres/model/TupleTable" "word" "[I" (.ref aw) := F796.other W804 (Or.inl ne790)
      have V_808 : Arv Z h804 aw kw .int (3 : Int32) [(.int (0 : Int32)), (.int (0 : Int32)), (.int (0 : Int32))] (.int (0 : Int32)) := V_797.other W804 ne791
      have F809 : Fld Z h804 b772 "com/example/gieres/gieres/model/TupleTable" "shift" "[I" (.ref as) := F798.other W804 (Or.inl ne790)
      have V_810 : Arv Z h804 as ks .int (3 : Int32) [(.int (0 : Int32)), (.int b0v), (.int (b0v + b1v))] (.int (0 : Int32)) := V_799.other W804 ne792
      have F811 : Fld Z h804 b772 "com/example/gieres/gieres/model/TupleTable" "mask" "[J" (.ref am) := F800.other W804 (Or.inl ne790)
      have V_812 : Arv Z h804 am km .long (3 : Int32) [(.long (own_mask b0v)), (.long (own_mask b1v)), (.long (own_mask b2v))] (.long (0 : Int64)) := V_801.other W804 ne793
      have F813 : Fld Z h804 b772 "com/example/gieres/gieres/model/TupleTable" "width" "I" (.int (1 : Int32)) := F802.other W804 (Or.inl ne790)
      have V_814 : Arv Z h804 b789 k789 .long (2 : Int32) [(.long q3), (.long (0 : Int64))] (.long (0 : Int64)) := Arv.set Ar804 qk804 Sz804 Nn804 Ha804 Ga804 rfl W804 0 rfl (Nat.le_of_ble_eq_true rfl)
      have N804 := Fr.snoc X804 N785 gn789
      show Go p e below _ (T804.setTop (mkF m 250 #[.val (.int p0), .val (.int p1), .val (.int p2), .val (.long q3), .second, .val (.long q4), .second, .val (.int b0v), .val (.int b1v), .val (.int b2v), .val (.int (0 : Int32)), .val (.int (1 : Int32)), .val (.int (2 : Int32)), .val (.int po), .val (.int b2v), .val (.int (b0v + b1v)), .val (.int (0 : Int32)), .val (.long (((1 : Int64) <<< (b2v &&& 0x3f).toInt64) - (1 : Int64))), .second, .val (.ref b760), .val (.ref b772), .unset, .unset, .unset, .unset, .unset, .unset, .unset, .unset, .unset] [(.ref b789)]))
      refine Go.st (fun _ => XS.dup X804.here hx rfl (hb hby at_250) rfl rfl) ?_
      refine Go.st (fun _ => XS.iconst X804.here hx rfl (hb hby at_251)) ?_
      refine Go.st (fun _ => XS.lload X804.here hx rfl (hb hby at_252) rfl) ?_
      show Go p e below _ (T804.setTop (mkF m 254 #[.val (.int p0), .val (.int p1), .val (.int p2), .val (.long q3), .second, .val (.long q4), .second, .val (.int b0v), .val (.int b1v), .val (.int b2v), .val (.int (0 : Int32)), .val (.int (1 : Int32)), .val (.int (2 : Int32)), .val (.int po), .val (.int b2v), .val (.int (b0v + b1v)), .val (.int (0 : Int32)), .val (.long (((1 : Int64) <<< (b2v &&& 0x3f).toInt64) - (1 : Int64))), .second, .val (.ref b760), .val (.ref b772), .unset, .unset, .unset, .unset, .unset, .unset, .unset, .unset, .unset] [(.long q4), (.int (1 : Int32)), (.ref b789), (.ref b789)]))
      obtain ⟨cl815, Ar815, qk815, Sz815, Nn815, Ha815, Ga815⟩ := id V_814
      have hin815 : ¬ ((1 : Int32) < 0 ∨ cl815.slots.size ≤ ((1 : Int32) : Int32).toNatClampNeg) := inb_of Sz815 ⟨by decide, by decide⟩
      obtain ⟨T815, h815, X815, e815, W815, st815⟩ := stJ X804 hx hZ e804 Ar815 (j := (1 : Int32)) hin815 (g := (mkF m 254 #[.val (.int p0), .val (.int p1), .val (.int p2), .val (.long q3), .second, .val (.long q4), .second, .val (.int b0v), .val (.int b1v), .val (.int b2v), .val (.int (0 : Int32)), .val (.int (1 : Int32)), .val (.int (2 : Int32)), .val (.int po), .val (.int b2v), .val (.int (b0v + b1v)), .val (.int (0 : Int32)), .val (.long (((1 : Int64) <<< (b2v &&& 0x3f).toInt64) - (1 : Int64))), .second, .val (.ref b760), .val (.ref b772), .unset, .unset, .unset, .unset, .unset, .unset, .unset, .unset, .unset] [(.long q4), (.int (1 : Int32)), (.ref b789), (.ref b789)])) rfl rfl (hb hby at_254)
      refine Go.st st815 ?_
      have O816 : Old Z n0 h815 := O805.wr W815 gn789
      have E_817 : Exa Z h815 b772 "com/example/gieres/gieres/model/TupleTable" := E_806.wr W815
      have F818 : Fld Z h815 b772 "com/example/gieres/gieres/model/TupleTable" "word" "[I" (.ref aw) := F807.other W815 (Or.inl ne790)
      have V_819 : Arv Z h815 aw kw .int (3 : Int32) [(.int (0 : Int32)), (.int (0 : Int32)), (.int (0 : Int32))] (.int (0 : Int32)) := V_808.other W815 ne791
      have F820 : Fld Z h815 b772 "com/example/gieres/gieres/model/TupleTable" "shift" "[I" (.ref as) := F809.other W815 (Or.inl ne790)
      have V_821 : Arv Z h815 as ks .int (3 : Int32) [(.int (0 : Int32)), (.int b0v), (.int (b0v + b1v))] (.int (0 : Int32)) := V_810.other W815 ne792
      have F822 : Fld Z h815 b772 "com/example/gieres/gieres/model/TupleTable" "mask" "[J" (.ref am) := F811.other W815 (Or.inl ne790)
      have V_823 : Arv Z h815 am km .long (3 : Int32) [(.long (own_mask b0v)), (.long (own_mask b1v)), (.long (own_mask b2v))] (.long (0 : Int64)) := V_812.other W815 ne793
      have F824 : Fld Z h815 b772 "com/example/gieres/gieres/model/TupleTable" "width" "I" (.int (1 : Int32)) := F813.other W815 (Or.inl ne790)
      have V_825 : Arv Z h815 b789 k789 .long (2 : Int32) [(.long q3), (.long q4)] (.long (0 : Int64)) := Arv.set Ar815 qk815 Sz815 Nn815 Ha815 Ga815 rfl W815 1 rfl (Nat.le_of_ble_eq_true rfl)
      have N815 := Fr.snoc X815 N804 gn789
      show Go p e below _ (T815.setTop (mkF m 255 #[.val (.int p0), .val (.int p1), .val (.int p2), .val (.long q3), .second, .val (.long q4), .second, .val (.int b0v), .val (.int b1v), .val (.int b2v), .val (.int (0 : Int32)), .val (.int (1 : Int32)), .val (.int (2 : Int32)), .val (.int po), .val (.int b2v), .val (.int (b0v + b1v)), .val (.int (0 : Int32)), .val (.long (((1 : Int64) <<< (b2v &&& 0x3f).toInt64) - (1 : Int64))), .second, .val (.ref b760), .val (.ref b772), .unset, .unset, .unset, .unset, .unset, .unset, .unset, .unset, .unset] [(.ref b789)]))
      refine Go.st (fun _ => XS.astore X815.here hx rfl (hb hby at_255) rfl rfl (l' := #[.val (.int p0), .val (.int p1), .val (.int p2), .val (.long q3), .second, .val (.long q4), .second, .val (.int b0v), .val (.int b1v), .val (.int b2v), .val (.int (0 : Int32)), .val (.int (1 : Int32)), .val (.int (2 : Int32)), .val (.int po), .val (.int b2v), .val (.int (b0v + b1v)), .val (.int (0 : Int32)), .val (.long (((1 : Int64) <<< (b2v &&& 0x3f).toInt64) - (1 : Int64))), .second, .val (.ref b760), .val (.ref b772), .val (.ref b789), .unset, .unset, .unset, .unset, .unset, .unset, .unset, .unset]) rfl) ?_
      refine Go.st (fun _ => XS.iload X815.here hx rfl (hb hby at_257) rfl) ?_
      refine Go.st (fun _ => XS.ifYes X815.here hx rfl (pc0 := 259) (pc' := 294) rfl (hb hby at_259) rfl ((if0 _ _).trans (teq (by decide : (0 : Int32) = (0 : Int32))).1) (by decide) (by decide)) ?_
      refine Go.st (fun _ => XS.iconst X815.here hx rfl (hb hby at_294)) ?_
      show Go p e below _ (T815.setTop (mkF m 295 #[.val (.int p0), .val (.int p1), .val (.int p2), .val (.long q3), .second, .val (.long q4), .second, .val (.int b0v), .val (.int b1v), .val (.int b2v), .val (.int (0 : Int32)), .val (.int (1 : Int32)), .val (.int (2 : Int32)), .val (.int po), .val (.int b2v), .val (.int (b0v + b1v)), .val (.int (0 : Int32)), .val (.long (((1 : Int64) <<< (b2v &&& 0x3f).toInt64) - (1 : Int64))), .second, .val (.ref b760), .val (.ref b772), .val (.ref b789), .unset, .unset, .unset, .unset, .unset, .unset, .unset, .unset] [(.int (2 : Int32))]))
      obtain ⟨T826, h826, k826, X826, e826, E826, A826, st826⟩ := newP X815 hx hZ (hw _ (List.mem_of_getElem? (i := 0) rfl)) e815 (g := (mkF m 295 #[.val (.int p0), .val (.int p1), .val (.int p2), .val (.long q3), .second, .val (.long q4), .second, .val (.int b0v), .val (.int b1v), .val (.int b2v), .val (.int (0 : Int32)), .val (.int (1 : Int32)), .val (.int (2 : Int32)), .val (.int po), .val (.int b2v), .val (.int (b0v + b1v)), .val (.int (0 : Int32)), .val (.long (((1 : Int64) <<< (b2v &&& 0x3f).toInt64) - (1 : Int64))), .second, .val (.ref b760), .val (.ref b772), .val (.ref b789), .unset, .unset, .unset, .unset, .unset, .unset, .unset, .unset] [(.int (2 : Int32))])) rfl (hb hby at_295) rfl (by decide) (cap := 2) (by decide) (by decide) (by decide) (by decide)
      obtain ⟨b826, g826⟩ : ∃ z, z = h815.size := ⟨_, rfl⟩
      rw [← g826] at A826 st826
      refine Go.st st826 ?_
      have gn826 : n0 ≤ b826 := oldGe O816 g826
      have ne827 : b772 ≠ b826 := Nat.ne_of_lt (Nat.lt_of_lt_of_le E_817.lt (Nat.le_of_eq g826.symm))
      have ne828 : aw ≠ b826 := Nat.ne_of_lt (Nat.lt_of_lt_of_le V_819.lt (Nat.le_of_eq g826.symm))
      have ne829 : as ≠ b826 := Nat.ne_of_lt (Nat.lt_of_lt_of_le V_821.lt (Nat.le_of_eq g826.symm))
      have ne830 : am ≠ b826 := Nat.ne_of_lt (Nat.lt_of_lt_of_le V_823.lt (Nat.le_of_eq g826.symm))
      have ne831 : b789 ≠ b826 := Nat.ne_of_lt (Nat.lt_of_lt_of_le V_825.lt (Nat.le_of_eq g826.symm))
      have O832 : Old Z n0 h826 := O816.ext E826
      have E_833 : Exa Z h826 b772 "com/example/gieres/gieres/model/TupleTable" := E_817.ext E826
      have F834 : Fld Z h826 b772 "com/example/gieres/gieres/model/TupleTable" "word" "[I" (.ref aw) := F818.ext E826
      have V_835 : Arv Z h826 aw kw .int (3 : Int32) [(.int (0 : Int32)), (.int (0 : Int32)), (.int (0 : Int32))] (.int (0 : Int32)) := V_819.ext E826
      have F836 : Fld Z h826 b772 "com/example/gieres/gieres/model/TupleTable" "shift" "[I" (.ref as) := F820.ext E826
      have V_837 : Arv Z h826 as ks .int (3 : Int32) [(.int (0 : Int32)), (.int b0v), (.int (b0v + b1v))] (.int (0 : Int32)) := V_821.ext E826
      have F838 : Fld Z h826 b772 "com/example/gieres/gieres/model/TupleTable" "mask" "[J" (.ref am) := F822.ext E826
      have V_839 : Arv Z h826 am km .long (3 : Int32) [(.long (own_mask b0v)), (.long (own_mask b1v)), (.long (own_mask b2v))] (.long (0 : Int64)) := V_823.ext E826
      have F840 : Fld Z h826 b772 "com/example/gieres/gieres/model/TupleTable" "width" "I" (.int (1 : Int32)) := F824.ext E826
      have V_841 : Arv Z h826 b789 k789 .long (2 : Int32) [(.long q3), (.long q4)] (.long (0 : Int64)) := V_825.ext E826
      have V_842 : Arv Z h826 b826 k826 .long (2 : Int32) [(.long (0 : Int64)), (.long (0 : Int64))] (.long (0 : Int64)) := (Arv.new A826 (by decide)).pad (pad_rep [] (.long (0 : Int64)) 2)
      show Go p e below _ (T826.setTop (mkF m 297 #[.val (.int p0), .val (.int p1), .val (.int p2), .val (.long q3), .second, .val (.long q4), .second, .val (.int b0v), .val (.int b1v), .val (.int b2v), .val (.int (0 : Int32)), .val (.int (1 : Int32)), .val (.int (2 : Int32)), .val (.int po), .val (.int b2v), .val (.int (b0v + b1v)), .val (.int (0 : Int32)), .val (.long (((1 : Int64) <<< (b2v &&& 0x3f).toInt64) - (1 : Int64))), .second, .val (.ref b760), .val (.ref b772), .val (.ref b789), .unset, .unset, .unset, .unset, .unset, .unset, .unset, .unset] [(.ref b826)]))
      refine Go.st (fun _ => XS.dup X826.here hx rfl (hb hby at_297) rfl rfl) ?_
      refine Go.st (fun _ => XS.iconst X826.here hx rfl (hb hby at_298)) ?_
      refine Go.st (fun _ => XS.lloadN X826.here hx rfl (hb hby at_299) rfl) ?_
      show Go p e below _ (T826.setTop (mkF m 300 #[.val (.int p0), .val (.int p1), .val (.int p2), .val (.long q3), .second, .val (.long q4), .second, .val (.int b0v), .val (.int b1v), .val (.int b2v), .val (.int (0 : Int32)), .val (.int (1 : Int32)), .val (.int (2 : Int32)), .val (.int po), .val (.int b2v), .val (.int (b0v + b1v)), .val (.int (0 : Int32)), .val (.long (((1 : Int64) <<< (b2v &&& 0x3f).toInt64) - (1 : Int64))), .second, .val (.ref b760), .val (.ref b772), .val (.ref b789), .unset, .unset, .unset, .unset, .unset, .unset, .unset, .unset] [(.long q3), (.int (0 : Int32)), (.ref b826), (.ref b826)]))
      obtain ⟨cl843, Ar843, qk843, Sz843, Nn843, Ha843, Ga843⟩ := id V_842
      have hin843 : ¬ ((0 : Int32) < 0 ∨ cl843.slots.size ≤ ((0 : Int32) : Int32).toNatClampNeg) := inb_of Sz843 ⟨by decide, by decide⟩
      obtain ⟨T843, h843, X843, e843, W843, st843⟩ := stJ X826 hx hZ e826 Ar843 (j := (0 : Int32)) hin843 (g := (mkF m 300 #[.val (.int p0), .val (.int p1), .val (.int p2), .val (.long q3), .second, .val (.long q4), .second, .val (.int b0v), .val (.int b1v), .val (.int b2v), .val (.int (0 : Int32)), .val (.int (1 : Int32)), .val (.int (2 : Int32)), .val (.int po), .val (.int b2v), .val (.int (b0v + b1v)), .val (.int (0 : Int32)), .val (.long (((1 : Int64) <<< (b2v &&& 0x3f).toInt64) - (1 : Int64))), .second, .val (.ref b760), .val (.ref b772), .val (.ref b789), .unset, .unset, .unset, .unset, .unset, .unset, .unset, .unset] [(.long q3), (.int (0 : Int32)), (.ref b826), (.ref b826)])) rfl rfl (hb hby at_300)
      refine Go.st st843 ?_
      have O844 : Old Z n0 h843 := O832.wr W843 gn826
      have E_845 : Exa Z h843 b772 "com/example/gieres/gieres/model/TupleTable" := E_833.wr W843
      have F846 : Fld Z h843 b772 "com/example/gieres/gieres/model/TupleTable" "word" "[I" (.ref aw) := F834.other W843 (Or.inl ne827)
      have V_847 : Arv Z h843 aw kw .int (3 : Int32) [(.int (0 : Int32)), (.int (0 : Int32)), (.int (0 : Int32))] (.int (0 : Int32)) := V_835.other W843 ne828
      have F848 : Fld Z h843 b772 "com/example/gieres/gieres/model/TupleTable" "shift" "[I" (.ref as) := F836.other W843 (Or.inl ne827)
      have V_849 : Arv Z h843 as ks .int (3 : Int32) [(.int (0 : Int32)), (.int b0v), (.int (b0v + b1v))] (.int (0 : Int32)) := V_837.other W843 ne829
      have F850 : Fld Z h843 b772 "com/example/gieres/gieres/model/TupleTable" "mask" "[J" (.ref am) := F838.other W843 (Or.inl ne827)
      have V_851 : Arv Z h843 am km .long (3 : Int32) [(.long (own_mask b0v)), (.long (own_mask b1v)), (.long (own_mask b2v))] (.long (0 : Int64)) := V_839.other W843 ne830
      have F852 : Fld Z h843 b772 "com/example/gieres/gieres/model/TupleTable" "width" "I" (.int (1 : Int32)) := F840.other W843 (Or.inl ne827)
      have V_853 : Arv Z h843 b789 k789 .long (2 : Int32) [(.long q3), (.long q4)] (.long (0 : Int64)) := V_841.other W843 ne831
      have V_854 : Arv Z h843 b826 k826 .long (2 : Int32) [(.long q3), (.long (0 : Int64))] (.long (0 : Int64)) := Arv.set Ar843 qk843 Sz843 Nn843 Ha843 Ga843 rfl W843 0 rfl (Nat.le_of_ble_eq_true rfl)
      have N843 := Fr.snoc X843 N815 gn826
      show Go p e below _ (T843.setTop (mkF m 301 #[.val (.int p0), .val (.int p1), .val (.int p2), .val (.long q3), .second, .val (.long q4), .second, .val (.int b0v), .val (.int b1v), .val (.int b2v), .val (.int (0 : Int32)), .val (.int (1 : Int32)), .val (.int (2 : Int32)), .val (.int po), .val (.int b2v), .val (.int (b0v + b1v)), .val (.int (0 : Int32)), .val (.long (((1 : Int64) <<< (b2v &&& 0x3f).toInt64) - (1 : Int64))), .second, .val (.ref b760), .val (.ref b772), .val (.ref b789), .unset, .unset, .unset, .unset, .unset, .unset, .unset, .unset] [(.ref b826)]))
      refine Go.st (fun _ => XS.dup X843.here hx rfl (hb hby at_301) rfl rfl) ?_
      refine Go.st (fun _ => XS.iconst X843.here hx rfl (hb hby at_302)) ?_
      refine Go.st (fun _ => XS.lload X843.here hx rfl (hb hby at_303) rfl) ?_
      show Go p e below _ (T843.setTop (mkF m 305 #[.val (.int p0), .val (.int p1), .val (.int p2), .val (.long q3), .second, .val (.long q4), .second, .val (.int b0v), .val (.int b1v), .val (.int b2v), .val (.int (0 : Int32)), .val (.int (1 : Int32)), .val (.int (2 : Int32)), .val (.int po), .val (.int b2v), .val (.int (b0v + b1v)), .val (.int (0 : Int32)), .val (.long (((1 : Int64) <<< (b2v &&& 0x3f).toInt64) - (1 : Int64))), .second, .val (.ref b760), .val (.ref b772), .val (.ref b789), .unset, .unset, .unset, .unset, .unset, .unset, .unset, .unset] [(.long q4), (.int (1 : Int32)), (.ref b826), (.ref b826)]))
      obtain ⟨cl855, Ar855, qk855, Sz855, Nn855, Ha855, Ga855⟩ := id V_854
      have hin855 : ¬ ((1 : Int32) < 0 ∨ cl855.slots.size ≤ ((1 : Int32) : Int32).toNatClampNeg) := inb_of Sz855 ⟨by decide, by decide⟩
      obtain ⟨T855, h855, X855, e855, W855, st855⟩ := stJ X843 hx hZ e843 Ar855 (j := (1 : Int32)) hin855 (g := (mkF m 305 #[.val (.int p0), .val (.int p1), .val (.int p2), .val (.long q3), .second, .val (.long q4), .second, .val (.int b0v), .val (.int b1v), .val (.int b2v), .val (.int (0 : Int32)), .val (.int (1 : Int32)), .val (.int (2 : Int32)), .val (.int po), .val (.int b2v), .val (.int (b0v + b1v)), .val (.int (0 : Int32)), .val (.long (((1 : Int64) <<< (b2v &&& 0x3f).toInt64) - (1 : Int64))), .second, .val (.ref b760), .val (.ref b772), .val (.ref b789), .unset, .unset, .unset, .unset, .unset, .unset, .unset, .unset] [(.long q4), (.int (1 : Int32)), (.ref b826), (.ref b826)])) rfl rfl (hb hby at_305)
      refine Go.st st855 ?_
      have O856 : Old Z n0 h855 := O844.wr W855 gn826
      have E_857 : Exa Z h855 b772 "com/example/gieres/gieres/model/TupleTable" := E_845.wr W855
      have F858 : Fld Z h855 b772 "com/example/gieres/gieres/model/TupleTable" "word" "[I" (.ref aw) := F846.other W855 (Or.inl ne827)
      have V_859 : Arv Z h855 aw kw .int (3 : Int32) [(.int (0 : Int32)), (.int (0 : Int32)), (.int (0 : Int32))] (.int (0 : Int32)) := V_847.other W855 ne828
      have F860 : Fld Z h855 b772 "com/example/gieres/gieres/model/TupleTable" "shift" "[I" (.ref as) := F848.other W855 (Or.inl ne827)
      have V_861 : Arv Z h855 as ks .int (3 : Int32) [(.int (0 : Int32)), (.int b0v), (.int (b0v + b1v))] (.int (0 : Int32)) := V_849.other W855 ne829
      have F862 : Fld Z h855 b772 "com/example/gieres/gieres/model/TupleTable" "mask" "[J" (.ref am) := F850.other W855 (Or.inl ne827)
      have V_863 : Arv Z h855 am km .long (3 : Int32) [(.long (own_mask b0v)), (.long (own_mask b1v)), (.long (own_mask b2v))] (.long (0 : Int64)) := V_851.other W855 ne830
      have F864 : Fld Z h855 b772 "com/example/gieres/gieres/model/TupleTable" "width" "I" (.int (1 : Int32)) := F852.other W855 (Or.inl ne827)
      have V_865 : Arv Z h855 b789 k789 .long (2 : Int32) [(.long q3), (.long q4)] (.long (0 : Int64)) := V_853.other W855 ne831
      have V_866 : Arv Z h855 b826 k826 .long (2 : Int32) [(.long q3), (.long q4)] (.long (0 : Int64)) := Arv.set Ar855 qk855 Sz855 Nn855 Ha855 Ga855 rfl W855 1 rfl (Nat.le_of_ble_eq_true rfl)
      have N855 := Fr.snoc X855 N843 gn826
      show Go p e below _ (T855.setTop (mkF m 306 #[.val (.int p0), .val (.int p1), .val (.int p2), .val (.long q3), .second, .val (.long q4), .second, .val (.int b0v), .val (.int b1v), .val (.int b2v), .val (.int (0 : Int32)), .val (.int (1 : Int32)), .val (.int (2 : Int32)), .val (.int po), .val (.int b2v), .val (.int (b0v + b1v)), .val (.int (0 : Int32)), .val (.long (((1 : Int64) <<< (b2v &&& 0x3f).toInt64) - (1 : Int64))), .second, .val (.ref b760), .val (.ref b772), .val (.ref b789), .unset, .unset, .unset, .unset, .unset, .unset, .unset, .unset] [(.ref b826)]))
      refine Go.st (fun _ => XS.astore X855.here hx rfl (hb hby at_306) rfl rfl (l' := #[.val (.int p0), .val (.int p1), .val (.int p2), .val (.long q3), .second, .val (.long q4), .second, .val (.int b0v), .val (.int b1v), .val (.int b2v), .val (.int (0 : Int32)), .val (.int (1 : Int32)), .val (.int (2 : Int32)), .val (.int po), .val (.int b2v), .val (.int (b0v + b1v)), .val (.int (0 : Int32)), .val (.long (((1 : Int64) <<< (b2v &&& 0x3f).toInt64) - (1 : Int64))), .second, .val (.ref b760), .val (.ref b772), .val (.ref b789), .val (.ref b826), .unset, .unset, .unset, .unset, .unset, .unset, .unset]) rfl) ?_
      show Go p e below _ (T855.setTop (mkF m 308 #[.val (.int p0), .val (.int p1), .val (.int p2), .val (.long q3), .second, .val (.long q4), .second, .val (.int b0v), .val (.int b1v), .val (.int b2v), .val (.int (0 : Int32)), .val (.int (1 : Int32)), .val (.int (2 : Int32)), .val (.int po), .val (.int b2v), .val (.int (b0v + b1v)), .val (.int (0 : Int32)), .val (.long (((1 : Int64) <<< (b2v &&& 0x3f).toInt64) - (1 : Int64))), .second, .val (.ref b760), .val (.ref b772), .val (.ref b789), .val (.ref b826), .unset, .unset, .unset, .unset, .unset, .unset, .unset] []))
      obtain ⟨f0, hf0⟩ : ∃ f : Nat → Int64, f = fun k => ([q3, q4] : List Int64).getD k 0 := ⟨_, rfl⟩
      have KO : LAr Z h855 b789 2 f0 := LAr_of V_865 rfl (by decide) (fun j hj => by rw [hf0]; rcases j with _ | _ | j <;> first | rfl | omega)
      have KK : LAr Z h855 b826 2 f0 := LAr_of V_866 rfl (by decide) (fun j hj => by rw [hf0]; rcases j with _ | _ | j <;> first | rfl | omega)
      show Go p e below _ (T855.setTop (mkF m 308 #[.val (.int p0), .val (.int p1), .val (.int p2), .val (.long q3), .second, .val (.long q4), .second, .val (.int b0v), .val (.int b1v), .val (.int b2v), .val (.int (0 : Int32)), .val (.int (1 : Int32)), .val (.int (2 : Int32)), .val (.int po), .val (.int b2v), .val (.int (b0v + b1v)), .val (.int (0 : Int32)), .val (.long (((1 : Int64) <<< (b2v &&& 0x3f).toInt64) - (1 : Int64))), .second, .val (.ref b760), .val (.ref b772), .val (.ref b789), .val (.ref b826), .unset, .unset, .unset, .unset, .unset, .unset, .unset] []))
      refine Go.st (fun _ => XS.aload X855.here hx rfl (hb hby at_308) rfl rfl) ?_
      refine Go.st (fun _ => XS.aload X855.here hx rfl (hb hby at_310) rfl rfl) ?_
      refine Go.st (fun _ => XS.iload X855.here hx rfl (hb hby at_312) rfl) ?_
      refine Go.st (fun _ => XS.iload X855.here hx rfl (hb hby at_314) rfl) ?_
      refine Go.st (fun _ => XS.iloadN X855.here hx rfl (hb hby at_316) rfl) ?_
      show Go p e below _ (T855.setTop (mkF m 317 #[.val (.int p0), .val (.int p1), .val (.int p2), .val (.long q3), .second, .val (.long q4), .second, .val (.int b0v), .val (.int b1v), .val (.int b2v), .val (.int (0 : Int32)), .val (.int (1 : Int32)), .val (.int (2 : Int32)), .val (.int po), .val (.int b2v), .val (.int (b0v + b1v)), .val (.int (0 : Int32)), .val (.long (((1 : Int64) <<< (b2v &&& 0x3f).toInt64) - (1 : Int64))), .second, .val (.ref b760), .val (.ref b772), .val (.ref b789), .val (.ref b826), .unset, .unset, .unset, .unset, .unset, .unset, .unset] [(.int p2), (.int (2 : Int32)), (.int po), (.ref b826), (.ref b772)]))
      refine goVirt X855 hx hZ (y := (⟨"com/example/gieres/gieres/model/TupleTable", "setState", "([JIII)V"⟩ : MethodName)) (z := (⟨"com/example/gieres/gieres/model/TupleTable", "setState", "([JIII)V"⟩ : MethodName)) hown (hw _ (List.mem_of_getElem? (i := 39) rfl)) (hw _ (List.mem_of_getElem? (i := 40) rfl)) (notFace_of_selects (args := #[]) (mvT hZ (hw _ (List.mem_of_getElem? (i := 42) rfl)))) (hw _ (List.mem_of_getElem? (i := 42) rfl)) (hw _ (List.mem_of_getElem? (i := 41) rfl)) (hw _ (List.mem_of_getElem? (i := 3) rfl)) (hw _ (List.mem_of_getElem? (i := 43) rfl)) (by decide) (a := b772) (argsL := [(.ref b826), (.int po), (.int (2 : Int32)), (.int p2)]) (rest := []) e855 E_857 (rmS2 l Z a0 hw [] b772 b826 aw as am kw ks km (0 : Int32) (0 : Int32) (0 : Int32) (0 : Int32) b0v (b0v + b1v) (own_mask b0v) (own_mask b1v) (own_mask b2v) 2 f0 po p2 h855 n0 O856 F858 V_859 F860 V_861 F862 V_863 KK gn826 HJ.1 HJ.2) 0 (by decide) (by decide) (by decide) (by decide) (mkF m 317 #[.val (.int p0), .val (.int p1), .val (.int p2), .val (.long q3), .second, .val (.long q4), .second, .val (.int b0v), .val (.int b1v), .val (.int b2v), .val (.int (0 : Int32)), .val (.int (1 : Int32)), .val (.int (2 : Int32)), .val (.int po), .val (.int b2v), .val (.int (b0v + b1v)), .val (.int (0 : Int32)), .val (.long (((1 : Int64) <<< (b2v &&& 0x3f).toInt64) - (1 : Int64))), .second, .val (.ref b760), .val (.ref b772), .val (.ref b789), .val (.ref b826), .unset, .unset, .unset, .unset, .unset, .unset, .unset] [(.int p2), (.int (2 : Int32)), (.int po), (.ref b826), (.ref b772)]) rfl (by rw [hml]; rfl) (lenOf pd_3 rfl) rfl (hb hby at_317) (Nat.le_of_eq rfl) ?_
      intro v867 T867 L867 X867 hQ867
      obtain ⟨rfl, M867, K867, KA867⟩ := hQ867
      have N867 := Fr.app N855 M867
      have O868 : Old Z n0 T867.heap := O856.keep K867 (allS gn826 all0)
      have E_869 : Exa Z T867.heap b772 "com/example/gieres/gieres/model/TupleTable" := E_857.keep K867
      have F870 : Fld Z T867.heap b772 "com/example/gieres/gieres/model/TupleTable" "word" "[I" (.ref aw) := F858.keep K867 (ninS ne827 nin0)
      have V_871 : Arv Z T867.heap aw kw .int (3 : Int32) [(.int (0 : Int32)), (.int (0 : Int32)), (.int (0 : Int32))] (.int (0 : Int32)) := V_859.keep K867 (ninS ne828 nin0)
      have F872 : Fld Z T867.heap b772 "com/example/gieres/gieres/model/TupleTable" "shift" "[I" (.ref as) := F860.keep K867 (ninS ne827 nin0)
      have V_873 : Arv Z T867.heap as ks .int (3 : Int32) [(.int (0 : Int32)), (.int b0v), (.int (b0v + b1v))] (.int (0 : Int32)) := V_861.keep K867 (ninS ne829 nin0)
      have F874 : Fld Z T867.heap b772 "com/example/gieres/gieres/model/TupleTable" "mask" "[J" (.ref am) := F862.keep K867 (ninS ne827 nin0)
      have V_875 : Arv Z T867.heap am km .long (3 : Int32) [(.long (own_mask b0v)), (.long (own_mask b1v)), (.long (own_mask b2v))] (.long (0 : Int64)) := V_863.keep K867 (ninS ne830 nin0)
      have F876 : Fld Z T867.heap b772 "com/example/gieres/gieres/model/TupleTable" "width" "I" (.int (1 : Int32)) := F864.keep K867 (ninS ne827 nin0)
      have VL877 : LAr Z T867.heap b789 2 f0 := LAr_keep KO K867 (ninS ne831 nin0)
      obtain ⟨f1, hf1⟩ : ∃ z, z = (fun k => if k = (po + (0 : Int32)).toNatClampNeg then own_set (f0 (po + (0 : Int32)).toNatClampNeg) (own_mask b2v) (b0v + b1v) p2 else f0 k) := ⟨_, rfl⟩
      rw [← hf1] at KA867
      have GV : own_get (f1 (po + (0 : Int32)).toNatClampNeg) (own_mask b2v) (b0v + b1v) = p2.toInt64 &&& (own_mask b2v) := by rw [hf1]; simp only [if_true]; exact own_gsP PL
      show Go p e below _ (T867.setTop (mkF m 320 #[.val (.int p0), .val (.int p1), .val (.int p2), .val (.long q3), .second, .val (.long q4), .second, .val (.int b0v), .val (.int b1v), .val (.int b2v), .val (.int (0 : Int32)), .val (.int (1 : Int32)), .val (.int (2 : Int32)), .val (.int po), .val (.int b2v), .val (.int (b0v + b1v)), .val (.int (0 : Int32)), .val (.long (((1 : Int64) <<< (b2v &&& 0x3f).toInt64) - (1 : Int64))), .second, .val (.ref b760), .val (.ref b772), .val (.ref b789), .val (.ref b826), .unset, .unset, .unset, .unset, .unset, .unset, .unset] []))
      refine Go.st (fun _ => XS.iload X867.here hx rfl (hb hby at_320) rfl) ?_
      refine Go.st (fun _ => XS.iload X867.here hx rfl (hb hby at_322) rfl) ?_
      refine Go.st (fun _ => XS.iadd X867.here hx rfl (hb hby at_324) rfl) ?_
      refine Go.st (fun _ => XS.istore X867.here hx rfl (hb hby at_325) rfl (l' := #[.val (.int p0), .val (.int p1), .val (.int p2), .val (.long q3), .second, .val (.long q4), .second, .val (.int b0v), .val (.int b1v), .val (.int b2v), .val (.int (0 : Int32)), .val (.int (1 : Int32)), .val (.int (2 : Int32)), .val (.int po), .val (.int b2v), .val (.int (b0v + b1v)), .val (.int (0 : Int32)), .val (.long (((1 : Int64) <<< (b2v &&& 0x3f).toInt64) - (1 : Int64))), .second, .val (.ref b760), .val (.ref b772), .val (.ref b789), .val (.ref b826), .val (.int (po + (0 : Int32))), .unset, .unset, .unset, .unset, .unset, .unset]) rfl) ?_
      refine Go.st (fun _ => XS.iloadN X867.here hx rfl (hb hby at_327) rfl) ?_
      refine Go.st (fun _ => XS.i2l X867.here hx rfl (hb hby at_328) rfl) ?_
      refine Go.st (fun _ => XS.lload X867.here hx rfl (hb hby at_329) rfl) ?_
      refine Go.st (fun _ => XS.land X867.here hx rfl (hb hby at_331) rfl) ?_
      refine Go.st (fun _ => XS.lstore X867.here hx rfl (hb hby at_332) rfl (l' := #[.val (.int p0), .val (.int p1), .val (.int p2), .val (.long q3), .second, .val (.long q4), .second, .val (.int b0v), .val (.int b1v), .val (.int b2v), .val (.int (0 : Int32)), .val (.int (1 : Int32)), .val (.int (2 : Int32)), .val (.int po), .val (.int b2v), .val (.int (b0v + b1v)), .val (.int (0 : Int32)), .val (.long (((1 : Int64) <<< (b2v &&& 0x3f).toInt64) - (1 : Int64))), .second, .val (.ref b760), .val (.ref b772), .val (.ref b789), .val (.ref b826), .val (.int (po + (0 : Int32))), .val (.long ((p2.toInt64) &&& (((1 : Int64) <<< (b2v &&& 0x3f).toInt64) - (1 : Int64)))), .second, .unset, .unset, .unset, .unset]) rfl) ?_
      refine Go.st (fun _ => XS.lload X867.here hx rfl (hb hby at_334) rfl) ?_
      refine Go.st (fun _ => XS.iload X867.here hx rfl (hb hby at_336) rfl) ?_
      refine Go.st (fun _ => XS.lshl X867.here hx rfl (hb hby at_338) rfl) ?_
      show Go p e below _ (T867.setTop (mkF m 339 #[.val (.int p0), .val (.int p1), .val (.int p2), .val (.long q3), .second, .val (.long q4), .second, .val (.int b0v), .val (.int b1v), .val (.int b2v), .val (.int (0 : Int32)), .val (.int (1 : Int32)), .val (.int (2 : Int32)), .val (.int po), .val (.int b2v), .val (.int (b0v + b1v)), .val (.int (0 : Int32)), .val (.long (((1 : Int64) <<< (b2v &&& 0x3f).toInt64) - (1 : Int64))), .second, .val (.ref b760), .val (.ref b772), .val (.ref b789), .val (.ref b826), .val (.int (po + (0 : Int32))), .val (.long ((p2.toInt64) &&& (((1 : Int64) <<< (b2v &&& 0x3f).toInt64) - (1 : Int64)))), .second, .unset, .unset, .unset, .unset] [(.long ((((1 : Int64) <<< (b2v &&& 0x3f).toInt64) - (1 : Int64)) <<< ((b0v + b1v) &&& 0x3f).toInt64))]))
      refine Go.st (fun _ => XS.lstore X867.here hx rfl (hb hby at_339) rfl (l' := #[.val (.int p0), .val (.int p1), .val (.int p2), .val (.long q3), .second, .val (.long q4), .second, .val (.int b0v), .val (.int b1v), .val (.int b2v), .val (.int (0 : Int32)), .val (.int (1 : Int32)), .val (.int (2 : Int32)), .val (.int po), .val (.int b2v), .val (.int (b0v + b1v)), .val (.int (0 : Int32)), .val (.long (((1 : Int64) <<< (b2v &&& 0x3f).toInt64) - (1 : Int64))), .second, .val (.ref b760), .val (.ref b772), .val (.ref b789), .val (.ref b826), .val (.int (po + (0 : Int32))), .val (.long ((p2.toInt64) &&& (((1 : Int64) <<< (b2v &&& 0x3f).toInt64) - (1 : Int64)))), .second, .val (.long ((((1 : Int64) <<< (b2v &&& 0x3f).toInt64) - (1 : Int64)) <<< ((b0v + b1v) &&& 0x3f).toInt64)), .second, .unset, .unset]) rfl) ?_
      refine Go.st (fun _ => XS.aload X867.here hx rfl (hb hby at_341) rfl rfl) ?_
      refine Go.st (fun _ => XS.iload X867.here hx rfl (hb hby at_343) rfl) ?_
      show Go p e below _ (T867.setTop (mkF m 345 #[.val (.int p0), .val (.int p1), .val (.int p2), .val (.long q3), .second, .val (.long q4), .second, .val (.int b0v), .val (.int b1v), .val (.int b2v), .val (.int (0 : Int32)), .val (.int (1 : Int32)), .val (.int (2 : Int32)), .val (.int po), .val (.int b2v), .val (.int (b0v + b1v)), .val (.int (0 : Int32)), .val (.long (((1 : Int64) <<< (b2v &&& 0x3f).toInt64) - (1 : Int64))), .second, .val (.ref b760), .val (.ref b772), .val (.ref b789), .val (.ref b826), .val (.int (po + (0 : Int32))), .val (.long ((p2.toInt64) &&& (((1 : Int64) <<< (b2v &&& 0x3f).toInt64) - (1 : Int64)))), .second, .val (.long ((((1 : Int64) <<< (b2v &&& 0x3f).toInt64) - (1 : Int64)) <<< ((b0v + b1v) &&& 0x3f).toInt64)), .second, .unset, .unset] [(.int (po + (0 : Int32))), (.ref b826)]))
      obtain ⟨cl878, Ar878, hin878, hat878, -⟩ := LAr_in KA867 (j := (po + (0 : Int32))) HJ.1 HJ.2
      refine Go.st (fun _ => X867.laload hx (j := (po + (0 : Int32))) (v := (.long (f1 ((po + (0 : Int32))).toNatClampNeg))) Ar878.1 (State.isArrayOf_alike hZ.alike Ar878.2.1) Ar878.2.2 hin878 hat878 (g := (mkF m 345 #[.val (.int p0), .val (.int p1), .val (.int p2), .val (.long q3), .second, .val (.long q4), .second, .val (.int b0v), .val (.int b1v), .val (.int b2v), .val (.int (0 : Int32)), .val (.int (1 : Int32)), .val (.int (2 : Int32)), .val (.int po), .val (.int b2v), .val (.int (b0v + b1v)), .val (.int (0 : Int32)), .val (.long (((1 : Int64) <<< (b2v &&& 0x3f).toInt64) - (1 : Int64))), .second, .val (.ref b760), .val (.ref b772), .val (.ref b789), .val (.ref b826), .val (.int (po + (0 : Int32))), .val (.long ((p2.toInt64) &&& (((1 : Int64) <<< (b2v &&& 0x3f).toInt64) - (1 : Int64)))), .second, .val (.long ((((1 : Int64) <<< (b2v &&& 0x3f).toInt64) - (1 : Int64)) <<< ((b0v + b1v) &&& 0x3f).toInt64)), .second, .unset, .unset] [(.int (po + (0 : Int32))), (.ref b826)])) rfl rfl (hb hby at_345) _) ?_
      show Go p e below _ (T867.setTop (mkF m 346 #[.val (.int p0), .val (.int p1), .val (.int p2), .val (.long q3), .second, .val (.long q4), .second, .val (.int b0v), .val (.int b1v), .val (.int b2v), .val (.int (0 : Int32)), .val (.int (1 : Int32)), .val (.int (2 : Int32)), .val (.int po), .val (.int b2v), .val (.int (b0v + b1v)), .val (.int (0 : Int32)), .val (.long (((1 : Int64) <<< (b2v &&& 0x3f).toInt64) - (1 : Int64))), .second, .val (.ref b760), .val (.ref b772), .val (.ref b789), .val (.ref b826), .val (.int (po + (0 : Int32))), .val (.long ((p2.toInt64) &&& (((1 : Int64) <<< (b2v &&& 0x3f).toInt64) - (1 : Int64)))), .second, .val (.long ((((1 : Int64) <<< (b2v &&& 0x3f).toInt64) - (1 : Int64)) <<< ((b0v + b1v) &&& 0x3f).toInt64)), .second, .unset, .unset] [(.long (f1 ((po + (0 : Int32))).toNatClampNeg))]))
      refine Go.st (fun _ => XS.iload X867.here hx rfl (hb hby at_346) rfl) ?_
      refine Go.st (fun _ => XS.lushr X867.here hx rfl (hb hby at_348) rfl) ?_
      refine Go.st (fun _ => XS.lload X867.here hx rfl (hb hby at_349) rfl) ?_
      refine Go.st (fun _ => XS.land X867.here hx rfl (hb hby at_351) rfl) ?_
      refine Go.st (fun _ => XS.lload X867.here hx rfl (hb hby at_352) rfl) ?_
      refine Go.st (fun _ => XS.lcmp X867.here hx rfl (hb hby at_354) rfl) ?_
      refine Go.st (fun _ => XS.ifNo X867.here hx rfl (hb hby at_355) rfl ((if0 _ _).trans (teq ((lw_eq _ _).mpr GV)).2)) ?_
      refine Go.st (fun _ => XS.aload X867.here hx rfl (hb hby at_358) rfl rfl) ?_
      refine Go.st (fun _ => XS.aload X867.here hx rfl (hb hby at_360) rfl rfl) ?_
      refine Go.st (fun _ => XS.iload X867.here hx rfl (hb hby at_362) rfl) ?_
      refine Go.st (fun _ => XS.iload X867.here hx rfl (hb hby at_364) rfl) ?_
      show Go p e below _ (T867.setTop (mkF m 366 #[.val (.int p0), .val (.int p1), .val (.int p2), .val (.long q3), .second, .val (.long q4), .second, .val (.int b0v), .val (.int b1v), .val (.int b2v), .val (.int (0 : Int32)), .val (.int (1 : Int32)), .val (.int (2 : Int32)), .val (.int po), .val (.int b2v), .val (.int (b0v + b1v)), .val (.int (0 : Int32)), .val (.long (((1 : Int64) <<< (b2v &&& 0x3f).toInt64) - (1 : Int64))), .second, .val (.ref b760), .val (.ref b772), .val (.ref b789), .val (.ref b826), .val (.int (po + (0 : Int32))), .val (.long ((p2.toInt64) &&& (((1 : Int64) <<< (b2v &&& 0x3f).toInt64) - (1 : Int64)))), .second, .val (.long ((((1 : Int64) <<< (b2v &&& 0x3f).toInt64) - (1 : Int64)) <<< ((b0v + b1v) &&& 0x3f).toInt64)), .second, .unset, .unset] [(.int (2 : Int32)), (.int po), (.ref b826), (.ref b772)]))
      refine goVirt X867 hx hZ (y := (⟨"com/example/gieres/gieres/model/TupleTable", "state", "([JII)I"⟩ : MethodName)) (z := (⟨"com/example/gieres/gieres/model/TupleTable", "state", "([JII)I"⟩ : MethodName)) hown (hw _ (List.mem_of_getElem? (i := 45) rfl)) (hw _ (List.mem_of_getElem? (i := 46) rfl)) (notFace_of_selects (args := #[]) (mvT hZ (hw _ (List.mem_of_getElem? (i := 48) rfl)))) (hw _ (List.mem_of_getElem? (i := 48) rfl)) (hw _ (List.mem_of_getElem? (i := 47) rfl)) (hw _ (List.mem_of_getElem? (i := 3) rfl)) (hw _ (List.mem_of_getElem? (i := 49) rfl)) (by decide) (a := b772) (argsL := [(.ref b826), (.int po), (.int (2 : Int32))]) (rest := []) rfl E_869 (rmG2 l Z a0 hw [] b772 b826 aw as am kw ks km (0 : Int32) (0 : Int32) (0 : Int32) (0 : Int32) b0v (b0v + b1v) (own_mask b0v) (own_mask b1v) (own_mask b2v) 2 f1 po T867.heap n0 O868 F870 V_871 F872 V_873 F874 V_875 KA867 HJ.1 HJ.2) 0 (by decide) (by decide) (by decide) (by decide) (mkF m 366 #[.val (.int p0), .val (.int p1), .val (.int p2), .val (.long q3), .second, .val (.long q4), .second, .val (.int b0v), .val (.int b1v), .val (.int b2v), .val (.int (0 : Int32)), .val (.int (1 : Int32)), .val (.int (2 : Int32)), .val (.int po), .val (.int b2v), .val (.int (b0v + b1v)), .val (.int (0 : Int32)), .val (.long (((1 : Int64) <<< (b2v &&& 0x3f).toInt64) - (1 : Int64))), .second, .val (.ref b760), .val (.ref b772), .val (.ref b789), .val (.ref b826), .val (.int (po + (0 : Int32))), .val (.long ((p2.toInt64) &&& (((1 : Int64) <<< (b2v &&& 0x3f).toInt64) - (1 : Int64)))), .second, .val (.long ((((1 : Int64) <<< (b2v &&& 0x3f).toInt64) - (1 : Int64)) <<< ((b0v + b1v) &&& 0x3f).toInt64)), .second, .unset, .unset] [(.int (2 : Int32)), (.int po), (.ref b826), (.ref b772)]) rfl (by rw [hml]; rfl) (lenOf pd_4 rfl) rfl (hb hby at_366) (Nat.le_of_eq rfl) ?_
      intro v879 T879 L879 X879 hQ879
      obtain ⟨rfl, M879, e879⟩ := hQ879
      have N879 := Fr.app N867 M879
      show Go p e below _ (T879.setTop (mkF m 369 #[.val (.int p0), .val (.int p1), .val (.int p2), .val (.long q3), .second, .val (.long q4), .second, .val (.int b0v), .val (.int b1v), .val (.int b2v), .val (.int (0 : Int32)), .val (.int (1 : Int32)), .val (.int (2 : Int32)), .val (.int po), .val (.int b2v), .val (.int (b0v + b1v)), .val (.int (0 : Int32)), .val (.long (((1 : Int64) <<< (b2v &&& 0x3f).toInt64) - (1 : Int64))), .second, .val (.ref b760), .val (.ref b772), .val (.ref b789), .val (.ref b826), .val (.int (po + (0 : Int32))), .val (.long ((p2.toInt64) &&& (((1 : Int64) <<< (b2v &&& 0x3f).toInt64) - (1 : Int64)))), .second, .val (.long ((((1 : Int64) <<< (b2v &&& 0x3f).toInt64) - (1 : Int64)) <<< ((b0v + b1v) &&& 0x3f).toInt64)), .second, .unset, .unset] [(.int ((own_get (f1 (po + (0 : Int32)).toNatClampNeg) (own_mask b2v) (b0v + b1v)).toInt32))]))
      refine Go.st (fun _ => XS.lload X879.here hx rfl (hb hby at_369) rfl) ?_
      refine Go.st (fun _ => XS.l2i X879.here hx rfl (hb hby at_371) rfl) ?_
      refine Go.st (fun _ => XS.icmpNo X879.here hx rfl (hb hby at_372) rfl (teq (congrArg Int64.toInt32 GV)).2) ?_
      refine Go.st (fun _ => XS.iconst X879.here hx rfl (hb hby at_375)) ?_
      refine Go.st (fun _ => XS.goto X879.here hx rfl (pc0 := 376) (pc' := 380) rfl (hb hby at_376) (by decide) (by decide)) ?_
      refine Go.st (fun _ => XS.istore X879.here hx rfl (hb hby at_380) rfl (l' := #[.val (.int p0), .val (.int p1), .val (.int p2), .val (.long q3), .second, .val (.long q4), .second, .val (.int b0v), .val (.int b1v), .val (.int b2v), .val (.int (0 : Int32)), .val (.int (1 : Int32)), .val (.int (2 : Int32)), .val (.int po), .val (.int b2v), .val (.int (b0v + b1v)), .val (.int (0 : Int32)), .val (.long (((1 : Int64) <<< (b2v &&& 0x3f).toInt64) - (1 : Int64))), .second, .val (.ref b760), .val (.ref b772), .val (.ref b789), .val (.ref b826), .val (.int (po + (0 : Int32))), .val (.long ((p2.toInt64) &&& (((1 : Int64) <<< (b2v &&& 0x3f).toInt64) - (1 : Int64)))), .second, .val (.long ((((1 : Int64) <<< (b2v &&& 0x3f).toInt64) - (1 : Int64)) <<< ((b0v + b1v) &&& 0x3f).toInt64)), .second, .val (.int (1 : Int32)), .unset]) rfl) ?_
      refine Go.st (fun _ => XS.aload X879.here hx rfl (hb hby at_382) rfl rfl) ?_
      refine Go.st (fun _ => XS.aload X879.here hx rfl (hb hby at_384) rfl rfl) ?_
      refine Go.st (fun _ => XS.iconst X879.here hx rfl (hb hby at_386)) ?_
      refine Go.st (fun _ => XS.iload X879.here hx rfl (hb hby at_387) rfl) ?_
      refine Go.st (fun _ => XS.lload X879.here hx rfl (hb hby at_389) rfl) ?_
      show Go p e below _ (T879.setTop (mkF m 391 #[.val (.int p0), .val (.int p1), .val (.int p2), .val (.long q3), .second, .val (.long q4), .second, .val (.int b0v), .val (.int b1v), .val (.int b2v), .val (.int (0 : Int32)), .val (.int (1 : Int32)), .val (.int (2 : Int32)), .val (.int po), .val (.int b2v), .val (.int (b0v + b1v)), .val (.int (0 : Int32)), .val (.long (((1 : Int64) <<< (b2v &&& 0x3f).toInt64) - (1 : Int64))), .second, .val (.ref b760), .val (.ref b772), .val (.ref b789), .val (.ref b826), .val (.int (po + (0 : Int32))), .val (.long ((p2.toInt64) &&& (((1 : Int64) <<< (b2v &&& 0x3f).toInt64) - (1 : Int64)))), .second, .val (.long ((((1 : Int64) <<< (b2v &&& 0x3f).toInt64) - (1 : Int64)) <<< ((b0v + b1v) &&& 0x3f).toInt64)), .second, .val (.int (1 : Int32)), .unset] [(.long ((((1 : Int64) <<< (b2v &&& 0x3f).toInt64) - (1 : Int64)) <<< ((b0v + b1v) &&& 0x3f).toInt64)), (.int (po + (0 : Int32))), (.int (0 : Int32)), (.ref b789), (.ref b826)]))
      refine goCallS X879 hx hZ (y := (⟨"com/example/gieres/gieres/model/TupleTableSetStatePinLaw", "same", "([J[JIIJ)Z"⟩ : MethodName)) hown (hw _ (List.mem_of_getElem? (i := 50) rfl)) (hw _ (List.mem_of_getElem? (i := 51) rfl)) (hw _ (List.mem_of_getElem? (i := 52) rfl)) (hw _ (List.mem_of_getElem? (i := 53) rfl)) (by decide) (argsL := [(.ref b826), (.ref b789), (.int (0 : Int32)), (.int (po + (0 : Int32))), (.long ((((1 : Int64) <<< (b2v &&& 0x3f).toInt64) - (1 : Int64)) <<< ((b0v + b1v) &&& 0x3f).toInt64))]) (rest := []) e879 (rmSame l Z a0 hw [] b826 b789 (0 : Int32) (po + (0 : Int32)) (2 : Int32) ((((1 : Int64) <<< (b2v &&& 0x3f).toInt64) - (1 : Int64)) <<< ((b0v + b1v) &&& 0x3f).toInt64) 2 f1 f0 T867.heap n0 O868 KA867 VL877 rfl rfl (by decide) (own_same1 PL hf1) (own_same2 (by decide) HJ.1 hf1)) 0 (by decide) (by decide) (by decide) (by decide) (mkF m 391 #[.val (.int p0), .val (.int p1), .val (.int p2), .val (.long q3), .second, .val (.long q4), .second, .val (.int b0v), .val (.int b1v), .val (.int b2v), .val (.int (0 : Int32)), .val (.int (1 : Int32)), .val (.int (2 : Int32)), .val (.int po), .val (.int b2v), .val (.int (b0v + b1v)), .val (.int (0 : Int32)), .val (.long (((1 : Int64) <<< (b2v &&& 0x3f).toInt64) - (1 : Int64))), .second, .val (.ref b760), .val (.ref b772), .val (.ref b789), .val (.ref b826), .val (.int (po + (0 : Int32))), .val (.long ((p2.toInt64) &&& (((1 : Int64) <<< (b2v &&& 0x3f).toInt64) - (1 : Int64)))), .second, .val (.long ((((1 : Int64) <<< (b2v &&& 0x3f).toInt64) - (1 : Int64)) <<< ((b0v + b1v) &&& 0x3f).toInt64)), .second, .val (.int (1 : Int32)), .unset] [(.long ((((1 : Int64) <<< (b2v &&& 0x3f).toInt64) - (1 : Int64)) <<< ((b0v + b1v) &&& 0x3f).toInt64)), (.int (po + (0 : Int32))), (.int (0 : Int32)), (.ref b789), (.ref b826)]) rfl (by rw [hml]; rfl) (lenOf pd_5 rfl) rfl (hb hby at_391) (Nat.le_of_eq rfl) ?_
      intro v880 T880 L880 X880 hQ880
      obtain ⟨rfl, M880, e880⟩ := hQ880
      have N880 := Fr.app N879 M880
      show Go p e below _ (T880.setTop (mkF m 394 #[.val (.int p0), .val (.int p1), .val (.int p2), .val (.long q3), .second, .val (.long q4), .second, .val (.int b0v), .val (.int b1v), .val (.int b2v), .val (.int (0 : Int32)), .val (.int (1 : Int32)), .val (.int (2 : Int32)), .val (.int po), .val (.int b2v), .val (.int (b0v + b1v)), .val (.int (0 : Int32)), .val (.long (((1 : Int64) <<< (b2v &&& 0x3f).toInt64) - (1 : Int64))), .second, .val (.ref b760), .val (.ref b772), .val (.ref b789), .val (.ref b826), .val (.int (po + (0 : Int32))), .val (.long ((p2.toInt64) &&& (((1 : Int64) <<< (b2v &&& 0x3f).toInt64) - (1 : Int64)))), .second, .val (.long ((((1 : Int64) <<< (b2v &&& 0x3f).toInt64) - (1 : Int64)) <<< ((b0v + b1v) &&& 0x3f).toInt64)), .second, .val (.int (1 : Int32)), .unset] [(.int (1 : Int32))]))
      refine Go.st (fun _ => XS.ifNo X880.here hx rfl (hb hby at_394) rfl ((if0 _ _).trans (feq (by decide : ¬ ((1 : Int32) = (0 : Int32)))).1)) ?_
      refine Go.st (fun _ => XS.aload X880.here hx rfl (hb hby at_397) rfl rfl) ?_
      refine Go.st (fun _ => XS.aload X880.here hx rfl (hb hby at_399) rfl rfl) ?_
      refine Go.st (fun _ => XS.iconst X880.here hx rfl (hb hby at_401)) ?_
      refine Go.st (fun _ => XS.iload X880.here hx rfl (hb hby at_402) rfl) ?_
      refine Go.st (fun _ => XS.lload X880.here hx rfl (hb hby at_404) rfl) ?_
      show Go p e below _ (T880.setTop (mkF m 406 #[.val (.int p0), .val (.int p1), .val (.int p2), .val (.long q3), .second, .val (.long q4), .second, .val (.int b0v), .val (.int b1v), .val (.int b2v), .val (.int (0 : Int32)), .val (.int (1 : Int32)), .val (.int (2 : Int32)), .val (.int po), .val (.int b2v), .val (.int (b0v + b1v)), .val (.int (0 : Int32)), .val (.long (((1 : Int64) <<< (b2v &&& 0x3f).toInt64) - (1 : Int64))), .second, .val (.ref b760), .val (.ref b772), .val (.ref b789), .val (.ref b826), .val (.int (po + (0 : Int32))), .val (.long ((p2.toInt64) &&& (((1 : Int64) <<< (b2v &&& 0x3f).toInt64) - (1 : Int64)))), .second, .val (.long ((((1 : Int64) <<< (b2v &&& 0x3f).toInt64) - (1 : Int64)) <<< ((b0v + b1v) &&& 0x3f).toInt64)), .second, .val (.int (1 : Int32)), .unset] [(.long ((((1 : Int64) <<< (b2v &&& 0x3f).toInt64) - (1 : Int64)) <<< ((b0v + b1v) &&& 0x3f).toInt64)), (.int (po + (0 : Int32))), (.int (1 : Int32)), (.ref b789), (.ref b826)]))
      refine goCallS X880 hx hZ (y := (⟨"com/example/gieres/gieres/model/TupleTableSetStatePinLaw", "same", "([J[JIIJ)Z"⟩ : MethodName)) hown (hw _ (List.mem_of_getElem? (i := 50) rfl)) (hw _ (List.mem_of_getElem? (i := 51) rfl)) (hw _ (List.mem_of_getElem? (i := 52) rfl)) (hw _ (List.mem_of_getElem? (i := 53) rfl)) (by decide) (argsL := [(.ref b826), (.ref b789), (.int (1 : Int32)), (.int (po + (0 : Int32))), (.long ((((1 : Int64) <<< (b2v &&& 0x3f).toInt64) - (1 : Int64)) <<< ((b0v + b1v) &&& 0x3f).toInt64))]) (rest := []) e880 (rmSame l Z a0 hw [] b826 b789 (1 : Int32) (po + (0 : Int32)) (2 : Int32) ((((1 : Int64) <<< (b2v &&& 0x3f).toInt64) - (1 : Int64)) <<< ((b0v + b1v) &&& 0x3f).toInt64) 2 f1 f0 T867.heap n0 O868 KA867 VL877 rfl rfl (by decide) (own_same1 PL hf1) (own_same2 (by decide) HJ.1 hf1)) 0 (by decide) (by decide) (by decide) (by decide) (mkF m 406 #[.val (.int p0), .val (.int p1), .val (.int p2), .val (.long q3), .second, .val (.long q4), .second, .val (.int b0v), .val (.int b1v), .val (.int b2v), .val (.int (0 : Int32)), .val (.int (1 : Int32)), .val (.int (2 : Int32)), .val (.int po), .val (.int b2v), .val (.int (b0v + b1v)), .val (.int (0 : Int32)), .val (.long (((1 : Int64) <<< (b2v &&& 0x3f).toInt64) - (1 : Int64))), .second, .val (.ref b760), .val (.ref b772), .val (.ref b789), .val (.ref b826), .val (.int (po + (0 : Int32))), .val (.long ((p2.toInt64) &&& (((1 : Int64) <<< (b2v &&& 0x3f).toInt64) - (1 : Int64)))), .second, .val (.long ((((1 : Int64) <<< (b2v &&& 0x3f).toInt64) - (1 : Int64)) <<< ((b0v + b1v) &&& 0x3f).toInt64)), .second, .val (.int (1 : Int32)), .unset] [(.long ((((1 : Int64) <<< (b2v &&& 0x3f).toInt64) - (1 : Int64)) <<< ((b0v + b1v) &&& 0x3f).toInt64)), (.int (po + (0 : Int32))), (.int (1 : Int32)), (.ref b789), (.ref b826)]) rfl (by rw [hml]; rfl) (lenOf pd_5 rfl) rfl (hb hby at_406) (Nat.le_of_eq rfl) ?_
      intro v881 T881 L881 X881 hQ881
      obtain ⟨rfl, M881, e881⟩ := hQ881
      have N881 := Fr.app N880 M881
      show Go p e below _ (T881.setTop (mkF m 409 #[.val (.int p0), .val (.int p1), .val (.int p2), .val (.long q3), .second, .val (.long q4), .second, .val (.int b0v), .val (.int b1v), .val (.int b2v), .val (.int (0 : Int32)), .val (.int (1 : Int32)), .val (.int (2 : Int32)), .val (.int po), .val (.int b2v), .val (.int (b0v + b1v)), .val (.int (0 : Int32)), .val (.long (((1 : Int64) <<< (b2v &&& 0x3f).toInt64) - (1 : Int64))), .second, .val (.ref b760), .val (.ref b772), .val (.ref b789), .val (.ref b826), .val (.int (po + (0 : Int32))), .val (.long ((p2.toInt64) &&& (((1 : Int64) <<< (b2v &&& 0x3f).toInt64) - (1 : Int64)))), .second, .val (.long ((((1 : Int64) <<< (b2v &&& 0x3f).toInt64) - (1 : Int64)) <<< ((b0v + b1v) &&& 0x3f).toInt64)), .second, .val (.int (1 : Int32)), .unset] [(.int (1 : Int32))]))
      refine Go.st (fun _ => XS.ifNo X881.here hx rfl (hb hby at_409) rfl ((if0 _ _).trans (feq (by decide : ¬ ((1 : Int32) = (0 : Int32)))).1)) ?_
      refine Go.st (fun _ => XS.aload X881.here hx rfl (hb hby at_412) rfl rfl) ?_
      refine Go.st (fun _ => XS.aload X881.here hx rfl (hb hby at_414) rfl rfl) ?_
      refine Go.st (fun _ => XS.iconst X881.here hx rfl (hb hby at_416)) ?_
      refine Go.st (fun _ => XS.iload X881.here hx rfl (hb hby at_417) rfl) ?_
      refine Go.st (fun _ => XS.lload X881.here hx rfl (hb hby at_419) rfl) ?_
      show Go p e below _ (T881.setTop (mkF m 421 #[.val (.int p0), .val (.int p1), .val (.int p2), .val (.long q3), .second, .val (.long q4), .second, .val (.int b0v), .val (.int b1v), .val (.int b2v), .val (.int (0 : Int32)), .val (.int (1 : Int32)), .val (.int (2 : Int32)), .val (.int po), .val (.int b2v), .val (.int (b0v + b1v)), .val (.int (0 : Int32)), .val (.long (((1 : Int64) <<< (b2v &&& 0x3f).toInt64) - (1 : Int64))), .second, .val (.ref b760), .val (.ref b772), .val (.ref b789), .val (.ref b826), .val (.int (po + (0 : Int32))), .val (.long ((p2.toInt64) &&& (((1 : Int64) <<< (b2v &&& 0x3f).toInt64) - (1 : Int64)))), .second, .val (.long ((((1 : Int64) <<< (b2v &&& 0x3f).toInt64) - (1 : Int64)) <<< ((b0v + b1v) &&& 0x3f).toInt64)), .second, .val (.int (1 : Int32)), .unset] [(.long ((((1 : Int64) <<< (b2v &&& 0x3f).toInt64) - (1 : Int64)) <<< ((b0v + b1v) &&& 0x3f).toInt64)), (.int (po + (0 : Int32))), (.int (2 : Int32)), (.ref b789), (.ref b826)]))
      refine goCallS X881 hx hZ (y := (⟨"com/example/gieres/gieres/model/TupleTableSetStatePinLaw", "same", "([J[JIIJ)Z"⟩ : MethodName)) hown (hw _ (List.mem_of_getElem? (i := 50) rfl)) (hw _ (List.mem_of_getElem? (i := 51) rfl)) (hw _ (List.mem_of_getElem? (i := 52) rfl)) (hw _ (List.mem_of_getElem? (i := 53) rfl)) (by decide) (argsL := [(.ref b826), (.ref b789), (.int (2 : Int32)), (.int (po + (0 : Int32))), (.long ((((1 : Int64) <<< (b2v &&& 0x3f).toInt64) - (1 : Int64)) <<< ((b0v + b1v) &&& 0x3f).toInt64))]) (rest := []) e881 (rmSame l Z a0 hw [] b826 b789 (2 : Int32) (po + (0 : Int32)) (2 : Int32) ((((1 : Int64) <<< (b2v &&& 0x3f).toInt64) - (1 : Int64)) <<< ((b0v + b1v) &&& 0x3f).toInt64) 2 f1 f0 T867.heap n0 O868 KA867 VL877 rfl rfl (by decide) (own_same1 PL hf1) (own_same2 (by decide) HJ.1 hf1)) 0 (by decide) (by decide) (by decide) (by decide) (mkF m 421 #[.val (.int p0), .val (.int p1), .val (.int p2), .val (.long q3), .second, .val (.long q4), .second, .val (.int b0v), .val (.int b1v), .val (.int b2v), .val (.int (0 : Int32)), .val (.int (1 : Int32)), .val (.int (2 : Int32)), .val (.int po), .val (.int b2v), .val (.int (b0v + b1v)), .val (.int (0 : Int32)), .val (.long (((1 : Int64) <<< (b2v &&& 0x3f).toInt64) - (1 : Int64))), .second, .val (.ref b760), .val (.ref b772), .val (.ref b789), .val (.ref b826), .val (.int (po + (0 : Int32))), .val (.long ((p2.toInt64) &&& (((1 : Int64) <<< (b2v &&& 0x3f).toInt64) - (1 : Int64)))), .second, .val (.long ((((1 : Int64) <<< (b2v &&& 0x3f).toInt64) - (1 : Int64)) <<< ((b0v + b1v) &&& 0x3f).toInt64)), .second, .val (.int (1 : Int32)), .unset] [(.long ((((1 : Int64) <<< (b2v &&& 0x3f).toInt64) - (1 : Int64)) <<< ((b0v + b1v) &&& 0x3f).toInt64)), (.int (po + (0 : Int32))), (.int (2 : Int32)), (.ref b789), (.ref b826)]) rfl (by rw [hml]; rfl) (lenOf pd_5 rfl) rfl (hb hby at_421) (Nat.le_of_eq rfl) ?_
      intro v882 T882 L882 X882 hQ882
      obtain ⟨rfl, M882, e882⟩ := hQ882
      have N882 := Fr.app N881 M882
      show Go p e below _ (T882.setTop (mkF m 424 #[.val (.int p0), .val (.int p1), .val (.int p2), .val (.long q3), .second, .val (.long q4), .second, .val (.int b0v), .val (.int b1v), .val (.int b2v), .val (.int (0 : Int32)), .val (.int (1 : Int32)), .val (.int (2 : Int32)), .val (.int po), .val (.int b2v), .val (.int (b0v + b1v)), .val (.int (0 : Int32)), .val (.long (((1 : Int64) <<< (b2v &&& 0x3f).toInt64) - (1 : Int64))), .second, .val (.ref b760), .val (.ref b772), .val (.ref b789), .val (.ref b826), .val (.int (po + (0 : Int32))), .val (.long ((p2.toInt64) &&& (((1 : Int64) <<< (b2v &&& 0x3f).toInt64) - (1 : Int64)))), .second, .val (.long ((((1 : Int64) <<< (b2v &&& 0x3f).toInt64) - (1 : Int64)) <<< ((b0v + b1v) &&& 0x3f).toInt64)), .second, .val (.int (1 : Int32)), .unset] [(.int (1 : Int32))]))
      refine Go.st (fun _ => XS.ifNo X882.here hx rfl (hb hby at_424) rfl ((if0 _ _).trans (feq (by decide : ¬ ((1 : Int32) = (0 : Int32)))).1)) ?_
      refine Go.st (fun _ => XS.aload X882.here hx rfl (hb hby at_427) rfl rfl) ?_
      refine Go.st (fun _ => XS.aload X882.here hx rfl (hb hby at_429) rfl rfl) ?_
      refine Go.st (fun _ => XS.iconst X882.here hx rfl (hb hby at_431)) ?_
      refine Go.st (fun _ => XS.iload X882.here hx rfl (hb hby at_432) rfl) ?_
      refine Go.st (fun _ => XS.lload X882.here hx rfl (hb hby at_434) rfl) ?_
      show Go p e below _ (T882.setTop (mkF m 436 #[.val (.int p0), .val (.int p1), .val (.int p2), .val (.long q3), .second, .val (.long q4), .second, .val (.int b0v), .val (.int b1v), .val (.int b2v), .val (.int (0 : Int32)), .val (.int (1 : Int32)), .val (.int (2 : Int32)), .val (.int po), .val (.int b2v), .val (.int (b0v + b1v)), .val (.int (0 : Int32)), .val (.long (((1 : Int64) <<< (b2v &&& 0x3f).toInt64) - (1 : Int64))), .second, .val (.ref b760), .val (.ref b772), .val (.ref b789), .val (.ref b826), .val (.int (po + (0 : Int32))), .val (.long ((p2.toInt64) &&& (((1 : Int64) <<< (b2v &&& 0x3f).toInt64) - (1 : Int64)))), .second, .val (.long ((((1 : Int64) <<< (b2v &&& 0x3f).toInt64) - (1 : Int64)) <<< ((b0v + b1v) &&& 0x3f).toInt64)), .second, .val (.int (1 : Int32)), .unset] [(.long ((((1 : Int64) <<< (b2v &&& 0x3f).toInt64) - (1 : Int64)) <<< ((b0v + b1v) &&& 0x3f).toInt64)), (.int (po + (0 : Int32))), (.int (3 : Int32)), (.ref b789), (.ref b826)]))
      refine goCallS X882 hx hZ (y := (⟨"com/example/gieres/gieres/model/TupleTableSetStatePinLaw", "same", "([J[JIIJ)Z"⟩ : MethodName)) hown (hw _ (List.mem_of_getElem? (i := 50) rfl)) (hw _ (List.mem_of_getElem? (i := 51) rfl)) (hw _ (List.mem_of_getElem? (i := 52) rfl)) (hw _ (List.mem_of_getElem? (i := 53) rfl)) (by decide) (argsL := [(.ref b826), (.ref b789), (.int (3 : Int32)), (.int (po + (0 : Int32))), (.long ((((1 : Int64) <<< (b2v &&& 0x3f).toInt64) - (1 : Int64)) <<< ((b0v + b1v) &&& 0x3f).toInt64))]) (rest := []) e882 (rmSame l Z a0 hw [] b826 b789 (3 : Int32) (po + (0 : Int32)) (2 : Int32) ((((1 : Int64) <<< (b2v &&& 0x3f).toInt64) - (1 : Int64)) <<< ((b0v + b1v) &&& 0x3f).toInt64) 2 f1 f0 T867.heap n0 O868 KA867 VL877 rfl rfl (by decide) (own_same1 PL hf1) (own_same2 (by decide) HJ.1 hf1)) 0 (by decide) (by decide) (by decide) (by decide) (mkF m 436 #[.val (.int p0), .val (.int p1), .val (.int p2), .val (.long q3), .second, .val (.long q4), .second, .val (.int b0v), .val (.int b1v), .val (.int b2v), .val (.int (0 : Int32)), .val (.int (1 : Int32)), .val (.int (2 : Int32)), .val (.int po), .val (.int b2v), .val (.int (b0v + b1v)), .val (.int (0 : Int32)), .val (.long (((1 : Int64) <<< (b2v &&& 0x3f).toInt64) - (1 : Int64))), .second, .val (.ref b760), .val (.ref b772), .val (.ref b789), .val (.ref b826), .val (.int (po + (0 : Int32))), .val (.long ((p2.toInt64) &&& (((1 : Int64) <<< (b2v &&& 0x3f).toInt64) - (1 : Int64)))), .second, .val (.long ((((1 : Int64) <<< (b2v &&& 0x3f).toInt64) - (1 : Int64)) <<< ((b0v + b1v) &&& 0x3f).toInt64)), .second, .val (.int (1 : Int32)), .unset] [(.long ((((1 : Int64) <<< (b2v &&& 0x3f).toInt64) - (1 : Int64)) <<< ((b0v + b1v) &&& 0x3f).toInt64)), (.int (po + (0 : Int32))), (.int (3 : Int32)), (.ref b789), (.ref b826)]) rfl (by rw [hml]; rfl) (lenOf pd_5 rfl) rfl (hb hby at_436) (Nat.le_of_eq rfl) ?_
      intro v883 T883 L883 X883 hQ883
      obtain ⟨rfl, M883, e883⟩ := hQ883
      have N883 := Fr.app N882 M883
      show Go p e below _ (T883.setTop (mkF m 439 #[.val (.int p0), .val (.int p1), .val (.int p2), .val (.long q3), .second, .val (.long q4), .second, .val (.int b0v), .val (.int b1v), .val (.int b2v), .val (.int (0 : Int32)), .val (.int (1 : Int32)), .val (.int (2 : Int32)), .val (.int po), .val (.int b2v), .val (.int (b0v + b1v)), .val (.int (0 : Int32)), .val (.long (((1 : Int64) <<< (b2v &&& 0x3f).toInt64) - (1 : Int64))), .second, .val (.ref b760), .val (.ref b772), .val (.ref b789), .val (.ref b826), .val (.int (po + (0 : Int32))), .val (.long ((p2.toInt64) &&& (((1 : Int64) <<< (b2v &&& 0x3f).toInt64) - (1 : Int64)))), .second, .val (.long ((((1 : Int64) <<< (b2v &&& 0x3f).toInt64) - (1 : Int64)) <<< ((b0v + b1v) &&& 0x3f).toInt64)), .second, .val (.int (1 : Int32)), .unset] [(.int (1 : Int32))]))
      refine Go.st (fun _ => XS.ifNo X883.here hx rfl (hb hby at_439) rfl ((if0 _ _).trans (feq (by decide : ¬ ((1 : Int32) = (0 : Int32)))).1)) ?_
      refine Go.st (fun _ => XS.iconst X883.here hx rfl (hb hby at_442)) ?_
      refine Go.st (fun _ => XS.goto X883.here hx rfl (pc0 := 443) (pc' := 447) rfl (hb hby at_443) (by decide) (by decide)) ?_
      refine Go.st (fun _ => XS.istore X883.here hx rfl (hb hby at_447) rfl (l' := #[.val (.int p0), .val (.int p1), .val (.int p2), .val (.long q3), .second, .val (.long q4), .second, .val (.int b0v), .val (.int b1v), .val (.int b2v), .val (.int (0 : Int32)), .val (.int (1 : Int32)), .val (.int (2 : Int32)), .val (.int po), .val (.int b2v), .val (.int (b0v + b1v)), .val (.int (0 : Int32)), .val (.long (((1 : Int64) <<< (b2v &&& 0x3f).toInt64) - (1 : Int64))), .second, .val (.ref b760), .val (.ref b772), .val (.ref b789), .val (.ref b826), .val (.int (po + (0 : Int32))), .val (.long ((p2.toInt64) &&& (((1 : Int64) <<< (b2v &&& 0x3f).toInt64) - (1 : Int64)))), .second, .val (.long ((((1 : Int64) <<< (b2v &&& 0x3f).toInt64) - (1 : Int64)) <<< ((b0v + b1v) &&& 0x3f).toInt64)), .second, .val (.int (1 : Int32)), .val (.int (1 : Int32))]) rfl) ?_
      refine Go.st (fun _ => XS.iload X883.here hx rfl (hb hby at_449) rfl) ?_
      refine Go.st (fun _ => XS.ifNo X883.here hx rfl (hb hby at_451) rfl ((if0 _ _).trans (feq (by decide : ¬ ((1 : Int32) = (0 : Int32)))).1)) ?_
      refine Go.st (fun _ => XS.iload X883.here hx rfl (hb hby at_454) rfl) ?_
      refine Go.st (fun _ => XS.ifNo X883.here hx rfl (hb hby at_456) rfl ((if0 _ _).trans (feq (by decide : ¬ ((1 : Int32) = (0 : Int32)))).1)) ?_
      refine Go.st (fun _ => XS.iconst X883.here hx rfl (hb hby at_459)) ?_
      refine Go.st (fun _ => XS.goto X883.here hx rfl (pc0 := 460) (pc' := 464) rfl (hb hby at_460) (by decide) (by decide)) ?_
      show Go p e below _ (T883.setTop (mkF m 464 #[.val (.int p0), .val (.int p1), .val (.int p2), .val (.long q3), .second, .val (.long q4), .second, .val (.int b0v), .val (.int b1v), .val (.int b2v), .val (.int (0 : Int32)), .val (.int (1 : Int32)), .val (.int (2 : Int32)), .val (.int po), .val (.int b2v), .val (.int (b0v + b1v)), .val (.int (0 : Int32)), .val (.long (((1 : Int64) <<< (b2v &&& 0x3f).toInt64) - (1 : Int64))), .second, .val (.ref b760), .val (.ref b772), .val (.ref b789), .val (.ref b826), .val (.int (po + (0 : Int32))), .val (.long ((p2.toInt64) &&& (((1 : Int64) <<< (b2v &&& 0x3f).toInt64) - (1 : Int64)))), .second, .val (.long ((((1 : Int64) <<< (b2v &&& 0x3f).toInt64) - (1 : Int64)) <<< ((b0v + b1v) &&& 0x3f).toInt64)), .second, .val (.int (1 : Int32)), .val (.int (1 : Int32))] [(.int (1 : Int32))]))
      exact goRetN X883 hx hlk hret (t := .boolean) (by simp) (w := (1 : Int32)) (by decide) e883 (hb hby at_464) (by decide) (by decide) ⟨rfl, N883⟩
set_option maxRecDepth 65536 in
set_option maxHeartbeats 40000000 in
theorem comes_1 {Post : Tables → Env → Array Value → State → Outcome → State → Prop} (hpost : ∀ tb e args s v u, (limb_1_1.after args s (.returned v) u = true ∧ limb_1_2.after args s (.returned v) u = true ∧ True) → FrameEnd s (.returned v) u (Jvm.fieldLocs frame_1_writes args s ++ Jvm.arrayLocs frame_1_arrays args s ++ Jvm.staticLocs frame_1_statics s) 32 256 → Post tb e args s (.returned v) u) :
    ArmFor flags0 classFile x code maxLocals ret World_1 tables_1 room_1 Calls_1 rest_1 Pre_1 Post := by
  intro l hfl _ _ p e ha hc hk s m args below hf hA hF happ hP
  obtain ⟨hcalls, hrest, hpre⟩ := hP
  obtain ⟨-, -, -, hnamed, -, -, -, hat⟩ := (Spec.applies_iff hf).mp happ
  obtain ⟨hg, hn⟩ := and_e (Cond.before_iff.mp (show (Jvm.Cond.and given_1 narrow_1).before args s = true from hpre))
  obtain ⟨g1, g2⟩ := and_e hg
  obtain ⟨g3, g4⟩ := and_e g2
  obtain ⟨g5, g6⟩ := and_e g4
  obtain ⟨g7, g8⟩ := and_e g6
  obtain ⟨g9, g10⟩ := and_e g8
  obtain ⟨w0, w1, w2, w3, w4, rfl⟩ : ∃ w0 w1 w2 w3 w4 : Value, args = #[w0, w1, w2, w3, w4] := by
    have hs : args.size = 5 := by simpa [Cond.value, given_1] using g1
    obtain ⟨L⟩ := args
    match L, hs with
    | [w0, w1, w2, w3, w4], _ => exact ⟨w0, w1, w2, w3, w4, rfl⟩
  have hw := fun d (hd : d ∈ tables_1) => atoms_spec (ws := Jvm.Cond.code x code maxLocals ret :: tables_1) hat d (List.mem_cons_of_mem _ hd)
  have hfit : Fit s := fun {y c} hc i hi => by
    obtain ⟨ha, rfl⟩ := Array.getElem?_eq_some_iff.mp hc
    have q := List.all_eq_true.mp ((Array.all_eq_true_iff_forall_mem.mp hF) _ (Array.getElem_mem ha)) i (List.mem_range.mpr hi)
    simpa [Array.getElem?_eq_getElem hi] using q
  obtain ⟨i0, ei0⟩ := is_v g3
  obtain rfl : w0 = (.int i0) := Option.some.inj ei0
  obtain ⟨i1, ei1⟩ := is_v g5
  obtain rfl : w1 = (.int i1) := Option.some.inj ei1
  obtain ⟨i2, ei2⟩ := is_v g7
  obtain rfl : w2 = (.int i2) := Option.some.inj ei2
  obtain ⟨i3, ei3⟩ := isL_v g9
  obtain rfl : w3 = (.long i3) := Option.some.inj ei3
  obtain ⟨i4, ei4⟩ := isL_v g10
  obtain rfl : w4 = (.long i4) := Option.some.inj ei4
  obtain ⟨n, o, h1, h2, h3, _, L, rfl, ⟨rfl, N⟩, hq⟩ := rm0 l s _ hw tables_1 i0 i1 i2 i3 i4 s.heap s.heap.size (Old.start s) p e ha hc hk s m _ below hf ((Spec.applies_iff_loose hf).mp happ).1 ⟨rfl, State.Warmed39.refl s, rfl⟩ trivial
  refine ⟨n, _, h1, h2, h3, hpost _ _ _ _ _ _ ⟨Cond.after_iff.mpr rfl, Cond.after_iff.mpr (eq_i res_at (Term.int_eval (1)) rfl), trivial⟩ ⟨hq.1, hq.2.1, (hq.2.2.sift fun y hy => Or.inr (N y hy)).mono (by decide) (by decide)⟩⟩
theorem main_1_1 : Claimed_1_1 := comes_1 fun _ _ _ _ _ _ h hF => ⟨h.1, hF⟩
theorem main_1_2 : Claimed_1_2 := comes_1 fun _ _ _ _ _ _ h hF => ⟨h.2.1, hF⟩
end Jvm.Pilot.@@N@@
namespace Jvm.Pilot.@@N@@
open Jvm Jvm.ClassFile Sem Op Lib Jvm.Free Jvm.Stand Jvm.Pilot.@@N@@.Jvm.D
/-! MADE BY PROGRAM (witnessworld.py) out of the Statement's table words and the real class files: 17 classes; the members and pool entries that the words name. The judged class is class 1, her method 1. -/
namespace start1
open Jvm.ClassFile
def u (s : String) : CpInfo := .utf8 (stringToUtf16 s)
/-- a pool by its gaps: so many unusable entries, then the entry; so many at the end -/
def gap : Nat → List CpInfo → List CpInfo
  | 0, r => r
  | n + 1, r => .unusable :: gap n r
def poolList (es : List (Nat × CpInfo)) (last : Nat) : List CpInfo := es.foldr (fun e r => gap e.1 (e.2 :: r)) (gap last [])
def pool (es : List (Nat × CpInfo)) (last : Nat) : Array CpInfo := ⟨poolList es last⟩
def fileOf (pool : Array CpInfo) (this : Nat) (attrs : Array Attribute := #[]) (ms : Array MethodInfo := #[]) (fl : Nat := 33) (sup : Nat := 0) (ifs : Array Nat := #[]) (fds : Array FieldInfo := #[]) : ClassFile where
  minorVersion := 0
  majorVersion := 65
  constantPool := pool
  accessFlags := fl
  thisClass := this
  superClass := sup
  interfaces := ifs
  fields := fds
  methods := ms
  attributes := attrs
def plain (name : String) (sup : Option ClassId) : Class where
  name := name
  kind := .ordinary
  loader := none
  accessFlags := 33
  super := sup
  interfaces := #[]
  cf := none
  fields := #[]
  methods := #[]
  instanceTypes := #[]
  staticTypes := #[]
  resolved := #[]
  callSites := []
  init := .initialized
  statics := none
  mirror := none

def pool0 : Array CpInfo := pool [(5, u "<init>"), (0, u "()V"), (1, .class_ 10), (1, u "java/lang/Object")] 113

def k0c0 : Code := { maxStack := 0, maxLocals := 1, code := object_method_1_code, exceptionTable := #[], attributes := #[] }
def k0m0 : Method := { name := "<init>", desc := "()V", sig := { parameters := [], returnType := none }, accessFlags := 1, code := some k0c0 }
/-- java/lang/Object -/
def k0 : Class := { plain "java/lang/Object" none with
  accessFlags := 33
  interfaces := #[]
  cf := some (fileOf pool0 8 #[] #[{ accessFlags := 1, nameIndex := 5, descriptorIndex := 6, attributes := #[] }] 33 0 #[] #[])
  fields := #[]
  methods := #[k0m0]
  instanceTypes := #[]
  staticTypes := #[]
  resolved := Array.replicate 124 none
  statics := none }

def pool1 : Array CpInfo := pool [(2, .class_ 4), (1, u "java/lang/Object"), (0, u "<init>"), (0, u "()V"), (0, .class_ 8), (0, u "com/example/gieres/gieres/model/TupleTable"), (0, .methodref 7 10), (0, .nameAndType 5 11), (0, u "([J)V"), (0, .long 18446744073709551615), (1, .methodref 7 15), (0, .nameAndType 16 17), (0, u "setState"), (0, u "([JIII)V"), (0, .methodref 7 19), (0, .nameAndType 20 21), (0, u "state"), (0, u "([JII)I"), (0, .methodref 23 24), (0, .class_ 25), (0, .nameAndType 26 27), (0, u "com/example/gieres/gieres/model/TupleTableSetStatePinLaw"), (0, u "same"), (0, u "([J[JIIJ)Z"), (2, u "law"), (0, u "(IIIJJ)Z")] 5

def k1m0 : Method := { name := "<init>", desc := "()V", sig := { parameters := [], returnType := none }, accessFlags := 1, code := none }
def k1c1 : Code := { maxStack := 7, maxLocals := 30, code := code, exceptionTable := #[], attributes := #[] }
def k1m1 : Method := { name := "law", desc := "(IIIJJ)Z", sig := { parameters := [.int, .int, .int, .long, .long], returnType := some .boolean }, accessFlags := 9, code := some k1c1 }
def k1c2 : Code := { maxStack := 6, maxLocals := 6, code := method_3_code, exceptionTable := #[], attributes := #[] }
def k1m2 : Method := { name := "same", desc := "([J[JIIJ)Z", sig := { parameters := [(.array .long), (.array .long), .int, .int, .long], returnType := some .boolean }, accessFlags := 10, code := some k1c2 }
/-- com/example/gieres/gieres/model/TupleTableSetStatePinLaw -/
def k1 : Class := { plain "com/example/gieres/gieres/model/TupleTableSetStatePinLaw" (some 0) with
  accessFlags := 49
  interfaces := #[]
  cf := some (fileOf pool1 23 #[] #[{ accessFlags := 1, nameIndex := 5, descriptorIndex := 6, attributes := #[] }, { accessFlags := 9, nameIndex := 30, descriptorIndex := 31, attributes := #[] }, { accessFlags := 10, nameIndex := 26, descriptorIndex := 27, attributes := #[] }] 49 2 #[] #[])
  fields := #[]
  methods := #[k1m0, k1m1, k1m2]
  instanceTypes := #[]
  staticTypes := #[]
  resolved := Array.replicate 37 none
  statics := none }

def pool2 : Array CpInfo := pool [(1, .class_ 2), (0, u "com/example/gieres/gieres/model/TupleTable"), (0, .methodref 4 5), (0, .class_ 6), (0, .nameAndType 7 8), (0, u "java/lang/Object"), (0, u "<init>"), (0, u "()V"), (0, .class_ 10), (0, u "[J"), (0, .fieldref 1 12), (0, .nameAndType 13 14), (0, u "pages"), (0, u "[[J"), (0, .fieldref 1 16), (0, .nameAndType 17 18), (0, u "slotBits"), (0, u "I"), (0, .fieldref 1 20), (0, .nameAndType 21 22), (0, u "slots"), (0, u "[I"), (0, .fieldref 1 24), (0, .nameAndType 25 10), (0, u "hashes"), (0, .fieldref 1 27), (0, .nameAndType 28 22), (0, u "found"), (0, .fieldref 1 30), (0, .nameAndType 31 22), (0, u "word"), (0, .fieldref 1 33), (0, .nameAndType 34 22), (0, u "shift"), (0, .fieldref 1 36), (0, .nameAndType 37 10), (0, u "mask"), (0, .class_ 39), (0, u "java/lang/Long"), (0, .methodref 38 41), (0, .nameAndType 42 43), (0, u "numberOfLeadingZeros"), (0, u "(J)I"), (0, .fieldref 1 45), (0, .nameAndType 46 18), (0, u "width"), (2, u "size"), (6, .long 18446744073709551615), (7, u "state"), (0, u "([JII)I"), (22, u "prefetched"), (0, u "J"), (29, u "SPREAD"), (1, u "PAGE_BITS"), (1, u "PAGE"), (1, u "([J)V"), (8, u "setState"), (0, u "([JIII)V")] 8

def k2c0 : Code := { maxStack := 6, maxLocals := 6, code := prog_137_method_1_code, exceptionTable := #[], attributes := #[] }
def k2m0 : Method := { name := "<init>", desc := "([J)V", sig := { parameters := [(.array .long)], returnType := none }, accessFlags := 0, code := some k2c0 }
def k2c1 : Code := { maxStack := 4, maxLocals := 4, code := prog_137_method_5_code, exceptionTable := #[], attributes := #[] }
def k2m1 : Method := { name := "state", desc := "([JII)I", sig := { parameters := [(.array .long), .int, .int], returnType := some .int }, accessFlags := 0, code := some k2c1 }
def k2c2 : Code := { maxStack := 8, maxLocals := 8, code := prog_137_method_6_code, exceptionTable := #[], attributes := #[] }
def k2m2 : Method := { name := "setState", desc := "([JIII)V", sig := { parameters := [(.array .long), .int, .int, .int], returnType := none }, accessFlags := 0, code := some k2c2 }
/-- com/example/gieres/gieres/model/TupleTable -/
def k2 : Class := { plain "com/example/gieres/gieres/model/TupleTable" (some 0) with
  accessFlags := 48
  interfaces := #[]
  cf := some (fileOf pool2 1 #[] #[{ accessFlags := 0, nameIndex := 7, descriptorIndex := 125, attributes := #[] }, { accessFlags := 0, nameIndex := 64, descriptorIndex := 65, attributes := #[] }, { accessFlags := 0, nameIndex := 134, descriptorIndex := 135, attributes := #[] }] 48 4 #[] #[{ accessFlags := 26, nameIndex := 119, descriptorIndex := 89, attributes := #[] }, { accessFlags := 26, nameIndex := 121, descriptorIndex := 18, attributes := #[] }, { accessFlags := 26, nameIndex := 123, descriptorIndex := 18, attributes := #[] }, { accessFlags := 18, nameIndex := 31, descriptorIndex := 22, attributes := #[] }, { accessFlags := 18, nameIndex := 34, descriptorIndex := 22, attributes := #[] }, { accessFlags := 18, nameIndex := 37, descriptorIndex := 10, attributes := #[] }, { accessFlags := 18, nameIndex := 46, descriptorIndex := 18, attributes := #[] }, { accessFlags := 2, nameIndex := 13, descriptorIndex := 14, attributes := #[] }, { accessFlags := 2, nameIndex := 49, descriptorIndex := 18, attributes := #[] }, { accessFlags := 2, nameIndex := 17, descriptorIndex := 18, attributes := #[] }, { accessFlags := 2, nameIndex := 21, descriptorIndex := 22, attributes := #[] }, { accessFlags := 2, nameIndex := 25, descriptorIndex := 10, attributes := #[] }, { accessFlags := 2, nameIndex := 28, descriptorIndex := 22, attributes := #[] }, { accessFlags := 2, nameIndex := 88, descriptorIndex := 89, attributes := #[] }])
  fields := #[{ name := "SPREAD", type := .long, accessFlags := 26, slot := 0, constantValue := 0 }, { name := "PAGE_BITS", type := .int, accessFlags := 26, slot := 1, constantValue := 0 }, { name := "PAGE", type := .int, accessFlags := 26, slot := 2, constantValue := 0 }, { name := "word", type := (.array .int), accessFlags := 18, slot := 0, constantValue := 0 }, { name := "shift", type := (.array .int), accessFlags := 18, slot := 1, constantValue := 0 }, { name := "mask", type := (.array .long), accessFlags := 18, slot := 2, constantValue := 0 }, { name := "width", type := .int, accessFlags := 18, slot := 3, constantValue := 0 }, { name := "pages", type := (.array (.array .long)), accessFlags := 2, slot := 4, constantValue := 0 }, { name := "size", type := .int, accessFlags := 2, slot := 5, constantValue := 0 }, { name := "slotBits", type := .int, accessFlags := 2, slot := 6, constantValue := 0 }, { name := "slots", type := (.array .int), accessFlags := 2, slot := 7, constantValue := 0 }, { name := "hashes", type := (.array .long), accessFlags := 2, slot := 8, constantValue := 0 }, { name := "found", type := (.array .int), accessFlags := 2, slot := 9, constantValue := 0 }, { name := "prefetched", type := .long, accessFlags := 2, slot := 10, constantValue := 0 }]
  methods := #[k2m0, k2m1, k2m2]
  instanceTypes := #[(.array .int), (.array .int), (.array .long), .int, (.array (.array .long)), .int, .int, (.array .int), (.array .long), (.array .int), .long]
  staticTypes := #[.long, .int, .int]
  resolved := Array.replicate 144 none
  statics := none }

def pool3 : Array CpInfo := pool [(1, .class_ 2), (0, u "java/io/Serializable"), (0, .class_ 4), (0, u "java/lang/Object")] 2

/-- java/io/Serializable -/
def k3 : Class := { plain "java/io/Serializable" (some 0) with
  accessFlags := 1537
  interfaces := #[]
  cf := some (fileOf pool3 1 #[] #[] 1537 3 #[] #[])
  fields := #[]
  methods := #[]
  instanceTypes := #[]
  staticTypes := #[]
  resolved := Array.replicate 7 none
  statics := none }

def pool4 : Array CpInfo := pool [(2, .class_ 4), (1, u "java/lang/Object"), (0, u "<init>"), (0, u "()V"), (1, .class_ 10), (1, u "java/lang/Number"), (2, .class_ 14), (0, u "java/io/Serializable"), (0, u "serialVersionUID"), (0, u "J")] 20

def k4m0 : Method := { name := "<init>", desc := "()V", sig := { parameters := [], returnType := none }, accessFlags := 1, code := none }
/-- java/lang/Number -/
def k4 : Class := { plain "java/lang/Number" (some 0) with
  accessFlags := 1057
  interfaces := #[3]
  cf := some (fileOf pool4 8 #[] #[{ accessFlags := 1, nameIndex := 5, descriptorIndex := 6, attributes := #[] }] 1057 2 #[13] #[{ accessFlags := 26, nameIndex := 15, descriptorIndex := 16, attributes := #[] }])
  fields := #[{ name := "serialVersionUID", type := .long, accessFlags := 26, slot := 0, constantValue := 0 }]
  methods := #[k4m0]
  instanceTypes := #[]
  staticTypes := #[.long]
  resolved := Array.replicate 37 none
  statics := none }

def pool5 : Array CpInfo := pool [(1, .class_ 2), (0, u "java/lang/Comparable"), (0, .class_ 4), (0, u "java/lang/Object")] 7

/-- java/lang/Comparable -/
def k5 : Class := { plain "java/lang/Comparable" (some 0) with
  accessFlags := 1537
  interfaces := #[]
  cf := some (fileOf pool5 1 #[] #[] 1537 3 #[] #[])
  fields := #[]
  methods := #[]
  instanceTypes := #[]
  staticTypes := #[]
  resolved := Array.replicate 12 none
  statics := none }

def pool6 : Array CpInfo := pool [(1, .class_ 2), (0, u "java/lang/constant/Constable"), (0, .class_ 4), (0, u "java/lang/Object")] 6

/-- java/lang/constant/Constable -/
def k6 : Class := { plain "java/lang/constant/Constable" (some 0) with
  accessFlags := 1537
  interfaces := #[]
  cf := some (fileOf pool6 1 #[] #[] 1537 3 #[] #[])
  fields := #[]
  methods := #[]
  instanceTypes := #[]
  staticTypes := #[]
  resolved := Array.replicate 11 none
  statics := none }

def pool7 : Array CpInfo := pool [(1, .class_ 2), (0, u "java/lang/constant/ConstantDesc"), (0, .class_ 4), (0, u "java/lang/Object")] 32

/-- java/lang/constant/ConstantDesc -/
def k7 : Class := { plain "java/lang/constant/ConstantDesc" (some 0) with
  accessFlags := 1537
  interfaces := #[]
  cf := some (fileOf pool7 1 #[] #[] 1537 3 #[] #[])
  fields := #[]
  methods := #[]
  instanceTypes := #[]
  staticTypes := #[]
  resolved := Array.replicate 37 none
  statics := none }

def pool8 : Array CpInfo := pool [(1, .class_ 2), (0, u "java/lang/Long"), (15, .class_ 20), (1, u "java/lang/Integer"), (79, u "numberOfLeadingZeros"), (0, u "(J)I"), (133, .class_ 237), (1, u "java/lang/Long$LongCache"), (33, .class_ 272), (0, u "java/lang/Number"), (2, u "value"), (0, u "J"), (31, .methodref 18 309), (0, .nameAndType 100 310), (0, u "(I)I"), (50, u "TYPE"), (0, u "Ljava/lang/Class;"), (0, .class_ 364), (0, u "java/lang/Comparable"), (0, .class_ 366), (0, u "java/lang/constant/Constable"), (0, .class_ 368), (0, u "java/lang/constant/ConstantDesc"), (0, u "MIN_VALUE"), (1, u "MAX_VALUE"), (4, u "SIZE"), (0, u "I"), (1, u "BYTES"), (1, u "serialVersionUID")] 142

def k8c0 : Code := { maxStack := 3, maxLocals := 3, code := jdk_35_method_48_code, exceptionTable := #[], attributes := #[] }
def k8m0 : Method := { name := "numberOfLeadingZeros", desc := "(J)I", sig := { parameters := [.long], returnType := some .int }, accessFlags := 9, code := some k8c0 }
/-- java/lang/Long -/
def k8 : Class := { plain "java/lang/Long" (some 4) with
  accessFlags := 49
  interfaces := #[5, 6, 7]
  cf := some (fileOf pool8 1 #[.nestMembers #[235]] #[{ accessFlags := 9, nameIndex := 100, descriptorIndex := 101, attributes := #[] }] 49 271 #[363, 365, 367] #[{ accessFlags := 25, nameIndex := 369, descriptorIndex := 276, attributes := #[] }, { accessFlags := 25, nameIndex := 371, descriptorIndex := 276, attributes := #[] }, { accessFlags := 25, nameIndex := 361, descriptorIndex := 362, attributes := #[] }, { accessFlags := 18, nameIndex := 275, descriptorIndex := 276, attributes := #[] }, { accessFlags := 25, nameIndex := 376, descriptorIndex := 377, attributes := #[] }, { accessFlags := 25, nameIndex := 379, descriptorIndex := 377, attributes := #[] }, { accessFlags := 26, nameIndex := 381, descriptorIndex := 276, attributes := #[] }])
  fields := #[{ name := "MIN_VALUE", type := .long, accessFlags := 25, slot := 0, constantValue := 0 }, { name := "MAX_VALUE", type := .long, accessFlags := 25, slot := 1, constantValue := 0 }, { name := "TYPE", type := (.object "java/lang/Class"), accessFlags := 25, slot := 2, constantValue := 0 }, { name := "value", type := .long, accessFlags := 18, slot := 0, constantValue := 0 }, { name := "SIZE", type := .int, accessFlags := 25, slot := 3, constantValue := 0 }, { name := "BYTES", type := .int, accessFlags := 25, slot := 4, constantValue := 0 }, { name := "serialVersionUID", type := .long, accessFlags := 26, slot := 5, constantValue := 0 }]
  methods := #[k8m0]
  instanceTypes := #[.long]
  staticTypes := #[.long, .long, (.object "java/lang/Class"), .int, .int, .long]
  resolved := Array.replicate 524 none
  statics := none }

def pool9 : Array CpInfo := pool [(1, .class_ 2), (0, u "java/lang/Integer"), (16, u "digits"), (0, u "[C"), (32, u "numberOfLeadingZeros"), (0, u "(I)I"), (30, u "DigitOnes"), (0, u "[B"), (2, u "DigitTens"), (99, .class_ 190), (0, u "java/lang/Integer$IntegerCache"), (3, u "I"), (8, .class_ 204), (0, u "java/lang/Number"), (2, u "value"), (56, .integer 65536), (37, u "TYPE"), (0, u "Ljava/lang/Class;"), (0, .class_ 305), (0, u "java/lang/Comparable"), (0, .class_ 307), (0, u "java/lang/constant/Constable"), (0, .class_ 309), (0, u "java/lang/constant/ConstantDesc"), (0, u "MIN_VALUE"), (1, u "MAX_VALUE"), (3, u "SIZE"), (1, u "BYTES"), (1, u "serialVersionUID"), (0, u "J")] 131

def k9c0 : Code := { maxStack := 3, maxLocals := 2, code := jdk_33_method_47_code, exceptionTable := #[], attributes := #[] }
def k9m0 : Method := { name := "numberOfLeadingZeros", desc := "(I)I", sig := { parameters := [.int], returnType := some .int }, accessFlags := 9, code := some k9c0 }
/-- java/lang/Integer -/
def k9 : Class := { plain "java/lang/Integer" (some 4) with
  accessFlags := 49
  interfaces := #[5, 6, 7]
  cf := some (fileOf pool9 1 #[.nestMembers #[189]] #[{ accessFlags := 9, nameIndex := 53, descriptorIndex := 54, attributes := #[] }] 49 203 #[304, 306, 308] #[{ accessFlags := 25, nameIndex := 310, descriptorIndex := 194, attributes := #[] }, { accessFlags := 25, nameIndex := 312, descriptorIndex := 194, attributes := #[] }, { accessFlags := 25, nameIndex := 302, descriptorIndex := 303, attributes := #[] }, { accessFlags := 24, nameIndex := 19, descriptorIndex := 20, attributes := #[] }, { accessFlags := 24, nameIndex := 89, descriptorIndex := 86, attributes := #[] }, { accessFlags := 24, nameIndex := 85, descriptorIndex := 86, attributes := #[] }, { accessFlags := 18, nameIndex := 207, descriptorIndex := 194, attributes := #[] }, { accessFlags := 25, nameIndex := 316, descriptorIndex := 194, attributes := #[] }, { accessFlags := 25, nameIndex := 318, descriptorIndex := 194, attributes := #[] }, { accessFlags := 26, nameIndex := 320, descriptorIndex := 321, attributes := #[] }])
  fields := #[{ name := "MIN_VALUE", type := .int, accessFlags := 25, slot := 0, constantValue := 0 }, { name := "MAX_VALUE", type := .int, accessFlags := 25, slot := 1, constantValue := 0 }, { name := "TYPE", type := (.object "java/lang/Class"), accessFlags := 25, slot := 2, constantValue := 0 }, { name := "digits", type := (.array .char), accessFlags := 24, slot := 3, constantValue := 0 }, { name := "DigitTens", type := (.array .byte), accessFlags := 24, slot := 4, constantValue := 0 }, { name := "DigitOnes", type := (.array .byte), accessFlags := 24, slot := 5, constantValue := 0 }, { name := "value", type := .int, accessFlags := 18, slot := 0, constantValue := 0 }, { name := "SIZE", type := .int, accessFlags := 25, slot := 6, constantValue := 0 }, { name := "BYTES", type := .int, accessFlags := 25, slot := 7, constantValue := 0 }, { name := "serialVersionUID", type := .long, accessFlags := 26, slot := 8, constantValue := 0 }]
  methods := #[k9m0]
  instanceTypes := #[.int]
  staticTypes := #[.int, .int, (.object "java/lang/Class"), (.array .char), (.array .byte), (.array .byte), .int, .int, .long]
  resolved := Array.replicate 453 none
  statics := none }

def pool10 : Array CpInfo := pool [(1, u "java/lang/Cloneable"), (0, .class_ 1), (0, u "java/lang/Object"), (0, .class_ 3)] 3

/-- java/lang/Cloneable -/
def k10 : Class := { plain "java/lang/Cloneable" (some 0) with
  accessFlags := 1537
  interfaces := #[]
  cf := some (fileOf pool10 2 #[] #[] 1537 4 #[] #[])
  fields := #[]
  methods := #[]
  instanceTypes := #[]
  staticTypes := #[]
  resolved := Array.replicate 8 none
  statics := none }

/-- the primitive byte -/
def k11 : Class := { plain "byte" none with kind := .primitive 'B', accessFlags := 0x411 }
/-- [B -/
def k12 : Class := { plain "[B" (some 0) with kind := .array 11 .byte, interfaces := #[10, 3], accessFlags := 1041 }

/-- the primitive int -/
def k13 : Class := { plain "int" none with kind := .primitive 'I', accessFlags := 0x411 }
/-- [I -/
def k14 : Class := { plain "[I" (some 0) with kind := .array 13 .int, interfaces := #[10, 3], accessFlags := 1041 }

/-- the primitive long -/
def k15 : Class := { plain "long" none with kind := .primitive 'J', accessFlags := 0x411 }
/-- [J -/
def k16 : Class := { plain "[J" (some 0) with kind := .array 15 .long, interfaces := #[10, 3], accessFlags := 1041 }

def heap : Heap := #[]
/-- [[J -/
def k17 : Class := { plain "[[J" (some 0) with kind := .array 16 (.array .long), interfaces := #[10, 3], accessFlags := 1041 }
def classes : Array Class := #[k0, k1, k2, k3, k4, k5, k6, k7, k8, k9, k10, k11, k12, k13, k14, k15, k16, k17]
def interned : List (Array UInt16 × Addr) := []
def slotsUsed : Nat := 0
def theMethod : MethodId := ⟨1, 1⟩
def args0 : Array Value := #[.int 5, .int 4, .int 5, .long 4, .long 77]
def aboutOver (below : List Frame) : State where
  vm := { classes := classes, interned := interned.toArray }
  heap := heap
  slotsUsed := slotsUsed
  threads := #[{ frames := .invoking theMethod args0 :: below }]
def below0 : List Frame := [.native { method := ⟨0, 0⟩, args := #[] }]
def about1 : State := aboutOver below0
def p0 : Program := .bare "" "" ""
def e0 : Env := launch0.env 0 0 0
theorem w_frames : about1.frames = Frame.invoking theMethod args0 :: below0 := rfl
set_option maxRecDepth 65536 in
theorem w_args : argsFit about1.vm theMethod args0 = true := by decide +kernel
set_option maxRecDepth 65536 in
theorem w_heap : heapFits about1 = true := by decide +kernel
set_option maxRecDepth 65536 in
theorem w_runnable : about1.curStatus? = some .runnable := by decide +kernel
set_option maxRecDepth 65536 in
theorem w_alone : about1.alone = true := by decide +kernel
set_option maxRecDepth 65536 in
theorem w_named : about1.methodNamed? x = some theMethod := by decide +kernel
set_option maxRecDepth 65536 in
theorem w_hears : about1.hears theMethod below0 = true := by decide +kernel
set_option maxRecDepth 65536 in
theorem w_ripe : about1.ripe theMethod args0 below0 = true := by decide +kernel
theorem w_running : about1.status = .running := rfl
set_option maxRecDepth 65536 in
theorem w_room : about1.hasRoom e0.platform room_1 = true :=
  launch0.hasRoom_least _ room_1 (by decide +kernel) (by decide +kernel) (by decide +kernel) (by decide +kernel) (by decide +kernel) (by decide +kernel)
theorem allAtoms_all (ts : List Jvm.Cond) (a : Array Jvm.Value) (st : Jvm.State) : (allAtoms ts).before a st = ts.all (fun c => c.before a st) := by
  induction ts with
  | nil => rfl
  | cons c t ih =>
    show (Jvm.Cond.and c (allAtoms t)).before a st = _
    rw [Jvm.Cond.before_and, ih, List.all_cons]
def words1 : List Jvm.Cond := Jvm.Cond.code x code maxLocals ret :: tables_1
/-- a 'code' word, met by the world's own term for the bytes: nothing is compared byte by byte -/
theorem code_word {y : MethodName} {bytes : ByteArray} {mx : Nat} {rt : Option FieldType} {a : Array Value} {s : State} {m : MethodId} {meth : Method} {c : Code} (h1 : s.methodNamed? y = some m) (h2 : s.vm.method? m = some meth) (h3 : meth.code = some c) (h4 : c.code = bytes)
    (h5 : (c.maxLocals == mx && c.exceptionTable.isEmpty && decide (c.maxStack ≤ mostOperands) && decide (meth.sig.returnType = rt) && !meth.locks && decide (parseMethodDescriptor y.desc = some meth.sig)) = true) : (Jvm.Cond.code y bytes mx rt).before a s = true := by
  simp only [Bool.and_eq_true, beq_iff_eq, Bool.not_eq_true', decide_eq_true_eq] at h5
  obtain ⟨⟨⟨⟨⟨g1, g2⟩, g3⟩, g4⟩, g5⟩, g6⟩ := h5
  simp [Cond.before, Cond.holds, Cond.value, h1, h2, h3, h4, g1, g2, g3, g4, g5, g6]
def isCode : Jvm.Cond → Bool
  | .code _ _ _ _ => true
  | _ => false
theorem all_split {L : List Jvm.Cond} {P : Jvm.Cond → Bool} (h1 : L.all (fun c => isCode c || P c) = true) (h2 : ∀ c ∈ L.filter isCode, P c = true) : L.all P = true := by
  refine List.all_eq_true.mpr fun c hc => ?_
  have h := List.all_eq_true.mp h1 c hc
  rcases Bool.eq_false_or_eq_true (isCode c) with hi | hi
  · exact h2 c (List.mem_filter.mpr ⟨hc, hi⟩)
  · simpa [hi] using h
set_option maxRecDepth 65536 in
theorem w_c0 : (Jvm.Cond.code x code maxLocals ret).before args0 about1 = true := code_word (m := ⟨1, 1⟩) (meth := k1m1) (c := k1c1) (by decide +kernel) rfl rfl rfl (by decide +kernel)
set_option maxRecDepth 65536 in
theorem w_c1 : (Jvm.Cond.code ({ cls := "com/example/gieres/gieres/model/TupleTable", name := "<init>", desc := "([J)V" } : Jvm.MethodName) prog_137_method_1_code (6 : Nat) (Option.none : Option Jvm.ClassFile.FieldType)).before args0 about1 = true := code_word (m := ⟨2, 0⟩) (meth := k2m0) (c := k2c0) (by decide +kernel) rfl rfl rfl (by decide +kernel)
set_option maxRecDepth 65536 in
theorem w_c2 : (Jvm.Cond.code ({ cls := "java/lang/Object", name := "<init>", desc := "()V" } : Jvm.MethodName) object_method_1_code (1 : Nat) (Option.none : Option Jvm.ClassFile.FieldType)).before args0 about1 = true := code_word (m := ⟨0, 0⟩) (meth := k0m0) (c := k0c0) (by decide +kernel) rfl rfl rfl (by decide +kernel)
set_option maxRecDepth 65536 in
theorem w_c3 : (Jvm.Cond.code ({ cls := "java/lang/Long", name := "numberOfLeadingZeros", desc := "(J)I" } : Jvm.MethodName) jdk_35_method_48_code (3 : Nat) (Option.some Jvm.ClassFile.FieldType.int)).before args0 about1 = true := code_word (m := ⟨8, 0⟩) (meth := k8m0) (c := k8c0) (by decide +kernel) rfl rfl rfl (by decide +kernel)
set_option maxRecDepth 65536 in
theorem w_c4 : (Jvm.Cond.code ({ cls := "java/lang/Integer", name := "numberOfLeadingZeros", desc := "(I)I" } : Jvm.MethodName) jdk_33_method_47_code (2 : Nat) (Option.some Jvm.ClassFile.FieldType.int)).before args0 about1 = true := code_word (m := ⟨9, 0⟩) (meth := k9m0) (c := k9c0) (by decide +kernel) rfl rfl rfl (by decide +kernel)
set_option maxRecDepth 65536 in
theorem w_c5 : (Jvm.Cond.code ({ cls := "com/example/gieres/gieres/model/TupleTable", name := "setState", desc := "([JIII)V" } : Jvm.MethodName) prog_137_method_6_code (8 : Nat) (Option.none : Option Jvm.ClassFile.FieldType)).before args0 about1 = true := code_word (m := ⟨2, 2⟩) (meth := k2m2) (c := k2c2) (by decide +kernel) rfl rfl rfl (by decide +kernel)
set_option maxRecDepth 65536 in
theorem w_c6 : (Jvm.Cond.code ({ cls := "com/example/gieres/gieres/model/TupleTable", name := "state", desc := "([JII)I" } : Jvm.MethodName) prog_137_method_5_code (4 : Nat) (Option.some Jvm.ClassFile.FieldType.int)).before args0 about1 = true := code_word (m := ⟨2, 1⟩) (meth := k2m1) (c := k2c1) (by decide +kernel) rfl rfl rfl (by decide +kernel)
set_option maxRecDepth 65536 in
theorem w_c7 : (Jvm.Cond.code ({ cls := "com/example/gieres/gieres/model/TupleTableSetStatePinLaw", name := "same", desc := "([J[JIIJ)Z" } : Jvm.MethodName) method_3_code (6 : Nat) (Option.some Jvm.ClassFile.FieldType.boolean)).before args0 about1 = true := code_word (m := ⟨1, 2⟩) (meth := k1m2) (c := k1c2) (by decide +kernel) rfl rfl rfl (by decide +kernel)
def codes1 : List Jvm.Cond := [Jvm.Cond.code x code maxLocals ret, Jvm.Cond.code ({ cls := "com/example/gieres/gieres/model/TupleTable", name := "<init>", desc := "([J)V" } : Jvm.MethodName) prog_137_method_1_code (6 : Nat) (Option.none : Option Jvm.ClassFile.FieldType), Jvm.Cond.code ({ cls := "java/lang/Object", name := "<init>", desc := "()V" } : Jvm.MethodName) object_method_1_code (1 : Nat) (Option.none : Option Jvm.ClassFile.FieldType), Jvm.Cond.code ({ cls := "java/lang/Long", name := "numberOfLeadingZeros", desc := "(J)I" } : Jvm.MethodName) jdk_35_method_48_code (3 : Nat) (Option.some Jvm.ClassFile.FieldType.int), Jvm.Cond.code ({ cls := "java/lang/Integer", name := "numberOfLeadingZeros", desc := "(I)I" } : Jvm.MethodName) jdk_33_method_47_code (2 : Nat) (Option.some Jvm.ClassFile.FieldType.int), Jvm.Cond.code ({ cls := "com/example/gieres/gieres/model/TupleTable", name := "setState", desc := "([JIII)V" } : Jvm.MethodName) prog_137_method_6_code (8 : Nat) (Option.none : Option Jvm.ClassFile.FieldType), Jvm.Cond.code ({ cls := "com/example/gieres/gieres/model/TupleTable", name := "state", desc := "([JII)I" } : Jvm.MethodName) prog_137_method_5_code (4 : Nat) (Option.some Jvm.ClassFile.FieldType.int), Jvm.Cond.code ({ cls := "com/example/gieres/gieres/model/TupleTableSetStatePinLaw", name := "same", desc := "([J[JIIJ)Z" } : Jvm.MethodName) method_3_code (6 : Nat) (Option.some Jvm.ClassFile.FieldType.boolean)]
set_option maxRecDepth 65536 in
theorem codes_eq : words1.filter isCode = codes1 := rfl
theorem w_codes : ∀ c ∈ words1.filter isCode, c.before args0 about1 = true := by
  rw [codes_eq]
  intro c hc
  simp only [codes1, List.mem_cons, List.not_mem_nil, or_false] at hc
  rcases hc with rfl | rfl | rfl | rfl | rfl | rfl | rfl | rfl
  · exact w_c0
  · exact w_c1
  · exact w_c2
  · exact w_c3
  · exact w_c4
  · exact w_c5
  · exact w_c6
  · exact w_c7
set_option maxRecDepth 65536 in
theorem w_t1 : (words1.take 24).all (fun c => isCode c || c.before args0 about1) = true := by decide +kernel
set_option maxRecDepth 65536 in
theorem w_t2 : ((words1.drop 24).take 24).all (fun c => isCode c || c.before args0 about1) = true := by decide +kernel
set_option maxRecDepth 65536 in
theorem w_t3 : ((words1.drop 24).drop 24).all (fun c => isCode c || c.before args0 about1) = true := by decide +kernel
theorem w_tables : (allAtoms (Jvm.Cond.code x code maxLocals ret :: tables_1)).before args0 about1 = true := by
  rw [allAtoms_all]
  show words1.all (fun c => c.before args0 about1) = true
  refine all_split ?_ w_codes
  rw [← List.take_append_drop 24 words1, List.all_append, w_t1, ← List.take_append_drop 24 (words1.drop 24), List.all_append, w_t2, w_t3]
  rfl
set_option maxRecDepth 65536 in
theorem w_case : (Jvm.Cond.and given_1 narrow_1).before args0 about1 = true := by decide +kernel
theorem w_applies : (headSpec (Jvm.Cond.code x code maxLocals ret :: tables_1) room_1).applies x e0.platform about1 = true :=
  (Spec.applies_iff w_frames).mpr ⟨w_running, w_runnable, w_alone, w_named, w_hears, w_ripe, w_room, w_tables⟩
theorem atStart : AtStart classFile x code maxLocals ret World_1 tables_1 room_1 Calls_1 rest_1 Pre_1 launch0 p0 e0 about1 theMethod args0 below0 :=
  ⟨lists_1, trivial, launch0.admits_env _ _ _, launch0.least_env, fairChoices_fair.cas, fairChoices_fair.clock, w_frames, w_args, w_heap, w_applies, trivial, trivial, w_case⟩
end start1
theorem witness_1 : WitnessClaimed_1 := ⟨start1.p0, start1.e0, start1.about1, start1.theMethod, start1.args0, start1.below0, start1.atStart⟩
end Jvm.Pilot.@@N@@
