import JvmDerived
import JvmDerived.Pilot.@@N@@Statement
import JvmDerived.Pilot.@@N@@Code
set_option linter.unusedVariables false
set_option linter.unusedSimpArgs false
namespace Jvm.Pilot.@@N@@
open Jvm Jvm.ClassFile Sem Op Lib Jvm.Free Jvm.Stand Jvm.LawKit Jvm.RoadKit Bundle Jvm.Pilot.@@N@@.Jvm.D
section Own
variable {p : Program} {l : Launch} {e : Env} {R : Room} {s : State} {m : MethodId} {args : Array Value} {below : List Frame} {meth : Method} {c : Code} {T : State} {locs : List Loc} {cells slots : Nat} {K : Outcome → State → Prop} {Z : State} {a0 : Array Value}
/-- from S the run comes to an end of which K is true -/
def Go (p : Program) (e : Env) (below : List Frame) (K : Outcome → State → Prop) (S : State) : Prop := ∃ s₂ o, Steps p.tables e below S s₂ ∧ s₂.status = .running ∧ Ended s₂ below o ∧ K o s₂
theorem Go.st {S S' : State} (h : ∀ t, Steps p.tables e below S' t → Steps p.tables e below S t) (k : Go p e below K S') : Go p e below K S := by
  obtain ⟨a, o, h1, r⟩ := k; exact ⟨a, o, h _ h1, r⟩
theorem Go.tr {S S' : State} (h : Steps p.tables e below S S') (k : Go p e below K S') : Go p e below K S := by
  obtain ⟨a, o, h1, r⟩ := k; exact ⟨a, o, h.trans h1, r⟩
def EndQ (s : State) (Q : Option Value → Heap → List Loc → Prop) (ce sl : Nat) (o : Outcome) (U : State) : Prop := ∃ v L, o = .returned v ∧ Q v U.heap L ∧ FrameEnd s o U L ce sl
theorem goRet {v : Option Value} {ce sl : Nat} {Q : Option Value → Heap → List Loc → Prop} {S : State} {h : Heap} (X : Stand p l e R s m args below meth c T locs cells slots) (hlk : meth.locks = false) (hv : meth.sig.returnType = none → v = none) (eT : T.heap = h)
    (step : ∀ fs, (∀ (f : JFrame) (acts : List Action), f.method = m → f.locked = none → f.entered = [] → (doReturn e (T.setTop f) acts v).1 = T.setFrames fs) → Steps p.tables e below S (T.setFrames fs))
    (hc : cells ≤ ce) (hs : slots ≤ sl) (hQ : Q v h locs) : Go p e below (EndQ s Q ce sl) S := by
  obtain ⟨fs, hr, hrun, hended, hW, hsame⟩ := X.leave (v := v) hv hlk
  subst eT
  exact ⟨_, _, step fs hr, hrun, hended, _, _, rfl, hQ, ⟨_, rfl⟩, hW, hsame.mono hc hs⟩
/-- ireturn of a boolean, byte, char, short -/
theorem goRetN {ce sl : Nat} {Q : Option Value → Heap → List Loc → Prop} {pc : Nat} {Ls : Array Slot} {z w : Int32} {rest : List Value} {t : FieldType} {h : Heap} (X : Stand p l e R s m args below meth c T locs cells slots) (hx : p.tables.exec = Jvm.exec) (hlk : meth.locks = false) (hret : meth.sig.returnType = some t) (ht : t = .boolean ∨ t = .byte ∨ t = .char ∨ t = .short) (hw : nar t z = w) (eT : T.heap = h)
    (hd : decode c.code pc = .ok (.ireturn, 1)) (hc : cells ≤ ce) (hs : slots ≤ sl) (hQ : Q (some (.int w)) h locs) : Go p e below (EndQ s Q ce sl) (T.setTop (mkF m pc Ls (.int z :: rest))) := by
  subst hw
  exact goRet X hlk (fun h => by rw [hret] at h; cases h) eT (fun fs hr => retN X hx hret ht hd hr) hc hs hQ
theorem goRetI {ce sl : Nat} {Q : Option Value → Heap → List Loc → Prop} {pc : Nat} {Ls : Array Slot} {z : Int32} {rest : List Value} {h : Heap} (X : Stand p l e R s m args below meth c T locs cells slots) (hx : p.tables.exec = Jvm.exec) (hlk : meth.locks = false) (hret : meth.sig.returnType = some .int) (eT : T.heap = h)
    (hd : decode c.code pc = .ok (.ireturn, 1)) (hc : cells ≤ ce) (hs : slots ≤ sl) (hQ : Q (some (.int z)) h locs) : Go p e below (EndQ s Q ce sl) (T.setTop (mkF m pc Ls (.int z :: rest))) :=
  goRet X hlk (fun h => by rw [hret] at h; cases h) eT (fun fs hr => retOut X hx hret rfl (Or.inl ⟨rfl, Or.inl rfl, z, rfl⟩) hd hr) hc hs hQ
theorem goRetJ {ce sl : Nat} {Q : Option Value → Heap → List Loc → Prop} {pc : Nat} {Ls : Array Slot} {z : Int64} {rest : List Value} {h : Heap} (X : Stand p l e R s m args below meth c T locs cells slots) (hx : p.tables.exec = Jvm.exec) (hlk : meth.locks = false) (hret : meth.sig.returnType = some .long) (eT : T.heap = h)
    (hd : decode c.code pc = .ok (.lreturn, 1)) (hc : cells ≤ ce) (hs : slots ≤ sl) (hQ : Q (some (.long z)) h locs) : Go p e below (EndQ s Q ce sl) (T.setTop (mkF m pc Ls (.long z :: rest))) :=
  goRet X hlk (fun h => by rw [hret] at h; cases h) eT (fun fs hr => retOut X hx hret rfl (Or.inr (Or.inl ⟨rfl, rfl, z, rfl⟩)) hd hr) hc hs hQ
theorem goRetA {ce sl : Nat} {Q : Option Value → Heap → List Loc → Prop} {pc : Nat} {Ls : Array Slot} {w : Value} {rest : List Value} {t : FieldType} {h : Heap} (X : Stand p l e R s m args below meth c T locs cells slots) (hx : p.tables.exec = Jvm.exec) (hlk : meth.locks = false) (hret : meth.sig.returnType = some t) (ht : t.isReference = true) (hw : w.isRef = true) (hn : narrow t w = w) (eT : T.heap = h)
    (hd : decode c.code pc = .ok (.areturn, 1)) (hc : cells ≤ ce) (hs : slots ≤ sl) (hQ : Q (some w) h locs) : Go p e below (EndQ s Q ce sl) (T.setTop (mkF m pc Ls (w :: rest))) :=
  goRet X hlk (fun h => by rw [hret] at h; cases h) eT (fun fs hr => retOut X hx hret hn (Or.inr (Or.inr (Or.inr (Or.inr ⟨rfl, ht, hw⟩)))) hd hr) hc hs hQ
theorem goRetV {ce sl : Nat} {Q : Option Value → Heap → List Loc → Prop} {pc : Nat} {Ls : Array Slot} {h : Heap} (X : Stand p l e R s m args below meth c T locs cells slots) (hx : p.tables.exec = Jvm.exec) (hlk : meth.locks = false) (hret : meth.sig.returnType = none) (eT : T.heap = h)
    (hd : decode c.code pc = .ok (.return_, 1)) (hc : cells ≤ ce) (hs : slots ≤ sl) (hQ : Q none h locs) : Go p e below (EndQ s Q ce sl) (T.setTop (mkF m pc Ls [])) :=
  goRet X hlk (fun _ => rfl) eT (fun fs hr => X.returnOut hx hret hd hr) hc hs hQ
/-- a method's contract, in the form that a caller takes -/
abbrev Ctr (l : Launch) (y : MethodName) (bytes : ByteArray) (maxL : Nat) (ret : Option FieldType) (ws : List Jvm.Cond) (rm : Room) (as : Array Value) (Z : State) (h0 : Heap) (Q : Option Value → Heap → List Loc → Prop) : Prop :=
  MetFree l y (head1 (Jvm.Cond.code y bytes maxL ret :: ws) rm) (fun a U => a = as ∧ Z.Warmed39 U.vm ∧ U.heap = h0) (fun _ _ _ _ _ => True) (fun _ U o U' => ∃ v L, o = .returned v ∧ Q v U'.heap L ∧ FrameEnd U o U' L rm.cells rm.slots)
theorem Ctr.of {y : MethodName} {bytes : ByteArray} {maxL : Nat} {ret : Option FieldType} {ws : List Jvm.Cond} {rm : Room} {as : Array Value} {h0 : Heap} {Q : Option Value → Heap → List Loc → Prop} (hpl : plainFor y = true)
    (body : ∀ (p : Program) (e : Env) (s : State) (m : MethodId) (below : List Frame) (meth : Method) (c : Code) (s₁ : State), p.tables.exec = Jvm.exec → Z.Warmed39 s.vm → c.code = bytes → c.maxLocals = maxL → s.vm.findClass y.cls = some m.cls → meth.name = y.name → meth.sig.returnType = ret → meth.locks = false →
      Stand p l e rm s m as below meth c s₁ [] 0 0 → s₁.heap = h0 → Go p e below (EndQ s Q rm.cells rm.slots) (s₁.setTop (entryFrame m as maxL))) :
    Ctr l y bytes maxL ret ws rm as Z h0 Q := by
  refine MetFree.of_bodySF hpl hisR ?_
  intro p e s m args below meth c s₁ Bd hml hP _
  obtain ⟨rfl, hZ, hh⟩ := hP
  exact body p e s m below meth c s₁ Bd.exec hZ Bd.bytes hml (findClass_of_methodNamed Bd.named) (name_of_methodNamed Bd.named Bd.method).1 Bd.returns Bd.notSynchronized (Stand.of_body Bd) (by rw [← hh, Bd.state]; rfl)
theorem goCallS (X : Stand p l e R s m args below meth c T locs cells slots) (hx : p.tables.exec = Jvm.exec) (hZ : Z.Warmed39 s.vm) {own : String} {index : Nat} {y : MethodName} {bytes : ByteArray} {maxL : Nat} {ret : Option FieldType} (hown : s.vm.findClass own = some m.cls)
    (w1 : (Jvm.Cond.methodLink own index y).before a0 Z = true) (w2 : (Jvm.Cond.static y).before a0 Z = true) (w3 : (Jvm.Cond.initialized y.cls).before a0 Z = true) (w4 : (Jvm.Cond.code y bytes maxL ret).before a0 Z = true) (hy : y.cls ≠ "java/lang/invoke/MethodHandle" ∧ y.cls ≠ "java/lang/invoke/VarHandle")
    {h : Heap} {rm : Room} {argsL rest : List Value} {Q : Option Value → Heap → List Loc → Prop} (eT : T.heap = h) (hC : Ctr l y bytes maxL ret [] rm argsL.toArray Z h Q) (W : Nat) (hf : rm.frames + 1 ≤ R.frames) (hl : W + (maxL + 11) + rm.locals ≤ R.locals) (hcl : cells + rm.cells ≤ R.cells) (hsl : slots + rm.slots ≤ R.slots)
    (g : JFrame) (hg : g.method = m) (hsize : g.locals.size = c.maxLocals) (hlen : ∀ sig, parseMethodDescriptor y.desc = some sig → argsL.length = sig.parameters.length) (hst : g.stack = argsL.reverse ++ rest) (hd : decode c.code g.pc = .ok (.invokestatic index, 3))
    (hW : 2 * g.monitorRoom + (rest.map fun v => v.category).sum ≤ W)
    (next : ∀ (v : Option Value) (T' : State) (L : List Loc), Stand p l e R s m args below meth c T' (locs ++ L) (cells + rm.cells) (slots + rm.slots) → Q v T'.heap L → Go p e below K (T'.setTop { g with pc := g.pc + 3, stack := v.toList ++ rest })) :
    Go p e below K (T.setTop g) := by
  subst eT
  obtain ⟨v, _, ⟨T', L', k', n'⟩, -, X', ⟨L, hQ, l1, y1, z1⟩, stp⟩ := Jvm.LawKit.callS X hx hown (mvT hZ w1) (mvT hZ w2) (mvT hZ w3) (mvT hZ w4) hy (backOf (W := W) hC hZ w4 w3 hf hl) (g := g) hg hsize hlen hst hW hd (fun _ _ => ⟨rfl, rfl, hcl, hsl⟩)
  dsimp only [Pt.U, Pt.locs, Pt.cells, Pt.slots] at X' l1 y1 z1 stp hQ
  subst l1 y1 z1
  exact Go.st stp (next v T' L X' hQ)
theorem goInit (X : Stand p l e R s m args below meth c T locs cells slots) (hx : p.tables.exec = Jvm.exec) (hZ : Z.Warmed39 s.vm) {own : String} {index : Nat} {y : MethodName} {bytes : ByteArray} {maxL : Nat} (hy1 : y.name = "<init>") (hown : s.vm.findClass own = some m.cls)
    (w1 : (Jvm.Cond.methodLink own index y).before a0 Z = true) (w2 : (Jvm.Cond.instanceMethod y).before a0 Z = true) (w3 : (Jvm.Cond.initialized y.cls).before a0 Z = true) (w4 : (Jvm.Cond.code y bytes maxL none).before a0 Z = true) (hy : y.cls ≠ "java/lang/invoke/MethodHandle" ∧ y.cls ≠ "java/lang/invoke/VarHandle")
    {h : Heap} {rm : Room} {a : Addr} {argsL rest : List Value} {Q : Option Value → Heap → List Loc → Prop} (eT : T.heap = h) (hC : Ctr l y bytes maxL none [] rm (.ref a :: argsL).toArray Z h Q) (W : Nat) (hf : rm.frames + 1 ≤ R.frames) (hl : W + (maxL + 11) + rm.locals ≤ R.locals) (hcl : cells + rm.cells ≤ R.cells) (hsl : slots + rm.slots ≤ R.slots)
    (g : JFrame) (hg : g.method = m) (hsize : g.locals.size = c.maxLocals) (hlen : ∀ sig, parseMethodDescriptor y.desc = some sig → argsL.length = sig.parameters.length) (hst : g.stack = argsL.reverse ++ .ref a :: rest) (hd : decode c.code g.pc = .ok (.invokespecial index, 3))
    (hW : 2 * g.monitorRoom + (rest.map fun v => v.category).sum ≤ W)
    (next : ∀ (v : Option Value) (T' : State) (L : List Loc), Stand p l e R s m args below meth c T' (locs ++ L) (cells + rm.cells) (slots + rm.slots) → Q v T'.heap L → Go p e below K (T'.setTop { g with pc := g.pc + 3, stack := v.toList ++ rest })) :
    Go p e below K (T.setTop g) := by
  subst eT
  obtain ⟨v, _, ⟨T', L', k', n'⟩, -, X', ⟨L, hQ, l1, y1, z1⟩, stp⟩ := X.specialBack hx hy1 hown (mvT hZ w1) (mvT hZ w2) (mvT hZ w4) hy (backOf (W := W) hC hZ w4 w3 hf hl) (g := g) hg hsize (Steps.refl _) hlen hst hW hd (fun _ _ => ⟨rfl, rfl, hcl, hsl⟩)
  dsimp only [Pt.U, Pt.locs, Pt.cells, Pt.slots] at X' l1 y1 z1 stp hQ
  subst l1 y1 z1
  exact Go.tr stp (next v T' L X' hQ)
theorem goVirt (X : Stand p l e R s m args below meth c T locs cells slots) (hx : p.tables.exec = Jvm.exec) (hZ : Z.Warmed39 s.vm) {own C : String} {index : Nat} {y z : MethodName} {bytes : ByteArray} {maxL : Nat} {ret : Option FieldType} (hown : s.vm.findClass own = some m.cls)
    (w1 : (Jvm.Cond.methodLink own index y).before a0 Z = true) (w2 : (Jvm.Cond.declares y).before a0 Z = true) (hnf : NotFace s y) (w5 : (Jvm.Cond.selects C y z).before a0 Z = true) (w6 : (Jvm.Cond.instanceMethod z).before a0 Z = true) (w3 : (Jvm.Cond.initialized z.cls).before a0 Z = true) (w4 : (Jvm.Cond.code z bytes maxL ret).before a0 Z = true) (hy : y.cls ≠ "java/lang/invoke/MethodHandle" ∧ y.cls ≠ "java/lang/invoke/VarHandle")
    {h : Heap} {rm : Room} {a : Addr} {argsL rest : List Value} {Q : Option Value → Heap → List Loc → Prop} (eT : T.heap = h) (E : Exa Z h a C) (hC : Ctr l z bytes maxL ret [] rm (.ref a :: argsL).toArray Z h Q) (W : Nat) (hf : rm.frames + 1 ≤ R.frames) (hl : W + (maxL + 11) + rm.locals ≤ R.locals) (hcl : cells + rm.cells ≤ R.cells) (hsl : slots + rm.slots ≤ R.slots)
    (g : JFrame) (hg : g.method = m) (hsize : g.locals.size = c.maxLocals) (hlen : ∀ sig, parseMethodDescriptor y.desc = some sig → argsL.length = sig.parameters.length) (hst : g.stack = argsL.reverse ++ .ref a :: rest) (hd : decode c.code g.pc = .ok (.invokevirtual index, 3))
    (hW : 2 * g.monitorRoom + (rest.map fun v => v.category).sum ≤ W)
    (next : ∀ (v : Option Value) (T' : State) (L : List Loc), Stand p l e R s m args below meth c T' (locs ++ L) (cells + rm.cells) (slots + rm.slots) → Q v T'.heap L → Go p e below K (T'.setTop { g with pc := g.pc + 3, stack := v.toList ++ rest })) :
    Go p e below K (T.setTop g) := by
  subst eT
  obtain ⟨cq, kq, qa, qb, qc⟩ := isOf (T := T) hZ rfl E
  obtain ⟨v, _, ⟨T', L', k', n'⟩, -, X', ⟨L, hQ, l1, y1, z1⟩, stp⟩ := X.virtualBack hx hown (mvT hZ w1) (mvT hZ w2) hnf (mvT hZ w5) (mvT hZ w6) hy (backOf (W := W) hC hZ w4 w3 hf hl) qa qc (g := g) hg hsize (Steps.refl _) hlen hst hW hd (fun _ _ => ⟨rfl, rfl, hcl, hsl⟩)
  dsimp only [Pt.U, Pt.locs, Pt.cells, Pt.slots] at X' l1 y1 z1 stp hQ
  subst l1 y1 z1
  exact Go.tr stp (next v T' L X' hQ)
theorem oldGe {h : Heap} {n0 : Nat} {b : Addr} (O : Old Z n0 h) (g : b = h.size) : n0 ≤ b := by rw [g, ← O.1]; exact O.2.1
theorem oldSta {h : Heap} {n0 : Nat} {C n d : String} {v : Value} (O : Old Z n0 h) (S : Sta Z Z.heap C n d v) : Sta Z h C n d v := S.ext O.2
theorem oldExa {h : Heap} {n0 : Nat} {C : String} {a : Addr} (O : Old Z n0 h) (S : Exa Z Z.heap a C) : Exa Z h a C := S.ext O.2
theorem oldFld {h : Heap} {n0 : Nat} {a : Addr} {C n d : String} {v : Value} (O : Old Z n0 h) (S : Fld Z Z.heap a C n d v) : Fld Z h a C n d v := S.ext O.2
end Own
theorem fldStart {args : Array Value} {Z : State} {t : Term} {a : Addr} {C n d : String} {v : Int32} (ev : t.eval args Z none [] Z = some (.ref a)) (h : (Jvm.Cond.eq (.field t C n d) (.int v)).value args Z none Z [] = some true) : Fld Z Z.heap a C n d (.int v) := by
  cases hf : Z.fieldOf? a C n d with
  | none => simp [Cond.value, Term.eval, ev, hf] at h
  | some x =>
    cases x <;> simp [Cond.value, Term.eval, ev, hf] at h
    exact Fld.start (by rw [hf, h])
theorem staInt {args : Array Value} {Z : State} {C n d : String} {v : Int32} (h : (Jvm.Cond.eq (.static C n d) (.int v)).value args Z none Z [] = some true) : (Term.static C n d).eval args Z none [] Z = some (.int v) := by
  obtain ⟨x, y, h1, h2, k1, k2⟩ := cmp_v (Or.inl h)
  cases (Term.int_eval v (args := args) (first := Z) (o := none) (idx := []) (s := Z)).symm.trans h2
  obtain ⟨z, rfl⟩ := k2
  rw [h1]
  simp [Cond.value, h1, Term.int_eval] at h
  rw [h]
theorem narZ {z : Int32} (h : z = 0 ∨ z = 1) : nar .boolean z = z := by rcases h with rfl | rfl <;> decide
theorem goJoin {p : Program} {e : Env} {below : List Frame} {K : Outcome → State → Prop} {S : State} {α : Type} {P : α → Prop} {F : α → State} (h1 : ∀ z, P z → Go p e below K (F z)) (h2 : (∀ z, P z → Go p e below K (F z)) → Go p e below K S) : Go p e below K S := h2 h1
theorem own_bit {z : Int32} {P : Prop} [Decidable P] (h : z = (if P then (1 : Int32) else 0)) : z = 0 ∨ z = 1 := by rw [h]; by_cases q : P <;> simp [q]
theorem lenStart {args : Array Value} {Z : State} {t : Term} {a : Addr} {cl : Cell} {n : Int32} (ev : t.eval args Z none [] Z = some (.ref a)) (ha : Z.arrayAt? a = some cl) (h : (Jvm.Cond.eq (.length t) (.int n)).value args Z none Z [] = some true) : cl.slots.size < 2 ^ 31 ∧ cl.slots.size.toInt32 = n := by
  have h1 := eqv_i (Term.int_eval n) h
  by_cases q : cl.slots.size < 2 ^ 31
  · rw [len_f ev ha q] at h1
    exact ⟨q, by simpa using h1⟩
  · simp [Term.eval, ev, ha, q] at h1
theorem nsRoot {Z : State} {a0 : Array Value} {O K : String} {n : Nat} (w : (Jvm.Cond.noSuperclass O).before a0 Z = true) (wi : (Jvm.Cond.instantiable K n).before a0 Z = true) (hn : O ≠ K) : NS Z O K := by
  obtain ⟨c, k, h1, h2, h3, -, -⟩ := Cond.noSuperclass_spec w
  obtain ⟨t, k', g1, -⟩ := Cond.instantiable_spec wi
  have ne := ids_ne h1 g1 hn
  refine ⟨c, t, h1, g1, fun fuel => ?_⟩
  cases fuel with
  | zero => rfl
  | succ f => simp [Vm.isSubclassAux, ne, h2, h3]
theorem nsNo {Z : State} {a0 : Array Value} {C S K : String} {n : Nat} (w : (Jvm.Cond.superclass C S).before a0 Z = true) (wi : (Jvm.Cond.instantiable K n).before a0 Z = true) (nn : NS Z C K) (hn : C ≠ K) : ∃ c t, Z.vm.findClass C = some c ∧ Z.vm.findClass K = some t ∧ Z.vm.assignable c t = false := by
  obtain ⟨c, t, h0, g0, n3⟩ := nn
  obtain ⟨p, k, kp, h1, h2, h3, h4, h5, -, h7⟩ := Cond.superclass_spec h0 w
  obtain ⟨t', k', g1, g2, g5, g6, -⟩ := Cond.instantiable_spec wi
  cases g0.symm.trans g1
  have g7 : k'.isInterface = false := by
    cases hq : k'.isInterface with
    | false => rfl
    | true => rw [hq] at g6; simp at g6
  have ne := ids_ne h0 g0 hn
  refine ⟨c, t, h0, g0, ?_⟩
  show Z.vm.assignableAux (255 + 1) c t = false
  simp [Vm.assignableAux, ne, h2, g2, h5, g5, g7, Vm.isSubclass, n3]
theorem subAt {args : Array Value} {Z : State} {a b : Term} {idx : List Nat} {x y : Int32} (ha : a.eval args Z none idx Z = some (.int x)) (hb : b.eval args Z none idx Z = some (.int y)) : (Term.sub a b).eval args Z none idx Z = some (.int (x - y)) := by simp [Term.eval, ha, hb]
theorem elemStart {args : Array Value} {Z : State} {t u : Term} {a w : Addr} {cl : Cell} {ty : FieldType} {j : Int32} (ev : t.eval args Z none [] Z = some (.ref a)) (A : Arr Z Z.heap a cl ty) (evu : u.eval args Z none [] Z = some (.ref w)) (h : (Jvm.Cond.eq (.elem t (.int j)) u).value args Z none Z [] = some true) : cl.slots[j.toNatClampNeg]? = some (.ref w) := by
  obtain ⟨x, y, h1, h2, k1, k2⟩ := cmp_v (Or.inl h)
  cases evu.symm.trans h2
  have hx : x.isRef = true := k2.2
  have e : x = .ref w := gotT (eq_R h1 h2 hx rfl) h
  rw [← e]
  exact (elem_in h1 ev (Term.int_eval j) A.1).2
theorem own_ite {P Q : Prop} [Decidable P] [Decidable Q] (h : P ↔ Q) : (if P then (1 : Int32) else 0) = (if Q then (1 : Int32) else 0) := by
  by_cases p : P
  · rw [if_pos p, if_pos (h.mp p)]
  · rw [if_neg p, if_neg (fun q => p (h.mpr q))]

theorem pd_0 : parseMethodDescriptor "()[Lcom/example/oftcast/oftcast/feed/PacketType;" = some ⟨[], some (.array (.object "com/example/oftcast/oftcast/feed/PacketType"))⟩ := by decide +kernel
theorem pd_1 : parseMethodDescriptor "(B)Lcom/example/oftcast/oftcast/feed/PacketType;" = some ⟨[.byte], some (.object "com/example/oftcast/oftcast/feed/PacketType")⟩ := by decide +kernel
theorem pd_2 : parseMethodDescriptor "()B" = some ⟨[], some .byte⟩ := by decide +kernel
theorem d2_0 : decode prog_36_method_1_code 0 = .ok (.getstatic 13, 3) := by decide +kernel
theorem d2_3 : decode prog_36_method_1_code 3 = .ok (.invokevirtual 17, 3) := by decide +kernel
theorem d2_6 : decode prog_36_method_1_code 6 = .ok (.checkcast 18, 3) := by decide +kernel
theorem d2_9 : decode prog_36_method_1_code 9 = .ok (.areturn, 1) := by decide +kernel
theorem pn_2 : plainName "com/example/oftcast/oftcast/feed/PacketType" = true := by first | (simp [plainName, overriddenIn]; done) | decide +kernel
set_option maxRecDepth 65536 in
set_option maxHeartbeats 40000000 in
theorem rm1 (l : Launch) (Z : State) (a0 : Array Value) (hw : ∀ d ∈ tables_1, d.before a0 Z = true) (ws : List Jvm.Cond) (w__VALUES : Addr) (w_DATA w_HEARTBEAT w_END_OF_SESSION : Addr) (kv : ClassId) (h0 : Heap) (n0 : Nat) (O0 : Old Z n0 h0) (S_w__VALUES : Sta Z Z.heap "com/example/oftcast/oftcast/feed/PacketType" "$VALUES" "[Lcom/example/oftcast/oftcast/feed/PacketType;" (.ref w__VALUES)) (V0 : Arv Z h0 w__VALUES kv (.object "com/example/oftcast/oftcast/feed/PacketType") (3 : Int32) [(.ref w_DATA), (.ref w_HEARTBEAT), (.ref w_END_OF_SESSION)] .null) (E0 : Exa Z h0 w__VALUES "[Lcom/example/oftcast/oftcast/feed/PacketType;") :
    Ctr l (⟨"com/example/oftcast/oftcast/feed/PacketType", "values", "()[Lcom/example/oftcast/oftcast/feed/PacketType;"⟩ : MethodName) prog_36_method_1_code 0 (some (.array (.object "com/example/oftcast/oftcast/feed/PacketType"))) ws ({ frames := 1, cells := 1, slots := 3, locals := 16 } : Room) #[] Z h0 (fun v h L => (∃ b, v = some (.ref b) ∧ Arv Z h b kv (.object "com/example/oftcast/oftcast/feed/PacketType") (3 : Int32) [(.ref w_DATA), (.ref w_HEARTBEAT), (.ref w_END_OF_SESSION)] .null) ∧ Fr n0 L ∧ Keep h0 h []) := by
  have ef : ∀ m : MethodId, entryFrame m #[] 0 = mkF m 0 #[] [] := fun m => by first | (simp [entryFrame, mkF, argsToLocals, Value.category]; done) | rfl
  refine Ctr.of (plainFor_of_name pn_2) ?_
  intro p e s m below meth c s₁ hx hZ hby hml hown0 hnm hret hlk X0 e0
  have hown : s.vm.findClass "com/example/oftcast/oftcast/feed/PacketType" = some m.cls := hown0
  have N0 := Fr.nil n0
  refine Go.st (fun t k => castTop (ef m) k) ?_
  show Go p e below _ (s₁.setTop (mkF m 0 #[] []))
  obtain ⟨T1, X1, e1, st1⟩ := getS2 X0 hx hZ hown (host := "") (Or.inl (hw _ (List.mem_of_getElem? (i := 7) rfl))) Via.refl e0 (oldSta O0 S_w__VALUES) (g := (mkF m 0 #[] [])) rfl (hb hby d2_0)
  refine Go.st st1 ?_
  show Go p e below _ (T1.setTop (mkF m 3 #[] [(.ref w__VALUES)]))
  obtain ⟨T2, h2, X2, e2, E2, A2, B2, st2⟩ := cloneH X1 hx hZ hown (hw _ (List.mem_of_getElem? (i := 9) rfl)) (hw _ (List.mem_of_getElem? (i := 10) rfl)) (hw _ (List.mem_of_getElem? (i := 14) rfl)) (hw _ (List.mem_of_getElem? (i := 12) rfl)) (hw _ (List.mem_of_getElem? (i := 13) rfl)) (hw _ (List.mem_of_getElem? (i := 15) rfl)) e1 V0.arh E0 (g := (mkF m 3 #[] [(.ref w__VALUES)])) rfl (by rw [hml]; rfl) rfl (hb hby d2_3) (by decide) (W := 0) (cap := 3) (by show 2 * 0 + _ ≤ _; exact Nat.le_of_eq rfl) (by decide) (by decide) (by decide) (by decide)
  obtain ⟨b2, g2⟩ : ∃ z, z = h0.size := ⟨_, rfl⟩
  rw [← g2] at A2 B2 st2
  refine Go.st st2 ?_
  have gn2 : n0 ≤ b2 := oldGe O0 g2
  have sz2 : h0.size ≤ b2 := Nat.le_trans (Keep.refl h0 []).1 (Nat.le_of_eq g2.symm)
  have ne3 : w__VALUES ≠ b2 := Nat.ne_of_lt (Nat.lt_of_lt_of_le V0.lt (Nat.le_of_eq g2.symm))
  have O4 : Old Z n0 h2 := O0.ext E2
  have V_5 : Arv Z h2 w__VALUES kv (.object "com/example/oftcast/oftcast/feed/PacketType") (3 : Int32) [(.ref w_DATA), (.ref w_HEARTBEAT), (.ref w_END_OF_SESSION)] .null := V0.ext E2
  have E_6 : Exa Z h2 w__VALUES "[Lcom/example/oftcast/oftcast/feed/PacketType;" := E0.ext E2
  have K7 : Keep h0 h2 [] := (Keep.refl h0 []).ext E2
  have V_8 : Arv Z h2 b2 kv (.object "com/example/oftcast/oftcast/feed/PacketType") (3 : Int32) [(.ref w_DATA), (.ref w_HEARTBEAT), (.ref w_END_OF_SESSION)] .null := A2
  show Go p e below _ (T2.setTop (mkF m 6 #[] [(.ref b2)]))
  obtain ⟨T9, X9, e9, st9⟩ := castY X2 hx hZ hown (hw _ (List.mem_of_getElem? (i := 20) rfl)) e2 (Ins.self B2) (g := (mkF m 6 #[] [(.ref b2)])) rfl rfl (hb hby d2_6)
  refine Go.st st9 ?_
  show Go p e below _ (T9.setTop (mkF m 9 #[] [(.ref b2)]))
  exact goRetA X9 hx hlk hret rfl rfl rfl e9 (hb hby d2_9) (by decide) (by decide) ⟨⟨b2, rfl, V_8⟩, N0, K7⟩
theorem d1_0 : decode prog_36_method_5_code 0 = .ok (.invokestatic 36, 3) := by decide +kernel
theorem d1_3 : decode prog_36_method_5_code 3 = .ok (.astore_n 1, 1) := by decide +kernel
theorem d1_4 : decode prog_36_method_5_code 4 = .ok (.aload_n 1, 1) := by decide +kernel
theorem d1_5 : decode prog_36_method_5_code 5 = .ok (.arraylength, 1) := by decide +kernel
theorem d1_6 : decode prog_36_method_5_code 6 = .ok (.istore_n 2, 1) := by decide +kernel
theorem d1_7 : decode prog_36_method_5_code 7 = .ok (.iconst 0, 1) := by decide +kernel
theorem d1_8 : decode prog_36_method_5_code 8 = .ok (.istore_n 3, 1) := by decide +kernel
theorem d1_9 : decode prog_36_method_5_code 9 = .ok (.iload_n 3, 1) := by decide +kernel
theorem d1_10 : decode prog_36_method_5_code 10 = .ok (.iload_n 2, 1) := by decide +kernel
theorem d1_11 : decode prog_36_method_5_code 11 = .ok (.if_icmp .ge 26, 3) := by decide +kernel
theorem d1_14 : decode prog_36_method_5_code 14 = .ok (.aload_n 1, 1) := by decide +kernel
theorem d1_15 : decode prog_36_method_5_code 15 = .ok (.iload_n 3, 1) := by decide +kernel
theorem d1_16 : decode prog_36_method_5_code 16 = .ok (.aaload, 1) := by decide +kernel
theorem d1_17 : decode prog_36_method_5_code 17 = .ok (.astore 4, 2) := by decide +kernel
theorem d1_19 : decode prog_36_method_5_code 19 = .ok (.aload 4, 2) := by decide +kernel
theorem d1_21 : decode prog_36_method_5_code 21 = .ok (.getfield 32, 3) := by decide +kernel
theorem d1_24 : decode prog_36_method_5_code 24 = .ok (.iload_n 0, 1) := by decide +kernel
theorem d1_25 : decode prog_36_method_5_code 25 = .ok (.if_icmp .ne 6, 3) := by decide +kernel
theorem d1_28 : decode prog_36_method_5_code 28 = .ok (.aload 4, 2) := by decide +kernel
theorem d1_30 : decode prog_36_method_5_code 30 = .ok (.areturn, 1) := by decide +kernel
theorem d1_31 : decode prog_36_method_5_code 31 = .ok (.iinc 3 1, 3) := by decide +kernel
theorem d1_34 : decode prog_36_method_5_code 34 = .ok (.goto (-25), 3) := by decide +kernel
theorem d1_37 : decode prog_36_method_5_code 37 = .ok (.aconst_null, 1) := by decide +kernel
theorem d1_38 : decode prog_36_method_5_code 38 = .ok (.areturn, 1) := by decide +kernel
theorem pn_1 : plainName "com/example/oftcast/oftcast/feed/PacketType" = true := by first | (simp [plainName, overriddenIn]; done) | decide +kernel
set_option maxRecDepth 65536 in
set_option maxHeartbeats 40000000 in
theorem rm2 (l : Launch) (Z : State) (a0 : Array Value) (hw : ∀ d ∈ tables_1, d.before a0 Z = true) (ws : List Jvm.Cond) (p1 : Int32) (w__VALUES : Addr) (w_DATA w_HEARTBEAT w_END_OF_SESSION : Addr) (kv : ClassId) (h0 : Heap) (n0 : Nat) (O0 : Old Z n0 h0) (S_w__VALUES : Sta Z Z.heap "com/example/oftcast/oftcast/feed/PacketType" "$VALUES" "[Lcom/example/oftcast/oftcast/feed/PacketType;" (.ref w__VALUES)) (V0 : Arv Z h0 w__VALUES kv (.object "com/example/oftcast/oftcast/feed/PacketType") (3 : Int32) [(.ref w_DATA), (.ref w_HEARTBEAT), (.ref w_END_OF_SESSION)] .null) (E0 : Exa Z h0 w__VALUES "[Lcom/example/oftcast/oftcast/feed/PacketType;") (F_w_DATA : Fld Z h0 w_DATA "com/example/oftcast/oftcast/feed/PacketType" "code" "B" (.int (85 : Int32))) (F_w_HEARTBEAT : Fld Z h0 w_HEARTBEAT "com/example/oftcast/oftcast/feed/PacketType" "code" "B" (.int (72 : Int32))) (F_w_END_OF_SESSION : Fld Z h0 w_END_OF_SESSION "com/example/oftcast/oftcast/feed/PacketType" "code" "B" (.int (69 : Int32))) :
    Ctr l (⟨"com/example/oftcast/oftcast/feed/PacketType", "of", "(B)Lcom/example/oftcast/oftcast/feed/PacketType;"⟩ : MethodName) prog_36_method_5_code 5 (some (.object "com/example/oftcast/oftcast/feed/PacketType")) ws ({ frames := 2, cells := 1, slots := 3, locals := 27 } : Room) #[(.int p1)] Z h0 (fun v h L => v = some (if p1 = 85 then Value.ref w_DATA else if p1 = 72 then Value.ref w_HEARTBEAT else if p1 = 69 then Value.ref w_END_OF_SESSION else Value.null) ∧ Fr n0 L ∧ Keep h0 h []) := by
  have ef : ∀ m : MethodId, entryFrame m #[(.int p1)] 5 = mkF m 0 #[.val (.int p1), .unset, .unset, .unset, .unset] [] := fun m => by first | (simp [entryFrame, mkF, argsToLocals, Value.category]; done) | rfl
  refine Ctr.of (plainFor_of_name pn_1) ?_
  intro p e s m below meth c s₁ hx hZ hby hml hown0 hnm hret hlk X0 e0
  have hown : s.vm.findClass "com/example/oftcast/oftcast/feed/PacketType" = some m.cls := hown0
  have N0 := Fr.nil n0
  refine Go.st (fun t k => castTop (ef m) k) ?_
  show Go p e below _ (s₁.setTop (mkF m 0 #[.val (.int p1), .unset, .unset, .unset, .unset] []))
  refine goCallS X0 hx hZ (y := (⟨"com/example/oftcast/oftcast/feed/PacketType", "values", "()[Lcom/example/oftcast/oftcast/feed/PacketType;"⟩ : MethodName)) hown (hw _ (List.mem_of_getElem? (i := 4) rfl)) (hw _ (List.mem_of_getElem? (i := 5) rfl)) (hw _ (List.mem_of_getElem? (i := 2) rfl)) (hw _ (List.mem_of_getElem? (i := 6) rfl)) (by decide) (argsL := []) (rest := []) e0 (rm1 l Z a0 hw [] w__VALUES w_DATA w_HEARTBEAT w_END_OF_SESSION kv h0 n0 O0 S_w__VALUES V0 E0) 0 (by decide) (by decide) (by decide) (by decide) (mkF m 0 #[.val (.int p1), .unset, .unset, .unset, .unset] []) rfl (by rw [hml]; rfl) (lenOf pd_0 rfl) rfl (hb hby d1_0) (Nat.le_of_eq rfl) ?_
  intro v1 T1 L1 X1 hQ1
  obtain ⟨⟨r1, rfl, Vr1⟩, M1, K1⟩ := hQ1
  have N1 := Fr.app N0 M1
  have O2 : Old Z n0 T1.heap := O0.keep K1 all0
  have V_3 : Arv Z T1.heap w__VALUES kv (.object "com/example/oftcast/oftcast/feed/PacketType") (3 : Int32) [(.ref w_DATA), (.ref w_HEARTBEAT), (.ref w_END_OF_SESSION)] .null := V0.keep K1 nin0
  have E_4 : Exa Z T1.heap w__VALUES "[Lcom/example/oftcast/oftcast/feed/PacketType;" := E0.keep K1
  have F5 : Fld Z T1.heap w_DATA "com/example/oftcast/oftcast/feed/PacketType" "code" "B" (.int (85 : Int32)) := F_w_DATA.keep K1 nin0
  have F6 : Fld Z T1.heap w_HEARTBEAT "com/example/oftcast/oftcast/feed/PacketType" "code" "B" (.int (72 : Int32)) := F_w_HEARTBEAT.keep K1 nin0
  have F7 : Fld Z T1.heap w_END_OF_SESSION "com/example/oftcast/oftcast/feed/PacketType" "code" "B" (.int (69 : Int32)) := F_w_END_OF_SESSION.keep K1 nin0
  have K8 : Keep h0 T1.heap [] := (Keep.refl h0 []).trans K1 all0
  show Go p e below _ (T1.setTop (mkF m 3 #[.val (.int p1), .unset, .unset, .unset, .unset] [(.ref r1)]))
  refine Go.st (fun _ => XS.astoreN X1.here hx rfl (hb hby d1_3) rfl rfl (l' := #[.val (.int p1), .val (.ref r1), .unset, .unset, .unset]) rfl) ?_
  show Go p e below _ (T1.setTop (mkF m 4 #[.val (.int p1), .val (.ref r1), .unset, .unset, .unset] []))
  refine Go.st (fun _ => XS.aloadN X1.here hx rfl (hb hby d1_4) rfl rfl) ?_
  show Go p e below _ (T1.setTop (mkF m 5 #[.val (.int p1), .val (.ref r1), .unset, .unset, .unset] [(.ref r1)]))
  obtain ⟨cl9, Ar9, qk9, Sz9, Nn9, Ha9, Ga9⟩ := id Vr1
  refine Go.st (fun _ => X1.arraylength hx Ar9.1 (State.isArrayOf_alike hZ.alike Ar9.2.1) (g := (mkF m 5 #[.val (.int p1), .val (.ref r1), .unset, .unset, .unset] [(.ref r1)])) rfl rfl (hb hby d1_5) _) ?_
  rw [len_of Sz9 Nn9]
  show Go p e below _ (T1.setTop (mkF m 6 #[.val (.int p1), .val (.ref r1), .unset, .unset, .unset] [(.int (3 : Int32))]))
  refine Go.st (fun _ => XS.istoreN X1.here hx rfl (hb hby d1_6) rfl (l' := #[.val (.int p1), .val (.ref r1), .val (.int (3 : Int32)), .unset, .unset]) rfl) ?_
  show Go p e below _ (T1.setTop (mkF m 7 #[.val (.int p1), .val (.ref r1), .val (.int (3 : Int32)), .unset, .unset] []))
  refine Go.st (fun _ => XS.iconst X1.here hx rfl (hb hby d1_7)) ?_
  show Go p e below _ (T1.setTop (mkF m 8 #[.val (.int p1), .val (.ref r1), .val (.int (3 : Int32)), .unset, .unset] [(.int (0 : Int32))]))
  refine Go.st (fun _ => XS.istoreN X1.here hx rfl (hb hby d1_8) rfl (l' := #[.val (.int p1), .val (.ref r1), .val (.int (3 : Int32)), .val (.int (0 : Int32)), .unset]) rfl) ?_
  show Go p e below _ (T1.setTop (mkF m 9 #[.val (.int p1), .val (.ref r1), .val (.int (3 : Int32)), .val (.int (0 : Int32)), .unset] []))
  refine Go.st (fun _ => XS.iloadN X1.here hx rfl (hb hby d1_9) rfl) ?_
  show Go p e below _ (T1.setTop (mkF m 10 #[.val (.int p1), .val (.ref r1), .val (.int (3 : Int32)), .val (.int (0 : Int32)), .unset] [(.int (0 : Int32))]))
  refine Go.st (fun _ => XS.iloadN X1.here hx rfl (hb hby d1_10) rfl) ?_
  show Go p e below _ (T1.setTop (mkF m 11 #[.val (.int p1), .val (.ref r1), .val (.int (3 : Int32)), .val (.int (0 : Int32)), .unset] [(.int (3 : Int32)), (.int (0 : Int32))]))
  refine Go.st (fun _ => XS.icmpNo X1.here hx rfl (hb hby d1_11) rfl (tlt (by decide : (0 : Int32) < (3 : Int32))).2.1) ?_
  show Go p e below _ (T1.setTop (mkF m 14 #[.val (.int p1), .val (.ref r1), .val (.int (3 : Int32)), .val (.int (0 : Int32)), .unset] []))
  refine Go.st (fun _ => XS.aloadN X1.here hx rfl (hb hby d1_14) rfl rfl) ?_
  show Go p e below _ (T1.setTop (mkF m 15 #[.val (.int p1), .val (.ref r1), .val (.int (3 : Int32)), .val (.int (0 : Int32)), .unset] [(.ref r1)]))
  refine Go.st (fun _ => XS.iloadN X1.here hx rfl (hb hby d1_15) rfl) ?_
  show Go p e below _ (T1.setTop (mkF m 16 #[.val (.int p1), .val (.ref r1), .val (.int (3 : Int32)), .val (.int (0 : Int32)), .unset] [(.int (0 : Int32)), (.ref r1)]))
  obtain ⟨cl10, Ar10, qk10, Sz10, Nn10, Ha10, Ga10⟩ := id Vr1
  have hin10 : ¬ ((0 : Int32) < 0 ∨ cl10.slots.size ≤ ((0 : Int32) : Int32).toNatClampNeg) := inb_of Sz10 ⟨by decide, by decide⟩
  refine Go.st (fun _ => X1.aaload hx (j := (0 : Int32)) (v := (.ref w_DATA)) Ar10.1 (State.isArrayOf_alike hZ.alike Ar10.2.1) rfl Ar10.2.2 hin10 (Has.at Ha10 hin10 rfl) (g := (mkF m 16 #[.val (.int p1), .val (.ref r1), .val (.int (3 : Int32)), .val (.int (0 : Int32)), .unset] [(.int (0 : Int32)), (.ref r1)])) rfl rfl (hb hby d1_16) _) ?_
  show Go p e below _ (T1.setTop (mkF m 17 #[.val (.int p1), .val (.ref r1), .val (.int (3 : Int32)), .val (.int (0 : Int32)), .unset] [(.ref w_DATA)]))
  refine Go.st (fun _ => XS.astore X1.here hx rfl (hb hby d1_17) rfl rfl (l' := #[.val (.int p1), .val (.ref r1), .val (.int (3 : Int32)), .val (.int (0 : Int32)), .val (.ref w_DATA)]) rfl) ?_
  show Go p e below _ (T1.setTop (mkF m 19 #[.val (.int p1), .val (.ref r1), .val (.int (3 : Int32)), .val (.int (0 : Int32)), .val (.ref w_DATA)] []))
  refine Go.st (fun _ => XS.aload X1.here hx rfl (hb hby d1_19) rfl rfl) ?_
  show Go p e below _ (T1.setTop (mkF m 21 #[.val (.int p1), .val (.ref r1), .val (.int (3 : Int32)), .val (.int (0 : Int32)), .val (.ref w_DATA)] [(.ref w_DATA)]))
  obtain ⟨T11, X11, e11, st11⟩ := getF X1 hx hZ hown (host := "") (Or.inl (hw _ (List.mem_of_getElem? (i := 22) rfl))) Via.refl rfl F5 (g := (mkF m 21 #[.val (.int p1), .val (.ref r1), .val (.int (3 : Int32)), .val (.int (0 : Int32)), .val (.ref w_DATA)] [(.ref w_DATA)])) rfl rfl (hb hby d1_21)
  refine Go.st st11 ?_
  show Go p e below _ (T11.setTop (mkF m 24 #[.val (.int p1), .val (.ref r1), .val (.int (3 : Int32)), .val (.int (0 : Int32)), .val (.ref w_DATA)] [(.int (85 : Int32))]))
  refine Go.st (fun _ => XS.iloadN X11.here hx rfl (hb hby d1_24) rfl) ?_
  show Go p e below _ (T11.setTop (mkF m 25 #[.val (.int p1), .val (.ref r1), .val (.int (3 : Int32)), .val (.int (0 : Int32)), .val (.ref w_DATA)] [(.int p1), (.int (85 : Int32))]))
  by_cases hc12 : (85 : Int32) = p1
  · refine Go.st (fun _ => XS.icmpNo X11.here hx rfl (hb hby d1_25) rfl (teq hc12).2) ?_
    show Go p e below _ (T11.setTop (mkF m 28 #[.val (.int p1), .val (.ref r1), .val (.int (3 : Int32)), .val (.int (0 : Int32)), .val (.ref w_DATA)] []))
    refine Go.st (fun _ => XS.aload X11.here hx rfl (hb hby d1_28) rfl rfl) ?_
    show Go p e below _ (T11.setTop (mkF m 30 #[.val (.int p1), .val (.ref r1), .val (.int (3 : Int32)), .val (.int (0 : Int32)), .val (.ref w_DATA)] [(.ref w_DATA)]))
    have khc12 : p1 = 85 := hc12.symm
    exact goRetA X11 hx hlk hret rfl rfl rfl e11 (hb hby d1_30) (by decide) (by decide) ⟨by simp [khc12], N1, K8⟩
  · refine Go.st (fun _ => XS.icmpYes X11.here hx rfl (pc0 := 25) (pc' := 31) rfl (hb hby d1_25) rfl (feq hc12).2 (by decide) (by decide)) ?_
    show Go p e below _ (T11.setTop (mkF m 31 #[.val (.int p1), .val (.ref r1), .val (.int (3 : Int32)), .val (.int (0 : Int32)), .val (.ref w_DATA)] []))
    refine Go.st (fun _ => XS.iinc X11.here hx rfl (hb hby d1_31) rfl (l' := #[.val (.int p1), .val (.ref r1), .val (.int (3 : Int32)), .val (.int (1 : Int32)), .val (.ref w_DATA)]) rfl) ?_
    show Go p e below _ (T11.setTop (mkF m 34 #[.val (.int p1), .val (.ref r1), .val (.int (3 : Int32)), .val (.int (1 : Int32)), .val (.ref w_DATA)] []))
    refine Go.st (fun _ => XS.goto X11.here hx rfl (pc0 := 34) (pc' := 9) rfl (hb hby d1_34) (by decide) (by decide)) ?_
    show Go p e below _ (T11.setTop (mkF m 9 #[.val (.int p1), .val (.ref r1), .val (.int (3 : Int32)), .val (.int (1 : Int32)), .val (.ref w_DATA)] []))
    refine Go.st (fun _ => XS.iloadN X11.here hx rfl (hb hby d1_9) rfl) ?_
    show Go p e below _ (T11.setTop (mkF m 10 #[.val (.int p1), .val (.ref r1), .val (.int (3 : Int32)), .val (.int (1 : Int32)), .val (.ref w_DATA)] [(.int (1 : Int32))]))
    refine Go.st (fun _ => XS.iloadN X11.here hx rfl (hb hby d1_10) rfl) ?_
    show Go p e below _ (T11.setTop (mkF m 11 #[.val (.int p1), .val (.ref r1), .val (.int (3 : Int32)), .val (.int (1 : Int32)), .val (.ref w_DATA)] [(.int (3 : Int32)), (.int (1 : Int32))]))
    refine Go.st (fun _ => XS.icmpNo X11.here hx rfl (hb hby d1_11) rfl (tlt (by decide : (1 : Int32) < (3 : Int32))).2.1) ?_
    show Go p e below _ (T11.setTop (mkF m 14 #[.val (.int p1), .val (.ref r1), .val (.int (3 : Int32)), .val (.int (1 : Int32)), .val (.ref w_DATA)] []))
    refine Go.st (fun _ => XS.aloadN X11.here hx rfl (hb hby d1_14) rfl rfl) ?_
    show Go p e below _ (T11.setTop (mkF m 15 #[.val (.int p1), .val (.ref r1), .val (.int (3 : Int32)), .val (.int (1 : Int32)), .val (.ref w_DATA)] [(.ref r1)]))
    refine Go.st (fun _ => XS.iloadN X11.here hx rfl (hb hby d1_15) rfl) ?_
    show Go p e below _ (T11.setTop (mkF m 16 #[.val (.int p1), .val (.ref r1), .val (.int (3 : Int32)), .val (.int (1 : Int32)), .val (.ref w_DATA)] [(.int (1 : Int32)), (.ref r1)]))
    obtain ⟨cl13, Ar13, qk13, Sz13, Nn13, Ha13, Ga13⟩ := id Vr1
    have hin13 : ¬ ((1 : Int32) < 0 ∨ cl13.slots.size ≤ ((1 : Int32) : Int32).toNatClampNeg) := inb_of Sz13 ⟨by decide, by decide⟩
    refine Go.st (fun _ => X11.aaload hx (j := (1 : Int32)) (v := (.ref w_HEARTBEAT)) (by rw [e11]; exact Ar13.1) (State.isArrayOf_alike hZ.alike Ar13.2.1) rfl Ar13.2.2 hin13 (Has.at Ha13 hin13 rfl) (g := (mkF m 16 #[.val (.int p1), .val (.ref r1), .val (.int (3 : Int32)), .val (.int (1 : Int32)), .val (.ref w_DATA)] [(.int (1 : Int32)), (.ref r1)])) rfl rfl (hb hby d1_16) _) ?_
    show Go p e below _ (T11.setTop (mkF m 17 #[.val (.int p1), .val (.ref r1), .val (.int (3 : Int32)), .val (.int (1 : Int32)), .val (.ref w_DATA)] [(.ref w_HEARTBEAT)]))
    refine Go.st (fun _ => XS.astore X11.here hx rfl (hb hby d1_17) rfl rfl (l' := #[.val (.int p1), .val (.ref r1), .val (.int (3 : Int32)), .val (.int (1 : Int32)), .val (.ref w_HEARTBEAT)]) rfl) ?_
    show Go p e below _ (T11.setTop (mkF m 19 #[.val (.int p1), .val (.ref r1), .val (.int (3 : Int32)), .val (.int (1 : Int32)), .val (.ref w_HEARTBEAT)] []))
    refine Go.st (fun _ => XS.aload X11.here hx rfl (hb hby d1_19) rfl rfl) ?_
    show Go p e below _ (T11.setTop (mkF m 21 #[.val (.int p1), .val (.ref r1), .val (.int (3 : Int32)), .val (.int (1 : Int32)), .val (.ref w_HEARTBEAT)] [(.ref w_HEARTBEAT)]))
    obtain ⟨T14, X14, e14, st14⟩ := getF X11 hx hZ hown (host := "") (Or.inl (hw _ (List.mem_of_getElem? (i := 22) rfl))) Via.refl e11 F6 (g := (mkF m 21 #[.val (.int p1), .val (.ref r1), .val (.int (3 : Int32)), .val (.int (1 : Int32)), .val (.ref w_HEARTBEAT)] [(.ref w_HEARTBEAT)])) rfl rfl (hb hby d1_21)
    refine Go.st st14 ?_
    show Go p e below _ (T14.setTop (mkF m 24 #[.val (.int p1), .val (.ref r1), .val (.int (3 : Int32)), .val (.int (1 : Int32)), .val (.ref w_HEARTBEAT)] [(.int (72 : Int32))]))
    refine Go.st (fun _ => XS.iloadN X14.here hx rfl (hb hby d1_24) rfl) ?_
    show Go p e below _ (T14.setTop (mkF m 25 #[.val (.int p1), .val (.ref r1), .val (.int (3 : Int32)), .val (.int (1 : Int32)), .val (.ref w_HEARTBEAT)] [(.int p1), (.int (72 : Int32))]))
    by_cases hc15 : (72 : Int32) = p1
    · refine Go.st (fun _ => XS.icmpNo X14.here hx rfl (hb hby d1_25) rfl (teq hc15).2) ?_
      show Go p e below _ (T14.setTop (mkF m 28 #[.val (.int p1), .val (.ref r1), .val (.int (3 : Int32)), .val (.int (1 : Int32)), .val (.ref w_HEARTBEAT)] []))
      refine Go.st (fun _ => XS.aload X14.here hx rfl (hb hby d1_28) rfl rfl) ?_
      show Go p e below _ (T14.setTop (mkF m 30 #[.val (.int p1), .val (.ref r1), .val (.int (3 : Int32)), .val (.int (1 : Int32)), .val (.ref w_HEARTBEAT)] [(.ref w_HEARTBEAT)]))
      have khc12 : ¬ p1 = 85 := fun q => hc12 q.symm
      have khc15 : p1 = 72 := hc15.symm
      exact goRetA X14 hx hlk hret rfl rfl rfl e14 (hb hby d1_30) (by decide) (by decide) ⟨by simp [khc12, khc15], N1, K8⟩
    · refine Go.st (fun _ => XS.icmpYes X14.here hx rfl (pc0 := 25) (pc' := 31) rfl (hb hby d1_25) rfl (feq hc15).2 (by decide) (by decide)) ?_
      show Go p e below _ (T14.setTop (mkF m 31 #[.val (.int p1), .val (.ref r1), .val (.int (3 : Int32)), .val (.int (1 : Int32)), .val (.ref w_HEARTBEAT)] []))
      refine Go.st (fun _ => XS.iinc X14.here hx rfl (hb hby d1_31) rfl (l' := #[.val (.int p1), .val (.ref r1), .val (.int (3 : Int32)), .val (.int (2 : Int32)), .val (.ref w_HEARTBEAT)]) rfl) ?_
      show Go p e below _ (T14.setTop (mkF m 34 #[.val (.int p1), .val (.ref r1), .val (.int (3 : Int32)), .val (.int (2 : Int32)), .val (.ref w_HEARTBEAT)] []))
      refine Go.st (fun _ => XS.goto X14.here hx rfl (pc0 := 34) (pc' := 9) rfl (hb hby d1_34) (by decide) (by decide)) ?_
      show Go p e below _ (T14.setTop (mkF m 9 #[.val (.int p1), .val (.ref r1), .val (.int (3 : Int32)), .val (.int (2 : Int32)), .val (.ref w_HEARTBEAT)] []))
      refine Go.st (fun _ => XS.iloadN X14.here hx rfl (hb hby d1_9) rfl) ?_
      show Go p e below _ (T14.setTop (mkF m 10 #[.val (.int p1), .val (.ref r1), .val (.int (3 : Int32)), .val (.int (2 : Int32)), .val (.ref w_HEARTBEAT)] [(.int (2 : Int32))]))
      refine Go.st (fun _ => XS.iloadN X14.here hx rfl (hb hby d1_10) rfl) ?_
      show Go p e below _ (T14.setTop (mkF m 11 #[.val (.int p1), .val (.ref r1), .val (.int (3 : Int32)), .val (.int (2 : Int32)), .val (.ref w_HEARTBEAT)] [(.int (3 : Int32)), (.int (2 : Int32))]))
      refine Go.st (fun _ => XS.icmpNo X14.here hx rfl (hb hby d1_11) rfl (tlt (by decide : (2 : Int32) < (3 : Int32))).2.1) ?_
      show Go p e below _ (T14.setTop (mkF m 14 #[.val (.int p1), .val (.ref r1), .val (.int (3 : Int32)), .val (.int (2 : Int32)), .val (.ref w_HEARTBEAT)] []))
      refine Go.st (fun _ => XS.aloadN X14.here hx rfl (hb hby d1_14) rfl rfl) ?_
      show Go p e below _ (T14.setTop (mkF m 15 #[.val (.int p1), .val (.ref r1), .val (.int (3 : Int32)), .val (.int (2 : Int32)), .val (.ref w_HEARTBEAT)] [(.ref r1)]))
      refine Go.st (fun _ => XS.iloadN X14.here hx rfl (hb hby d1_15) rfl) ?_
      show Go p e below _ (T14.setTop (mkF m 16 #[.val (.int p1), .val (.ref r1), .val (.int (3 : Int32)), .val (.int (2 : Int32)), .val (.ref w_HEARTBEAT)] [(.int (2 : Int32)), (.ref r1)]))
      obtain ⟨cl16, Ar16, qk16, Sz16, Nn16, Ha16, Ga16⟩ := id Vr1
      have hin16 : ¬ ((2 : Int32) < 0 ∨ cl16.slots.size ≤ ((2 : Int32) : Int32).toNatClampNeg) := inb_of Sz16 ⟨by decide, by decide⟩
      refine Go.st (fun _ => X14.aaload hx (j := (2 : Int32)) (v := (.ref w_END_OF_SESSION)) (by rw [e14]; exact Ar16.1) (State.isArrayOf_alike hZ.alike Ar16.2.1) rfl Ar16.2.2 hin16 (Has.at Ha16 hin16 rfl) (g := (mkF m 16 #[.val (.int p1), .val (.ref r1), .val (.int (3 : Int32)), .val (.int (2 : Int32)), .val (.ref w_HEARTBEAT)] [(.int (2 : Int32)), (.ref r1)])) rfl rfl (hb hby d1_16) _) ?_
      show Go p e below _ (T14.setTop (mkF m 17 #[.val (.int p1), .val (.ref r1), .val (.int (3 : Int32)), .val (.int (2 : Int32)), .val (.ref w_HEARTBEAT)] [(.ref w_END_OF_SESSION)]))
      refine Go.st (fun _ => XS.astore X14.here hx rfl (hb hby d1_17) rfl rfl (l' := #[.val (.int p1), .val (.ref r1), .val (.int (3 : Int32)), .val (.int (2 : Int32)), .val (.ref w_END_OF_SESSION)]) rfl) ?_
      show Go p e below _ (T14.setTop (mkF m 19 #[.val (.int p1), .val (.ref r1), .val (.int (3 : Int32)), .val (.int (2 : Int32)), .val (.ref w_END_OF_SESSION)] []))
      refine Go.st (fun _ => XS.aload X14.here hx rfl (hb hby d1_19) rfl rfl) ?_
      show Go p e below _ (T14.setTop (mkF m 21 #[.val (.int p1), .val (.ref r1), .val (.int (3 : Int32)), .val (.int (2 : Int32)), .val (.ref w_END_OF_SESSION)] [(.ref w_END_OF_SESSION)]))
      obtain ⟨T17, X17, e17, st17⟩ := getF X14 hx hZ hown (host := "") (Or.inl (hw _ (List.mem_of_getElem? (i := 22) rfl))) Via.refl e14 F7 (g := (mkF m 21 #[.val (.int p1), .val (.ref r1), .val (.int (3 : Int32)), .val (.int (2 : Int32)), .val (.ref w_END_OF_SESSION)] [(.ref w_END_OF_SESSION)])) rfl rfl (hb hby d1_21)
      refine Go.st st17 ?_
      show Go p e below _ (T17.setTop (mkF m 24 #[.val (.int p1), .val (.ref r1), .val (.int (3 : Int32)), .val (.int (2 : Int32)), .val (.ref w_END_OF_SESSION)] [(.int (69 : Int32))]))
      refine Go.st (fun _ => XS.iloadN X17.here hx rfl (hb hby d1_24) rfl) ?_
      show Go p e below _ (T17.setTop (mkF m 25 #[.val (.int p1), .val (.ref r1), .val (.int (3 : Int32)), .val (.int (2 : Int32)), .val (.ref w_END_OF_SESSION)] [(.int p1), (.int (69 : Int32))]))
      by_cases hc18 : (69 : Int32) = p1
      · refine Go.st (fun _ => XS.icmpNo X17.here hx rfl (hb hby d1_25) rfl (teq hc18).2) ?_
        show Go p e below _ (T17.setTop (mkF m 28 #[.val (.int p1), .val (.ref r1), .val (.int (3 : Int32)), .val (.int (2 : Int32)), .val (.ref w_END_OF_SESSION)] []))
        refine Go.st (fun _ => XS.aload X17.here hx rfl (hb hby d1_28) rfl rfl) ?_
        show Go p e below _ (T17.setTop (mkF m 30 #[.val (.int p1), .val (.ref r1), .val (.int (3 : Int32)), .val (.int (2 : Int32)), .val (.ref w_END_OF_SESSION)] [(.ref w_END_OF_SESSION)]))
        have khc12 : ¬ p1 = 85 := fun q => hc12 q.symm
        have khc15 : ¬ p1 = 72 := fun q => hc15 q.symm
        have khc18 : p1 = 69 := hc18.symm
        exact goRetA X17 hx hlk hret rfl rfl rfl e17 (hb hby d1_30) (by decide) (by decide) ⟨by simp [khc12, khc15, khc18], N1, K8⟩
      · refine Go.st (fun _ => XS.icmpYes X17.here hx rfl (pc0 := 25) (pc' := 31) rfl (hb hby d1_25) rfl (feq hc18).2 (by decide) (by decide)) ?_
        show Go p e below _ (T17.setTop (mkF m 31 #[.val (.int p1), .val (.ref r1), .val (.int (3 : Int32)), .val (.int (2 : Int32)), .val (.ref w_END_OF_SESSION)] []))
        refine Go.st (fun _ => XS.iinc X17.here hx rfl (hb hby d1_31) rfl (l' := #[.val (.int p1), .val (.ref r1), .val (.int (3 : Int32)), .val (.int (3 : Int32)), .val (.ref w_END_OF_SESSION)]) rfl) ?_
        show Go p e below _ (T17.setTop (mkF m 34 #[.val (.int p1), .val (.ref r1), .val (.int (3 : Int32)), .val (.int (3 : Int32)), .val (.ref w_END_OF_SESSION)] []))
        refine Go.st (fun _ => XS.goto X17.here hx rfl (pc0 := 34) (pc' := 9) rfl (hb hby d1_34) (by decide) (by decide)) ?_
        show Go p e below _ (T17.setTop (mkF m 9 #[.val (.int p1), .val (.ref r1), .val (.int (3 : Int32)), .val (.int (3 : Int32)), .val (.ref w_END_OF_SESSION)] []))
        refine Go.st (fun _ => XS.iloadN X17.here hx rfl (hb hby d1_9) rfl) ?_
        show Go p e below _ (T17.setTop (mkF m 10 #[.val (.int p1), .val (.ref r1), .val (.int (3 : Int32)), .val (.int (3 : Int32)), .val (.ref w_END_OF_SESSION)] [(.int (3 : Int32))]))
        refine Go.st (fun _ => XS.iloadN X17.here hx rfl (hb hby d1_10) rfl) ?_
        show Go p e below _ (T17.setTop (mkF m 11 #[.val (.int p1), .val (.ref r1), .val (.int (3 : Int32)), .val (.int (3 : Int32)), .val (.ref w_END_OF_SESSION)] [(.int (3 : Int32)), (.int (3 : Int32))]))
        refine Go.st (fun _ => XS.icmpYes X17.here hx rfl (pc0 := 11) (pc' := 37) rfl (hb hby d1_11) rfl (flt (by decide : ¬ ((3 : Int32) < (3 : Int32)))).2.1 (by decide) (by decide)) ?_
        show Go p e below _ (T17.setTop (mkF m 37 #[.val (.int p1), .val (.ref r1), .val (.int (3 : Int32)), .val (.int (3 : Int32)), .val (.ref w_END_OF_SESSION)] []))
        refine Go.st (fun _ => XS.aconstNull X17.here hx rfl (hb hby d1_37)) ?_
        show Go p e below _ (T17.setTop (mkF m 38 #[.val (.int p1), .val (.ref r1), .val (.int (3 : Int32)), .val (.int (3 : Int32)), .val (.ref w_END_OF_SESSION)] [.null]))
        have khc12 : ¬ p1 = 85 := fun q => hc12 q.symm
        have khc15 : ¬ p1 = 72 := fun q => hc15 q.symm
        have khc18 : ¬ p1 = 69 := fun q => hc18 q.symm
        exact goRetA X17 hx hlk hret rfl rfl rfl e17 (hb hby d1_38) (by decide) (by decide) ⟨by simp [khc12, khc15, khc18], N1, K8⟩
theorem d3_0 : decode method_2_code 0 = .ok (.iload_n 0, 1) := by decide +kernel
theorem d3_1 : decode method_2_code 1 = .ok (.bipush 85, 2) := by decide +kernel
theorem d3_3 : decode method_2_code 3 = .ok (.if_icmp .ne 7, 3) := by decide +kernel
theorem d3_6 : decode method_2_code 6 = .ok (.getstatic 7, 3) := by decide +kernel
theorem d3_9 : decode method_2_code 9 = .ok (.areturn, 1) := by decide +kernel
theorem d3_10 : decode method_2_code 10 = .ok (.iload_n 0, 1) := by decide +kernel
theorem d3_11 : decode method_2_code 11 = .ok (.bipush 72, 2) := by decide +kernel
theorem d3_13 : decode method_2_code 13 = .ok (.if_icmp .ne 7, 3) := by decide +kernel
theorem d3_16 : decode method_2_code 16 = .ok (.getstatic 13, 3) := by decide +kernel
theorem d3_19 : decode method_2_code 19 = .ok (.areturn, 1) := by decide +kernel
theorem d3_20 : decode method_2_code 20 = .ok (.iload_n 0, 1) := by decide +kernel
theorem d3_21 : decode method_2_code 21 = .ok (.bipush 69, 2) := by decide +kernel
theorem d3_23 : decode method_2_code 23 = .ok (.if_icmp .ne 7, 3) := by decide +kernel
theorem d3_26 : decode method_2_code 26 = .ok (.getstatic 16, 3) := by decide +kernel
theorem d3_29 : decode method_2_code 29 = .ok (.areturn, 1) := by decide +kernel
theorem d3_30 : decode method_2_code 30 = .ok (.aconst_null, 1) := by decide +kernel
theorem d3_31 : decode method_2_code 31 = .ok (.areturn, 1) := by decide +kernel
theorem pn_3 : plainName "com/example/oftcast/oftcast/feed/PacketTypeOfPinLaw" = true := by first | (simp [plainName, overriddenIn]; done) | decide +kernel
set_option maxRecDepth 65536 in
set_option maxHeartbeats 40000000 in
theorem rm3 (l : Launch) (Z : State) (a0 : Array Value) (hw : ∀ d ∈ tables_1, d.before a0 Z = true) (ws : List Jvm.Cond) (p1 : Int32) (w_DATA w_HEARTBEAT w_END_OF_SESSION : Addr) (h0 : Heap) (n0 : Nat) (O0 : Old Z n0 h0) (S_w_DATA : Sta Z Z.heap "com/example/oftcast/oftcast/feed/PacketType" "DATA" "Lcom/example/oftcast/oftcast/feed/PacketType;" (.ref w_DATA)) (S_w_HEARTBEAT : Sta Z Z.heap "com/example/oftcast/oftcast/feed/PacketType" "HEARTBEAT" "Lcom/example/oftcast/oftcast/feed/PacketType;" (.ref w_HEARTBEAT)) (S_w_END_OF_SESSION : Sta Z Z.heap "com/example/oftcast/oftcast/feed/PacketType" "END_OF_SESSION" "Lcom/example/oftcast/oftcast/feed/PacketType;" (.ref w_END_OF_SESSION)) :
    Ctr l (⟨"com/example/oftcast/oftcast/feed/PacketTypeOfPinLaw", "expected", "(B)Lcom/example/oftcast/oftcast/feed/PacketType;"⟩ : MethodName) method_2_code 1 (some (.object "com/example/oftcast/oftcast/feed/PacketType")) ws ({ frames := 0, cells := 0, slots := 0, locals := 0 } : Room) #[(.int p1)] Z h0 (fun v h L => v = some (if p1 = 85 then Value.ref w_DATA else if p1 = 72 then Value.ref w_HEARTBEAT else if p1 = 69 then Value.ref w_END_OF_SESSION else Value.null) ∧ Fr n0 L ∧ h = h0) := by
  have ef : ∀ m : MethodId, entryFrame m #[(.int p1)] 1 = mkF m 0 #[.val (.int p1)] [] := fun m => by first | (simp [entryFrame, mkF, argsToLocals, Value.category]; done) | rfl
  refine Ctr.of (plainFor_of_name pn_3) ?_
  intro p e s m below meth c s₁ hx hZ hby hml hown0 hnm hret hlk X0 e0
  have hown : s.vm.findClass "com/example/oftcast/oftcast/feed/PacketTypeOfPinLaw" = some m.cls := hown0
  have N0 := Fr.nil n0
  refine Go.st (fun t k => castTop (ef m) k) ?_
  show Go p e below _ (s₁.setTop (mkF m 0 #[.val (.int p1)] []))
  refine Go.st (fun _ => XS.iloadN X0.here hx rfl (hb hby d3_0) rfl) ?_
  show Go p e below _ (s₁.setTop (mkF m 1 #[.val (.int p1)] [(.int p1)]))
  refine Go.st (fun _ => XS.bipush X0.here hx rfl (hb hby d3_1)) ?_
  show Go p e below _ (s₁.setTop (mkF m 3 #[.val (.int p1)] [(.int (85 : Int32)), (.int p1)]))
  by_cases hc1 : p1 = (85 : Int32)
  · refine Go.st (fun _ => XS.icmpNo X0.here hx rfl (hb hby d3_3) rfl (teq hc1).2) ?_
    show Go p e below _ (s₁.setTop (mkF m 6 #[.val (.int p1)] []))
    obtain ⟨T2, X2, e2, st2⟩ := getS2 X0 hx hZ hown (host := "") (Or.inl (hw _ (List.mem_of_getElem? (i := 35) rfl))) Via.refl e0 (oldSta O0 S_w_DATA) (g := (mkF m 6 #[.val (.int p1)] [])) rfl (hb hby d3_6)
    refine Go.st st2 ?_
    show Go p e below _ (T2.setTop (mkF m 9 #[.val (.int p1)] [(.ref w_DATA)]))
    exact goRetA X2 hx hlk hret rfl rfl rfl e2 (hb hby d3_9) (by decide) (by decide) ⟨by simp [hc1], N0, rfl⟩
  · refine Go.st (fun _ => XS.icmpYes X0.here hx rfl (pc0 := 3) (pc' := 10) rfl (hb hby d3_3) rfl (feq hc1).2 (by decide) (by decide)) ?_
    show Go p e below _ (s₁.setTop (mkF m 10 #[.val (.int p1)] []))
    refine Go.st (fun _ => XS.iloadN X0.here hx rfl (hb hby d3_10) rfl) ?_
    show Go p e below _ (s₁.setTop (mkF m 11 #[.val (.int p1)] [(.int p1)]))
    refine Go.st (fun _ => XS.bipush X0.here hx rfl (hb hby d3_11)) ?_
    show Go p e below _ (s₁.setTop (mkF m 13 #[.val (.int p1)] [(.int (72 : Int32)), (.int p1)]))
    by_cases hc3 : p1 = (72 : Int32)
    · refine Go.st (fun _ => XS.icmpNo X0.here hx rfl (hb hby d3_13) rfl (teq hc3).2) ?_
      show Go p e below _ (s₁.setTop (mkF m 16 #[.val (.int p1)] []))
      obtain ⟨T4, X4, e4, st4⟩ := getS2 X0 hx hZ hown (host := "") (Or.inl (hw _ (List.mem_of_getElem? (i := 28) rfl))) Via.refl e0 (oldSta O0 S_w_HEARTBEAT) (g := (mkF m 16 #[.val (.int p1)] [])) rfl (hb hby d3_16)
      refine Go.st st4 ?_
      show Go p e below _ (T4.setTop (mkF m 19 #[.val (.int p1)] [(.ref w_HEARTBEAT)]))
      exact goRetA X4 hx hlk hret rfl rfl rfl e4 (hb hby d3_19) (by decide) (by decide) ⟨by simp [hc1, hc3], N0, rfl⟩
    · refine Go.st (fun _ => XS.icmpYes X0.here hx rfl (pc0 := 13) (pc' := 20) rfl (hb hby d3_13) rfl (feq hc3).2 (by decide) (by decide)) ?_
      show Go p e below _ (s₁.setTop (mkF m 20 #[.val (.int p1)] []))
      refine Go.st (fun _ => XS.iloadN X0.here hx rfl (hb hby d3_20) rfl) ?_
      show Go p e below _ (s₁.setTop (mkF m 21 #[.val (.int p1)] [(.int p1)]))
      refine Go.st (fun _ => XS.bipush X0.here hx rfl (hb hby d3_21)) ?_
      show Go p e below _ (s₁.setTop (mkF m 23 #[.val (.int p1)] [(.int (69 : Int32)), (.int p1)]))
      by_cases hc5 : p1 = (69 : Int32)
      · refine Go.st (fun _ => XS.icmpNo X0.here hx rfl (hb hby d3_23) rfl (teq hc5).2) ?_
        show Go p e below _ (s₁.setTop (mkF m 26 #[.val (.int p1)] []))
        obtain ⟨T6, X6, e6, st6⟩ := getS2 X0 hx hZ hown (host := "") (Or.inl (hw _ (List.mem_of_getElem? (i := 34) rfl))) Via.refl e0 (oldSta O0 S_w_END_OF_SESSION) (g := (mkF m 26 #[.val (.int p1)] [])) rfl (hb hby d3_26)
        refine Go.st st6 ?_
        show Go p e below _ (T6.setTop (mkF m 29 #[.val (.int p1)] [(.ref w_END_OF_SESSION)]))
        exact goRetA X6 hx hlk hret rfl rfl rfl e6 (hb hby d3_29) (by decide) (by decide) ⟨by simp [hc1, hc3, hc5], N0, rfl⟩
      · refine Go.st (fun _ => XS.icmpYes X0.here hx rfl (pc0 := 23) (pc' := 30) rfl (hb hby d3_23) rfl (feq hc5).2 (by decide) (by decide)) ?_
        show Go p e below _ (s₁.setTop (mkF m 30 #[.val (.int p1)] []))
        refine Go.st (fun _ => XS.aconstNull X0.here hx rfl (hb hby d3_30)) ?_
        show Go p e below _ (s₁.setTop (mkF m 31 #[.val (.int p1)] [.null]))
        exact goRetA X0 hx hlk hret rfl rfl rfl e0 (hb hby d3_31) (by decide) (by decide) ⟨by simp [hc1, hc3, hc5], N0, rfl⟩
theorem d4_0 : decode prog_36_method_4_code 0 = .ok (.aload_n 0, 1) := by decide +kernel
theorem d4_1 : decode prog_36_method_4_code 1 = .ok (.getfield 32, 3) := by decide +kernel
theorem d4_4 : decode prog_36_method_4_code 4 = .ok (.ireturn, 1) := by decide +kernel
theorem pn_4 : plainName "com/example/oftcast/oftcast/feed/PacketType" = true := by first | (simp [plainName, overriddenIn]; done) | decide +kernel
set_option maxRecDepth 65536 in
set_option maxHeartbeats 40000000 in
theorem rm4 (l : Launch) (Z : State) (a0 : Array Value) (hw : ∀ d ∈ tables_1, d.before a0 Z = true) (ws : List Jvm.Cond) (a1 : Addr) (p1 : Int32) (h0 : Heap) (n0 : Nat) (O0 : Old Z n0 h0) (F1 : Fld Z h0 a1 "com/example/oftcast/oftcast/feed/PacketType" "code" "B" (.int p1)) (hbt : nar .byte p1 = p1) :
    Ctr l (⟨"com/example/oftcast/oftcast/feed/PacketType", "code", "()B"⟩ : MethodName) prog_36_method_4_code 1 (some .byte) ws ({ frames := 0, cells := 0, slots := 0, locals := 0 } : Room) #[(.ref a1)] Z h0 (fun v h L => v = some (.int p1) ∧ Fr n0 L ∧ h = h0) := by
  have ef : ∀ m : MethodId, entryFrame m #[(.ref a1)] 1 = mkF m 0 #[.val (.ref a1)] [] := fun m => by first | (simp [entryFrame, mkF, argsToLocals, Value.category]; done) | rfl
  refine Ctr.of (plainFor_of_name pn_4) ?_
  intro p e s m below meth c s₁ hx hZ hby hml hown0 hnm hret hlk X0 e0
  have hown : s.vm.findClass "com/example/oftcast/oftcast/feed/PacketType" = some m.cls := hown0
  have N0 := Fr.nil n0
  refine Go.st (fun t k => castTop (ef m) k) ?_
  show Go p e below _ (s₁.setTop (mkF m 0 #[.val (.ref a1)] []))
  refine Go.st (fun _ => XS.aloadN X0.here hx rfl (hb hby d4_0) rfl rfl) ?_
  show Go p e below _ (s₁.setTop (mkF m 1 #[.val (.ref a1)] [(.ref a1)]))
  obtain ⟨T1, X1, e1, st1⟩ := getF X0 hx hZ hown (host := "") (Or.inl (hw _ (List.mem_of_getElem? (i := 22) rfl))) Via.refl e0 F1 (g := (mkF m 1 #[.val (.ref a1)] [(.ref a1)])) rfl rfl (hb hby d4_1)
  refine Go.st st1 ?_
  show Go p e below _ (T1.setTop (mkF m 4 #[.val (.ref a1)] [(.int p1)]))
  exact goRetN X1 hx hlk hret (t := .byte) (by simp) (w := p1) hbt e1 (hb hby d4_4) (by decide) (by decide) ⟨rfl, N0, rfl⟩
theorem pn_0 : plainName "com/example/oftcast/oftcast/feed/PacketTypeOfPinLaw" = true := by first | (simp [plainName, overriddenIn]; done) | decide +kernel
set_option maxRecDepth 65536 in
set_option maxHeartbeats 40000000 in
theorem rm0 (l : Launch) (Z : State) (a0 : Array Value) (hw : ∀ d ∈ tables_1, d.before a0 Z = true) (ws : List Jvm.Cond) (p0 : Int32) (w__VALUES : Addr) (w_DATA w_HEARTBEAT w_END_OF_SESSION : Addr) (kv : ClassId) (h0 : Heap) (n0 : Nat) (O0 : Old Z n0 h0) (S_w__VALUES : Sta Z Z.heap "com/example/oftcast/oftcast/feed/PacketType" "$VALUES" "[Lcom/example/oftcast/oftcast/feed/PacketType;" (.ref w__VALUES)) (V0 : Arv Z h0 w__VALUES kv (.object "com/example/oftcast/oftcast/feed/PacketType") (3 : Int32) [(.ref w_DATA), (.ref w_HEARTBEAT), (.ref w_END_OF_SESSION)] .null) (E0 : Exa Z h0 w__VALUES "[Lcom/example/oftcast/oftcast/feed/PacketType;") (F_w_DATA : Fld Z h0 w_DATA "com/example/oftcast/oftcast/feed/PacketType" "code" "B" (.int (85 : Int32))) (F_w_HEARTBEAT : Fld Z h0 w_HEARTBEAT "com/example/oftcast/oftcast/feed/PacketType" "code" "B" (.int (72 : Int32))) (F_w_END_OF_SESSION : Fld Z h0 w_END_OF_SESSION "com/example/oftcast/oftcast/feed/PacketType" "code" "B" (.int (69 : Int32))) (E_w_DATA : Exa Z h0 w_DATA "com/example/oftcast/oftcast/feed/PacketType") (E_w_HEARTBEAT : Exa Z h0 w_HEARTBEAT "com/example/oftcast/oftcast/feed/PacketType") (E_w_END_OF_SESSION : Exa Z h0 w_END_OF_SESSION "com/example/oftcast/oftcast/feed/PacketType") (S_w_DATA : Sta Z Z.heap "com/example/oftcast/oftcast/feed/PacketType" "DATA" "Lcom/example/oftcast/oftcast/feed/PacketType;" (.ref w_DATA)) (S_w_HEARTBEAT : Sta Z Z.heap "com/example/oftcast/oftcast/feed/PacketType" "HEARTBEAT" "Lcom/example/oftcast/oftcast/feed/PacketType;" (.ref w_HEARTBEAT)) (S_w_END_OF_SESSION : Sta Z Z.heap "com/example/oftcast/oftcast/feed/PacketType" "END_OF_SESSION" "Lcom/example/oftcast/oftcast/feed/PacketType;" (.ref w_END_OF_SESSION)) :
    Ctr l x code maxLocals ret ws room_1 #[(.int p0)] Z h0 (fun v h L => v = some (.int 1) ∧ Fr n0 L) := by
  have ef : ∀ m : MethodId, entryFrame m #[(.int p0)] 4 = mkF m 0 #[.val (.int p0), .unset, .unset, .unset] [] := fun m => by first | (simp [entryFrame, mkF, argsToLocals, Value.category]; done) | rfl
  refine Ctr.of (plainFor_of_name pn_0) ?_
  intro p e s m below meth c s₁ hx hZ hby hml hown0 hnm hret hlk X0 e0
  have hown : s.vm.findClass "com/example/oftcast/oftcast/feed/PacketTypeOfPinLaw" = some m.cls := hown0
  have N0 := Fr.nil n0
  refine Go.st (fun t k => castTop (ef m) k) ?_
  show Go p e below _ (s₁.setTop (mkF m 0 #[.val (.int p0), .unset, .unset, .unset] []))
  refine Go.st (fun _ => XS.iloadN X0.here hx rfl (hb hby at_0) rfl) ?_
  show Go p e below _ (s₁.setTop (mkF m 1 #[.val (.int p0), .unset, .unset, .unset] [(.int p0)]))
  refine Go.st (fun _ => XS.i2b X0.here hx rfl (hb hby at_1) rfl) ?_
  show Go p e below _ (s₁.setTop (mkF m 2 #[.val (.int p0), .unset, .unset, .unset] [(.int (p0.toInt8.toInt32))]))
  refine Go.st (fun _ => XS.istoreN X0.here hx rfl (hb hby at_2) rfl (l' := #[.val (.int p0), .val (.int (p0.toInt8.toInt32)), .unset, .unset]) rfl) ?_
  show Go p e below _ (s₁.setTop (mkF m 3 #[.val (.int p0), .val (.int (p0.toInt8.toInt32)), .unset, .unset] []))
  refine Go.st (fun _ => XS.iloadN X0.here hx rfl (hb hby at_3) rfl) ?_
  show Go p e below _ (s₁.setTop (mkF m 4 #[.val (.int p0), .val (.int (p0.toInt8.toInt32)), .unset, .unset] [(.int (p0.toInt8.toInt32))]))
  refine goCallS X0 hx hZ (y := (⟨"com/example/oftcast/oftcast/feed/PacketType", "of", "(B)Lcom/example/oftcast/oftcast/feed/PacketType;"⟩ : MethodName)) hown (hw _ (List.mem_of_getElem? (i := 0) rfl)) (hw _ (List.mem_of_getElem? (i := 1) rfl)) (hw _ (List.mem_of_getElem? (i := 2) rfl)) (hw _ (List.mem_of_getElem? (i := 3) rfl)) (by decide) (argsL := [(.int (p0.toInt8.toInt32))]) (rest := []) e0 (rm2 l Z a0 hw [] (p0.toInt8.toInt32) w__VALUES w_DATA w_HEARTBEAT w_END_OF_SESSION kv h0 n0 O0 S_w__VALUES V0 E0 F_w_DATA F_w_HEARTBEAT F_w_END_OF_SESSION) 0 (by decide) (by decide) (by decide) (by decide) (mkF m 4 #[.val (.int p0), .val (.int (p0.toInt8.toInt32)), .unset, .unset] [(.int (p0.toInt8.toInt32))]) rfl (by rw [hml]; rfl) (lenOf pd_1 rfl) rfl (hb hby at_4) (Nat.le_of_eq rfl) ?_
  intro v1 T1 L1 X1 hQ1
  obtain ⟨hv1, M1, K1⟩ := hQ1
  have N1 := Fr.app N0 M1
  have O2 : Old Z n0 T1.heap := O0.keep K1 all0
  have V_3 : Arv Z T1.heap w__VALUES kv (.object "com/example/oftcast/oftcast/feed/PacketType") (3 : Int32) [(.ref w_DATA), (.ref w_HEARTBEAT), (.ref w_END_OF_SESSION)] .null := V0.keep K1 nin0
  have E_4 : Exa Z T1.heap w__VALUES "[Lcom/example/oftcast/oftcast/feed/PacketType;" := E0.keep K1
  have F5 : Fld Z T1.heap w_DATA "com/example/oftcast/oftcast/feed/PacketType" "code" "B" (.int (85 : Int32)) := F_w_DATA.keep K1 nin0
  have F6 : Fld Z T1.heap w_HEARTBEAT "com/example/oftcast/oftcast/feed/PacketType" "code" "B" (.int (72 : Int32)) := F_w_HEARTBEAT.keep K1 nin0
  have F7 : Fld Z T1.heap w_END_OF_SESSION "com/example/oftcast/oftcast/feed/PacketType" "code" "B" (.int (69 : Int32)) := F_w_END_OF_SESSION.keep K1 nin0
  have E_8 : Exa Z T1.heap w_DATA "com/example/oftcast/oftcast/feed/PacketType" := E_w_DATA.keep K1
  have E_9 : Exa Z T1.heap w_HEARTBEAT "com/example/oftcast/oftcast/feed/PacketType" := E_w_HEARTBEAT.keep K1
  have E_10 : Exa Z T1.heap w_END_OF_SESSION "com/example/oftcast/oftcast/feed/PacketType" := E_w_END_OF_SESSION.keep K1
  by_cases hb0 : (p0.toInt8.toInt32) = 85
  · obtain rfl : v1 = some (.ref w_DATA) := hv1.trans (by simp [hb0])
    show Go p e below _ (T1.setTop (mkF m 7 #[.val (.int p0), .val (.int (p0.toInt8.toInt32)), .unset, .unset] [(.ref w_DATA)]))
    refine Go.st (fun _ => XS.astoreN X1.here hx rfl (hb hby at_7) rfl rfl (l' := #[.val (.int p0), .val (.int (p0.toInt8.toInt32)), .val (.ref w_DATA), .unset]) rfl) ?_
    show Go p e below _ (T1.setTop (mkF m 8 #[.val (.int p0), .val (.int (p0.toInt8.toInt32)), .val (.ref w_DATA), .unset] []))
    refine Go.st (fun _ => XS.iloadN X1.here hx rfl (hb hby at_8) rfl) ?_
    show Go p e below _ (T1.setTop (mkF m 9 #[.val (.int p0), .val (.int (p0.toInt8.toInt32)), .val (.ref w_DATA), .unset] [(.int (p0.toInt8.toInt32))]))
    refine goCallS X1 hx hZ (y := (⟨"com/example/oftcast/oftcast/feed/PacketTypeOfPinLaw", "expected", "(B)Lcom/example/oftcast/oftcast/feed/PacketType;"⟩ : MethodName)) hown (hw _ (List.mem_of_getElem? (i := 24) rfl)) (hw _ (List.mem_of_getElem? (i := 25) rfl)) (hw _ (List.mem_of_getElem? (i := 26) rfl)) (hw _ (List.mem_of_getElem? (i := 27) rfl)) (by decide) (argsL := [(.int (p0.toInt8.toInt32))]) (rest := []) rfl (rm3 l Z a0 hw [] (p0.toInt8.toInt32) w_DATA w_HEARTBEAT w_END_OF_SESSION T1.heap n0 O2 S_w_DATA S_w_HEARTBEAT S_w_END_OF_SESSION) 0 (by decide) (by decide) (by decide) (by decide) (mkF m 9 #[.val (.int p0), .val (.int (p0.toInt8.toInt32)), .val (.ref w_DATA), .unset] [(.int (p0.toInt8.toInt32))]) rfl (by rw [hml]; rfl) (lenOf pd_1 rfl) rfl (hb hby at_9) (Nat.le_of_eq rfl) ?_
    intro v11 T11 L11 X11 hQ11
    obtain ⟨hv11, M11, e11⟩ := hQ11
    have N11 := Fr.app N1 M11
    obtain rfl : v11 = some (.ref w_DATA) := hv11.trans (by simp [hb0])
    show Go p e below _ (T11.setTop (mkF m 12 #[.val (.int p0), .val (.int (p0.toInt8.toInt32)), .val (.ref w_DATA), .unset] [(.ref w_DATA)]))
    refine Go.st (fun _ => XS.astoreN X11.here hx rfl (hb hby at_12) rfl rfl (l' := #[.val (.int p0), .val (.int (p0.toInt8.toInt32)), .val (.ref w_DATA), .val (.ref w_DATA)]) rfl) ?_
    show Go p e below _ (T11.setTop (mkF m 13 #[.val (.int p0), .val (.int (p0.toInt8.toInt32)), .val (.ref w_DATA), .val (.ref w_DATA)] []))
    refine Go.st (fun _ => XS.aloadN X11.here hx rfl (hb hby at_13) rfl rfl) ?_
    show Go p e below _ (T11.setTop (mkF m 14 #[.val (.int p0), .val (.int (p0.toInt8.toInt32)), .val (.ref w_DATA), .val (.ref w_DATA)] [(.ref w_DATA)]))
    refine Go.st (fun _ => XS.aloadN X11.here hx rfl (hb hby at_14) rfl rfl) ?_
    show Go p e below _ (T11.setTop (mkF m 15 #[.val (.int p0), .val (.int (p0.toInt8.toInt32)), .val (.ref w_DATA), .val (.ref w_DATA)] [(.ref w_DATA), (.ref w_DATA)]))
    refine Go.st (fun _ => fun k => Jvm.RoadKit.acmp (g := (mkF m 15 #[.val (.int p0), .val (.int (p0.toInt8.toInt32)), .val (.ref w_DATA), .val (.ref w_DATA)] [(.ref w_DATA), (.ref w_DATA)])) X11 hx rfl rfl rfl (pc0 := 15) (pc' := 20) (same := true) rfl (hb hby at_15) rfl (decide_eq_true rfl) (by decide) (by decide) k) ?_
    show Go p e below _ (T11.setTop (mkF m 20 #[.val (.int p0), .val (.int (p0.toInt8.toInt32)), .val (.ref w_DATA), .val (.ref w_DATA)] []))
    refine Go.st (fun _ => XS.aloadN X11.here hx rfl (hb hby at_20) rfl rfl) ?_
    show Go p e below _ (T11.setTop (mkF m 21 #[.val (.int p0), .val (.int (p0.toInt8.toInt32)), .val (.ref w_DATA), .val (.ref w_DATA)] [(.ref w_DATA)]))
    refine Go.st (fun _ => XS.ifnullNo X11.here hx rfl (hb hby at_21) rfl) ?_
    show Go p e below _ (T11.setTop (mkF m 24 #[.val (.int p0), .val (.int (p0.toInt8.toInt32)), .val (.ref w_DATA), .val (.ref w_DATA)] []))
    refine Go.st (fun _ => XS.aloadN X11.here hx rfl (hb hby at_24) rfl rfl) ?_
    show Go p e below _ (T11.setTop (mkF m 25 #[.val (.int p0), .val (.int (p0.toInt8.toInt32)), .val (.ref w_DATA), .val (.ref w_DATA)] [(.ref w_DATA)]))
    refine goVirt X11 hx hZ (y := (⟨"com/example/oftcast/oftcast/feed/PacketType", "code", "()B"⟩ : MethodName)) (z := (⟨"com/example/oftcast/oftcast/feed/PacketType", "code", "()B"⟩ : MethodName)) hown (hw _ (List.mem_of_getElem? (i := 29) rfl)) (hw _ (List.mem_of_getElem? (i := 30) rfl)) (notFace_of_selects (args := #[]) (mvT hZ (hw _ (List.mem_of_getElem? (i := 32) rfl)))) (hw _ (List.mem_of_getElem? (i := 32) rfl)) (hw _ (List.mem_of_getElem? (i := 31) rfl)) (hw _ (List.mem_of_getElem? (i := 2) rfl)) (hw _ (List.mem_of_getElem? (i := 33) rfl)) (by decide) (a := w_DATA) (argsL := []) (rest := []) e11 E_8 (rm4 l Z a0 hw [] w_DATA (85 : Int32) T1.heap n0 O2 F5 (by decide)) 0 (by decide) (by decide) (by decide) (by decide) (mkF m 25 #[.val (.int p0), .val (.int (p0.toInt8.toInt32)), .val (.ref w_DATA), .val (.ref w_DATA)] [(.ref w_DATA)]) rfl (by rw [hml]; rfl) (lenOf pd_2 rfl) rfl (hb hby at_25) (Nat.le_of_eq rfl) ?_
    intro v12 T12 L12 X12 hQ12
    obtain ⟨rfl, M12, e12⟩ := hQ12
    have N12 := Fr.app N11 M12
    show Go p e below _ (T12.setTop (mkF m 28 #[.val (.int p0), .val (.int (p0.toInt8.toInt32)), .val (.ref w_DATA), .val (.ref w_DATA)] [(.int (85 : Int32))]))
    refine Go.st (fun _ => XS.iloadN X12.here hx rfl (hb hby at_28) rfl) ?_
    show Go p e below _ (T12.setTop (mkF m 29 #[.val (.int p0), .val (.int (p0.toInt8.toInt32)), .val (.ref w_DATA), .val (.ref w_DATA)] [(.int (p0.toInt8.toInt32)), (.int (85 : Int32))]))
    refine Go.st (fun _ => XS.icmpYes X12.here hx rfl (pc0 := 29) (pc' := 34) rfl (hb hby at_29) rfl (teq (hb0).symm).1 (by decide) (by decide)) ?_
    show Go p e below _ (T12.setTop (mkF m 34 #[.val (.int p0), .val (.int (p0.toInt8.toInt32)), .val (.ref w_DATA), .val (.ref w_DATA)] []))
    refine Go.st (fun _ => XS.iconst X12.here hx rfl (hb hby at_34)) ?_
    show Go p e below _ (T12.setTop (mkF m 35 #[.val (.int p0), .val (.int (p0.toInt8.toInt32)), .val (.ref w_DATA), .val (.ref w_DATA)] [(.int (1 : Int32))]))
    exact goRetN X12 hx hlk hret (t := .boolean) (by simp) (w := (1 : Int32)) (by decide) e12 (hb hby at_35) (by decide) (by decide) ⟨rfl, N12⟩
  · by_cases hb1 : (p0.toInt8.toInt32) = 72
    · obtain rfl : v1 = some (.ref w_HEARTBEAT) := hv1.trans (by simp [hb0, hb1])
      show Go p e below _ (T1.setTop (mkF m 7 #[.val (.int p0), .val (.int (p0.toInt8.toInt32)), .unset, .unset] [(.ref w_HEARTBEAT)]))
      refine Go.st (fun _ => XS.astoreN X1.here hx rfl (hb hby at_7) rfl rfl (l' := #[.val (.int p0), .val (.int (p0.toInt8.toInt32)), .val (.ref w_HEARTBEAT), .unset]) rfl) ?_
      show Go p e below _ (T1.setTop (mkF m 8 #[.val (.int p0), .val (.int (p0.toInt8.toInt32)), .val (.ref w_HEARTBEAT), .unset] []))
      refine Go.st (fun _ => XS.iloadN X1.here hx rfl (hb hby at_8) rfl) ?_
      show Go p e below _ (T1.setTop (mkF m 9 #[.val (.int p0), .val (.int (p0.toInt8.toInt32)), .val (.ref w_HEARTBEAT), .unset] [(.int (p0.toInt8.toInt32))]))
      refine goCallS X1 hx hZ (y := (⟨"com/example/oftcast/oftcast/feed/PacketTypeOfPinLaw", "expected", "(B)Lcom/example/oftcast/oftcast/feed/PacketType;"⟩ : MethodName)) hown (hw _ (List.mem_of_getElem? (i := 24) rfl)) (hw _ (List.mem_of_getElem? (i := 25) rfl)) (hw _ (List.mem_of_getElem? (i := 26) rfl)) (hw _ (List.mem_of_getElem? (i := 27) rfl)) (by decide) (argsL := [(.int (p0.toInt8.toInt32))]) (rest := []) rfl (rm3 l Z a0 hw [] (p0.toInt8.toInt32) w_DATA w_HEARTBEAT w_END_OF_SESSION T1.heap n0 O2 S_w_DATA S_w_HEARTBEAT S_w_END_OF_SESSION) 0 (by decide) (by decide) (by decide) (by decide) (mkF m 9 #[.val (.int p0), .val (.int (p0.toInt8.toInt32)), .val (.ref w_HEARTBEAT), .unset] [(.int (p0.toInt8.toInt32))]) rfl (by rw [hml]; rfl) (lenOf pd_1 rfl) rfl (hb hby at_9) (Nat.le_of_eq rfl) ?_
      intro v13 T13 L13 X13 hQ13
      obtain ⟨hv13, M13, e13⟩ := hQ13
      have N13 := Fr.app N1 M13
      obtain rfl : v13 = some (.ref w_HEARTBEAT) := hv13.trans (by simp [hb0, hb1])
      show Go p e below _ (T13.setTop (mkF m 12 #[.val (.int p0), .val (.int (p0.toInt8.toInt32)), .val (.ref w_HEARTBEAT), .unset] [(.ref w_HEARTBEAT)]))
      refine Go.st (fun _ => XS.astoreN X13.here hx rfl (hb hby at_12) rfl rfl (l' := #[.val (.int p0), .val (.int (p0.toInt8.toInt32)), .val (.ref w_HEARTBEAT), .val (.ref w_HEARTBEAT)]) rfl) ?_
      show Go p e below _ (T13.setTop (mkF m 13 #[.val (.int p0), .val (.int (p0.toInt8.toInt32)), .val (.ref w_HEARTBEAT), .val (.ref w_HEARTBEAT)] []))
      refine Go.st (fun _ => XS.aloadN X13.here hx rfl (hb hby at_13) rfl rfl) ?_
      show Go p e below _ (T13.setTop (mkF m 14 #[.val (.int p0), .val (.int (p0.toInt8.toInt32)), .val (.ref w_HEARTBEAT), .val (.ref w_HEARTBEAT)] [(.ref w_HEARTBEAT)]))
      refine Go.st (fun _ => XS.aloadN X13.here hx rfl (hb hby at_14) rfl rfl) ?_
      show Go p e below _ (T13.setTop (mkF m 15 #[.val (.int p0), .val (.int (p0.toInt8.toInt32)), .val (.ref w_HEARTBEAT), .val (.ref w_HEARTBEAT)] [(.ref w_HEARTBEAT), (.ref w_HEARTBEAT)]))
      refine Go.st (fun _ => fun k => Jvm.RoadKit.acmp (g := (mkF m 15 #[.val (.int p0), .val (.int (p0.toInt8.toInt32)), .val (.ref w_HEARTBEAT), .val (.ref w_HEARTBEAT)] [(.ref w_HEARTBEAT), (.ref w_HEARTBEAT)])) X13 hx rfl rfl rfl (pc0 := 15) (pc' := 20) (same := true) rfl (hb hby at_15) rfl (decide_eq_true rfl) (by decide) (by decide) k) ?_
      show Go p e below _ (T13.setTop (mkF m 20 #[.val (.int p0), .val (.int (p0.toInt8.toInt32)), .val (.ref w_HEARTBEAT), .val (.ref w_HEARTBEAT)] []))
      refine Go.st (fun _ => XS.aloadN X13.here hx rfl (hb hby at_20) rfl rfl) ?_
      show Go p e below _ (T13.setTop (mkF m 21 #[.val (.int p0), .val (.int (p0.toInt8.toInt32)), .val (.ref w_HEARTBEAT), .val (.ref w_HEARTBEAT)] [(.ref w_HEARTBEAT)]))
      refine Go.st (fun _ => XS.ifnullNo X13.here hx rfl (hb hby at_21) rfl) ?_
      show Go p e below _ (T13.setTop (mkF m 24 #[.val (.int p0), .val (.int (p0.toInt8.toInt32)), .val (.ref w_HEARTBEAT), .val (.ref w_HEARTBEAT)] []))
      refine Go.st (fun _ => XS.aloadN X13.here hx rfl (hb hby at_24) rfl rfl) ?_
      show Go p e below _ (T13.setTop (mkF m 25 #[.val (.int p0), .val (.int (p0.toInt8.toInt32)), .val (.ref w_HEARTBEAT), .val (.ref w_HEARTBEAT)] [(.ref w_HEARTBEAT)]))
      refine goVirt X13 hx hZ (y := (⟨"com/example/oftcast/oftcast/feed/PacketType", "code", "()B"⟩ : MethodName)) (z := (⟨"com/example/oftcast/oftcast/feed/PacketType", "code", "()B"⟩ : MethodName)) hown (hw _ (List.mem_of_getElem? (i := 29) rfl)) (hw _ (List.mem_of_getElem? (i := 30) rfl)) (notFace_of_selects (args := #[]) (mvT hZ (hw _ (List.mem_of_getElem? (i := 32) rfl)))) (hw _ (List.mem_of_getElem? (i := 32) rfl)) (hw _ (List.mem_of_getElem? (i := 31) rfl)) (hw _ (List.mem_of_getElem? (i := 2) rfl)) (hw _ (List.mem_of_getElem? (i := 33) rfl)) (by decide) (a := w_HEARTBEAT) (argsL := []) (rest := []) e13 E_9 (rm4 l Z a0 hw [] w_HEARTBEAT (72 : Int32) T1.heap n0 O2 F6 (by decide)) 0 (by decide) (by decide) (by decide) (by decide) (mkF m 25 #[.val (.int p0), .val (.int (p0.toInt8.toInt32)), .val (.ref w_HEARTBEAT), .val (.ref w_HEARTBEAT)] [(.ref w_HEARTBEAT)]) rfl (by rw [hml]; rfl) (lenOf pd_2 rfl) rfl (hb hby at_25) (Nat.le_of_eq rfl) ?_
      intro v14 T14 L14 X14 hQ14
      obtain ⟨rfl, M14, e14⟩ := hQ14
      have N14 := Fr.app N13 M14
      show Go p e below _ (T14.setTop (mkF m 28 #[.val (.int p0), .val (.int (p0.toInt8.toInt32)), .val (.ref w_HEARTBEAT), .val (.ref w_HEARTBEAT)] [(.int (72 : Int32))]))
      refine Go.st (fun _ => XS.iloadN X14.here hx rfl (hb hby at_28) rfl) ?_
      show Go p e below _ (T14.setTop (mkF m 29 #[.val (.int p0), .val (.int (p0.toInt8.toInt32)), .val (.ref w_HEARTBEAT), .val (.ref w_HEARTBEAT)] [(.int (p0.toInt8.toInt32)), (.int (72 : Int32))]))
      refine Go.st (fun _ => XS.icmpYes X14.here hx rfl (pc0 := 29) (pc' := 34) rfl (hb hby at_29) rfl (teq (hb1).symm).1 (by decide) (by decide)) ?_
      show Go p e below _ (T14.setTop (mkF m 34 #[.val (.int p0), .val (.int (p0.toInt8.toInt32)), .val (.ref w_HEARTBEAT), .val (.ref w_HEARTBEAT)] []))
      refine Go.st (fun _ => XS.iconst X14.here hx rfl (hb hby at_34)) ?_
      show Go p e below _ (T14.setTop (mkF m 35 #[.val (.int p0), .val (.int (p0.toInt8.toInt32)), .val (.ref w_HEARTBEAT), .val (.ref w_HEARTBEAT)] [(.int (1 : Int32))]))
      exact goRetN X14 hx hlk hret (t := .boolean) (by simp) (w := (1 : Int32)) (by decide) e14 (hb hby at_35) (by decide) (by decide) ⟨rfl, N14⟩
    · by_cases hb2 : (p0.toInt8.toInt32) = 69
      · obtain rfl : v1 = some (.ref w_END_OF_SESSION) := hv1.trans (by simp [hb0, hb1, hb2])
        show Go p e below _ (T1.setTop (mkF m 7 #[.val (.int p0), .val (.int (p0.toInt8.toInt32)), .unset, .unset] [(.ref w_END_OF_SESSION)]))
        refine Go.st (fun _ => XS.astoreN X1.here hx rfl (hb hby at_7) rfl rfl (l' := #[.val (.int p0), .val (.int (p0.toInt8.toInt32)), .val (.ref w_END_OF_SESSION), .unset]) rfl) ?_
        show Go p e below _ (T1.setTop (mkF m 8 #[.val (.int p0), .val (.int (p0.toInt8.toInt32)), .val (.ref w_END_OF_SESSION), .unset] []))
        refine Go.st (fun _ => XS.iloadN X1.here hx rfl (hb hby at_8) rfl) ?_
        show Go p e below _ (T1.setTop (mkF m 9 #[.val (.int p0), .val (.int (p0.toInt8.toInt32)), .val (.ref w_END_OF_SESSION), .unset] [(.int (p0.toInt8.toInt32))]))
        refine goCallS X1 hx hZ (y := (⟨"com/example/oftcast/oftcast/feed/PacketTypeOfPinLaw", "expected", "(B)Lcom/example/oftcast/oftcast/feed/PacketType;"⟩ : MethodName)) hown (hw _ (List.mem_of_getElem? (i := 24) rfl)) (hw _ (List.mem_of_getElem? (i := 25) rfl)) (hw _ (List.mem_of_getElem? (i := 26) rfl)) (hw _ (List.mem_of_getElem? (i := 27) rfl)) (by decide) (argsL := [(.int (p0.toInt8.toInt32))]) (rest := []) rfl (rm3 l Z a0 hw [] (p0.toInt8.toInt32) w_DATA w_HEARTBEAT w_END_OF_SESSION T1.heap n0 O2 S_w_DATA S_w_HEARTBEAT S_w_END_OF_SESSION) 0 (by decide) (by decide) (by decide) (by decide) (mkF m 9 #[.val (.int p0), .val (.int (p0.toInt8.toInt32)), .val (.ref w_END_OF_SESSION), .unset] [(.int (p0.toInt8.toInt32))]) rfl (by rw [hml]; rfl) (lenOf pd_1 rfl) rfl (hb hby at_9) (Nat.le_of_eq rfl) ?_
        intro v15 T15 L15 X15 hQ15
        obtain ⟨hv15, M15, e15⟩ := hQ15
        have N15 := Fr.app N1 M15
        obtain rfl : v15 = some (.ref w_END_OF_SESSION) := hv15.trans (by simp [hb0, hb1, hb2])
        show Go p e below _ (T15.setTop (mkF m 12 #[.val (.int p0), .val (.int (p0.toInt8.toInt32)), .val (.ref w_END_OF_SESSION), .unset] [(.ref w_END_OF_SESSION)]))
        refine Go.st (fun _ => XS.astoreN X15.here hx rfl (hb hby at_12) rfl rfl (l' := #[.val (.int p0), .val (.int (p0.toInt8.toInt32)), .val (.ref w_END_OF_SESSION), .val (.ref w_END_OF_SESSION)]) rfl) ?_
        show Go p e below _ (T15.setTop (mkF m 13 #[.val (.int p0), .val (.int (p0.toInt8.toInt32)), .val (.ref w_END_OF_SESSION), .val (.ref w_END_OF_SESSION)] []))
        refine Go.st (fun _ => XS.aloadN X15.here hx rfl (hb hby at_13) rfl rfl) ?_
        show Go p e below _ (T15.setTop (mkF m 14 #[.val (.int p0), .val (.int (p0.toInt8.toInt32)), .val (.ref w_END_OF_SESSION), .val (.ref w_END_OF_SESSION)] [(.ref w_END_OF_SESSION)]))
        refine Go.st (fun _ => XS.aloadN X15.here hx rfl (hb hby at_14) rfl rfl) ?_
        show Go p e below _ (T15.setTop (mkF m 15 #[.val (.int p0), .val (.int (p0.toInt8.toInt32)), .val (.ref w_END_OF_SESSION), .val (.ref w_END_OF_SESSION)] [(.ref w_END_OF_SESSION), (.ref w_END_OF_SESSION)]))
        refine Go.st (fun _ => fun k => Jvm.RoadKit.acmp (g := (mkF m 15 #[.val (.int p0), .val (.int (p0.toInt8.toInt32)), .val (.ref w_END_OF_SESSION), .val (.ref w_END_OF_SESSION)] [(.ref w_END_OF_SESSION), (.ref w_END_OF_SESSION)])) X15 hx rfl rfl rfl (pc0 := 15) (pc' := 20) (same := true) rfl (hb hby at_15) rfl (decide_eq_true rfl) (by decide) (by decide) k) ?_
        show Go p e below _ (T15.setTop (mkF m 20 #[.val (.int p0), .val (.int (p0.toInt8.toInt32)), .val (.ref w_END_OF_SESSION), .val (.ref w_END_OF_SESSION)] []))
        refine Go.st (fun _ => XS.aloadN X15.here hx rfl (hb hby at_20) rfl rfl) ?_
        show Go p e below _ (T15.setTop (mkF m 21 #[.val (.int p0), .val (.int (p0.toInt8.toInt32)), .val (.ref w_END_OF_SESSION), .val (.ref w_END_OF_SESSION)] [(.ref w_END_OF_SESSION)]))
        refine Go.st (fun _ => XS.ifnullNo X15.here hx rfl (hb hby at_21) rfl) ?_
        show Go p e below _ (T15.setTop (mkF m 24 #[.val (.int p0), .val (.int (p0.toInt8.toInt32)), .val (.ref w_END_OF_SESSION), .val (.ref w_END_OF_SESSION)] []))
        refine Go.st (fun _ => XS.aloadN X15.here hx rfl (hb hby at_24) rfl rfl) ?_
        show Go p e below _ (T15.setTop (mkF m 25 #[.val (.int p0), .val (.int (p0.toInt8.toInt32)), .val (.ref w_END_OF_SESSION), .val (.ref w_END_OF_SESSION)] [(.ref w_END_OF_SESSION)]))
        refine goVirt X15 hx hZ (y := (⟨"com/example/oftcast/oftcast/feed/PacketType", "code", "()B"⟩ : MethodName)) (z := (⟨"com/example/oftcast/oftcast/feed/PacketType", "code", "()B"⟩ : MethodName)) hown (hw _ (List.mem_of_getElem? (i := 29) rfl)) (hw _ (List.mem_of_getElem? (i := 30) rfl)) (notFace_of_selects (args := #[]) (mvT hZ (hw _ (List.mem_of_getElem? (i := 32) rfl)))) (hw _ (List.mem_of_getElem? (i := 32) rfl)) (hw _ (List.mem_of_getElem? (i := 31) rfl)) (hw _ (List.mem_of_getElem? (i := 2) rfl)) (hw _ (List.mem_of_getElem? (i := 33) rfl)) (by decide) (a := w_END_OF_SESSION) (argsL := []) (rest := []) e15 E_10 (rm4 l Z a0 hw [] w_END_OF_SESSION (69 : Int32) T1.heap n0 O2 F7 (by decide)) 0 (by decide) (by decide) (by decide) (by decide) (mkF m 25 #[.val (.int p0), .val (.int (p0.toInt8.toInt32)), .val (.ref w_END_OF_SESSION), .val (.ref w_END_OF_SESSION)] [(.ref w_END_OF_SESSION)]) rfl (by rw [hml]; rfl) (lenOf pd_2 rfl) rfl (hb hby at_25) (Nat.le_of_eq rfl) ?_
        intro v16 T16 L16 X16 hQ16
        obtain ⟨rfl, M16, e16⟩ := hQ16
        have N16 := Fr.app N15 M16
        show Go p e below _ (T16.setTop (mkF m 28 #[.val (.int p0), .val (.int (p0.toInt8.toInt32)), .val (.ref w_END_OF_SESSION), .val (.ref w_END_OF_SESSION)] [(.int (69 : Int32))]))
        refine Go.st (fun _ => XS.iloadN X16.here hx rfl (hb hby at_28) rfl) ?_
        show Go p e below _ (T16.setTop (mkF m 29 #[.val (.int p0), .val (.int (p0.toInt8.toInt32)), .val (.ref w_END_OF_SESSION), .val (.ref w_END_OF_SESSION)] [(.int (p0.toInt8.toInt32)), (.int (69 : Int32))]))
        refine Go.st (fun _ => XS.icmpYes X16.here hx rfl (pc0 := 29) (pc' := 34) rfl (hb hby at_29) rfl (teq (hb2).symm).1 (by decide) (by decide)) ?_
        show Go p e below _ (T16.setTop (mkF m 34 #[.val (.int p0), .val (.int (p0.toInt8.toInt32)), .val (.ref w_END_OF_SESSION), .val (.ref w_END_OF_SESSION)] []))
        refine Go.st (fun _ => XS.iconst X16.here hx rfl (hb hby at_34)) ?_
        show Go p e below _ (T16.setTop (mkF m 35 #[.val (.int p0), .val (.int (p0.toInt8.toInt32)), .val (.ref w_END_OF_SESSION), .val (.ref w_END_OF_SESSION)] [(.int (1 : Int32))]))
        exact goRetN X16 hx hlk hret (t := .boolean) (by simp) (w := (1 : Int32)) (by decide) e16 (hb hby at_35) (by decide) (by decide) ⟨rfl, N16⟩
      · obtain rfl : v1 = some .null := hv1.trans (by simp [hb0, hb1, hb2])
        show Go p e below _ (T1.setTop (mkF m 7 #[.val (.int p0), .val (.int (p0.toInt8.toInt32)), .unset, .unset] [.null]))
        refine Go.st (fun _ => XS.astoreN X1.here hx rfl (hb hby at_7) rfl rfl (l' := #[.val (.int p0), .val (.int (p0.toInt8.toInt32)), .val .null, .unset]) rfl) ?_
        show Go p e below _ (T1.setTop (mkF m 8 #[.val (.int p0), .val (.int (p0.toInt8.toInt32)), .val .null, .unset] []))
        refine Go.st (fun _ => XS.iloadN X1.here hx rfl (hb hby at_8) rfl) ?_
        show Go p e below _ (T1.setTop (mkF m 9 #[.val (.int p0), .val (.int (p0.toInt8.toInt32)), .val .null, .unset] [(.int (p0.toInt8.toInt32))]))
        refine goCallS X1 hx hZ (y := (⟨"com/example/oftcast/oftcast/feed/PacketTypeOfPinLaw", "expected", "(B)Lcom/example/oftcast/oftcast/feed/PacketType;"⟩ : MethodName)) hown (hw _ (List.mem_of_getElem? (i := 24) rfl)) (hw _ (List.mem_of_getElem? (i := 25) rfl)) (hw _ (List.mem_of_getElem? (i := 26) rfl)) (hw _ (List.mem_of_getElem? (i := 27) rfl)) (by decide) (argsL := [(.int (p0.toInt8.toInt32))]) (rest := []) rfl (rm3 l Z a0 hw [] (p0.toInt8.toInt32) w_DATA w_HEARTBEAT w_END_OF_SESSION T1.heap n0 O2 S_w_DATA S_w_HEARTBEAT S_w_END_OF_SESSION) 0 (by decide) (by decide) (by decide) (by decide) (mkF m 9 #[.val (.int p0), .val (.int (p0.toInt8.toInt32)), .val .null, .unset] [(.int (p0.toInt8.toInt32))]) rfl (by rw [hml]; rfl) (lenOf pd_1 rfl) rfl (hb hby at_9) (Nat.le_of_eq rfl) ?_
        intro v17 T17 L17 X17 hQ17
        obtain ⟨hv17, M17, e17⟩ := hQ17
        have N17 := Fr.app N1 M17
        obtain rfl : v17 = some .null := hv17.trans (by simp [hb0, hb1, hb2])
        show Go p e below _ (T17.setTop (mkF m 12 #[.val (.int p0), .val (.int (p0.toInt8.toInt32)), .val .null, .unset] [.null]))
        refine Go.st (fun _ => XS.astoreN X17.here hx rfl (hb hby at_12) rfl rfl (l' := #[.val (.int p0), .val (.int (p0.toInt8.toInt32)), .val .null, .val .null]) rfl) ?_
        show Go p e below _ (T17.setTop (mkF m 13 #[.val (.int p0), .val (.int (p0.toInt8.toInt32)), .val .null, .val .null] []))
        refine Go.st (fun _ => XS.aloadN X17.here hx rfl (hb hby at_13) rfl rfl) ?_
        show Go p e below _ (T17.setTop (mkF m 14 #[.val (.int p0), .val (.int (p0.toInt8.toInt32)), .val .null, .val .null] [.null]))
        refine Go.st (fun _ => XS.aloadN X17.here hx rfl (hb hby at_14) rfl rfl) ?_
        show Go p e below _ (T17.setTop (mkF m 15 #[.val (.int p0), .val (.int (p0.toInt8.toInt32)), .val .null, .val .null] [.null, .null]))
        refine Go.st (fun _ => fun k => Jvm.RoadKit.acmp (g := (mkF m 15 #[.val (.int p0), .val (.int (p0.toInt8.toInt32)), .val .null, .val .null] [.null, .null])) X17 hx rfl rfl rfl (pc0 := 15) (pc' := 20) (same := true) rfl (hb hby at_15) rfl (decide_eq_true rfl) (by decide) (by decide) k) ?_
        show Go p e below _ (T17.setTop (mkF m 20 #[.val (.int p0), .val (.int (p0.toInt8.toInt32)), .val .null, .val .null] []))
        refine Go.st (fun _ => XS.aloadN X17.here hx rfl (hb hby at_20) rfl rfl) ?_
        show Go p e below _ (T17.setTop (mkF m 21 #[.val (.int p0), .val (.int (p0.toInt8.toInt32)), .val .null, .val .null] [.null]))
        refine Go.st (fun _ => XS.ifnullYes X17.here hx rfl (pc0 := 21) (pc' := 34) rfl (hb hby at_21) rfl (by decide) (by decide)) ?_
        show Go p e below _ (T17.setTop (mkF m 34 #[.val (.int p0), .val (.int (p0.toInt8.toInt32)), .val .null, .val .null] []))
        refine Go.st (fun _ => XS.iconst X17.here hx rfl (hb hby at_34)) ?_
        show Go p e below _ (T17.setTop (mkF m 35 #[.val (.int p0), .val (.int (p0.toInt8.toInt32)), .val .null, .val .null] [(.int (1 : Int32))]))
        exact goRetN X17 hx hlk hret (t := .boolean) (by simp) (w := (1 : Int32)) (by decide) e17 (hb hby at_35) (by decide) (by decide) ⟨rfl, N17⟩
set_option maxRecDepth 65536 in
set_option maxHeartbeats 40000000 in
theorem comes_1 {Post : Tables → Env → Array Value → State → Outcome → State → Prop} (hpost : ∀ tb e args s v u, (limb_1_1.after args s (.returned v) u = true ∧ limb_1_2.after args s (.returned v) u = true ∧ True) → FrameEnd s (.returned v) u (Jvm.fieldLocs frame_1_writes args s ++ Jvm.arrayLocs frame_1_arrays args s ++ Jvm.staticLocs frame_1_statics s) 16 128 → Post tb e args s (.returned v) u) :
    ArmFor flags0 classFile x code maxLocals ret World_1 tables_1 room_1 Calls_1 rest_1 Pre_1 Post := by
  intro l hfl _ _ p e ha hc hk s m args below hf hA hF happ hP
  obtain ⟨hcalls, hrest, hpre⟩ := hP
  obtain ⟨-, -, -, hnamed, -, -, -, hat⟩ := (Spec.applies_iff hf).mp happ
  obtain ⟨hg, hn⟩ := and_e (Cond.before_iff.mp (show (Jvm.Cond.and given_1 narrow_1).before args s = true from hpre))
  obtain ⟨g1, g2⟩ := and_e hg
  obtain ⟨w0, rfl⟩ : ∃ w0 : Value, args = #[w0] := by
    have hs : args.size = 1 := by simpa [Cond.value, given_1] using g1
    obtain ⟨L⟩ := args
    match L, hs with
    | [w0], _ => exact ⟨w0, rfl⟩
  have hw := fun d (hd : d ∈ tables_1) => atoms_spec (ws := Jvm.Cond.code x code maxLocals ret :: tables_1) hat d (List.mem_cons_of_mem _ hd)
  have hfit : Fit s := fun {y c} hc i hi => by
    obtain ⟨ha, rfl⟩ := Array.getElem?_eq_some_iff.mp hc
    have q := List.all_eq_true.mp ((Array.all_eq_true_iff_forall_mem.mp hF) _ (Array.getElem_mem ha)) i (List.mem_range.mpr hi)
    simpa [Array.getElem?_eq_getElem hi] using q
  obtain ⟨i0, ei0⟩ := is_v g2
  obtain rfl : w0 = (.int i0) := Option.some.inj ei0
  obtain ⟨g3, g4⟩ := and_e hn
  -- g3 : ['Jvm.Cond.arrayOf', ['Jvm.Term.static', '"com/example/oftcast/oftcast/feed/PacketType"', '"$VALUES"
  obtain ⟨w__VALUES, ev__VALUES⟩ := arr_v g3
  obtain ⟨clv, Arv0⟩ := Arr.start ev__VALUES g3
  have S_w__VALUES := Sta.start ev__VALUES (Or.inr ⟨(hw _ (List.mem_of_getElem? (i := 2) rfl)), (hw _ (List.mem_of_getElem? (i := 8) rfl))⟩)
  obtain ⟨g5, g6⟩ := and_e g4
  have E_w__VALUES := Exa.start ev__VALUES g5
  obtain ⟨g7, g8⟩ := and_e g6
  -- g7 : ['Jvm.Cond.eq', ['Jvm.Term.length', ['Jvm.Term.static', '"com/example/oftcast/oftcast/feed/PacketTyp
  obtain ⟨hlt, hle⟩ := lenStart ev__VALUES (Arv0.fin (Vm.Alike.refl _)) g7
  obtain ⟨g9, g10⟩ := and_e g8
  obtain ⟨w_DATA, ev_DATA⟩ := exa_v g9
  have S_w_DATA := Sta.start ev_DATA (Or.inr ⟨(hw _ (List.mem_of_getElem? (i := 2) rfl)), (hw _ (List.mem_of_getElem? (i := 16) rfl))⟩)
  have E_w_DATA := Exa.start ev_DATA g9
  obtain ⟨g11, g12⟩ := and_e g10
  -- g11 : ['Jvm.Cond.eq', ['Jvm.Term.elem', ['Jvm.Term.static', '"com/example/oftcast/oftcast/feed/PacketType"
  have el0 := elemStart ev__VALUES Arv0 ev_DATA g11
  obtain ⟨g13, g14⟩ := and_e g12
  obtain ⟨w_HEARTBEAT, ev_HEARTBEAT⟩ := exa_v g13
  have S_w_HEARTBEAT := Sta.start ev_HEARTBEAT (Or.inr ⟨(hw _ (List.mem_of_getElem? (i := 2) rfl)), (hw _ (List.mem_of_getElem? (i := 17) rfl))⟩)
  have E_w_HEARTBEAT := Exa.start ev_HEARTBEAT g13
  obtain ⟨g15, g16⟩ := and_e g14
  -- g15 : ['Jvm.Cond.eq', ['Jvm.Term.elem', ['Jvm.Term.static', '"com/example/oftcast/oftcast/feed/PacketType"
  have el1 := elemStart ev__VALUES Arv0 ev_HEARTBEAT g15
  obtain ⟨g17, g18⟩ := and_e g16
  obtain ⟨w_END_OF_SESSION, ev_END_OF_SESSION⟩ := exa_v g17
  have S_w_END_OF_SESSION := Sta.start ev_END_OF_SESSION (Or.inr ⟨(hw _ (List.mem_of_getElem? (i := 2) rfl)), (hw _ (List.mem_of_getElem? (i := 18) rfl))⟩)
  have E_w_END_OF_SESSION := Exa.start ev_END_OF_SESSION g17
  obtain ⟨g19, g20⟩ := and_e g18
  -- g19 : ['Jvm.Cond.eq', ['Jvm.Term.elem', ['Jvm.Term.static', '"com/example/oftcast/oftcast/feed/PacketType"
  have el2 := elemStart ev__VALUES Arv0 ev_END_OF_SESSION g19
  obtain ⟨g21, g22⟩ := and_e g20
  have F_w_DATA_code := fldStart ev_DATA g21
  obtain ⟨g23, g24⟩ := and_e g22
  have F_w_HEARTBEAT_code := fldStart ev_HEARTBEAT g23
  have F_w_END_OF_SESSION_code := fldStart ev_END_OF_SESSION g24
  have V0 : Arv s s.heap w__VALUES clv.cls (.object "com/example/oftcast/oftcast/feed/PacketType") (3 : Int32) [(.ref w_DATA), (.ref w_HEARTBEAT), (.ref w_END_OF_SESSION)] .null := Arv.start hfit Arv0 hlt hle (by decide) rfl ⟨el0, el1, el2, trivial⟩
  obtain ⟨n, o, h1, h2, h3, _, L, rfl, ⟨rfl, N⟩, hq⟩ := rm0 l s _ hw tables_1 i0 w__VALUES w_DATA w_HEARTBEAT w_END_OF_SESSION clv.cls s.heap s.heap.size (Old.start s) S_w__VALUES V0 E_w__VALUES F_w_DATA_code F_w_HEARTBEAT_code F_w_END_OF_SESSION_code E_w_DATA E_w_HEARTBEAT E_w_END_OF_SESSION S_w_DATA S_w_HEARTBEAT S_w_END_OF_SESSION p e ha hc hk s m _ below hf ((Spec.applies_iff_loose hf).mp happ).1 ⟨rfl, State.Warmed39.refl s, rfl⟩ trivial
  refine ⟨n, _, h1, h2, h3, hpost _ _ _ _ _ _ ⟨Cond.after_iff.mpr rfl, Cond.after_iff.mpr (eq_i res_at (Term.int_eval (1)) rfl), trivial⟩ ⟨hq.1, hq.2.1, (hq.2.2.sift fun y hy => Or.inr (N y hy)).mono (by decide) (by decide)⟩⟩
theorem main_1_1 : Claimed_1_1 := comes_1 fun _ _ _ _ _ _ h hF => ⟨h.1, hF⟩
theorem main_1_2 : Claimed_1_2 := comes_1 fun _ _ _ _ _ _ h hF => ⟨h.2.1, hF⟩
end Jvm.Pilot.@@N@@
namespace Jvm.Pilot.@@N@@
open Jvm Jvm.ClassFile Sem Op Lib Jvm.Free Jvm.Stand Jvm.Pilot.@@N@@.Jvm.D
/-! MADE BY PROGRAM (witnessworld.py) out of the Statement's table words and the real class files: 13 classes; the members and pool entries that the words name. The judged class is class 1, her method 2. -/
namespace start1
open Jvm.ClassFile
def u (s : String) : CpInfo := .utf8 (stringToUtf16 s)
/-- a pool by its gaps: so many unusable entries, then the entry; so many at the end -/
def gap : Nat → List CpInfo → List CpInfo
  | 0, r => r
  | n + 1, r => .unusable :: gap n r
def poolList (es : List (Nat × CpInfo)) (last : Nat) : List CpInfo := es.foldr (fun e r => gap e.1 (e.2 :: r)) (gap last [])
def pool (es : List (Nat × CpInfo)) (last : Nat) : Array CpInfo := ⟨poolList es last⟩
def fileOf (pool : Array CpInfo) (this : Nat) (attrs : Array Attribute := #[]) (ms : Array MethodInfo := #[]) (fl : Nat := 33) (sup : Nat := 0) (ifs : Array Nat := #[]) (fds : Array FieldInfo := #[]) : ClassFile where
  minorVersion := 0
  majorVersion := 65
  constantPool := pool
  accessFlags := fl
  thisClass := this
  superClass := sup
  interfaces := ifs
  fields := fds
  methods := ms
  attributes := attrs
def plain (name : String) (sup : Option ClassId) : Class where
  name := name
  kind := .ordinary
  loader := none
  accessFlags := 33
  super := sup
  interfaces := #[]
  cf := none
  fields := #[]
  methods := #[]
  instanceTypes := #[]
  staticTypes := #[]
  resolved := #[]
  callSites := []
  init := .initialized
  statics := none
  mirror := none

def pool0 : Array CpInfo := pool [(5, u "<init>"), (0, u "()V"), (1, .class_ 10), (1, u "java/lang/Object"), (85, u "clone"), (0, u "()Ljava/lang/Object;")] 26

def k0m0 : Method := { name := "<init>", desc := "()V", sig := { parameters := [], returnType := none }, accessFlags := 1, code := none }
def k0m1 : Method := { name := "clone", desc := "()Ljava/lang/Object;", sig := { parameters := [], returnType := some (.object "java/lang/Object") }, accessFlags := 260, code := none }
/-- java/lang/Object -/
def k0 : Class := { plain "java/lang/Object" none with
  accessFlags := 33
  interfaces := #[]
  cf := some (fileOf pool0 8 #[] #[{ accessFlags := 1, nameIndex := 5, descriptorIndex := 6, attributes := #[] }, { accessFlags := 260, nameIndex := 96, descriptorIndex := 97, attributes := #[] }] 33 0 #[] #[])
  fields := #[]
  methods := #[k0m0, k0m1]
  instanceTypes := #[]
  staticTypes := #[]
  resolved := Array.replicate 124 none
  statics := none }

def pool1 : Array CpInfo := pool [(2, .class_ 4), (1, u "java/lang/Object"), (0, u "<init>"), (0, u "()V"), (0, .fieldref 8 9), (0, .class_ 10), (0, .nameAndType 11 12), (0, u "com/example/oftcast/oftcast/feed/PacketType"), (0, u "DATA"), (0, u "Lcom/example/oftcast/oftcast/feed/PacketType;"), (0, .fieldref 8 14), (0, .nameAndType 15 12), (0, u "HEARTBEAT"), (0, .fieldref 8 17), (0, .nameAndType 18 12), (0, u "END_OF_SESSION"), (0, .methodref 8 20), (0, .nameAndType 21 22), (0, u "of"), (0, u "(B)Lcom/example/oftcast/oftcast/feed/PacketType;"), (0, .methodref 24 25), (0, .class_ 26), (0, .nameAndType 27 22), (0, u "com/example/oftcast/oftcast/feed/PacketTypeOfPinLaw"), (0, u "expected"), (0, .methodref 8 29), (0, .nameAndType 30 31), (0, u "code"), (0, u "()B"), (3, u "law"), (0, u "(I)Z")] 2

def k1m0 : Method := { name := "<init>", desc := "()V", sig := { parameters := [], returnType := none }, accessFlags := 2, code := none }
def k1c1 : Code := { maxStack := 2, maxLocals := 1, code := method_2_code, exceptionTable := #[], attributes := #[] }
def k1m1 : Method := { name := "expected", desc := "(B)Lcom/example/oftcast/oftcast/feed/PacketType;", sig := { parameters := [.byte], returnType := some (.object "com/example/oftcast/oftcast/feed/PacketType") }, accessFlags := 10, code := some k1c1 }
def k1c2 : Code := { maxStack := 2, maxLocals := 4, code := code, exceptionTable := #[], attributes := #[] }
def k1m2 : Method := { name := "law", desc := "(I)Z", sig := { parameters := [.int], returnType := some .boolean }, accessFlags := 9, code := some k1c2 }
/-- com/example/oftcast/oftcast/feed/PacketTypeOfPinLaw -/
def k1 : Class := { plain "com/example/oftcast/oftcast/feed/PacketTypeOfPinLaw" (some 0) with
  accessFlags := 49
  interfaces := #[]
  cf := some (fileOf pool1 24 #[] #[{ accessFlags := 2, nameIndex := 5, descriptorIndex := 6, attributes := #[] }, { accessFlags := 10, nameIndex := 27, descriptorIndex := 22, attributes := #[] }, { accessFlags := 9, nameIndex := 35, descriptorIndex := 36, attributes := #[] }] 49 2 #[] #[])
  fields := #[]
  methods := #[k1m0, k1m1, k1m2]
  instanceTypes := #[]
  staticTypes := #[]
  resolved := Array.replicate 39 none
  statics := none }

def pool2 : Array CpInfo := pool [(1, .class_ 2), (0, u "java/lang/constant/Constable"), (0, .class_ 4), (0, u "java/lang/Object")] 6

/-- java/lang/constant/Constable -/
def k2 : Class := { plain "java/lang/constant/Constable" (some 0) with
  accessFlags := 1537
  interfaces := #[]
  cf := some (fileOf pool2 1 #[] #[] 1537 3 #[] #[])
  fields := #[]
  methods := #[]
  instanceTypes := #[]
  staticTypes := #[]
  resolved := Array.replicate 11 none
  statics := none }

def pool3 : Array CpInfo := pool [(1, .class_ 2), (0, u "java/lang/Comparable"), (0, .class_ 4), (0, u "java/lang/Object")] 7

/-- java/lang/Comparable -/
def k3 : Class := { plain "java/lang/Comparable" (some 0) with
  accessFlags := 1537
  interfaces := #[]
  cf := some (fileOf pool3 1 #[] #[] 1537 3 #[] #[])
  fields := #[]
  methods := #[]
  instanceTypes := #[]
  staticTypes := #[]
  resolved := Array.replicate 12 none
  statics := none }

def pool4 : Array CpInfo := pool [(1, .class_ 2), (0, u "java/io/Serializable"), (0, .class_ 4), (0, u "java/lang/Object")] 2

/-- java/io/Serializable -/
def k4 : Class := { plain "java/io/Serializable" (some 0) with
  accessFlags := 1537
  interfaces := #[]
  cf := some (fileOf pool4 1 #[] #[] 1537 3 #[] #[])
  fields := #[]
  methods := #[]
  instanceTypes := #[]
  staticTypes := #[]
  resolved := Array.replicate 7 none
  statics := none }

def pool5 : Array CpInfo := pool [(2, .class_ 4), (1, u "java/lang/Enum"), (0, u "name"), (0, u "Ljava/lang/String;"), (2, u "ordinal"), (0, u "I"), (1, .class_ 14), (1, u "java/lang/Object"), (4, u "hash"), (86, .class_ 108), (1, u "java/lang/Enum$EnumDesc"), (2, .class_ 112), (0, u "java/lang/constant/Constable"), (0, .class_ 114), (0, u "java/lang/Comparable"), (0, .class_ 116), (0, u "java/io/Serializable")] 87

/-- java/lang/Enum -/
def k5 : Class := { plain "java/lang/Enum" (some 0) with
  accessFlags := 1057
  interfaces := #[2, 3, 4]
  cf := some (fileOf pool5 2 #[.nestMembers #[106]] #[] 1057 12 #[111, 113, 115] #[{ accessFlags := 18, nameIndex := 5, descriptorIndex := 6, attributes := #[] }, { accessFlags := 18, nameIndex := 9, descriptorIndex := 10, attributes := #[] }, { accessFlags := 2, nameIndex := 19, descriptorIndex := 10, attributes := #[] }])
  fields := #[{ name := "name", type := (.object "java/lang/String"), accessFlags := 18, slot := 0, constantValue := 0 }, { name := "ordinal", type := .int, accessFlags := 18, slot := 1, constantValue := 0 }, { name := "hash", type := .int, accessFlags := 2, slot := 2, constantValue := 0 }]
  methods := #[]
  instanceTypes := #[(.object "java/lang/String"), .int, .int]
  staticTypes := #[]
  resolved := Array.replicate 204 none
  statics := none }

def pool6 : Array CpInfo := pool [(1, .class_ 2), (0, u "com/example/oftcast/oftcast/feed/PacketType"), (2, u "DATA"), (0, u "Lcom/example/oftcast/oftcast/feed/PacketType;"), (2, u "HEARTBEAT"), (2, u "END_OF_SESSION"), (0, .fieldref 1 14), (0, .nameAndType 15 16), (0, u "$VALUES"), (0, u "[Lcom/example/oftcast/oftcast/feed/PacketType;"), (0, .methodref 18 19), (0, .class_ 16), (0, .nameAndType 20 21), (0, u "clone"), (0, u "()Ljava/lang/Object;"), (1, .class_ 25), (1, u "java/lang/Enum"), (6, .fieldref 1 33), (0, .nameAndType 34 35), (0, u "code"), (0, u "B"), (0, .methodref 1 37), (0, .nameAndType 38 39), (0, u "values"), (0, u "()[Lcom/example/oftcast/oftcast/feed/PacketType;"), (15, u "()B"), (0, u "of"), (0, u "(B)Lcom/example/oftcast/oftcast/feed/PacketType;")] 6

def k6c0 : Code := { maxStack := 1, maxLocals := 0, code := prog_36_method_1_code, exceptionTable := #[], attributes := #[] }
def k6m0 : Method := { name := "values", desc := "()[Lcom/example/oftcast/oftcast/feed/PacketType;", sig := { parameters := [], returnType := some (.array (.object "com/example/oftcast/oftcast/feed/PacketType")) }, accessFlags := 9, code := some k6c0 }
def k6c1 : Code := { maxStack := 1, maxLocals := 1, code := prog_36_method_4_code, exceptionTable := #[], attributes := #[] }
def k6m1 : Method := { name := "code", desc := "()B", sig := { parameters := [], returnType := some .byte }, accessFlags := 1, code := some k6c1 }
def k6c2 : Code := { maxStack := 2, maxLocals := 5, code := prog_36_method_5_code, exceptionTable := #[], attributes := #[] }
def k6m2 : Method := { name := "of", desc := "(B)Lcom/example/oftcast/oftcast/feed/PacketType;", sig := { parameters := [.byte], returnType := some (.object "com/example/oftcast/oftcast/feed/PacketType") }, accessFlags := 8, code := some k6c2 }
/-- com/example/oftcast/oftcast/feed/PacketType -/
def k6 : Class := { plain "com/example/oftcast/oftcast/feed/PacketType" (some 5) with
  accessFlags := 16433
  interfaces := #[]
  cf := some (fileOf pool6 1 #[] #[{ accessFlags := 9, nameIndex := 38, descriptorIndex := 39, attributes := #[] }, { accessFlags := 1, nameIndex := 34, descriptorIndex := 55, attributes := #[] }, { accessFlags := 8, nameIndex := 56, descriptorIndex := 57, attributes := #[] }] 16433 23 #[] #[{ accessFlags := 16409, nameIndex := 5, descriptorIndex := 6, attributes := #[] }, { accessFlags := 16409, nameIndex := 9, descriptorIndex := 6, attributes := #[] }, { accessFlags := 16409, nameIndex := 12, descriptorIndex := 6, attributes := #[] }, { accessFlags := 18, nameIndex := 34, descriptorIndex := 35, attributes := #[] }, { accessFlags := 4122, nameIndex := 15, descriptorIndex := 16, attributes := #[] }])
  fields := #[{ name := "DATA", type := (.object "com/example/oftcast/oftcast/feed/PacketType"), accessFlags := 16409, slot := 0, constantValue := 0 }, { name := "HEARTBEAT", type := (.object "com/example/oftcast/oftcast/feed/PacketType"), accessFlags := 16409, slot := 1, constantValue := 0 }, { name := "END_OF_SESSION", type := (.object "com/example/oftcast/oftcast/feed/PacketType"), accessFlags := 16409, slot := 2, constantValue := 0 }, { name := "code", type := .byte, accessFlags := 18, slot := 3, constantValue := 0 }, { name := "$VALUES", type := (.array (.object "com/example/oftcast/oftcast/feed/PacketType")), accessFlags := 4122, slot := 3, constantValue := 0 }]
  methods := #[k6m0, k6m1, k6m2]
  instanceTypes := #[(.object "java/lang/String"), .int, .int, .byte]
  staticTypes := #[(.object "com/example/oftcast/oftcast/feed/PacketType"), (.object "com/example/oftcast/oftcast/feed/PacketType"), (.object "com/example/oftcast/oftcast/feed/PacketType"), (.array (.object "com/example/oftcast/oftcast/feed/PacketType"))]
  resolved := Array.replicate 64 none
  statics := some 0 }

def pool7 : Array CpInfo := pool [(1, .class_ 2), (0, u "java/lang/Cloneable"), (0, .class_ 4), (0, u "java/lang/Object")] 2

/-- java/lang/Cloneable -/
def k7 : Class := { plain "java/lang/Cloneable" (some 0) with
  accessFlags := 1537
  interfaces := #[]
  cf := some (fileOf pool7 1 #[] #[] 1537 3 #[] #[])
  fields := #[]
  methods := #[]
  instanceTypes := #[]
  staticTypes := #[]
  resolved := Array.replicate 7 none
  statics := none }

/-- the primitive byte -/
def k8 : Class := { plain "byte" none with kind := .primitive 'B', accessFlags := 0x411 }
/-- [B -/
def k9 : Class := { plain "[B" (some 0) with kind := .array 8 .byte, interfaces := #[7, 4], accessFlags := 1041 }

/-- the primitive int -/
def k10 : Class := { plain "int" none with kind := .primitive 'I', accessFlags := 0x411 }
/-- [I -/
def k11 : Class := { plain "[I" (some 0) with kind := .array 10 .int, interfaces := #[7, 4], accessFlags := 1041 }

/-- [Lcom/example/oftcast/oftcast/feed/PacketType; -/
def k12 : Class := { plain "[Lcom/example/oftcast/oftcast/feed/PacketType;" (some 0) with kind := .array 6 (.object "com/example/oftcast/oftcast/feed/PacketType"), interfaces := #[7, 4], accessFlags := 1041 }

def heap : Heap := #[{ cls := 6, slots := #[.ref 2, .ref 3, .ref 4, .ref 1], vm := .statics 6 },
  { cls := 12, slots := #[.ref 2, .ref 3, .ref 4], vm := .none },
  { cls := 6, slots := #[.null, .int 0, .int 0, .int 85], vm := .none },
  { cls := 6, slots := #[.null, .int 1, .int 0, .int 72], vm := .none },
  { cls := 6, slots := #[.null, .int 2, .int 0, .int 69], vm := .none }]
def classes : Array Class := #[k0, k1, k2, k3, k4, k5, k6, k7, k8, k9, k10, k11, k12]
def interned : List (Array UInt16 × Addr) := []
def slotsUsed : Nat := 19
def theMethod : MethodId := ⟨1, 2⟩
def args0 : Array Value := #[.int 85]
def aboutOver (below : List Frame) : State where
  vm := { classes := classes, interned := interned.toArray }
  heap := heap
  slotsUsed := slotsUsed
  threads := #[{ frames := .invoking theMethod args0 :: below }]
def below0 : List Frame := [.native { method := ⟨0, 0⟩, args := #[] }]
def about1 : State := aboutOver below0
def p0 : Program := .bare "" "" ""
def e0 : Env := launch0.env 0 0 0
theorem w_frames : about1.frames = Frame.invoking theMethod args0 :: below0 := rfl
set_option maxRecDepth 65536 in
theorem w_args : argsFit about1.vm theMethod args0 = true := by decide +kernel
set_option maxRecDepth 65536 in
theorem w_heap : heapFits about1 = true := by decide +kernel
set_option maxRecDepth 65536 in
theorem w_runnable : about1.curStatus? = some .runnable := by decide +kernel
set_option maxRecDepth 65536 in
theorem w_alone : about1.alone = true := by decide +kernel
set_option maxRecDepth 65536 in
theorem w_named : about1.methodNamed? x = some theMethod := by decide +kernel
set_option maxRecDepth 65536 in
theorem w_hears : about1.hears theMethod below0 = true := by decide +kernel
set_option maxRecDepth 65536 in
theorem w_ripe : about1.ripe theMethod args0 below0 = true := by decide +kernel
theorem w_running : about1.status = .running := rfl
set_option maxRecDepth 65536 in
theorem w_room : about1.hasRoom e0.platform room_1 = true :=
  launch0.hasRoom_least _ room_1 (by decide +kernel) (by decide +kernel) (by decide +kernel) (by decide +kernel) (by decide +kernel) (by decide +kernel)
theorem allAtoms_all (ts : List Jvm.Cond) (a : Array Jvm.Value) (st : Jvm.State) : (allAtoms ts).before a st = ts.all (fun c => c.before a st) := by
  induction ts with
  | nil => rfl
  | cons c t ih =>
    show (Jvm.Cond.and c (allAtoms t)).before a st = _
    rw [Jvm.Cond.before_and, ih, List.all_cons]
def words1 : List Jvm.Cond := Jvm.Cond.code x code maxLocals ret :: tables_1
/-- a 'code' word, met by the world's own term for the bytes: nothing is compared byte by byte -/
theorem code_word {y : MethodName} {bytes : ByteArray} {mx : Nat} {rt : Option FieldType} {a : Array Value} {s : State} {m : MethodId} {meth : Method} {c : Code} (h1 : s.methodNamed? y = some m) (h2 : s.vm.method? m = some meth) (h3 : meth.code = some c) (h4 : c.code = bytes)
    (h5 : (c.maxLocals == mx && c.exceptionTable.isEmpty && decide (c.maxStack ≤ mostOperands) && decide (meth.sig.returnType = rt) && !meth.locks && decide (parseMethodDescriptor y.desc = some meth.sig)) = true) : (Jvm.Cond.code y bytes mx rt).before a s = true := by
  simp only [Bool.and_eq_true, beq_iff_eq, Bool.not_eq_true', decide_eq_true_eq] at h5
  obtain ⟨⟨⟨⟨⟨g1, g2⟩, g3⟩, g4⟩, g5⟩, g6⟩ := h5
  simp [Cond.before, Cond.holds, Cond.value, h1, h2, h3, h4, g1, g2, g3, g4, g5, g6]
def isCode : Jvm.Cond → Bool
  | .code _ _ _ _ => true
  | _ => false
theorem all_split {L : List Jvm.Cond} {P : Jvm.Cond → Bool} (h1 : L.all (fun c => isCode c || P c) = true) (h2 : ∀ c ∈ L.filter isCode, P c = true) : L.all P = true := by
  refine List.all_eq_true.mpr fun c hc => ?_
  have h := List.all_eq_true.mp h1 c hc
  rcases Bool.eq_false_or_eq_true (isCode c) with hi | hi
  · exact h2 c (List.mem_filter.mpr ⟨hc, hi⟩)
  · simpa [hi] using h
set_option maxRecDepth 65536 in
theorem w_c0 : (Jvm.Cond.code x code maxLocals ret).before args0 about1 = true := code_word (m := ⟨1, 2⟩) (meth := k1m2) (c := k1c2) (by decide +kernel) rfl rfl rfl (by decide +kernel)
set_option maxRecDepth 65536 in
theorem w_c1 : (Jvm.Cond.code ({ cls := "com/example/oftcast/oftcast/feed/PacketType", name := "of", desc := "(B)Lcom/example/oftcast/oftcast/feed/PacketType;" } : Jvm.MethodName) prog_36_method_5_code (5 : Nat) (Option.some (Jvm.ClassFile.FieldType.object "com/example/oftcast/oftcast/feed/PacketType"))).before args0 about1 = true := code_word (m := ⟨6, 2⟩) (meth := k6m2) (c := k6c2) (by decide +kernel) rfl rfl rfl (by decide +kernel)
set_option maxRecDepth 65536 in
theorem w_c2 : (Jvm.Cond.code ({ cls := "com/example/oftcast/oftcast/feed/PacketType", name := "values", desc := "()[Lcom/example/oftcast/oftcast/feed/PacketType;" } : Jvm.MethodName) prog_36_method_1_code (0 : Nat) (Option.some (Jvm.ClassFile.FieldType.array (Jvm.ClassFile.FieldType.object "com/example/oftcast/oftcast/feed/PacketType")))).before args0 about1 = true := code_word (m := ⟨6, 0⟩) (meth := k6m0) (c := k6c0) (by decide +kernel) rfl rfl rfl (by decide +kernel)
set_option maxRecDepth 65536 in
theorem w_c3 : (Jvm.Cond.code ({ cls := "com/example/oftcast/oftcast/feed/PacketTypeOfPinLaw", name := "expected", desc := "(B)Lcom/example/oftcast/oftcast/feed/PacketType;" } : Jvm.MethodName) method_2_code (1 : Nat) (Option.some (Jvm.ClassFile.FieldType.object "com/example/oftcast/oftcast/feed/PacketType"))).before args0 about1 = true := code_word (m := ⟨1, 1⟩) (meth := k1m1) (c := k1c1) (by decide +kernel) rfl rfl rfl (by decide +kernel)
set_option maxRecDepth 65536 in
theorem w_c4 : (Jvm.Cond.code ({ cls := "com/example/oftcast/oftcast/feed/PacketType", name := "code", desc := "()B" } : Jvm.MethodName) prog_36_method_4_code (1 : Nat) (Option.some Jvm.ClassFile.FieldType.byte)).before args0 about1 = true := code_word (m := ⟨6, 1⟩) (meth := k6m1) (c := k6c1) (by decide +kernel) rfl rfl rfl (by decide +kernel)
def codes1 : List Jvm.Cond := [Jvm.Cond.code x code maxLocals ret, Jvm.Cond.code ({ cls := "com/example/oftcast/oftcast/feed/PacketType", name := "of", desc := "(B)Lcom/example/oftcast/oftcast/feed/PacketType;" } : Jvm.MethodName) prog_36_method_5_code (5 : Nat) (Option.some (Jvm.ClassFile.FieldType.object "com/example/oftcast/oftcast/feed/PacketType")), Jvm.Cond.code ({ cls := "com/example/oftcast/oftcast/feed/PacketType", name := "values", desc := "()[Lcom/example/oftcast/oftcast/feed/PacketType;" } : Jvm.MethodName) prog_36_method_1_code (0 : Nat) (Option.some (Jvm.ClassFile.FieldType.array (Jvm.ClassFile.FieldType.object "com/example/oftcast/oftcast/feed/PacketType"))), Jvm.Cond.code ({ cls := "com/example/oftcast/oftcast/feed/PacketTypeOfPinLaw", name := "expected", desc := "(B)Lcom/example/oftcast/oftcast/feed/PacketType;" } : Jvm.MethodName) method_2_code (1 : Nat) (Option.some (Jvm.ClassFile.FieldType.object "com/example/oftcast/oftcast/feed/PacketType")), Jvm.Cond.code ({ cls := "com/example/oftcast/oftcast/feed/PacketType", name := "code", desc := "()B" } : Jvm.MethodName) prog_36_method_4_code (1 : Nat) (Option.some Jvm.ClassFile.FieldType.byte)]
set_option maxRecDepth 65536 in
theorem codes_eq : words1.filter isCode = codes1 := rfl
theorem w_codes : ∀ c ∈ words1.filter isCode, c.before args0 about1 = true := by
  rw [codes_eq]
  intro c hc
  simp only [codes1, List.mem_cons, List.not_mem_nil, or_false] at hc
  rcases hc with rfl | rfl | rfl | rfl | rfl
  · exact w_c0
  · exact w_c1
  · exact w_c2
  · exact w_c3
  · exact w_c4
set_option maxRecDepth 65536 in
theorem w_t1 : (words1.take 24).all (fun c => isCode c || c.before args0 about1) = true := by decide +kernel
set_option maxRecDepth 65536 in
theorem w_t2 : (words1.drop 24).all (fun c => isCode c || c.before args0 about1) = true := by decide +kernel
theorem w_tables : (allAtoms (Jvm.Cond.code x code maxLocals ret :: tables_1)).before args0 about1 = true := by
  rw [allAtoms_all]
  show words1.all (fun c => c.before args0 about1) = true
  refine all_split ?_ w_codes
  rw [← List.take_append_drop 24 words1, List.all_append, w_t1, w_t2]
  rfl
set_option maxRecDepth 65536 in
theorem w_case : (Jvm.Cond.and given_1 narrow_1).before args0 about1 = true := by decide +kernel
theorem w_applies : (headSpec (Jvm.Cond.code x code maxLocals ret :: tables_1) room_1).applies x e0.platform about1 = true :=
  (Spec.applies_iff w_frames).mpr ⟨w_running, w_runnable, w_alone, w_named, w_hears, w_ripe, w_room, w_tables⟩
theorem atStart : AtStart classFile x code maxLocals ret World_1 tables_1 room_1 Calls_1 rest_1 Pre_1 launch0 p0 e0 about1 theMethod args0 below0 :=
  ⟨lists_1, trivial, launch0.admits_env _ _ _, launch0.least_env, fairChoices_fair.cas, fairChoices_fair.clock, w_frames, w_args, w_heap, w_applies, trivial, trivial, w_case⟩
end start1
theorem witness_1 : WitnessClaimed_1 := ⟨start1.p0, start1.e0, start1.about1, start1.theMethod, start1.args0, start1.below0, start1.atStart⟩
end Jvm.Pilot.@@N@@
