import JvmDerived
import JvmDerived.Pilot.@@N@@Statement
import JvmDerived.Pilot.@@N@@Code
set_option linter.unusedVariables false
set_option linter.unusedSimpArgs false
namespace Jvm.Pilot.@@N@@
open Jvm Jvm.ClassFile Sem Op Lib Jvm.Free Jvm.Stand Jvm.LawKit Jvm.RoadKit Bundle Jvm.Pilot.@@N@@.Jvm.D
section Own
variable {p : Program} {l : Launch} {e : Env} {R : Room} {s : State} {m : MethodId} {args : Array Value} {below : List Frame} {meth : Method} {c : Code} {T : State} {locs : List Loc} {cells slots : Nat} {K : Outcome → State → Prop} {Z : State} {a0 : Array Value}
/-- from S the run comes to an end of which K is true -/
def Go (p : Program) (e : Env) (below : List Frame) (K : Outcome → State → Prop) (S : State) : Prop := ∃ s₂ o, Steps p.tables e below S s₂ ∧ s₂.status = .running ∧ Ended s₂ below o ∧ K o s₂
theorem Go.st {S S' : State} (h : ∀ t, Steps p.tables e below S' t → Steps p.tables e below S t) (k : Go p e below K S') : Go p e below K S := by
  obtain ⟨a, o, h1, r⟩ := k; exact ⟨a, o, h _ h1, r⟩
theorem Go.tr {S S' : State} (h : Steps p.tables e below S S') (k : Go p e below K S') : Go p e below K S := by
  obtain ⟨a, o, h1, r⟩ := k; exact ⟨a, o, h.trans h1, r⟩
def EndQ (s : State) (Q : Option Value → Heap → List Loc → Prop) (ce sl : Nat) (o : Outcome) (U : State) : Prop := ∃ v L, o = .returned v ∧ Q v U.heap L ∧ FrameEnd s o U L ce sl
theorem goRet {v : Option Value} {ce sl : Nat} {Q : Option Value → Heap → List Loc → Prop} {S : State} {h : Heap} (X : Stand p l e R s m args below meth c T locs cells slots) (hlk : meth.locks = false) (hv : meth.sig.returnType = none → v = none) (eT : T.heap = h)
    (step : ∀ fs, (∀ (f : JFrame) (acts : List Action), f.method = m → f.locked = none → f.entered = [] → (doReturn e (T.setTop f) acts v).1 = T.setFrames fs) → Steps p.tables e below S (T.setFrames fs))
    (hc : cells ≤ ce) (hs : slots ≤ sl) (hQ : Q v h locs) : Go p e below (EndQ s Q ce sl) S := by
  obtain ⟨fs, hr, hrun, hended, hW, hsame⟩ := X.leave (v := v) hv hlk
  subst eT
  exact ⟨_, _, step fs hr, hrun, hended, _, _, rfl, hQ, ⟨_, rfl⟩, hW, hsame.mono hc hs⟩
/-- ireturn of a boolean, byte, char, short -/
theorem goRetN {ce sl : Nat} {Q : Option Value → Heap → List Loc → Prop} {pc : Nat} {Ls : Array Slot} {z w : Int32} {rest : List Value} {t : FieldType} {h : Heap} (X : Stand p l e R s m args below meth c T locs cells slots) (hx : p.tables.exec = Jvm.exec) (hlk : meth.locks = false) (hret : meth.sig.returnType = some t) (ht : t = .boolean ∨ t = .byte ∨ t = .char ∨ t = .short) (hw : nar t z = w) (eT : T.heap = h)
    (hd : decode c.code pc = .ok (.ireturn, 1)) (hc : cells ≤ ce) (hs : slots ≤ sl) (hQ : Q (some (.int w)) h locs) : Go p e below (EndQ s Q ce sl) (T.setTop (mkF m pc Ls (.int z :: rest))) := by
  subst hw
  exact goRet X hlk (fun h => by rw [hret] at h; cases h) eT (fun fs hr => retN X hx hret ht hd hr) hc hs hQ
theorem goRetI {ce sl : Nat} {Q : Option Value → Heap → List Loc → Prop} {pc : Nat} {Ls : Array Slot} {z : Int32} {rest : List Value} {h : Heap} (X : Stand p l e R s m args below meth c T locs cells slots) (hx : p.tables.exec = Jvm.exec) (hlk : meth.locks = false) (hret : meth.sig.returnType = some .int) (eT : T.heap = h)
    (hd : decode c.code pc = .ok (.ireturn, 1)) (hc : cells ≤ ce) (hs : slots ≤ sl) (hQ : Q (some (.int z)) h locs) : Go p e below (EndQ s Q ce sl) (T.setTop (mkF m pc Ls (.int z :: rest))) :=
  goRet X hlk (fun h => by rw [hret] at h; cases h) eT (fun fs hr => retOut X hx hret rfl (Or.inl ⟨rfl, Or.inl rfl, z, rfl⟩) hd hr) hc hs hQ
theorem goRetJ {ce sl : Nat} {Q : Option Value → Heap → List Loc → Prop} {pc : Nat} {Ls : Array Slot} {z : Int64} {rest : List Value} {h : Heap} (X : Stand p l e R s m args below meth c T locs cells slots) (hx : p.tables.exec = Jvm.exec) (hlk : meth.locks = false) (hret : meth.sig.returnType = some .long) (eT : T.heap = h)
    (hd : decode c.code pc = .ok (.lreturn, 1)) (hc : cells ≤ ce) (hs : slots ≤ sl) (hQ : Q (some (.long z)) h locs) : Go p e below (EndQ s Q ce sl) (T.setTop (mkF m pc Ls (.long z :: rest))) :=
  goRet X hlk (fun h => by rw [hret] at h; cases h) eT (fun fs hr => retOut X hx hret rfl (Or.inr (Or.inl ⟨rfl, rfl, z, rfl⟩)) hd hr) hc hs hQ
theorem goRetA {ce sl : Nat} {Q : Option Value → Heap → List Loc → Prop} {pc : Nat} {Ls : Array Slot} {w : Value} {rest : List Value} {t : FieldType} {h : Heap} (X : Stand p l e R s m args below meth c T locs cells slots) (hx : p.tables.exec = Jvm.exec) (hlk : meth.locks = false) (hret : meth.sig.returnType = some t) (ht : t.isReference = true) (hw : w.isRef = true) (hn : narrow t w = w) (eT : T.heap = h)
    (hd : decode c.code pc = .ok (.areturn, 1)) (hc : cells ≤ ce) (hs : slots ≤ sl) (hQ : Q (some w) h locs) : Go p e below (EndQ s Q ce sl) (T.setTop (mkF m pc Ls (w :: rest))) :=
  goRet X hlk (fun h => by rw [hret] at h; cases h) eT (fun fs hr => retOut X hx hret hn (Or.inr (Or.inr (Or.inr (Or.inr ⟨rfl, ht, hw⟩)))) hd hr) hc hs hQ
theorem goRetV {ce sl : Nat} {Q : Option Value → Heap → List Loc → Prop} {pc : Nat} {Ls : Array Slot} {h : Heap} (X : Stand p l e R s m args below meth c T locs cells slots) (hx : p.tables.exec = Jvm.exec) (hlk : meth.locks = false) (hret : meth.sig.returnType = none) (eT : T.heap = h)
    (hd : decode c.code pc = .ok (.return_, 1)) (hc : cells ≤ ce) (hs : slots ≤ sl) (hQ : Q none h locs) : Go p e below (EndQ s Q ce sl) (T.setTop (mkF m pc Ls [])) :=
  goRet X hlk (fun _ => rfl) eT (fun fs hr => X.returnOut hx hret hd hr) hc hs hQ
/-- a method's contract, in the form that a caller takes -/
abbrev Ctr (l : Launch) (y : MethodName) (bytes : ByteArray) (maxL : Nat) (ret : Option FieldType) (ws : List Jvm.Cond) (rm : Room) (as : Array Value) (Z : State) (h0 : Heap) (Q : Option Value → Heap → List Loc → Prop) : Prop :=
  MetFree l y (head1 (Jvm.Cond.code y bytes maxL ret :: ws) rm) (fun a U => a = as ∧ Z.Warmed39 U.vm ∧ U.heap = h0) (fun _ _ _ _ _ => True) (fun _ U o U' => ∃ v L, o = .returned v ∧ Q v U'.heap L ∧ FrameEnd U o U' L rm.cells rm.slots)
theorem Ctr.of {y : MethodName} {bytes : ByteArray} {maxL : Nat} {ret : Option FieldType} {ws : List Jvm.Cond} {rm : Room} {as : Array Value} {h0 : Heap} {Q : Option Value → Heap → List Loc → Prop} (hpl : plainFor y = true)
    (body : ∀ (p : Program) (e : Env) (s : State) (m : MethodId) (below : List Frame) (meth : Method) (c : Code) (s₁ : State), p.tables.exec = Jvm.exec → Z.Warmed39 s.vm → c.code = bytes → c.maxLocals = maxL → s.vm.findClass y.cls = some m.cls → meth.name = y.name → meth.sig.returnType = ret → meth.locks = false →
      Stand p l e rm s m as below meth c s₁ [] 0 0 → s₁.heap = h0 → Go p e below (EndQ s Q rm.cells rm.slots) (s₁.setTop (entryFrame m as maxL))) :
    Ctr l y bytes maxL ret ws rm as Z h0 Q := by
  refine MetFree.of_bodySF hpl hisR ?_
  intro p e s m args below meth c s₁ Bd hml hP _
  obtain ⟨rfl, hZ, hh⟩ := hP
  exact body p e s m below meth c s₁ Bd.exec hZ Bd.bytes hml (findClass_of_methodNamed Bd.named) (name_of_methodNamed Bd.named Bd.method).1 Bd.returns Bd.notSynchronized (Stand.of_body Bd) (by rw [← hh, Bd.state]; rfl)
theorem goCallS (X : Stand p l e R s m args below meth c T locs cells slots) (hx : p.tables.exec = Jvm.exec) (hZ : Z.Warmed39 s.vm) {own : String} {index : Nat} {y : MethodName} {bytes : ByteArray} {maxL : Nat} {ret : Option FieldType} (hown : s.vm.findClass own = some m.cls)
    (w1 : (Jvm.Cond.methodLink own index y).before a0 Z = true) (w2 : (Jvm.Cond.static y).before a0 Z = true) (w3 : (Jvm.Cond.initialized y.cls).before a0 Z = true) (w4 : (Jvm.Cond.code y bytes maxL ret).before a0 Z = true) (hy : y.cls ≠ "java/lang/invoke/MethodHandle" ∧ y.cls ≠ "java/lang/invoke/VarHandle")
    {h : Heap} {rm : Room} {argsL rest : List Value} {Q : Option Value → Heap → List Loc → Prop} (eT : T.heap = h) (hC : Ctr l y bytes maxL ret [] rm argsL.toArray Z h Q) (W : Nat) (hf : rm.frames + 1 ≤ R.frames) (hl : W + (maxL + 11) + rm.locals ≤ R.locals) (hcl : cells + rm.cells ≤ R.cells) (hsl : slots + rm.slots ≤ R.slots)
    (g : JFrame) (hg : g.method = m) (hsize : g.locals.size = c.maxLocals) (hlen : ∀ sig, parseMethodDescriptor y.desc = some sig → argsL.length = sig.parameters.length) (hst : g.stack = argsL.reverse ++ rest) (hd : decode c.code g.pc = .ok (.invokestatic index, 3))
    (hW : 2 * g.monitorRoom + (rest.map fun v => v.category).sum ≤ W)
    (next : ∀ (v : Option Value) (T' : State) (L : List Loc), Stand p l e R s m args below meth c T' (locs ++ L) (cells + rm.cells) (slots + rm.slots) → Q v T'.heap L → Go p e below K (T'.setTop { g with pc := g.pc + 3, stack := v.toList ++ rest })) :
    Go p e below K (T.setTop g) := by
  subst eT
  obtain ⟨v, _, ⟨T', L', k', n'⟩, -, X', ⟨L, hQ, l1, y1, z1⟩, stp⟩ := Jvm.LawKit.callS X hx hown (mvT hZ w1) (mvT hZ w2) (mvT hZ w3) (mvT hZ w4) hy (backOf (W := W) hC hZ w4 w3 hf hl) (g := g) hg hsize hlen hst hW hd (fun _ _ => ⟨rfl, rfl, hcl, hsl⟩)
  dsimp only [Pt.U, Pt.locs, Pt.cells, Pt.slots] at X' l1 y1 z1 stp hQ
  subst l1 y1 z1
  exact Go.st stp (next v T' L X' hQ)
theorem goInit (X : Stand p l e R s m args below meth c T locs cells slots) (hx : p.tables.exec = Jvm.exec) (hZ : Z.Warmed39 s.vm) {own : String} {index : Nat} {y : MethodName} {bytes : ByteArray} {maxL : Nat} (hy1 : y.name = "<init>") (hown : s.vm.findClass own = some m.cls)
    (w1 : (Jvm.Cond.methodLink own index y).before a0 Z = true) (w2 : (Jvm.Cond.instanceMethod y).before a0 Z = true) (w3 : (Jvm.Cond.initialized y.cls).before a0 Z = true) (w4 : (Jvm.Cond.code y bytes maxL none).before a0 Z = true) (hy : y.cls ≠ "java/lang/invoke/MethodHandle" ∧ y.cls ≠ "java/lang/invoke/VarHandle")
    {h : Heap} {rm : Room} {a : Addr} {argsL rest : List Value} {Q : Option Value → Heap → List Loc → Prop} (eT : T.heap = h) (hC : Ctr l y bytes maxL none [] rm (.ref a :: argsL).toArray Z h Q) (W : Nat) (hf : rm.frames + 1 ≤ R.frames) (hl : W + (maxL + 11) + rm.locals ≤ R.locals) (hcl : cells + rm.cells ≤ R.cells) (hsl : slots + rm.slots ≤ R.slots)
    (g : JFrame) (hg : g.method = m) (hsize : g.locals.size = c.maxLocals) (hlen : ∀ sig, parseMethodDescriptor y.desc = some sig → argsL.length = sig.parameters.length) (hst : g.stack = argsL.reverse ++ .ref a :: rest) (hd : decode c.code g.pc = .ok (.invokespecial index, 3))
    (hW : 2 * g.monitorRoom + (rest.map fun v => v.category).sum ≤ W)
    (next : ∀ (v : Option Value) (T' : State) (L : List Loc), Stand p l e R s m args below meth c T' (locs ++ L) (cells + rm.cells) (slots + rm.slots) → Q v T'.heap L → Go p e below K (T'.setTop { g with pc := g.pc + 3, stack := v.toList ++ rest })) :
    Go p e below K (T.setTop g) := by
  subst eT
  obtain ⟨v, _, ⟨T', L', k', n'⟩, -, X', ⟨L, hQ, l1, y1, z1⟩, stp⟩ := X.specialBack hx hy1 hown (mvT hZ w1) (mvT hZ w2) (mvT hZ w4) hy (backOf (W := W) hC hZ w4 w3 hf hl) (g := g) hg hsize (Steps.refl _) hlen hst hW hd (fun _ _ => ⟨rfl, rfl, hcl, hsl⟩)
  dsimp only [Pt.U, Pt.locs, Pt.cells, Pt.slots] at X' l1 y1 z1 stp hQ
  subst l1 y1 z1
  exact Go.tr stp (next v T' L X' hQ)
theorem goVirt (X : Stand p l e R s m args below meth c T locs cells slots) (hx : p.tables.exec = Jvm.exec) (hZ : Z.Warmed39 s.vm) {own C : String} {index : Nat} {y z : MethodName} {bytes : ByteArray} {maxL : Nat} {ret : Option FieldType} (hown : s.vm.findClass own = some m.cls)
    (w1 : (Jvm.Cond.methodLink own index y).before a0 Z = true) (w2 : (Jvm.Cond.declares y).before a0 Z = true) (hnf : NotFace s y) (w5 : (Jvm.Cond.selects C y z).before a0 Z = true) (w6 : (Jvm.Cond.instanceMethod z).before a0 Z = true) (w3 : (Jvm.Cond.initialized z.cls).before a0 Z = true) (w4 : (Jvm.Cond.code z bytes maxL ret).before a0 Z = true) (hy : y.cls ≠ "java/lang/invoke/MethodHandle" ∧ y.cls ≠ "java/lang/invoke/VarHandle")
    {h : Heap} {rm : Room} {a : Addr} {argsL rest : List Value} {Q : Option Value → Heap → List Loc → Prop} (eT : T.heap = h) (E : Exa Z h a C) (hC : Ctr l z bytes maxL ret [] rm (.ref a :: argsL).toArray Z h Q) (W : Nat) (hf : rm.frames + 1 ≤ R.frames) (hl : W + (maxL + 11) + rm.locals ≤ R.locals) (hcl : cells + rm.cells ≤ R.cells) (hsl : slots + rm.slots ≤ R.slots)
    (g : JFrame) (hg : g.method = m) (hsize : g.locals.size = c.maxLocals) (hlen : ∀ sig, parseMethodDescriptor y.desc = some sig → argsL.length = sig.parameters.length) (hst : g.stack = argsL.reverse ++ .ref a :: rest) (hd : decode c.code g.pc = .ok (.invokevirtual index, 3))
    (hW : 2 * g.monitorRoom + (rest.map fun v => v.category).sum ≤ W)
    (next : ∀ (v : Option Value) (T' : State) (L : List Loc), Stand p l e R s m args below meth c T' (locs ++ L) (cells + rm.cells) (slots + rm.slots) → Q v T'.heap L → Go p e below K (T'.setTop { g with pc := g.pc + 3, stack := v.toList ++ rest })) :
    Go p e below K (T.setTop g) := by
  subst eT
  obtain ⟨cq, kq, qa, qb, qc⟩ := isOf (T := T) hZ rfl E
  obtain ⟨v, _, ⟨T', L', k', n'⟩, -, X', ⟨L, hQ, l1, y1, z1⟩, stp⟩ := X.virtualBack hx hown (mvT hZ w1) (mvT hZ w2) hnf (mvT hZ w5) (mvT hZ w6) hy (backOf (W := W) hC hZ w4 w3 hf hl) qa qc (g := g) hg hsize (Steps.refl _) hlen hst hW hd (fun _ _ => ⟨rfl, rfl, hcl, hsl⟩)
  dsimp only [Pt.U, Pt.locs, Pt.cells, Pt.slots] at X' l1 y1 z1 stp hQ
  subst l1 y1 z1
  exact Go.tr stp (next v T' L X' hQ)
theorem oldGe {h : Heap} {n0 : Nat} {b : Addr} (O : Old Z n0 h) (g : b = h.size) : n0 ≤ b := by rw [g, ← O.1]; exact O.2.1
theorem oldSta {h : Heap} {n0 : Nat} {C n d : String} {v : Value} (O : Old Z n0 h) (S : Sta Z Z.heap C n d v) : Sta Z h C n d v := S.ext O.2
theorem oldExa {h : Heap} {n0 : Nat} {C : String} {a : Addr} (O : Old Z n0 h) (S : Exa Z Z.heap a C) : Exa Z h a C := S.ext O.2
theorem oldFld {h : Heap} {n0 : Nat} {a : Addr} {C n d : String} {v : Value} (O : Old Z n0 h) (S : Fld Z Z.heap a C n d v) : Fld Z h a C n d v := S.ext O.2
end Own
theorem fldStart {args : Array Value} {Z : State} {t : Term} {a : Addr} {C n d : String} {v : Int32} (ev : t.eval args Z none [] Z = some (.ref a)) (h : (Jvm.Cond.eq (.field t C n d) (.int v)).value args Z none Z [] = some true) : Fld Z Z.heap a C n d (.int v) := by
  cases hf : Z.fieldOf? a C n d with
  | none => simp [Cond.value, Term.eval, ev, hf] at h
  | some x =>
    cases x <;> simp [Cond.value, Term.eval, ev, hf] at h
    exact Fld.start (by rw [hf, h])
theorem staInt {args : Array Value} {Z : State} {C n d : String} {v : Int32} (h : (Jvm.Cond.eq (.static C n d) (.int v)).value args Z none Z [] = some true) : (Term.static C n d).eval args Z none [] Z = some (.int v) := by
  obtain ⟨x, y, h1, h2, k1, k2⟩ := cmp_v (Or.inl h)
  cases (Term.int_eval v (args := args) (first := Z) (o := none) (idx := []) (s := Z)).symm.trans h2
  obtain ⟨z, rfl⟩ := k2
  rw [h1]
  simp [Cond.value, h1, Term.int_eval] at h
  rw [h]
theorem narZ {z : Int32} (h : z = 0 ∨ z = 1) : nar .boolean z = z := by rcases h with rfl | rfl <;> decide
theorem goJoin {p : Program} {e : Env} {below : List Frame} {K : Outcome → State → Prop} {S : State} {α : Type} {P : α → Prop} {F : α → State} (h1 : ∀ z, P z → Go p e below K (F z)) (h2 : (∀ z, P z → Go p e below K (F z)) → Go p e below K S) : Go p e below K S := h2 h1
theorem own_bit {z : Int32} {P : Prop} [Decidable P] (h : z = (if P then (1 : Int32) else 0)) : z = 0 ∨ z = 1 := by rw [h]; by_cases q : P <;> simp [q]
theorem lenStart {args : Array Value} {Z : State} {t : Term} {a : Addr} {cl : Cell} {n : Int32} (ev : t.eval args Z none [] Z = some (.ref a)) (ha : Z.arrayAt? a = some cl) (h : (Jvm.Cond.eq (.length t) (.int n)).value args Z none Z [] = some true) : cl.slots.size < 2 ^ 31 ∧ cl.slots.size.toInt32 = n := by
  have h1 := eqv_i (Term.int_eval n) h
  by_cases q : cl.slots.size < 2 ^ 31
  · rw [len_f ev ha q] at h1
    exact ⟨q, by simpa using h1⟩
  · simp [Term.eval, ev, ha, q] at h1
theorem nsRoot {Z : State} {a0 : Array Value} {O K : String} {n : Nat} (w : (Jvm.Cond.noSuperclass O).before a0 Z = true) (wi : (Jvm.Cond.instantiable K n).before a0 Z = true) (hn : O ≠ K) : NS Z O K := by
  obtain ⟨c, k, h1, h2, h3, -, -⟩ := Cond.noSuperclass_spec w
  obtain ⟨t, k', g1, -⟩ := Cond.instantiable_spec wi
  have ne := ids_ne h1 g1 hn
  refine ⟨c, t, h1, g1, fun fuel => ?_⟩
  cases fuel with
  | zero => rfl
  | succ f => simp [Vm.isSubclassAux, ne, h2, h3]
theorem nsNo {Z : State} {a0 : Array Value} {C S K : String} {n : Nat} (w : (Jvm.Cond.superclass C S).before a0 Z = true) (wi : (Jvm.Cond.instantiable K n).before a0 Z = true) (nn : NS Z C K) (hn : C ≠ K) : ∃ c t, Z.vm.findClass C = some c ∧ Z.vm.findClass K = some t ∧ Z.vm.assignable c t = false := by
  obtain ⟨c, t, h0, g0, n3⟩ := nn
  obtain ⟨p, k, kp, h1, h2, h3, h4, h5, -, h7⟩ := Cond.superclass_spec h0 w
  obtain ⟨t', k', g1, g2, g5, g6, -⟩ := Cond.instantiable_spec wi
  cases g0.symm.trans g1
  have g7 : k'.isInterface = false := by
    cases hq : k'.isInterface with
    | false => rfl
    | true => rw [hq] at g6; simp at g6
  have ne := ids_ne h0 g0 hn
  refine ⟨c, t, h0, g0, ?_⟩
  show Z.vm.assignableAux (255 + 1) c t = false
  simp [Vm.assignableAux, ne, h2, g2, h5, g5, g7, Vm.isSubclass, n3]
theorem subAt {args : Array Value} {Z : State} {a b : Term} {idx : List Nat} {x y : Int32} (ha : a.eval args Z none idx Z = some (.int x)) (hb : b.eval args Z none idx Z = some (.int y)) : (Term.sub a b).eval args Z none idx Z = some (.int (x - y)) := by simp [Term.eval, ha, hb]
theorem elemStart {args : Array Value} {Z : State} {t u : Term} {a w : Addr} {cl : Cell} {ty : FieldType} {j : Int32} (ev : t.eval args Z none [] Z = some (.ref a)) (A : Arr Z Z.heap a cl ty) (evu : u.eval args Z none [] Z = some (.ref w)) (h : (Jvm.Cond.eq (.elem t (.int j)) u).value args Z none Z [] = some true) : cl.slots[j.toNatClampNeg]? = some (.ref w) := by
  obtain ⟨x, y, h1, h2, k1, k2⟩ := cmp_v (Or.inl h)
  cases evu.symm.trans h2
  have hx : x.isRef = true := k2.2
  have e : x = .ref w := gotT (eq_R h1 h2 hx rfl) h
  rw [← e]
  exact (elem_in h1 ev (Term.int_eval j) A.1).2

theorem pd_0 : parseMethodDescriptor "(I)Lcom/example/frozen_view/frozenview/engine/LockMode;" = some ⟨[.int], some (.object "com/example/frozen_view/frozenview/engine/LockMode")⟩ := by decide +kernel
theorem pd_1 : parseMethodDescriptor "(Lcom/example/frozen_view/frozenview/engine/LockMode;)Z" = some ⟨[(.object "com/example/frozen_view/frozenview/engine/LockMode")], some .boolean⟩ := by decide +kernel
theorem d1_0 : decode method_2_code 0 = .ok (.iload_n 0, 1) := by decide +kernel
theorem d1_1 : decode method_2_code 1 = .ok (.iconst 1, 1) := by decide +kernel
theorem d1_2 : decode method_2_code 2 = .ok (.iand, 1) := by decide +kernel
theorem d1_3 : decode method_2_code 3 = .ok (.ifCond .ne 7, 3) := by decide +kernel
theorem d1_6 : decode method_2_code 6 = .ok (.getstatic 7, 3) := by decide +kernel
theorem d1_9 : decode method_2_code 9 = .ok (.areturn, 1) := by decide +kernel
theorem d1_10 : decode method_2_code 10 = .ok (.getstatic 13, 3) := by decide +kernel
theorem d1_13 : decode method_2_code 13 = .ok (.areturn, 1) := by decide +kernel
theorem pn_1 : plainName "com/example/frozen_view/frozenview/engine/LockModeConflictsWithPinLaw" = true := by first | (simp [plainName, overriddenIn]; done) | decide +kernel
set_option maxRecDepth 65536 in
set_option maxHeartbeats 40000000 in
theorem rm1 (l : Launch) (Z : State) (a0 : Array Value) (hw : ∀ d ∈ tables_1, d.before a0 Z = true) (ws : List Jvm.Cond) (p1 : Int32) (w_SHARED w_EXCLUSIVE : Addr) (h0 : Heap) (n0 : Nat) (O0 : Old Z n0 h0) (S_w_SHARED : Sta Z Z.heap "com/example/frozen_view/frozenview/engine/LockMode" "SHARED" "Lcom/example/frozen_view/frozenview/engine/LockMode;" (.ref w_SHARED)) (S_w_EXCLUSIVE : Sta Z Z.heap "com/example/frozen_view/frozenview/engine/LockMode" "EXCLUSIVE" "Lcom/example/frozen_view/frozenview/engine/LockMode;" (.ref w_EXCLUSIVE)) :
    Ctr l (⟨"com/example/frozen_view/frozenview/engine/LockModeConflictsWithPinLaw", "pick", "(I)Lcom/example/frozen_view/frozenview/engine/LockMode;"⟩ : MethodName) method_2_code 1 (some (.object "com/example/frozen_view/frozenview/engine/LockMode")) ws ({ frames := 0, cells := 0, slots := 0, locals := 0 } : Room) #[(.int p1)] Z h0 (fun v h L => ((p1 &&& 1 = 0 ∧ v = some (.ref w_SHARED)) ∨ (¬ p1 &&& 1 = 0 ∧ v = some (.ref w_EXCLUSIVE))) ∧ Fr n0 L ∧ h = h0) := by
  have ef : ∀ m : MethodId, entryFrame m #[(.int p1)] 1 = mkF m 0 #[.val (.int p1)] [] := fun m => by first | (simp [entryFrame, mkF, argsToLocals, Value.category]; done) | rfl
  refine Ctr.of (plainFor_of_name pn_1) ?_
  intro p e s m below meth c s₁ hx hZ hby hml hown0 hnm hret hlk X0 e0
  have hown : s.vm.findClass "com/example/frozen_view/frozenview/engine/LockModeConflictsWithPinLaw" = some m.cls := hown0
  have N0 := Fr.nil n0
  refine Go.st (fun t k => castTop (ef m) k) ?_
  show Go p e below _ (s₁.setTop (mkF m 0 #[.val (.int p1)] []))
  refine Go.st (fun _ => XS.iloadN X0.here hx rfl (hb hby d1_0) rfl) ?_
  show Go p e below _ (s₁.setTop (mkF m 1 #[.val (.int p1)] [(.int p1)]))
  refine Go.st (fun _ => XS.iconst X0.here hx rfl (hb hby d1_1)) ?_
  show Go p e below _ (s₁.setTop (mkF m 2 #[.val (.int p1)] [(.int (1 : Int32)), (.int p1)]))
  refine Go.st (fun _ => XS.iand X0.here hx rfl (hb hby d1_2) rfl) ?_
  show Go p e below _ (s₁.setTop (mkF m 3 #[.val (.int p1)] [(.int (p1 &&& (1 : Int32)))]))
  by_cases hc1 : (p1 &&& (1 : Int32)) = (0 : Int32)
  · refine Go.st (fun _ => XS.ifNo X0.here hx rfl (hb hby d1_3) rfl ((if0 _ _).trans (teq hc1).2)) ?_
    show Go p e below _ (s₁.setTop (mkF m 6 #[.val (.int p1)] []))
    obtain ⟨T2, X2, e2, st2⟩ := getS2 X0 hx hZ hown (host := "") (Or.inl (hw _ (List.mem_of_getElem? (i := 4) rfl))) Via.refl e0 (oldSta O0 S_w_SHARED) (g := (mkF m 6 #[.val (.int p1)] [])) rfl (hb hby d1_6)
    refine Go.st st2 ?_
    show Go p e below _ (T2.setTop (mkF m 9 #[.val (.int p1)] [(.ref w_SHARED)]))
    exact goRetA X2 hx hlk hret rfl rfl rfl e2 (hb hby d1_9) (by decide) (by decide) ⟨Or.inl ⟨hc1, rfl⟩, N0, rfl⟩
  · refine Go.st (fun _ => XS.ifYes X0.here hx rfl (pc0 := 3) (pc' := 10) rfl (hb hby d1_3) rfl ((if0 _ _).trans (feq hc1).2) (by decide) (by decide)) ?_
    show Go p e below _ (s₁.setTop (mkF m 10 #[.val (.int p1)] []))
    obtain ⟨T3, X3, e3, st3⟩ := getS2 X0 hx hZ hown (host := "") (Or.inl (hw _ (List.mem_of_getElem? (i := 7) rfl))) Via.refl e0 (oldSta O0 S_w_EXCLUSIVE) (g := (mkF m 10 #[.val (.int p1)] [])) rfl (hb hby d1_10)
    refine Go.st st3 ?_
    show Go p e below _ (T3.setTop (mkF m 13 #[.val (.int p1)] [(.ref w_EXCLUSIVE)]))
    exact goRetA X3 hx hlk hret rfl rfl rfl e3 (hb hby d1_13) (by decide) (by decide) ⟨Or.inr ⟨hc1, rfl⟩, N0, rfl⟩
theorem d2_0 : decode prog_10_method_4_code 0 = .ok (.aload_n 0, 1) := by decide +kernel
theorem d2_1 : decode prog_10_method_4_code 1 = .ok (.getstatic 7, 3) := by decide +kernel
theorem d2_4 : decode prog_10_method_4_code 4 = .ok (.if_acmp .eq 10, 3) := by decide +kernel
theorem d2_7 : decode prog_10_method_4_code 7 = .ok (.aload_n 1, 1) := by decide +kernel
theorem d2_8 : decode prog_10_method_4_code 8 = .ok (.getstatic 7, 3) := by decide +kernel
theorem d2_11 : decode prog_10_method_4_code 11 = .ok (.if_acmp .ne 7, 3) := by decide +kernel
theorem d2_14 : decode prog_10_method_4_code 14 = .ok (.iconst 1, 1) := by decide +kernel
theorem d2_15 : decode prog_10_method_4_code 15 = .ok (.goto 4, 3) := by decide +kernel
theorem d2_18 : decode prog_10_method_4_code 18 = .ok (.iconst 0, 1) := by decide +kernel
theorem d2_19 : decode prog_10_method_4_code 19 = .ok (.ireturn, 1) := by decide +kernel
theorem pn_2 : plainName "com/example/frozen_view/frozenview/engine/LockMode" = true := by first | (simp [plainName, overriddenIn]; done) | decide +kernel
set_option maxRecDepth 65536 in
set_option maxHeartbeats 40000000 in
theorem rm2 (l : Launch) (Z : State) (a0 : Array Value) (hw : ∀ d ∈ tables_1, d.before a0 Z = true) (ws : List Jvm.Cond) (a1 a2 w_EXCLUSIVE : Addr) (h0 : Heap) (n0 : Nat) (O0 : Old Z n0 h0) (S_w_EXCLUSIVE : Sta Z Z.heap "com/example/frozen_view/frozenview/engine/LockMode" "EXCLUSIVE" "Lcom/example/frozen_view/frozenview/engine/LockMode;" (.ref w_EXCLUSIVE)) :
    Ctr l (⟨"com/example/frozen_view/frozenview/engine/LockMode", "conflictsWith", "(Lcom/example/frozen_view/frozenview/engine/LockMode;)Z"⟩ : MethodName) prog_10_method_4_code 2 (some .boolean) ws ({ frames := 0, cells := 0, slots := 0, locals := 0 } : Room) #[(.ref a1), (.ref a2)] Z h0 (fun v h L => v = some (.int (if a1 = w_EXCLUSIVE ∨ a2 = w_EXCLUSIVE then 1 else 0)) ∧ Fr n0 L ∧ h = h0) := by
  have ef : ∀ m : MethodId, entryFrame m #[(.ref a1), (.ref a2)] 2 = mkF m 0 #[.val (.ref a1), .val (.ref a2)] [] := fun m => by first | (simp [entryFrame, mkF, argsToLocals, Value.category]; done) | rfl
  refine Ctr.of (plainFor_of_name pn_2) ?_
  intro p e s m below meth c s₁ hx hZ hby hml hown0 hnm hret hlk X0 e0
  have hown : s.vm.findClass "com/example/frozen_view/frozenview/engine/LockMode" = some m.cls := hown0
  have N0 := Fr.nil n0
  refine Go.st (fun t k => castTop (ef m) k) ?_
  show Go p e below _ (s₁.setTop (mkF m 0 #[.val (.ref a1), .val (.ref a2)] []))
  refine Go.st (fun _ => XS.aloadN X0.here hx rfl (hb hby d2_0) rfl rfl) ?_
  show Go p e below _ (s₁.setTop (mkF m 1 #[.val (.ref a1), .val (.ref a2)] [(.ref a1)]))
  obtain ⟨T1, X1, e1, st1⟩ := getS2 X0 hx hZ hown (host := "") (Or.inl (hw _ (List.mem_of_getElem? (i := 14) rfl))) Via.refl e0 (oldSta O0 S_w_EXCLUSIVE) (g := (mkF m 1 #[.val (.ref a1), .val (.ref a2)] [(.ref a1)])) rfl (hb hby d2_1)
  refine Go.st st1 ?_
  show Go p e below _ (T1.setTop (mkF m 4 #[.val (.ref a1), .val (.ref a2)] [(.ref w_EXCLUSIVE), (.ref a1)]))
  by_cases hc2 : a1 = w_EXCLUSIVE
  · refine Go.st (fun _ => fun k => Jvm.RoadKit.acmp (g := (mkF m 4 #[.val (.ref a1), .val (.ref a2)] [(.ref w_EXCLUSIVE), (.ref a1)])) X1 hx rfl rfl rfl (pc0 := 4) (pc' := 14) (same := true) rfl (hb hby d2_4) rfl (decide_eq_true (congrArg Value.ref hc2)) (by decide) (by decide) k) ?_
    show Go p e below _ (T1.setTop (mkF m 14 #[.val (.ref a1), .val (.ref a2)] []))
    refine Go.st (fun _ => XS.iconst X1.here hx rfl (hb hby d2_14)) ?_
    show Go p e below _ (T1.setTop (mkF m 15 #[.val (.ref a1), .val (.ref a2)] [(.int (1 : Int32))]))
    refine Go.st (fun _ => XS.goto X1.here hx rfl (pc0 := 15) (pc' := 19) rfl (hb hby d2_15) (by decide) (by decide)) ?_
    show Go p e below _ (T1.setTop (mkF m 19 #[.val (.ref a1), .val (.ref a2)] [(.int (1 : Int32))]))
    exact goRetN X1 hx hlk hret (t := .boolean) (by simp) (w := (1 : Int32)) (by decide) e1 (hb hby d2_19) (by decide) (by decide) ⟨by simp [hc2], N0, rfl⟩
  · refine Go.st (fun _ => fun k => Jvm.RoadKit.acmp (g := (mkF m 4 #[.val (.ref a1), .val (.ref a2)] [(.ref w_EXCLUSIVE), (.ref a1)])) X1 hx rfl rfl rfl (pc0 := 4) (pc' := 7) (same := false) rfl (hb hby d2_4) rfl (decide_eq_false fun q => hc2 (Value.ref.inj q)) (by decide) (by decide) k) ?_
    show Go p e below _ (T1.setTop (mkF m 7 #[.val (.ref a1), .val (.ref a2)] []))
    refine Go.st (fun _ => XS.aloadN X1.here hx rfl (hb hby d2_7) rfl rfl) ?_
    show Go p e below _ (T1.setTop (mkF m 8 #[.val (.ref a1), .val (.ref a2)] [(.ref a2)]))
    obtain ⟨T3, X3, e3, st3⟩ := getS2 X1 hx hZ hown (host := "") (Or.inl (hw _ (List.mem_of_getElem? (i := 14) rfl))) Via.refl e1 (oldSta O0 S_w_EXCLUSIVE) (g := (mkF m 8 #[.val (.ref a1), .val (.ref a2)] [(.ref a2)])) rfl (hb hby d2_8)
    refine Go.st st3 ?_
    show Go p e below _ (T3.setTop (mkF m 11 #[.val (.ref a1), .val (.ref a2)] [(.ref w_EXCLUSIVE), (.ref a2)]))
    by_cases hc4 : a2 = w_EXCLUSIVE
    · refine Go.st (fun _ => fun k => Jvm.RoadKit.acmp (g := (mkF m 11 #[.val (.ref a1), .val (.ref a2)] [(.ref w_EXCLUSIVE), (.ref a2)])) X3 hx rfl rfl rfl (pc0 := 11) (pc' := 14) (same := true) rfl (hb hby d2_11) rfl (decide_eq_true (congrArg Value.ref hc4)) (by decide) (by decide) k) ?_
      show Go p e below _ (T3.setTop (mkF m 14 #[.val (.ref a1), .val (.ref a2)] []))
      refine Go.st (fun _ => XS.iconst X3.here hx rfl (hb hby d2_14)) ?_
      show Go p e below _ (T3.setTop (mkF m 15 #[.val (.ref a1), .val (.ref a2)] [(.int (1 : Int32))]))
      refine Go.st (fun _ => XS.goto X3.here hx rfl (pc0 := 15) (pc' := 19) rfl (hb hby d2_15) (by decide) (by decide)) ?_
      show Go p e below _ (T3.setTop (mkF m 19 #[.val (.ref a1), .val (.ref a2)] [(.int (1 : Int32))]))
      exact goRetN X3 hx hlk hret (t := .boolean) (by simp) (w := (1 : Int32)) (by decide) e3 (hb hby d2_19) (by decide) (by decide) ⟨by simp [hc2, hc4], N0, rfl⟩
    · refine Go.st (fun _ => fun k => Jvm.RoadKit.acmp (g := (mkF m 11 #[.val (.ref a1), .val (.ref a2)] [(.ref w_EXCLUSIVE), (.ref a2)])) X3 hx rfl rfl rfl (pc0 := 11) (pc' := 18) (same := false) rfl (hb hby d2_11) rfl (decide_eq_false fun q => hc4 (Value.ref.inj q)) (by decide) (by decide) k) ?_
      show Go p e below _ (T3.setTop (mkF m 18 #[.val (.ref a1), .val (.ref a2)] []))
      refine Go.st (fun _ => XS.iconst X3.here hx rfl (hb hby d2_18)) ?_
      show Go p e below _ (T3.setTop (mkF m 19 #[.val (.ref a1), .val (.ref a2)] [(.int (0 : Int32))]))
      exact goRetN X3 hx hlk hret (t := .boolean) (by simp) (w := (0 : Int32)) (by decide) e3 (hb hby d2_19) (by decide) (by decide) ⟨by simp [hc2, hc4], N0, rfl⟩
theorem pn_0 : plainName "com/example/frozen_view/frozenview/engine/LockModeConflictsWithPinLaw" = true := by first | (simp [plainName, overriddenIn]; done) | decide +kernel
set_option maxRecDepth 65536 in
set_option maxHeartbeats 40000000 in
theorem rm0 (l : Launch) (Z : State) (a0 : Array Value) (hw : ∀ d ∈ tables_1, d.before a0 Z = true) (ws : List Jvm.Cond) (p0 p1 : Int32) (w_SHARED w_EXCLUSIVE : Addr) (h0 : Heap) (n0 : Nat) (O0 : Old Z n0 h0) (S_w_SHARED : Sta Z Z.heap "com/example/frozen_view/frozenview/engine/LockMode" "SHARED" "Lcom/example/frozen_view/frozenview/engine/LockMode;" (.ref w_SHARED)) (S_w_EXCLUSIVE : Sta Z Z.heap "com/example/frozen_view/frozenview/engine/LockMode" "EXCLUSIVE" "Lcom/example/frozen_view/frozenview/engine/LockMode;" (.ref w_EXCLUSIVE)) (E_w_SHARED : Exa Z h0 w_SHARED "com/example/frozen_view/frozenview/engine/LockMode") (E_w_EXCLUSIVE : Exa Z h0 w_EXCLUSIVE "com/example/frozen_view/frozenview/engine/LockMode") (ne_w_SHARED_w_EXCLUSIVE : w_SHARED ≠ w_EXCLUSIVE) :
    Ctr l x code maxLocals ret ws room_1 #[(.int p0), (.int p1)] Z h0 (fun v h L => v = some (.int 1) ∧ Fr n0 L) := by
  have ef : ∀ m : MethodId, entryFrame m #[(.int p0), (.int p1)] 7 = mkF m 0 #[.val (.int p0), .val (.int p1), .unset, .unset, .unset, .unset, .unset] [] := fun m => by first | (simp [entryFrame, mkF, argsToLocals, Value.category]; done) | rfl
  refine Ctr.of (plainFor_of_name pn_0) ?_
  intro p e s m below meth c s₁ hx hZ hby hml hown0 hnm hret hlk X0 e0
  have hown : s.vm.findClass "com/example/frozen_view/frozenview/engine/LockModeConflictsWithPinLaw" = some m.cls := hown0
  have N0 := Fr.nil n0
  refine Go.st (fun t k => castTop (ef m) k) ?_
  show Go p e below _ (s₁.setTop (mkF m 0 #[.val (.int p0), .val (.int p1), .unset, .unset, .unset, .unset, .unset] []))
  refine Go.st (fun _ => XS.iloadN X0.here hx rfl (hb hby at_0) rfl) ?_
  show Go p e below _ (s₁.setTop (mkF m 1 #[.val (.int p0), .val (.int p1), .unset, .unset, .unset, .unset, .unset] [(.int p0)]))
  refine goCallS X0 hx hZ (y := (⟨"com/example/frozen_view/frozenview/engine/LockModeConflictsWithPinLaw", "pick", "(I)Lcom/example/frozen_view/frozenview/engine/LockMode;"⟩ : MethodName)) hown (hw _ (List.mem_of_getElem? (i := 0) rfl)) (hw _ (List.mem_of_getElem? (i := 1) rfl)) (hw _ (List.mem_of_getElem? (i := 2) rfl)) (hw _ (List.mem_of_getElem? (i := 3) rfl)) (by decide) (argsL := [(.int p0)]) (rest := []) e0 (rm1 l Z a0 hw [] p0 w_SHARED w_EXCLUSIVE h0 n0 O0 S_w_SHARED S_w_EXCLUSIVE) 0 (by decide) (by decide) (by decide) (by decide) (mkF m 1 #[.val (.int p0), .val (.int p1), .unset, .unset, .unset, .unset, .unset] [(.int p0)]) rfl (by rw [hml]; rfl) (lenOf pd_0 rfl) rfl (hb hby at_1) (Nat.le_of_eq rfl) ?_
  intro v1 T1 L1 X1 hQ1
  obtain ⟨hv1, M1, e1⟩ := hQ1
  have N1 := Fr.app N0 M1
  rcases hv1 with ⟨hk1, rfl⟩ | ⟨hk1, rfl⟩
  · show Go p e below _ (T1.setTop (mkF m 4 #[.val (.int p0), .val (.int p1), .unset, .unset, .unset, .unset, .unset] [(.ref w_SHARED)]))
    refine Go.st (fun _ => XS.astoreN X1.here hx rfl (hb hby at_4) rfl rfl (l' := #[.val (.int p0), .val (.int p1), .val (.ref w_SHARED), .unset, .unset, .unset, .unset]) rfl) ?_
    show Go p e below _ (T1.setTop (mkF m 5 #[.val (.int p0), .val (.int p1), .val (.ref w_SHARED), .unset, .unset, .unset, .unset] []))
    refine Go.st (fun _ => XS.iloadN X1.here hx rfl (hb hby at_5) rfl) ?_
    show Go p e below _ (T1.setTop (mkF m 6 #[.val (.int p0), .val (.int p1), .val (.ref w_SHARED), .unset, .unset, .unset, .unset] [(.int p1)]))
    refine goCallS X1 hx hZ (y := (⟨"com/example/frozen_view/frozenview/engine/LockModeConflictsWithPinLaw", "pick", "(I)Lcom/example/frozen_view/frozenview/engine/LockMode;"⟩ : MethodName)) hown (hw _ (List.mem_of_getElem? (i := 0) rfl)) (hw _ (List.mem_of_getElem? (i := 1) rfl)) (hw _ (List.mem_of_getElem? (i := 2) rfl)) (hw _ (List.mem_of_getElem? (i := 3) rfl)) (by decide) (argsL := [(.int p1)]) (rest := []) e1 (rm1 l Z a0 hw [] p1 w_SHARED w_EXCLUSIVE h0 n0 O0 S_w_SHARED S_w_EXCLUSIVE) 0 (by decide) (by decide) (by decide) (by decide) (mkF m 6 #[.val (.int p0), .val (.int p1), .val (.ref w_SHARED), .unset, .unset, .unset, .unset] [(.int p1)]) rfl (by rw [hml]; rfl) (lenOf pd_0 rfl) rfl (hb hby at_6) (Nat.le_of_eq rfl) ?_
    intro v2 T2 L2 X2 hQ2
    obtain ⟨hv2, M2, e2⟩ := hQ2
    have N2 := Fr.app N1 M2
    rcases hv2 with ⟨hk2, rfl⟩ | ⟨hk2, rfl⟩
    · show Go p e below _ (T2.setTop (mkF m 9 #[.val (.int p0), .val (.int p1), .val (.ref w_SHARED), .unset, .unset, .unset, .unset] [(.ref w_SHARED)]))
      refine Go.st (fun _ => XS.astoreN X2.here hx rfl (hb hby at_9) rfl rfl (l' := #[.val (.int p0), .val (.int p1), .val (.ref w_SHARED), .val (.ref w_SHARED), .unset, .unset, .unset]) rfl) ?_
      show Go p e below _ (T2.setTop (mkF m 10 #[.val (.int p0), .val (.int p1), .val (.ref w_SHARED), .val (.ref w_SHARED), .unset, .unset, .unset] []))
      refine Go.st (fun _ => XS.aloadN X2.here hx rfl (hb hby at_10) rfl rfl) ?_
      show Go p e below _ (T2.setTop (mkF m 11 #[.val (.int p0), .val (.int p1), .val (.ref w_SHARED), .val (.ref w_SHARED), .unset, .unset, .unset] [(.ref w_SHARED)]))
      obtain ⟨T3, X3, e3, st3⟩ := getS2 X2 hx hZ hown (host := "") (Or.inl (hw _ (List.mem_of_getElem? (i := 4) rfl))) Via.refl e2 (oldSta O0 S_w_SHARED) (g := (mkF m 11 #[.val (.int p0), .val (.int p1), .val (.ref w_SHARED), .val (.ref w_SHARED), .unset, .unset, .unset] [(.ref w_SHARED)])) rfl (hb hby at_11)
      refine Go.st st3 ?_
      show Go p e below _ (T3.setTop (mkF m 14 #[.val (.int p0), .val (.int p1), .val (.ref w_SHARED), .val (.ref w_SHARED), .unset, .unset, .unset] [(.ref w_SHARED), (.ref w_SHARED)]))
      refine Go.st (fun _ => fun k => Jvm.RoadKit.acmp (g := (mkF m 14 #[.val (.int p0), .val (.int p1), .val (.ref w_SHARED), .val (.ref w_SHARED), .unset, .unset, .unset] [(.ref w_SHARED), (.ref w_SHARED)])) X3 hx rfl rfl rfl (pc0 := 14) (pc' := 17) (same := true) rfl (hb hby at_14) rfl (decide_eq_true rfl) (by decide) (by decide) k) ?_
      show Go p e below _ (T3.setTop (mkF m 17 #[.val (.int p0), .val (.int p1), .val (.ref w_SHARED), .val (.ref w_SHARED), .unset, .unset, .unset] []))
      refine Go.st (fun _ => XS.aloadN X3.here hx rfl (hb hby at_17) rfl rfl) ?_
      show Go p e below _ (T3.setTop (mkF m 18 #[.val (.int p0), .val (.int p1), .val (.ref w_SHARED), .val (.ref w_SHARED), .unset, .unset, .unset] [(.ref w_SHARED)]))
      obtain ⟨T4, X4, e4, st4⟩ := getS2 X3 hx hZ hown (host := "") (Or.inl (hw _ (List.mem_of_getElem? (i := 4) rfl))) Via.refl e3 (oldSta O0 S_w_SHARED) (g := (mkF m 18 #[.val (.int p0), .val (.int p1), .val (.ref w_SHARED), .val (.ref w_SHARED), .unset, .unset, .unset] [(.ref w_SHARED)])) rfl (hb hby at_18)
      refine Go.st st4 ?_
      show Go p e below _ (T4.setTop (mkF m 21 #[.val (.int p0), .val (.int p1), .val (.ref w_SHARED), .val (.ref w_SHARED), .unset, .unset, .unset] [(.ref w_SHARED), (.ref w_SHARED)]))
      refine Go.st (fun _ => fun k => Jvm.RoadKit.acmp (g := (mkF m 21 #[.val (.int p0), .val (.int p1), .val (.ref w_SHARED), .val (.ref w_SHARED), .unset, .unset, .unset] [(.ref w_SHARED), (.ref w_SHARED)])) X4 hx rfl rfl rfl (pc0 := 21) (pc' := 24) (same := true) rfl (hb hby at_21) rfl (decide_eq_true rfl) (by decide) (by decide) k) ?_
      show Go p e below _ (T4.setTop (mkF m 24 #[.val (.int p0), .val (.int p1), .val (.ref w_SHARED), .val (.ref w_SHARED), .unset, .unset, .unset] []))
      refine Go.st (fun _ => XS.iconst X4.here hx rfl (hb hby at_24)) ?_
      show Go p e below _ (T4.setTop (mkF m 25 #[.val (.int p0), .val (.int p1), .val (.ref w_SHARED), .val (.ref w_SHARED), .unset, .unset, .unset] [(.int (0 : Int32))]))
      refine Go.st (fun _ => XS.istore X4.here hx rfl (hb hby at_25) rfl (l' := #[.val (.int p0), .val (.int p1), .val (.ref w_SHARED), .val (.ref w_SHARED), .val (.int (0 : Int32)), .unset, .unset]) rfl) ?_
      show Go p e below _ (T4.setTop (mkF m 27 #[.val (.int p0), .val (.int p1), .val (.ref w_SHARED), .val (.ref w_SHARED), .val (.int (0 : Int32)), .unset, .unset] []))
      refine Go.st (fun _ => XS.goto X4.here hx rfl (pc0 := 27) (pc' := 39) rfl (hb hby at_27) (by decide) (by decide)) ?_
      show Go p e below _ (T4.setTop (mkF m 39 #[.val (.int p0), .val (.int p1), .val (.ref w_SHARED), .val (.ref w_SHARED), .val (.int (0 : Int32)), .unset, .unset] []))
      refine Go.st (fun _ => XS.aloadN X4.here hx rfl (hb hby at_39) rfl rfl) ?_
      show Go p e below _ (T4.setTop (mkF m 40 #[.val (.int p0), .val (.int p1), .val (.ref w_SHARED), .val (.ref w_SHARED), .val (.int (0 : Int32)), .unset, .unset] [(.ref w_SHARED)]))
      refine Go.st (fun _ => XS.aloadN X4.here hx rfl (hb hby at_40) rfl rfl) ?_
      show Go p e below _ (T4.setTop (mkF m 41 #[.val (.int p0), .val (.int p1), .val (.ref w_SHARED), .val (.ref w_SHARED), .val (.int (0 : Int32)), .unset, .unset] [(.ref w_SHARED), (.ref w_SHARED)]))
      refine goVirt X4 hx hZ (y := (⟨"com/example/frozen_view/frozenview/engine/LockMode", "conflictsWith", "(Lcom/example/frozen_view/frozenview/engine/LockMode;)Z"⟩ : MethodName)) (z := (⟨"com/example/frozen_view/frozenview/engine/LockMode", "conflictsWith", "(Lcom/example/frozen_view/frozenview/engine/LockMode;)Z"⟩ : MethodName)) hown (hw _ (List.mem_of_getElem? (i := 9) rfl)) (hw _ (List.mem_of_getElem? (i := 10) rfl)) (notFace_of_selects (args := #[]) (mvT hZ (hw _ (List.mem_of_getElem? (i := 12) rfl)))) (hw _ (List.mem_of_getElem? (i := 12) rfl)) (hw _ (List.mem_of_getElem? (i := 11) rfl)) (hw _ (List.mem_of_getElem? (i := 5) rfl)) (hw _ (List.mem_of_getElem? (i := 13) rfl)) (by decide) (a := w_SHARED) (argsL := [(.ref w_SHARED)]) (rest := []) e4 E_w_SHARED (rm2 l Z a0 hw [] w_SHARED w_SHARED w_EXCLUSIVE h0 n0 O0 S_w_EXCLUSIVE) 0 (by decide) (by decide) (by decide) (by decide) (mkF m 41 #[.val (.int p0), .val (.int p1), .val (.ref w_SHARED), .val (.ref w_SHARED), .val (.int (0 : Int32)), .unset, .unset] [(.ref w_SHARED), (.ref w_SHARED)]) rfl (by rw [hml]; rfl) (lenOf pd_1 rfl) rfl (hb hby at_41) (Nat.le_of_eq rfl) ?_
      intro v5 T5 L5 X5 hQ5
      obtain ⟨hv5, M5, e5⟩ := hQ5
      have N5 := Fr.app N2 M5
      obtain rfl : v5 = some (.int 0) := hv5.trans (by simp [ne_w_SHARED_w_EXCLUSIVE])
      show Go p e below _ (T5.setTop (mkF m 44 #[.val (.int p0), .val (.int p1), .val (.ref w_SHARED), .val (.ref w_SHARED), .val (.int (0 : Int32)), .unset, .unset] [(.int (0 : Int32))]))
      refine Go.st (fun _ => XS.istore X5.here hx rfl (hb hby at_44) rfl (l' := #[.val (.int p0), .val (.int p1), .val (.ref w_SHARED), .val (.ref w_SHARED), .val (.int (0 : Int32)), .val (.int (0 : Int32)), .unset]) rfl) ?_
      show Go p e below _ (T5.setTop (mkF m 46 #[.val (.int p0), .val (.int p1), .val (.ref w_SHARED), .val (.ref w_SHARED), .val (.int (0 : Int32)), .val (.int (0 : Int32)), .unset] []))
      refine Go.st (fun _ => XS.aloadN X5.here hx rfl (hb hby at_46) rfl rfl) ?_
      show Go p e below _ (T5.setTop (mkF m 47 #[.val (.int p0), .val (.int p1), .val (.ref w_SHARED), .val (.ref w_SHARED), .val (.int (0 : Int32)), .val (.int (0 : Int32)), .unset] [(.ref w_SHARED)]))
      refine Go.st (fun _ => XS.aloadN X5.here hx rfl (hb hby at_47) rfl rfl) ?_
      show Go p e below _ (T5.setTop (mkF m 48 #[.val (.int p0), .val (.int p1), .val (.ref w_SHARED), .val (.ref w_SHARED), .val (.int (0 : Int32)), .val (.int (0 : Int32)), .unset] [(.ref w_SHARED), (.ref w_SHARED)]))
      refine goVirt X5 hx hZ (y := (⟨"com/example/frozen_view/frozenview/engine/LockMode", "conflictsWith", "(Lcom/example/frozen_view/frozenview/engine/LockMode;)Z"⟩ : MethodName)) (z := (⟨"com/example/frozen_view/frozenview/engine/LockMode", "conflictsWith", "(Lcom/example/frozen_view/frozenview/engine/LockMode;)Z"⟩ : MethodName)) hown (hw _ (List.mem_of_getElem? (i := 9) rfl)) (hw _ (List.mem_of_getElem? (i := 10) rfl)) (notFace_of_selects (args := #[]) (mvT hZ (hw _ (List.mem_of_getElem? (i := 12) rfl)))) (hw _ (List.mem_of_getElem? (i := 12) rfl)) (hw _ (List.mem_of_getElem? (i := 11) rfl)) (hw _ (List.mem_of_getElem? (i := 5) rfl)) (hw _ (List.mem_of_getElem? (i := 13) rfl)) (by decide) (a := w_SHARED) (argsL := [(.ref w_SHARED)]) (rest := []) e5 E_w_SHARED (rm2 l Z a0 hw [] w_SHARED w_SHARED w_EXCLUSIVE h0 n0 O0 S_w_EXCLUSIVE) 0 (by decide) (by decide) (by decide) (by decide) (mkF m 48 #[.val (.int p0), .val (.int p1), .val (.ref w_SHARED), .val (.ref w_SHARED), .val (.int (0 : Int32)), .val (.int (0 : Int32)), .unset] [(.ref w_SHARED), (.ref w_SHARED)]) rfl (by rw [hml]; rfl) (lenOf pd_1 rfl) rfl (hb hby at_48) (Nat.le_of_eq rfl) ?_
      intro v6 T6 L6 X6 hQ6
      obtain ⟨hv6, M6, e6⟩ := hQ6
      have N6 := Fr.app N5 M6
      obtain rfl : v6 = some (.int 0) := hv6.trans (by simp [ne_w_SHARED_w_EXCLUSIVE])
      show Go p e below _ (T6.setTop (mkF m 51 #[.val (.int p0), .val (.int p1), .val (.ref w_SHARED), .val (.ref w_SHARED), .val (.int (0 : Int32)), .val (.int (0 : Int32)), .unset] [(.int (0 : Int32))]))
      refine Go.st (fun _ => XS.istore X6.here hx rfl (hb hby at_51) rfl (l' := #[.val (.int p0), .val (.int p1), .val (.ref w_SHARED), .val (.ref w_SHARED), .val (.int (0 : Int32)), .val (.int (0 : Int32)), .val (.int (0 : Int32))]) rfl) ?_
      show Go p e below _ (T6.setTop (mkF m 53 #[.val (.int p0), .val (.int p1), .val (.ref w_SHARED), .val (.ref w_SHARED), .val (.int (0 : Int32)), .val (.int (0 : Int32)), .val (.int (0 : Int32))] []))
      refine Go.st (fun _ => XS.iload X6.here hx rfl (hb hby at_53) rfl) ?_
      show Go p e below _ (T6.setTop (mkF m 55 #[.val (.int p0), .val (.int p1), .val (.ref w_SHARED), .val (.ref w_SHARED), .val (.int (0 : Int32)), .val (.int (0 : Int32)), .val (.int (0 : Int32))] [(.int (0 : Int32))]))
      refine Go.st (fun _ => XS.iload X6.here hx rfl (hb hby at_55) rfl) ?_
      show Go p e below _ (T6.setTop (mkF m 57 #[.val (.int p0), .val (.int p1), .val (.ref w_SHARED), .val (.ref w_SHARED), .val (.int (0 : Int32)), .val (.int (0 : Int32)), .val (.int (0 : Int32))] [(.int (0 : Int32)), (.int (0 : Int32))]))
      refine Go.st (fun _ => XS.icmpNo X6.here hx rfl (hb hby at_57) rfl (teq (by decide : (0 : Int32) = (0 : Int32))).2) ?_
      show Go p e below _ (T6.setTop (mkF m 60 #[.val (.int p0), .val (.int p1), .val (.ref w_SHARED), .val (.ref w_SHARED), .val (.int (0 : Int32)), .val (.int (0 : Int32)), .val (.int (0 : Int32))] []))
      refine Go.st (fun _ => XS.iload X6.here hx rfl (hb hby at_60) rfl) ?_
      show Go p e below _ (T6.setTop (mkF m 62 #[.val (.int p0), .val (.int p1), .val (.ref w_SHARED), .val (.ref w_SHARED), .val (.int (0 : Int32)), .val (.int (0 : Int32)), .val (.int (0 : Int32))] [(.int (0 : Int32))]))
      refine Go.st (fun _ => XS.iload X6.here hx rfl (hb hby at_62) rfl) ?_
      show Go p e below _ (T6.setTop (mkF m 64 #[.val (.int p0), .val (.int p1), .val (.ref w_SHARED), .val (.ref w_SHARED), .val (.int (0 : Int32)), .val (.int (0 : Int32)), .val (.int (0 : Int32))] [(.int (0 : Int32)), (.int (0 : Int32))]))
      refine Go.st (fun _ => XS.icmpNo X6.here hx rfl (hb hby at_64) rfl (teq (by decide : (0 : Int32) = (0 : Int32))).2) ?_
      show Go p e below _ (T6.setTop (mkF m 67 #[.val (.int p0), .val (.int p1), .val (.ref w_SHARED), .val (.ref w_SHARED), .val (.int (0 : Int32)), .val (.int (0 : Int32)), .val (.int (0 : Int32))] []))
      refine Go.st (fun _ => XS.iconst X6.here hx rfl (hb hby at_67)) ?_
      show Go p e below _ (T6.setTop (mkF m 68 #[.val (.int p0), .val (.int p1), .val (.ref w_SHARED), .val (.ref w_SHARED), .val (.int (0 : Int32)), .val (.int (0 : Int32)), .val (.int (0 : Int32))] [(.int (1 : Int32))]))
      refine Go.st (fun _ => XS.goto X6.here hx rfl (pc0 := 68) (pc' := 72) rfl (hb hby at_68) (by decide) (by decide)) ?_
      show Go p e below _ (T6.setTop (mkF m 72 #[.val (.int p0), .val (.int p1), .val (.ref w_SHARED), .val (.ref w_SHARED), .val (.int (0 : Int32)), .val (.int (0 : Int32)), .val (.int (0 : Int32))] [(.int (1 : Int32))]))
      exact goRetN X6 hx hlk hret (t := .boolean) (by simp) (w := (1 : Int32)) (by decide) e6 (hb hby at_72) (by decide) (by decide) ⟨rfl, N6⟩
    · show Go p e below _ (T2.setTop (mkF m 9 #[.val (.int p0), .val (.int p1), .val (.ref w_SHARED), .unset, .unset, .unset, .unset] [(.ref w_EXCLUSIVE)]))
      refine Go.st (fun _ => XS.astoreN X2.here hx rfl (hb hby at_9) rfl rfl (l' := #[.val (.int p0), .val (.int p1), .val (.ref w_SHARED), .val (.ref w_EXCLUSIVE), .unset, .unset, .unset]) rfl) ?_
      show Go p e below _ (T2.setTop (mkF m 10 #[.val (.int p0), .val (.int p1), .val (.ref w_SHARED), .val (.ref w_EXCLUSIVE), .unset, .unset, .unset] []))
      refine Go.st (fun _ => XS.aloadN X2.here hx rfl (hb hby at_10) rfl rfl) ?_
      show Go p e below _ (T2.setTop (mkF m 11 #[.val (.int p0), .val (.int p1), .val (.ref w_SHARED), .val (.ref w_EXCLUSIVE), .unset, .unset, .unset] [(.ref w_SHARED)]))
      obtain ⟨T7, X7, e7, st7⟩ := getS2 X2 hx hZ hown (host := "") (Or.inl (hw _ (List.mem_of_getElem? (i := 4) rfl))) Via.refl e2 (oldSta O0 S_w_SHARED) (g := (mkF m 11 #[.val (.int p0), .val (.int p1), .val (.ref w_SHARED), .val (.ref w_EXCLUSIVE), .unset, .unset, .unset] [(.ref w_SHARED)])) rfl (hb hby at_11)
      refine Go.st st7 ?_
      show Go p e below _ (T7.setTop (mkF m 14 #[.val (.int p0), .val (.int p1), .val (.ref w_SHARED), .val (.ref w_EXCLUSIVE), .unset, .unset, .unset] [(.ref w_SHARED), (.ref w_SHARED)]))
      refine Go.st (fun _ => fun k => Jvm.RoadKit.acmp (g := (mkF m 14 #[.val (.int p0), .val (.int p1), .val (.ref w_SHARED), .val (.ref w_EXCLUSIVE), .unset, .unset, .unset] [(.ref w_SHARED), (.ref w_SHARED)])) X7 hx rfl rfl rfl (pc0 := 14) (pc' := 17) (same := true) rfl (hb hby at_14) rfl (decide_eq_true rfl) (by decide) (by decide) k) ?_
      show Go p e below _ (T7.setTop (mkF m 17 #[.val (.int p0), .val (.int p1), .val (.ref w_SHARED), .val (.ref w_EXCLUSIVE), .unset, .unset, .unset] []))
      refine Go.st (fun _ => XS.aloadN X7.here hx rfl (hb hby at_17) rfl rfl) ?_
      show Go p e below _ (T7.setTop (mkF m 18 #[.val (.int p0), .val (.int p1), .val (.ref w_SHARED), .val (.ref w_EXCLUSIVE), .unset, .unset, .unset] [(.ref w_EXCLUSIVE)]))
      obtain ⟨T8, X8, e8, st8⟩ := getS2 X7 hx hZ hown (host := "") (Or.inl (hw _ (List.mem_of_getElem? (i := 4) rfl))) Via.refl e7 (oldSta O0 S_w_SHARED) (g := (mkF m 18 #[.val (.int p0), .val (.int p1), .val (.ref w_SHARED), .val (.ref w_EXCLUSIVE), .unset, .unset, .unset] [(.ref w_EXCLUSIVE)])) rfl (hb hby at_18)
      refine Go.st st8 ?_
      show Go p e below _ (T8.setTop (mkF m 21 #[.val (.int p0), .val (.int p1), .val (.ref w_SHARED), .val (.ref w_EXCLUSIVE), .unset, .unset, .unset] [(.ref w_SHARED), (.ref w_EXCLUSIVE)]))
      refine Go.st (fun _ => fun k => Jvm.RoadKit.acmp (g := (mkF m 21 #[.val (.int p0), .val (.int p1), .val (.ref w_SHARED), .val (.ref w_EXCLUSIVE), .unset, .unset, .unset] [(.ref w_SHARED), (.ref w_EXCLUSIVE)])) X8 hx rfl rfl rfl (pc0 := 21) (pc' := 30) (same := false) rfl (hb hby at_21) rfl (decide_eq_false fun q => (Ne.symm ne_w_SHARED_w_EXCLUSIVE) (Value.ref.inj q)) (by decide) (by decide) k) ?_
      show Go p e below _ (T8.setTop (mkF m 30 #[.val (.int p0), .val (.int p1), .val (.ref w_SHARED), .val (.ref w_EXCLUSIVE), .unset, .unset, .unset] []))
      refine Go.st (fun _ => XS.iconst X8.here hx rfl (hb hby at_30)) ?_
      show Go p e below _ (T8.setTop (mkF m 31 #[.val (.int p0), .val (.int p1), .val (.ref w_SHARED), .val (.ref w_EXCLUSIVE), .unset, .unset, .unset] [(.int (1 : Int32))]))
      refine Go.st (fun _ => XS.istore X8.here hx rfl (hb hby at_31) rfl (l' := #[.val (.int p0), .val (.int p1), .val (.ref w_SHARED), .val (.ref w_EXCLUSIVE), .val (.int (1 : Int32)), .unset, .unset]) rfl) ?_
      show Go p e below _ (T8.setTop (mkF m 33 #[.val (.int p0), .val (.int p1), .val (.ref w_SHARED), .val (.ref w_EXCLUSIVE), .val (.int (1 : Int32)), .unset, .unset] []))
      refine Go.st (fun _ => XS.goto X8.here hx rfl (pc0 := 33) (pc' := 39) rfl (hb hby at_33) (by decide) (by decide)) ?_
      show Go p e below _ (T8.setTop (mkF m 39 #[.val (.int p0), .val (.int p1), .val (.ref w_SHARED), .val (.ref w_EXCLUSIVE), .val (.int (1 : Int32)), .unset, .unset] []))
      refine Go.st (fun _ => XS.aloadN X8.here hx rfl (hb hby at_39) rfl rfl) ?_
      show Go p e below _ (T8.setTop (mkF m 40 #[.val (.int p0), .val (.int p1), .val (.ref w_SHARED), .val (.ref w_EXCLUSIVE), .val (.int (1 : Int32)), .unset, .unset] [(.ref w_SHARED)]))
      refine Go.st (fun _ => XS.aloadN X8.here hx rfl (hb hby at_40) rfl rfl) ?_
      show Go p e below _ (T8.setTop (mkF m 41 #[.val (.int p0), .val (.int p1), .val (.ref w_SHARED), .val (.ref w_EXCLUSIVE), .val (.int (1 : Int32)), .unset, .unset] [(.ref w_EXCLUSIVE), (.ref w_SHARED)]))
      refine goVirt X8 hx hZ (y := (⟨"com/example/frozen_view/frozenview/engine/LockMode", "conflictsWith", "(Lcom/example/frozen_view/frozenview/engine/LockMode;)Z"⟩ : MethodName)) (z := (⟨"com/example/frozen_view/frozenview/engine/LockMode", "conflictsWith", "(Lcom/example/frozen_view/frozenview/engine/LockMode;)Z"⟩ : MethodName)) hown (hw _ (List.mem_of_getElem? (i := 9) rfl)) (hw _ (List.mem_of_getElem? (i := 10) rfl)) (notFace_of_selects (args := #[]) (mvT hZ (hw _ (List.mem_of_getElem? (i := 12) rfl)))) (hw _ (List.mem_of_getElem? (i := 12) rfl)) (hw _ (List.mem_of_getElem? (i := 11) rfl)) (hw _ (List.mem_of_getElem? (i := 5) rfl)) (hw _ (List.mem_of_getElem? (i := 13) rfl)) (by decide) (a := w_SHARED) (argsL := [(.ref w_EXCLUSIVE)]) (rest := []) e8 E_w_SHARED (rm2 l Z a0 hw [] w_SHARED w_EXCLUSIVE w_EXCLUSIVE h0 n0 O0 S_w_EXCLUSIVE) 0 (by decide) (by decide) (by decide) (by decide) (mkF m 41 #[.val (.int p0), .val (.int p1), .val (.ref w_SHARED), .val (.ref w_EXCLUSIVE), .val (.int (1 : Int32)), .unset, .unset] [(.ref w_EXCLUSIVE), (.ref w_SHARED)]) rfl (by rw [hml]; rfl) (lenOf pd_1 rfl) rfl (hb hby at_41) (Nat.le_of_eq rfl) ?_
      intro v9 T9 L9 X9 hQ9
      obtain ⟨hv9, M9, e9⟩ := hQ9
      have N9 := Fr.app N2 M9
      obtain rfl : v9 = some (.int 1) := hv9.trans (by simp [ne_w_SHARED_w_EXCLUSIVE])
      show Go p e below _ (T9.setTop (mkF m 44 #[.val (.int p0), .val (.int p1), .val (.ref w_SHARED), .val (.ref w_EXCLUSIVE), .val (.int (1 : Int32)), .unset, .unset] [(.int (1 : Int32))]))
      refine Go.st (fun _ => XS.istore X9.here hx rfl (hb hby at_44) rfl (l' := #[.val (.int p0), .val (.int p1), .val (.ref w_SHARED), .val (.ref w_EXCLUSIVE), .val (.int (1 : Int32)), .val (.int (1 : Int32)), .unset]) rfl) ?_
      show Go p e below _ (T9.setTop (mkF m 46 #[.val (.int p0), .val (.int p1), .val (.ref w_SHARED), .val (.ref w_EXCLUSIVE), .val (.int (1 : Int32)), .val (.int (1 : Int32)), .unset] []))
      refine Go.st (fun _ => XS.aloadN X9.here hx rfl (hb hby at_46) rfl rfl) ?_
      show Go p e below _ (T9.setTop (mkF m 47 #[.val (.int p0), .val (.int p1), .val (.ref w_SHARED), .val (.ref w_EXCLUSIVE), .val (.int (1 : Int32)), .val (.int (1 : Int32)), .unset] [(.ref w_EXCLUSIVE)]))
      refine Go.st (fun _ => XS.aloadN X9.here hx rfl (hb hby at_47) rfl rfl) ?_
      show Go p e below _ (T9.setTop (mkF m 48 #[.val (.int p0), .val (.int p1), .val (.ref w_SHARED), .val (.ref w_EXCLUSIVE), .val (.int (1 : Int32)), .val (.int (1 : Int32)), .unset] [(.ref w_SHARED), (.ref w_EXCLUSIVE)]))
      refine goVirt X9 hx hZ (y := (⟨"com/example/frozen_view/frozenview/engine/LockMode", "conflictsWith", "(Lcom/example/frozen_view/frozenview/engine/LockMode;)Z"⟩ : MethodName)) (z := (⟨"com/example/frozen_view/frozenview/engine/LockMode", "conflictsWith", "(Lcom/example/frozen_view/frozenview/engine/LockMode;)Z"⟩ : MethodName)) hown (hw _ (List.mem_of_getElem? (i := 9) rfl)) (hw _ (List.mem_of_getElem? (i := 10) rfl)) (notFace_of_selects (args := #[]) (mvT hZ (hw _ (List.mem_of_getElem? (i := 12) rfl)))) (hw _ (List.mem_of_getElem? (i := 12) rfl)) (hw _ (List.mem_of_getElem? (i := 11) rfl)) (hw _ (List.mem_of_getElem? (i := 5) rfl)) (hw _ (List.mem_of_getElem? (i := 13) rfl)) (by decide) (a := w_EXCLUSIVE) (argsL := [(.ref w_SHARED)]) (rest := []) e9 E_w_EXCLUSIVE (rm2 l Z a0 hw [] w_EXCLUSIVE w_SHARED w_EXCLUSIVE h0 n0 O0 S_w_EXCLUSIVE) 0 (by decide) (by decide) (by decide) (by decide) (mkF m 48 #[.val (.int p0), .val (.int p1), .val (.ref w_SHARED), .val (.ref w_EXCLUSIVE), .val (.int (1 : Int32)), .val (.int (1 : Int32)), .unset] [(.ref w_SHARED), (.ref w_EXCLUSIVE)]) rfl (by rw [hml]; rfl) (lenOf pd_1 rfl) rfl (hb hby at_48) (Nat.le_of_eq rfl) ?_
      intro v10 T10 L10 X10 hQ10
      obtain ⟨hv10, M10, e10⟩ := hQ10
      have N10 := Fr.app N9 M10
      obtain rfl : v10 = some (.int 1) := hv10.trans (by simp [ne_w_SHARED_w_EXCLUSIVE])
      show Go p e below _ (T10.setTop (mkF m 51 #[.val (.int p0), .val (.int p1), .val (.ref w_SHARED), .val (.ref w_EXCLUSIVE), .val (.int (1 : Int32)), .val (.int (1 : Int32)), .unset] [(.int (1 : Int32))]))
      refine Go.st (fun _ => XS.istore X10.here hx rfl (hb hby at_51) rfl (l' := #[.val (.int p0), .val (.int p1), .val (.ref w_SHARED), .val (.ref w_EXCLUSIVE), .val (.int (1 : Int32)), .val (.int (1 : Int32)), .val (.int (1 : Int32))]) rfl) ?_
      show Go p e below _ (T10.setTop (mkF m 53 #[.val (.int p0), .val (.int p1), .val (.ref w_SHARED), .val (.ref w_EXCLUSIVE), .val (.int (1 : Int32)), .val (.int (1 : Int32)), .val (.int (1 : Int32))] []))
      refine Go.st (fun _ => XS.iload X10.here hx rfl (hb hby at_53) rfl) ?_
      show Go p e below _ (T10.setTop (mkF m 55 #[.val (.int p0), .val (.int p1), .val (.ref w_SHARED), .val (.ref w_EXCLUSIVE), .val (.int (1 : Int32)), .val (.int (1 : Int32)), .val (.int (1 : Int32))] [(.int (1 : Int32))]))
      refine Go.st (fun _ => XS.iload X10.here hx rfl (hb hby at_55) rfl) ?_
      show Go p e below _ (T10.setTop (mkF m 57 #[.val (.int p0), .val (.int p1), .val (.ref w_SHARED), .val (.ref w_EXCLUSIVE), .val (.int (1 : Int32)), .val (.int (1 : Int32)), .val (.int (1 : Int32))] [(.int (1 : Int32)), (.int (1 : Int32))]))
      refine Go.st (fun _ => XS.icmpNo X10.here hx rfl (hb hby at_57) rfl (teq (by decide : (1 : Int32) = (1 : Int32))).2) ?_
      show Go p e below _ (T10.setTop (mkF m 60 #[.val (.int p0), .val (.int p1), .val (.ref w_SHARED), .val (.ref w_EXCLUSIVE), .val (.int (1 : Int32)), .val (.int (1 : Int32)), .val (.int (1 : Int32))] []))
      refine Go.st (fun _ => XS.iload X10.here hx rfl (hb hby at_60) rfl) ?_
      show Go p e below _ (T10.setTop (mkF m 62 #[.val (.int p0), .val (.int p1), .val (.ref w_SHARED), .val (.ref w_EXCLUSIVE), .val (.int (1 : Int32)), .val (.int (1 : Int32)), .val (.int (1 : Int32))] [(.int (1 : Int32))]))
      refine Go.st (fun _ => XS.iload X10.here hx rfl (hb hby at_62) rfl) ?_
      show Go p e below _ (T10.setTop (mkF m 64 #[.val (.int p0), .val (.int p1), .val (.ref w_SHARED), .val (.ref w_EXCLUSIVE), .val (.int (1 : Int32)), .val (.int (1 : Int32)), .val (.int (1 : Int32))] [(.int (1 : Int32)), (.int (1 : Int32))]))
      refine Go.st (fun _ => XS.icmpNo X10.here hx rfl (hb hby at_64) rfl (teq (by decide : (1 : Int32) = (1 : Int32))).2) ?_
      show Go p e below _ (T10.setTop (mkF m 67 #[.val (.int p0), .val (.int p1), .val (.ref w_SHARED), .val (.ref w_EXCLUSIVE), .val (.int (1 : Int32)), .val (.int (1 : Int32)), .val (.int (1 : Int32))] []))
      refine Go.st (fun _ => XS.iconst X10.here hx rfl (hb hby at_67)) ?_
      show Go p e below _ (T10.setTop (mkF m 68 #[.val (.int p0), .val (.int p1), .val (.ref w_SHARED), .val (.ref w_EXCLUSIVE), .val (.int (1 : Int32)), .val (.int (1 : Int32)), .val (.int (1 : Int32))] [(.int (1 : Int32))]))
      refine Go.st (fun _ => XS.goto X10.here hx rfl (pc0 := 68) (pc' := 72) rfl (hb hby at_68) (by decide) (by decide)) ?_
      show Go p e below _ (T10.setTop (mkF m 72 #[.val (.int p0), .val (.int p1), .val (.ref w_SHARED), .val (.ref w_EXCLUSIVE), .val (.int (1 : Int32)), .val (.int (1 : Int32)), .val (.int (1 : Int32))] [(.int (1 : Int32))]))
      exact goRetN X10 hx hlk hret (t := .boolean) (by simp) (w := (1 : Int32)) (by decide) e10 (hb hby at_72) (by decide) (by decide) ⟨rfl, N10⟩
  · show Go p e below _ (T1.setTop (mkF m 4 #[.val (.int p0), .val (.int p1), .unset, .unset, .unset, .unset, .unset] [(.ref w_EXCLUSIVE)]))
    refine Go.st (fun _ => XS.astoreN X1.here hx rfl (hb hby at_4) rfl rfl (l' := #[.val (.int p0), .val (.int p1), .val (.ref w_EXCLUSIVE), .unset, .unset, .unset, .unset]) rfl) ?_
    show Go p e below _ (T1.setTop (mkF m 5 #[.val (.int p0), .val (.int p1), .val (.ref w_EXCLUSIVE), .unset, .unset, .unset, .unset] []))
    refine Go.st (fun _ => XS.iloadN X1.here hx rfl (hb hby at_5) rfl) ?_
    show Go p e below _ (T1.setTop (mkF m 6 #[.val (.int p0), .val (.int p1), .val (.ref w_EXCLUSIVE), .unset, .unset, .unset, .unset] [(.int p1)]))
    refine goCallS X1 hx hZ (y := (⟨"com/example/frozen_view/frozenview/engine/LockModeConflictsWithPinLaw", "pick", "(I)Lcom/example/frozen_view/frozenview/engine/LockMode;"⟩ : MethodName)) hown (hw _ (List.mem_of_getElem? (i := 0) rfl)) (hw _ (List.mem_of_getElem? (i := 1) rfl)) (hw _ (List.mem_of_getElem? (i := 2) rfl)) (hw _ (List.mem_of_getElem? (i := 3) rfl)) (by decide) (argsL := [(.int p1)]) (rest := []) e1 (rm1 l Z a0 hw [] p1 w_SHARED w_EXCLUSIVE h0 n0 O0 S_w_SHARED S_w_EXCLUSIVE) 0 (by decide) (by decide) (by decide) (by decide) (mkF m 6 #[.val (.int p0), .val (.int p1), .val (.ref w_EXCLUSIVE), .unset, .unset, .unset, .unset] [(.int p1)]) rfl (by rw [hml]; rfl) (lenOf pd_0 rfl) rfl (hb hby at_6) (Nat.le_of_eq rfl) ?_
    intro v11 T11 L11 X11 hQ11
    obtain ⟨hv11, M11, e11⟩ := hQ11
    have N11 := Fr.app N1 M11
    rcases hv11 with ⟨hk11, rfl⟩ | ⟨hk11, rfl⟩
    · show Go p e below _ (T11.setTop (mkF m 9 #[.val (.int p0), .val (.int p1), .val (.ref w_EXCLUSIVE), .unset, .unset, .unset, .unset] [(.ref w_SHARED)]))
      refine Go.st (fun _ => XS.astoreN X11.here hx rfl (hb hby at_9) rfl rfl (l' := #[.val (.int p0), .val (.int p1), .val (.ref w_EXCLUSIVE), .val (.ref w_SHARED), .unset, .unset, .unset]) rfl) ?_
      show Go p e below _ (T11.setTop (mkF m 10 #[.val (.int p0), .val (.int p1), .val (.ref w_EXCLUSIVE), .val (.ref w_SHARED), .unset, .unset, .unset] []))
      refine Go.st (fun _ => XS.aloadN X11.here hx rfl (hb hby at_10) rfl rfl) ?_
      show Go p e below _ (T11.setTop (mkF m 11 #[.val (.int p0), .val (.int p1), .val (.ref w_EXCLUSIVE), .val (.ref w_SHARED), .unset, .unset, .unset] [(.ref w_EXCLUSIVE)]))
      obtain ⟨T12, X12, e12, st12⟩ := getS2 X11 hx hZ hown (host := "") (Or.inl (hw _ (List.mem_of_getElem? (i := 4) rfl))) Via.refl e11 (oldSta O0 S_w_SHARED) (g := (mkF m 11 #[.val (.int p0), .val (.int p1), .val (.ref w_EXCLUSIVE), .val (.ref w_SHARED), .unset, .unset, .unset] [(.ref w_EXCLUSIVE)])) rfl (hb hby at_11)
      refine Go.st st12 ?_
      show Go p e below _ (T12.setTop (mkF m 14 #[.val (.int p0), .val (.int p1), .val (.ref w_EXCLUSIVE), .val (.ref w_SHARED), .unset, .unset, .unset] [(.ref w_SHARED), (.ref w_EXCLUSIVE)]))
      refine Go.st (fun _ => fun k => Jvm.RoadKit.acmp (g := (mkF m 14 #[.val (.int p0), .val (.int p1), .val (.ref w_EXCLUSIVE), .val (.ref w_SHARED), .unset, .unset, .unset] [(.ref w_SHARED), (.ref w_EXCLUSIVE)])) X12 hx rfl rfl rfl (pc0 := 14) (pc' := 36) (same := false) rfl (hb hby at_14) rfl (decide_eq_false fun q => (Ne.symm ne_w_SHARED_w_EXCLUSIVE) (Value.ref.inj q)) (by decide) (by decide) k) ?_
      show Go p e below _ (T12.setTop (mkF m 36 #[.val (.int p0), .val (.int p1), .val (.ref w_EXCLUSIVE), .val (.ref w_SHARED), .unset, .unset, .unset] []))
      refine Go.st (fun _ => XS.iconst X12.here hx rfl (hb hby at_36)) ?_
      show Go p e below _ (T12.setTop (mkF m 37 #[.val (.int p0), .val (.int p1), .val (.ref w_EXCLUSIVE), .val (.ref w_SHARED), .unset, .unset, .unset] [(.int (1 : Int32))]))
      refine Go.st (fun _ => XS.istore X12.here hx rfl (hb hby at_37) rfl (l' := #[.val (.int p0), .val (.int p1), .val (.ref w_EXCLUSIVE), .val (.ref w_SHARED), .val (.int (1 : Int32)), .unset, .unset]) rfl) ?_
      show Go p e below _ (T12.setTop (mkF m 39 #[.val (.int p0), .val (.int p1), .val (.ref w_EXCLUSIVE), .val (.ref w_SHARED), .val (.int (1 : Int32)), .unset, .unset] []))
      refine Go.st (fun _ => XS.aloadN X12.here hx rfl (hb hby at_39) rfl rfl) ?_
      show Go p e below _ (T12.setTop (mkF m 40 #[.val (.int p0), .val (.int p1), .val (.ref w_EXCLUSIVE), .val (.ref w_SHARED), .val (.int (1 : Int32)), .unset, .unset] [(.ref w_EXCLUSIVE)]))
      refine Go.st (fun _ => XS.aloadN X12.here hx rfl (hb hby at_40) rfl rfl) ?_
      show Go p e below _ (T12.setTop (mkF m 41 #[.val (.int p0), .val (.int p1), .val (.ref w_EXCLUSIVE), .val (.ref w_SHARED), .val (.int (1 : Int32)), .unset, .unset] [(.ref w_SHARED), (.ref w_EXCLUSIVE)]))
      refine goVirt X12 hx hZ (y := (⟨"com/example/frozen_view/frozenview/engine/LockMode", "conflictsWith", "(Lcom/example/frozen_view/frozenview/engine/LockMode;)Z"⟩ : MethodName)) (z := (⟨"com/example/frozen_view/frozenview/engine/LockMode", "conflictsWith", "(Lcom/example/frozen_view/frozenview/engine/LockMode;)Z"⟩ : MethodName)) hown (hw _ (List.mem_of_getElem? (i := 9) rfl)) (hw _ (List.mem_of_getElem? (i := 10) rfl)) (notFace_of_selects (args := #[]) (mvT hZ (hw _ (List.mem_of_getElem? (i := 12) rfl)))) (hw _ (List.mem_of_getElem? (i := 12) rfl)) (hw _ (List.mem_of_getElem? (i := 11) rfl)) (hw _ (List.mem_of_getElem? (i := 5) rfl)) (hw _ (List.mem_of_getElem? (i := 13) rfl)) (by decide) (a := w_EXCLUSIVE) (argsL := [(.ref w_SHARED)]) (rest := []) e12 E_w_EXCLUSIVE (rm2 l Z a0 hw [] w_EXCLUSIVE w_SHARED w_EXCLUSIVE h0 n0 O0 S_w_EXCLUSIVE) 0 (by decide) (by decide) (by decide) (by decide) (mkF m 41 #[.val (.int p0), .val (.int p1), .val (.ref w_EXCLUSIVE), .val (.ref w_SHARED), .val (.int (1 : Int32)), .unset, .unset] [(.ref w_SHARED), (.ref w_EXCLUSIVE)]) rfl (by rw [hml]; rfl) (lenOf pd_1 rfl) rfl (hb hby at_41) (Nat.le_of_eq rfl) ?_
      intro v13 T13 L13 X13 hQ13
      obtain ⟨hv13, M13, e13⟩ := hQ13
      have N13 := Fr.app N11 M13
      obtain rfl : v13 = some (.int 1) := hv13.trans (by simp [ne_w_SHARED_w_EXCLUSIVE])
      show Go p e below _ (T13.setTop (mkF m 44 #[.val (.int p0), .val (.int p1), .val (.ref w_EXCLUSIVE), .val (.ref w_SHARED), .val (.int (1 : Int32)), .unset, .unset] [(.int (1 : Int32))]))
      refine Go.st (fun _ => XS.istore X13.here hx rfl (hb hby at_44) rfl (l' := #[.val (.int p0), .val (.int p1), .val (.ref w_EXCLUSIVE), .val (.ref w_SHARED), .val (.int (1 : Int32)), .val (.int (1 : Int32)), .unset]) rfl) ?_
      show Go p e below _ (T13.setTop (mkF m 46 #[.val (.int p0), .val (.int p1), .val (.ref w_EXCLUSIVE), .val (.ref w_SHARED), .val (.int (1 : Int32)), .val (.int (1 : Int32)), .unset] []))
      refine Go.st (fun _ => XS.aloadN X13.here hx rfl (hb hby at_46) rfl rfl) ?_
      show Go p e below _ (T13.setTop (mkF m 47 #[.val (.int p0), .val (.int p1), .val (.ref w_EXCLUSIVE), .val (.ref w_SHARED), .val (.int (1 : Int32)), .val (.int (1 : Int32)), .unset] [(.ref w_SHARED)]))
      refine Go.st (fun _ => XS.aloadN X13.here hx rfl (hb hby at_47) rfl rfl) ?_
      show Go p e below _ (T13.setTop (mkF m 48 #[.val (.int p0), .val (.int p1), .val (.ref w_EXCLUSIVE), .val (.ref w_SHARED), .val (.int (1 : Int32)), .val (.int (1 : Int32)), .unset] [(.ref w_EXCLUSIVE), (.ref w_SHARED)]))
      refine goVirt X13 hx hZ (y := (⟨"com/example/frozen_view/frozenview/engine/LockMode", "conflictsWith", "(Lcom/example/frozen_view/frozenview/engine/LockMode;)Z"⟩ : MethodName)) (z := (⟨"com/example/frozen_view/frozenview/engine/LockMode", "conflictsWith", "(Lcom/example/frozen_view/frozenview/engine/LockMode;)Z"⟩ : MethodName)) hown (hw _ (List.mem_of_getElem? (i := 9) rfl)) (hw _ (List.mem_of_getElem? (i := 10) rfl)) (notFace_of_selects (args := #[]) (mvT hZ (hw _ (List.mem_of_getElem? (i := 12) rfl)))) (hw _ (List.mem_of_getElem? (i := 12) rfl)) (hw _ (List.mem_of_getElem? (i := 11) rfl)) (hw _ (List.mem_of_getElem? (i := 5) rfl)) (hw _ (List.mem_of_getElem? (i := 13) rfl)) (by decide) (a := w_SHARED) (argsL := [(.ref w_EXCLUSIVE)]) (rest := []) e13 E_w_SHARED (rm2 l Z a0 hw [] w_SHARED w_EXCLUSIVE w_EXCLUSIVE h0 n0 O0 S_w_EXCLUSIVE) 0 (by decide) (by decide) (by decide) (by decide) (mkF m 48 #[.val (.int p0), .val (.int p1), .val (.ref w_EXCLUSIVE), .val (.ref w_SHARED), .val (.int (1 : Int32)), .val (.int (1 : Int32)), .unset] [(.ref w_EXCLUSIVE), (.ref w_SHARED)]) rfl (by rw [hml]; rfl) (lenOf pd_1 rfl) rfl (hb hby at_48) (Nat.le_of_eq rfl) ?_
      intro v14 T14 L14 X14 hQ14
      obtain ⟨hv14, M14, e14⟩ := hQ14
      have N14 := Fr.app N13 M14
      obtain rfl : v14 = some (.int 1) := hv14.trans (by simp [ne_w_SHARED_w_EXCLUSIVE])
      show Go p e below _ (T14.setTop (mkF m 51 #[.val (.int p0), .val (.int p1), .val (.ref w_EXCLUSIVE), .val (.ref w_SHARED), .val (.int (1 : Int32)), .val (.int (1 : Int32)), .unset] [(.int (1 : Int32))]))
      refine Go.st (fun _ => XS.istore X14.here hx rfl (hb hby at_51) rfl (l' := #[.val (.int p0), .val (.int p1), .val (.ref w_EXCLUSIVE), .val (.ref w_SHARED), .val (.int (1 : Int32)), .val (.int (1 : Int32)), .val (.int (1 : Int32))]) rfl) ?_
      show Go p e below _ (T14.setTop (mkF m 53 #[.val (.int p0), .val (.int p1), .val (.ref w_EXCLUSIVE), .val (.ref w_SHARED), .val (.int (1 : Int32)), .val (.int (1 : Int32)), .val (.int (1 : Int32))] []))
      refine Go.st (fun _ => XS.iload X14.here hx rfl (hb hby at_53) rfl) ?_
      show Go p e below _ (T14.setTop (mkF m 55 #[.val (.int p0), .val (.int p1), .val (.ref w_EXCLUSIVE), .val (.ref w_SHARED), .val (.int (1 : Int32)), .val (.int (1 : Int32)), .val (.int (1 : Int32))] [(.int (1 : Int32))]))
      refine Go.st (fun _ => XS.iload X14.here hx rfl (hb hby at_55) rfl) ?_
      show Go p e below _ (T14.setTop (mkF m 57 #[.val (.int p0), .val (.int p1), .val (.ref w_EXCLUSIVE), .val (.ref w_SHARED), .val (.int (1 : Int32)), .val (.int (1 : Int32)), .val (.int (1 : Int32))] [(.int (1 : Int32)), (.int (1 : Int32))]))
      refine Go.st (fun _ => XS.icmpNo X14.here hx rfl (hb hby at_57) rfl (teq (by decide : (1 : Int32) = (1 : Int32))).2) ?_
      show Go p e below _ (T14.setTop (mkF m 60 #[.val (.int p0), .val (.int p1), .val (.ref w_EXCLUSIVE), .val (.ref w_SHARED), .val (.int (1 : Int32)), .val (.int (1 : Int32)), .val (.int (1 : Int32))] []))
      refine Go.st (fun _ => XS.iload X14.here hx rfl (hb hby at_60) rfl) ?_
      show Go p e below _ (T14.setTop (mkF m 62 #[.val (.int p0), .val (.int p1), .val (.ref w_EXCLUSIVE), .val (.ref w_SHARED), .val (.int (1 : Int32)), .val (.int (1 : Int32)), .val (.int (1 : Int32))] [(.int (1 : Int32))]))
      refine Go.st (fun _ => XS.iload X14.here hx rfl (hb hby at_62) rfl) ?_
      show Go p e below _ (T14.setTop (mkF m 64 #[.val (.int p0), .val (.int p1), .val (.ref w_EXCLUSIVE), .val (.ref w_SHARED), .val (.int (1 : Int32)), .val (.int (1 : Int32)), .val (.int (1 : Int32))] [(.int (1 : Int32)), (.int (1 : Int32))]))
      refine Go.st (fun _ => XS.icmpNo X14.here hx rfl (hb hby at_64) rfl (teq (by decide : (1 : Int32) = (1 : Int32))).2) ?_
      show Go p e below _ (T14.setTop (mkF m 67 #[.val (.int p0), .val (.int p1), .val (.ref w_EXCLUSIVE), .val (.ref w_SHARED), .val (.int (1 : Int32)), .val (.int (1 : Int32)), .val (.int (1 : Int32))] []))
      refine Go.st (fun _ => XS.iconst X14.here hx rfl (hb hby at_67)) ?_
      show Go p e below _ (T14.setTop (mkF m 68 #[.val (.int p0), .val (.int p1), .val (.ref w_EXCLUSIVE), .val (.ref w_SHARED), .val (.int (1 : Int32)), .val (.int (1 : Int32)), .val (.int (1 : Int32))] [(.int (1 : Int32))]))
      refine Go.st (fun _ => XS.goto X14.here hx rfl (pc0 := 68) (pc' := 72) rfl (hb hby at_68) (by decide) (by decide)) ?_
      show Go p e below _ (T14.setTop (mkF m 72 #[.val (.int p0), .val (.int p1), .val (.ref w_EXCLUSIVE), .val (.ref w_SHARED), .val (.int (1 : Int32)), .val (.int (1 : Int32)), .val (.int (1 : Int32))] [(.int (1 : Int32))]))
      exact goRetN X14 hx hlk hret (t := .boolean) (by simp) (w := (1 : Int32)) (by decide) e14 (hb hby at_72) (by decide) (by decide) ⟨rfl, N14⟩
    · show Go p e below _ (T11.setTop (mkF m 9 #[.val (.int p0), .val (.int p1), .val (.ref w_EXCLUSIVE), .unset, .unset, .unset, .unset] [(.ref w_EXCLUSIVE)]))
      refine Go.st (fun _ => XS.astoreN X11.here hx rfl (hb hby at_9) rfl rfl (l' := #[.val (.int p0), .val (.int p1), .val (.ref w_EXCLUSIVE), .val (.ref w_EXCLUSIVE), .unset, .unset, .unset]) rfl) ?_
      show Go p e below _ (T11.setTop (mkF m 10 #[.val (.int p0), .val (.int p1), .val (.ref w_EXCLUSIVE), .val (.ref w_EXCLUSIVE), .unset, .unset, .unset] []))
      refine Go.st (fun _ => XS.aloadN X11.here hx rfl (hb hby at_10) rfl rfl) ?_
      show Go p e below _ (T11.setTop (mkF m 11 #[.val (.int p0), .val (.int p1), .val (.ref w_EXCLUSIVE), .val (.ref w_EXCLUSIVE), .unset, .unset, .unset] [(.ref w_EXCLUSIVE)]))
      obtain ⟨T15, X15, e15, st15⟩ := getS2 X11 hx hZ hown (host := "") (Or.inl (hw _ (List.mem_of_getElem? (i := 4) rfl))) Via.refl e11 (oldSta O0 S_w_SHARED) (g := (mkF m 11 #[.val (.int p0), .val (.int p1), .val (.ref w_EXCLUSIVE), .val (.ref w_EXCLUSIVE), .unset, .unset, .unset] [(.ref w_EXCLUSIVE)])) rfl (hb hby at_11)
      refine Go.st st15 ?_
      show Go p e below _ (T15.setTop (mkF m 14 #[.val (.int p0), .val (.int p1), .val (.ref w_EXCLUSIVE), .val (.ref w_EXCLUSIVE), .unset, .unset, .unset] [(.ref w_SHARED), (.ref w_EXCLUSIVE)]))
      refine Go.st (fun _ => fun k => Jvm.RoadKit.acmp (g := (mkF m 14 #[.val (.int p0), .val (.int p1), .val (.ref w_EXCLUSIVE), .val (.ref w_EXCLUSIVE), .unset, .unset, .unset] [(.ref w_SHARED), (.ref w_EXCLUSIVE)])) X15 hx rfl rfl rfl (pc0 := 14) (pc' := 36) (same := false) rfl (hb hby at_14) rfl (decide_eq_false fun q => (Ne.symm ne_w_SHARED_w_EXCLUSIVE) (Value.ref.inj q)) (by decide) (by decide) k) ?_
      show Go p e below _ (T15.setTop (mkF m 36 #[.val (.int p0), .val (.int p1), .val (.ref w_EXCLUSIVE), .val (.ref w_EXCLUSIVE), .unset, .unset, .unset] []))
      refine Go.st (fun _ => XS.iconst X15.here hx rfl (hb hby at_36)) ?_
      show Go p e below _ (T15.setTop (mkF m 37 #[.val (.int p0), .val (.int p1), .val (.ref w_EXCLUSIVE), .val (.ref w_EXCLUSIVE), .unset, .unset, .unset] [(.int (1 : Int32))]))
      refine Go.st (fun _ => XS.istore X15.here hx rfl (hb hby at_37) rfl (l' := #[.val (.int p0), .val (.int p1), .val (.ref w_EXCLUSIVE), .val (.ref w_EXCLUSIVE), .val (.int (1 : Int32)), .unset, .unset]) rfl) ?_
      show Go p e below _ (T15.setTop (mkF m 39 #[.val (.int p0), .val (.int p1), .val (.ref w_EXCLUSIVE), .val (.ref w_EXCLUSIVE), .val (.int (1 : Int32)), .unset, .unset] []))
      refine Go.st (fun _ => XS.aloadN X15.here hx rfl (hb hby at_39) rfl rfl) ?_
      show Go p e below _ (T15.setTop (mkF m 40 #[.val (.int p0), .val (.int p1), .val (.ref w_EXCLUSIVE), .val (.ref w_EXCLUSIVE), .val (.int (1 : Int32)), .unset, .unset] [(.ref w_EXCLUSIVE)]))
      refine Go.st (fun _ => XS.aloadN X15.here hx rfl (hb hby at_40) rfl rfl) ?_
      show Go p e below _ (T15.setTop (mkF m 41 #[.val (.int p0), .val (.int p1), .val (.ref w_EXCLUSIVE), .val (.ref w_EXCLUSIVE), .val (.int (1 : Int32)), .unset, .unset] [(.ref w_EXCLUSIVE), (.ref w_EXCLUSIVE)]))
      refine goVirt X15 hx hZ (y := (⟨"com/example/frozen_view/frozenview/engine/LockMode", "conflictsWith", "(Lcom/example/frozen_view/frozenview/engine/LockMode;)Z"⟩ : MethodName)) (z := (⟨"com/example/frozen_view/frozenview/engine/LockMode", "conflictsWith", "(Lcom/example/frozen_view/frozenview/engine/LockMode;)Z"⟩ : MethodName)) hown (hw _ (List.mem_of_getElem? (i := 9) rfl)) (hw _ (List.mem_of_getElem? (i := 10) rfl)) (notFace_of_selects (args := #[]) (mvT hZ (hw _ (List.mem_of_getElem? (i := 12) rfl)))) (hw _ (List.mem_of_getElem? (i := 12) rfl)) (hw _ (List.mem_of_getElem? (i := 11) rfl)) (hw _ (List.mem_of_getElem? (i := 5) rfl)) (hw _ (List.mem_of_getElem? (i := 13) rfl)) (by decide) (a := w_EXCLUSIVE) (argsL := [(.ref w_EXCLUSIVE)]) (rest := []) e15 E_w_EXCLUSIVE (rm2 l Z a0 hw [] w_EXCLUSIVE w_EXCLUSIVE w_EXCLUSIVE h0 n0 O0 S_w_EXCLUSIVE) 0 (by decide) (by decide) (by decide) (by decide) (mkF m 41 #[.val (.int p0), .val (.int p1), .val (.ref w_EXCLUSIVE), .val (.ref w_EXCLUSIVE), .val (.int (1 : Int32)), .unset, .unset] [(.ref w_EXCLUSIVE), (.ref w_EXCLUSIVE)]) rfl (by rw [hml]; rfl) (lenOf pd_1 rfl) rfl (hb hby at_41) (Nat.le_of_eq rfl) ?_
      intro v16 T16 L16 X16 hQ16
      obtain ⟨hv16, M16, e16⟩ := hQ16
      have N16 := Fr.app N11 M16
      obtain rfl : v16 = some (.int 1) := hv16.trans (by simp [ne_w_SHARED_w_EXCLUSIVE])
      show Go p e below _ (T16.setTop (mkF m 44 #[.val (.int p0), .val (.int p1), .val (.ref w_EXCLUSIVE), .val (.ref w_EXCLUSIVE), .val (.int (1 : Int32)), .unset, .unset] [(.int (1 : Int32))]))
      refine Go.st (fun _ => XS.istore X16.here hx rfl (hb hby at_44) rfl (l' := #[.val (.int p0), .val (.int p1), .val (.ref w_EXCLUSIVE), .val (.ref w_EXCLUSIVE), .val (.int (1 : Int32)), .val (.int (1 : Int32)), .unset]) rfl) ?_
      show Go p e below _ (T16.setTop (mkF m 46 #[.val (.int p0), .val (.int p1), .val (.ref w_EXCLUSIVE), .val (.ref w_EXCLUSIVE), .val (.int (1 : Int32)), .val (.int (1 : Int32)), .unset] []))
      refine Go.st (fun _ => XS.aloadN X16.here hx rfl (hb hby at_46) rfl rfl) ?_
      show Go p e below _ (T16.setTop (mkF m 47 #[.val (.int p0), .val (.int p1), .val (.ref w_EXCLUSIVE), .val (.ref w_EXCLUSIVE), .val (.int (1 : Int32)), .val (.int (1 : Int32)), .unset] [(.ref w_EXCLUSIVE)]))
      refine Go.st (fun _ => XS.aloadN X16.here hx rfl (hb hby at_47) rfl rfl) ?_
      show Go p e below _ (T16.setTop (mkF m 48 #[.val (.int p0), .val (.int p1), .val (.ref w_EXCLUSIVE), .val (.ref w_EXCLUSIVE), .val (.int (1 : Int32)), .val (.int (1 : Int32)), .unset] [(.ref w_EXCLUSIVE), (.ref w_EXCLUSIVE)]))
      refine goVirt X16 hx hZ (y := (⟨"com/example/frozen_view/frozenview/engine/LockMode", "conflictsWith", "(Lcom/example/frozen_view/frozenview/engine/LockMode;)Z"⟩ : MethodName)) (z := (⟨"com/example/frozen_view/frozenview/engine/LockMode", "conflictsWith", "(Lcom/example/frozen_view/frozenview/engine/LockMode;)Z"⟩ : MethodName)) hown (hw _ (List.mem_of_getElem? (i := 9) rfl)) (hw _ (List.mem_of_getElem? (i := 10) rfl)) (notFace_of_selects (args := #[]) (mvT hZ (hw _ (List.mem_of_getElem? (i := 12) rfl)))) (hw _ (List.mem_of_getElem? (i := 12) rfl)) (hw _ (List.mem_of_getElem? (i := 11) rfl)) (hw _ (List.mem_of_getElem? (i := 5) rfl)) (hw _ (List.mem_of_getElem? (i := 13) rfl)) (by decide) (a := w_EXCLUSIVE) (argsL := [(.ref w_EXCLUSIVE)]) (rest := []) e16 E_w_EXCLUSIVE (rm2 l Z a0 hw [] w_EXCLUSIVE w_EXCLUSIVE w_EXCLUSIVE h0 n0 O0 S_w_EXCLUSIVE) 0 (by decide) (by decide) (by decide) (by decide) (mkF m 48 #[.val (.int p0), .val (.int p1), .val (.ref w_EXCLUSIVE), .val (.ref w_EXCLUSIVE), .val (.int (1 : Int32)), .val (.int (1 : Int32)), .unset] [(.ref w_EXCLUSIVE), (.ref w_EXCLUSIVE)]) rfl (by rw [hml]; rfl) (lenOf pd_1 rfl) rfl (hb hby at_48) (Nat.le_of_eq rfl) ?_
      intro v17 T17 L17 X17 hQ17
      obtain ⟨hv17, M17, e17⟩ := hQ17
      have N17 := Fr.app N16 M17
      obtain rfl : v17 = some (.int 1) := hv17.trans (by simp [ne_w_SHARED_w_EXCLUSIVE])
      show Go p e below _ (T17.setTop (mkF m 51 #[.val (.int p0), .val (.int p1), .val (.ref w_EXCLUSIVE), .val (.ref w_EXCLUSIVE), .val (.int (1 : Int32)), .val (.int (1 : Int32)), .unset] [(.int (1 : Int32))]))
      refine Go.st (fun _ => XS.istore X17.here hx rfl (hb hby at_51) rfl (l' := #[.val (.int p0), .val (.int p1), .val (.ref w_EXCLUSIVE), .val (.ref w_EXCLUSIVE), .val (.int (1 : Int32)), .val (.int (1 : Int32)), .val (.int (1 : Int32))]) rfl) ?_
      show Go p e below _ (T17.setTop (mkF m 53 #[.val (.int p0), .val (.int p1), .val (.ref w_EXCLUSIVE), .val (.ref w_EXCLUSIVE), .val (.int (1 : Int32)), .val (.int (1 : Int32)), .val (.int (1 : Int32))] []))
      refine Go.st (fun _ => XS.iload X17.here hx rfl (hb hby at_53) rfl) ?_
      show Go p e below _ (T17.setTop (mkF m 55 #[.val (.int p0), .val (.int p1), .val (.ref w_EXCLUSIVE), .val (.ref w_EXCLUSIVE), .val (.int (1 : Int32)), .val (.int (1 : Int32)), .val (.int (1 : Int32))] [(.int (1 : Int32))]))
      refine Go.st (fun _ => XS.iload X17.here hx rfl (hb hby at_55) rfl) ?_
      show Go p e below _ (T17.setTop (mkF m 57 #[.val (.int p0), .val (.int p1), .val (.ref w_EXCLUSIVE), .val (.ref w_EXCLUSIVE), .val (.int (1 : Int32)), .val (.int (1 : Int32)), .val (.int (1 : Int32))] [(.int (1 : Int32)), (.int (1 : Int32))]))
      refine Go.st (fun _ => XS.icmpNo X17.here hx rfl (hb hby at_57) rfl (teq (by decide : (1 : Int32) = (1 : Int32))).2) ?_
      show Go p e below _ (T17.setTop (mkF m 60 #[.val (.int p0), .val (.int p1), .val (.ref w_EXCLUSIVE), .val (.ref w_EXCLUSIVE), .val (.int (1 : Int32)), .val (.int (1 : Int32)), .val (.int (1 : Int32))] []))
      refine Go.st (fun _ => XS.iload X17.here hx rfl (hb hby at_60) rfl) ?_
      show Go p e below _ (T17.setTop (mkF m 62 #[.val (.int p0), .val (.int p1), .val (.ref w_EXCLUSIVE), .val (.ref w_EXCLUSIVE), .val (.int (1 : Int32)), .val (.int (1 : Int32)), .val (.int (1 : Int32))] [(.int (1 : Int32))]))
      refine Go.st (fun _ => XS.iload X17.here hx rfl (hb hby at_62) rfl) ?_
      show Go p e below _ (T17.setTop (mkF m 64 #[.val (.int p0), .val (.int p1), .val (.ref w_EXCLUSIVE), .val (.ref w_EXCLUSIVE), .val (.int (1 : Int32)), .val (.int (1 : Int32)), .val (.int (1 : Int32))] [(.int (1 : Int32)), (.int (1 : Int32))]))
      refine Go.st (fun _ => XS.icmpNo X17.here hx rfl (hb hby at_64) rfl (teq (by decide : (1 : Int32) = (1 : Int32))).2) ?_
      show Go p e below _ (T17.setTop (mkF m 67 #[.val (.int p0), .val (.int p1), .val (.ref w_EXCLUSIVE), .val (.ref w_EXCLUSIVE), .val (.int (1 : Int32)), .val (.int (1 : Int32)), .val (.int (1 : Int32))] []))
      refine Go.st (fun _ => XS.iconst X17.here hx rfl (hb hby at_67)) ?_
      show Go p e below _ (T17.setTop (mkF m 68 #[.val (.int p0), .val (.int p1), .val (.ref w_EXCLUSIVE), .val (.ref w_EXCLUSIVE), .val (.int (1 : Int32)), .val (.int (1 : Int32)), .val (.int (1 : Int32))] [(.int (1 : Int32))]))
      refine Go.st (fun _ => XS.goto X17.here hx rfl (pc0 := 68) (pc' := 72) rfl (hb hby at_68) (by decide) (by decide)) ?_
      show Go p e below _ (T17.setTop (mkF m 72 #[.val (.int p0), .val (.int p1), .val (.ref w_EXCLUSIVE), .val (.ref w_EXCLUSIVE), .val (.int (1 : Int32)), .val (.int (1 : Int32)), .val (.int (1 : Int32))] [(.int (1 : Int32))]))
      exact goRetN X17 hx hlk hret (t := .boolean) (by simp) (w := (1 : Int32)) (by decide) e17 (hb hby at_72) (by decide) (by decide) ⟨rfl, N17⟩
set_option maxRecDepth 65536 in
set_option maxHeartbeats 40000000 in
theorem comes_1 {Post : Tables → Env → Array Value → State → Outcome → State → Prop} (hpost : ∀ tb e args s v u, (limb_1_1.after args s (.returned v) u = true ∧ limb_1_2.after args s (.returned v) u = true ∧ True) → FrameEnd s (.returned v) u (Jvm.fieldLocs frame_1_writes args s ++ Jvm.arrayLocs frame_1_arrays args s ++ Jvm.staticLocs frame_1_statics s) 0 0 → Post tb e args s (.returned v) u) :
    ArmFor flags0 classFile x code maxLocals ret World_1 tables_1 room_1 Calls_1 rest_1 Pre_1 Post := by
  intro l hfl _ _ p e ha hc hk s m args below hf hA hF happ hP
  obtain ⟨hcalls, hrest, hpre⟩ := hP
  obtain ⟨-, -, -, hnamed, -, -, -, hat⟩ := (Spec.applies_iff hf).mp happ
  obtain ⟨hg, hn⟩ := and_e (Cond.before_iff.mp (show (Jvm.Cond.and given_1 narrow_1).before args s = true from hpre))
  obtain ⟨g1, g2⟩ := and_e hg
  obtain ⟨g3, g4⟩ := and_e g2
  obtain ⟨w0, w1, rfl⟩ : ∃ w0 w1 : Value, args = #[w0, w1] := by
    have hs : args.size = 2 := by simpa [Cond.value, given_1] using g1
    obtain ⟨L⟩ := args
    match L, hs with
    | [w0, w1], _ => exact ⟨w0, w1, rfl⟩
  have hw := fun d (hd : d ∈ tables_1) => atoms_spec (ws := Jvm.Cond.code x code maxLocals ret :: tables_1) hat d (List.mem_cons_of_mem _ hd)
  have hfit : Fit s := fun {y c} hc i hi => by
    obtain ⟨ha, rfl⟩ := Array.getElem?_eq_some_iff.mp hc
    have q := List.all_eq_true.mp ((Array.all_eq_true_iff_forall_mem.mp hF) _ (Array.getElem_mem ha)) i (List.mem_range.mpr hi)
    simpa [Array.getElem?_eq_getElem hi] using q
  obtain ⟨i0, ei0⟩ := is_v g3
  obtain rfl : w0 = (.int i0) := Option.some.inj ei0
  obtain ⟨i1, ei1⟩ := is_v g4
  obtain rfl : w1 = (.int i1) := Option.some.inj ei1
  obtain ⟨g5, g6⟩ := and_e hn
  obtain ⟨w_SHARED, ev_SHARED⟩ := exa_v g5
  have S_w_SHARED := Sta.start ev_SHARED (Or.inr ⟨(hw _ (List.mem_of_getElem? (i := 5) rfl)), (hw _ (List.mem_of_getElem? (i := 6) rfl))⟩)
  have E_w_SHARED := Exa.start ev_SHARED g5
  obtain ⟨g7, g8⟩ := and_e g6
  obtain ⟨w_EXCLUSIVE, ev_EXCLUSIVE⟩ := exa_v g7
  have S_w_EXCLUSIVE := Sta.start ev_EXCLUSIVE (Or.inr ⟨(hw _ (List.mem_of_getElem? (i := 5) rfl)), (hw _ (List.mem_of_getElem? (i := 8) rfl))⟩)
  have E_w_EXCLUSIVE := Exa.start ev_EXCLUSIVE g7
  obtain ⟨g9, g10⟩ := and_e g8
  have F_w_EXCLUSIVE_ordinal := fldStart ev_EXCLUSIVE g9
  have F_w_SHARED_ordinal := fldStart ev_SHARED g10
  have ne_w_SHARED_w_EXCLUSIVE : w_SHARED ≠ w_EXCLUSIVE := Fld.ne F_w_SHARED_ordinal F_w_EXCLUSIVE_ordinal (by decide)
  obtain ⟨n, o, h1, h2, h3, _, L, rfl, ⟨rfl, N⟩, hq⟩ := rm0 l s _ hw tables_1 i0 i1 w_SHARED w_EXCLUSIVE s.heap s.heap.size (Old.start s) S_w_SHARED S_w_EXCLUSIVE E_w_SHARED E_w_EXCLUSIVE ne_w_SHARED_w_EXCLUSIVE p e ha hc hk s m _ below hf ((Spec.applies_iff_loose hf).mp happ).1 ⟨rfl, State.Warmed39.refl s, rfl⟩ trivial
  refine ⟨n, _, h1, h2, h3, hpost _ _ _ _ _ _ ⟨Cond.after_iff.mpr rfl, Cond.after_iff.mpr (eq_i res_at (Term.int_eval (1)) rfl), trivial⟩ ⟨hq.1, hq.2.1, (hq.2.2.sift fun y hy => Or.inr (N y hy)).mono (by decide) (by decide)⟩⟩
theorem main_1_1 : Claimed_1_1 := comes_1 fun _ _ _ _ _ _ h hF => ⟨h.1, hF⟩
theorem main_1_2 : Claimed_1_2 := comes_1 fun _ _ _ _ _ _ h hF => ⟨h.2.1, hF⟩
end Jvm.Pilot.@@N@@
namespace Jvm.Pilot.@@N@@
open Jvm Jvm.ClassFile Sem Op Lib Jvm.Free Jvm.Stand Jvm.Pilot.@@N@@.Jvm.D
/-! MADE BY PROGRAM (witnessworld.py) out of the Statement's table words and the real class files: 10 classes; the members and pool entries that the words name. The judged class is class 1, her method 2. -/
namespace start1
open Jvm.ClassFile
def u (s : String) : CpInfo := .utf8 (stringToUtf16 s)
/-- a pool by its gaps: so many unusable entries, then the entry; so many at the end -/
def gap : Nat → List CpInfo → List CpInfo
  | 0, r => r
  | n + 1, r => .unusable :: gap n r
def poolList (es : List (Nat × CpInfo)) (last : Nat) : List CpInfo := es.foldr (fun e r => gap e.1 (e.2 :: r)) (gap last [])
def pool (es : List (Nat × CpInfo)) (last : Nat) : Array CpInfo := ⟨poolList es last⟩
def fileOf (pool : Array CpInfo) (this : Nat) (attrs : Array Attribute := #[]) (ms : Array MethodInfo := #[]) (fl : Nat := 33) (sup : Nat := 0) (ifs : Array Nat := #[]) (fds : Array FieldInfo := #[]) : ClassFile where
  minorVersion := 0
  majorVersion := 65
  constantPool := pool
  accessFlags := fl
  thisClass := this
  superClass := sup
  interfaces := ifs
  fields := fds
  methods := ms
  attributes := attrs
def plain (name : String) (sup : Option ClassId) : Class where
  name := name
  kind := .ordinary
  loader := none
  accessFlags := 33
  super := sup
  interfaces := #[]
  cf := none
  fields := #[]
  methods := #[]
  instanceTypes := #[]
  staticTypes := #[]
  resolved := #[]
  callSites := []
  init := .initialized
  statics := none
  mirror := none

def pool0 : Array CpInfo := pool [(5, u "<init>"), (0, u "()V"), (1, .class_ 10), (1, u "java/lang/Object")] 113

def k0m0 : Method := { name := "<init>", desc := "()V", sig := { parameters := [], returnType := none }, accessFlags := 1, code := none }
/-- java/lang/Object -/
def k0 : Class := { plain "java/lang/Object" none with
  accessFlags := 33
  interfaces := #[]
  cf := some (fileOf pool0 8 #[] #[{ accessFlags := 1, nameIndex := 5, descriptorIndex := 6, attributes := #[] }] 33 0 #[] #[])
  fields := #[]
  methods := #[k0m0]
  instanceTypes := #[]
  staticTypes := #[]
  resolved := Array.replicate 124 none
  statics := none }

def pool1 : Array CpInfo := pool [(2, .class_ 4), (1, u "java/lang/Object"), (0, u "<init>"), (0, u "()V"), (0, .fieldref 8 9), (0, .class_ 10), (0, .nameAndType 11 12), (0, u "com/example/frozen_view/frozenview/engine/LockMode"), (0, u "SHARED"), (0, u "Lcom/example/frozen_view/frozenview/engine/LockMode;"), (0, .fieldref 8 14), (0, .nameAndType 15 12), (0, u "EXCLUSIVE"), (0, .methodref 17 18), (0, .class_ 19), (0, .nameAndType 20 21), (0, u "com/example/frozen_view/frozenview/engine/LockModeConflictsWithPinLaw"), (0, u "pick"), (0, u "(I)Lcom/example/frozen_view/frozenview/engine/LockMode;"), (0, .methodref 8 23), (0, .nameAndType 24 25), (0, u "conflictsWith"), (0, u "(Lcom/example/frozen_view/frozenview/engine/LockMode;)Z"), (3, u "law"), (0, u "(II)Z")] 2

def k1m0 : Method := { name := "<init>", desc := "()V", sig := { parameters := [], returnType := none }, accessFlags := 2, code := none }
def k1c1 : Code := { maxStack := 2, maxLocals := 1, code := method_2_code, exceptionTable := #[], attributes := #[] }
def k1m1 : Method := { name := "pick", desc := "(I)Lcom/example/frozen_view/frozenview/engine/LockMode;", sig := { parameters := [.int], returnType := some (.object "com/example/frozen_view/frozenview/engine/LockMode") }, accessFlags := 10, code := some k1c1 }
def k1c2 : Code := { maxStack := 2, maxLocals := 7, code := code, exceptionTable := #[], attributes := #[] }
def k1m2 : Method := { name := "law", desc := "(II)Z", sig := { parameters := [.int, .int], returnType := some .boolean }, accessFlags := 9, code := some k1c2 }
/-- com/example/frozen_view/frozenview/engine/LockModeConflictsWithPinLaw -/
def k1 : Class := { plain "com/example/frozen_view/frozenview/engine/LockModeConflictsWithPinLaw" (some 0) with
  accessFlags := 49
  interfaces := #[]
  cf := some (fileOf pool1 17 #[] #[{ accessFlags := 2, nameIndex := 5, descriptorIndex := 6, attributes := #[] }, { accessFlags := 10, nameIndex := 20, descriptorIndex := 21, attributes := #[] }, { accessFlags := 9, nameIndex := 29, descriptorIndex := 30, attributes := #[] }] 49 2 #[] #[])
  fields := #[]
  methods := #[k1m0, k1m1, k1m2]
  instanceTypes := #[]
  staticTypes := #[]
  resolved := Array.replicate 33 none
  statics := none }

def pool2 : Array CpInfo := pool [(1, .class_ 2), (0, u "java/lang/constant/Constable"), (0, .class_ 4), (0, u "java/lang/Object")] 6

/-- java/lang/constant/Constable -/
def k2 : Class := { plain "java/lang/constant/Constable" (some 0) with
  accessFlags := 1537
  interfaces := #[]
  cf := some (fileOf pool2 1 #[] #[] 1537 3 #[] #[])
  fields := #[]
  methods := #[]
  instanceTypes := #[]
  staticTypes := #[]
  resolved := Array.replicate 11 none
  statics := none }

def pool3 : Array CpInfo := pool [(1, .class_ 2), (0, u "java/lang/Comparable"), (0, .class_ 4), (0, u "java/lang/Object")] 7

/-- java/lang/Comparable -/
def k3 : Class := { plain "java/lang/Comparable" (some 0) with
  accessFlags := 1537
  interfaces := #[]
  cf := some (fileOf pool3 1 #[] #[] 1537 3 #[] #[])
  fields := #[]
  methods := #[]
  instanceTypes := #[]
  staticTypes := #[]
  resolved := Array.replicate 12 none
  statics := none }

def pool4 : Array CpInfo := pool [(1, .class_ 2), (0, u "java/io/Serializable"), (0, .class_ 4), (0, u "java/lang/Object")] 2

/-- java/io/Serializable -/
def k4 : Class := { plain "java/io/Serializable" (some 0) with
  accessFlags := 1537
  interfaces := #[]
  cf := some (fileOf pool4 1 #[] #[] 1537 3 #[] #[])
  fields := #[]
  methods := #[]
  instanceTypes := #[]
  staticTypes := #[]
  resolved := Array.replicate 7 none
  statics := none }

def pool5 : Array CpInfo := pool [(2, .class_ 4), (1, u "java/lang/Enum"), (0, u "name"), (0, u "Ljava/lang/String;"), (2, u "ordinal"), (0, u "I"), (1, .class_ 14), (1, u "java/lang/Object"), (4, u "hash"), (86, .class_ 108), (1, u "java/lang/Enum$EnumDesc"), (2, .class_ 112), (0, u "java/lang/constant/Constable"), (0, .class_ 114), (0, u "java/lang/Comparable"), (0, .class_ 116), (0, u "java/io/Serializable")] 87

/-- java/lang/Enum -/
def k5 : Class := { plain "java/lang/Enum" (some 0) with
  accessFlags := 1057
  interfaces := #[2, 3, 4]
  cf := some (fileOf pool5 2 #[.nestMembers #[106]] #[] 1057 12 #[111, 113, 115] #[{ accessFlags := 18, nameIndex := 5, descriptorIndex := 6, attributes := #[] }, { accessFlags := 18, nameIndex := 9, descriptorIndex := 10, attributes := #[] }, { accessFlags := 2, nameIndex := 19, descriptorIndex := 10, attributes := #[] }])
  fields := #[{ name := "name", type := (.object "java/lang/String"), accessFlags := 18, slot := 0, constantValue := 0 }, { name := "ordinal", type := .int, accessFlags := 18, slot := 1, constantValue := 0 }, { name := "hash", type := .int, accessFlags := 2, slot := 2, constantValue := 0 }]
  methods := #[]
  instanceTypes := #[(.object "java/lang/String"), .int, .int]
  staticTypes := #[]
  resolved := Array.replicate 204 none
  statics := none }

def pool6 : Array CpInfo := pool [(1, .class_ 2), (0, u "com/example/frozen_view/frozenview/engine/LockMode"), (2, u "SHARED"), (0, u "Lcom/example/frozen_view/frozenview/engine/LockMode;"), (0, .fieldref 1 8), (0, .nameAndType 9 6), (0, u "EXCLUSIVE"), (2, u "$VALUES"), (0, u "[Lcom/example/frozen_view/frozenview/engine/LockMode;"), (6, .class_ 22), (1, u "java/lang/Enum"), (20, u "conflictsWith"), (0, u "(Lcom/example/frozen_view/frozenview/engine/LockMode;)Z")] 6

def k6c0 : Code := { maxStack := 2, maxLocals := 2, code := prog_10_method_4_code, exceptionTable := #[], attributes := #[] }
def k6m0 : Method := { name := "conflictsWith", desc := "(Lcom/example/frozen_view/frozenview/engine/LockMode;)Z", sig := { parameters := [(.object "com/example/frozen_view/frozenview/engine/LockMode")], returnType := some .boolean }, accessFlags := 0, code := some k6c0 }
/-- com/example/frozen_view/frozenview/engine/LockMode -/
def k6 : Class := { plain "com/example/frozen_view/frozenview/engine/LockMode" (some 5) with
  accessFlags := 16432
  interfaces := #[]
  cf := some (fileOf pool6 1 #[] #[{ accessFlags := 0, nameIndex := 43, descriptorIndex := 44, attributes := #[] }] 16432 20 #[] #[{ accessFlags := 16409, nameIndex := 5, descriptorIndex := 6, attributes := #[] }, { accessFlags := 16409, nameIndex := 9, descriptorIndex := 6, attributes := #[] }, { accessFlags := 4122, nameIndex := 12, descriptorIndex := 13, attributes := #[] }])
  fields := #[{ name := "SHARED", type := (.object "com/example/frozen_view/frozenview/engine/LockMode"), accessFlags := 16409, slot := 0, constantValue := 0 }, { name := "EXCLUSIVE", type := (.object "com/example/frozen_view/frozenview/engine/LockMode"), accessFlags := 16409, slot := 1, constantValue := 0 }, { name := "$VALUES", type := (.array (.object "com/example/frozen_view/frozenview/engine/LockMode")), accessFlags := 4122, slot := 2, constantValue := 0 }]
  methods := #[k6m0]
  instanceTypes := #[(.object "java/lang/String"), .int, .int]
  staticTypes := #[(.object "com/example/frozen_view/frozenview/engine/LockMode"), (.object "com/example/frozen_view/frozenview/engine/LockMode"), (.array (.object "com/example/frozen_view/frozenview/engine/LockMode"))]
  resolved := Array.replicate 51 none
  statics := some 0 }

def pool7 : Array CpInfo := pool [(1, u "java/lang/Cloneable"), (0, .class_ 1), (0, u "java/lang/Object"), (0, .class_ 3)] 3

/-- java/lang/Cloneable -/
def k7 : Class := { plain "java/lang/Cloneable" (some 0) with
  accessFlags := 1537
  interfaces := #[]
  cf := some (fileOf pool7 2 #[] #[] 1537 4 #[] #[])
  fields := #[]
  methods := #[]
  instanceTypes := #[]
  staticTypes := #[]
  resolved := Array.replicate 8 none
  statics := none }

/-- the primitive byte -/
def k8 : Class := { plain "byte" none with kind := .primitive 'B', accessFlags := 0x411 }
/-- [B -/
def k9 : Class := { plain "[B" (some 0) with kind := .array 8 .byte, interfaces := #[7, 4], accessFlags := 1041 }

def heap : Heap := #[{ cls := 6, slots := #[.ref 1, .ref 2, .null], vm := .statics 6 },
  { cls := 6, slots := #[.null, .int 0, .int 0], vm := .none },
  { cls := 6, slots := #[.null, .int 1, .int 0], vm := .none }]
def classes : Array Class := #[k0, k1, k2, k3, k4, k5, k6, k7, k8, k9]
def interned : List (Array UInt16 × Addr) := []
def slotsUsed : Nat := 9
def theMethod : MethodId := ⟨1, 2⟩
def args0 : Array Value := #[.int 5, .int 4]
def aboutOver (below : List Frame) : State where
  vm := { classes := classes, interned := interned.toArray }
  heap := heap
  slotsUsed := slotsUsed
  threads := #[{ frames := .invoking theMethod args0 :: below }]
def below0 : List Frame := [.native { method := ⟨0, 0⟩, args := #[] }]
def about1 : State := aboutOver below0
def p0 : Program := .bare "" "" ""
def e0 : Env := launch0.env 0 0 0
theorem w_frames : about1.frames = Frame.invoking theMethod args0 :: below0 := rfl
set_option maxRecDepth 65536 in
theorem w_args : argsFit about1.vm theMethod args0 = true := by decide +kernel
set_option maxRecDepth 65536 in
theorem w_heap : heapFits about1 = true := by decide +kernel
set_option maxRecDepth 65536 in
theorem w_runnable : about1.curStatus? = some .runnable := by decide +kernel
set_option maxRecDepth 65536 in
theorem w_alone : about1.alone = true := by decide +kernel
set_option maxRecDepth 65536 in
theorem w_named : about1.methodNamed? x = some theMethod := by decide +kernel
set_option maxRecDepth 65536 in
theorem w_hears : about1.hears theMethod below0 = true := by decide +kernel
set_option maxRecDepth 65536 in
theorem w_ripe : about1.ripe theMethod args0 below0 = true := by decide +kernel
theorem w_running : about1.status = .running := rfl
set_option maxRecDepth 65536 in
theorem w_room : about1.hasRoom e0.platform room_1 = true :=
  launch0.hasRoom_least _ room_1 (by decide +kernel) (by decide +kernel) (by decide +kernel) (by decide +kernel) (by decide +kernel) (by decide +kernel)
theorem allAtoms_all (ts : List Jvm.Cond) (a : Array Jvm.Value) (st : Jvm.State) : (allAtoms ts).before a st = ts.all (fun c => c.before a st) := by
  induction ts with
  | nil => rfl
  | cons c t ih =>
    show (Jvm.Cond.and c (allAtoms t)).before a st = _
    rw [Jvm.Cond.before_and, ih, List.all_cons]
def words1 : List Jvm.Cond := Jvm.Cond.code x code maxLocals ret :: tables_1
/-- a 'code' word, met by the world's own term for the bytes: nothing is compared byte by byte -/
theorem code_word {y : MethodName} {bytes : ByteArray} {mx : Nat} {rt : Option FieldType} {a : Array Value} {s : State} {m : MethodId} {meth : Method} {c : Code} (h1 : s.methodNamed? y = some m) (h2 : s.vm.method? m = some meth) (h3 : meth.code = some c) (h4 : c.code = bytes)
    (h5 : (c.maxLocals == mx && c.exceptionTable.isEmpty && decide (c.maxStack ≤ mostOperands) && decide (meth.sig.returnType = rt) && !meth.locks && decide (parseMethodDescriptor y.desc = some meth.sig)) = true) : (Jvm.Cond.code y bytes mx rt).before a s = true := by
  simp only [Bool.and_eq_true, beq_iff_eq, Bool.not_eq_true', decide_eq_true_eq] at h5
  obtain ⟨⟨⟨⟨⟨g1, g2⟩, g3⟩, g4⟩, g5⟩, g6⟩ := h5
  simp [Cond.before, Cond.holds, Cond.value, h1, h2, h3, h4, g1, g2, g3, g4, g5, g6]
def isCode : Jvm.Cond → Bool
  | .code _ _ _ _ => true
  | _ => false
theorem all_split {L : List Jvm.Cond} {P : Jvm.Cond → Bool} (h1 : L.all (fun c => isCode c || P c) = true) (h2 : ∀ c ∈ L.filter isCode, P c = true) : L.all P = true := by
  refine List.all_eq_true.mpr fun c hc => ?_
  have h := List.all_eq_true.mp h1 c hc
  rcases Bool.eq_false_or_eq_true (isCode c) with hi | hi
  · exact h2 c (List.mem_filter.mpr ⟨hc, hi⟩)
  · simpa [hi] using h
set_option maxRecDepth 65536 in
theorem w_c0 : (Jvm.Cond.code x code maxLocals ret).before args0 about1 = true := code_word (m := ⟨1, 2⟩) (meth := k1m2) (c := k1c2) (by decide +kernel) rfl rfl rfl (by decide +kernel)
set_option maxRecDepth 65536 in
theorem w_c1 : (Jvm.Cond.code ({ cls := "com/example/frozen_view/frozenview/engine/LockModeConflictsWithPinLaw", name := "pick", desc := "(I)Lcom/example/frozen_view/frozenview/engine/LockMode;" } : Jvm.MethodName) method_2_code (1 : Nat) (Option.some (Jvm.ClassFile.FieldType.object "com/example/frozen_view/frozenview/engine/LockMode"))).before args0 about1 = true := code_word (m := ⟨1, 1⟩) (meth := k1m1) (c := k1c1) (by decide +kernel) rfl rfl rfl (by decide +kernel)
set_option maxRecDepth 65536 in
theorem w_c2 : (Jvm.Cond.code ({ cls := "com/example/frozen_view/frozenview/engine/LockMode", name := "conflictsWith", desc := "(Lcom/example/frozen_view/frozenview/engine/LockMode;)Z" } : Jvm.MethodName) prog_10_method_4_code (2 : Nat) (Option.some Jvm.ClassFile.FieldType.boolean)).before args0 about1 = true := code_word (m := ⟨6, 0⟩) (meth := k6m0) (c := k6c0) (by decide +kernel) rfl rfl rfl (by decide +kernel)
def codes1 : List Jvm.Cond := [Jvm.Cond.code x code maxLocals ret, Jvm.Cond.code ({ cls := "com/example/frozen_view/frozenview/engine/LockModeConflictsWithPinLaw", name := "pick", desc := "(I)Lcom/example/frozen_view/frozenview/engine/LockMode;" } : Jvm.MethodName) method_2_code (1 : Nat) (Option.some (Jvm.ClassFile.FieldType.object "com/example/frozen_view/frozenview/engine/LockMode")), Jvm.Cond.code ({ cls := "com/example/frozen_view/frozenview/engine/LockMode", name := "conflictsWith", desc := "(Lcom/example/frozen_view/frozenview/engine/LockMode;)Z" } : Jvm.MethodName) prog_10_method_4_code (2 : Nat) (Option.some Jvm.ClassFile.FieldType.boolean)]
set_option maxRecDepth 65536 in
theorem codes_eq : words1.filter isCode = codes1 := rfl
theorem w_codes : ∀ c ∈ words1.filter isCode, c.before args0 about1 = true := by
  rw [codes_eq]
  intro c hc
  simp only [codes1, List.mem_cons, List.not_mem_nil, or_false] at hc
  rcases hc with rfl | rfl | rfl
  · exact w_c0
  · exact w_c1
  · exact w_c2
set_option maxRecDepth 65536 in
theorem w_t1 : words1.all (fun c => isCode c || c.before args0 about1) = true := by decide +kernel
theorem w_tables : (allAtoms (Jvm.Cond.code x code maxLocals ret :: tables_1)).before args0 about1 = true := by
  rw [allAtoms_all]
  show words1.all (fun c => c.before args0 about1) = true
  refine all_split ?_ w_codes
  rw [w_t1]
set_option maxRecDepth 65536 in
theorem w_case : (Jvm.Cond.and given_1 narrow_1).before args0 about1 = true := by decide +kernel
theorem w_applies : (headSpec (Jvm.Cond.code x code maxLocals ret :: tables_1) room_1).applies x e0.platform about1 = true :=
  (Spec.applies_iff w_frames).mpr ⟨w_running, w_runnable, w_alone, w_named, w_hears, w_ripe, w_room, w_tables⟩
theorem atStart : AtStart classFile x code maxLocals ret World_1 tables_1 room_1 Calls_1 rest_1 Pre_1 launch0 p0 e0 about1 theMethod args0 below0 :=
  ⟨lists_1, trivial, launch0.admits_env _ _ _, launch0.least_env, fairChoices_fair.cas, fairChoices_fair.clock, w_frames, w_args, w_heap, w_applies, trivial, trivial, w_case⟩
end start1
theorem witness_1 : WitnessClaimed_1 := ⟨start1.p0, start1.e0, start1.about1, start1.theMethod, start1.args0, start1.below0, start1.atStart⟩
end Jvm.Pilot.@@N@@
