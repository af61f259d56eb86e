import JvmDerived
import JvmDerived.Pilot.@@N@@Statement
import JvmDerived.Pilot.@@N@@Code
set_option linter.unusedVariables false
set_option linter.unusedSimpArgs false
namespace Jvm.Pilot.@@N@@
open Jvm Jvm.ClassFile Sem Op Lib Jvm.Free Jvm.Stand Jvm.LawKit Jvm.RoadKit Bundle Jvm.Pilot.@@N@@.Jvm.D
section Own
variable {p : Program} {l : Launch} {e : Env} {R : Room} {s : State} {m : MethodId} {args : Array Value} {below : List Frame} {meth : Method} {c : Code} {T : State} {locs : List Loc} {cells slots : Nat} {K : Outcome → State → Prop} {Z : State} {a0 : Array Value}
/-- from S the run comes to an end of which K is true -/
def Go (p : Program) (e : Env) (below : List Frame) (K : Outcome → State → Prop) (S : State) : Prop := ∃ s₂ o, Steps p.tables e below S s₂ ∧ s₂.status = .running ∧ Ended s₂ below o ∧ K o s₂
theorem Go.st {S S' : State} (h : ∀ t, Steps p.tables e below S' t → Steps p.tables e below S t) (k : Go p e below K S') : Go p e below K S := by
  obtain ⟨a, o, h1, r⟩ := k; exact ⟨a, o, h _ h1, r⟩
theorem Go.tr {S S' : State} (h : Steps p.tables e below S S') (k : Go p e below K S') : Go p e below K S := by
  obtain ⟨a, o, h1, r⟩ := k; exact ⟨a, o, h.trans h1, r⟩
def EndQ (s : State) (Q : Option Value → Heap → List Loc → Prop) (ce sl : Nat) (o : Outcome) (U : State) : Prop := ∃ v L, o = .returned v ∧ Q v U.heap L ∧ FrameEnd s o U L ce sl
theorem goRet {v : Option Value} {ce sl : Nat} {Q : Option Value → Heap → List Loc → Prop} {S : State} {h : Heap} (X : Stand p l e R s m args below meth c T locs cells slots) (hlk : meth.locks = false) (hv : meth.sig.returnType = none → v = none) (eT : T.heap = h)
    (step : ∀ fs, (∀ (f : JFrame) (acts : List Action), f.method = m → f.locked = none → f.entered = [] → (doReturn e (T.setTop f) acts v).1 = T.setFrames fs) → Steps p.tables e below S (T.setFrames fs))
    (hc : cells ≤ ce) (hs : slots ≤ sl) (hQ : Q v h locs) : Go p e below (EndQ s Q ce sl) S := by
  obtain ⟨fs, hr, hrun, hended, hW, hsame⟩ := X.leave (v := v) hv hlk
  subst eT
  exact ⟨_, _, step fs hr, hrun, hended, _, _, rfl, hQ, ⟨_, rfl⟩, hW, hsame.mono hc hs⟩
/-- ireturn of a boolean, byte, char, short -/
theorem goRetN {ce sl : Nat} {Q : Option Value → Heap → List Loc → Prop} {pc : Nat} {Ls : Array Slot} {z w : Int32} {rest : List Value} {t : FieldType} {h : Heap} (X : Stand p l e R s m args below meth c T locs cells slots) (hx : p.tables.exec = Jvm.exec) (hlk : meth.locks = false) (hret : meth.sig.returnType = some t) (ht : t = .boolean ∨ t = .byte ∨ t = .char ∨ t = .short) (hw : nar t z = w) (eT : T.heap = h)
    (hd : decode c.code pc = .ok (.ireturn, 1)) (hc : cells ≤ ce) (hs : slots ≤ sl) (hQ : Q (some (.int w)) h locs) : Go p e below (EndQ s Q ce sl) (T.setTop (mkF m pc Ls (.int z :: rest))) := by
  subst hw
  exact goRet X hlk (fun h => by rw [hret] at h; cases h) eT (fun fs hr => retN X hx hret ht hd hr) hc hs hQ
theorem goRetI {ce sl : Nat} {Q : Option Value → Heap → List Loc → Prop} {pc : Nat} {Ls : Array Slot} {z : Int32} {rest : List Value} {h : Heap} (X : Stand p l e R s m args below meth c T locs cells slots) (hx : p.tables.exec = Jvm.exec) (hlk : meth.locks = false) (hret : meth.sig.returnType = some .int) (eT : T.heap = h)
    (hd : decode c.code pc = .ok (.ireturn, 1)) (hc : cells ≤ ce) (hs : slots ≤ sl) (hQ : Q (some (.int z)) h locs) : Go p e below (EndQ s Q ce sl) (T.setTop (mkF m pc Ls (.int z :: rest))) :=
  goRet X hlk (fun h => by rw [hret] at h; cases h) eT (fun fs hr => retOut X hx hret rfl (Or.inl ⟨rfl, Or.inl rfl, z, rfl⟩) hd hr) hc hs hQ
theorem goRetJ {ce sl : Nat} {Q : Option Value → Heap → List Loc → Prop} {pc : Nat} {Ls : Array Slot} {z : Int64} {rest : List Value} {h : Heap} (X : Stand p l e R s m args below meth c T locs cells slots) (hx : p.tables.exec = Jvm.exec) (hlk : meth.locks = false) (hret : meth.sig.returnType = some .long) (eT : T.heap = h)
    (hd : decode c.code pc = .ok (.lreturn, 1)) (hc : cells ≤ ce) (hs : slots ≤ sl) (hQ : Q (some (.long z)) h locs) : Go p e below (EndQ s Q ce sl) (T.setTop (mkF m pc Ls (.long z :: rest))) :=
  goRet X hlk (fun h => by rw [hret] at h; cases h) eT (fun fs hr => retOut X hx hret rfl (Or.inr (Or.inl ⟨rfl, rfl, z, rfl⟩)) hd hr) hc hs hQ
theorem goRetA {ce sl : Nat} {Q : Option Value → Heap → List Loc → Prop} {pc : Nat} {Ls : Array Slot} {w : Value} {rest : List Value} {t : FieldType} {h : Heap} (X : Stand p l e R s m args below meth c T locs cells slots) (hx : p.tables.exec = Jvm.exec) (hlk : meth.locks = false) (hret : meth.sig.returnType = some t) (ht : t.isReference = true) (hw : w.isRef = true) (hn : narrow t w = w) (eT : T.heap = h)
    (hd : decode c.code pc = .ok (.areturn, 1)) (hc : cells ≤ ce) (hs : slots ≤ sl) (hQ : Q (some w) h locs) : Go p e below (EndQ s Q ce sl) (T.setTop (mkF m pc Ls (w :: rest))) :=
  goRet X hlk (fun h => by rw [hret] at h; cases h) eT (fun fs hr => retOut X hx hret hn (Or.inr (Or.inr (Or.inr (Or.inr ⟨rfl, ht, hw⟩)))) hd hr) hc hs hQ
theorem goRetV {ce sl : Nat} {Q : Option Value → Heap → List Loc → Prop} {pc : Nat} {Ls : Array Slot} {h : Heap} (X : Stand p l e R s m args below meth c T locs cells slots) (hx : p.tables.exec = Jvm.exec) (hlk : meth.locks = false) (hret : meth.sig.returnType = none) (eT : T.heap = h)
    (hd : decode c.code pc = .ok (.return_, 1)) (hc : cells ≤ ce) (hs : slots ≤ sl) (hQ : Q none h locs) : Go p e below (EndQ s Q ce sl) (T.setTop (mkF m pc Ls [])) :=
  goRet X hlk (fun _ => rfl) eT (fun fs hr => X.returnOut hx hret hd hr) hc hs hQ
/-- a method's contract, in the form that a caller takes -/
abbrev Ctr (l : Launch) (y : MethodName) (bytes : ByteArray) (maxL : Nat) (ret : Option FieldType) (ws : List Jvm.Cond) (rm : Room) (as : Array Value) (Z : State) (h0 : Heap) (Q : Option Value → Heap → List Loc → Prop) : Prop :=
  MetFree l y (head1 (Jvm.Cond.code y bytes maxL ret :: ws) rm) (fun a U => a = as ∧ Z.Warmed39 U.vm ∧ U.heap = h0) (fun _ _ _ _ _ => True) (fun _ U o U' => ∃ v L, o = .returned v ∧ Q v U'.heap L ∧ FrameEnd U o U' L rm.cells rm.slots)
theorem Ctr.of {y : MethodName} {bytes : ByteArray} {maxL : Nat} {ret : Option FieldType} {ws : List Jvm.Cond} {rm : Room} {as : Array Value} {h0 : Heap} {Q : Option Value → Heap → List Loc → Prop} (hpl : plainFor y = true)
    (body : ∀ (p : Program) (e : Env) (s : State) (m : MethodId) (below : List Frame) (meth : Method) (c : Code) (s₁ : State), p.tables.exec = Jvm.exec → Z.Warmed39 s.vm → c.code = bytes → c.maxLocals = maxL → s.vm.findClass y.cls = some m.cls → meth.name = y.name → meth.sig.returnType = ret → meth.locks = false →
      Stand p l e rm s m as below meth c s₁ [] 0 0 → s₁.heap = h0 → Go p e below (EndQ s Q rm.cells rm.slots) (s₁.setTop (entryFrame m as maxL))) :
    Ctr l y bytes maxL ret ws rm as Z h0 Q := by
  refine MetFree.of_bodySF hpl hisR ?_
  intro p e s m args below meth c s₁ Bd hml hP _
  obtain ⟨rfl, hZ, hh⟩ := hP
  exact body p e s m below meth c s₁ Bd.exec hZ Bd.bytes hml (findClass_of_methodNamed Bd.named) (name_of_methodNamed Bd.named Bd.method).1 Bd.returns Bd.notSynchronized (Stand.of_body Bd) (by rw [← hh, Bd.state]; rfl)
theorem goCallS (X : Stand p l e R s m args below meth c T locs cells slots) (hx : p.tables.exec = Jvm.exec) (hZ : Z.Warmed39 s.vm) {own : String} {index : Nat} {y : MethodName} {bytes : ByteArray} {maxL : Nat} {ret : Option FieldType} (hown : s.vm.findClass own = some m.cls)
    (w1 : (Jvm.Cond.methodLink own index y).before a0 Z = true) (w2 : (Jvm.Cond.static y).before a0 Z = true) (w3 : (Jvm.Cond.initialized y.cls).before a0 Z = true) (w4 : (Jvm.Cond.code y bytes maxL ret).before a0 Z = true) (hy : y.cls ≠ "java/lang/invoke/MethodHandle" ∧ y.cls ≠ "java/lang/invoke/VarHandle")
    {h : Heap} {rm : Room} {argsL rest : List Value} {Q : Option Value → Heap → List Loc → Prop} (eT : T.heap = h) (hC : Ctr l y bytes maxL ret [] rm argsL.toArray Z h Q) (W : Nat) (hf : rm.frames + 1 ≤ R.frames) (hl : W + (maxL + 11) + rm.locals ≤ R.locals) (hcl : cells + rm.cells ≤ R.cells) (hsl : slots + rm.slots ≤ R.slots)
    (g : JFrame) (hg : g.method = m) (hsize : g.locals.size = c.maxLocals) (hlen : ∀ sig, parseMethodDescriptor y.desc = some sig → argsL.length = sig.parameters.length) (hst : g.stack = argsL.reverse ++ rest) (hd : decode c.code g.pc = .ok (.invokestatic index, 3))
    (hW : 2 * g.monitorRoom + (rest.map fun v => v.category).sum ≤ W)
    (next : ∀ (v : Option Value) (T' : State) (L : List Loc), Stand p l e R s m args below meth c T' (locs ++ L) (cells + rm.cells) (slots + rm.slots) → Q v T'.heap L → Go p e below K (T'.setTop { g with pc := g.pc + 3, stack := v.toList ++ rest })) :
    Go p e below K (T.setTop g) := by
  subst eT
  obtain ⟨v, _, ⟨T', L', k', n'⟩, -, X', ⟨L, hQ, l1, y1, z1⟩, stp⟩ := Jvm.LawKit.callS X hx hown (mvT hZ w1) (mvT hZ w2) (mvT hZ w3) (mvT hZ w4) hy (backOf (W := W) hC hZ w4 w3 hf hl) (g := g) hg hsize hlen hst hW hd (fun _ _ => ⟨rfl, rfl, hcl, hsl⟩)
  dsimp only [Pt.U, Pt.locs, Pt.cells, Pt.slots] at X' l1 y1 z1 stp hQ
  subst l1 y1 z1
  exact Go.st stp (next v T' L X' hQ)
theorem goInit (X : Stand p l e R s m args below meth c T locs cells slots) (hx : p.tables.exec = Jvm.exec) (hZ : Z.Warmed39 s.vm) {own : String} {index : Nat} {y : MethodName} {bytes : ByteArray} {maxL : Nat} (hy1 : y.name = "<init>") (hown : s.vm.findClass own = some m.cls)
    (w1 : (Jvm.Cond.methodLink own index y).before a0 Z = true) (w2 : (Jvm.Cond.instanceMethod y).before a0 Z = true) (w3 : (Jvm.Cond.initialized y.cls).before a0 Z = true) (w4 : (Jvm.Cond.code y bytes maxL none).before a0 Z = true) (hy : y.cls ≠ "java/lang/invoke/MethodHandle" ∧ y.cls ≠ "java/lang/invoke/VarHandle")
    {h : Heap} {rm : Room} {a : Addr} {argsL rest : List Value} {Q : Option Value → Heap → List Loc → Prop} (eT : T.heap = h) (hC : Ctr l y bytes maxL none [] rm (.ref a :: argsL).toArray Z h Q) (W : Nat) (hf : rm.frames + 1 ≤ R.frames) (hl : W + (maxL + 11) + rm.locals ≤ R.locals) (hcl : cells + rm.cells ≤ R.cells) (hsl : slots + rm.slots ≤ R.slots)
    (g : JFrame) (hg : g.method = m) (hsize : g.locals.size = c.maxLocals) (hlen : ∀ sig, parseMethodDescriptor y.desc = some sig → argsL.length = sig.parameters.length) (hst : g.stack = argsL.reverse ++ .ref a :: rest) (hd : decode c.code g.pc = .ok (.invokespecial index, 3))
    (hW : 2 * g.monitorRoom + (rest.map fun v => v.category).sum ≤ W)
    (next : ∀ (v : Option Value) (T' : State) (L : List Loc), Stand p l e R s m args below meth c T' (locs ++ L) (cells + rm.cells) (slots + rm.slots) → Q v T'.heap L → Go p e below K (T'.setTop { g with pc := g.pc + 3, stack := v.toList ++ rest })) :
    Go p e below K (T.setTop g) := by
  subst eT
  obtain ⟨v, _, ⟨T', L', k', n'⟩, -, X', ⟨L, hQ, l1, y1, z1⟩, stp⟩ := X.specialBack hx hy1 hown (mvT hZ w1) (mvT hZ w2) (mvT hZ w4) hy (backOf (W := W) hC hZ w4 w3 hf hl) (g := g) hg hsize (Steps.refl _) hlen hst hW hd (fun _ _ => ⟨rfl, rfl, hcl, hsl⟩)
  dsimp only [Pt.U, Pt.locs, Pt.cells, Pt.slots] at X' l1 y1 z1 stp hQ
  subst l1 y1 z1
  exact Go.tr stp (next v T' L X' hQ)
theorem goVirt (X : Stand p l e R s m args below meth c T locs cells slots) (hx : p.tables.exec = Jvm.exec) (hZ : Z.Warmed39 s.vm) {own C : String} {index : Nat} {y z : MethodName} {bytes : ByteArray} {maxL : Nat} {ret : Option FieldType} (hown : s.vm.findClass own = some m.cls)
    (w1 : (Jvm.Cond.methodLink own index y).before a0 Z = true) (w2 : (Jvm.Cond.declares y).before a0 Z = true) (hnf : NotFace s y) (w5 : (Jvm.Cond.selects C y z).before a0 Z = true) (w6 : (Jvm.Cond.instanceMethod z).before a0 Z = true) (w3 : (Jvm.Cond.initialized z.cls).before a0 Z = true) (w4 : (Jvm.Cond.code z bytes maxL ret).before a0 Z = true) (hy : y.cls ≠ "java/lang/invoke/MethodHandle" ∧ y.cls ≠ "java/lang/invoke/VarHandle")
    {h : Heap} {rm : Room} {a : Addr} {argsL rest : List Value} {Q : Option Value → Heap → List Loc → Prop} (eT : T.heap = h) (E : Exa Z h a C) (hC : Ctr l z bytes maxL ret [] rm (.ref a :: argsL).toArray Z h Q) (W : Nat) (hf : rm.frames + 1 ≤ R.frames) (hl : W + (maxL + 11) + rm.locals ≤ R.locals) (hcl : cells + rm.cells ≤ R.cells) (hsl : slots + rm.slots ≤ R.slots)
    (g : JFrame) (hg : g.method = m) (hsize : g.locals.size = c.maxLocals) (hlen : ∀ sig, parseMethodDescriptor y.desc = some sig → argsL.length = sig.parameters.length) (hst : g.stack = argsL.reverse ++ .ref a :: rest) (hd : decode c.code g.pc = .ok (.invokevirtual index, 3))
    (hW : 2 * g.monitorRoom + (rest.map fun v => v.category).sum ≤ W)
    (next : ∀ (v : Option Value) (T' : State) (L : List Loc), Stand p l e R s m args below meth c T' (locs ++ L) (cells + rm.cells) (slots + rm.slots) → Q v T'.heap L → Go p e below K (T'.setTop { g with pc := g.pc + 3, stack := v.toList ++ rest })) :
    Go p e below K (T.setTop g) := by
  subst eT
  obtain ⟨cq, kq, qa, qb, qc⟩ := isOf (T := T) hZ rfl E
  obtain ⟨v, _, ⟨T', L', k', n'⟩, -, X', ⟨L, hQ, l1, y1, z1⟩, stp⟩ := X.virtualBack hx hown (mvT hZ w1) (mvT hZ w2) hnf (mvT hZ w5) (mvT hZ w6) hy (backOf (W := W) hC hZ w4 w3 hf hl) qa qc (g := g) hg hsize (Steps.refl _) hlen hst hW hd (fun _ _ => ⟨rfl, rfl, hcl, hsl⟩)
  dsimp only [Pt.U, Pt.locs, Pt.cells, Pt.slots] at X' l1 y1 z1 stp hQ
  subst l1 y1 z1
  exact Go.tr stp (next v T' L X' hQ)
theorem oldGe {h : Heap} {n0 : Nat} {b : Addr} (O : Old Z n0 h) (g : b = h.size) : n0 ≤ b := by rw [g, ← O.1]; exact O.2.1
theorem oldSta {h : Heap} {n0 : Nat} {C n d : String} {v : Value} (O : Old Z n0 h) (S : Sta Z Z.heap C n d v) : Sta Z h C n d v := S.ext O.2
theorem oldExa {h : Heap} {n0 : Nat} {C : String} {a : Addr} (O : Old Z n0 h) (S : Exa Z Z.heap a C) : Exa Z h a C := S.ext O.2
theorem oldFld {h : Heap} {n0 : Nat} {a : Addr} {C n d : String} {v : Value} (O : Old Z n0 h) (S : Fld Z Z.heap a C n d v) : Fld Z h a C n d v := S.ext O.2
end Own
theorem fldStart {args : Array Value} {Z : State} {t : Term} {a : Addr} {C n d : String} {v : Int32} (ev : t.eval args Z none [] Z = some (.ref a)) (h : (Jvm.Cond.eq (.field t C n d) (.int v)).value args Z none Z [] = some true) : Fld Z Z.heap a C n d (.int v) := by
  cases hf : Z.fieldOf? a C n d with
  | none => simp [Cond.value, Term.eval, ev, hf] at h
  | some x =>
    cases x <;> simp [Cond.value, Term.eval, ev, hf] at h
    exact Fld.start (by rw [hf, h])
theorem staInt {args : Array Value} {Z : State} {C n d : String} {v : Int32} (h : (Jvm.Cond.eq (.static C n d) (.int v)).value args Z none Z [] = some true) : (Term.static C n d).eval args Z none [] Z = some (.int v) := by
  obtain ⟨x, y, h1, h2, k1, k2⟩ := cmp_v (Or.inl h)
  cases (Term.int_eval v (args := args) (first := Z) (o := none) (idx := []) (s := Z)).symm.trans h2
  obtain ⟨z, rfl⟩ := k2
  rw [h1]
  simp [Cond.value, h1, Term.int_eval] at h
  rw [h]
theorem narZ {z : Int32} (h : z = 0 ∨ z = 1) : nar .boolean z = z := by rcases h with rfl | rfl <;> decide
theorem goJoin {p : Program} {e : Env} {below : List Frame} {K : Outcome → State → Prop} {S : State} {α : Type} {P : α → Prop} {F : α → State} (h1 : ∀ z, P z → Go p e below K (F z)) (h2 : (∀ z, P z → Go p e below K (F z)) → Go p e below K S) : Go p e below K S := h2 h1
theorem own_bit {z : Int32} {P : Prop} [Decidable P] (h : z = (if P then (1 : Int32) else 0)) : z = 0 ∨ z = 1 := by rw [h]; by_cases q : P <;> simp [q]
theorem lenStart {args : Array Value} {Z : State} {t : Term} {a : Addr} {cl : Cell} {n : Int32} (ev : t.eval args Z none [] Z = some (.ref a)) (ha : Z.arrayAt? a = some cl) (h : (Jvm.Cond.eq (.length t) (.int n)).value args Z none Z [] = some true) : cl.slots.size < 2 ^ 31 ∧ cl.slots.size.toInt32 = n := by
  have h1 := eqv_i (Term.int_eval n) h
  by_cases q : cl.slots.size < 2 ^ 31
  · rw [len_f ev ha q] at h1
    exact ⟨q, by simpa using h1⟩
  · simp [Term.eval, ev, ha, q] at h1
theorem nsRoot {Z : State} {a0 : Array Value} {O K : String} {n : Nat} (w : (Jvm.Cond.noSuperclass O).before a0 Z = true) (wi : (Jvm.Cond.instantiable K n).before a0 Z = true) (hn : O ≠ K) : NS Z O K := by
  obtain ⟨c, k, h1, h2, h3, -, -⟩ := Cond.noSuperclass_spec w
  obtain ⟨t, k', g1, -⟩ := Cond.instantiable_spec wi
  have ne := ids_ne h1 g1 hn
  refine ⟨c, t, h1, g1, fun fuel => ?_⟩
  cases fuel with
  | zero => rfl
  | succ f => simp [Vm.isSubclassAux, ne, h2, h3]
theorem nsNo {Z : State} {a0 : Array Value} {C S K : String} {n : Nat} (w : (Jvm.Cond.superclass C S).before a0 Z = true) (wi : (Jvm.Cond.instantiable K n).before a0 Z = true) (nn : NS Z C K) (hn : C ≠ K) : ∃ c t, Z.vm.findClass C = some c ∧ Z.vm.findClass K = some t ∧ Z.vm.assignable c t = false := by
  obtain ⟨c, t, h0, g0, n3⟩ := nn
  obtain ⟨p, k, kp, h1, h2, h3, h4, h5, -, h7⟩ := Cond.superclass_spec h0 w
  obtain ⟨t', k', g1, g2, g5, g6, -⟩ := Cond.instantiable_spec wi
  cases g0.symm.trans g1
  have g7 : k'.isInterface = false := by
    cases hq : k'.isInterface with
    | false => rfl
    | true => rw [hq] at g6; simp at g6
  have ne := ids_ne h0 g0 hn
  refine ⟨c, t, h0, g0, ?_⟩
  show Z.vm.assignableAux (255 + 1) c t = false
  simp [Vm.assignableAux, ne, h2, g2, h5, g5, g7, Vm.isSubclass, n3]
theorem subAt {args : Array Value} {Z : State} {a b : Term} {idx : List Nat} {x y : Int32} (ha : a.eval args Z none idx Z = some (.int x)) (hb : b.eval args Z none idx Z = some (.int y)) : (Term.sub a b).eval args Z none idx Z = some (.int (x - y)) := by simp [Term.eval, ha, hb]
theorem elemStart {args : Array Value} {Z : State} {t u : Term} {a w : Addr} {cl : Cell} {ty : FieldType} {j : Int32} (ev : t.eval args Z none [] Z = some (.ref a)) (A : Arr Z Z.heap a cl ty) (evu : u.eval args Z none [] Z = some (.ref w)) (h : (Jvm.Cond.eq (.elem t (.int j)) u).value args Z none Z [] = some true) : cl.slots[j.toNatClampNeg]? = some (.ref w) := by
  obtain ⟨x, y, h1, h2, k1, k2⟩ := cmp_v (Or.inl h)
  cases evu.symm.trans h2
  have hx : x.isRef = true := k2.2
  have e : x = .ref w := gotT (eq_R h1 h2 hx rfl) h
  rw [← e]
  exact (elem_in h1 ev (Term.int_eval j) A.1).2
theorem own_ite {P Q : Prop} [Decidable P] [Decidable Q] (h : P ↔ Q) : (if P then (1 : Int32) else 0) = (if Q then (1 : Int32) else 0) := by
  by_cases p : P
  · rw [if_pos p, if_pos (h.mp p)]
  · rw [if_neg p, if_neg (fun q => p (h.mpr q))]
theorem ownBxI {Z : State} {wc : Addr} {cl : Cell} {K : String} {q : Int32} (BX : Bxs Z wc cl K "I" 256 (fun j => .int (j - 128))) (h1 : ¬ q < (-128 : Int32)) (h2 : ¬ (127 : Int32) < q) :
    ¬ (q + (128 : Int32) < 0 ∨ cl.slots.size ≤ (q + (128 : Int32)).toNatClampNeg) ∧ ∃ r, cl.slots[(q + (128 : Int32)).toNatClampNeg]? = some (.ref r) ∧ Exa Z Z.heap r K ∧ Fld Z Z.heap r K "value" "I" (.int q) := by
  rw [Int32.lt_iff_toInt_lt, show (-128 : Int32).toInt = -128 from rfl] at h1
  rw [Int32.lt_iff_toInt_lt, show (127 : Int32).toInt = 127 from rfl] at h2
  have e1 : (q + (128 : Int32)).toInt = q.toInt + 128 := by
    rw [Int32.toInt_add, show (128 : Int32).toInt = 128 from rfl]; exact Int.bmod_eq_of_le (by omega) (by omega)
  have hin : ¬ (q + (128 : Int32) < 0 ∨ cl.slots.size ≤ (q + (128 : Int32)).toNatClampNeg) := by
    refine inb_of BX.2.1 ⟨?_, ?_⟩
    · rw [Int32.lt_iff_toInt_lt, e1, show (0 : Int32).toInt = 0 from rfl]; omega
    · rw [Int32.lt_iff_toInt_lt, e1, show (256 : Int32).toInt = 256 from rfl]; omega
  obtain ⟨r, r1, r2, r3⟩ := BX.2.2.2 _ hin
  refine ⟨hin, r, r1, r2, ?_⟩
  have e2 : q + 128 - 128 = q := by
    apply Int32.toInt_inj.mp
    rw [Int32.toInt_sub, e1, show (128 : Int32).toInt = 128 from rfl]
    rw [Int.bmod_eq_of_le (by omega) (by omega)]; omega
  simpa only [e2] using r3
def own_code (a b c : Int32) : Int32 := (if a = 0 then 0 else 4) + (if b = 0 then 0 else 2) + (if c = 0 then 0 else 1)
theorem own_code_inj {a b c d e f : Int32} (h1 : a = 0 ∨ a = 1) (h2 : b = 0 ∨ b = 1) (h3 : c = 0 ∨ c = 1) (h4 : d = 0 ∨ d = 1) (h5 : e = 0 ∨ e = 1) (h6 : f = 0 ∨ f = 1) : (own_code a b c = own_code d e f) ↔ (a = d ∧ b = e ∧ c = f) := by
  rcases h1 with rfl | rfl <;> rcases h2 with rfl | rfl <;> rcases h3 with rfl | rfl <;> rcases h4 with rfl | rfl <;> rcases h5 with rfl | rfl <;> rcases h6 with rfl | rfl <;> decide

theorem pd_0 : parseMethodDescriptor "()V" = some ⟨[], none⟩ := by decide +kernel
theorem pd_1 : parseMethodDescriptor "(I)V" = some ⟨[.int], none⟩ := by decide +kernel
theorem pd_2 : parseMethodDescriptor "(ZZZ)V" = some ⟨[.boolean, .boolean, .boolean], none⟩ := by decide +kernel
theorem pd_3 : parseMethodDescriptor "(I)Ljava/lang/Integer;" = some ⟨[.int], some (.object "java/lang/Integer")⟩ := by decide +kernel
theorem pd_4 : parseMethodDescriptor "(ZZZ)I" = some ⟨[.boolean, .boolean, .boolean], some .int⟩ := by decide +kernel
theorem pd_5 : parseMethodDescriptor "(Ljava/lang/Object;)Z" = some ⟨[(.object "java/lang/Object")], some .boolean⟩ := by decide +kernel
theorem d7_0 : decode jdk_18_method_1_code 0 = .ok (.aload_n 0, 1) := by decide +kernel
theorem d7_1 : decode jdk_18_method_1_code 1 = .ok (.invokespecial 1, 3) := by decide +kernel
theorem d7_4 : decode jdk_18_method_1_code 4 = .ok (.return_, 1) := by decide +kernel
theorem pn_7 : plainName "java/lang/Number" = true := by first | (simp [plainName, overriddenIn]; done) | decide +kernel
set_option maxRecDepth 65536 in
set_option maxHeartbeats 40000000 in
theorem rmNum (l : Launch) (Z : State) (a0 : Array Value) (hw : ∀ d ∈ tables_1, d.before a0 Z = true) (ws : List Jvm.Cond) (a1 : Addr) (h0 : Heap) (n0 : Nat) (O0 : Old Z n0 h0) :
    Ctr l (⟨"java/lang/Number", "<init>", "()V"⟩ : MethodName) jdk_18_method_1_code 1 none ws ({ frames := 1, cells := 0, slots := 0, locals := 12 } : Room) #[(.ref a1)] Z h0 (fun v h L => v = none ∧ Fr n0 L ∧ h = h0) := by
  have ef : ∀ m : MethodId, entryFrame m #[(.ref a1)] 1 = mkF m 0 #[.val (.ref a1)] [] := fun m => by first | (simp [entryFrame, mkF, argsToLocals, Value.category]; done) | rfl
  refine Ctr.of (plainFor_of_name pn_7) ?_
  intro p e s m below meth c s₁ hx hZ hby hml hown0 hnm hret hlk X0 e0
  have hown : s.vm.findClass "java/lang/Number" = some m.cls := hown0
  have N0 := Fr.nil n0
  refine Go.st (fun t k => castTop (ef m) k) ?_
  show Go p e below _ (s₁.setTop (mkF m 0 #[.val (.ref a1)] []))
  refine Go.st (fun _ => XS.aloadN X0.here hx rfl (hb hby d7_0) rfl rfl) ?_
  show Go p e below _ (s₁.setTop (mkF m 1 #[.val (.ref a1)] [(.ref a1)]))
  obtain ⟨T1, X1, e1, st1⟩ := initO X0 hx hZ hown (hw _ (List.mem_of_getElem? (i := 48) rfl)) (hw _ (List.mem_of_getElem? (i := 7) rfl)) (hw _ (List.mem_of_getElem? (i := 8) rfl)) e0 (g := (mkF m 1 #[.val (.ref a1)] [(.ref a1)])) rfl (by rw [hml]; rfl) rfl (hb hby d7_1) (by decide) (W := 0) (by show 2 * 0 + _ ≤ _; exact Nat.le_of_eq rfl) (by decide)
  refine Go.st st1 ?_
  show Go p e below _ (T1.setTop (mkF m 4 #[.val (.ref a1)] []))
  exact goRetV X1 hx hlk hret e1 (hb hby d7_4) (by decide) (by decide) ⟨rfl, N0, rfl⟩
theorem d6_0 : decode jdk_33_method_23_code 0 = .ok (.aload_n 0, 1) := by decide +kernel
theorem d6_1 : decode jdk_33_method_23_code 1 = .ok (.invokespecial 202, 3) := by decide +kernel
theorem d6_4 : decode jdk_33_method_23_code 4 = .ok (.aload_n 0, 1) := by decide +kernel
theorem d6_5 : decode jdk_33_method_23_code 5 = .ok (.iload_n 1, 1) := by decide +kernel
theorem d6_6 : decode jdk_33_method_23_code 6 = .ok (.putfield 205, 3) := by decide +kernel
theorem d6_9 : decode jdk_33_method_23_code 9 = .ok (.return_, 1) := by decide +kernel
theorem pn_6 : plainName "java/lang/Integer" = true := by first | (simp [plainName, overriddenIn]; done) | decide +kernel
set_option maxRecDepth 65536 in
set_option maxHeartbeats 40000000 in
theorem rmBoxInit (l : Launch) (Z : State) (a0 : Array Value) (hw : ∀ d ∈ tables_1, d.before a0 Z = true) (ws : List Jvm.Cond) (a1 : Addr) (q2 : Int32) (h0 : Heap) (n0 : Nat) (O0 : Old Z n0 h0) (A1 : Exa Z h0 a1 "java/lang/Integer") (F1 : Fld Z h0 a1 "java/lang/Integer" "value" "I" (.int (0 : Int32))) (g1 : n0 ≤ a1) :
    Ctr l (⟨"java/lang/Integer", "<init>", "(I)V"⟩ : MethodName) jdk_33_method_23_code 2 none ws ({ frames := 2, cells := 0, slots := 0, locals := 24 } : Room) #[(.ref a1), (.int q2)] Z h0 (fun v h L => v = none ∧ Fr n0 L ∧ Keep h0 h [a1] ∧ Fld Z h a1 "java/lang/Integer" "value" "I" (.int q2)) := by
  have ef : ∀ m : MethodId, entryFrame m #[(.ref a1), (.int q2)] 2 = mkF m 0 #[.val (.ref a1), .val (.int q2)] [] := fun m => by first | (simp [entryFrame, mkF, argsToLocals, Value.category]; done) | rfl
  refine Ctr.of (plainFor_of_name pn_6) ?_
  intro p e s m below meth c s₁ hx hZ hby hml hown0 hnm hret hlk X0 e0
  have hown : s.vm.findClass "java/lang/Integer" = some m.cls := hown0
  have N0 := Fr.nil n0
  refine Go.st (fun t k => castTop (ef m) k) ?_
  show Go p e below _ (s₁.setTop (mkF m 0 #[.val (.ref a1), .val (.int q2)] []))
  refine Go.st (fun _ => XS.aloadN X0.here hx rfl (hb hby d6_0) rfl rfl) ?_
  show Go p e below _ (s₁.setTop (mkF m 1 #[.val (.ref a1), .val (.int q2)] [(.ref a1)]))
  refine goInit X0 hx hZ (y := (⟨"java/lang/Number", "<init>", "()V"⟩ : MethodName)) rfl hown (hw _ (List.mem_of_getElem? (i := 42) rfl)) (hw _ (List.mem_of_getElem? (i := 43) rfl)) (hw _ (List.mem_of_getElem? (i := 46) rfl)) (hw _ (List.mem_of_getElem? (i := 47) rfl)) (by decide) (a := a1) (argsL := []) (rest := []) e0 (rmNum l Z a0 hw [] a1 h0 n0 O0) 0 (by decide) (by decide) (by decide) (by decide) (mkF m 1 #[.val (.ref a1), .val (.int q2)] [(.ref a1)]) rfl (by rw [hml]; rfl) (lenOf pd_0 rfl) rfl (hb hby d6_1) (Nat.le_of_eq rfl) ?_
  intro v1 T1 L1 X1 hQ1
  obtain ⟨rfl, M1, e1⟩ := hQ1
  have N1 := Fr.app N0 M1
  show Go p e below _ (T1.setTop (mkF m 4 #[.val (.ref a1), .val (.int q2)] []))
  refine Go.st (fun _ => XS.aloadN X1.here hx rfl (hb hby d6_4) rfl rfl) ?_
  show Go p e below _ (T1.setTop (mkF m 5 #[.val (.ref a1), .val (.int q2)] [(.ref a1)]))
  refine Go.st (fun _ => XS.iloadN X1.here hx rfl (hb hby d6_5) rfl) ?_
  show Go p e below _ (T1.setTop (mkF m 6 #[.val (.ref a1), .val (.int q2)] [(.int q2), (.ref a1)]))
  obtain ⟨T2, h2, X2, e2, W2, st2⟩ := putF X1 hx hZ hown (host := "") (Or.inl (hw _ (List.mem_of_getElem? (i := 49) rfl))) Via.refl e1 F1 A1 (Or.inr ⟨(hw _ (List.mem_of_getElem? (i := 50) rfl)), rfl, hnm⟩) (hw _ (List.mem_of_getElem? (i := 37) rfl)) (ty := .int) (by decide) rfl rfl (g := (mkF m 6 #[.val (.ref a1), .val (.int q2)] [(.int q2), (.ref a1)])) rfl rfl (hb hby d6_6)
  refine Go.st st2 ?_
  have O3 : Old Z n0 h2 := O0.wr W2 g1
  have E_4 : Exa Z h2 a1 "java/lang/Integer" := A1.wr W2
  have K5 : Keep h0 h2 [a1] := (Keep.refl h0 [a1]).wr W2 (Or.inl (List.mem_of_getElem? (i := 0) rfl))
  have F6 : Fld Z h2 a1 "java/lang/Integer" "value" "I" (.int q2) := F1.same W2
  have N2 := Fr.snoc X2 N1 g1
  show Go p e below _ (T2.setTop (mkF m 9 #[.val (.ref a1), .val (.int q2)] []))
  exact goRetV X2 hx hlk hret e2 (hb hby d6_9) (by decide) (by decide) ⟨rfl, N2, K5, F6⟩
theorem d3_0 : decode jdk_33_method_22_code 0 = .ok (.iload_n 0, 1) := by decide +kernel
theorem d3_1 : decode jdk_33_method_22_code 1 = .ok (.bipush (-128), 2) := by decide +kernel
theorem d3_3 : decode jdk_33_method_22_code 3 = .ok (.if_icmp .lt 20, 3) := by decide +kernel
theorem d3_6 : decode jdk_33_method_22_code 6 = .ok (.iload_n 0, 1) := by decide +kernel
theorem d3_7 : decode jdk_33_method_22_code 7 = .ok (.getstatic 191, 3) := by decide +kernel
theorem d3_10 : decode jdk_33_method_22_code 10 = .ok (.if_icmp .gt 13, 3) := by decide +kernel
theorem d3_13 : decode jdk_33_method_22_code 13 = .ok (.getstatic 195, 3) := by decide +kernel
theorem d3_16 : decode jdk_33_method_22_code 16 = .ok (.iload_n 0, 1) := by decide +kernel
theorem d3_17 : decode jdk_33_method_22_code 17 = .ok (.sipush 128, 3) := by decide +kernel
theorem d3_20 : decode jdk_33_method_22_code 20 = .ok (.iadd, 1) := by decide +kernel
theorem d3_21 : decode jdk_33_method_22_code 21 = .ok (.aaload, 1) := by decide +kernel
theorem d3_22 : decode jdk_33_method_22_code 22 = .ok (.areturn, 1) := by decide +kernel
theorem d3_23 : decode jdk_33_method_22_code 23 = .ok (.new 1, 3) := by decide +kernel
theorem d3_26 : decode jdk_33_method_22_code 26 = .ok (.dup, 1) := by decide +kernel
theorem d3_27 : decode jdk_33_method_22_code 27 = .ok (.iload_n 0, 1) := by decide +kernel
theorem d3_28 : decode jdk_33_method_22_code 28 = .ok (.invokespecial 199, 3) := by decide +kernel
theorem d3_31 : decode jdk_33_method_22_code 31 = .ok (.areturn, 1) := by decide +kernel
theorem pn_3 : plainName "java/lang/Integer" = true := by first | (simp [plainName, overriddenIn]; done) | decide +kernel
set_option maxRecDepth 65536 in
set_option maxHeartbeats 40000000 in
theorem rmBox (l : Launch) (Z : State) (a0 : Array Value) (hw : ∀ d ∈ tables_1, d.before a0 Z = true) (ws : List Jvm.Cond) (q1 : Int32) (wc : Addr) (cl : Cell) (h0 : Heap) (n0 : Nat) (O0 : Old Z n0 h0) (S_cache : Sta Z Z.heap "java/lang/Integer$IntegerCache" "cache" "[Ljava/lang/Integer;" (.ref wc)) (S_high : Sta Z Z.heap "java/lang/Integer$IntegerCache" "high" "I" (.int (127 : Int32))) (BX : Bxs Z wc cl "java/lang/Integer" "I" 256 (fun j => (.int (j - 128)))) :
    Ctr l (⟨"java/lang/Integer", "valueOf", "(I)Ljava/lang/Integer;"⟩ : MethodName) jdk_33_method_22_code 1 (some (.object "java/lang/Integer")) ws ({ frames := 3, cells := 1, slots := 1, locals := 39 } : Room) #[(.int q1)] Z h0 (fun v h L => (∃ r, v = some (.ref r) ∧ Exa Z h r "java/lang/Integer" ∧ Fld Z h r "java/lang/Integer" "value" "I" (.int q1)) ∧ Fr n0 L ∧ Keep h0 h []) := by
  have ef : ∀ m : MethodId, entryFrame m #[(.int q1)] 1 = mkF m 0 #[.val (.int q1)] [] := fun m => by first | (simp [entryFrame, mkF, argsToLocals, Value.category]; done) | rfl
  refine Ctr.of (plainFor_of_name pn_3) ?_
  intro p e s m below meth c s₁ hx hZ hby hml hown0 hnm hret hlk X0 e0
  have hown : s.vm.findClass "java/lang/Integer" = some m.cls := hown0
  have N0 := Fr.nil n0
  refine Go.st (fun t k => castTop (ef m) k) ?_
  show Go p e below _ (s₁.setTop (mkF m 0 #[.val (.int q1)] []))
  refine Go.st (fun _ => XS.iloadN X0.here hx rfl (hb hby d3_0) rfl) ?_
  show Go p e below _ (s₁.setTop (mkF m 1 #[.val (.int q1)] [(.int q1)]))
  refine Go.st (fun _ => XS.bipush X0.here hx rfl (hb hby d3_1)) ?_
  show Go p e below _ (s₁.setTop (mkF m 3 #[.val (.int q1)] [(.int (-128 : Int32)), (.int q1)]))
  by_cases hc1 : q1 < (-128 : Int32)
  · refine Go.st (fun _ => XS.icmpYes X0.here hx rfl (pc0 := 3) (pc' := 23) rfl (hb hby d3_3) rfl (tlt hc1).1 (by decide) (by decide)) ?_
    show Go p e below _ (s₁.setTop (mkF m 23 #[.val (.int q1)] []))
    obtain ⟨T2, h2, X2, e2, E2, A2, D2, -, st2⟩ := newO X0 hx hZ hown (hw _ (List.mem_of_getElem? (i := 36) rfl)) (hw _ (List.mem_of_getElem? (i := 37) rfl)) (hw _ (List.mem_of_getElem? (i := 17) rfl)) e0 (g := (mkF m 23 #[.val (.int q1)] [])) rfl (hb hby d3_23) (by decide) (by decide)
    obtain ⟨b2, g2⟩ : ∃ z, z = h0.size := ⟨_, rfl⟩
    rw [← g2] at A2 D2 st2
    refine Go.st st2 ?_
    have gn2 : n0 ≤ b2 := oldGe O0 g2
    have sz2 : h0.size ≤ b2 := Nat.le_trans (Keep.refl h0 []).1 (Nat.le_of_eq g2.symm)
    have O3 : Old Z n0 h2 := O0.ext E2
    have K4 : Keep h0 h2 [] := (Keep.refl h0 []).ext E2
    have F5 : Fld Z h2 b2 "java/lang/Integer" "value" "I" (.int (0 : Int32)) := D2 (Or.inr (hw _ (List.mem_of_getElem? (i := 50) rfl))) (ty := .int) (by decide)
    show Go p e below _ (T2.setTop (mkF m 26 #[.val (.int q1)] [(.ref b2)]))
    refine Go.st (fun _ => XS.dup X2.here hx rfl (hb hby d3_26) rfl rfl) ?_
    show Go p e below _ (T2.setTop (mkF m 27 #[.val (.int q1)] [(.ref b2), (.ref b2)]))
    refine Go.st (fun _ => XS.iloadN X2.here hx rfl (hb hby d3_27) rfl) ?_
    show Go p e below _ (T2.setTop (mkF m 28 #[.val (.int q1)] [(.int q1), (.ref b2), (.ref b2)]))
    refine goInit X2 hx hZ (y := (⟨"java/lang/Integer", "<init>", "(I)V"⟩ : MethodName)) rfl hown (hw _ (List.mem_of_getElem? (i := 38) rfl)) (hw _ (List.mem_of_getElem? (i := 39) rfl)) (hw _ (List.mem_of_getElem? (i := 17) rfl)) (hw _ (List.mem_of_getElem? (i := 41) rfl)) (by decide) (a := b2) (argsL := [(.int q1)]) (rest := [(.ref b2)]) e2 (rmBoxInit l Z a0 hw [] b2 q1 h2 n0 O3 A2 F5 gn2) 1 (by decide) (by decide) (by decide) (by decide) (mkF m 28 #[.val (.int q1)] [(.int q1), (.ref b2), (.ref b2)]) rfl (by rw [hml]; rfl) (lenOf pd_1 rfl) rfl (hb hby d3_28) (Nat.le_of_eq rfl) ?_
    intro v6 T6 L6 X6 hQ6
    obtain ⟨rfl, M6, K6, G6⟩ := hQ6
    have N6 := Fr.app N0 M6
    have O7 : Old Z n0 T6.heap := O3.keep K6 (allS gn2 all0)
    have K8 : Keep h0 T6.heap [] := K4.trans K6 (allS (Or.inr sz2) all0)
    have E_9 : Exa Z T6.heap b2 "java/lang/Integer" := A2.keep K6
    show Go p e below _ (T6.setTop (mkF m 31 #[.val (.int q1)] [(.ref b2)]))
    exact goRetA X6 hx hlk hret rfl rfl rfl rfl (hb hby d3_31) (by decide) (by decide) ⟨⟨b2, rfl, E_9, G6⟩, N6, K8⟩
  · refine Go.st (fun _ => XS.icmpNo X0.here hx rfl (hb hby d3_3) rfl (flt hc1).1) ?_
    show Go p e below _ (s₁.setTop (mkF m 6 #[.val (.int q1)] []))
    refine Go.st (fun _ => XS.iloadN X0.here hx rfl (hb hby d3_6) rfl) ?_
    show Go p e below _ (s₁.setTop (mkF m 7 #[.val (.int q1)] [(.int q1)]))
    obtain ⟨T10, X10, e10, st10⟩ := getS2 X0 hx hZ hown (host := "") (Or.inl (hw _ (List.mem_of_getElem? (i := 19) rfl))) Via.refl e0 (oldSta O0 S_high) (g := (mkF m 7 #[.val (.int q1)] [(.int q1)])) rfl (hb hby d3_7)
    refine Go.st st10 ?_
    show Go p e below _ (T10.setTop (mkF m 10 #[.val (.int q1)] [(.int (127 : Int32)), (.int q1)]))
    by_cases hc11 : (127 : Int32) < q1
    · refine Go.st (fun _ => XS.icmpYes X10.here hx rfl (pc0 := 10) (pc' := 23) rfl (hb hby d3_10) rfl (tlt hc11).2.2.1 (by decide) (by decide)) ?_
      show Go p e below _ (T10.setTop (mkF m 23 #[.val (.int q1)] []))
      obtain ⟨T12, h12, X12, e12, E12, A12, D12, -, st12⟩ := newO X10 hx hZ hown (hw _ (List.mem_of_getElem? (i := 36) rfl)) (hw _ (List.mem_of_getElem? (i := 37) rfl)) (hw _ (List.mem_of_getElem? (i := 17) rfl)) e10 (g := (mkF m 23 #[.val (.int q1)] [])) rfl (hb hby d3_23) (by decide) (by decide)
      obtain ⟨b12, g12⟩ : ∃ z, z = h0.size := ⟨_, rfl⟩
      rw [← g12] at A12 D12 st12
      refine Go.st st12 ?_
      have gn12 : n0 ≤ b12 := oldGe O0 g12
      have sz12 : h0.size ≤ b12 := Nat.le_trans (Keep.refl h0 []).1 (Nat.le_of_eq g12.symm)
      have O13 : Old Z n0 h12 := O0.ext E12
      have K14 : Keep h0 h12 [] := (Keep.refl h0 []).ext E12
      have F15 : Fld Z h12 b12 "java/lang/Integer" "value" "I" (.int (0 : Int32)) := D12 (Or.inr (hw _ (List.mem_of_getElem? (i := 50) rfl))) (ty := .int) (by decide)
      show Go p e below _ (T12.setTop (mkF m 26 #[.val (.int q1)] [(.ref b12)]))
      refine Go.st (fun _ => XS.dup X12.here hx rfl (hb hby d3_26) rfl rfl) ?_
      show Go p e below _ (T12.setTop (mkF m 27 #[.val (.int q1)] [(.ref b12), (.ref b12)]))
      refine Go.st (fun _ => XS.iloadN X12.here hx rfl (hb hby d3_27) rfl) ?_
      show Go p e below _ (T12.setTop (mkF m 28 #[.val (.int q1)] [(.int q1), (.ref b12), (.ref b12)]))
      refine goInit X12 hx hZ (y := (⟨"java/lang/Integer", "<init>", "(I)V"⟩ : MethodName)) rfl hown (hw _ (List.mem_of_getElem? (i := 38) rfl)) (hw _ (List.mem_of_getElem? (i := 39) rfl)) (hw _ (List.mem_of_getElem? (i := 17) rfl)) (hw _ (List.mem_of_getElem? (i := 41) rfl)) (by decide) (a := b12) (argsL := [(.int q1)]) (rest := [(.ref b12)]) e12 (rmBoxInit l Z a0 hw [] b12 q1 h12 n0 O13 A12 F15 gn12) 1 (by decide) (by decide) (by decide) (by decide) (mkF m 28 #[.val (.int q1)] [(.int q1), (.ref b12), (.ref b12)]) rfl (by rw [hml]; rfl) (lenOf pd_1 rfl) rfl (hb hby d3_28) (Nat.le_of_eq rfl) ?_
      intro v16 T16 L16 X16 hQ16
      obtain ⟨rfl, M16, K16, G16⟩ := hQ16
      have N16 := Fr.app N0 M16
      have O17 : Old Z n0 T16.heap := O13.keep K16 (allS gn12 all0)
      have K18 : Keep h0 T16.heap [] := K14.trans K16 (allS (Or.inr sz12) all0)
      have E_19 : Exa Z T16.heap b12 "java/lang/Integer" := A12.keep K16
      show Go p e below _ (T16.setTop (mkF m 31 #[.val (.int q1)] [(.ref b12)]))
      exact goRetA X16 hx hlk hret rfl rfl rfl rfl (hb hby d3_31) (by decide) (by decide) ⟨⟨b12, rfl, E_19, G16⟩, N16, K18⟩
    · refine Go.st (fun _ => XS.icmpNo X10.here hx rfl (hb hby d3_10) rfl (flt hc11).2.2.1) ?_
      show Go p e below _ (T10.setTop (mkF m 13 #[.val (.int q1)] []))
      obtain ⟨T20, X20, e20, st20⟩ := getS2 X10 hx hZ hown (host := "") (Or.inl (hw _ (List.mem_of_getElem? (i := 21) rfl))) Via.refl e10 (oldSta O0 S_cache) (g := (mkF m 13 #[.val (.int q1)] [])) rfl (hb hby d3_13)
      refine Go.st st20 ?_
      show Go p e below _ (T20.setTop (mkF m 16 #[.val (.int q1)] [(.ref wc)]))
      refine Go.st (fun _ => XS.iloadN X20.here hx rfl (hb hby d3_16) rfl) ?_
      show Go p e below _ (T20.setTop (mkF m 17 #[.val (.int q1)] [(.int q1), (.ref wc)]))
      refine Go.st (fun _ => XS.sipush X20.here hx rfl (hb hby d3_17)) ?_
      show Go p e below _ (T20.setTop (mkF m 20 #[.val (.int q1)] [(.int (128 : Int32)), (.int q1), (.ref wc)]))
      refine Go.st (fun _ => XS.iadd X20.here hx rfl (hb hby d3_20) rfl) ?_
      show Go p e below _ (T20.setTop (mkF m 21 #[.val (.int q1)] [(.int (q1 + (128 : Int32))), (.ref wc)]))
      obtain ⟨hin, r, hat, Er, Fr0⟩ := ownBxI BX hc1 hc11
      have Er1 := oldExa O0 Er
      have Fr1 := oldFld O0 Fr0
      refine Go.st (fun _ => X20.aaload hx (j := (q1 + (128 : Int32))) (v := .ref r) (by rw [e20]; exact (BX.1.ext O0.2).1) (State.isArrayOf_alike hZ.alike BX.1.2.1) rfl BX.1.2.2 hin hat (g := (mkF m 21 #[.val (.int q1)] [(.int (q1 + (128 : Int32))), (.ref wc)])) rfl rfl (hb hby d3_21) _) ?_
      show Go p e below _ (T20.setTop (mkF m 22 #[.val (.int q1)] [(.ref r)]))
      exact goRetA X20 hx hlk hret rfl rfl rfl e20 (hb hby d3_22) (by decide) (by decide) ⟨⟨r, rfl, Er1, Fr1⟩, N0, (Keep.refl h0 [])⟩
theorem d1_0 : decode prog_85_method_1_code 0 = .ok (.aload_n 0, 1) := by decide +kernel
theorem d1_1 : decode prog_85_method_1_code 1 = .ok (.invokespecial 1, 3) := by decide +kernel
theorem d1_4 : decode prog_85_method_1_code 4 = .ok (.iload_n 2, 1) := by decide +kernel
theorem d1_5 : decode prog_85_method_1_code 5 = .ok (.ifCond .eq 17, 3) := by decide +kernel
theorem d1_8 : decode prog_85_method_1_code 8 = .ok (.iload_n 1, 1) := by decide +kernel
theorem d1_9 : decode prog_85_method_1_code 9 = .ok (.ifCond .ne 13, 3) := by decide +kernel
theorem d1_12 : decode prog_85_method_1_code 12 = .ok (.new 7, 3) := by decide +kernel
theorem d1_15 : decode prog_85_method_1_code 15 = .ok (.dup, 1) := by decide +kernel
theorem d1_16 : decode prog_85_method_1_code 16 = .ok (.ldc 9, 2) := by decide +kernel
theorem d1_18 : decode prog_85_method_1_code 18 = .ok (.invokespecial 11, 3) := by decide +kernel
theorem d1_21 : decode prog_85_method_1_code 21 = .ok (.athrow, 1) := by decide +kernel
theorem d1_22 : decode prog_85_method_1_code 22 = .ok (.aload_n 0, 1) := by decide +kernel
theorem d1_23 : decode prog_85_method_1_code 23 = .ok (.iload_n 1, 1) := by decide +kernel
theorem d1_24 : decode prog_85_method_1_code 24 = .ok (.putfield 14, 3) := by decide +kernel
theorem d1_27 : decode prog_85_method_1_code 27 = .ok (.aload_n 0, 1) := by decide +kernel
theorem d1_28 : decode prog_85_method_1_code 28 = .ok (.iload_n 2, 1) := by decide +kernel
theorem d1_29 : decode prog_85_method_1_code 29 = .ok (.putfield 20, 3) := by decide +kernel
theorem d1_32 : decode prog_85_method_1_code 32 = .ok (.aload_n 0, 1) := by decide +kernel
theorem d1_33 : decode prog_85_method_1_code 33 = .ok (.iload_n 3, 1) := by decide +kernel
theorem d1_34 : decode prog_85_method_1_code 34 = .ok (.putfield 23, 3) := by decide +kernel
theorem d1_37 : decode prog_85_method_1_code 37 = .ok (.return_, 1) := by decide +kernel
theorem pn_1 : plainName "com/example/oghma/oghma/model/TypeAnnotations" = true := by first | (simp [plainName, overriddenIn]; done) | decide +kernel
set_option maxRecDepth 65536 in
set_option maxHeartbeats 40000000 in
theorem rm1 (l : Launch) (Z : State) (a0 : Array Value) (hw : ∀ d ∈ tables_1, d.before a0 Z = true) (ws : List Jvm.Cond) (a1 : Addr) (p2 p3 p4 : Int32) (h0 : Heap) (n0 : Nat) (O0 : Old Z n0 h0) (A1 : Exa Z h0 a1 "com/example/oghma/oghma/model/TypeAnnotations") (F0 : Fld Z h0 a1 "com/example/oghma/oghma/model/TypeAnnotations" "nullable" "Z" (.int (0 : Int32))) (F1 : Fld Z h0 a1 "com/example/oghma/oghma/model/TypeAnnotations" "onHeap" "Z" (.int (0 : Int32))) (F2 : Fld Z h0 a1 "com/example/oghma/oghma/model/TypeAnnotations" "utf8InCpp" "Z" (.int (0 : Int32))) (g1 : n0 ≤ a1) (hb2 : p2 = 0 ∨ p2 = 1) (hb3 : p3 = 0 ∨ p3 = 1) (hb4 : p4 = 0 ∨ p4 = 1) (hh : ¬ p3 = 0 → ¬ p2 = 0) :
    Ctr l (⟨"com/example/oghma/oghma/model/TypeAnnotations", "<init>", "(ZZZ)V"⟩ : MethodName) prog_85_method_1_code 4 none ws ({ frames := 1, cells := 0, slots := 0, locals := 12 } : Room) #[(.ref a1), (.int p2), (.int p3), (.int p4)] Z h0 (fun v h L => v = none ∧ Fr n0 L ∧ Keep h0 h [a1] ∧ Fld Z h a1 "com/example/oghma/oghma/model/TypeAnnotations" "nullable" "Z" (.int p2) ∧ Fld Z h a1 "com/example/oghma/oghma/model/TypeAnnotations" "onHeap" "Z" (.int p3) ∧ Fld Z h a1 "com/example/oghma/oghma/model/TypeAnnotations" "utf8InCpp" "Z" (.int p4)) := by
  have ef : ∀ m : MethodId, entryFrame m #[(.ref a1), (.int p2), (.int p3), (.int p4)] 4 = mkF m 0 #[.val (.ref a1), .val (.int p2), .val (.int p3), .val (.int p4)] [] := fun m => by first | (simp [entryFrame, mkF, argsToLocals, Value.category]; done) | rfl
  refine Ctr.of (plainFor_of_name pn_1) ?_
  intro p e s m below meth c s₁ hx hZ hby hml hown0 hnm hret hlk X0 e0
  have hown : s.vm.findClass "com/example/oghma/oghma/model/TypeAnnotations" = some m.cls := hown0
  have N0 := Fr.nil n0
  refine Go.st (fun t k => castTop (ef m) k) ?_
  show Go p e below _ (s₁.setTop (mkF m 0 #[.val (.ref a1), .val (.int p2), .val (.int p3), .val (.int p4)] []))
  refine Go.st (fun _ => XS.aloadN X0.here hx rfl (hb hby d1_0) rfl rfl) ?_
  show Go p e below _ (s₁.setTop (mkF m 1 #[.val (.ref a1), .val (.int p2), .val (.int p3), .val (.int p4)] [(.ref a1)]))
  obtain ⟨T1, X1, e1, st1⟩ := initO X0 hx hZ hown (hw _ (List.mem_of_getElem? (i := 6) rfl)) (hw _ (List.mem_of_getElem? (i := 7) rfl)) (hw _ (List.mem_of_getElem? (i := 8) rfl)) e0 (g := (mkF m 1 #[.val (.ref a1), .val (.int p2), .val (.int p3), .val (.int p4)] [(.ref a1)])) rfl (by rw [hml]; rfl) rfl (hb hby d1_1) (by decide) (W := 0) (by show 2 * 0 + _ ≤ _; exact Nat.le_of_eq rfl) (by decide)
  refine Go.st st1 ?_
  show Go p e below _ (T1.setTop (mkF m 4 #[.val (.ref a1), .val (.int p2), .val (.int p3), .val (.int p4)] []))
  refine Go.st (fun _ => XS.iloadN X1.here hx rfl (hb hby d1_4) rfl) ?_
  show Go p e below _ (T1.setTop (mkF m 5 #[.val (.ref a1), .val (.int p2), .val (.int p3), .val (.int p4)] [(.int p3)]))
  by_cases hc2 : p3 = (0 : Int32)
  · refine Go.st (fun _ => XS.ifYes X1.here hx rfl (pc0 := 5) (pc' := 22) rfl (hb hby d1_5) rfl ((if0 _ _).trans (teq hc2).1) (by decide) (by decide)) ?_
    show Go p e below _ (T1.setTop (mkF m 22 #[.val (.ref a1), .val (.int p2), .val (.int p3), .val (.int p4)] []))
    refine Go.st (fun _ => XS.aloadN X1.here hx rfl (hb hby d1_22) rfl rfl) ?_
    show Go p e below _ (T1.setTop (mkF m 23 #[.val (.ref a1), .val (.int p2), .val (.int p3), .val (.int p4)] [(.ref a1)]))
    refine Go.st (fun _ => XS.iloadN X1.here hx rfl (hb hby d1_23) rfl) ?_
    show Go p e below _ (T1.setTop (mkF m 24 #[.val (.ref a1), .val (.int p2), .val (.int p3), .val (.int p4)] [(.int p2), (.ref a1)]))
    obtain ⟨T3, h3, X3, e3, W3, st3⟩ := putFN X1 hx hZ hown (hw _ (List.mem_of_getElem? (i := 9) rfl)) Via.refl e1 F0 A1 (Or.inr ⟨(hw _ (List.mem_of_getElem? (i := 10) rfl)), rfl, hnm⟩) (hw _ (List.mem_of_getElem? (i := 1) rfl)) (ty := .boolean) (v' := .int (nar .boolean p2)) (by decide) rfl (fits_nar_bool _) (g := (mkF m 24 #[.val (.ref a1), .val (.int p2), .val (.int p3), .val (.int p4)] [(.int p2), (.ref a1)])) rfl rfl (hb hby d1_24)
    refine Go.st st3 ?_
    rw [narZ hb2] at W3
    have O4 : Old Z n0 h3 := O0.wr W3 g1
    have E_5 : Exa Z h3 a1 "com/example/oghma/oghma/model/TypeAnnotations" := A1.wr W3
    have F6 : Fld Z h3 a1 "com/example/oghma/oghma/model/TypeAnnotations" "onHeap" "Z" (.int (0 : Int32)) := F1.other W3 (Or.inr (slot_ne (Or.inr (hw _ (List.mem_of_getElem? (i := 12) rfl))) (Or.inr (hw _ (List.mem_of_getElem? (i := 10) rfl))) (by decide) (t := .boolean) (t' := .boolean) (by decide) (by decide)))
    have F7 : Fld Z h3 a1 "com/example/oghma/oghma/model/TypeAnnotations" "utf8InCpp" "Z" (.int (0 : Int32)) := F2.other W3 (Or.inr (slot_ne (Or.inr (hw _ (List.mem_of_getElem? (i := 14) rfl))) (Or.inr (hw _ (List.mem_of_getElem? (i := 10) rfl))) (by decide) (t := .boolean) (t' := .boolean) (by decide) (by decide)))
    have K8 : Keep h0 h3 [a1] := (Keep.refl h0 [a1]).wr W3 (Or.inl (List.mem_of_getElem? (i := 0) rfl))
    have F9 : Fld Z h3 a1 "com/example/oghma/oghma/model/TypeAnnotations" "nullable" "Z" (.int p2) := F0.same W3
    have N3 := Fr.snoc X3 N0 g1
    show Go p e below _ (T3.setTop (mkF m 27 #[.val (.ref a1), .val (.int p2), .val (.int p3), .val (.int p4)] []))
    refine Go.st (fun _ => XS.aloadN X3.here hx rfl (hb hby d1_27) rfl rfl) ?_
    show Go p e below _ (T3.setTop (mkF m 28 #[.val (.ref a1), .val (.int p2), .val (.int p3), .val (.int p4)] [(.ref a1)]))
    refine Go.st (fun _ => XS.iloadN X3.here hx rfl (hb hby d1_28) rfl) ?_
    show Go p e below _ (T3.setTop (mkF m 29 #[.val (.ref a1), .val (.int p2), .val (.int p3), .val (.int p4)] [(.int p3), (.ref a1)]))
    obtain ⟨T10, h10, X10, e10, W10, st10⟩ := putFN X3 hx hZ hown (hw _ (List.mem_of_getElem? (i := 11) rfl)) Via.refl e3 F6 E_5 (Or.inr ⟨(hw _ (List.mem_of_getElem? (i := 12) rfl)), rfl, hnm⟩) (hw _ (List.mem_of_getElem? (i := 1) rfl)) (ty := .boolean) (v' := .int (nar .boolean p3)) (by decide) rfl (fits_nar_bool _) (g := (mkF m 29 #[.val (.ref a1), .val (.int p2), .val (.int p3), .val (.int p4)] [(.int p3), (.ref a1)])) rfl rfl (hb hby d1_29)
    refine Go.st st10 ?_
    rw [narZ hb3] at W10
    have O11 : Old Z n0 h10 := O4.wr W10 g1
    have E_12 : Exa Z h10 a1 "com/example/oghma/oghma/model/TypeAnnotations" := E_5.wr W10
    have F13 : Fld Z h10 a1 "com/example/oghma/oghma/model/TypeAnnotations" "utf8InCpp" "Z" (.int (0 : Int32)) := F7.other W10 (Or.inr (slot_ne (Or.inr (hw _ (List.mem_of_getElem? (i := 14) rfl))) (Or.inr (hw _ (List.mem_of_getElem? (i := 12) rfl))) (by decide) (t := .boolean) (t' := .boolean) (by decide) (by decide)))
    have K14 : Keep h0 h10 [a1] := K8.wr W10 (Or.inl (List.mem_of_getElem? (i := 0) rfl))
    have F15 : Fld Z h10 a1 "com/example/oghma/oghma/model/TypeAnnotations" "nullable" "Z" (.int p2) := F9.other W10 (Or.inr (slot_ne (Or.inr (hw _ (List.mem_of_getElem? (i := 10) rfl))) (Or.inr (hw _ (List.mem_of_getElem? (i := 12) rfl))) (by decide) (t := .boolean) (t' := .boolean) (by decide) (by decide)))
    have F16 : Fld Z h10 a1 "com/example/oghma/oghma/model/TypeAnnotations" "onHeap" "Z" (.int p3) := F6.same W10
    have N10 := Fr.snoc X10 N3 g1
    show Go p e below _ (T10.setTop (mkF m 32 #[.val (.ref a1), .val (.int p2), .val (.int p3), .val (.int p4)] []))
    refine Go.st (fun _ => XS.aloadN X10.here hx rfl (hb hby d1_32) rfl rfl) ?_
    show Go p e below _ (T10.setTop (mkF m 33 #[.val (.ref a1), .val (.int p2), .val (.int p3), .val (.int p4)] [(.ref a1)]))
    refine Go.st (fun _ => XS.iloadN X10.here hx rfl (hb hby d1_33) rfl) ?_
    show Go p e below _ (T10.setTop (mkF m 34 #[.val (.ref a1), .val (.int p2), .val (.int p3), .val (.int p4)] [(.int p4), (.ref a1)]))
    obtain ⟨T17, h17, X17, e17, W17, st17⟩ := putFN X10 hx hZ hown (hw _ (List.mem_of_getElem? (i := 13) rfl)) Via.refl e10 F13 E_12 (Or.inr ⟨(hw _ (List.mem_of_getElem? (i := 14) rfl)), rfl, hnm⟩) (hw _ (List.mem_of_getElem? (i := 1) rfl)) (ty := .boolean) (v' := .int (nar .boolean p4)) (by decide) rfl (fits_nar_bool _) (g := (mkF m 34 #[.val (.ref a1), .val (.int p2), .val (.int p3), .val (.int p4)] [(.int p4), (.ref a1)])) rfl rfl (hb hby d1_34)
    refine Go.st st17 ?_
    rw [narZ hb4] at W17
    have O18 : Old Z n0 h17 := O11.wr W17 g1
    have E_19 : Exa Z h17 a1 "com/example/oghma/oghma/model/TypeAnnotations" := E_12.wr W17
    have K20 : Keep h0 h17 [a1] := K14.wr W17 (Or.inl (List.mem_of_getElem? (i := 0) rfl))
    have F21 : Fld Z h17 a1 "com/example/oghma/oghma/model/TypeAnnotations" "nullable" "Z" (.int p2) := F15.other W17 (Or.inr (slot_ne (Or.inr (hw _ (List.mem_of_getElem? (i := 10) rfl))) (Or.inr (hw _ (List.mem_of_getElem? (i := 14) rfl))) (by decide) (t := .boolean) (t' := .boolean) (by decide) (by decide)))
    have F22 : Fld Z h17 a1 "com/example/oghma/oghma/model/TypeAnnotations" "onHeap" "Z" (.int p3) := F16.other W17 (Or.inr (slot_ne (Or.inr (hw _ (List.mem_of_getElem? (i := 12) rfl))) (Or.inr (hw _ (List.mem_of_getElem? (i := 14) rfl))) (by decide) (t := .boolean) (t' := .boolean) (by decide) (by decide)))
    have F23 : Fld Z h17 a1 "com/example/oghma/oghma/model/TypeAnnotations" "utf8InCpp" "Z" (.int p4) := F13.same W17
    have N17 := Fr.snoc X17 N10 g1
    show Go p e below _ (T17.setTop (mkF m 37 #[.val (.ref a1), .val (.int p2), .val (.int p3), .val (.int p4)] []))
    exact goRetV X17 hx hlk hret e17 (hb hby d1_37) (by decide) (by decide) ⟨rfl, N17, K20, F21, F22, F23⟩
  · refine Go.st (fun _ => XS.ifNo X1.here hx rfl (hb hby d1_5) rfl ((if0 _ _).trans (feq hc2).1)) ?_
    show Go p e below _ (T1.setTop (mkF m 8 #[.val (.ref a1), .val (.int p2), .val (.int p3), .val (.int p4)] []))
    refine Go.st (fun _ => XS.iloadN X1.here hx rfl (hb hby d1_8) rfl) ?_
    show Go p e below _ (T1.setTop (mkF m 9 #[.val (.ref a1), .val (.int p2), .val (.int p3), .val (.int p4)] [(.int p2)]))
    refine Go.st (fun _ => XS.ifYes X1.here hx rfl (pc0 := 9) (pc' := 22) rfl (hb hby d1_9) rfl ((if0 _ _).trans (feq (hh hc2)).2) (by decide) (by decide)) ?_
    show Go p e below _ (T1.setTop (mkF m 22 #[.val (.ref a1), .val (.int p2), .val (.int p3), .val (.int p4)] []))
    refine Go.st (fun _ => XS.aloadN X1.here hx rfl (hb hby d1_22) rfl rfl) ?_
    show Go p e below _ (T1.setTop (mkF m 23 #[.val (.ref a1), .val (.int p2), .val (.int p3), .val (.int p4)] [(.ref a1)]))
    refine Go.st (fun _ => XS.iloadN X1.here hx rfl (hb hby d1_23) rfl) ?_
    show Go p e below _ (T1.setTop (mkF m 24 #[.val (.ref a1), .val (.int p2), .val (.int p3), .val (.int p4)] [(.int p2), (.ref a1)]))
    obtain ⟨T24, h24, X24, e24, W24, st24⟩ := putFN X1 hx hZ hown (hw _ (List.mem_of_getElem? (i := 9) rfl)) Via.refl e1 F0 A1 (Or.inr ⟨(hw _ (List.mem_of_getElem? (i := 10) rfl)), rfl, hnm⟩) (hw _ (List.mem_of_getElem? (i := 1) rfl)) (ty := .boolean) (v' := .int (nar .boolean p2)) (by decide) rfl (fits_nar_bool _) (g := (mkF m 24 #[.val (.ref a1), .val (.int p2), .val (.int p3), .val (.int p4)] [(.int p2), (.ref a1)])) rfl rfl (hb hby d1_24)
    refine Go.st st24 ?_
    rw [narZ hb2] at W24
    have O25 : Old Z n0 h24 := O0.wr W24 g1
    have E_26 : Exa Z h24 a1 "com/example/oghma/oghma/model/TypeAnnotations" := A1.wr W24
    have F27 : Fld Z h24 a1 "com/example/oghma/oghma/model/TypeAnnotations" "onHeap" "Z" (.int (0 : Int32)) := F1.other W24 (Or.inr (slot_ne (Or.inr (hw _ (List.mem_of_getElem? (i := 12) rfl))) (Or.inr (hw _ (List.mem_of_getElem? (i := 10) rfl))) (by decide) (t := .boolean) (t' := .boolean) (by decide) (by decide)))
    have F28 : Fld Z h24 a1 "com/example/oghma/oghma/model/TypeAnnotations" "utf8InCpp" "Z" (.int (0 : Int32)) := F2.other W24 (Or.inr (slot_ne (Or.inr (hw _ (List.mem_of_getElem? (i := 14) rfl))) (Or.inr (hw _ (List.mem_of_getElem? (i := 10) rfl))) (by decide) (t := .boolean) (t' := .boolean) (by decide) (by decide)))
    have K29 : Keep h0 h24 [a1] := (Keep.refl h0 [a1]).wr W24 (Or.inl (List.mem_of_getElem? (i := 0) rfl))
    have F30 : Fld Z h24 a1 "com/example/oghma/oghma/model/TypeAnnotations" "nullable" "Z" (.int p2) := F0.same W24
    have N24 := Fr.snoc X24 N0 g1
    show Go p e below _ (T24.setTop (mkF m 27 #[.val (.ref a1), .val (.int p2), .val (.int p3), .val (.int p4)] []))
    refine Go.st (fun _ => XS.aloadN X24.here hx rfl (hb hby d1_27) rfl rfl) ?_
    show Go p e below _ (T24.setTop (mkF m 28 #[.val (.ref a1), .val (.int p2), .val (.int p3), .val (.int p4)] [(.ref a1)]))
    refine Go.st (fun _ => XS.iloadN X24.here hx rfl (hb hby d1_28) rfl) ?_
    show Go p e below _ (T24.setTop (mkF m 29 #[.val (.ref a1), .val (.int p2), .val (.int p3), .val (.int p4)] [(.int p3), (.ref a1)]))
    obtain ⟨T31, h31, X31, e31, W31, st31⟩ := putFN X24 hx hZ hown (hw _ (List.mem_of_getElem? (i := 11) rfl)) Via.refl e24 F27 E_26 (Or.inr ⟨(hw _ (List.mem_of_getElem? (i := 12) rfl)), rfl, hnm⟩) (hw _ (List.mem_of_getElem? (i := 1) rfl)) (ty := .boolean) (v' := .int (nar .boolean p3)) (by decide) rfl (fits_nar_bool _) (g := (mkF m 29 #[.val (.ref a1), .val (.int p2), .val (.int p3), .val (.int p4)] [(.int p3), (.ref a1)])) rfl rfl (hb hby d1_29)
    refine Go.st st31 ?_
    rw [narZ hb3] at W31
    have O32 : Old Z n0 h31 := O25.wr W31 g1
    have E_33 : Exa Z h31 a1 "com/example/oghma/oghma/model/TypeAnnotations" := E_26.wr W31
    have F34 : Fld Z h31 a1 "com/example/oghma/oghma/model/TypeAnnotations" "utf8InCpp" "Z" (.int (0 : Int32)) := F28.other W31 (Or.inr (slot_ne (Or.inr (hw _ (List.mem_of_getElem? (i := 14) rfl))) (Or.inr (hw _ (List.mem_of_getElem? (i := 12) rfl))) (by decide) (t := .boolean) (t' := .boolean) (by decide) (by decide)))
    have K35 : Keep h0 h31 [a1] := K29.wr W31 (Or.inl (List.mem_of_getElem? (i := 0) rfl))
    have F36 : Fld Z h31 a1 "com/example/oghma/oghma/model/TypeAnnotations" "nullable" "Z" (.int p2) := F30.other W31 (Or.inr (slot_ne (Or.inr (hw _ (List.mem_of_getElem? (i := 10) rfl))) (Or.inr (hw _ (List.mem_of_getElem? (i := 12) rfl))) (by decide) (t := .boolean) (t' := .boolean) (by decide) (by decide)))
    have F37 : Fld Z h31 a1 "com/example/oghma/oghma/model/TypeAnnotations" "onHeap" "Z" (.int p3) := F27.same W31
    have N31 := Fr.snoc X31 N24 g1
    show Go p e below _ (T31.setTop (mkF m 32 #[.val (.ref a1), .val (.int p2), .val (.int p3), .val (.int p4)] []))
    refine Go.st (fun _ => XS.aloadN X31.here hx rfl (hb hby d1_32) rfl rfl) ?_
    show Go p e below _ (T31.setTop (mkF m 33 #[.val (.ref a1), .val (.int p2), .val (.int p3), .val (.int p4)] [(.ref a1)]))
    refine Go.st (fun _ => XS.iloadN X31.here hx rfl (hb hby d1_33) rfl) ?_
    show Go p e below _ (T31.setTop (mkF m 34 #[.val (.ref a1), .val (.int p2), .val (.int p3), .val (.int p4)] [(.int p4), (.ref a1)]))
    obtain ⟨T38, h38, X38, e38, W38, st38⟩ := putFN X31 hx hZ hown (hw _ (List.mem_of_getElem? (i := 13) rfl)) Via.refl e31 F34 E_33 (Or.inr ⟨(hw _ (List.mem_of_getElem? (i := 14) rfl)), rfl, hnm⟩) (hw _ (List.mem_of_getElem? (i := 1) rfl)) (ty := .boolean) (v' := .int (nar .boolean p4)) (by decide) rfl (fits_nar_bool _) (g := (mkF m 34 #[.val (.ref a1), .val (.int p2), .val (.int p3), .val (.int p4)] [(.int p4), (.ref a1)])) rfl rfl (hb hby d1_34)
    refine Go.st st38 ?_
    rw [narZ hb4] at W38
    have O39 : Old Z n0 h38 := O32.wr W38 g1
    have E_40 : Exa Z h38 a1 "com/example/oghma/oghma/model/TypeAnnotations" := E_33.wr W38
    have K41 : Keep h0 h38 [a1] := K35.wr W38 (Or.inl (List.mem_of_getElem? (i := 0) rfl))
    have F42 : Fld Z h38 a1 "com/example/oghma/oghma/model/TypeAnnotations" "nullable" "Z" (.int p2) := F36.other W38 (Or.inr (slot_ne (Or.inr (hw _ (List.mem_of_getElem? (i := 10) rfl))) (Or.inr (hw _ (List.mem_of_getElem? (i := 14) rfl))) (by decide) (t := .boolean) (t' := .boolean) (by decide) (by decide)))
    have F43 : Fld Z h38 a1 "com/example/oghma/oghma/model/TypeAnnotations" "onHeap" "Z" (.int p3) := F37.other W38 (Or.inr (slot_ne (Or.inr (hw _ (List.mem_of_getElem? (i := 12) rfl))) (Or.inr (hw _ (List.mem_of_getElem? (i := 14) rfl))) (by decide) (t := .boolean) (t' := .boolean) (by decide) (by decide)))
    have F44 : Fld Z h38 a1 "com/example/oghma/oghma/model/TypeAnnotations" "utf8InCpp" "Z" (.int p4) := F34.same W38
    have N38 := Fr.snoc X38 N31 g1
    show Go p e below _ (T38.setTop (mkF m 37 #[.val (.ref a1), .val (.int p2), .val (.int p3), .val (.int p4)] []))
    exact goRetV X38 hx hlk hret e38 (hb hby d1_37) (by decide) (by decide) ⟨rfl, N38, K41, F42, F43, F44⟩
theorem d4_0 : decode method_2_code 0 = .ok (.iconst 0, 1) := by decide +kernel
theorem d4_1 : decode method_2_code 1 = .ok (.istore_n 3, 1) := by decide +kernel
theorem d4_2 : decode method_2_code 2 = .ok (.iload_n 0, 1) := by decide +kernel
theorem d4_3 : decode method_2_code 3 = .ok (.ifCond .eq 7, 3) := by decide +kernel
theorem d4_6 : decode method_2_code 6 = .ok (.iload_n 3, 1) := by decide +kernel
theorem d4_7 : decode method_2_code 7 = .ok (.iconst 4, 1) := by decide +kernel
theorem d4_8 : decode method_2_code 8 = .ok (.iadd, 1) := by decide +kernel
theorem d4_9 : decode method_2_code 9 = .ok (.istore_n 3, 1) := by decide +kernel
theorem d4_10 : decode method_2_code 10 = .ok (.iload_n 1, 1) := by decide +kernel
theorem d4_11 : decode method_2_code 11 = .ok (.ifCond .eq 7, 3) := by decide +kernel
theorem d4_14 : decode method_2_code 14 = .ok (.iload_n 3, 1) := by decide +kernel
theorem d4_15 : decode method_2_code 15 = .ok (.iconst 2, 1) := by decide +kernel
theorem d4_16 : decode method_2_code 16 = .ok (.iadd, 1) := by decide +kernel
theorem d4_17 : decode method_2_code 17 = .ok (.istore_n 3, 1) := by decide +kernel
theorem d4_18 : decode method_2_code 18 = .ok (.iload_n 2, 1) := by decide +kernel
theorem d4_19 : decode method_2_code 19 = .ok (.ifCond .eq 7, 3) := by decide +kernel
theorem d4_22 : decode method_2_code 22 = .ok (.iload_n 3, 1) := by decide +kernel
theorem d4_23 : decode method_2_code 23 = .ok (.iconst 1, 1) := by decide +kernel
theorem d4_24 : decode method_2_code 24 = .ok (.iadd, 1) := by decide +kernel
theorem d4_25 : decode method_2_code 25 = .ok (.istore_n 3, 1) := by decide +kernel
theorem d4_26 : decode method_2_code 26 = .ok (.iload_n 3, 1) := by decide +kernel
theorem d4_27 : decode method_2_code 27 = .ok (.ireturn, 1) := by decide +kernel
theorem pn_4 : plainName "com/example/oghma/oghma/model/TypeAnnotationsEqualsPinLaw" = true := by first | (simp [plainName, overriddenIn]; done) | decide +kernel
set_option maxRecDepth 65536 in
set_option maxHeartbeats 40000000 in
theorem rm5 (l : Launch) (Z : State) (a0 : Array Value) (hw : ∀ d ∈ tables_1, d.before a0 Z = true) (ws : List Jvm.Cond) (p1 p2 p3 : Int32) (h0 : Heap) (n0 : Nat) (O0 : Old Z n0 h0) :
    Ctr l (⟨"com/example/oghma/oghma/model/TypeAnnotationsEqualsPinLaw", "code", "(ZZZ)I"⟩ : MethodName) method_2_code 4 (some .int) ws ({ frames := 0, cells := 0, slots := 0, locals := 0 } : Room) #[(.int p1), (.int p2), (.int p3)] Z h0 (fun v h L => v = some (.int (own_code p1 p2 p3)) ∧ Fr n0 L ∧ h = h0) := by
  have ef : ∀ m : MethodId, entryFrame m #[(.int p1), (.int p2), (.int p3)] 4 = mkF m 0 #[.val (.int p1), .val (.int p2), .val (.int p3), .unset] [] := fun m => by first | (simp [entryFrame, mkF, argsToLocals, Value.category]; done) | rfl
  refine Ctr.of (plainFor_of_name pn_4) ?_
  intro p e s m below meth c s₁ hx hZ hby hml hown0 hnm hret hlk X0 e0
  have hown : s.vm.findClass "com/example/oghma/oghma/model/TypeAnnotationsEqualsPinLaw" = some m.cls := hown0
  have N0 := Fr.nil n0
  refine Go.st (fun t k => castTop (ef m) k) ?_
  show Go p e below _ (s₁.setTop (mkF m 0 #[.val (.int p1), .val (.int p2), .val (.int p3), .unset] []))
  refine Go.st (fun _ => XS.iconst X0.here hx rfl (hb hby d4_0)) ?_
  show Go p e below _ (s₁.setTop (mkF m 1 #[.val (.int p1), .val (.int p2), .val (.int p3), .unset] [(.int (0 : Int32))]))
  refine Go.st (fun _ => XS.istoreN X0.here hx rfl (hb hby d4_1) rfl (l' := #[.val (.int p1), .val (.int p2), .val (.int p3), .val (.int (0 : Int32))]) rfl) ?_
  show Go p e below _ (s₁.setTop (mkF m 2 #[.val (.int p1), .val (.int p2), .val (.int p3), .val (.int (0 : Int32))] []))
  refine Go.st (fun _ => XS.iloadN X0.here hx rfl (hb hby d4_2) rfl) ?_
  show Go p e below _ (s₁.setTop (mkF m 3 #[.val (.int p1), .val (.int p2), .val (.int p3), .val (.int (0 : Int32))] [(.int p1)]))
  by_cases hc1 : p1 = (0 : Int32)
  · refine Go.st (fun _ => XS.ifYes X0.here hx rfl (pc0 := 3) (pc' := 10) rfl (hb hby d4_3) rfl ((if0 _ _).trans (teq hc1).1) (by decide) (by decide)) ?_
    show Go p e below _ (s₁.setTop (mkF m 10 #[.val (.int p1), .val (.int p2), .val (.int p3), .val (.int (0 : Int32))] []))
    refine Go.st (fun _ => XS.iloadN X0.here hx rfl (hb hby d4_10) rfl) ?_
    show Go p e below _ (s₁.setTop (mkF m 11 #[.val (.int p1), .val (.int p2), .val (.int p3), .val (.int (0 : Int32))] [(.int p2)]))
    by_cases hc2 : p2 = (0 : Int32)
    · refine Go.st (fun _ => XS.ifYes X0.here hx rfl (pc0 := 11) (pc' := 18) rfl (hb hby d4_11) rfl ((if0 _ _).trans (teq hc2).1) (by decide) (by decide)) ?_
      show Go p e below _ (s₁.setTop (mkF m 18 #[.val (.int p1), .val (.int p2), .val (.int p3), .val (.int (0 : Int32))] []))
      refine Go.st (fun _ => XS.iloadN X0.here hx rfl (hb hby d4_18) rfl) ?_
      show Go p e below _ (s₁.setTop (mkF m 19 #[.val (.int p1), .val (.int p2), .val (.int p3), .val (.int (0 : Int32))] [(.int p3)]))
      by_cases hc3 : p3 = (0 : Int32)
      · refine Go.st (fun _ => XS.ifYes X0.here hx rfl (pc0 := 19) (pc' := 26) rfl (hb hby d4_19) rfl ((if0 _ _).trans (teq hc3).1) (by decide) (by decide)) ?_
        show Go p e below _ (s₁.setTop (mkF m 26 #[.val (.int p1), .val (.int p2), .val (.int p3), .val (.int (0 : Int32))] []))
        refine Go.st (fun _ => XS.iloadN X0.here hx rfl (hb hby d4_26) rfl) ?_
        show Go p e below _ (s₁.setTop (mkF m 27 #[.val (.int p1), .val (.int p2), .val (.int p3), .val (.int (0 : Int32))] [(.int (0 : Int32))]))
        exact goRetI X0 hx hlk hret e0 (hb hby d4_27) (by decide) (by decide) ⟨by simp [own_code, hc1, hc2, hc3], N0, rfl⟩
      · refine Go.st (fun _ => XS.ifNo X0.here hx rfl (hb hby d4_19) rfl ((if0 _ _).trans (feq hc3).1)) ?_
        show Go p e below _ (s₁.setTop (mkF m 22 #[.val (.int p1), .val (.int p2), .val (.int p3), .val (.int (0 : Int32))] []))
        refine Go.st (fun _ => XS.iloadN X0.here hx rfl (hb hby d4_22) rfl) ?_
        show Go p e below _ (s₁.setTop (mkF m 23 #[.val (.int p1), .val (.int p2), .val (.int p3), .val (.int (0 : Int32))] [(.int (0 : Int32))]))
        refine Go.st (fun _ => XS.iconst X0.here hx rfl (hb hby d4_23)) ?_
        show Go p e below _ (s₁.setTop (mkF m 24 #[.val (.int p1), .val (.int p2), .val (.int p3), .val (.int (0 : Int32))] [(.int (1 : Int32)), (.int (0 : Int32))]))
        refine Go.st (fun _ => XS.iadd X0.here hx rfl (hb hby d4_24) rfl) ?_
        show Go p e below _ (s₁.setTop (mkF m 25 #[.val (.int p1), .val (.int p2), .val (.int p3), .val (.int (0 : Int32))] [(.int (1 : Int32))]))
        refine Go.st (fun _ => XS.istoreN X0.here hx rfl (hb hby d4_25) rfl (l' := #[.val (.int p1), .val (.int p2), .val (.int p3), .val (.int (1 : Int32))]) rfl) ?_
        show Go p e below _ (s₁.setTop (mkF m 26 #[.val (.int p1), .val (.int p2), .val (.int p3), .val (.int (1 : Int32))] []))
        refine Go.st (fun _ => XS.iloadN X0.here hx rfl (hb hby d4_26) rfl) ?_
        show Go p e below _ (s₁.setTop (mkF m 27 #[.val (.int p1), .val (.int p2), .val (.int p3), .val (.int (1 : Int32))] [(.int (1 : Int32))]))
        exact goRetI X0 hx hlk hret e0 (hb hby d4_27) (by decide) (by decide) ⟨by simp [own_code, hc1, hc2, hc3], N0, rfl⟩
    · refine Go.st (fun _ => XS.ifNo X0.here hx rfl (hb hby d4_11) rfl ((if0 _ _).trans (feq hc2).1)) ?_
      show Go p e below _ (s₁.setTop (mkF m 14 #[.val (.int p1), .val (.int p2), .val (.int p3), .val (.int (0 : Int32))] []))
      refine Go.st (fun _ => XS.iloadN X0.here hx rfl (hb hby d4_14) rfl) ?_
      show Go p e below _ (s₁.setTop (mkF m 15 #[.val (.int p1), .val (.int p2), .val (.int p3), .val (.int (0 : Int32))] [(.int (0 : Int32))]))
      refine Go.st (fun _ => XS.iconst X0.here hx rfl (hb hby d4_15)) ?_
      show Go p e below _ (s₁.setTop (mkF m 16 #[.val (.int p1), .val (.int p2), .val (.int p3), .val (.int (0 : Int32))] [(.int (2 : Int32)), (.int (0 : Int32))]))
      refine Go.st (fun _ => XS.iadd X0.here hx rfl (hb hby d4_16) rfl) ?_
      show Go p e below _ (s₁.setTop (mkF m 17 #[.val (.int p1), .val (.int p2), .val (.int p3), .val (.int (0 : Int32))] [(.int (2 : Int32))]))
      refine Go.st (fun _ => XS.istoreN X0.here hx rfl (hb hby d4_17) rfl (l' := #[.val (.int p1), .val (.int p2), .val (.int p3), .val (.int (2 : Int32))]) rfl) ?_
      show Go p e below _ (s₁.setTop (mkF m 18 #[.val (.int p1), .val (.int p2), .val (.int p3), .val (.int (2 : Int32))] []))
      refine Go.st (fun _ => XS.iloadN X0.here hx rfl (hb hby d4_18) rfl) ?_
      show Go p e below _ (s₁.setTop (mkF m 19 #[.val (.int p1), .val (.int p2), .val (.int p3), .val (.int (2 : Int32))] [(.int p3)]))
      by_cases hc4 : p3 = (0 : Int32)
      · refine Go.st (fun _ => XS.ifYes X0.here hx rfl (pc0 := 19) (pc' := 26) rfl (hb hby d4_19) rfl ((if0 _ _).trans (teq hc4).1) (by decide) (by decide)) ?_
        show Go p e below _ (s₁.setTop (mkF m 26 #[.val (.int p1), .val (.int p2), .val (.int p3), .val (.int (2 : Int32))] []))
        refine Go.st (fun _ => XS.iloadN X0.here hx rfl (hb hby d4_26) rfl) ?_
        show Go p e below _ (s₁.setTop (mkF m 27 #[.val (.int p1), .val (.int p2), .val (.int p3), .val (.int (2 : Int32))] [(.int (2 : Int32))]))
        exact goRetI X0 hx hlk hret e0 (hb hby d4_27) (by decide) (by decide) ⟨by simp [own_code, hc1, hc2, hc4], N0, rfl⟩
      · refine Go.st (fun _ => XS.ifNo X0.here hx rfl (hb hby d4_19) rfl ((if0 _ _).trans (feq hc4).1)) ?_
        show Go p e below _ (s₁.setTop (mkF m 22 #[.val (.int p1), .val (.int p2), .val (.int p3), .val (.int (2 : Int32))] []))
        refine Go.st (fun _ => XS.iloadN X0.here hx rfl (hb hby d4_22) rfl) ?_
        show Go p e below _ (s₁.setTop (mkF m 23 #[.val (.int p1), .val (.int p2), .val (.int p3), .val (.int (2 : Int32))] [(.int (2 : Int32))]))
        refine Go.st (fun _ => XS.iconst X0.here hx rfl (hb hby d4_23)) ?_
        show Go p e below _ (s₁.setTop (mkF m 24 #[.val (.int p1), .val (.int p2), .val (.int p3), .val (.int (2 : Int32))] [(.int (1 : Int32)), (.int (2 : Int32))]))
        refine Go.st (fun _ => XS.iadd X0.here hx rfl (hb hby d4_24) rfl) ?_
        show Go p e below _ (s₁.setTop (mkF m 25 #[.val (.int p1), .val (.int p2), .val (.int p3), .val (.int (2 : Int32))] [(.int (3 : Int32))]))
        refine Go.st (fun _ => XS.istoreN X0.here hx rfl (hb hby d4_25) rfl (l' := #[.val (.int p1), .val (.int p2), .val (.int p3), .val (.int (3 : Int32))]) rfl) ?_
        show Go p e below _ (s₁.setTop (mkF m 26 #[.val (.int p1), .val (.int p2), .val (.int p3), .val (.int (3 : Int32))] []))
        refine Go.st (fun _ => XS.iloadN X0.here hx rfl (hb hby d4_26) rfl) ?_
        show Go p e below _ (s₁.setTop (mkF m 27 #[.val (.int p1), .val (.int p2), .val (.int p3), .val (.int (3 : Int32))] [(.int (3 : Int32))]))
        exact goRetI X0 hx hlk hret e0 (hb hby d4_27) (by decide) (by decide) ⟨by simp [own_code, hc1, hc2, hc4], N0, rfl⟩
  · refine Go.st (fun _ => XS.ifNo X0.here hx rfl (hb hby d4_3) rfl ((if0 _ _).trans (feq hc1).1)) ?_
    show Go p e below _ (s₁.setTop (mkF m 6 #[.val (.int p1), .val (.int p2), .val (.int p3), .val (.int (0 : Int32))] []))
    refine Go.st (fun _ => XS.iloadN X0.here hx rfl (hb hby d4_6) rfl) ?_
    show Go p e below _ (s₁.setTop (mkF m 7 #[.val (.int p1), .val (.int p2), .val (.int p3), .val (.int (0 : Int32))] [(.int (0 : Int32))]))
    refine Go.st (fun _ => XS.iconst X0.here hx rfl (hb hby d4_7)) ?_
    show Go p e below _ (s₁.setTop (mkF m 8 #[.val (.int p1), .val (.int p2), .val (.int p3), .val (.int (0 : Int32))] [(.int (4 : Int32)), (.int (0 : Int32))]))
    refine Go.st (fun _ => XS.iadd X0.here hx rfl (hb hby d4_8) rfl) ?_
    show Go p e below _ (s₁.setTop (mkF m 9 #[.val (.int p1), .val (.int p2), .val (.int p3), .val (.int (0 : Int32))] [(.int (4 : Int32))]))
    refine Go.st (fun _ => XS.istoreN X0.here hx rfl (hb hby d4_9) rfl (l' := #[.val (.int p1), .val (.int p2), .val (.int p3), .val (.int (4 : Int32))]) rfl) ?_
    show Go p e below _ (s₁.setTop (mkF m 10 #[.val (.int p1), .val (.int p2), .val (.int p3), .val (.int (4 : Int32))] []))
    refine Go.st (fun _ => XS.iloadN X0.here hx rfl (hb hby d4_10) rfl) ?_
    show Go p e below _ (s₁.setTop (mkF m 11 #[.val (.int p1), .val (.int p2), .val (.int p3), .val (.int (4 : Int32))] [(.int p2)]))
    by_cases hc5 : p2 = (0 : Int32)
    · refine Go.st (fun _ => XS.ifYes X0.here hx rfl (pc0 := 11) (pc' := 18) rfl (hb hby d4_11) rfl ((if0 _ _).trans (teq hc5).1) (by decide) (by decide)) ?_
      show Go p e below _ (s₁.setTop (mkF m 18 #[.val (.int p1), .val (.int p2), .val (.int p3), .val (.int (4 : Int32))] []))
      refine Go.st (fun _ => XS.iloadN X0.here hx rfl (hb hby d4_18) rfl) ?_
      show Go p e below _ (s₁.setTop (mkF m 19 #[.val (.int p1), .val (.int p2), .val (.int p3), .val (.int (4 : Int32))] [(.int p3)]))
      by_cases hc6 : p3 = (0 : Int32)
      · refine Go.st (fun _ => XS.ifYes X0.here hx rfl (pc0 := 19) (pc' := 26) rfl (hb hby d4_19) rfl ((if0 _ _).trans (teq hc6).1) (by decide) (by decide)) ?_
        show Go p e below _ (s₁.setTop (mkF m 26 #[.val (.int p1), .val (.int p2), .val (.int p3), .val (.int (4 : Int32))] []))
        refine Go.st (fun _ => XS.iloadN X0.here hx rfl (hb hby d4_26) rfl) ?_
        show Go p e below _ (s₁.setTop (mkF m 27 #[.val (.int p1), .val (.int p2), .val (.int p3), .val (.int (4 : Int32))] [(.int (4 : Int32))]))
        exact goRetI X0 hx hlk hret e0 (hb hby d4_27) (by decide) (by decide) ⟨by simp [own_code, hc1, hc5, hc6], N0, rfl⟩
      · refine Go.st (fun _ => XS.ifNo X0.here hx rfl (hb hby d4_19) rfl ((if0 _ _).trans (feq hc6).1)) ?_
        show Go p e below _ (s₁.setTop (mkF m 22 #[.val (.int p1), .val (.int p2), .val (.int p3), .val (.int (4 : Int32))] []))
        refine Go.st (fun _ => XS.iloadN X0.here hx rfl (hb hby d4_22) rfl) ?_
        show Go p e below _ (s₁.setTop (mkF m 23 #[.val (.int p1), .val (.int p2), .val (.int p3), .val (.int (4 : Int32))] [(.int (4 : Int32))]))
        refine Go.st (fun _ => XS.iconst X0.here hx rfl (hb hby d4_23)) ?_
        show Go p e below _ (s₁.setTop (mkF m 24 #[.val (.int p1), .val (.int p2), .val (.int p3), .val (.int (4 : Int32))] [(.int (1 : Int32)), (.int (4 : Int32))]))
        refine Go.st (fun _ => XS.iadd X0.here hx rfl (hb hby d4_24) rfl) ?_
        show Go p e below _ (s₁.setTop (mkF m 25 #[.val (.int p1), .val (.int p2), .val (.int p3), .val (.int (4 : Int32))] [(.int (5 : Int32))]))
        refine Go.st (fun _ => XS.istoreN X0.here hx rfl (hb hby d4_25) rfl (l' := #[.val (.int p1), .val (.int p2), .val (.int p3), .val (.int (5 : Int32))]) rfl) ?_
        show Go p e below _ (s₁.setTop (mkF m 26 #[.val (.int p1), .val (.int p2), .val (.int p3), .val (.int (5 : Int32))] []))
        refine Go.st (fun _ => XS.iloadN X0.here hx rfl (hb hby d4_26) rfl) ?_
        show Go p e below _ (s₁.setTop (mkF m 27 #[.val (.int p1), .val (.int p2), .val (.int p3), .val (.int (5 : Int32))] [(.int (5 : Int32))]))
        exact goRetI X0 hx hlk hret e0 (hb hby d4_27) (by decide) (by decide) ⟨by simp [own_code, hc1, hc5, hc6], N0, rfl⟩
    · refine Go.st (fun _ => XS.ifNo X0.here hx rfl (hb hby d4_11) rfl ((if0 _ _).trans (feq hc5).1)) ?_
      show Go p e below _ (s₁.setTop (mkF m 14 #[.val (.int p1), .val (.int p2), .val (.int p3), .val (.int (4 : Int32))] []))
      refine Go.st (fun _ => XS.iloadN X0.here hx rfl (hb hby d4_14) rfl) ?_
      show Go p e below _ (s₁.setTop (mkF m 15 #[.val (.int p1), .val (.int p2), .val (.int p3), .val (.int (4 : Int32))] [(.int (4 : Int32))]))
      refine Go.st (fun _ => XS.iconst X0.here hx rfl (hb hby d4_15)) ?_
      show Go p e below _ (s₁.setTop (mkF m 16 #[.val (.int p1), .val (.int p2), .val (.int p3), .val (.int (4 : Int32))] [(.int (2 : Int32)), (.int (4 : Int32))]))
      refine Go.st (fun _ => XS.iadd X0.here hx rfl (hb hby d4_16) rfl) ?_
      show Go p e below _ (s₁.setTop (mkF m 17 #[.val (.int p1), .val (.int p2), .val (.int p3), .val (.int (4 : Int32))] [(.int (6 : Int32))]))
      refine Go.st (fun _ => XS.istoreN X0.here hx rfl (hb hby d4_17) rfl (l' := #[.val (.int p1), .val (.int p2), .val (.int p3), .val (.int (6 : Int32))]) rfl) ?_
      show Go p e below _ (s₁.setTop (mkF m 18 #[.val (.int p1), .val (.int p2), .val (.int p3), .val (.int (6 : Int32))] []))
      refine Go.st (fun _ => XS.iloadN X0.here hx rfl (hb hby d4_18) rfl) ?_
      show Go p e below _ (s₁.setTop (mkF m 19 #[.val (.int p1), .val (.int p2), .val (.int p3), .val (.int (6 : Int32))] [(.int p3)]))
      by_cases hc7 : p3 = (0 : Int32)
      · refine Go.st (fun _ => XS.ifYes X0.here hx rfl (pc0 := 19) (pc' := 26) rfl (hb hby d4_19) rfl ((if0 _ _).trans (teq hc7).1) (by decide) (by decide)) ?_
        show Go p e below _ (s₁.setTop (mkF m 26 #[.val (.int p1), .val (.int p2), .val (.int p3), .val (.int (6 : Int32))] []))
        refine Go.st (fun _ => XS.iloadN X0.here hx rfl (hb hby d4_26) rfl) ?_
        show Go p e below _ (s₁.setTop (mkF m 27 #[.val (.int p1), .val (.int p2), .val (.int p3), .val (.int (6 : Int32))] [(.int (6 : Int32))]))
        exact goRetI X0 hx hlk hret e0 (hb hby d4_27) (by decide) (by decide) ⟨by simp [own_code, hc1, hc5, hc7], N0, rfl⟩
      · refine Go.st (fun _ => XS.ifNo X0.here hx rfl (hb hby d4_19) rfl ((if0 _ _).trans (feq hc7).1)) ?_
        show Go p e below _ (s₁.setTop (mkF m 22 #[.val (.int p1), .val (.int p2), .val (.int p3), .val (.int (6 : Int32))] []))
        refine Go.st (fun _ => XS.iloadN X0.here hx rfl (hb hby d4_22) rfl) ?_
        show Go p e below _ (s₁.setTop (mkF m 23 #[.val (.int p1), .val (.int p2), .val (.int p3), .val (.int (6 : Int32))] [(.int (6 : Int32))]))
        refine Go.st (fun _ => XS.iconst X0.here hx rfl (hb hby d4_23)) ?_
        show Go p e below _ (s₁.setTop (mkF m 24 #[.val (.int p1), .val (.int p2), .val (.int p3), .val (.int (6 : Int32))] [(.int (1 : Int32)), (.int (6 : Int32))]))
        refine Go.st (fun _ => XS.iadd X0.here hx rfl (hb hby d4_24) rfl) ?_
        show Go p e below _ (s₁.setTop (mkF m 25 #[.val (.int p1), .val (.int p2), .val (.int p3), .val (.int (6 : Int32))] [(.int (7 : Int32))]))
        refine Go.st (fun _ => XS.istoreN X0.here hx rfl (hb hby d4_25) rfl (l' := #[.val (.int p1), .val (.int p2), .val (.int p3), .val (.int (7 : Int32))]) rfl) ?_
        show Go p e below _ (s₁.setTop (mkF m 26 #[.val (.int p1), .val (.int p2), .val (.int p3), .val (.int (7 : Int32))] []))
        refine Go.st (fun _ => XS.iloadN X0.here hx rfl (hb hby d4_26) rfl) ?_
        show Go p e below _ (s₁.setTop (mkF m 27 #[.val (.int p1), .val (.int p2), .val (.int p3), .val (.int (7 : Int32))] [(.int (7 : Int32))]))
        exact goRetI X0 hx hlk hret e0 (hb hby d4_27) (by decide) (by decide) ⟨by simp [own_code, hc1, hc5, hc7], N0, rfl⟩
theorem d5_0 : decode prog_85_method_5_code 0 = .ok (.aload_n 1, 1) := by decide +kernel
theorem d5_1 : decode prog_85_method_5_code 1 = .ok (.instanceof 15, 3) := by decide +kernel
theorem d5_4 : decode prog_85_method_5_code 4 = .ok (.ifCond .eq 45, 3) := by decide +kernel
theorem d5_7 : decode prog_85_method_5_code 7 = .ok (.aload_n 1, 1) := by decide +kernel
theorem d5_8 : decode prog_85_method_5_code 8 = .ok (.checkcast 15, 3) := by decide +kernel
theorem d5_11 : decode prog_85_method_5_code 11 = .ok (.astore_n 2, 1) := by decide +kernel
theorem d5_12 : decode prog_85_method_5_code 12 = .ok (.aload_n 0, 1) := by decide +kernel
theorem d5_13 : decode prog_85_method_5_code 13 = .ok (.getfield 14, 3) := by decide +kernel
theorem d5_16 : decode prog_85_method_5_code 16 = .ok (.aload_n 2, 1) := by decide +kernel
theorem d5_17 : decode prog_85_method_5_code 17 = .ok (.getfield 14, 3) := by decide +kernel
theorem d5_20 : decode prog_85_method_5_code 20 = .ok (.if_icmp .ne 29, 3) := by decide +kernel
theorem d5_23 : decode prog_85_method_5_code 23 = .ok (.aload_n 0, 1) := by decide +kernel
theorem d5_24 : decode prog_85_method_5_code 24 = .ok (.getfield 20, 3) := by decide +kernel
theorem d5_27 : decode prog_85_method_5_code 27 = .ok (.aload_n 2, 1) := by decide +kernel
theorem d5_28 : decode prog_85_method_5_code 28 = .ok (.getfield 20, 3) := by decide +kernel
theorem d5_31 : decode prog_85_method_5_code 31 = .ok (.if_icmp .ne 18, 3) := by decide +kernel
theorem d5_34 : decode prog_85_method_5_code 34 = .ok (.aload_n 0, 1) := by decide +kernel
theorem d5_35 : decode prog_85_method_5_code 35 = .ok (.getfield 23, 3) := by decide +kernel
theorem d5_38 : decode prog_85_method_5_code 38 = .ok (.aload_n 2, 1) := by decide +kernel
theorem d5_39 : decode prog_85_method_5_code 39 = .ok (.getfield 23, 3) := by decide +kernel
theorem d5_42 : decode prog_85_method_5_code 42 = .ok (.if_icmp .ne 7, 3) := by decide +kernel
theorem d5_45 : decode prog_85_method_5_code 45 = .ok (.iconst 1, 1) := by decide +kernel
theorem d5_46 : decode prog_85_method_5_code 46 = .ok (.goto 4, 3) := by decide +kernel
theorem d5_49 : decode prog_85_method_5_code 49 = .ok (.iconst 0, 1) := by decide +kernel
theorem d5_50 : decode prog_85_method_5_code 50 = .ok (.ireturn, 1) := by decide +kernel
theorem pn_5 : plainName "com/example/oghma/oghma/model/TypeAnnotations" = true := by first | (simp [plainName, overriddenIn]; done) | decide +kernel
set_option maxRecDepth 65536 in
set_option maxHeartbeats 40000000 in
theorem rm2 (l : Launch) (Z : State) (a0 : Array Value) (hw : ∀ d ∈ tables_1, d.before a0 Z = true) (ws : List Jvm.Cond) (a1 a2 : Addr) (p1 p2 p3 q1 q2 q3 : Int32) (h0 : Heap) (n0 : Nat) (O0 : Old Z n0 h0) (A2 : Exa Z h0 a2 "com/example/oghma/oghma/model/TypeAnnotations") (Fa10 : Fld Z h0 a1 "com/example/oghma/oghma/model/TypeAnnotations" "nullable" "Z" (.int p1)) (Fa11 : Fld Z h0 a1 "com/example/oghma/oghma/model/TypeAnnotations" "onHeap" "Z" (.int p2)) (Fa12 : Fld Z h0 a1 "com/example/oghma/oghma/model/TypeAnnotations" "utf8InCpp" "Z" (.int p3)) (Fa20 : Fld Z h0 a2 "com/example/oghma/oghma/model/TypeAnnotations" "nullable" "Z" (.int q1)) (Fa21 : Fld Z h0 a2 "com/example/oghma/oghma/model/TypeAnnotations" "onHeap" "Z" (.int q2)) (Fa22 : Fld Z h0 a2 "com/example/oghma/oghma/model/TypeAnnotations" "utf8InCpp" "Z" (.int q3)) :
    Ctr l (⟨"com/example/oghma/oghma/model/TypeAnnotations", "equals", "(Ljava/lang/Object;)Z"⟩ : MethodName) prog_85_method_5_code 3 (some .boolean) ws ({ frames := 0, cells := 0, slots := 0, locals := 0 } : Room) #[(.ref a1), (.ref a2)] Z h0 (fun v h L => v = some (.int (if p1 = q1 ∧ p2 = q2 ∧ p3 = q3 then 1 else 0)) ∧ Fr n0 L ∧ h = h0) := by
  have ef : ∀ m : MethodId, entryFrame m #[(.ref a1), (.ref a2)] 3 = mkF m 0 #[.val (.ref a1), .val (.ref a2), .unset] [] := fun m => by first | (simp [entryFrame, mkF, argsToLocals, Value.category]; done) | rfl
  refine Ctr.of (plainFor_of_name pn_5) ?_
  intro p e s m below meth c s₁ hx hZ hby hml hown0 hnm hret hlk X0 e0
  have hown : s.vm.findClass "com/example/oghma/oghma/model/TypeAnnotations" = some m.cls := hown0
  have N0 := Fr.nil n0
  refine Go.st (fun t k => castTop (ef m) k) ?_
  show Go p e below _ (s₁.setTop (mkF m 0 #[.val (.ref a1), .val (.ref a2), .unset] []))
  refine Go.st (fun _ => XS.aloadN X0.here hx rfl (hb hby d5_0) rfl rfl) ?_
  show Go p e below _ (s₁.setTop (mkF m 1 #[.val (.ref a1), .val (.ref a2), .unset] [(.ref a2)]))
  obtain ⟨T1, X1, e1, st1⟩ := instY X0 hx hZ hown (hw _ (List.mem_of_getElem? (i := 31) rfl)) e0 (Ins.self A2) (g := (mkF m 1 #[.val (.ref a1), .val (.ref a2), .unset] [(.ref a2)])) rfl rfl (hb hby d5_1)
  refine Go.st st1 ?_
  show Go p e below _ (T1.setTop (mkF m 4 #[.val (.ref a1), .val (.ref a2), .unset] [(.int (1 : Int32))]))
  refine Go.st (fun _ => XS.ifNo X1.here hx rfl (hb hby d5_4) rfl ((if0 _ _).trans (feq (by decide : ¬ ((1 : Int32) = (0 : Int32)))).1)) ?_
  show Go p e below _ (T1.setTop (mkF m 7 #[.val (.ref a1), .val (.ref a2), .unset] []))
  refine Go.st (fun _ => XS.aloadN X1.here hx rfl (hb hby d5_7) rfl rfl) ?_
  show Go p e below _ (T1.setTop (mkF m 8 #[.val (.ref a1), .val (.ref a2), .unset] [(.ref a2)]))
  obtain ⟨T2, X2, e2, st2⟩ := castY X1 hx hZ hown (hw _ (List.mem_of_getElem? (i := 31) rfl)) e1 (Ins.self A2) (g := (mkF m 8 #[.val (.ref a1), .val (.ref a2), .unset] [(.ref a2)])) rfl rfl (hb hby d5_8)
  refine Go.st st2 ?_
  show Go p e below _ (T2.setTop (mkF m 11 #[.val (.ref a1), .val (.ref a2), .unset] [(.ref a2)]))
  refine Go.st (fun _ => XS.astoreN X2.here hx rfl (hb hby d5_11) rfl rfl (l' := #[.val (.ref a1), .val (.ref a2), .val (.ref a2)]) rfl) ?_
  show Go p e below _ (T2.setTop (mkF m 12 #[.val (.ref a1), .val (.ref a2), .val (.ref a2)] []))
  refine Go.st (fun _ => XS.aloadN X2.here hx rfl (hb hby d5_12) rfl rfl) ?_
  show Go p e below _ (T2.setTop (mkF m 13 #[.val (.ref a1), .val (.ref a2), .val (.ref a2)] [(.ref a1)]))
  obtain ⟨T3, X3, e3, st3⟩ := getF X2 hx hZ hown (host := "") (Or.inl (hw _ (List.mem_of_getElem? (i := 9) rfl))) Via.refl e2 Fa10 (g := (mkF m 13 #[.val (.ref a1), .val (.ref a2), .val (.ref a2)] [(.ref a1)])) rfl rfl (hb hby d5_13)
  refine Go.st st3 ?_
  show Go p e below _ (T3.setTop (mkF m 16 #[.val (.ref a1), .val (.ref a2), .val (.ref a2)] [(.int p1)]))
  refine Go.st (fun _ => XS.aloadN X3.here hx rfl (hb hby d5_16) rfl rfl) ?_
  show Go p e below _ (T3.setTop (mkF m 17 #[.val (.ref a1), .val (.ref a2), .val (.ref a2)] [(.ref a2), (.int p1)]))
  obtain ⟨T4, X4, e4, st4⟩ := getF X3 hx hZ hown (host := "") (Or.inl (hw _ (List.mem_of_getElem? (i := 9) rfl))) Via.refl e3 Fa20 (g := (mkF m 17 #[.val (.ref a1), .val (.ref a2), .val (.ref a2)] [(.ref a2), (.int p1)])) rfl rfl (hb hby d5_17)
  refine Go.st st4 ?_
  show Go p e below _ (T4.setTop (mkF m 20 #[.val (.ref a1), .val (.ref a2), .val (.ref a2)] [(.int q1), (.int p1)]))
  by_cases hc5 : p1 = q1
  · refine Go.st (fun _ => XS.icmpNo X4.here hx rfl (hb hby d5_20) rfl (teq hc5).2) ?_
    show Go p e below _ (T4.setTop (mkF m 23 #[.val (.ref a1), .val (.ref a2), .val (.ref a2)] []))
    refine Go.st (fun _ => XS.aloadN X4.here hx rfl (hb hby d5_23) rfl rfl) ?_
    show Go p e below _ (T4.setTop (mkF m 24 #[.val (.ref a1), .val (.ref a2), .val (.ref a2)] [(.ref a1)]))
    obtain ⟨T6, X6, e6, st6⟩ := getF X4 hx hZ hown (host := "") (Or.inl (hw _ (List.mem_of_getElem? (i := 11) rfl))) Via.refl e4 Fa11 (g := (mkF m 24 #[.val (.ref a1), .val (.ref a2), .val (.ref a2)] [(.ref a1)])) rfl rfl (hb hby d5_24)
    refine Go.st st6 ?_
    show Go p e below _ (T6.setTop (mkF m 27 #[.val (.ref a1), .val (.ref a2), .val (.ref a2)] [(.int p2)]))
    refine Go.st (fun _ => XS.aloadN X6.here hx rfl (hb hby d5_27) rfl rfl) ?_
    show Go p e below _ (T6.setTop (mkF m 28 #[.val (.ref a1), .val (.ref a2), .val (.ref a2)] [(.ref a2), (.int p2)]))
    obtain ⟨T7, X7, e7, st7⟩ := getF X6 hx hZ hown (host := "") (Or.inl (hw _ (List.mem_of_getElem? (i := 11) rfl))) Via.refl e6 Fa21 (g := (mkF m 28 #[.val (.ref a1), .val (.ref a2), .val (.ref a2)] [(.ref a2), (.int p2)])) rfl rfl (hb hby d5_28)
    refine Go.st st7 ?_
    show Go p e below _ (T7.setTop (mkF m 31 #[.val (.ref a1), .val (.ref a2), .val (.ref a2)] [(.int q2), (.int p2)]))
    by_cases hc8 : p2 = q2
    · refine Go.st (fun _ => XS.icmpNo X7.here hx rfl (hb hby d5_31) rfl (teq hc8).2) ?_
      show Go p e below _ (T7.setTop (mkF m 34 #[.val (.ref a1), .val (.ref a2), .val (.ref a2)] []))
      refine Go.st (fun _ => XS.aloadN X7.here hx rfl (hb hby d5_34) rfl rfl) ?_
      show Go p e below _ (T7.setTop (mkF m 35 #[.val (.ref a1), .val (.ref a2), .val (.ref a2)] [(.ref a1)]))
      obtain ⟨T9, X9, e9, st9⟩ := getF X7 hx hZ hown (host := "") (Or.inl (hw _ (List.mem_of_getElem? (i := 13) rfl))) Via.refl e7 Fa12 (g := (mkF m 35 #[.val (.ref a1), .val (.ref a2), .val (.ref a2)] [(.ref a1)])) rfl rfl (hb hby d5_35)
      refine Go.st st9 ?_
      show Go p e below _ (T9.setTop (mkF m 38 #[.val (.ref a1), .val (.ref a2), .val (.ref a2)] [(.int p3)]))
      refine Go.st (fun _ => XS.aloadN X9.here hx rfl (hb hby d5_38) rfl rfl) ?_
      show Go p e below _ (T9.setTop (mkF m 39 #[.val (.ref a1), .val (.ref a2), .val (.ref a2)] [(.ref a2), (.int p3)]))
      obtain ⟨T10, X10, e10, st10⟩ := getF X9 hx hZ hown (host := "") (Or.inl (hw _ (List.mem_of_getElem? (i := 13) rfl))) Via.refl e9 Fa22 (g := (mkF m 39 #[.val (.ref a1), .val (.ref a2), .val (.ref a2)] [(.ref a2), (.int p3)])) rfl rfl (hb hby d5_39)
      refine Go.st st10 ?_
      show Go p e below _ (T10.setTop (mkF m 42 #[.val (.ref a1), .val (.ref a2), .val (.ref a2)] [(.int q3), (.int p3)]))
      by_cases hc11 : p3 = q3
      · refine Go.st (fun _ => XS.icmpNo X10.here hx rfl (hb hby d5_42) rfl (teq hc11).2) ?_
        show Go p e below _ (T10.setTop (mkF m 45 #[.val (.ref a1), .val (.ref a2), .val (.ref a2)] []))
        refine Go.st (fun _ => XS.iconst X10.here hx rfl (hb hby d5_45)) ?_
        show Go p e below _ (T10.setTop (mkF m 46 #[.val (.ref a1), .val (.ref a2), .val (.ref a2)] [(.int (1 : Int32))]))
        refine Go.st (fun _ => XS.goto X10.here hx rfl (pc0 := 46) (pc' := 50) rfl (hb hby d5_46) (by decide) (by decide)) ?_
        show Go p e below _ (T10.setTop (mkF m 50 #[.val (.ref a1), .val (.ref a2), .val (.ref a2)] [(.int (1 : Int32))]))
        exact goRetN X10 hx hlk hret (t := .boolean) (by simp) (w := (1 : Int32)) (by decide) e10 (hb hby d5_50) (by decide) (by decide) ⟨by simp [hc5, hc8, hc11], N0, rfl⟩
      · refine Go.st (fun _ => XS.icmpYes X10.here hx rfl (pc0 := 42) (pc' := 49) rfl (hb hby d5_42) rfl (feq hc11).2 (by decide) (by decide)) ?_
        show Go p e below _ (T10.setTop (mkF m 49 #[.val (.ref a1), .val (.ref a2), .val (.ref a2)] []))
        refine Go.st (fun _ => XS.iconst X10.here hx rfl (hb hby d5_49)) ?_
        show Go p e below _ (T10.setTop (mkF m 50 #[.val (.ref a1), .val (.ref a2), .val (.ref a2)] [(.int (0 : Int32))]))
        exact goRetN X10 hx hlk hret (t := .boolean) (by simp) (w := (0 : Int32)) (by decide) e10 (hb hby d5_50) (by decide) (by decide) ⟨by simp [hc5, hc8, hc11], N0, rfl⟩
    · refine Go.st (fun _ => XS.icmpYes X7.here hx rfl (pc0 := 31) (pc' := 49) rfl (hb hby d5_31) rfl (feq hc8).2 (by decide) (by decide)) ?_
      show Go p e below _ (T7.setTop (mkF m 49 #[.val (.ref a1), .val (.ref a2), .val (.ref a2)] []))
      refine Go.st (fun _ => XS.iconst X7.here hx rfl (hb hby d5_49)) ?_
      show Go p e below _ (T7.setTop (mkF m 50 #[.val (.ref a1), .val (.ref a2), .val (.ref a2)] [(.int (0 : Int32))]))
      exact goRetN X7 hx hlk hret (t := .boolean) (by simp) (w := (0 : Int32)) (by decide) e7 (hb hby d5_50) (by decide) (by decide) ⟨by simp [hc5, hc8], N0, rfl⟩
  · refine Go.st (fun _ => XS.icmpYes X4.here hx rfl (pc0 := 20) (pc' := 49) rfl (hb hby d5_20) rfl (feq hc5).2 (by decide) (by decide)) ?_
    show Go p e below _ (T4.setTop (mkF m 49 #[.val (.ref a1), .val (.ref a2), .val (.ref a2)] []))
    refine Go.st (fun _ => XS.iconst X4.here hx rfl (hb hby d5_49)) ?_
    show Go p e below _ (T4.setTop (mkF m 50 #[.val (.ref a1), .val (.ref a2), .val (.ref a2)] [(.int (0 : Int32))]))
    exact goRetN X4 hx hlk hret (t := .boolean) (by simp) (w := (0 : Int32)) (by decide) e4 (hb hby d5_50) (by decide) (by decide) ⟨by simp [hc5], N0, rfl⟩
set_option maxRecDepth 65536 in
set_option maxHeartbeats 40000000 in
theorem rm3 (l : Launch) (Z : State) (a0 : Array Value) (hw : ∀ d ∈ tables_1, d.before a0 Z = true) (ws : List Jvm.Cond) (a1 : Addr) (h0 : Heap) (n0 : Nat) (O0 : Old Z n0 h0) :
    Ctr l (⟨"com/example/oghma/oghma/model/TypeAnnotations", "equals", "(Ljava/lang/Object;)Z"⟩ : MethodName) prog_85_method_5_code 3 (some .boolean) ws ({ frames := 0, cells := 0, slots := 0, locals := 0 } : Room) #[(.ref a1), .null] Z h0 (fun v h L => v = some (.int 0) ∧ Fr n0 L ∧ h = h0) := by
  have ef : ∀ m : MethodId, entryFrame m #[(.ref a1), .null] 3 = mkF m 0 #[.val (.ref a1), .val .null, .unset] [] := fun m => by first | (simp [entryFrame, mkF, argsToLocals, Value.category]; done) | rfl
  refine Ctr.of (plainFor_of_name pn_5) ?_
  intro p e s m below meth c s₁ hx hZ hby hml hown0 hnm hret hlk X0 e0
  have hown : s.vm.findClass "com/example/oghma/oghma/model/TypeAnnotations" = some m.cls := hown0
  have N0 := Fr.nil n0
  refine Go.st (fun t k => castTop (ef m) k) ?_
  show Go p e below _ (s₁.setTop (mkF m 0 #[.val (.ref a1), .val .null, .unset] []))
  refine Go.st (fun _ => XS.aloadN X0.here hx rfl (hb hby d5_0) rfl rfl) ?_
  show Go p e below _ (s₁.setTop (mkF m 1 #[.val (.ref a1), .val .null, .unset] [.null]))
  refine Go.st (fun _ => X0.instanceofNull hx (g := (mkF m 1 #[.val (.ref a1), .val .null, .unset] [.null])) rfl rfl (hb hby d5_1) _) ?_
  show Go p e below _ (s₁.setTop (mkF m 4 #[.val (.ref a1), .val .null, .unset] [(.int (0 : Int32))]))
  refine Go.st (fun _ => XS.ifYes X0.here hx rfl (pc0 := 4) (pc' := 49) rfl (hb hby d5_4) rfl ((if0 _ _).trans (teq (by decide : (0 : Int32) = (0 : Int32))).1) (by decide) (by decide)) ?_
  show Go p e below _ (s₁.setTop (mkF m 49 #[.val (.ref a1), .val .null, .unset] []))
  refine Go.st (fun _ => XS.iconst X0.here hx rfl (hb hby d5_49)) ?_
  show Go p e below _ (s₁.setTop (mkF m 50 #[.val (.ref a1), .val .null, .unset] [(.int (0 : Int32))]))
  exact goRetN X0 hx hlk hret (t := .boolean) (by simp) (w := (0 : Int32)) (by decide) e0 (hb hby d5_50) (by decide) (by decide) ⟨rfl, N0, rfl⟩
set_option maxRecDepth 65536 in
set_option maxHeartbeats 40000000 in
theorem rm4 (l : Launch) (Z : State) (a0 : Array Value) (hw : ∀ d ∈ tables_1, d.before a0 Z = true) (ws : List Jvm.Cond) (a1 a2 : Addr) (h0 : Heap) (n0 : Nat) (O0 : Old Z n0 h0) (A2 : Exa Z h0 a2 "java/lang/Integer") :
    Ctr l (⟨"com/example/oghma/oghma/model/TypeAnnotations", "equals", "(Ljava/lang/Object;)Z"⟩ : MethodName) prog_85_method_5_code 3 (some .boolean) ws ({ frames := 0, cells := 0, slots := 0, locals := 0 } : Room) #[(.ref a1), (.ref a2)] Z h0 (fun v h L => v = some (.int 0) ∧ Fr n0 L ∧ h = h0) := by
  have ef : ∀ m : MethodId, entryFrame m #[(.ref a1), (.ref a2)] 3 = mkF m 0 #[.val (.ref a1), .val (.ref a2), .unset] [] := fun m => by first | (simp [entryFrame, mkF, argsToLocals, Value.category]; done) | rfl
  refine Ctr.of (plainFor_of_name pn_5) ?_
  intro p e s m below meth c s₁ hx hZ hby hml hown0 hnm hret hlk X0 e0
  have hown : s.vm.findClass "com/example/oghma/oghma/model/TypeAnnotations" = some m.cls := hown0
  have N0 := Fr.nil n0
  refine Go.st (fun t k => castTop (ef m) k) ?_
  show Go p e below _ (s₁.setTop (mkF m 0 #[.val (.ref a1), .val (.ref a2), .unset] []))
  refine Go.st (fun _ => XS.aloadN X0.here hx rfl (hb hby d5_0) rfl rfl) ?_
  show Go p e below _ (s₁.setTop (mkF m 1 #[.val (.ref a1), .val (.ref a2), .unset] [(.ref a2)]))
  obtain ⟨T1, X1, e1, st1⟩ := instNo X0 hx hZ hown (hw _ (List.mem_of_getElem? (i := 31) rfl)) e0 A2 (nsNo (hw _ (List.mem_of_getElem? (i := 33) rfl)) (hw _ (List.mem_of_getElem? (i := 1) rfl)) (NS.step (hw _ (List.mem_of_getElem? (i := 33) rfl)) (NS.step (hw _ (List.mem_of_getElem? (i := 34) rfl)) (nsRoot (hw _ (List.mem_of_getElem? (i := 35) rfl)) (hw _ (List.mem_of_getElem? (i := 1) rfl)) (by decide)) (by decide)) (by decide)) (by decide)) (g := (mkF m 1 #[.val (.ref a1), .val (.ref a2), .unset] [(.ref a2)])) rfl rfl (hb hby d5_1)
  refine Go.st st1 ?_
  show Go p e below _ (T1.setTop (mkF m 4 #[.val (.ref a1), .val (.ref a2), .unset] [(.int (0 : Int32))]))
  refine Go.st (fun _ => XS.ifYes X1.here hx rfl (pc0 := 4) (pc' := 49) rfl (hb hby d5_4) rfl ((if0 _ _).trans (teq (by decide : (0 : Int32) = (0 : Int32))).1) (by decide) (by decide)) ?_
  show Go p e below _ (T1.setTop (mkF m 49 #[.val (.ref a1), .val (.ref a2), .unset] []))
  refine Go.st (fun _ => XS.iconst X1.here hx rfl (hb hby d5_49)) ?_
  show Go p e below _ (T1.setTop (mkF m 50 #[.val (.ref a1), .val (.ref a2), .unset] [(.int (0 : Int32))]))
  exact goRetN X1 hx hlk hret (t := .boolean) (by simp) (w := (0 : Int32)) (by decide) e1 (hb hby d5_50) (by decide) (by decide) ⟨rfl, N0, rfl⟩
theorem pn_0 : plainName "com/example/oghma/oghma/model/TypeAnnotationsEqualsPinLaw" = true := by first | (simp [plainName, overriddenIn]; done) | decide +kernel
set_option maxRecDepth 65536 in
set_option maxHeartbeats 40000000 in
theorem rm0 (l : Launch) (Z : State) (a0 : Array Value) (hw : ∀ d ∈ tables_1, d.before a0 Z = true) (ws : List Jvm.Cond) (p0 p1 : Int32) (wc : Addr) (cl : Cell) (h0 : Heap) (n0 : Nat) (O0 : Old Z n0 h0) (S_cache : Sta Z Z.heap "java/lang/Integer$IntegerCache" "cache" "[Ljava/lang/Integer;" (.ref wc)) (S_high : Sta Z Z.heap "java/lang/Integer$IntegerCache" "high" "I" (.int (127 : Int32))) (BX : Bxs Z wc cl "java/lang/Integer" "I" 256 (fun j => .int (j - 128))) :
    Ctr l x code maxLocals ret ws room_1 #[(.int p0), (.int p1)] Z h0 (fun v h L => v = some (.int 1) ∧ Fr n0 L) := by
  have ef : ∀ m : MethodId, entryFrame m #[(.int p0), (.int p1)] 16 = mkF m 0 #[.val (.int p0), .val (.int p1), .unset, .unset, .unset, .unset, .unset, .unset, .unset, .unset, .unset, .unset, .unset, .unset, .unset, .unset] [] := fun m => by first | (simp [entryFrame, mkF, argsToLocals, Value.category]; done) | rfl
  refine Ctr.of (plainFor_of_name pn_0) ?_
  intro p e s m below meth c s₁ hx hZ hby hml hown0 hnm hret hlk X0 e0
  have hown : s.vm.findClass "com/example/oghma/oghma/model/TypeAnnotationsEqualsPinLaw" = some m.cls := hown0
  have N0 := Fr.nil n0
  refine Go.st (fun t k => castTop (ef m) k) ?_
  show Go p e below _ (s₁.setTop (mkF m 0 #[.val (.int p0), .val (.int p1), .unset, .unset, .unset, .unset, .unset, .unset, .unset, .unset, .unset, .unset, .unset, .unset, .unset, .unset] []))
  refine Go.st (fun _ => XS.iloadN X0.here hx rfl (hb hby at_0) rfl) ?_
  show Go p e below _ (s₁.setTop (mkF m 1 #[.val (.int p0), .val (.int p1), .unset, .unset, .unset, .unset, .unset, .unset, .unset, .unset, .unset, .unset, .unset, .unset, .unset, .unset] [(.int p0)]))
  refine Go.st (fun _ => XS.iconst X0.here hx rfl (hb hby at_1)) ?_
  show Go p e below _ (s₁.setTop (mkF m 2 #[.val (.int p0), .val (.int p1), .unset, .unset, .unset, .unset, .unset, .unset, .unset, .unset, .unset, .unset, .unset, .unset, .unset, .unset] [(.int (1 : Int32)), (.int p0)]))
  refine Go.st (fun _ => XS.iand X0.here hx rfl (hb hby at_2) rfl) ?_
  show Go p e below _ (s₁.setTop (mkF m 3 #[.val (.int p0), .val (.int p1), .unset, .unset, .unset, .unset, .unset, .unset, .unset, .unset, .unset, .unset, .unset, .unset, .unset, .unset] [(.int (p0 &&& (1 : Int32)))]))
  refine goJoin (P := fun z1 : Int32 => z1 = (if ¬ (p0 &&& (1 : Int32)) = (0 : Int32) then (1 : Int32) else 0)) (F := fun z1 => s₁.setTop (mkF m 11 #[.val (.int p0), .val (.int p1), .unset, .unset, .unset, .unset, .unset, .unset, .unset, .unset, .unset, .unset, .unset, .unset, .unset, .unset] [(.int z1)])) (fun z1 hz1 => ?_) (fun J1 => ?_)
  · have hbz1 : z1 = 0 ∨ z1 = 1 := own_bit hz1
    show Go p e below _ (s₁.setTop (mkF m 11 #[.val (.int p0), .val (.int p1), .unset, .unset, .unset, .unset, .unset, .unset, .unset, .unset, .unset, .unset, .unset, .unset, .unset, .unset] [(.int z1)]))
    refine Go.st (fun _ => XS.istoreN X0.here hx rfl (hb hby at_11) rfl (l' := #[.val (.int p0), .val (.int p1), .val (.int z1), .unset, .unset, .unset, .unset, .unset, .unset, .unset, .unset, .unset, .unset, .unset, .unset, .unset]) rfl) ?_
    show Go p e below _ (s₁.setTop (mkF m 12 #[.val (.int p0), .val (.int p1), .val (.int z1), .unset, .unset, .unset, .unset, .unset, .unset, .unset, .unset, .unset, .unset, .unset, .unset, .unset] []))
    refine Go.st (fun _ => XS.iloadN X0.here hx rfl (hb hby at_12) rfl) ?_
    show Go p e below _ (s₁.setTop (mkF m 13 #[.val (.int p0), .val (.int p1), .val (.int z1), .unset, .unset, .unset, .unset, .unset, .unset, .unset, .unset, .unset, .unset, .unset, .unset, .unset] [(.int z1)]))
    refine goJoin (P := fun z2 : Int32 => z2 = (if ¬ z1 = (0 : Int32) ∧ ¬ (p0 &&& (2 : Int32)) = (0 : Int32) then (1 : Int32) else 0)) (F := fun z2 => s₁.setTop (mkF m 27 #[.val (.int p0), .val (.int p1), .val (.int z1), .unset, .unset, .unset, .unset, .unset, .unset, .unset, .unset, .unset, .unset, .unset, .unset, .unset] [(.int z2)])) (fun z2 hz2 => ?_) (fun J2 => ?_)
    · have hbz2 : z2 = 0 ∨ z2 = 1 := own_bit hz2
      show Go p e below _ (s₁.setTop (mkF m 27 #[.val (.int p0), .val (.int p1), .val (.int z1), .unset, .unset, .unset, .unset, .unset, .unset, .unset, .unset, .unset, .unset, .unset, .unset, .unset] [(.int z2)]))
      refine Go.st (fun _ => XS.istoreN X0.here hx rfl (hb hby at_27) rfl (l' := #[.val (.int p0), .val (.int p1), .val (.int z1), .val (.int z2), .unset, .unset, .unset, .unset, .unset, .unset, .unset, .unset, .unset, .unset, .unset, .unset]) rfl) ?_
      show Go p e below _ (s₁.setTop (mkF m 28 #[.val (.int p0), .val (.int p1), .val (.int z1), .val (.int z2), .unset, .unset, .unset, .unset, .unset, .unset, .unset, .unset, .unset, .unset, .unset, .unset] []))
      refine Go.st (fun _ => XS.iloadN X0.here hx rfl (hb hby at_28) rfl) ?_
      show Go p e below _ (s₁.setTop (mkF m 29 #[.val (.int p0), .val (.int p1), .val (.int z1), .val (.int z2), .unset, .unset, .unset, .unset, .unset, .unset, .unset, .unset, .unset, .unset, .unset, .unset] [(.int p0)]))
      refine Go.st (fun _ => XS.iconst X0.here hx rfl (hb hby at_29)) ?_
      show Go p e below _ (s₁.setTop (mkF m 30 #[.val (.int p0), .val (.int p1), .val (.int z1), .val (.int z2), .unset, .unset, .unset, .unset, .unset, .unset, .unset, .unset, .unset, .unset, .unset, .unset] [(.int (4 : Int32)), (.int p0)]))
      refine Go.st (fun _ => XS.iand X0.here hx rfl (hb hby at_30) rfl) ?_
      show Go p e below _ (s₁.setTop (mkF m 31 #[.val (.int p0), .val (.int p1), .val (.int z1), .val (.int z2), .unset, .unset, .unset, .unset, .unset, .unset, .unset, .unset, .unset, .unset, .unset, .unset] [(.int (p0 &&& (4 : Int32)))]))
      refine goJoin (P := fun z3 : Int32 => z3 = (if ¬ (p0 &&& (4 : Int32)) = (0 : Int32) then (1 : Int32) else 0)) (F := fun z3 => s₁.setTop (mkF m 39 #[.val (.int p0), .val (.int p1), .val (.int z1), .val (.int z2), .unset, .unset, .unset, .unset, .unset, .unset, .unset, .unset, .unset, .unset, .unset, .unset] [(.int z3)])) (fun z3 hz3 => ?_) (fun J3 => ?_)
      · have hbz3 : z3 = 0 ∨ z3 = 1 := own_bit hz3
        show Go p e below _ (s₁.setTop (mkF m 39 #[.val (.int p0), .val (.int p1), .val (.int z1), .val (.int z2), .unset, .unset, .unset, .unset, .unset, .unset, .unset, .unset, .unset, .unset, .unset, .unset] [(.int z3)]))
        refine Go.st (fun _ => XS.istore X0.here hx rfl (hb hby at_39) rfl (l' := #[.val (.int p0), .val (.int p1), .val (.int z1), .val (.int z2), .val (.int z3), .unset, .unset, .unset, .unset, .unset, .unset, .unset, .unset, .unset, .unset, .unset]) rfl) ?_
        show Go p e below _ (s₁.setTop (mkF m 41 #[.val (.int p0), .val (.int p1), .val (.int z1), .val (.int z2), .val (.int z3), .unset, .unset, .unset, .unset, .unset, .unset, .unset, .unset, .unset, .unset, .unset] []))
        refine Go.st (fun _ => XS.iloadN X0.here hx rfl (hb hby at_41) rfl) ?_
        show Go p e below _ (s₁.setTop (mkF m 42 #[.val (.int p0), .val (.int p1), .val (.int z1), .val (.int z2), .val (.int z3), .unset, .unset, .unset, .unset, .unset, .unset, .unset, .unset, .unset, .unset, .unset] [(.int p1)]))
        refine Go.st (fun _ => XS.iconst X0.here hx rfl (hb hby at_42)) ?_
        show Go p e below _ (s₁.setTop (mkF m 43 #[.val (.int p0), .val (.int p1), .val (.int z1), .val (.int z2), .val (.int z3), .unset, .unset, .unset, .unset, .unset, .unset, .unset, .unset, .unset, .unset, .unset] [(.int (1 : Int32)), (.int p1)]))
        refine Go.st (fun _ => XS.iand X0.here hx rfl (hb hby at_43) rfl) ?_
        show Go p e below _ (s₁.setTop (mkF m 44 #[.val (.int p0), .val (.int p1), .val (.int z1), .val (.int z2), .val (.int z3), .unset, .unset, .unset, .unset, .unset, .unset, .unset, .unset, .unset, .unset, .unset] [(.int (p1 &&& (1 : Int32)))]))
        refine goJoin (P := fun z4 : Int32 => z4 = (if ¬ (p1 &&& (1 : Int32)) = (0 : Int32) then (1 : Int32) else 0)) (F := fun z4 => s₁.setTop (mkF m 52 #[.val (.int p0), .val (.int p1), .val (.int z1), .val (.int z2), .val (.int z3), .unset, .unset, .unset, .unset, .unset, .unset, .unset, .unset, .unset, .unset, .unset] [(.int z4)])) (fun z4 hz4 => ?_) (fun J4 => ?_)
        · have hbz4 : z4 = 0 ∨ z4 = 1 := own_bit hz4
          show Go p e below _ (s₁.setTop (mkF m 52 #[.val (.int p0), .val (.int p1), .val (.int z1), .val (.int z2), .val (.int z3), .unset, .unset, .unset, .unset, .unset, .unset, .unset, .unset, .unset, .unset, .unset] [(.int z4)]))
          refine Go.st (fun _ => XS.istore X0.here hx rfl (hb hby at_52) rfl (l' := #[.val (.int p0), .val (.int p1), .val (.int z1), .val (.int z2), .val (.int z3), .val (.int z4), .unset, .unset, .unset, .unset, .unset, .unset, .unset, .unset, .unset, .unset]) rfl) ?_
          show Go p e below _ (s₁.setTop (mkF m 54 #[.val (.int p0), .val (.int p1), .val (.int z1), .val (.int z2), .val (.int z3), .val (.int z4), .unset, .unset, .unset, .unset, .unset, .unset, .unset, .unset, .unset, .unset] []))
          refine Go.st (fun _ => XS.iload X0.here hx rfl (hb hby at_54) rfl) ?_
          show Go p e below _ (s₁.setTop (mkF m 56 #[.val (.int p0), .val (.int p1), .val (.int z1), .val (.int z2), .val (.int z3), .val (.int z4), .unset, .unset, .unset, .unset, .unset, .unset, .unset, .unset, .unset, .unset] [(.int z4)]))
          refine goJoin (P := fun z5 : Int32 => z5 = (if ¬ z4 = (0 : Int32) ∧ ¬ (p1 &&& (2 : Int32)) = (0 : Int32) then (1 : Int32) else 0)) (F := fun z5 => s₁.setTop (mkF m 70 #[.val (.int p0), .val (.int p1), .val (.int z1), .val (.int z2), .val (.int z3), .val (.int z4), .unset, .unset, .unset, .unset, .unset, .unset, .unset, .unset, .unset, .unset] [(.int z5)])) (fun z5 hz5 => ?_) (fun J5 => ?_)
          · have hbz5 : z5 = 0 ∨ z5 = 1 := own_bit hz5
            show Go p e below _ (s₁.setTop (mkF m 70 #[.val (.int p0), .val (.int p1), .val (.int z1), .val (.int z2), .val (.int z3), .val (.int z4), .unset, .unset, .unset, .unset, .unset, .unset, .unset, .unset, .unset, .unset] [(.int z5)]))
            refine Go.st (fun _ => XS.istore X0.here hx rfl (hb hby at_70) rfl (l' := #[.val (.int p0), .val (.int p1), .val (.int z1), .val (.int z2), .val (.int z3), .val (.int z4), .val (.int z5), .unset, .unset, .unset, .unset, .unset, .unset, .unset, .unset, .unset]) rfl) ?_
            show Go p e below _ (s₁.setTop (mkF m 72 #[.val (.int p0), .val (.int p1), .val (.int z1), .val (.int z2), .val (.int z3), .val (.int z4), .val (.int z5), .unset, .unset, .unset, .unset, .unset, .unset, .unset, .unset, .unset] []))
            refine Go.st (fun _ => XS.iloadN X0.here hx rfl (hb hby at_72) rfl) ?_
            show Go p e below _ (s₁.setTop (mkF m 73 #[.val (.int p0), .val (.int p1), .val (.int z1), .val (.int z2), .val (.int z3), .val (.int z4), .val (.int z5), .unset, .unset, .unset, .unset, .unset, .unset, .unset, .unset, .unset] [(.int p1)]))
            refine Go.st (fun _ => XS.iconst X0.here hx rfl (hb hby at_73)) ?_
            show Go p e below _ (s₁.setTop (mkF m 74 #[.val (.int p0), .val (.int p1), .val (.int z1), .val (.int z2), .val (.int z3), .val (.int z4), .val (.int z5), .unset, .unset, .unset, .unset, .unset, .unset, .unset, .unset, .unset] [(.int (4 : Int32)), (.int p1)]))
            refine Go.st (fun _ => XS.iand X0.here hx rfl (hb hby at_74) rfl) ?_
            show Go p e below _ (s₁.setTop (mkF m 75 #[.val (.int p0), .val (.int p1), .val (.int z1), .val (.int z2), .val (.int z3), .val (.int z4), .val (.int z5), .unset, .unset, .unset, .unset, .unset, .unset, .unset, .unset, .unset] [(.int (p1 &&& (4 : Int32)))]))
            refine goJoin (P := fun z6 : Int32 => z6 = (if ¬ (p1 &&& (4 : Int32)) = (0 : Int32) then (1 : Int32) else 0)) (F := fun z6 => s₁.setTop (mkF m 83 #[.val (.int p0), .val (.int p1), .val (.int z1), .val (.int z2), .val (.int z3), .val (.int z4), .val (.int z5), .unset, .unset, .unset, .unset, .unset, .unset, .unset, .unset, .unset] [(.int z6)])) (fun z6 hz6 => ?_) (fun J6 => ?_)
            · have hbz6 : z6 = 0 ∨ z6 = 1 := own_bit hz6
              show Go p e below _ (s₁.setTop (mkF m 83 #[.val (.int p0), .val (.int p1), .val (.int z1), .val (.int z2), .val (.int z3), .val (.int z4), .val (.int z5), .unset, .unset, .unset, .unset, .unset, .unset, .unset, .unset, .unset] [(.int z6)]))
              refine Go.st (fun _ => XS.istore X0.here hx rfl (hb hby at_83) rfl (l' := #[.val (.int p0), .val (.int p1), .val (.int z1), .val (.int z2), .val (.int z3), .val (.int z4), .val (.int z5), .val (.int z6), .unset, .unset, .unset, .unset, .unset, .unset, .unset, .unset]) rfl) ?_
              show Go p e below _ (s₁.setTop (mkF m 85 #[.val (.int p0), .val (.int p1), .val (.int z1), .val (.int z2), .val (.int z3), .val (.int z4), .val (.int z5), .val (.int z6), .unset, .unset, .unset, .unset, .unset, .unset, .unset, .unset] []))
              obtain ⟨T7, h7, X7, e7, E7, A7, D7, -, st7⟩ := newO X0 hx hZ hown (hw _ (List.mem_of_getElem? (i := 0) rfl)) (hw _ (List.mem_of_getElem? (i := 1) rfl)) (hw _ (List.mem_of_getElem? (i := 2) rfl)) e0 (g := (mkF m 85 #[.val (.int p0), .val (.int p1), .val (.int z1), .val (.int z2), .val (.int z3), .val (.int z4), .val (.int z5), .val (.int z6), .unset, .unset, .unset, .unset, .unset, .unset, .unset, .unset] [])) rfl (hb hby at_85) (by decide) (by decide)
              obtain ⟨b7, g7⟩ : ∃ z, z = h0.size := ⟨_, rfl⟩
              rw [← g7] at A7 D7 st7
              refine Go.st st7 ?_
              have gn7 : n0 ≤ b7 := oldGe O0 g7
              have O8 : Old Z n0 h7 := O0.ext E7
              have F9 : Fld Z h7 b7 "com/example/oghma/oghma/model/TypeAnnotations" "nullable" "Z" (.int (0 : Int32)) := D7 (Or.inr (hw _ (List.mem_of_getElem? (i := 10) rfl))) (ty := .boolean) (by decide)
              have F10 : Fld Z h7 b7 "com/example/oghma/oghma/model/TypeAnnotations" "onHeap" "Z" (.int (0 : Int32)) := D7 (Or.inr (hw _ (List.mem_of_getElem? (i := 12) rfl))) (ty := .boolean) (by decide)
              have F11 : Fld Z h7 b7 "com/example/oghma/oghma/model/TypeAnnotations" "utf8InCpp" "Z" (.int (0 : Int32)) := D7 (Or.inr (hw _ (List.mem_of_getElem? (i := 14) rfl))) (ty := .boolean) (by decide)
              show Go p e below _ (T7.setTop (mkF m 88 #[.val (.int p0), .val (.int p1), .val (.int z1), .val (.int z2), .val (.int z3), .val (.int z4), .val (.int z5), .val (.int z6), .unset, .unset, .unset, .unset, .unset, .unset, .unset, .unset] [(.ref b7)]))
              refine Go.st (fun _ => XS.dup X7.here hx rfl (hb hby at_88) rfl rfl) ?_
              show Go p e below _ (T7.setTop (mkF m 89 #[.val (.int p0), .val (.int p1), .val (.int z1), .val (.int z2), .val (.int z3), .val (.int z4), .val (.int z5), .val (.int z6), .unset, .unset, .unset, .unset, .unset, .unset, .unset, .unset] [(.ref b7), (.ref b7)]))
              refine Go.st (fun _ => XS.iloadN X7.here hx rfl (hb hby at_89) rfl) ?_
              show Go p e below _ (T7.setTop (mkF m 90 #[.val (.int p0), .val (.int p1), .val (.int z1), .val (.int z2), .val (.int z3), .val (.int z4), .val (.int z5), .val (.int z6), .unset, .unset, .unset, .unset, .unset, .unset, .unset, .unset] [(.int z1), (.ref b7), (.ref b7)]))
              refine Go.st (fun _ => XS.iloadN X7.here hx rfl (hb hby at_90) rfl) ?_
              show Go p e below _ (T7.setTop (mkF m 91 #[.val (.int p0), .val (.int p1), .val (.int z1), .val (.int z2), .val (.int z3), .val (.int z4), .val (.int z5), .val (.int z6), .unset, .unset, .unset, .unset, .unset, .unset, .unset, .unset] [(.int z2), (.int z1), (.ref b7), (.ref b7)]))
              refine Go.st (fun _ => XS.iload X7.here hx rfl (hb hby at_91) rfl) ?_
              show Go p e below _ (T7.setTop (mkF m 93 #[.val (.int p0), .val (.int p1), .val (.int z1), .val (.int z2), .val (.int z3), .val (.int z4), .val (.int z5), .val (.int z6), .unset, .unset, .unset, .unset, .unset, .unset, .unset, .unset] [(.int z3), (.int z2), (.int z1), (.ref b7), (.ref b7)]))
              have hh93 : ¬ z2 = 0 → ¬ z1 = 0 := fun q r => q (by rw [hz2]; simp [r])
              refine goInit X7 hx hZ (y := (⟨"com/example/oghma/oghma/model/TypeAnnotations", "<init>", "(ZZZ)V"⟩ : MethodName)) rfl hown (hw _ (List.mem_of_getElem? (i := 3) rfl)) (hw _ (List.mem_of_getElem? (i := 4) rfl)) (hw _ (List.mem_of_getElem? (i := 2) rfl)) (hw _ (List.mem_of_getElem? (i := 5) rfl)) (by decide) (a := b7) (argsL := [(.int z1), (.int z2), (.int z3)]) (rest := [(.ref b7)]) e7 (rm1 l Z a0 hw [] b7 z1 z2 z3 h7 n0 O8 A7 F9 F10 F11 gn7 hbz1 hbz2 hbz3 hh93) 1 (by decide) (by decide) (by decide) (by decide) (mkF m 93 #[.val (.int p0), .val (.int p1), .val (.int z1), .val (.int z2), .val (.int z3), .val (.int z4), .val (.int z5), .val (.int z6), .unset, .unset, .unset, .unset, .unset, .unset, .unset, .unset] [(.int z3), (.int z2), (.int z1), (.ref b7), (.ref b7)]) rfl (by rw [hml]; rfl) (lenOf pd_2 rfl) rfl (hb hby at_93) (Nat.le_of_eq rfl) ?_
              intro v12 T12 L12 X12 hQ12
              obtain ⟨rfl, M12, K12, Ga12, Gb12, Gc12⟩ := hQ12
              have N12 := Fr.app N0 M12
              have O13 : Old Z n0 T12.heap := O8.keep K12 (allS gn7 all0)
              have E_14 : Exa Z T12.heap b7 "com/example/oghma/oghma/model/TypeAnnotations" := A7.keep K12
              show Go p e below _ (T12.setTop (mkF m 96 #[.val (.int p0), .val (.int p1), .val (.int z1), .val (.int z2), .val (.int z3), .val (.int z4), .val (.int z5), .val (.int z6), .unset, .unset, .unset, .unset, .unset, .unset, .unset, .unset] [(.ref b7)]))
              refine Go.st (fun _ => XS.astore X12.here hx rfl (hb hby at_96) rfl rfl (l' := #[.val (.int p0), .val (.int p1), .val (.int z1), .val (.int z2), .val (.int z3), .val (.int z4), .val (.int z5), .val (.int z6), .val (.ref b7), .unset, .unset, .unset, .unset, .unset, .unset, .unset]) rfl) ?_
              show Go p e below _ (T12.setTop (mkF m 98 #[.val (.int p0), .val (.int p1), .val (.int z1), .val (.int z2), .val (.int z3), .val (.int z4), .val (.int z5), .val (.int z6), .val (.ref b7), .unset, .unset, .unset, .unset, .unset, .unset, .unset] []))
              obtain ⟨T15, h15, X15, e15, E15, A15, D15, -, st15⟩ := newO X12 hx hZ hown (hw _ (List.mem_of_getElem? (i := 0) rfl)) (hw _ (List.mem_of_getElem? (i := 1) rfl)) (hw _ (List.mem_of_getElem? (i := 2) rfl)) rfl (g := (mkF m 98 #[.val (.int p0), .val (.int p1), .val (.int z1), .val (.int z2), .val (.int z3), .val (.int z4), .val (.int z5), .val (.int z6), .val (.ref b7), .unset, .unset, .unset, .unset, .unset, .unset, .unset] [])) rfl (hb hby at_98) (by decide) (by decide)
              obtain ⟨b15, g15⟩ : ∃ z, z = T12.heap.size := ⟨_, rfl⟩
              rw [← g15] at A15 D15 st15
              refine Go.st st15 ?_
              have gn15 : n0 ≤ b15 := oldGe O13 g15
              have ne16 : b7 ≠ b15 := Nat.ne_of_lt (Nat.lt_of_lt_of_le E_14.lt (Nat.le_of_eq g15.symm))
              have O17 : Old Z n0 h15 := O13.ext E15
              have E_18 : Exa Z h15 b7 "com/example/oghma/oghma/model/TypeAnnotations" := E_14.ext E15
              have F19 : Fld Z h15 b7 "com/example/oghma/oghma/model/TypeAnnotations" "nullable" "Z" (.int z1) := Ga12.ext E15
              have F20 : Fld Z h15 b7 "com/example/oghma/oghma/model/TypeAnnotations" "onHeap" "Z" (.int z2) := Gb12.ext E15
              have F21 : Fld Z h15 b7 "com/example/oghma/oghma/model/TypeAnnotations" "utf8InCpp" "Z" (.int z3) := Gc12.ext E15
              have F22 : Fld Z h15 b15 "com/example/oghma/oghma/model/TypeAnnotations" "nullable" "Z" (.int (0 : Int32)) := D15 (Or.inr (hw _ (List.mem_of_getElem? (i := 10) rfl))) (ty := .boolean) (by decide)
              have F23 : Fld Z h15 b15 "com/example/oghma/oghma/model/TypeAnnotations" "onHeap" "Z" (.int (0 : Int32)) := D15 (Or.inr (hw _ (List.mem_of_getElem? (i := 12) rfl))) (ty := .boolean) (by decide)
              have F24 : Fld Z h15 b15 "com/example/oghma/oghma/model/TypeAnnotations" "utf8InCpp" "Z" (.int (0 : Int32)) := D15 (Or.inr (hw _ (List.mem_of_getElem? (i := 14) rfl))) (ty := .boolean) (by decide)
              show Go p e below _ (T15.setTop (mkF m 101 #[.val (.int p0), .val (.int p1), .val (.int z1), .val (.int z2), .val (.int z3), .val (.int z4), .val (.int z5), .val (.int z6), .val (.ref b7), .unset, .unset, .unset, .unset, .unset, .unset, .unset] [(.ref b15)]))
              refine Go.st (fun _ => XS.dup X15.here hx rfl (hb hby at_101) rfl rfl) ?_
              show Go p e below _ (T15.setTop (mkF m 102 #[.val (.int p0), .val (.int p1), .val (.int z1), .val (.int z2), .val (.int z3), .val (.int z4), .val (.int z5), .val (.int z6), .val (.ref b7), .unset, .unset, .unset, .unset, .unset, .unset, .unset] [(.ref b15), (.ref b15)]))
              refine Go.st (fun _ => XS.iload X15.here hx rfl (hb hby at_102) rfl) ?_
              show Go p e below _ (T15.setTop (mkF m 104 #[.val (.int p0), .val (.int p1), .val (.int z1), .val (.int z2), .val (.int z3), .val (.int z4), .val (.int z5), .val (.int z6), .val (.ref b7), .unset, .unset, .unset, .unset, .unset, .unset, .unset] [(.int z4), (.ref b15), (.ref b15)]))
              refine Go.st (fun _ => XS.iload X15.here hx rfl (hb hby at_104) rfl) ?_
              show Go p e below _ (T15.setTop (mkF m 106 #[.val (.int p0), .val (.int p1), .val (.int z1), .val (.int z2), .val (.int z3), .val (.int z4), .val (.int z5), .val (.int z6), .val (.ref b7), .unset, .unset, .unset, .unset, .unset, .unset, .unset] [(.int z5), (.int z4), (.ref b15), (.ref b15)]))
              refine Go.st (fun _ => XS.iload X15.here hx rfl (hb hby at_106) rfl) ?_
              show Go p e below _ (T15.setTop (mkF m 108 #[.val (.int p0), .val (.int p1), .val (.int z1), .val (.int z2), .val (.int z3), .val (.int z4), .val (.int z5), .val (.int z6), .val (.ref b7), .unset, .unset, .unset, .unset, .unset, .unset, .unset] [(.int z6), (.int z5), (.int z4), (.ref b15), (.ref b15)]))
              have hh108 : ¬ z5 = 0 → ¬ z4 = 0 := fun q r => q (by rw [hz5]; simp [r])
              refine goInit X15 hx hZ (y := (⟨"com/example/oghma/oghma/model/TypeAnnotations", "<init>", "(ZZZ)V"⟩ : MethodName)) rfl hown (hw _ (List.mem_of_getElem? (i := 3) rfl)) (hw _ (List.mem_of_getElem? (i := 4) rfl)) (hw _ (List.mem_of_getElem? (i := 2) rfl)) (hw _ (List.mem_of_getElem? (i := 5) rfl)) (by decide) (a := b15) (argsL := [(.int z4), (.int z5), (.int z6)]) (rest := [(.ref b15)]) e15 (rm1 l Z a0 hw [] b15 z4 z5 z6 h15 n0 O17 A15 F22 F23 F24 gn15 hbz4 hbz5 hbz6 hh108) 1 (by decide) (by decide) (by decide) (by decide) (mkF m 108 #[.val (.int p0), .val (.int p1), .val (.int z1), .val (.int z2), .val (.int z3), .val (.int z4), .val (.int z5), .val (.int z6), .val (.ref b7), .unset, .unset, .unset, .unset, .unset, .unset, .unset] [(.int z6), (.int z5), (.int z4), (.ref b15), (.ref b15)]) rfl (by rw [hml]; rfl) (lenOf pd_2 rfl) rfl (hb hby at_108) (Nat.le_of_eq rfl) ?_
              intro v25 T25 L25 X25 hQ25
              obtain ⟨rfl, M25, K25, Ga25, Gb25, Gc25⟩ := hQ25
              have N25 := Fr.app N12 M25
              have O26 : Old Z n0 T25.heap := O17.keep K25 (allS gn15 all0)
              have E_27 : Exa Z T25.heap b7 "com/example/oghma/oghma/model/TypeAnnotations" := E_18.keep K25
              have F28 : Fld Z T25.heap b7 "com/example/oghma/oghma/model/TypeAnnotations" "nullable" "Z" (.int z1) := F19.keep K25 (ninS ne16 nin0)
              have F29 : Fld Z T25.heap b7 "com/example/oghma/oghma/model/TypeAnnotations" "onHeap" "Z" (.int z2) := F20.keep K25 (ninS ne16 nin0)
              have F30 : Fld Z T25.heap b7 "com/example/oghma/oghma/model/TypeAnnotations" "utf8InCpp" "Z" (.int z3) := F21.keep K25 (ninS ne16 nin0)
              have E_31 : Exa Z T25.heap b15 "com/example/oghma/oghma/model/TypeAnnotations" := A15.keep K25
              show Go p e below _ (T25.setTop (mkF m 111 #[.val (.int p0), .val (.int p1), .val (.int z1), .val (.int z2), .val (.int z3), .val (.int z4), .val (.int z5), .val (.int z6), .val (.ref b7), .unset, .unset, .unset, .unset, .unset, .unset, .unset] [(.ref b15)]))
              refine Go.st (fun _ => XS.astore X25.here hx rfl (hb hby at_111) rfl rfl (l' := #[.val (.int p0), .val (.int p1), .val (.int z1), .val (.int z2), .val (.int z3), .val (.int z4), .val (.int z5), .val (.int z6), .val (.ref b7), .val (.ref b15), .unset, .unset, .unset, .unset, .unset, .unset]) rfl) ?_
              show Go p e below _ (T25.setTop (mkF m 113 #[.val (.int p0), .val (.int p1), .val (.int z1), .val (.int z2), .val (.int z3), .val (.int z4), .val (.int z5), .val (.int z6), .val (.ref b7), .val (.ref b15), .unset, .unset, .unset, .unset, .unset, .unset] []))
              refine Go.st (fun _ => XS.iloadN X25.here hx rfl (hb hby at_113) rfl) ?_
              show Go p e below _ (T25.setTop (mkF m 114 #[.val (.int p0), .val (.int p1), .val (.int z1), .val (.int z2), .val (.int z3), .val (.int z4), .val (.int z5), .val (.int z6), .val (.ref b7), .val (.ref b15), .unset, .unset, .unset, .unset, .unset, .unset] [(.int p0)]))
              refine goCallS X25 hx hZ (y := (⟨"java/lang/Integer", "valueOf", "(I)Ljava/lang/Integer;"⟩ : MethodName)) hown (hw _ (List.mem_of_getElem? (i := 15) rfl)) (hw _ (List.mem_of_getElem? (i := 16) rfl)) (hw _ (List.mem_of_getElem? (i := 17) rfl)) (hw _ (List.mem_of_getElem? (i := 18) rfl)) (by decide) (argsL := [(.int p0)]) (rest := []) rfl (rmBox l Z a0 hw [] p0 wc cl T25.heap n0 O26 S_cache S_high BX) 0 (by decide) (by decide) (by decide) (by decide) (mkF m 114 #[.val (.int p0), .val (.int p1), .val (.int z1), .val (.int z2), .val (.int z3), .val (.int z4), .val (.int z5), .val (.int z6), .val (.ref b7), .val (.ref b15), .unset, .unset, .unset, .unset, .unset, .unset] [(.int p0)]) rfl (by rw [hml]; rfl) (lenOf pd_3 rfl) rfl (hb hby at_114) (Nat.le_of_eq rfl) ?_
              intro v32 T32 L32 X32 hQ32
              obtain ⟨⟨r32, rfl, Er32, Gr32⟩, M32, K32⟩ := hQ32
              have N32 := Fr.app N25 M32
              have O33 : Old Z n0 T32.heap := O26.keep K32 all0
              have E_34 : Exa Z T32.heap b7 "com/example/oghma/oghma/model/TypeAnnotations" := E_27.keep K32
              have F35 : Fld Z T32.heap b7 "com/example/oghma/oghma/model/TypeAnnotations" "nullable" "Z" (.int z1) := F28.keep K32 nin0
              have F36 : Fld Z T32.heap b7 "com/example/oghma/oghma/model/TypeAnnotations" "onHeap" "Z" (.int z2) := F29.keep K32 nin0
              have F37 : Fld Z T32.heap b7 "com/example/oghma/oghma/model/TypeAnnotations" "utf8InCpp" "Z" (.int z3) := F30.keep K32 nin0
              have E_38 : Exa Z T32.heap b15 "com/example/oghma/oghma/model/TypeAnnotations" := E_31.keep K32
              have F39 : Fld Z T32.heap b15 "com/example/oghma/oghma/model/TypeAnnotations" "nullable" "Z" (.int z4) := Ga25.keep K32 nin0
              have F40 : Fld Z T32.heap b15 "com/example/oghma/oghma/model/TypeAnnotations" "onHeap" "Z" (.int z5) := Gb25.keep K32 nin0
              have F41 : Fld Z T32.heap b15 "com/example/oghma/oghma/model/TypeAnnotations" "utf8InCpp" "Z" (.int z6) := Gc25.keep K32 nin0
              show Go p e below _ (T32.setTop (mkF m 117 #[.val (.int p0), .val (.int p1), .val (.int z1), .val (.int z2), .val (.int z3), .val (.int z4), .val (.int z5), .val (.int z6), .val (.ref b7), .val (.ref b15), .unset, .unset, .unset, .unset, .unset, .unset] [(.ref r32)]))
              refine Go.st (fun _ => XS.astore X32.here hx rfl (hb hby at_117) rfl rfl (l' := #[.val (.int p0), .val (.int p1), .val (.int z1), .val (.int z2), .val (.int z3), .val (.int z4), .val (.int z5), .val (.int z6), .val (.ref b7), .val (.ref b15), .val (.ref r32), .unset, .unset, .unset, .unset, .unset]) rfl) ?_
              show Go p e below _ (T32.setTop (mkF m 119 #[.val (.int p0), .val (.int p1), .val (.int z1), .val (.int z2), .val (.int z3), .val (.int z4), .val (.int z5), .val (.int z6), .val (.ref b7), .val (.ref b15), .val (.ref r32), .unset, .unset, .unset, .unset, .unset] []))
              refine Go.st (fun _ => XS.iloadN X32.here hx rfl (hb hby at_119) rfl) ?_
              show Go p e below _ (T32.setTop (mkF m 120 #[.val (.int p0), .val (.int p1), .val (.int z1), .val (.int z2), .val (.int z3), .val (.int z4), .val (.int z5), .val (.int z6), .val (.ref b7), .val (.ref b15), .val (.ref r32), .unset, .unset, .unset, .unset, .unset] [(.int z1)]))
              refine Go.st (fun _ => XS.iloadN X32.here hx rfl (hb hby at_120) rfl) ?_
              show Go p e below _ (T32.setTop (mkF m 121 #[.val (.int p0), .val (.int p1), .val (.int z1), .val (.int z2), .val (.int z3), .val (.int z4), .val (.int z5), .val (.int z6), .val (.ref b7), .val (.ref b15), .val (.ref r32), .unset, .unset, .unset, .unset, .unset] [(.int z2), (.int z1)]))
              refine Go.st (fun _ => XS.iload X32.here hx rfl (hb hby at_121) rfl) ?_
              show Go p e below _ (T32.setTop (mkF m 123 #[.val (.int p0), .val (.int p1), .val (.int z1), .val (.int z2), .val (.int z3), .val (.int z4), .val (.int z5), .val (.int z6), .val (.ref b7), .val (.ref b15), .val (.ref r32), .unset, .unset, .unset, .unset, .unset] [(.int z3), (.int z2), (.int z1)]))
              refine goCallS X32 hx hZ (y := (⟨"com/example/oghma/oghma/model/TypeAnnotationsEqualsPinLaw", "code", "(ZZZ)I"⟩ : MethodName)) hown (hw _ (List.mem_of_getElem? (i := 22) rfl)) (hw _ (List.mem_of_getElem? (i := 23) rfl)) (hw _ (List.mem_of_getElem? (i := 24) rfl)) (hw _ (List.mem_of_getElem? (i := 25) rfl)) (by decide) (argsL := [(.int z1), (.int z2), (.int z3)]) (rest := []) rfl (rm5 l Z a0 hw [] z1 z2 z3 T32.heap n0 O33) 0 (by decide) (by decide) (by decide) (by decide) (mkF m 123 #[.val (.int p0), .val (.int p1), .val (.int z1), .val (.int z2), .val (.int z3), .val (.int z4), .val (.int z5), .val (.int z6), .val (.ref b7), .val (.ref b15), .val (.ref r32), .unset, .unset, .unset, .unset, .unset] [(.int z3), (.int z2), (.int z1)]) rfl (by rw [hml]; rfl) (lenOf pd_4 rfl) rfl (hb hby at_123) (Nat.le_of_eq rfl) ?_
              intro v42 T42 L42 X42 hQ42
              obtain ⟨rfl, M42, e42⟩ := hQ42
              have N42 := Fr.app N32 M42
              show Go p e below _ (T42.setTop (mkF m 126 #[.val (.int p0), .val (.int p1), .val (.int z1), .val (.int z2), .val (.int z3), .val (.int z4), .val (.int z5), .val (.int z6), .val (.ref b7), .val (.ref b15), .val (.ref r32), .unset, .unset, .unset, .unset, .unset] [(.int (own_code z1 z2 z3))]))
              refine Go.st (fun _ => XS.iload X42.here hx rfl (hb hby at_126) rfl) ?_
              show Go p e below _ (T42.setTop (mkF m 128 #[.val (.int p0), .val (.int p1), .val (.int z1), .val (.int z2), .val (.int z3), .val (.int z4), .val (.int z5), .val (.int z6), .val (.ref b7), .val (.ref b15), .val (.ref r32), .unset, .unset, .unset, .unset, .unset] [(.int z4), (.int (own_code z1 z2 z3))]))
              refine Go.st (fun _ => XS.iload X42.here hx rfl (hb hby at_128) rfl) ?_
              show Go p e below _ (T42.setTop (mkF m 130 #[.val (.int p0), .val (.int p1), .val (.int z1), .val (.int z2), .val (.int z3), .val (.int z4), .val (.int z5), .val (.int z6), .val (.ref b7), .val (.ref b15), .val (.ref r32), .unset, .unset, .unset, .unset, .unset] [(.int z5), (.int z4), (.int (own_code z1 z2 z3))]))
              refine Go.st (fun _ => XS.iload X42.here hx rfl (hb hby at_130) rfl) ?_
              show Go p e below _ (T42.setTop (mkF m 132 #[.val (.int p0), .val (.int p1), .val (.int z1), .val (.int z2), .val (.int z3), .val (.int z4), .val (.int z5), .val (.int z6), .val (.ref b7), .val (.ref b15), .val (.ref r32), .unset, .unset, .unset, .unset, .unset] [(.int z6), (.int z5), (.int z4), (.int (own_code z1 z2 z3))]))
              refine goCallS X42 hx hZ (y := (⟨"com/example/oghma/oghma/model/TypeAnnotationsEqualsPinLaw", "code", "(ZZZ)I"⟩ : MethodName)) hown (hw _ (List.mem_of_getElem? (i := 22) rfl)) (hw _ (List.mem_of_getElem? (i := 23) rfl)) (hw _ (List.mem_of_getElem? (i := 24) rfl)) (hw _ (List.mem_of_getElem? (i := 25) rfl)) (by decide) (argsL := [(.int z4), (.int z5), (.int z6)]) (rest := [(.int (own_code z1 z2 z3))]) e42 (rm5 l Z a0 hw [] z4 z5 z6 T32.heap n0 O33) 1 (by decide) (by decide) (by decide) (by decide) (mkF m 132 #[.val (.int p0), .val (.int p1), .val (.int z1), .val (.int z2), .val (.int z3), .val (.int z4), .val (.int z5), .val (.int z6), .val (.ref b7), .val (.ref b15), .val (.ref r32), .unset, .unset, .unset, .unset, .unset] [(.int z6), (.int z5), (.int z4), (.int (own_code z1 z2 z3))]) rfl (by rw [hml]; rfl) (lenOf pd_4 rfl) rfl (hb hby at_132) (Nat.le_of_eq rfl) ?_
              intro v43 T43 L43 X43 hQ43
              obtain ⟨rfl, M43, e43⟩ := hQ43
              have N43 := Fr.app N42 M43
              show Go p e below _ (T43.setTop (mkF m 135 #[.val (.int p0), .val (.int p1), .val (.int z1), .val (.int z2), .val (.int z3), .val (.int z4), .val (.int z5), .val (.int z6), .val (.ref b7), .val (.ref b15), .val (.ref r32), .unset, .unset, .unset, .unset, .unset] [(.int (own_code z4 z5 z6)), (.int (own_code z1 z2 z3))]))
              refine goJoin (P := fun z44 : Int32 => z44 = (if (own_code z1 z2 z3) = (own_code z4 z5 z6) then (1 : Int32) else 0)) (F := fun z44 => T43.setTop (mkF m 143 #[.val (.int p0), .val (.int p1), .val (.int z1), .val (.int z2), .val (.int z3), .val (.int z4), .val (.int z5), .val (.int z6), .val (.ref b7), .val (.ref b15), .val (.ref r32), .unset, .unset, .unset, .unset, .unset] [(.int z44)])) (fun z44 hz44 => ?_) (fun J44 => ?_)
              · have hbz44 : z44 = 0 ∨ z44 = 1 := own_bit hz44
                show Go p e below _ (T43.setTop (mkF m 143 #[.val (.int p0), .val (.int p1), .val (.int z1), .val (.int z2), .val (.int z3), .val (.int z4), .val (.int z5), .val (.int z6), .val (.ref b7), .val (.ref b15), .val (.ref r32), .unset, .unset, .unset, .unset, .unset] [(.int z44)]))
                refine Go.st (fun _ => XS.istore X43.here hx rfl (hb hby at_143) rfl (l' := #[.val (.int p0), .val (.int p1), .val (.int z1), .val (.int z2), .val (.int z3), .val (.int z4), .val (.int z5), .val (.int z6), .val (.ref b7), .val (.ref b15), .val (.ref r32), .val (.int z44), .unset, .unset, .unset, .unset]) rfl) ?_
                show Go p e below _ (T43.setTop (mkF m 145 #[.val (.int p0), .val (.int p1), .val (.int z1), .val (.int z2), .val (.int z3), .val (.int z4), .val (.int z5), .val (.int z6), .val (.ref b7), .val (.ref b15), .val (.ref r32), .val (.int z44), .unset, .unset, .unset, .unset] []))
                refine Go.st (fun _ => XS.aload X43.here hx rfl (hb hby at_145) rfl rfl) ?_
                show Go p e below _ (T43.setTop (mkF m 147 #[.val (.int p0), .val (.int p1), .val (.int z1), .val (.int z2), .val (.int z3), .val (.int z4), .val (.int z5), .val (.int z6), .val (.ref b7), .val (.ref b15), .val (.ref r32), .val (.int z44), .unset, .unset, .unset, .unset] [(.ref b7)]))
                refine Go.st (fun _ => XS.aload X43.here hx rfl (hb hby at_147) rfl rfl) ?_
                show Go p e below _ (T43.setTop (mkF m 149 #[.val (.int p0), .val (.int p1), .val (.int z1), .val (.int z2), .val (.int z3), .val (.int z4), .val (.int z5), .val (.int z6), .val (.ref b7), .val (.ref b15), .val (.ref r32), .val (.int z44), .unset, .unset, .unset, .unset] [(.ref b15), (.ref b7)]))
                refine goVirt X43 hx hZ (y := (⟨"com/example/oghma/oghma/model/TypeAnnotations", "equals", "(Ljava/lang/Object;)Z"⟩ : MethodName)) (z := (⟨"com/example/oghma/oghma/model/TypeAnnotations", "equals", "(Ljava/lang/Object;)Z"⟩ : MethodName)) hown (hw _ (List.mem_of_getElem? (i := 26) rfl)) (hw _ (List.mem_of_getElem? (i := 27) rfl)) (notFace_of_selects (args := #[]) (mvT hZ (hw _ (List.mem_of_getElem? (i := 29) rfl)))) (hw _ (List.mem_of_getElem? (i := 29) rfl)) (hw _ (List.mem_of_getElem? (i := 28) rfl)) (hw _ (List.mem_of_getElem? (i := 2) rfl)) (hw _ (List.mem_of_getElem? (i := 30) rfl)) (by decide) (a := b7) (argsL := [(.ref b15)]) (rest := []) e43 E_34 (rm2 l Z a0 hw [] b7 b15 z1 z2 z3 z4 z5 z6 T32.heap n0 O33 E_38 F35 F36 F37 F39 F40 F41) 0 (by decide) (by decide) (by decide) (by decide) (mkF m 149 #[.val (.int p0), .val (.int p1), .val (.int z1), .val (.int z2), .val (.int z3), .val (.int z4), .val (.int z5), .val (.int z6), .val (.ref b7), .val (.ref b15), .val (.ref r32), .val (.int z44), .unset, .unset, .unset, .unset] [(.ref b15), (.ref b7)]) rfl (by rw [hml]; rfl) (lenOf pd_5 rfl) rfl (hb hby at_149) (Nat.le_of_eq rfl) ?_
                intro v45 T45 L45 X45 hQ45
                obtain ⟨rfl, M45, e45⟩ := hQ45
                have N45 := Fr.app N43 M45
                show Go p e below _ (T45.setTop (mkF m 152 #[.val (.int p0), .val (.int p1), .val (.int z1), .val (.int z2), .val (.int z3), .val (.int z4), .val (.int z5), .val (.int z6), .val (.ref b7), .val (.ref b15), .val (.ref r32), .val (.int z44), .unset, .unset, .unset, .unset] [(.int (if z1 = z4 ∧ z2 = z5 ∧ z3 = z6 then (1 : Int32) else 0))]))
                refine Go.st (fun _ => XS.istore X45.here hx rfl (hb hby at_152) rfl (l' := #[.val (.int p0), .val (.int p1), .val (.int z1), .val (.int z2), .val (.int z3), .val (.int z4), .val (.int z5), .val (.int z6), .val (.ref b7), .val (.ref b15), .val (.ref r32), .val (.int z44), .val (.int (if z1 = z4 ∧ z2 = z5 ∧ z3 = z6 then (1 : Int32) else 0)), .unset, .unset, .unset]) rfl) ?_
                show Go p e below _ (T45.setTop (mkF m 154 #[.val (.int p0), .val (.int p1), .val (.int z1), .val (.int z2), .val (.int z3), .val (.int z4), .val (.int z5), .val (.int z6), .val (.ref b7), .val (.ref b15), .val (.ref r32), .val (.int z44), .val (.int (if z1 = z4 ∧ z2 = z5 ∧ z3 = z6 then (1 : Int32) else 0)), .unset, .unset, .unset] []))
                refine Go.st (fun _ => XS.aload X45.here hx rfl (hb hby at_154) rfl rfl) ?_
                show Go p e below _ (T45.setTop (mkF m 156 #[.val (.int p0), .val (.int p1), .val (.int z1), .val (.int z2), .val (.int z3), .val (.int z4), .val (.int z5), .val (.int z6), .val (.ref b7), .val (.ref b15), .val (.ref r32), .val (.int z44), .val (.int (if z1 = z4 ∧ z2 = z5 ∧ z3 = z6 then (1 : Int32) else 0)), .unset, .unset, .unset] [(.ref b15)]))
                refine Go.st (fun _ => XS.aload X45.here hx rfl (hb hby at_156) rfl rfl) ?_
                show Go p e below _ (T45.setTop (mkF m 158 #[.val (.int p0), .val (.int p1), .val (.int z1), .val (.int z2), .val (.int z3), .val (.int z4), .val (.int z5), .val (.int z6), .val (.ref b7), .val (.ref b15), .val (.ref r32), .val (.int z44), .val (.int (if z1 = z4 ∧ z2 = z5 ∧ z3 = z6 then (1 : Int32) else 0)), .unset, .unset, .unset] [(.ref b7), (.ref b15)]))
                refine goVirt X45 hx hZ (y := (⟨"com/example/oghma/oghma/model/TypeAnnotations", "equals", "(Ljava/lang/Object;)Z"⟩ : MethodName)) (z := (⟨"com/example/oghma/oghma/model/TypeAnnotations", "equals", "(Ljava/lang/Object;)Z"⟩ : MethodName)) hown (hw _ (List.mem_of_getElem? (i := 26) rfl)) (hw _ (List.mem_of_getElem? (i := 27) rfl)) (notFace_of_selects (args := #[]) (mvT hZ (hw _ (List.mem_of_getElem? (i := 29) rfl)))) (hw _ (List.mem_of_getElem? (i := 29) rfl)) (hw _ (List.mem_of_getElem? (i := 28) rfl)) (hw _ (List.mem_of_getElem? (i := 2) rfl)) (hw _ (List.mem_of_getElem? (i := 30) rfl)) (by decide) (a := b15) (argsL := [(.ref b7)]) (rest := []) e45 E_38 (rm2 l Z a0 hw [] b15 b7 z4 z5 z6 z1 z2 z3 T32.heap n0 O33 E_34 F39 F40 F41 F35 F36 F37) 0 (by decide) (by decide) (by decide) (by decide) (mkF m 158 #[.val (.int p0), .val (.int p1), .val (.int z1), .val (.int z2), .val (.int z3), .val (.int z4), .val (.int z5), .val (.int z6), .val (.ref b7), .val (.ref b15), .val (.ref r32), .val (.int z44), .val (.int (if z1 = z4 ∧ z2 = z5 ∧ z3 = z6 then (1 : Int32) else 0)), .unset, .unset, .unset] [(.ref b7), (.ref b15)]) rfl (by rw [hml]; rfl) (lenOf pd_5 rfl) rfl (hb hby at_158) (Nat.le_of_eq rfl) ?_
                intro v46 T46 L46 X46 hQ46
                obtain ⟨rfl, M46, e46⟩ := hQ46
                have N46 := Fr.app N45 M46
                show Go p e below _ (T46.setTop (mkF m 161 #[.val (.int p0), .val (.int p1), .val (.int z1), .val (.int z2), .val (.int z3), .val (.int z4), .val (.int z5), .val (.int z6), .val (.ref b7), .val (.ref b15), .val (.ref r32), .val (.int z44), .val (.int (if z1 = z4 ∧ z2 = z5 ∧ z3 = z6 then (1 : Int32) else 0)), .unset, .unset, .unset] [(.int (if z4 = z1 ∧ z5 = z2 ∧ z6 = z3 then (1 : Int32) else 0))]))
                refine Go.st (fun _ => XS.istore X46.here hx rfl (hb hby at_161) rfl (l' := #[.val (.int p0), .val (.int p1), .val (.int z1), .val (.int z2), .val (.int z3), .val (.int z4), .val (.int z5), .val (.int z6), .val (.ref b7), .val (.ref b15), .val (.ref r32), .val (.int z44), .val (.int (if z1 = z4 ∧ z2 = z5 ∧ z3 = z6 then (1 : Int32) else 0)), .val (.int (if z4 = z1 ∧ z5 = z2 ∧ z6 = z3 then (1 : Int32) else 0)), .unset, .unset]) rfl) ?_
                show Go p e below _ (T46.setTop (mkF m 163 #[.val (.int p0), .val (.int p1), .val (.int z1), .val (.int z2), .val (.int z3), .val (.int z4), .val (.int z5), .val (.int z6), .val (.ref b7), .val (.ref b15), .val (.ref r32), .val (.int z44), .val (.int (if z1 = z4 ∧ z2 = z5 ∧ z3 = z6 then (1 : Int32) else 0)), .val (.int (if z4 = z1 ∧ z5 = z2 ∧ z6 = z3 then (1 : Int32) else 0)), .unset, .unset] []))
                refine Go.st (fun _ => XS.aload X46.here hx rfl (hb hby at_163) rfl rfl) ?_
                show Go p e below _ (T46.setTop (mkF m 165 #[.val (.int p0), .val (.int p1), .val (.int z1), .val (.int z2), .val (.int z3), .val (.int z4), .val (.int z5), .val (.int z6), .val (.ref b7), .val (.ref b15), .val (.ref r32), .val (.int z44), .val (.int (if z1 = z4 ∧ z2 = z5 ∧ z3 = z6 then (1 : Int32) else 0)), .val (.int (if z4 = z1 ∧ z5 = z2 ∧ z6 = z3 then (1 : Int32) else 0)), .unset, .unset] [(.ref b7)]))
                refine Go.st (fun _ => XS.aconstNull X46.here hx rfl (hb hby at_165)) ?_
                show Go p e below _ (T46.setTop (mkF m 166 #[.val (.int p0), .val (.int p1), .val (.int z1), .val (.int z2), .val (.int z3), .val (.int z4), .val (.int z5), .val (.int z6), .val (.ref b7), .val (.ref b15), .val (.ref r32), .val (.int z44), .val (.int (if z1 = z4 ∧ z2 = z5 ∧ z3 = z6 then (1 : Int32) else 0)), .val (.int (if z4 = z1 ∧ z5 = z2 ∧ z6 = z3 then (1 : Int32) else 0)), .unset, .unset] [.null, (.ref b7)]))
                refine goVirt X46 hx hZ (y := (⟨"com/example/oghma/oghma/model/TypeAnnotations", "equals", "(Ljava/lang/Object;)Z"⟩ : MethodName)) (z := (⟨"com/example/oghma/oghma/model/TypeAnnotations", "equals", "(Ljava/lang/Object;)Z"⟩ : MethodName)) hown (hw _ (List.mem_of_getElem? (i := 26) rfl)) (hw _ (List.mem_of_getElem? (i := 27) rfl)) (notFace_of_selects (args := #[]) (mvT hZ (hw _ (List.mem_of_getElem? (i := 29) rfl)))) (hw _ (List.mem_of_getElem? (i := 29) rfl)) (hw _ (List.mem_of_getElem? (i := 28) rfl)) (hw _ (List.mem_of_getElem? (i := 2) rfl)) (hw _ (List.mem_of_getElem? (i := 30) rfl)) (by decide) (a := b7) (argsL := [.null]) (rest := []) e46 E_34 (rm3 l Z a0 hw [] b7 T32.heap n0 O33) 0 (by decide) (by decide) (by decide) (by decide) (mkF m 166 #[.val (.int p0), .val (.int p1), .val (.int z1), .val (.int z2), .val (.int z3), .val (.int z4), .val (.int z5), .val (.int z6), .val (.ref b7), .val (.ref b15), .val (.ref r32), .val (.int z44), .val (.int (if z1 = z4 ∧ z2 = z5 ∧ z3 = z6 then (1 : Int32) else 0)), .val (.int (if z4 = z1 ∧ z5 = z2 ∧ z6 = z3 then (1 : Int32) else 0)), .unset, .unset] [.null, (.ref b7)]) rfl (by rw [hml]; rfl) (lenOf pd_5 rfl) rfl (hb hby at_166) (Nat.le_of_eq rfl) ?_
                intro v47 T47 L47 X47 hQ47
                obtain ⟨rfl, M47, e47⟩ := hQ47
                have N47 := Fr.app N46 M47
                show Go p e below _ (T47.setTop (mkF m 169 #[.val (.int p0), .val (.int p1), .val (.int z1), .val (.int z2), .val (.int z3), .val (.int z4), .val (.int z5), .val (.int z6), .val (.ref b7), .val (.ref b15), .val (.ref r32), .val (.int z44), .val (.int (if z1 = z4 ∧ z2 = z5 ∧ z3 = z6 then (1 : Int32) else 0)), .val (.int (if z4 = z1 ∧ z5 = z2 ∧ z6 = z3 then (1 : Int32) else 0)), .unset, .unset] [(.int (0 : Int32))]))
                refine Go.st (fun _ => XS.istore X47.here hx rfl (hb hby at_169) rfl (l' := #[.val (.int p0), .val (.int p1), .val (.int z1), .val (.int z2), .val (.int z3), .val (.int z4), .val (.int z5), .val (.int z6), .val (.ref b7), .val (.ref b15), .val (.ref r32), .val (.int z44), .val (.int (if z1 = z4 ∧ z2 = z5 ∧ z3 = z6 then (1 : Int32) else 0)), .val (.int (if z4 = z1 ∧ z5 = z2 ∧ z6 = z3 then (1 : Int32) else 0)), .val (.int (0 : Int32)), .unset]) rfl) ?_
                show Go p e below _ (T47.setTop (mkF m 171 #[.val (.int p0), .val (.int p1), .val (.int z1), .val (.int z2), .val (.int z3), .val (.int z4), .val (.int z5), .val (.int z6), .val (.ref b7), .val (.ref b15), .val (.ref r32), .val (.int z44), .val (.int (if z1 = z4 ∧ z2 = z5 ∧ z3 = z6 then (1 : Int32) else 0)), .val (.int (if z4 = z1 ∧ z5 = z2 ∧ z6 = z3 then (1 : Int32) else 0)), .val (.int (0 : Int32)), .unset] []))
                refine Go.st (fun _ => XS.aload X47.here hx rfl (hb hby at_171) rfl rfl) ?_
                show Go p e below _ (T47.setTop (mkF m 173 #[.val (.int p0), .val (.int p1), .val (.int z1), .val (.int z2), .val (.int z3), .val (.int z4), .val (.int z5), .val (.int z6), .val (.ref b7), .val (.ref b15), .val (.ref r32), .val (.int z44), .val (.int (if z1 = z4 ∧ z2 = z5 ∧ z3 = z6 then (1 : Int32) else 0)), .val (.int (if z4 = z1 ∧ z5 = z2 ∧ z6 = z3 then (1 : Int32) else 0)), .val (.int (0 : Int32)), .unset] [(.ref b7)]))
                refine Go.st (fun _ => XS.aload X47.here hx rfl (hb hby at_173) rfl rfl) ?_
                show Go p e below _ (T47.setTop (mkF m 175 #[.val (.int p0), .val (.int p1), .val (.int z1), .val (.int z2), .val (.int z3), .val (.int z4), .val (.int z5), .val (.int z6), .val (.ref b7), .val (.ref b15), .val (.ref r32), .val (.int z44), .val (.int (if z1 = z4 ∧ z2 = z5 ∧ z3 = z6 then (1 : Int32) else 0)), .val (.int (if z4 = z1 ∧ z5 = z2 ∧ z6 = z3 then (1 : Int32) else 0)), .val (.int (0 : Int32)), .unset] [(.ref r32), (.ref b7)]))
                refine goVirt X47 hx hZ (y := (⟨"com/example/oghma/oghma/model/TypeAnnotations", "equals", "(Ljava/lang/Object;)Z"⟩ : MethodName)) (z := (⟨"com/example/oghma/oghma/model/TypeAnnotations", "equals", "(Ljava/lang/Object;)Z"⟩ : MethodName)) hown (hw _ (List.mem_of_getElem? (i := 26) rfl)) (hw _ (List.mem_of_getElem? (i := 27) rfl)) (notFace_of_selects (args := #[]) (mvT hZ (hw _ (List.mem_of_getElem? (i := 29) rfl)))) (hw _ (List.mem_of_getElem? (i := 29) rfl)) (hw _ (List.mem_of_getElem? (i := 28) rfl)) (hw _ (List.mem_of_getElem? (i := 2) rfl)) (hw _ (List.mem_of_getElem? (i := 30) rfl)) (by decide) (a := b7) (argsL := [(.ref r32)]) (rest := []) e47 E_34 (rm4 l Z a0 hw [] b7 r32 T32.heap n0 O33 Er32) 0 (by decide) (by decide) (by decide) (by decide) (mkF m 175 #[.val (.int p0), .val (.int p1), .val (.int z1), .val (.int z2), .val (.int z3), .val (.int z4), .val (.int z5), .val (.int z6), .val (.ref b7), .val (.ref b15), .val (.ref r32), .val (.int z44), .val (.int (if z1 = z4 ∧ z2 = z5 ∧ z3 = z6 then (1 : Int32) else 0)), .val (.int (if z4 = z1 ∧ z5 = z2 ∧ z6 = z3 then (1 : Int32) else 0)), .val (.int (0 : Int32)), .unset] [(.ref r32), (.ref b7)]) rfl (by rw [hml]; rfl) (lenOf pd_5 rfl) rfl (hb hby at_175) (Nat.le_of_eq rfl) ?_
                intro v48 T48 L48 X48 hQ48
                obtain ⟨rfl, M48, e48⟩ := hQ48
                have N48 := Fr.app N47 M48
                show Go p e below _ (T48.setTop (mkF m 178 #[.val (.int p0), .val (.int p1), .val (.int z1), .val (.int z2), .val (.int z3), .val (.int z4), .val (.int z5), .val (.int z6), .val (.ref b7), .val (.ref b15), .val (.ref r32), .val (.int z44), .val (.int (if z1 = z4 ∧ z2 = z5 ∧ z3 = z6 then (1 : Int32) else 0)), .val (.int (if z4 = z1 ∧ z5 = z2 ∧ z6 = z3 then (1 : Int32) else 0)), .val (.int (0 : Int32)), .unset] [(.int (0 : Int32))]))
                refine Go.st (fun _ => XS.istore X48.here hx rfl (hb hby at_178) rfl (l' := #[.val (.int p0), .val (.int p1), .val (.int z1), .val (.int z2), .val (.int z3), .val (.int z4), .val (.int z5), .val (.int z6), .val (.ref b7), .val (.ref b15), .val (.ref r32), .val (.int z44), .val (.int (if z1 = z4 ∧ z2 = z5 ∧ z3 = z6 then (1 : Int32) else 0)), .val (.int (if z4 = z1 ∧ z5 = z2 ∧ z6 = z3 then (1 : Int32) else 0)), .val (.int (0 : Int32)), .val (.int (0 : Int32))]) rfl) ?_
                show Go p e below _ (T48.setTop (mkF m 180 #[.val (.int p0), .val (.int p1), .val (.int z1), .val (.int z2), .val (.int z3), .val (.int z4), .val (.int z5), .val (.int z6), .val (.ref b7), .val (.ref b15), .val (.ref r32), .val (.int z44), .val (.int (if z1 = z4 ∧ z2 = z5 ∧ z3 = z6 then (1 : Int32) else 0)), .val (.int (if z4 = z1 ∧ z5 = z2 ∧ z6 = z3 then (1 : Int32) else 0)), .val (.int (0 : Int32)), .val (.int (0 : Int32))] []))
                refine Go.st (fun _ => XS.iload X48.here hx rfl (hb hby at_180) rfl) ?_
                show Go p e below _ (T48.setTop (mkF m 182 #[.val (.int p0), .val (.int p1), .val (.int z1), .val (.int z2), .val (.int z3), .val (.int z4), .val (.int z5), .val (.int z6), .val (.ref b7), .val (.ref b15), .val (.ref r32), .val (.int z44), .val (.int (if z1 = z4 ∧ z2 = z5 ∧ z3 = z6 then (1 : Int32) else 0)), .val (.int (if z4 = z1 ∧ z5 = z2 ∧ z6 = z3 then (1 : Int32) else 0)), .val (.int (0 : Int32)), .val (.int (0 : Int32))] [(.int (if z1 = z4 ∧ z2 = z5 ∧ z3 = z6 then (1 : Int32) else 0))]))
                refine Go.st (fun _ => XS.iload X48.here hx rfl (hb hby at_182) rfl) ?_
                show Go p e below _ (T48.setTop (mkF m 184 #[.val (.int p0), .val (.int p1), .val (.int z1), .val (.int z2), .val (.int z3), .val (.int z4), .val (.int z5), .val (.int z6), .val (.ref b7), .val (.ref b15), .val (.ref r32), .val (.int z44), .val (.int (if z1 = z4 ∧ z2 = z5 ∧ z3 = z6 then (1 : Int32) else 0)), .val (.int (if z4 = z1 ∧ z5 = z2 ∧ z6 = z3 then (1 : Int32) else 0)), .val (.int (0 : Int32)), .val (.int (0 : Int32))] [(.int z44), (.int (if z1 = z4 ∧ z2 = z5 ∧ z3 = z6 then (1 : Int32) else 0))]))
                refine Go.st (fun _ => XS.icmpNo X48.here hx rfl (hb hby at_184) rfl (teq ((own_ite (own_code_inj hbz1 hbz2 hbz3 hbz4 hbz5 hbz6).symm).trans hz44.symm)).2) ?_
                show Go p e below _ (T48.setTop (mkF m 187 #[.val (.int p0), .val (.int p1), .val (.int z1), .val (.int z2), .val (.int z3), .val (.int z4), .val (.int z5), .val (.int z6), .val (.ref b7), .val (.ref b15), .val (.ref r32), .val (.int z44), .val (.int (if z1 = z4 ∧ z2 = z5 ∧ z3 = z6 then (1 : Int32) else 0)), .val (.int (if z4 = z1 ∧ z5 = z2 ∧ z6 = z3 then (1 : Int32) else 0)), .val (.int (0 : Int32)), .val (.int (0 : Int32))] []))
                refine Go.st (fun _ => XS.iload X48.here hx rfl (hb hby at_187) rfl) ?_
                show Go p e below _ (T48.setTop (mkF m 189 #[.val (.int p0), .val (.int p1), .val (.int z1), .val (.int z2), .val (.int z3), .val (.int z4), .val (.int z5), .val (.int z6), .val (.ref b7), .val (.ref b15), .val (.ref r32), .val (.int z44), .val (.int (if z1 = z4 ∧ z2 = z5 ∧ z3 = z6 then (1 : Int32) else 0)), .val (.int (if z4 = z1 ∧ z5 = z2 ∧ z6 = z3 then (1 : Int32) else 0)), .val (.int (0 : Int32)), .val (.int (0 : Int32))] [(.int (if z4 = z1 ∧ z5 = z2 ∧ z6 = z3 then (1 : Int32) else 0))]))
                refine Go.st (fun _ => XS.iload X48.here hx rfl (hb hby at_189) rfl) ?_
                show Go p e below _ (T48.setTop (mkF m 191 #[.val (.int p0), .val (.int p1), .val (.int z1), .val (.int z2), .val (.int z3), .val (.int z4), .val (.int z5), .val (.int z6), .val (.ref b7), .val (.ref b15), .val (.ref r32), .val (.int z44), .val (.int (if z1 = z4 ∧ z2 = z5 ∧ z3 = z6 then (1 : Int32) else 0)), .val (.int (if z4 = z1 ∧ z5 = z2 ∧ z6 = z3 then (1 : Int32) else 0)), .val (.int (0 : Int32)), .val (.int (0 : Int32))] [(.int z44), (.int (if z4 = z1 ∧ z5 = z2 ∧ z6 = z3 then (1 : Int32) else 0))]))
                refine Go.st (fun _ => XS.icmpNo X48.here hx rfl (hb hby at_191) rfl (teq ((own_ite ((own_code_inj hbz1 hbz2 hbz3 hbz4 hbz5 hbz6).trans ⟨fun h => ⟨h.1.symm, h.2.1.symm, h.2.2.symm⟩, fun h => ⟨h.1.symm, h.2.1.symm, h.2.2.symm⟩⟩).symm).trans hz44.symm)).2) ?_
                show Go p e below _ (T48.setTop (mkF m 194 #[.val (.int p0), .val (.int p1), .val (.int z1), .val (.int z2), .val (.int z3), .val (.int z4), .val (.int z5), .val (.int z6), .val (.ref b7), .val (.ref b15), .val (.ref r32), .val (.int z44), .val (.int (if z1 = z4 ∧ z2 = z5 ∧ z3 = z6 then (1 : Int32) else 0)), .val (.int (if z4 = z1 ∧ z5 = z2 ∧ z6 = z3 then (1 : Int32) else 0)), .val (.int (0 : Int32)), .val (.int (0 : Int32))] []))
                refine Go.st (fun _ => XS.iload X48.here hx rfl (hb hby at_194) rfl) ?_
                show Go p e below _ (T48.setTop (mkF m 196 #[.val (.int p0), .val (.int p1), .val (.int z1), .val (.int z2), .val (.int z3), .val (.int z4), .val (.int z5), .val (.int z6), .val (.ref b7), .val (.ref b15), .val (.ref r32), .val (.int z44), .val (.int (if z1 = z4 ∧ z2 = z5 ∧ z3 = z6 then (1 : Int32) else 0)), .val (.int (if z4 = z1 ∧ z5 = z2 ∧ z6 = z3 then (1 : Int32) else 0)), .val (.int (0 : Int32)), .val (.int (0 : Int32))] [(.int (0 : Int32))]))
                refine Go.st (fun _ => XS.ifNo X48.here hx rfl (hb hby at_196) rfl ((if0 _ _).trans (teq (by decide : (0 : Int32) = (0 : Int32))).2)) ?_
                show Go p e below _ (T48.setTop (mkF m 199 #[.val (.int p0), .val (.int p1), .val (.int z1), .val (.int z2), .val (.int z3), .val (.int z4), .val (.int z5), .val (.int z6), .val (.ref b7), .val (.ref b15), .val (.ref r32), .val (.int z44), .val (.int (if z1 = z4 ∧ z2 = z5 ∧ z3 = z6 then (1 : Int32) else 0)), .val (.int (if z4 = z1 ∧ z5 = z2 ∧ z6 = z3 then (1 : Int32) else 0)), .val (.int (0 : Int32)), .val (.int (0 : Int32))] []))
                refine Go.st (fun _ => XS.iload X48.here hx rfl (hb hby at_199) rfl) ?_
                show Go p e below _ (T48.setTop (mkF m 201 #[.val (.int p0), .val (.int p1), .val (.int z1), .val (.int z2), .val (.int z3), .val (.int z4), .val (.int z5), .val (.int z6), .val (.ref b7), .val (.ref b15), .val (.ref r32), .val (.int z44), .val (.int (if z1 = z4 ∧ z2 = z5 ∧ z3 = z6 then (1 : Int32) else 0)), .val (.int (if z4 = z1 ∧ z5 = z2 ∧ z6 = z3 then (1 : Int32) else 0)), .val (.int (0 : Int32)), .val (.int (0 : Int32))] [(.int (0 : Int32))]))
                refine Go.st (fun _ => XS.ifNo X48.here hx rfl (hb hby at_201) rfl ((if0 _ _).trans (teq (by decide : (0 : Int32) = (0 : Int32))).2)) ?_
                show Go p e below _ (T48.setTop (mkF m 204 #[.val (.int p0), .val (.int p1), .val (.int z1), .val (.int z2), .val (.int z3), .val (.int z4), .val (.int z5), .val (.int z6), .val (.ref b7), .val (.ref b15), .val (.ref r32), .val (.int z44), .val (.int (if z1 = z4 ∧ z2 = z5 ∧ z3 = z6 then (1 : Int32) else 0)), .val (.int (if z4 = z1 ∧ z5 = z2 ∧ z6 = z3 then (1 : Int32) else 0)), .val (.int (0 : Int32)), .val (.int (0 : Int32))] []))
                refine Go.st (fun _ => XS.iconst X48.here hx rfl (hb hby at_204)) ?_
                show Go p e below _ (T48.setTop (mkF m 205 #[.val (.int p0), .val (.int p1), .val (.int z1), .val (.int z2), .val (.int z3), .val (.int z4), .val (.int z5), .val (.int z6), .val (.ref b7), .val (.ref b15), .val (.ref r32), .val (.int z44), .val (.int (if z1 = z4 ∧ z2 = z5 ∧ z3 = z6 then (1 : Int32) else 0)), .val (.int (if z4 = z1 ∧ z5 = z2 ∧ z6 = z3 then (1 : Int32) else 0)), .val (.int (0 : Int32)), .val (.int (0 : Int32))] [(.int (1 : Int32))]))
                refine Go.st (fun _ => XS.goto X48.here hx rfl (pc0 := 205) (pc' := 209) rfl (hb hby at_205) (by decide) (by decide)) ?_
                show Go p e below _ (T48.setTop (mkF m 209 #[.val (.int p0), .val (.int p1), .val (.int z1), .val (.int z2), .val (.int z3), .val (.int z4), .val (.int z5), .val (.int z6), .val (.ref b7), .val (.ref b15), .val (.ref r32), .val (.int z44), .val (.int (if z1 = z4 ∧ z2 = z5 ∧ z3 = z6 then (1 : Int32) else 0)), .val (.int (if z4 = z1 ∧ z5 = z2 ∧ z6 = z3 then (1 : Int32) else 0)), .val (.int (0 : Int32)), .val (.int (0 : Int32))] [(.int (1 : Int32))]))
                exact goRetN X48 hx hlk hret (t := .boolean) (by simp) (w := (1 : Int32)) (by decide) e48 (hb hby at_209) (by decide) (by decide) ⟨rfl, N48⟩
              · show Go p e below _ (T43.setTop (mkF m 135 #[.val (.int p0), .val (.int p1), .val (.int z1), .val (.int z2), .val (.int z3), .val (.int z4), .val (.int z5), .val (.int z6), .val (.ref b7), .val (.ref b15), .val (.ref r32), .unset, .unset, .unset, .unset, .unset] [(.int (own_code z4 z5 z6)), (.int (own_code z1 z2 z3))]))
                by_cases hc49 : (own_code z1 z2 z3) = (own_code z4 z5 z6)
                · refine Go.st (fun _ => XS.icmpNo X43.here hx rfl (hb hby at_135) rfl (teq hc49).2) ?_
                  show Go p e below _ (T43.setTop (mkF m 138 #[.val (.int p0), .val (.int p1), .val (.int z1), .val (.int z2), .val (.int z3), .val (.int z4), .val (.int z5), .val (.int z6), .val (.ref b7), .val (.ref b15), .val (.ref r32), .unset, .unset, .unset, .unset, .unset] []))
                  refine Go.st (fun _ => XS.iconst X43.here hx rfl (hb hby at_138)) ?_
                  show Go p e below _ (T43.setTop (mkF m 139 #[.val (.int p0), .val (.int p1), .val (.int z1), .val (.int z2), .val (.int z3), .val (.int z4), .val (.int z5), .val (.int z6), .val (.ref b7), .val (.ref b15), .val (.ref r32), .unset, .unset, .unset, .unset, .unset] [(.int (1 : Int32))]))
                  refine Go.st (fun _ => XS.goto X43.here hx rfl (pc0 := 139) (pc' := 143) rfl (hb hby at_139) (by decide) (by decide)) ?_
                  exact J44 _ (by simp [hc49])
                · refine Go.st (fun _ => XS.icmpYes X43.here hx rfl (pc0 := 135) (pc' := 142) rfl (hb hby at_135) rfl (feq hc49).2 (by decide) (by decide)) ?_
                  show Go p e below _ (T43.setTop (mkF m 142 #[.val (.int p0), .val (.int p1), .val (.int z1), .val (.int z2), .val (.int z3), .val (.int z4), .val (.int z5), .val (.int z6), .val (.ref b7), .val (.ref b15), .val (.ref r32), .unset, .unset, .unset, .unset, .unset] []))
                  refine Go.st (fun _ => XS.iconst X43.here hx rfl (hb hby at_142)) ?_
                  exact J44 _ (by simp [hc49])
            · show Go p e below _ (s₁.setTop (mkF m 75 #[.val (.int p0), .val (.int p1), .val (.int z1), .val (.int z2), .val (.int z3), .val (.int z4), .val (.int z5), .unset, .unset, .unset, .unset, .unset, .unset, .unset, .unset, .unset] [(.int (p1 &&& (4 : Int32)))]))
              by_cases hc50 : (p1 &&& (4 : Int32)) = (0 : Int32)
              · refine Go.st (fun _ => XS.ifYes X0.here hx rfl (pc0 := 75) (pc' := 82) rfl (hb hby at_75) rfl ((if0 _ _).trans (teq hc50).1) (by decide) (by decide)) ?_
                show Go p e below _ (s₁.setTop (mkF m 82 #[.val (.int p0), .val (.int p1), .val (.int z1), .val (.int z2), .val (.int z3), .val (.int z4), .val (.int z5), .unset, .unset, .unset, .unset, .unset, .unset, .unset, .unset, .unset] []))
                refine Go.st (fun _ => XS.iconst X0.here hx rfl (hb hby at_82)) ?_
                exact J6 _ (by simp [hc50])
              · refine Go.st (fun _ => XS.ifNo X0.here hx rfl (hb hby at_75) rfl ((if0 _ _).trans (feq hc50).1)) ?_
                show Go p e below _ (s₁.setTop (mkF m 78 #[.val (.int p0), .val (.int p1), .val (.int z1), .val (.int z2), .val (.int z3), .val (.int z4), .val (.int z5), .unset, .unset, .unset, .unset, .unset, .unset, .unset, .unset, .unset] []))
                refine Go.st (fun _ => XS.iconst X0.here hx rfl (hb hby at_78)) ?_
                show Go p e below _ (s₁.setTop (mkF m 79 #[.val (.int p0), .val (.int p1), .val (.int z1), .val (.int z2), .val (.int z3), .val (.int z4), .val (.int z5), .unset, .unset, .unset, .unset, .unset, .unset, .unset, .unset, .unset] [(.int (1 : Int32))]))
                refine Go.st (fun _ => XS.goto X0.here hx rfl (pc0 := 79) (pc' := 83) rfl (hb hby at_79) (by decide) (by decide)) ?_
                exact J6 _ (by simp [hc50])
          · show Go p e below _ (s₁.setTop (mkF m 56 #[.val (.int p0), .val (.int p1), .val (.int z1), .val (.int z2), .val (.int z3), .val (.int z4), .unset, .unset, .unset, .unset, .unset, .unset, .unset, .unset, .unset, .unset] [(.int z4)]))
            by_cases hc51 : z4 = (0 : Int32)
            · refine Go.st (fun _ => XS.ifYes X0.here hx rfl (pc0 := 56) (pc' := 69) rfl (hb hby at_56) rfl ((if0 _ _).trans (teq hc51).1) (by decide) (by decide)) ?_
              show Go p e below _ (s₁.setTop (mkF m 69 #[.val (.int p0), .val (.int p1), .val (.int z1), .val (.int z2), .val (.int z3), .val (.int z4), .unset, .unset, .unset, .unset, .unset, .unset, .unset, .unset, .unset, .unset] []))
              refine Go.st (fun _ => XS.iconst X0.here hx rfl (hb hby at_69)) ?_
              exact J5 _ (by simp [hc51])
            · refine Go.st (fun _ => XS.ifNo X0.here hx rfl (hb hby at_56) rfl ((if0 _ _).trans (feq hc51).1)) ?_
              show Go p e below _ (s₁.setTop (mkF m 59 #[.val (.int p0), .val (.int p1), .val (.int z1), .val (.int z2), .val (.int z3), .val (.int z4), .unset, .unset, .unset, .unset, .unset, .unset, .unset, .unset, .unset, .unset] []))
              refine Go.st (fun _ => XS.iloadN X0.here hx rfl (hb hby at_59) rfl) ?_
              show Go p e below _ (s₁.setTop (mkF m 60 #[.val (.int p0), .val (.int p1), .val (.int z1), .val (.int z2), .val (.int z3), .val (.int z4), .unset, .unset, .unset, .unset, .unset, .unset, .unset, .unset, .unset, .unset] [(.int p1)]))
              refine Go.st (fun _ => XS.iconst X0.here hx rfl (hb hby at_60)) ?_
              show Go p e below _ (s₁.setTop (mkF m 61 #[.val (.int p0), .val (.int p1), .val (.int z1), .val (.int z2), .val (.int z3), .val (.int z4), .unset, .unset, .unset, .unset, .unset, .unset, .unset, .unset, .unset, .unset] [(.int (2 : Int32)), (.int p1)]))
              refine Go.st (fun _ => XS.iand X0.here hx rfl (hb hby at_61) rfl) ?_
              show Go p e below _ (s₁.setTop (mkF m 62 #[.val (.int p0), .val (.int p1), .val (.int z1), .val (.int z2), .val (.int z3), .val (.int z4), .unset, .unset, .unset, .unset, .unset, .unset, .unset, .unset, .unset, .unset] [(.int (p1 &&& (2 : Int32)))]))
              by_cases hc52 : (p1 &&& (2 : Int32)) = (0 : Int32)
              · refine Go.st (fun _ => XS.ifYes X0.here hx rfl (pc0 := 62) (pc' := 69) rfl (hb hby at_62) rfl ((if0 _ _).trans (teq hc52).1) (by decide) (by decide)) ?_
                show Go p e below _ (s₁.setTop (mkF m 69 #[.val (.int p0), .val (.int p1), .val (.int z1), .val (.int z2), .val (.int z3), .val (.int z4), .unset, .unset, .unset, .unset, .unset, .unset, .unset, .unset, .unset, .unset] []))
                refine Go.st (fun _ => XS.iconst X0.here hx rfl (hb hby at_69)) ?_
                exact J5 _ (by simp [hc51, hc52])
              · refine Go.st (fun _ => XS.ifNo X0.here hx rfl (hb hby at_62) rfl ((if0 _ _).trans (feq hc52).1)) ?_
                show Go p e below _ (s₁.setTop (mkF m 65 #[.val (.int p0), .val (.int p1), .val (.int z1), .val (.int z2), .val (.int z3), .val (.int z4), .unset, .unset, .unset, .unset, .unset, .unset, .unset, .unset, .unset, .unset] []))
                refine Go.st (fun _ => XS.iconst X0.here hx rfl (hb hby at_65)) ?_
                show Go p e below _ (s₁.setTop (mkF m 66 #[.val (.int p0), .val (.int p1), .val (.int z1), .val (.int z2), .val (.int z3), .val (.int z4), .unset, .unset, .unset, .unset, .unset, .unset, .unset, .unset, .unset, .unset] [(.int (1 : Int32))]))
                refine Go.st (fun _ => XS.goto X0.here hx rfl (pc0 := 66) (pc' := 70) rfl (hb hby at_66) (by decide) (by decide)) ?_
                exact J5 _ (by simp [hc51, hc52])
        · show Go p e below _ (s₁.setTop (mkF m 44 #[.val (.int p0), .val (.int p1), .val (.int z1), .val (.int z2), .val (.int z3), .unset, .unset, .unset, .unset, .unset, .unset, .unset, .unset, .unset, .unset, .unset] [(.int (p1 &&& (1 : Int32)))]))
          by_cases hc53 : (p1 &&& (1 : Int32)) = (0 : Int32)
          · refine Go.st (fun _ => XS.ifYes X0.here hx rfl (pc0 := 44) (pc' := 51) rfl (hb hby at_44) rfl ((if0 _ _).trans (teq hc53).1) (by decide) (by decide)) ?_
            show Go p e below _ (s₁.setTop (mkF m 51 #[.val (.int p0), .val (.int p1), .val (.int z1), .val (.int z2), .val (.int z3), .unset, .unset, .unset, .unset, .unset, .unset, .unset, .unset, .unset, .unset, .unset] []))
            refine Go.st (fun _ => XS.iconst X0.here hx rfl (hb hby at_51)) ?_
            exact J4 _ (by simp [hc53])
          · refine Go.st (fun _ => XS.ifNo X0.here hx rfl (hb hby at_44) rfl ((if0 _ _).trans (feq hc53).1)) ?_
            show Go p e below _ (s₁.setTop (mkF m 47 #[.val (.int p0), .val (.int p1), .val (.int z1), .val (.int z2), .val (.int z3), .unset, .unset, .unset, .unset, .unset, .unset, .unset, .unset, .unset, .unset, .unset] []))
            refine Go.st (fun _ => XS.iconst X0.here hx rfl (hb hby at_47)) ?_
            show Go p e below _ (s₁.setTop (mkF m 48 #[.val (.int p0), .val (.int p1), .val (.int z1), .val (.int z2), .val (.int z3), .unset, .unset, .unset, .unset, .unset, .unset, .unset, .unset, .unset, .unset, .unset] [(.int (1 : Int32))]))
            refine Go.st (fun _ => XS.goto X0.here hx rfl (pc0 := 48) (pc' := 52) rfl (hb hby at_48) (by decide) (by decide)) ?_
            exact J4 _ (by simp [hc53])
      · show Go p e below _ (s₁.setTop (mkF m 31 #[.val (.int p0), .val (.int p1), .val (.int z1), .val (.int z2), .unset, .unset, .unset, .unset, .unset, .unset, .unset, .unset, .unset, .unset, .unset, .unset] [(.int (p0 &&& (4 : Int32)))]))
        by_cases hc54 : (p0 &&& (4 : Int32)) = (0 : Int32)
        · refine Go.st (fun _ => XS.ifYes X0.here hx rfl (pc0 := 31) (pc' := 38) rfl (hb hby at_31) rfl ((if0 _ _).trans (teq hc54).1) (by decide) (by decide)) ?_
          show Go p e below _ (s₁.setTop (mkF m 38 #[.val (.int p0), .val (.int p1), .val (.int z1), .val (.int z2), .unset, .unset, .unset, .unset, .unset, .unset, .unset, .unset, .unset, .unset, .unset, .unset] []))
          refine Go.st (fun _ => XS.iconst X0.here hx rfl (hb hby at_38)) ?_
          exact J3 _ (by simp [hc54])
        · refine Go.st (fun _ => XS.ifNo X0.here hx rfl (hb hby at_31) rfl ((if0 _ _).trans (feq hc54).1)) ?_
          show Go p e below _ (s₁.setTop (mkF m 34 #[.val (.int p0), .val (.int p1), .val (.int z1), .val (.int z2), .unset, .unset, .unset, .unset, .unset, .unset, .unset, .unset, .unset, .unset, .unset, .unset] []))
          refine Go.st (fun _ => XS.iconst X0.here hx rfl (hb hby at_34)) ?_
          show Go p e below _ (s₁.setTop (mkF m 35 #[.val (.int p0), .val (.int p1), .val (.int z1), .val (.int z2), .unset, .unset, .unset, .unset, .unset, .unset, .unset, .unset, .unset, .unset, .unset, .unset] [(.int (1 : Int32))]))
          refine Go.st (fun _ => XS.goto X0.here hx rfl (pc0 := 35) (pc' := 39) rfl (hb hby at_35) (by decide) (by decide)) ?_
          exact J3 _ (by simp [hc54])
    · show Go p e below _ (s₁.setTop (mkF m 13 #[.val (.int p0), .val (.int p1), .val (.int z1), .unset, .unset, .unset, .unset, .unset, .unset, .unset, .unset, .unset, .unset, .unset, .unset, .unset] [(.int z1)]))
      by_cases hc55 : z1 = (0 : Int32)
      · refine Go.st (fun _ => XS.ifYes X0.here hx rfl (pc0 := 13) (pc' := 26) rfl (hb hby at_13) rfl ((if0 _ _).trans (teq hc55).1) (by decide) (by decide)) ?_
        show Go p e below _ (s₁.setTop (mkF m 26 #[.val (.int p0), .val (.int p1), .val (.int z1), .unset, .unset, .unset, .unset, .unset, .unset, .unset, .unset, .unset, .unset, .unset, .unset, .unset] []))
        refine Go.st (fun _ => XS.iconst X0.here hx rfl (hb hby at_26)) ?_
        exact J2 _ (by simp [hc55])
      · refine Go.st (fun _ => XS.ifNo X0.here hx rfl (hb hby at_13) rfl ((if0 _ _).trans (feq hc55).1)) ?_
        show Go p e below _ (s₁.setTop (mkF m 16 #[.val (.int p0), .val (.int p1), .val (.int z1), .unset, .unset, .unset, .unset, .unset, .unset, .unset, .unset, .unset, .unset, .unset, .unset, .unset] []))
        refine Go.st (fun _ => XS.iloadN X0.here hx rfl (hb hby at_16) rfl) ?_
        show Go p e below _ (s₁.setTop (mkF m 17 #[.val (.int p0), .val (.int p1), .val (.int z1), .unset, .unset, .unset, .unset, .unset, .unset, .unset, .unset, .unset, .unset, .unset, .unset, .unset] [(.int p0)]))
        refine Go.st (fun _ => XS.iconst X0.here hx rfl (hb hby at_17)) ?_
        show Go p e below _ (s₁.setTop (mkF m 18 #[.val (.int p0), .val (.int p1), .val (.int z1), .unset, .unset, .unset, .unset, .unset, .unset, .unset, .unset, .unset, .unset, .unset, .unset, .unset] [(.int (2 : Int32)), (.int p0)]))
        refine Go.st (fun _ => XS.iand X0.here hx rfl (hb hby at_18) rfl) ?_
        show Go p e below _ (s₁.setTop (mkF m 19 #[.val (.int p0), .val (.int p1), .val (.int z1), .unset, .unset, .unset, .unset, .unset, .unset, .unset, .unset, .unset, .unset, .unset, .unset, .unset] [(.int (p0 &&& (2 : Int32)))]))
        by_cases hc56 : (p0 &&& (2 : Int32)) = (0 : Int32)
        · refine Go.st (fun _ => XS.ifYes X0.here hx rfl (pc0 := 19) (pc' := 26) rfl (hb hby at_19) rfl ((if0 _ _).trans (teq hc56).1) (by decide) (by decide)) ?_
          show Go p e below _ (s₁.setTop (mkF m 26 #[.val (.int p0), .val (.int p1), .val (.int z1), .unset, .unset, .unset, .unset, .unset, .unset, .unset, .unset, .unset, .unset, .unset, .unset, .unset] []))
          refine Go.st (fun _ => XS.iconst X0.here hx rfl (hb hby at_26)) ?_
          exact J2 _ (by simp [hc55, hc56])
        · refine Go.st (fun _ => XS.ifNo X0.here hx rfl (hb hby at_19) rfl ((if0 _ _).trans (feq hc56).1)) ?_
          show Go p e below _ (s₁.setTop (mkF m 22 #[.val (.int p0), .val (.int p1), .val (.int z1), .unset, .unset, .unset, .unset, .unset, .unset, .unset, .unset, .unset, .unset, .unset, .unset, .unset] []))
          refine Go.st (fun _ => XS.iconst X0.here hx rfl (hb hby at_22)) ?_
          show Go p e below _ (s₁.setTop (mkF m 23 #[.val (.int p0), .val (.int p1), .val (.int z1), .unset, .unset, .unset, .unset, .unset, .unset, .unset, .unset, .unset, .unset, .unset, .unset, .unset] [(.int (1 : Int32))]))
          refine Go.st (fun _ => XS.goto X0.here hx rfl (pc0 := 23) (pc' := 27) rfl (hb hby at_23) (by decide) (by decide)) ?_
          exact J2 _ (by simp [hc55, hc56])
  · show Go p e below _ (s₁.setTop (mkF m 3 #[.val (.int p0), .val (.int p1), .unset, .unset, .unset, .unset, .unset, .unset, .unset, .unset, .unset, .unset, .unset, .unset, .unset, .unset] [(.int (p0 &&& (1 : Int32)))]))
    by_cases hc57 : (p0 &&& (1 : Int32)) = (0 : Int32)
    · refine Go.st (fun _ => XS.ifYes X0.here hx rfl (pc0 := 3) (pc' := 10) rfl (hb hby at_3) rfl ((if0 _ _).trans (teq hc57).1) (by decide) (by decide)) ?_
      show Go p e below _ (s₁.setTop (mkF m 10 #[.val (.int p0), .val (.int p1), .unset, .unset, .unset, .unset, .unset, .unset, .unset, .unset, .unset, .unset, .unset, .unset, .unset, .unset] []))
      refine Go.st (fun _ => XS.iconst X0.here hx rfl (hb hby at_10)) ?_
      exact J1 _ (by simp [hc57])
    · refine Go.st (fun _ => XS.ifNo X0.here hx rfl (hb hby at_3) rfl ((if0 _ _).trans (feq hc57).1)) ?_
      show Go p e below _ (s₁.setTop (mkF m 6 #[.val (.int p0), .val (.int p1), .unset, .unset, .unset, .unset, .unset, .unset, .unset, .unset, .unset, .unset, .unset, .unset, .unset, .unset] []))
      refine Go.st (fun _ => XS.iconst X0.here hx rfl (hb hby at_6)) ?_
      show Go p e below _ (s₁.setTop (mkF m 7 #[.val (.int p0), .val (.int p1), .unset, .unset, .unset, .unset, .unset, .unset, .unset, .unset, .unset, .unset, .unset, .unset, .unset, .unset] [(.int (1 : Int32))]))
      refine Go.st (fun _ => XS.goto X0.here hx rfl (pc0 := 7) (pc' := 11) rfl (hb hby at_7) (by decide) (by decide)) ?_
      exact J1 _ (by simp [hc57])
set_option maxRecDepth 65536 in
set_option maxHeartbeats 40000000 in
theorem comes_1 {Post : Tables → Env → Array Value → State → Outcome → State → Prop} (hpost : ∀ tb e args s v u, (limb_1_1.after args s (.returned v) u = true ∧ limb_1_2.after args s (.returned v) u = true ∧ True) → FrameEnd s (.returned v) u (Jvm.fieldLocs frame_1_writes args s ++ Jvm.arrayLocs frame_1_arrays args s ++ Jvm.staticLocs frame_1_statics s) 16 128 → Post tb e args s (.returned v) u) :
    ArmFor flags0 classFile x code maxLocals ret World_1 tables_1 room_1 Calls_1 rest_1 Pre_1 Post := by
  intro l hfl _ _ p e ha hc hk s m args below hf hA hF happ hP
  obtain ⟨hcalls, hrest, hpre⟩ := hP
  obtain ⟨-, -, -, hnamed, -, -, -, hat⟩ := (Spec.applies_iff hf).mp happ
  obtain ⟨hg, hn⟩ := and_e (Cond.before_iff.mp (show (Jvm.Cond.and given_1 narrow_1).before args s = true from hpre))
  obtain ⟨g1, g2⟩ := and_e hg
  obtain ⟨g3, g4⟩ := and_e g2
  obtain ⟨w0, w1, rfl⟩ : ∃ w0 w1 : Value, args = #[w0, w1] := by
    have hs : args.size = 2 := by simpa [Cond.value, given_1] using g1
    obtain ⟨L⟩ := args
    match L, hs with
    | [w0, w1], _ => exact ⟨w0, w1, rfl⟩
  have hw := fun d (hd : d ∈ tables_1) => atoms_spec (ws := Jvm.Cond.code x code maxLocals ret :: tables_1) hat d (List.mem_cons_of_mem _ hd)
  have hfit : Fit s := fun {y c} hc i hi => by
    obtain ⟨ha, rfl⟩ := Array.getElem?_eq_some_iff.mp hc
    have q := List.all_eq_true.mp ((Array.all_eq_true_iff_forall_mem.mp hF) _ (Array.getElem_mem ha)) i (List.mem_range.mpr hi)
    simpa [Array.getElem?_eq_getElem hi] using q
  obtain ⟨hsets, hown0⟩ := atoms_of _ (rest_1_c_eq ▸ (show rest_1_c.before _ s = true from hrest))
  obtain ⟨i0, ei0⟩ := is_v g3
  obtain rfl : w0 = (.int i0) := Option.some.inj ei0
  obtain ⟨i1, ei1⟩ := is_v g4
  obtain rfl : w1 = (.int i1) := Option.some.inj ei1
  have hb2 := Cond.before_iff.mp (hsets _ (List.mem_of_getElem? (i := 4) rfl))
  obtain ⟨wc, evc⟩ := arr_v hb2
  obtain ⟨cl, Arc⟩ := Arr.start evc hb2
  have S_cache := Sta.start evc (Or.inr ⟨(hw _ (List.mem_of_getElem? (i := 20) rfl)), (hsets _ (List.mem_of_getElem? (i := 2) rfl))⟩)
  have S_high := Sta.start (staInt (Cond.before_iff.mp (hsets _ (List.mem_of_getElem? (i := 3) rfl)))) (Or.inl (hsets _ (List.mem_of_getElem? (i := 1) rfl)))
  obtain ⟨hlt, hle⟩ := lenStart evc (Arc.fin (Vm.Alike.refl _)) (Cond.before_iff.mp (hsets _ (List.mem_of_getElem? (i := 6) rfl)))
  have BX : Bxs s wc cl "java/lang/Integer" "I" 256 (fun j => (.int (j - 128))) := Bxs.start (fun _ => evc) Arc hlt hle (by decide) (Cond.before_iff.mp (hsets _ (List.mem_of_getElem? (i := 7) rfl))) (fun X j nn hX => eqv_i (subAt (idx_at nn) (Term.int_eval 128)) hX)
  obtain ⟨n, o, h1, h2, h3, _, L, rfl, ⟨rfl, N⟩, hq⟩ := rm0 l s _ hw tables_1 i0 i1 wc cl s.heap s.heap.size (Old.start s) S_cache S_high BX p e ha hc hk s m _ below hf ((Spec.applies_iff_loose hf).mp happ).1 ⟨rfl, State.Warmed39.refl s, rfl⟩ trivial
  refine ⟨n, _, h1, h2, h3, hpost _ _ _ _ _ _ ⟨Cond.after_iff.mpr rfl, Cond.after_iff.mpr (eq_i res_at (Term.int_eval (1)) rfl), trivial⟩ ⟨hq.1, hq.2.1, (hq.2.2.sift fun y hy => Or.inr (N y hy)).mono (by decide) (by decide)⟩⟩
theorem main_1_1 : Claimed_1_1 := comes_1 fun _ _ _ _ _ _ h hF => ⟨h.1, hF⟩
theorem main_1_2 : Claimed_1_2 := comes_1 fun _ _ _ _ _ _ h hF => ⟨h.2.1, hF⟩
end Jvm.Pilot.@@N@@
namespace Jvm.Pilot.@@N@@
open Jvm Jvm.ClassFile Sem Op Lib Jvm.Free Jvm.Stand Jvm.Pilot.@@N@@.Jvm.D
/-! MADE BY PROGRAM (witnessworld.py) out of the Statement's table words and the real class files: 16 classes; the members and pool entries that the words name. The judged class is class 1, her method 2. -/
namespace start1
open Jvm.ClassFile
def u (s : String) : CpInfo := .utf8 (stringToUtf16 s)
/-- a pool by its gaps: so many unusable entries, then the entry; so many at the end -/
def gap : Nat → List CpInfo → List CpInfo
  | 0, r => r
  | n + 1, r => .unusable :: gap n r
def poolList (es : List (Nat × CpInfo)) (last : Nat) : List CpInfo := es.foldr (fun e r => gap e.1 (e.2 :: r)) (gap last [])
def pool (es : List (Nat × CpInfo)) (last : Nat) : Array CpInfo := ⟨poolList es last⟩
def fileOf (pool : Array CpInfo) (this : Nat) (attrs : Array Attribute := #[]) (ms : Array MethodInfo := #[]) (fl : Nat := 33) (sup : Nat := 0) (ifs : Array Nat := #[]) (fds : Array FieldInfo := #[]) : ClassFile where
  minorVersion := 0
  majorVersion := 65
  constantPool := pool
  accessFlags := fl
  thisClass := this
  superClass := sup
  interfaces := ifs
  fields := fds
  methods := ms
  attributes := attrs
def plain (name : String) (sup : Option ClassId) : Class where
  name := name
  kind := .ordinary
  loader := none
  accessFlags := 33
  super := sup
  interfaces := #[]
  cf := none
  fields := #[]
  methods := #[]
  instanceTypes := #[]
  staticTypes := #[]
  resolved := #[]
  callSites := []
  init := .initialized
  statics := none
  mirror := none

def pool0 : Array CpInfo := pool [(5, u "<init>"), (0, u "()V"), (1, .class_ 10), (1, u "java/lang/Object")] 113

def k0c0 : Code := { maxStack := 0, maxLocals := 1, code := object_method_1_code, exceptionTable := #[], attributes := #[] }
def k0m0 : Method := { name := "<init>", desc := "()V", sig := { parameters := [], returnType := none }, accessFlags := 1, code := some k0c0 }
/-- java/lang/Object -/
def k0 : Class := { plain "java/lang/Object" none with
  accessFlags := 33
  interfaces := #[]
  cf := some (fileOf pool0 8 #[] #[{ accessFlags := 1, nameIndex := 5, descriptorIndex := 6, attributes := #[] }] 33 0 #[] #[])
  fields := #[]
  methods := #[k0m0]
  instanceTypes := #[]
  staticTypes := #[]
  resolved := Array.replicate 124 none
  statics := none }

def pool1 : Array CpInfo := pool [(2, .class_ 4), (1, u "java/lang/Object"), (0, u "<init>"), (0, u "()V"), (0, .class_ 8), (0, u "com/example/oghma/oghma/model/TypeAnnotations"), (0, .methodref 7 10), (0, .nameAndType 5 11), (0, u "(ZZZ)V"), (0, .methodref 13 14), (0, .class_ 15), (0, .nameAndType 16 17), (0, u "java/lang/Integer"), (0, u "valueOf"), (0, u "(I)Ljava/lang/Integer;"), (0, .methodref 19 20), (0, .class_ 21), (0, .nameAndType 22 23), (0, u "com/example/oghma/oghma/model/TypeAnnotationsEqualsPinLaw"), (0, u "code"), (0, u "(ZZZ)I"), (0, .methodref 7 25), (0, .nameAndType 26 27), (0, u "equals"), (0, u "(Ljava/lang/Object;)Z"), (3, u "law"), (0, u "(II)Z")] 2

def k1m0 : Method := { name := "<init>", desc := "()V", sig := { parameters := [], returnType := none }, accessFlags := 1, code := none }
def k1c1 : Code := { maxStack := 2, maxLocals := 4, code := method_2_code, exceptionTable := #[], attributes := #[] }
def k1m1 : Method := { name := "code", desc := "(ZZZ)I", sig := { parameters := [.boolean, .boolean, .boolean], returnType := some .int }, accessFlags := 10, code := some k1c1 }
def k1c2 : Code := { maxStack := 5, maxLocals := 16, code := code, exceptionTable := #[], attributes := #[] }
def k1m2 : Method := { name := "law", desc := "(II)Z", sig := { parameters := [.int, .int], returnType := some .boolean }, accessFlags := 9, code := some k1c2 }
/-- com/example/oghma/oghma/model/TypeAnnotationsEqualsPinLaw -/
def k1 : Class := { plain "com/example/oghma/oghma/model/TypeAnnotationsEqualsPinLaw" (some 0) with
  accessFlags := 49
  interfaces := #[]
  cf := some (fileOf pool1 19 #[] #[{ accessFlags := 1, nameIndex := 5, descriptorIndex := 6, attributes := #[] }, { accessFlags := 10, nameIndex := 22, descriptorIndex := 23, attributes := #[] }, { accessFlags := 9, nameIndex := 31, descriptorIndex := 32, attributes := #[] }] 49 2 #[] #[])
  fields := #[]
  methods := #[k1m0, k1m1, k1m2]
  instanceTypes := #[]
  staticTypes := #[]
  resolved := Array.replicate 35 none
  statics := none }

def pool2 : Array CpInfo := pool [(1, .methodref 2 3), (0, .class_ 4), (0, .nameAndType 5 6), (0, u "java/lang/Object"), (0, u "<init>"), (0, u "()V"), (7, .fieldref 15 16), (0, .class_ 17), (0, .nameAndType 18 19), (0, u "com/example/oghma/oghma/model/TypeAnnotations"), (0, u "nullable"), (0, u "Z"), (0, .fieldref 15 21), (0, .nameAndType 22 19), (0, u "onHeap"), (0, .fieldref 15 24), (0, .nameAndType 25 19), (0, u "utf8InCpp"), (18, u "(ZZZ)V"), (2, u "NONE"), (0, u "Lcom/example/oghma/oghma/model/TypeAnnotations;"), (7, u "equals"), (0, u "(Ljava/lang/Object;)Z")] 22

def k2c0 : Code := { maxStack := 3, maxLocals := 4, code := prog_85_method_1_code, exceptionTable := #[], attributes := #[] }
def k2m0 : Method := { name := "<init>", desc := "(ZZZ)V", sig := { parameters := [.boolean, .boolean, .boolean], returnType := none }, accessFlags := 1, code := some k2c0 }
def k2c1 : Code := { maxStack := 2, maxLocals := 3, code := prog_85_method_5_code, exceptionTable := #[], attributes := #[] }
def k2m1 : Method := { name := "equals", desc := "(Ljava/lang/Object;)Z", sig := { parameters := [(.object "java/lang/Object")], returnType := some .boolean }, accessFlags := 1, code := some k2c1 }
/-- com/example/oghma/oghma/model/TypeAnnotations -/
def k2 : Class := { plain "com/example/oghma/oghma/model/TypeAnnotations" (some 0) with
  accessFlags := 49
  interfaces := #[]
  cf := some (fileOf pool2 15 #[] #[{ accessFlags := 1, nameIndex := 5, descriptorIndex := 44, attributes := #[] }, { accessFlags := 1, nameIndex := 56, descriptorIndex := 57, attributes := #[] }] 49 2 #[] #[{ accessFlags := 25, nameIndex := 47, descriptorIndex := 48, attributes := #[] }, { accessFlags := 18, nameIndex := 18, descriptorIndex := 19, attributes := #[] }, { accessFlags := 18, nameIndex := 22, descriptorIndex := 19, attributes := #[] }, { accessFlags := 18, nameIndex := 25, descriptorIndex := 19, attributes := #[] }])
  fields := #[{ name := "NONE", type := (.object "com/example/oghma/oghma/model/TypeAnnotations"), accessFlags := 25, slot := 0, constantValue := 0 }, { name := "nullable", type := .boolean, accessFlags := 18, slot := 0, constantValue := 0 }, { name := "onHeap", type := .boolean, accessFlags := 18, slot := 1, constantValue := 0 }, { name := "utf8InCpp", type := .boolean, accessFlags := 18, slot := 2, constantValue := 0 }]
  methods := #[k2m0, k2m1]
  instanceTypes := #[.boolean, .boolean, .boolean]
  staticTypes := #[(.object "com/example/oghma/oghma/model/TypeAnnotations")]
  resolved := Array.replicate 80 none
  statics := none }

def pool3 : Array CpInfo := pool [(1, .class_ 2), (0, u "java/io/Serializable"), (0, .class_ 4), (0, u "java/lang/Object")] 2

/-- java/io/Serializable -/
def k3 : Class := { plain "java/io/Serializable" (some 0) with
  accessFlags := 1537
  interfaces := #[]
  cf := some (fileOf pool3 1 #[] #[] 1537 3 #[] #[])
  fields := #[]
  methods := #[]
  instanceTypes := #[]
  staticTypes := #[]
  resolved := Array.replicate 7 none
  statics := none }

def pool4 : Array CpInfo := pool [(1, .methodref 2 3), (0, .class_ 4), (0, .nameAndType 5 6), (0, u "java/lang/Object"), (0, u "<init>"), (0, u "()V"), (1, .class_ 10), (1, u "java/lang/Number"), (2, .class_ 14), (0, u "java/io/Serializable"), (0, u "serialVersionUID"), (0, u "J")] 20

def k4c0 : Code := { maxStack := 1, maxLocals := 1, code := jdk_18_method_1_code, exceptionTable := #[], attributes := #[] }
def k4m0 : Method := { name := "<init>", desc := "()V", sig := { parameters := [], returnType := none }, accessFlags := 1, code := some k4c0 }
/-- java/lang/Number -/
def k4 : Class := { plain "java/lang/Number" (some 0) with
  accessFlags := 1057
  interfaces := #[3]
  cf := some (fileOf pool4 8 #[] #[{ accessFlags := 1, nameIndex := 5, descriptorIndex := 6, attributes := #[] }] 1057 2 #[13] #[{ accessFlags := 26, nameIndex := 15, descriptorIndex := 16, attributes := #[] }])
  fields := #[{ name := "serialVersionUID", type := .long, accessFlags := 26, slot := 0, constantValue := 0 }]
  methods := #[k4m0]
  instanceTypes := #[]
  staticTypes := #[.long]
  resolved := Array.replicate 37 none
  statics := none }

def pool5 : Array CpInfo := pool [(1, .class_ 2), (0, u "java/lang/Comparable"), (0, .class_ 4), (0, u "java/lang/Object")] 7

/-- java/lang/Comparable -/
def k5 : Class := { plain "java/lang/Comparable" (some 0) with
  accessFlags := 1537
  interfaces := #[]
  cf := some (fileOf pool5 1 #[] #[] 1537 3 #[] #[])
  fields := #[]
  methods := #[]
  instanceTypes := #[]
  staticTypes := #[]
  resolved := Array.replicate 12 none
  statics := none }

def pool6 : Array CpInfo := pool [(1, .class_ 2), (0, u "java/lang/constant/Constable"), (0, .class_ 4), (0, u "java/lang/Object")] 6

/-- java/lang/constant/Constable -/
def k6 : Class := { plain "java/lang/constant/Constable" (some 0) with
  accessFlags := 1537
  interfaces := #[]
  cf := some (fileOf pool6 1 #[] #[] 1537 3 #[] #[])
  fields := #[]
  methods := #[]
  instanceTypes := #[]
  staticTypes := #[]
  resolved := Array.replicate 11 none
  statics := none }

def pool7 : Array CpInfo := pool [(1, .class_ 2), (0, u "java/lang/constant/ConstantDesc"), (0, .class_ 4), (0, u "java/lang/Object")] 32

/-- java/lang/constant/ConstantDesc -/
def k7 : Class := { plain "java/lang/constant/ConstantDesc" (some 0) with
  accessFlags := 1537
  interfaces := #[]
  cf := some (fileOf pool7 1 #[] #[] 1537 3 #[] #[])
  fields := #[]
  methods := #[]
  instanceTypes := #[]
  staticTypes := #[]
  resolved := Array.replicate 37 none
  statics := none }

def pool8 : Array CpInfo := pool [(1, .class_ 2), (0, u "java/lang/Integer"), (16, u "digits"), (0, u "[C"), (46, u "<init>"), (17, u "DigitOnes"), (0, u "[B"), (2, u "DigitTens"), (10, .nameAndType 67 101), (0, u "()V"), (85, u "valueOf"), (0, u "(I)Ljava/lang/Integer;"), (0, .class_ 190), (0, u "java/lang/Integer$IntegerCache"), (0, .fieldref 189 192), (0, .nameAndType 193 194), (0, u "high"), (0, u "I"), (0, .fieldref 189 196), (0, .nameAndType 197 198), (0, u "cache"), (0, u "[Ljava/lang/Integer;"), (0, .methodref 1 200), (0, .nameAndType 67 201), (0, u "(I)V"), (0, .methodref 203 100), (0, .class_ 204), (0, u "java/lang/Number"), (0, .fieldref 1 206), (0, .nameAndType 207 194), (0, u "value"), (94, u "TYPE"), (0, u "Ljava/lang/Class;"), (0, .class_ 305), (0, u "java/lang/Comparable"), (0, .class_ 307), (0, u "java/lang/constant/Constable"), (0, .class_ 309), (0, u "java/lang/constant/ConstantDesc"), (0, u "MIN_VALUE"), (1, u "MAX_VALUE"), (3, u "SIZE"), (1, u "BYTES"), (1, u "serialVersionUID"), (0, u "J")] 131

def k8c0 : Code := { maxStack := 3, maxLocals := 1, code := jdk_33_method_22_code, exceptionTable := #[], attributes := #[] }
def k8m0 : Method := { name := "valueOf", desc := "(I)Ljava/lang/Integer;", sig := { parameters := [.int], returnType := some (.object "java/lang/Integer") }, accessFlags := 9, code := some k8c0 }
def k8c1 : Code := { maxStack := 2, maxLocals := 2, code := jdk_33_method_23_code, exceptionTable := #[], attributes := #[] }
def k8m1 : Method := { name := "<init>", desc := "(I)V", sig := { parameters := [.int], returnType := none }, accessFlags := 1, code := some k8c1 }
/-- java/lang/Integer -/
def k8 : Class := { plain "java/lang/Integer" (some 4) with
  accessFlags := 49
  interfaces := #[5, 6, 7]
  cf := some (fileOf pool8 1 #[.nestMembers #[189]] #[{ accessFlags := 9, nameIndex := 187, descriptorIndex := 188, attributes := #[] }, { accessFlags := 1, nameIndex := 67, descriptorIndex := 201, attributes := #[] }] 49 203 #[304, 306, 308] #[{ accessFlags := 25, nameIndex := 310, descriptorIndex := 194, attributes := #[] }, { accessFlags := 25, nameIndex := 312, descriptorIndex := 194, attributes := #[] }, { accessFlags := 25, nameIndex := 302, descriptorIndex := 303, attributes := #[] }, { accessFlags := 24, nameIndex := 19, descriptorIndex := 20, attributes := #[] }, { accessFlags := 24, nameIndex := 89, descriptorIndex := 86, attributes := #[] }, { accessFlags := 24, nameIndex := 85, descriptorIndex := 86, attributes := #[] }, { accessFlags := 18, nameIndex := 207, descriptorIndex := 194, attributes := #[] }, { accessFlags := 25, nameIndex := 316, descriptorIndex := 194, attributes := #[] }, { accessFlags := 25, nameIndex := 318, descriptorIndex := 194, attributes := #[] }, { accessFlags := 26, nameIndex := 320, descriptorIndex := 321, attributes := #[] }])
  fields := #[{ name := "MIN_VALUE", type := .int, accessFlags := 25, slot := 0, constantValue := 0 }, { name := "MAX_VALUE", type := .int, accessFlags := 25, slot := 1, constantValue := 0 }, { name := "TYPE", type := (.object "java/lang/Class"), accessFlags := 25, slot := 2, constantValue := 0 }, { name := "digits", type := (.array .char), accessFlags := 24, slot := 3, constantValue := 0 }, { name := "DigitTens", type := (.array .byte), accessFlags := 24, slot := 4, constantValue := 0 }, { name := "DigitOnes", type := (.array .byte), accessFlags := 24, slot := 5, constantValue := 0 }, { name := "value", type := .int, accessFlags := 18, slot := 0, constantValue := 0 }, { name := "SIZE", type := .int, accessFlags := 25, slot := 6, constantValue := 0 }, { name := "BYTES", type := .int, accessFlags := 25, slot := 7, constantValue := 0 }, { name := "serialVersionUID", type := .long, accessFlags := 26, slot := 8, constantValue := 0 }]
  methods := #[k8m0, k8m1]
  instanceTypes := #[.int]
  staticTypes := #[.int, .int, (.object "java/lang/Class"), (.array .char), (.array .byte), (.array .byte), .int, .int, .long]
  resolved := Array.replicate 453 none
  statics := none }

def pool9 : Array CpInfo := pool [(2, .class_ 4), (1, u "java/lang/Object"), (0, u "<init>"), (0, u "()V"), (0, .class_ 8), (0, u "java/lang/Integer"), (7, .class_ 18), (1, u "java/lang/Integer$IntegerCache"), (0, u "$assertionsDisabled"), (0, u "Z"), (26, u "high"), (0, u "I"), (8, u "archivedCache"), (0, u "[Ljava/lang/Integer;"), (12, u "cache"), (0, u "low")] 27

def k9m0 : Method := { name := "<init>", desc := "()V", sig := { parameters := [], returnType := none }, accessFlags := 2, code := none }
/-- java/lang/Integer$IntegerCache -/
def k9 : Class := { plain "java/lang/Integer$IntegerCache" (some 0) with
  accessFlags := 48
  interfaces := #[]
  cf := some (fileOf pool9 16 #[.nestHost 7] #[{ accessFlags := 2, nameIndex := 5, descriptorIndex := 6, attributes := #[] }] 48 2 #[] #[{ accessFlags := 24, nameIndex := 72, descriptorIndex := 48, attributes := #[] }, { accessFlags := 24, nameIndex := 47, descriptorIndex := 48, attributes := #[] }, { accessFlags := 24, nameIndex := 71, descriptorIndex := 58, attributes := #[] }, { accessFlags := 8, nameIndex := 57, descriptorIndex := 58, attributes := #[] }, { accessFlags := 4120, nameIndex := 19, descriptorIndex := 20, attributes := #[] }])
  fields := #[{ name := "low", type := .int, accessFlags := 24, slot := 0, constantValue := 0 }, { name := "high", type := .int, accessFlags := 24, slot := 1, constantValue := 0 }, { name := "cache", type := (.array (.object "java/lang/Integer")), accessFlags := 24, slot := 2, constantValue := 0 }, { name := "archivedCache", type := (.array (.object "java/lang/Integer")), accessFlags := 8, slot := 3, constantValue := 0 }, { name := "$assertionsDisabled", type := .boolean, accessFlags := 4120, slot := 4, constantValue := 0 }]
  methods := #[k9m0]
  instanceTypes := #[]
  staticTypes := #[.int, .int, (.array (.object "java/lang/Integer")), (.array (.object "java/lang/Integer")), .boolean]
  resolved := Array.replicate 100 none
  statics := some 0 }

def pool10 : Array CpInfo := pool [(1, u "java/lang/Cloneable"), (0, .class_ 1), (0, u "java/lang/Object"), (0, .class_ 3)] 3

/-- java/lang/Cloneable -/
def k10 : Class := { plain "java/lang/Cloneable" (some 0) with
  accessFlags := 1537
  interfaces := #[]
  cf := some (fileOf pool10 2 #[] #[] 1537 4 #[] #[])
  fields := #[]
  methods := #[]
  instanceTypes := #[]
  staticTypes := #[]
  resolved := Array.replicate 8 none
  statics := none }

/-- the primitive byte -/
def k11 : Class := { plain "byte" none with kind := .primitive 'B', accessFlags := 0x411 }
/-- [B -/
def k12 : Class := { plain "[B" (some 0) with kind := .array 11 .byte, interfaces := #[10, 3], accessFlags := 1041 }

/-- the primitive int -/
def k13 : Class := { plain "int" none with kind := .primitive 'I', accessFlags := 0x411 }
/-- [I -/
def k14 : Class := { plain "[I" (some 0) with kind := .array 13 .int, interfaces := #[10, 3], accessFlags := 1041 }

/-- [Ljava/lang/Integer; -/
def k15 : Class := { plain "[Ljava/lang/Integer;" (some 0) with kind := .array 8 (.object "java/lang/Integer"), interfaces := #[10, 3], accessFlags := 1041 }

def heap : Heap := #[{ cls := 9, slots := #[.int 0, .int 127, .ref 1, .null, .int 0], vm := .statics 9 },
  { cls := 15, slots := #[.ref 2, .ref 3, .ref 4, .ref 5, .ref 6, .ref 7, .ref 8, .ref 9, .ref 10, .ref 11, .ref 12, .ref 13, .ref 14, .ref 15, .ref 16, .ref 17, .ref 18, .ref 19, .ref 20, .ref 21, .ref 22, .ref 23, .ref 24, .ref 25, .ref 26, .ref 27, .ref 28, .ref 29, .ref 30, .ref 31, .ref 32, .ref 33, .ref 34, .ref 35, .ref 36, .ref 37, .ref 38, .ref 39, .ref 40, .ref 41, .ref 42, .ref 43, .ref 44, .ref 45, .ref 46, .ref 47, .ref 48, .ref 49, .ref 50, .ref 51, .ref 52, .ref 53, .ref 54, .ref 55, .ref 56, .ref 57, .ref 58, .ref 59, .ref 60, .ref 61, .ref 62, .ref 63, .ref 64, .ref 65, .ref 66, .ref 67, .ref 68, .ref 69, .ref 70, .ref 71, .ref 72, .ref 73, .ref 74, .ref 75, .ref 76, .ref 77, .ref 78, .ref 79, .ref 80, .ref 81, .ref 82, .ref 83, .ref 84, .ref 85, .ref 86, .ref 87, .ref 88, .ref 89, .ref 90, .ref 91, .ref 92, .ref 93, .ref 94, .ref 95, .ref 96, .ref 97, .ref 98, .ref 99, .ref 100, .ref 101, .ref 102, .ref 103, .ref 104, .ref 105, .ref 106, .ref 107, .ref 108, .ref 109, .ref 110, .ref 111, .ref 112, .ref 113, .ref 114, .ref 115, .ref 116, .ref 117, .ref 118, .ref 119, .ref 120, .ref 121, .ref 122, .ref 123, .ref 124, .ref 125, .ref 126, .ref 127, .ref 128, .ref 129, .ref 130, .ref 131, .ref 132, .ref 133, .ref 134, .ref 135, .ref 136, .ref 137, .ref 138, .ref 139, .ref 140, .ref 141, .ref 142, .ref 143, .ref 144, .ref 145, .ref 146, .ref 147, .ref 148, .ref 149, .ref 150, .ref 151, .ref 152, .ref 153, .ref 154, .ref 155, .ref 156, .ref 157, .ref 158, .ref 159, .ref 160, .ref 161, .ref 162, .ref 163, .ref 164, .ref 165, .ref 166, .ref 167, .ref 168, .ref 169, .ref 170, .ref 171, .ref 172, .ref 173, .ref 174, .ref 175, .ref 176, .ref 177, .ref 178, .ref 179, .ref 180, .ref 181, .ref 182, .ref 183, .ref 184, .ref 185, .ref 186, .ref 187, .ref 188, .ref 189, .ref 190, .ref 191, .ref 192, .ref 193, .ref 194, .ref 195, .ref 196, .ref 197, .ref 198, .ref 199, .ref 200, .ref 201, .ref 202, .ref 203, .ref 204, .ref 205, .ref 206, .ref 207, .ref 208, .ref 209, .ref 210, .ref 211, .ref 212, .ref 213, .ref 214, .ref 215, .ref 216, .ref 217, .ref 218, .ref 219, .ref 220, .ref 221, .ref 222, .ref 223, .ref 224, .ref 225, .ref 226, .ref 227, .ref 228, .ref 229, .ref 230, .ref 231, .ref 232, .ref 233, .ref 234, .ref 235, .ref 236, .ref 237, .ref 238, .ref 239, .ref 240, .ref 241, .ref 242, .ref 243, .ref 244, .ref 245, .ref 246, .ref 247, .ref 248, .ref 249, .ref 250, .ref 251, .ref 252, .ref 253, .ref 254, .ref 255, .ref 256, .ref 257], vm := .none },
  { cls := 8, slots := #[.int (-128)], vm := .none },
  { cls := 8, slots := #[.int (-127)], vm := .none },
  { cls := 8, slots := #[.int (-126)], vm := .none },
  { cls := 8, slots := #[.int (-125)], vm := .none },
  { cls := 8, slots := #[.int (-124)], vm := .none },
  { cls := 8, slots := #[.int (-123)], vm := .none },
  { cls := 8, slots := #[.int (-122)], vm := .none },
  { cls := 8, slots := #[.int (-121)], vm := .none },
  { cls := 8, slots := #[.int (-120)], vm := .none },
  { cls := 8, slots := #[.int (-119)], vm := .none },
  { cls := 8, slots := #[.int (-118)], vm := .none },
  { cls := 8, slots := #[.int (-117)], vm := .none },
  { cls := 8, slots := #[.int (-116)], vm := .none },
  { cls := 8, slots := #[.int (-115)], vm := .none },
  { cls := 8, slots := #[.int (-114)], vm := .none },
  { cls := 8, slots := #[.int (-113)], vm := .none },
  { cls := 8, slots := #[.int (-112)], vm := .none },
  { cls := 8, slots := #[.int (-111)], vm := .none },
  { cls := 8, slots := #[.int (-110)], vm := .none },
  { cls := 8, slots := #[.int (-109)], vm := .none },
  { cls := 8, slots := #[.int (-108)], vm := .none },
  { cls := 8, slots := #[.int (-107)], vm := .none },
  { cls := 8, slots := #[.int (-106)], vm := .none },
  { cls := 8, slots := #[.int (-105)], vm := .none },
  { cls := 8, slots := #[.int (-104)], vm := .none },
  { cls := 8, slots := #[.int (-103)], vm := .none },
  { cls := 8, slots := #[.int (-102)], vm := .none },
  { cls := 8, slots := #[.int (-101)], vm := .none },
  { cls := 8, slots := #[.int (-100)], vm := .none },
  { cls := 8, slots := #[.int (-99)], vm := .none },
  { cls := 8, slots := #[.int (-98)], vm := .none },
  { cls := 8, slots := #[.int (-97)], vm := .none },
  { cls := 8, slots := #[.int (-96)], vm := .none },
  { cls := 8, slots := #[.int (-95)], vm := .none },
  { cls := 8, slots := #[.int (-94)], vm := .none },
  { cls := 8, slots := #[.int (-93)], vm := .none },
  { cls := 8, slots := #[.int (-92)], vm := .none },
  { cls := 8, slots := #[.int (-91)], vm := .none },
  { cls := 8, slots := #[.int (-90)], vm := .none },
  { cls := 8, slots := #[.int (-89)], vm := .none },
  { cls := 8, slots := #[.int (-88)], vm := .none },
  { cls := 8, slots := #[.int (-87)], vm := .none },
  { cls := 8, slots := #[.int (-86)], vm := .none },
  { cls := 8, slots := #[.int (-85)], vm := .none },
  { cls := 8, slots := #[.int (-84)], vm := .none },
  { cls := 8, slots := #[.int (-83)], vm := .none },
  { cls := 8, slots := #[.int (-82)], vm := .none },
  { cls := 8, slots := #[.int (-81)], vm := .none },
  { cls := 8, slots := #[.int (-80)], vm := .none },
  { cls := 8, slots := #[.int (-79)], vm := .none },
  { cls := 8, slots := #[.int (-78)], vm := .none },
  { cls := 8, slots := #[.int (-77)], vm := .none },
  { cls := 8, slots := #[.int (-76)], vm := .none },
  { cls := 8, slots := #[.int (-75)], vm := .none },
  { cls := 8, slots := #[.int (-74)], vm := .none },
  { cls := 8, slots := #[.int (-73)], vm := .none },
  { cls := 8, slots := #[.int (-72)], vm := .none },
  { cls := 8, slots := #[.int (-71)], vm := .none },
  { cls := 8, slots := #[.int (-70)], vm := .none },
  { cls := 8, slots := #[.int (-69)], vm := .none },
  { cls := 8, slots := #[.int (-68)], vm := .none },
  { cls := 8, slots := #[.int (-67)], vm := .none },
  { cls := 8, slots := #[.int (-66)], vm := .none },
  { cls := 8, slots := #[.int (-65)], vm := .none },
  { cls := 8, slots := #[.int (-64)], vm := .none },
  { cls := 8, slots := #[.int (-63)], vm := .none },
  { cls := 8, slots := #[.int (-62)], vm := .none },
  { cls := 8, slots := #[.int (-61)], vm := .none },
  { cls := 8, slots := #[.int (-60)], vm := .none },
  { cls := 8, slots := #[.int (-59)], vm := .none },
  { cls := 8, slots := #[.int (-58)], vm := .none },
  { cls := 8, slots := #[.int (-57)], vm := .none },
  { cls := 8, slots := #[.int (-56)], vm := .none },
  { cls := 8, slots := #[.int (-55)], vm := .none },
  { cls := 8, slots := #[.int (-54)], vm := .none },
  { cls := 8, slots := #[.int (-53)], vm := .none },
  { cls := 8, slots := #[.int (-52)], vm := .none },
  { cls := 8, slots := #[.int (-51)], vm := .none },
  { cls := 8, slots := #[.int (-50)], vm := .none },
  { cls := 8, slots := #[.int (-49)], vm := .none },
  { cls := 8, slots := #[.int (-48)], vm := .none },
  { cls := 8, slots := #[.int (-47)], vm := .none },
  { cls := 8, slots := #[.int (-46)], vm := .none },
  { cls := 8, slots := #[.int (-45)], vm := .none },
  { cls := 8, slots := #[.int (-44)], vm := .none },
  { cls := 8, slots := #[.int (-43)], vm := .none },
  { cls := 8, slots := #[.int (-42)], vm := .none },
  { cls := 8, slots := #[.int (-41)], vm := .none },
  { cls := 8, slots := #[.int (-40)], vm := .none },
  { cls := 8, slots := #[.int (-39)], vm := .none },
  { cls := 8, slots := #[.int (-38)], vm := .none },
  { cls := 8, slots := #[.int (-37)], vm := .none },
  { cls := 8, slots := #[.int (-36)], vm := .none },
  { cls := 8, slots := #[.int (-35)], vm := .none },
  { cls := 8, slots := #[.int (-34)], vm := .none },
  { cls := 8, slots := #[.int (-33)], vm := .none },
  { cls := 8, slots := #[.int (-32)], vm := .none },
  { cls := 8, slots := #[.int (-31)], vm := .none },
  { cls := 8, slots := #[.int (-30)], vm := .none },
  { cls := 8, slots := #[.int (-29)], vm := .none },
  { cls := 8, slots := #[.int (-28)], vm := .none },
  { cls := 8, slots := #[.int (-27)], vm := .none },
  { cls := 8, slots := #[.int (-26)], vm := .none },
  { cls := 8, slots := #[.int (-25)], vm := .none },
  { cls := 8, slots := #[.int (-24)], vm := .none },
  { cls := 8, slots := #[.int (-23)], vm := .none },
  { cls := 8, slots := #[.int (-22)], vm := .none },
  { cls := 8, slots := #[.int (-21)], vm := .none },
  { cls := 8, slots := #[.int (-20)], vm := .none },
  { cls := 8, slots := #[.int (-19)], vm := .none },
  { cls := 8, slots := #[.int (-18)], vm := .none },
  { cls := 8, slots := #[.int (-17)], vm := .none },
  { cls := 8, slots := #[.int (-16)], vm := .none },
  { cls := 8, slots := #[.int (-15)], vm := .none },
  { cls := 8, slots := #[.int (-14)], vm := .none },
  { cls := 8, slots := #[.int (-13)], vm := .none },
  { cls := 8, slots := #[.int (-12)], vm := .none },
  { cls := 8, slots := #[.int (-11)], vm := .none },
  { cls := 8, slots := #[.int (-10)], vm := .none },
  { cls := 8, slots := #[.int (-9)], vm := .none },
  { cls := 8, slots := #[.int (-8)], vm := .none },
  { cls := 8, slots := #[.int (-7)], vm := .none },
  { cls := 8, slots := #[.int (-6)], vm := .none },
  { cls := 8, slots := #[.int (-5)], vm := .none },
  { cls := 8, slots := #[.int (-4)], vm := .none },
  { cls := 8, slots := #[.int (-3)], vm := .none },
  { cls := 8, slots := #[.int (-2)], vm := .none },
  { cls := 8, slots := #[.int (-1)], vm := .none },
  { cls := 8, slots := #[.int 0], vm := .none },
  { cls := 8, slots := #[.int 1], vm := .none },
  { cls := 8, slots := #[.int 2], vm := .none },
  { cls := 8, slots := #[.int 3], vm := .none },
  { cls := 8, slots := #[.int 4], vm := .none },
  { cls := 8, slots := #[.int 5], vm := .none },
  { cls := 8, slots := #[.int 6], vm := .none },
  { cls := 8, slots := #[.int 7], vm := .none },
  { cls := 8, slots := #[.int 8], vm := .none },
  { cls := 8, slots := #[.int 9], vm := .none },
  { cls := 8, slots := #[.int 10], vm := .none },
  { cls := 8, slots := #[.int 11], vm := .none },
  { cls := 8, slots := #[.int 12], vm := .none },
  { cls := 8, slots := #[.int 13], vm := .none },
  { cls := 8, slots := #[.int 14], vm := .none },
  { cls := 8, slots := #[.int 15], vm := .none },
  { cls := 8, slots := #[.int 16], vm := .none },
  { cls := 8, slots := #[.int 17], vm := .none },
  { cls := 8, slots := #[.int 18], vm := .none },
  { cls := 8, slots := #[.int 19], vm := .none },
  { cls := 8, slots := #[.int 20], vm := .none },
  { cls := 8, slots := #[.int 21], vm := .none },
  { cls := 8, slots := #[.int 22], vm := .none },
  { cls := 8, slots := #[.int 23], vm := .none },
  { cls := 8, slots := #[.int 24], vm := .none },
  { cls := 8, slots := #[.int 25], vm := .none },
  { cls := 8, slots := #[.int 26], vm := .none },
  { cls := 8, slots := #[.int 27], vm := .none },
  { cls := 8, slots := #[.int 28], vm := .none },
  { cls := 8, slots := #[.int 29], vm := .none },
  { cls := 8, slots := #[.int 30], vm := .none },
  { cls := 8, slots := #[.int 31], vm := .none },
  { cls := 8, slots := #[.int 32], vm := .none },
  { cls := 8, slots := #[.int 33], vm := .none },
  { cls := 8, slots := #[.int 34], vm := .none },
  { cls := 8, slots := #[.int 35], vm := .none },
  { cls := 8, slots := #[.int 36], vm := .none },
  { cls := 8, slots := #[.int 37], vm := .none },
  { cls := 8, slots := #[.int 38], vm := .none },
  { cls := 8, slots := #[.int 39], vm := .none },
  { cls := 8, slots := #[.int 40], vm := .none },
  { cls := 8, slots := #[.int 41], vm := .none },
  { cls := 8, slots := #[.int 42], vm := .none },
  { cls := 8, slots := #[.int 43], vm := .none },
  { cls := 8, slots := #[.int 44], vm := .none },
  { cls := 8, slots := #[.int 45], vm := .none },
  { cls := 8, slots := #[.int 46], vm := .none },
  { cls := 8, slots := #[.int 47], vm := .none },
  { cls := 8, slots := #[.int 48], vm := .none },
  { cls := 8, slots := #[.int 49], vm := .none },
  { cls := 8, slots := #[.int 50], vm := .none },
  { cls := 8, slots := #[.int 51], vm := .none },
  { cls := 8, slots := #[.int 52], vm := .none },
  { cls := 8, slots := #[.int 53], vm := .none },
  { cls := 8, slots := #[.int 54], vm := .none },
  { cls := 8, slots := #[.int 55], vm := .none },
  { cls := 8, slots := #[.int 56], vm := .none },
  { cls := 8, slots := #[.int 57], vm := .none },
  { cls := 8, slots := #[.int 58], vm := .none },
  { cls := 8, slots := #[.int 59], vm := .none },
  { cls := 8, slots := #[.int 60], vm := .none },
  { cls := 8, slots := #[.int 61], vm := .none },
  { cls := 8, slots := #[.int 62], vm := .none },
  { cls := 8, slots := #[.int 63], vm := .none },
  { cls := 8, slots := #[.int 64], vm := .none },
  { cls := 8, slots := #[.int 65], vm := .none },
  { cls := 8, slots := #[.int 66], vm := .none },
  { cls := 8, slots := #[.int 67], vm := .none },
  { cls := 8, slots := #[.int 68], vm := .none },
  { cls := 8, slots := #[.int 69], vm := .none },
  { cls := 8, slots := #[.int 70], vm := .none },
  { cls := 8, slots := #[.int 71], vm := .none },
  { cls := 8, slots := #[.int 72], vm := .none },
  { cls := 8, slots := #[.int 73], vm := .none },
  { cls := 8, slots := #[.int 74], vm := .none },
  { cls := 8, slots := #[.int 75], vm := .none },
  { cls := 8, slots := #[.int 76], vm := .none },
  { cls := 8, slots := #[.int 77], vm := .none },
  { cls := 8, slots := #[.int 78], vm := .none },
  { cls := 8, slots := #[.int 79], vm := .none },
  { cls := 8, slots := #[.int 80], vm := .none },
  { cls := 8, slots := #[.int 81], vm := .none },
  { cls := 8, slots := #[.int 82], vm := .none },
  { cls := 8, slots := #[.int 83], vm := .none },
  { cls := 8, slots := #[.int 84], vm := .none },
  { cls := 8, slots := #[.int 85], vm := .none },
  { cls := 8, slots := #[.int 86], vm := .none },
  { cls := 8, slots := #[.int 87], vm := .none },
  { cls := 8, slots := #[.int 88], vm := .none },
  { cls := 8, slots := #[.int 89], vm := .none },
  { cls := 8, slots := #[.int 90], vm := .none },
  { cls := 8, slots := #[.int 91], vm := .none },
  { cls := 8, slots := #[.int 92], vm := .none },
  { cls := 8, slots := #[.int 93], vm := .none },
  { cls := 8, slots := #[.int 94], vm := .none },
  { cls := 8, slots := #[.int 95], vm := .none },
  { cls := 8, slots := #[.int 96], vm := .none },
  { cls := 8, slots := #[.int 97], vm := .none },
  { cls := 8, slots := #[.int 98], vm := .none },
  { cls := 8, slots := #[.int 99], vm := .none },
  { cls := 8, slots := #[.int 100], vm := .none },
  { cls := 8, slots := #[.int 101], vm := .none },
  { cls := 8, slots := #[.int 102], vm := .none },
  { cls := 8, slots := #[.int 103], vm := .none },
  { cls := 8, slots := #[.int 104], vm := .none },
  { cls := 8, slots := #[.int 105], vm := .none },
  { cls := 8, slots := #[.int 106], vm := .none },
  { cls := 8, slots := #[.int 107], vm := .none },
  { cls := 8, slots := #[.int 108], vm := .none },
  { cls := 8, slots := #[.int 109], vm := .none },
  { cls := 8, slots := #[.int 110], vm := .none },
  { cls := 8, slots := #[.int 111], vm := .none },
  { cls := 8, slots := #[.int 112], vm := .none },
  { cls := 8, slots := #[.int 113], vm := .none },
  { cls := 8, slots := #[.int 114], vm := .none },
  { cls := 8, slots := #[.int 115], vm := .none },
  { cls := 8, slots := #[.int 116], vm := .none },
  { cls := 8, slots := #[.int 117], vm := .none },
  { cls := 8, slots := #[.int 118], vm := .none },
  { cls := 8, slots := #[.int 119], vm := .none },
  { cls := 8, slots := #[.int 120], vm := .none },
  { cls := 8, slots := #[.int 121], vm := .none },
  { cls := 8, slots := #[.int 122], vm := .none },
  { cls := 8, slots := #[.int 123], vm := .none },
  { cls := 8, slots := #[.int 124], vm := .none },
  { cls := 8, slots := #[.int 125], vm := .none },
  { cls := 8, slots := #[.int 126], vm := .none },
  { cls := 8, slots := #[.int 127], vm := .none }]
def classes : Array Class := #[k0, k1, k2, k3, k4, k5, k6, k7, k8, k9, k10, k11, k12, k13, k14, k15]
def interned : List (Array UInt16 × Addr) := []
def slotsUsed : Nat := 517
def theMethod : MethodId := ⟨1, 2⟩
def args0 : Array Value := #[.int 5, .int 4]
def aboutOver (below : List Frame) : State where
  vm := { classes := classes, interned := interned.toArray }
  heap := heap
  slotsUsed := slotsUsed
  threads := #[{ frames := .invoking theMethod args0 :: below }]
def below0 : List Frame := [.native { method := ⟨0, 0⟩, args := #[] }]
def about1 : State := aboutOver below0
def p0 : Program := .bare "" "" ""
def e0 : Env := launch0.env 0 0 0
theorem w_frames : about1.frames = Frame.invoking theMethod args0 :: below0 := rfl
set_option maxRecDepth 65536 in
theorem w_args : argsFit about1.vm theMethod args0 = true := by decide +kernel
set_option maxRecDepth 65536 in
theorem w_heap : heapFits about1 = true := by decide +kernel
set_option maxRecDepth 65536 in
theorem w_runnable : about1.curStatus? = some .runnable := by decide +kernel
set_option maxRecDepth 65536 in
theorem w_alone : about1.alone = true := by decide +kernel
set_option maxRecDepth 65536 in
theorem w_named : about1.methodNamed? x = some theMethod := by decide +kernel
set_option maxRecDepth 65536 in
theorem w_hears : about1.hears theMethod below0 = true := by decide +kernel
set_option maxRecDepth 65536 in
theorem w_ripe : about1.ripe theMethod args0 below0 = true := by decide +kernel
theorem w_running : about1.status = .running := rfl
set_option maxRecDepth 65536 in
theorem w_room : about1.hasRoom e0.platform room_1 = true :=
  launch0.hasRoom_least _ room_1 (by decide +kernel) (by decide +kernel) (by decide +kernel) (by decide +kernel) (by decide +kernel) (by decide +kernel)
theorem allAtoms_all (ts : List Jvm.Cond) (a : Array Jvm.Value) (st : Jvm.State) : (allAtoms ts).before a st = ts.all (fun c => c.before a st) := by
  induction ts with
  | nil => rfl
  | cons c t ih =>
    show (Jvm.Cond.and c (allAtoms t)).before a st = _
    rw [Jvm.Cond.before_and, ih, List.all_cons]
def words1 : List Jvm.Cond := Jvm.Cond.code x code maxLocals ret :: tables_1
/-- a 'code' word, met by the world's own term for the bytes: nothing is compared byte by byte -/
theorem code_word {y : MethodName} {bytes : ByteArray} {mx : Nat} {rt : Option FieldType} {a : Array Value} {s : State} {m : MethodId} {meth : Method} {c : Code} (h1 : s.methodNamed? y = some m) (h2 : s.vm.method? m = some meth) (h3 : meth.code = some c) (h4 : c.code = bytes)
    (h5 : (c.maxLocals == mx && c.exceptionTable.isEmpty && decide (c.maxStack ≤ mostOperands) && decide (meth.sig.returnType = rt) && !meth.locks && decide (parseMethodDescriptor y.desc = some meth.sig)) = true) : (Jvm.Cond.code y bytes mx rt).before a s = true := by
  simp only [Bool.and_eq_true, beq_iff_eq, Bool.not_eq_true', decide_eq_true_eq] at h5
  obtain ⟨⟨⟨⟨⟨g1, g2⟩, g3⟩, g4⟩, g5⟩, g6⟩ := h5
  simp [Cond.before, Cond.holds, Cond.value, h1, h2, h3, h4, g1, g2, g3, g4, g5, g6]
def isCode : Jvm.Cond → Bool
  | .code _ _ _ _ => true
  | _ => false
theorem all_split {L : List Jvm.Cond} {P : Jvm.Cond → Bool} (h1 : L.all (fun c => isCode c || P c) = true) (h2 : ∀ c ∈ L.filter isCode, P c = true) : L.all P = true := by
  refine List.all_eq_true.mpr fun c hc => ?_
  have h := List.all_eq_true.mp h1 c hc
  rcases Bool.eq_false_or_eq_true (isCode c) with hi | hi
  · exact h2 c (List.mem_filter.mpr ⟨hc, hi⟩)
  · simpa [hi] using h
set_option maxRecDepth 65536 in
theorem w_c0 : (Jvm.Cond.code x code maxLocals ret).before args0 about1 = true := code_word (m := ⟨1, 2⟩) (meth := k1m2) (c := k1c2) (by decide +kernel) rfl rfl rfl (by decide +kernel)
set_option maxRecDepth 65536 in
theorem w_c1 : (Jvm.Cond.code ({ cls := "com/example/oghma/oghma/model/TypeAnnotations", name := "<init>", desc := "(ZZZ)V" } : Jvm.MethodName) prog_85_method_1_code (4 : Nat) (Option.none : Option Jvm.ClassFile.FieldType)).before args0 about1 = true := code_word (m := ⟨2, 0⟩) (meth := k2m0) (c := k2c0) (by decide +kernel) rfl rfl rfl (by decide +kernel)
set_option maxRecDepth 65536 in
theorem w_c2 : (Jvm.Cond.code ({ cls := "java/lang/Object", name := "<init>", desc := "()V" } : Jvm.MethodName) object_method_1_code (1 : Nat) (Option.none : Option Jvm.ClassFile.FieldType)).before args0 about1 = true := code_word (m := ⟨0, 0⟩) (meth := k0m0) (c := k0c0) (by decide +kernel) rfl rfl rfl (by decide +kernel)
set_option maxRecDepth 65536 in
theorem w_c3 : (Jvm.Cond.code ({ cls := "java/lang/Integer", name := "valueOf", desc := "(I)Ljava/lang/Integer;" } : Jvm.MethodName) jdk_33_method_22_code (1 : Nat) (Option.some (Jvm.ClassFile.FieldType.object "java/lang/Integer"))).before args0 about1 = true := code_word (m := ⟨8, 0⟩) (meth := k8m0) (c := k8c0) (by decide +kernel) rfl rfl rfl (by decide +kernel)
set_option maxRecDepth 65536 in
theorem w_c4 : (Jvm.Cond.code ({ cls := "com/example/oghma/oghma/model/TypeAnnotationsEqualsPinLaw", name := "code", desc := "(ZZZ)I" } : Jvm.MethodName) method_2_code (4 : Nat) (Option.some Jvm.ClassFile.FieldType.int)).before args0 about1 = true := code_word (m := ⟨1, 1⟩) (meth := k1m1) (c := k1c1) (by decide +kernel) rfl rfl rfl (by decide +kernel)
set_option maxRecDepth 65536 in
theorem w_c5 : (Jvm.Cond.code ({ cls := "com/example/oghma/oghma/model/TypeAnnotations", name := "equals", desc := "(Ljava/lang/Object;)Z" } : Jvm.MethodName) prog_85_method_5_code (3 : Nat) (Option.some Jvm.ClassFile.FieldType.boolean)).before args0 about1 = true := code_word (m := ⟨2, 1⟩) (meth := k2m1) (c := k2c1) (by decide +kernel) rfl rfl rfl (by decide +kernel)
set_option maxRecDepth 65536 in
theorem w_c6 : (Jvm.Cond.code ({ cls := "java/lang/Integer", name := "<init>", desc := "(I)V" } : Jvm.MethodName) jdk_33_method_23_code (2 : Nat) (Option.none : Option Jvm.ClassFile.FieldType)).before args0 about1 = true := code_word (m := ⟨8, 1⟩) (meth := k8m1) (c := k8c1) (by decide +kernel) rfl rfl rfl (by decide +kernel)
set_option maxRecDepth 65536 in
theorem w_c7 : (Jvm.Cond.code ({ cls := "java/lang/Number", name := "<init>", desc := "()V" } : Jvm.MethodName) jdk_18_method_1_code (1 : Nat) (Option.none : Option Jvm.ClassFile.FieldType)).before args0 about1 = true := code_word (m := ⟨4, 0⟩) (meth := k4m0) (c := k4c0) (by decide +kernel) rfl rfl rfl (by decide +kernel)
def codes1 : List Jvm.Cond := [Jvm.Cond.code x code maxLocals ret, Jvm.Cond.code ({ cls := "com/example/oghma/oghma/model/TypeAnnotations", name := "<init>", desc := "(ZZZ)V" } : Jvm.MethodName) prog_85_method_1_code (4 : Nat) (Option.none : Option Jvm.ClassFile.FieldType), Jvm.Cond.code ({ cls := "java/lang/Object", name := "<init>", desc := "()V" } : Jvm.MethodName) object_method_1_code (1 : Nat) (Option.none : Option Jvm.ClassFile.FieldType), Jvm.Cond.code ({ cls := "java/lang/Integer", name := "valueOf", desc := "(I)Ljava/lang/Integer;" } : Jvm.MethodName) jdk_33_method_22_code (1 : Nat) (Option.some (Jvm.ClassFile.FieldType.object "java/lang/Integer")), Jvm.Cond.code ({ cls := "com/example/oghma/oghma/model/TypeAnnotationsEqualsPinLaw", name := "code", desc := "(ZZZ)I" } : Jvm.MethodName) method_2_code (4 : Nat) (Option.some Jvm.ClassFile.FieldType.int), Jvm.Cond.code ({ cls := "com/example/oghma/oghma/model/TypeAnnotations", name := "equals", desc := "(Ljava/lang/Object;)Z" } : Jvm.MethodName) prog_85_method_5_code (3 : Nat) (Option.some Jvm.ClassFile.FieldType.boolean), Jvm.Cond.code ({ cls := "java/lang/Integer", name := "<init>", desc := "(I)V" } : Jvm.MethodName) jdk_33_method_23_code (2 : Nat) (Option.none : Option Jvm.ClassFile.FieldType), Jvm.Cond.code ({ cls := "java/lang/Number", name := "<init>", desc := "()V" } : Jvm.MethodName) jdk_18_method_1_code (1 : Nat) (Option.none : Option Jvm.ClassFile.FieldType)]
set_option maxRecDepth 65536 in
theorem codes_eq : words1.filter isCode = codes1 := rfl
theorem w_codes : ∀ c ∈ words1.filter isCode, c.before args0 about1 = true := by
  rw [codes_eq]
  intro c hc
  simp only [codes1, List.mem_cons, List.not_mem_nil, or_false] at hc
  rcases hc with rfl | rfl | rfl | rfl | rfl | rfl | rfl | rfl
  · exact w_c0
  · exact w_c1
  · exact w_c2
  · exact w_c3
  · exact w_c4
  · exact w_c5
  · exact w_c6
  · exact w_c7
set_option maxRecDepth 65536 in
theorem w_t1 : (words1.take 24).all (fun c => isCode c || c.before args0 about1) = true := by decide +kernel
set_option maxRecDepth 65536 in
theorem w_t2 : ((words1.drop 24).take 24).all (fun c => isCode c || c.before args0 about1) = true := by decide +kernel
set_option maxRecDepth 65536 in
theorem w_t3 : ((words1.drop 24).drop 24).all (fun c => isCode c || c.before args0 about1) = true := by decide +kernel
theorem w_tables : (allAtoms (Jvm.Cond.code x code maxLocals ret :: tables_1)).before args0 about1 = true := by
  rw [allAtoms_all]
  show words1.all (fun c => c.before args0 about1) = true
  refine all_split ?_ w_codes
  rw [← List.take_append_drop 24 words1, List.all_append, w_t1, ← List.take_append_drop 24 (words1.drop 24), List.all_append, w_t2, w_t3]
  rfl
set_option maxRecDepth 65536 in
theorem w_rest : rest_1_c.before args0 about1 = true := by decide +kernel
set_option maxRecDepth 65536 in
theorem w_case : (Jvm.Cond.and given_1 narrow_1).before args0 about1 = true := by decide +kernel
theorem w_applies : (headSpec (Jvm.Cond.code x code maxLocals ret :: tables_1) room_1).applies x e0.platform about1 = true :=
  (Spec.applies_iff w_frames).mpr ⟨w_running, w_runnable, w_alone, w_named, w_hears, w_ripe, w_room, w_tables⟩
theorem atStart : AtStart classFile x code maxLocals ret World_1 tables_1 room_1 Calls_1 rest_1 Pre_1 launch0 p0 e0 about1 theMethod args0 below0 :=
  ⟨lists_1, trivial, launch0.admits_env _ _ _, launch0.least_env, fairChoices_fair.cas, fairChoices_fair.clock, w_frames, w_args, w_heap, w_applies, trivial, w_rest, w_case⟩
end start1
theorem witness_1 : WitnessClaimed_1 := ⟨start1.p0, start1.e0, start1.about1, start1.theMethod, start1.args0, start1.below0, start1.atStart⟩
end Jvm.Pilot.@@N@@
