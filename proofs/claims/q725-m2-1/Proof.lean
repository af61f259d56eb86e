import JvmDerived
import JvmDerived.Pilot.@@N@@Statement
import JvmDerived.Pilot.@@N@@Code
set_option linter.unusedVariables false
set_option linter.unusedSimpArgs false
namespace Jvm.Pilot.@@N@@
open Jvm Jvm.ClassFile Sem Op Lib Jvm.Free Jvm.Stand Jvm.LawKit Jvm.RoadKit Bundle Jvm.Pilot.@@N@@.Jvm.D
section Own
variable {p : Program} {l : Launch} {e : Env} {R : Room} {s : State} {m : MethodId} {args : Array Value} {below : List Frame} {meth : Method} {c : Code} {T : State} {locs : List Loc} {cells slots : Nat} {K : Outcome → State → Prop} {Z : State} {a0 : Array Value}
/-- from S the run comes to an end of which K is true -/
def Go (p : Program) (e : Env) (below : List Frame) (K : Outcome → State → Prop) (S : State) : Prop := ∃ s₂ o, Steps p.tables e below S s₂ ∧ s₂.status = .running ∧ Ended s₂ below o ∧ K o s₂
theorem Go.st {S S' : State} (h : ∀ t, Steps p.tables e below S' t → Steps p.tables e below S t) (k : Go p e below K S') : Go p e below K S := by
  obtain ⟨a, o, h1, r⟩ := k; exact ⟨a, o, h _ h1, r⟩
theorem Go.tr {S S' : State} (h : Steps p.tables e below S S') (k : Go p e below K S') : Go p e below K S := by
  obtain ⟨a, o, h1, r⟩ := k; exact ⟨a, o, h.trans h1, r⟩
def EndQ (s : State) (Q : Option Value → Heap → List Loc → Prop) (ce sl : Nat) (o : Outcome) (U : State) : Prop := ∃ v L, o = .returned v ∧ Q v U.heap L ∧ FrameEnd s o U L ce sl
theorem goRet {v : Option Value} {ce sl : Nat} {Q : Option Value → Heap → List Loc → Prop} {S : State} {h : Heap} (X : Stand p l e R s m args below meth c T locs cells slots) (hlk : meth.locks = false) (hv : meth.sig.returnType = none → v = none) (eT : T.heap = h)
    (step : ∀ fs, (∀ (f : JFrame) (acts : List Action), f.method = m → f.locked = none → f.entered = [] → (doReturn e (T.setTop f) acts v).1 = T.setFrames fs) → Steps p.tables e below S (T.setFrames fs))
    (hc : cells ≤ ce) (hs : slots ≤ sl) (hQ : Q v h locs) : Go p e below (EndQ s Q ce sl) S := by
  obtain ⟨fs, hr, hrun, hended, hW, hsame⟩ := X.leave (v := v) hv hlk
  subst eT
  exact ⟨_, _, step fs hr, hrun, hended, _, _, rfl, hQ, ⟨_, rfl⟩, hW, hsame.mono hc hs⟩
/-- ireturn of a boolean, byte, char, short -/
theorem goRetN {ce sl : Nat} {Q : Option Value → Heap → List Loc → Prop} {pc : Nat} {Ls : Array Slot} {z w : Int32} {rest : List Value} {t : FieldType} {h : Heap} (X : Stand p l e R s m args below meth c T locs cells slots) (hx : p.tables.exec = Jvm.exec) (hlk : meth.locks = false) (hret : meth.sig.returnType = some t) (ht : t = .boolean ∨ t = .byte ∨ t = .char ∨ t = .short) (hw : nar t z = w) (eT : T.heap = h)
    (hd : decode c.code pc = .ok (.ireturn, 1)) (hc : cells ≤ ce) (hs : slots ≤ sl) (hQ : Q (some (.int w)) h locs) : Go p e below (EndQ s Q ce sl) (T.setTop (mkF m pc Ls (.int z :: rest))) := by
  subst hw
  exact goRet X hlk (fun h => by rw [hret] at h; cases h) eT (fun fs hr => retN X hx hret ht hd hr) hc hs hQ
theorem goRetI {ce sl : Nat} {Q : Option Value → Heap → List Loc → Prop} {pc : Nat} {Ls : Array Slot} {z : Int32} {rest : List Value} {h : Heap} (X : Stand p l e R s m args below meth c T locs cells slots) (hx : p.tables.exec = Jvm.exec) (hlk : meth.locks = false) (hret : meth.sig.returnType = some .int) (eT : T.heap = h)
    (hd : decode c.code pc = .ok (.ireturn, 1)) (hc : cells ≤ ce) (hs : slots ≤ sl) (hQ : Q (some (.int z)) h locs) : Go p e below (EndQ s Q ce sl) (T.setTop (mkF m pc Ls (.int z :: rest))) :=
  goRet X hlk (fun h => by rw [hret] at h; cases h) eT (fun fs hr => retOut X hx hret rfl (Or.inl ⟨rfl, Or.inl rfl, z, rfl⟩) hd hr) hc hs hQ
theorem goRetJ {ce sl : Nat} {Q : Option Value → Heap → List Loc → Prop} {pc : Nat} {Ls : Array Slot} {z : Int64} {rest : List Value} {h : Heap} (X : Stand p l e R s m args below meth c T locs cells slots) (hx : p.tables.exec = Jvm.exec) (hlk : meth.locks = false) (hret : meth.sig.returnType = some .long) (eT : T.heap = h)
    (hd : decode c.code pc = .ok (.lreturn, 1)) (hc : cells ≤ ce) (hs : slots ≤ sl) (hQ : Q (some (.long z)) h locs) : Go p e below (EndQ s Q ce sl) (T.setTop (mkF m pc Ls (.long z :: rest))) :=
  goRet X hlk (fun h => by rw [hret] at h; cases h) eT (fun fs hr => retOut X hx hret rfl (Or.inr (Or.inl ⟨rfl, rfl, z, rfl⟩)) hd hr) hc hs hQ
theorem goRetA {ce sl : Nat} {Q : Option Value → Heap → List Loc → Prop} {pc : Nat} {Ls : Array Slot} {w : Value} {rest : List Value} {t : FieldType} {h : Heap} (X : Stand p l e R s m args below meth c T locs cells slots) (hx : p.tables.exec = Jvm.exec) (hlk : meth.locks = false) (hret : meth.sig.returnType = some t) (ht : t.isReference = true) (hw : w.isRef = true) (hn : narrow t w = w) (eT : T.heap = h)
    (hd : decode c.code pc = .ok (.areturn, 1)) (hc : cells ≤ ce) (hs : slots ≤ sl) (hQ : Q (some w) h locs) : Go p e below (EndQ s Q ce sl) (T.setTop (mkF m pc Ls (w :: rest))) :=
  goRet X hlk (fun h => by rw [hret] at h; cases h) eT (fun fs hr => retOut X hx hret hn (Or.inr (Or.inr (Or.inr (Or.inr ⟨rfl, ht, hw⟩)))) hd hr) hc hs hQ
theorem goRetV {ce sl : Nat} {Q : Option Value → Heap → List Loc → Prop} {pc : Nat} {Ls : Array Slot} {h : Heap} (X : Stand p l e R s m args below meth c T locs cells slots) (hx : p.tables.exec = Jvm.exec) (hlk : meth.locks = false) (hret : meth.sig.returnType = none) (eT : T.heap = h)
    (hd : decode c.code pc = .ok (.return_, 1)) (hc : cells ≤ ce) (hs : slots ≤ sl) (hQ : Q none h locs) : Go p e below (EndQ s Q ce sl) (T.setTop (mkF m pc Ls [])) :=
  goRet X hlk (fun _ => rfl) eT (fun fs hr => X.returnOut hx hret hd hr) hc hs hQ
/-- a method's contract, in the form that a caller takes -/
abbrev Ctr (l : Launch) (y : MethodName) (bytes : ByteArray) (maxL : Nat) (ret : Option FieldType) (ws : List Jvm.Cond) (rm : Room) (as : Array Value) (Z : State) (h0 : Heap) (Q : Option Value → Heap → List Loc → Prop) : Prop :=
  MetFree l y (head1 (Jvm.Cond.code y bytes maxL ret :: ws) rm) (fun a U => a = as ∧ Z.Warmed39 U.vm ∧ U.heap = h0) (fun _ _ _ _ _ => True) (fun _ U o U' => ∃ v L, o = .returned v ∧ Q v U'.heap L ∧ FrameEnd U o U' L rm.cells rm.slots)
theorem Ctr.of {y : MethodName} {bytes : ByteArray} {maxL : Nat} {ret : Option FieldType} {ws : List Jvm.Cond} {rm : Room} {as : Array Value} {h0 : Heap} {Q : Option Value → Heap → List Loc → Prop} (hpl : plainFor y = true)
    (body : ∀ (p : Program) (e : Env) (s : State) (m : MethodId) (below : List Frame) (meth : Method) (c : Code) (s₁ : State), p.tables.exec = Jvm.exec → Z.Warmed39 s.vm → c.code = bytes → c.maxLocals = maxL → s.vm.findClass y.cls = some m.cls → meth.name = y.name → meth.sig.returnType = ret → meth.locks = false →
      Stand p l e rm s m as below meth c s₁ [] 0 0 → s₁.heap = h0 → Go p e below (EndQ s Q rm.cells rm.slots) (s₁.setTop (entryFrame m as maxL))) :
    Ctr l y bytes maxL ret ws rm as Z h0 Q := by
  refine MetFree.of_bodySF hpl hisR ?_
  intro p e s m args below meth c s₁ Bd hml hP _
  obtain ⟨rfl, hZ, hh⟩ := hP
  exact body p e s m below meth c s₁ Bd.exec hZ Bd.bytes hml (findClass_of_methodNamed Bd.named) (name_of_methodNamed Bd.named Bd.method).1 Bd.returns Bd.notSynchronized (Stand.of_body Bd) (by rw [← hh, Bd.state]; rfl)
theorem goCallS (X : Stand p l e R s m args below meth c T locs cells slots) (hx : p.tables.exec = Jvm.exec) (hZ : Z.Warmed39 s.vm) {own : String} {index : Nat} {y : MethodName} {bytes : ByteArray} {maxL : Nat} {ret : Option FieldType} (hown : s.vm.findClass own = some m.cls)
    (w1 : (Jvm.Cond.methodLink own index y).before a0 Z = true) (w2 : (Jvm.Cond.static y).before a0 Z = true) (w3 : (Jvm.Cond.initialized y.cls).before a0 Z = true) (w4 : (Jvm.Cond.code y bytes maxL ret).before a0 Z = true) (hy : y.cls ≠ "java/lang/invoke/MethodHandle" ∧ y.cls ≠ "java/lang/invoke/VarHandle")
    {h : Heap} {rm : Room} {argsL rest : List Value} {Q : Option Value → Heap → List Loc → Prop} (eT : T.heap = h) (hC : Ctr l y bytes maxL ret [] rm argsL.toArray Z h Q) (W : Nat) (hf : rm.frames + 1 ≤ R.frames) (hl : W + (maxL + 11) + rm.locals ≤ R.locals) (hcl : cells + rm.cells ≤ R.cells) (hsl : slots + rm.slots ≤ R.slots)
    (g : JFrame) (hg : g.method = m) (hsize : g.locals.size = c.maxLocals) (hlen : ∀ sig, parseMethodDescriptor y.desc = some sig → argsL.length = sig.parameters.length) (hst : g.stack = argsL.reverse ++ rest) (hd : decode c.code g.pc = .ok (.invokestatic index, 3))
    (hW : 2 * g.monitorRoom + (rest.map fun v => v.category).sum ≤ W)
    (next : ∀ (v : Option Value) (T' : State) (L : List Loc), Stand p l e R s m args below meth c T' (locs ++ L) (cells + rm.cells) (slots + rm.slots) → Q v T'.heap L → Go p e below K (T'.setTop { g with pc := g.pc + 3, stack := v.toList ++ rest })) :
    Go p e below K (T.setTop g) := by
  subst eT
  obtain ⟨v, _, ⟨T', L', k', n'⟩, -, X', ⟨L, hQ, l1, y1, z1⟩, stp⟩ := Jvm.LawKit.callS X hx hown (mvT hZ w1) (mvT hZ w2) (mvT hZ w3) (mvT hZ w4) hy (backOf (W := W) hC hZ w4 w3 hf hl) (g := g) hg hsize hlen hst hW hd (fun _ _ => ⟨rfl, rfl, hcl, hsl⟩)
  dsimp only [Pt.U, Pt.locs, Pt.cells, Pt.slots] at X' l1 y1 z1 stp hQ
  subst l1 y1 z1
  exact Go.st stp (next v T' L X' hQ)
theorem goInit (X : Stand p l e R s m args below meth c T locs cells slots) (hx : p.tables.exec = Jvm.exec) (hZ : Z.Warmed39 s.vm) {own : String} {index : Nat} {y : MethodName} {bytes : ByteArray} {maxL : Nat} (hy1 : y.name = "<init>") (hown : s.vm.findClass own = some m.cls)
    (w1 : (Jvm.Cond.methodLink own index y).before a0 Z = true) (w2 : (Jvm.Cond.instanceMethod y).before a0 Z = true) (w3 : (Jvm.Cond.initialized y.cls).before a0 Z = true) (w4 : (Jvm.Cond.code y bytes maxL none).before a0 Z = true) (hy : y.cls ≠ "java/lang/invoke/MethodHandle" ∧ y.cls ≠ "java/lang/invoke/VarHandle")
    {h : Heap} {rm : Room} {a : Addr} {argsL rest : List Value} {Q : Option Value → Heap → List Loc → Prop} (eT : T.heap = h) (hC : Ctr l y bytes maxL none [] rm (.ref a :: argsL).toArray Z h Q) (W : Nat) (hf : rm.frames + 1 ≤ R.frames) (hl : W + (maxL + 11) + rm.locals ≤ R.locals) (hcl : cells + rm.cells ≤ R.cells) (hsl : slots + rm.slots ≤ R.slots)
    (g : JFrame) (hg : g.method = m) (hsize : g.locals.size = c.maxLocals) (hlen : ∀ sig, parseMethodDescriptor y.desc = some sig → argsL.length = sig.parameters.length) (hst : g.stack = argsL.reverse ++ .ref a :: rest) (hd : decode c.code g.pc = .ok (.invokespecial index, 3))
    (hW : 2 * g.monitorRoom + (rest.map fun v => v.category).sum ≤ W)
    (next : ∀ (v : Option Value) (T' : State) (L : List Loc), Stand p l e R s m args below meth c T' (locs ++ L) (cells + rm.cells) (slots + rm.slots) → Q v T'.heap L → Go p e below K (T'.setTop { g with pc := g.pc + 3, stack := v.toList ++ rest })) :
    Go p e below K (T.setTop g) := by
  subst eT
  obtain ⟨v, _, ⟨T', L', k', n'⟩, -, X', ⟨L, hQ, l1, y1, z1⟩, stp⟩ := X.specialBack hx hy1 hown (mvT hZ w1) (mvT hZ w2) (mvT hZ w4) hy (backOf (W := W) hC hZ w4 w3 hf hl) (g := g) hg hsize (Steps.refl _) hlen hst hW hd (fun _ _ => ⟨rfl, rfl, hcl, hsl⟩)
  dsimp only [Pt.U, Pt.locs, Pt.cells, Pt.slots] at X' l1 y1 z1 stp hQ
  subst l1 y1 z1
  exact Go.tr stp (next v T' L X' hQ)
theorem goVirt (X : Stand p l e R s m args below meth c T locs cells slots) (hx : p.tables.exec = Jvm.exec) (hZ : Z.Warmed39 s.vm) {own C : String} {index : Nat} {y z : MethodName} {bytes : ByteArray} {maxL : Nat} {ret : Option FieldType} (hown : s.vm.findClass own = some m.cls)
    (w1 : (Jvm.Cond.methodLink own index y).before a0 Z = true) (w2 : (Jvm.Cond.declares y).before a0 Z = true) (hnf : NotFace s y) (w5 : (Jvm.Cond.selects C y z).before a0 Z = true) (w6 : (Jvm.Cond.instanceMethod z).before a0 Z = true) (w3 : (Jvm.Cond.initialized z.cls).before a0 Z = true) (w4 : (Jvm.Cond.code z bytes maxL ret).before a0 Z = true) (hy : y.cls ≠ "java/lang/invoke/MethodHandle" ∧ y.cls ≠ "java/lang/invoke/VarHandle")
    {h : Heap} {rm : Room} {a : Addr} {argsL rest : List Value} {Q : Option Value → Heap → List Loc → Prop} (eT : T.heap = h) (E : Exa Z h a C) (hC : Ctr l z bytes maxL ret [] rm (.ref a :: argsL).toArray Z h Q) (W : Nat) (hf : rm.frames + 1 ≤ R.frames) (hl : W + (maxL + 11) + rm.locals ≤ R.locals) (hcl : cells + rm.cells ≤ R.cells) (hsl : slots + rm.slots ≤ R.slots)
    (g : JFrame) (hg : g.method = m) (hsize : g.locals.size = c.maxLocals) (hlen : ∀ sig, parseMethodDescriptor y.desc = some sig → argsL.length = sig.parameters.length) (hst : g.stack = argsL.reverse ++ .ref a :: rest) (hd : decode c.code g.pc = .ok (.invokevirtual index, 3))
    (hW : 2 * g.monitorRoom + (rest.map fun v => v.category).sum ≤ W)
    (next : ∀ (v : Option Value) (T' : State) (L : List Loc), Stand p l e R s m args below meth c T' (locs ++ L) (cells + rm.cells) (slots + rm.slots) → Q v T'.heap L → Go p e below K (T'.setTop { g with pc := g.pc + 3, stack := v.toList ++ rest })) :
    Go p e below K (T.setTop g) := by
  subst eT
  obtain ⟨cq, kq, qa, qb, qc⟩ := isOf (T := T) hZ rfl E
  obtain ⟨v, _, ⟨T', L', k', n'⟩, -, X', ⟨L, hQ, l1, y1, z1⟩, stp⟩ := X.virtualBack hx hown (mvT hZ w1) (mvT hZ w2) hnf (mvT hZ w5) (mvT hZ w6) hy (backOf (W := W) hC hZ w4 w3 hf hl) qa qc (g := g) hg hsize (Steps.refl _) hlen hst hW hd (fun _ _ => ⟨rfl, rfl, hcl, hsl⟩)
  dsimp only [Pt.U, Pt.locs, Pt.cells, Pt.slots] at X' l1 y1 z1 stp hQ
  subst l1 y1 z1
  exact Go.tr stp (next v T' L X' hQ)
theorem oldGe {h : Heap} {n0 : Nat} {b : Addr} (O : Old Z n0 h) (g : b = h.size) : n0 ≤ b := by rw [g, ← O.1]; exact O.2.1
theorem oldSta {h : Heap} {n0 : Nat} {C n d : String} {v : Value} (O : Old Z n0 h) (S : Sta Z Z.heap C n d v) : Sta Z h C n d v := S.ext O.2
theorem oldExa {h : Heap} {n0 : Nat} {C : String} {a : Addr} (O : Old Z n0 h) (S : Exa Z Z.heap a C) : Exa Z h a C := S.ext O.2
theorem oldFld {h : Heap} {n0 : Nat} {a : Addr} {C n d : String} {v : Value} (O : Old Z n0 h) (S : Fld Z Z.heap a C n d v) : Fld Z h a C n d v := S.ext O.2
end Own
theorem fldStart {args : Array Value} {Z : State} {t : Term} {a : Addr} {C n d : String} {v : Int32} (ev : t.eval args Z none [] Z = some (.ref a)) (h : (Jvm.Cond.eq (.field t C n d) (.int v)).value args Z none Z [] = some true) : Fld Z Z.heap a C n d (.int v) := by
  cases hf : Z.fieldOf? a C n d with
  | none => simp [Cond.value, Term.eval, ev, hf] at h
  | some x =>
    cases x <;> simp [Cond.value, Term.eval, ev, hf] at h
    exact Fld.start (by rw [hf, h])
theorem staInt {args : Array Value} {Z : State} {C n d : String} {v : Int32} (h : (Jvm.Cond.eq (.static C n d) (.int v)).value args Z none Z [] = some true) : (Term.static C n d).eval args Z none [] Z = some (.int v) := by
  obtain ⟨x, y, h1, h2, k1, k2⟩ := cmp_v (Or.inl h)
  cases (Term.int_eval v (args := args) (first := Z) (o := none) (idx := []) (s := Z)).symm.trans h2
  obtain ⟨z, rfl⟩ := k2
  rw [h1]
  simp [Cond.value, h1, Term.int_eval] at h
  rw [h]
theorem narZ {z : Int32} (h : z = 0 ∨ z = 1) : nar .boolean z = z := by rcases h with rfl | rfl <;> decide
theorem goJoin {p : Program} {e : Env} {below : List Frame} {K : Outcome → State → Prop} {S : State} {α : Type} {P : α → Prop} {F : α → State} (h1 : ∀ z, P z → Go p e below K (F z)) (h2 : (∀ z, P z → Go p e below K (F z)) → Go p e below K S) : Go p e below K S := h2 h1
theorem own_bit {z : Int32} {P : Prop} [Decidable P] (h : z = (if P then (1 : Int32) else 0)) : z = 0 ∨ z = 1 := by rw [h]; by_cases q : P <;> simp [q]
theorem lenStart {args : Array Value} {Z : State} {t : Term} {a : Addr} {cl : Cell} {n : Int32} (ev : t.eval args Z none [] Z = some (.ref a)) (ha : Z.arrayAt? a = some cl) (h : (Jvm.Cond.eq (.length t) (.int n)).value args Z none Z [] = some true) : cl.slots.size < 2 ^ 31 ∧ cl.slots.size.toInt32 = n := by
  have h1 := eqv_i (Term.int_eval n) h
  by_cases q : cl.slots.size < 2 ^ 31
  · rw [len_f ev ha q] at h1
    exact ⟨q, by simpa using h1⟩
  · simp [Term.eval, ev, ha, q] at h1
theorem nsRoot {Z : State} {a0 : Array Value} {O K : String} {n : Nat} (w : (Jvm.Cond.noSuperclass O).before a0 Z = true) (wi : (Jvm.Cond.instantiable K n).before a0 Z = true) (hn : O ≠ K) : NS Z O K := by
  obtain ⟨c, k, h1, h2, h3, -, -⟩ := Cond.noSuperclass_spec w
  obtain ⟨t, k', g1, -⟩ := Cond.instantiable_spec wi
  have ne := ids_ne h1 g1 hn
  refine ⟨c, t, h1, g1, fun fuel => ?_⟩
  cases fuel with
  | zero => rfl
  | succ f => simp [Vm.isSubclassAux, ne, h2, h3]
theorem nsNo {Z : State} {a0 : Array Value} {C S K : String} {n : Nat} (w : (Jvm.Cond.superclass C S).before a0 Z = true) (wi : (Jvm.Cond.instantiable K n).before a0 Z = true) (nn : NS Z C K) (hn : C ≠ K) : ∃ c t, Z.vm.findClass C = some c ∧ Z.vm.findClass K = some t ∧ Z.vm.assignable c t = false := by
  obtain ⟨c, t, h0, g0, n3⟩ := nn
  obtain ⟨p, k, kp, h1, h2, h3, h4, h5, -, h7⟩ := Cond.superclass_spec h0 w
  obtain ⟨t', k', g1, g2, g5, g6, -⟩ := Cond.instantiable_spec wi
  cases g0.symm.trans g1
  have g7 : k'.isInterface = false := by
    cases hq : k'.isInterface with
    | false => rfl
    | true => rw [hq] at g6; simp at g6
  have ne := ids_ne h0 g0 hn
  refine ⟨c, t, h0, g0, ?_⟩
  show Z.vm.assignableAux (255 + 1) c t = false
  simp [Vm.assignableAux, ne, h2, g2, h5, g5, g7, Vm.isSubclass, n3]
theorem subAt {args : Array Value} {Z : State} {a b : Term} {idx : List Nat} {x y : Int32} (ha : a.eval args Z none idx Z = some (.int x)) (hb : b.eval args Z none idx Z = some (.int y)) : (Term.sub a b).eval args Z none idx Z = some (.int (x - y)) := by simp [Term.eval, ha, hb]
theorem elemStart {args : Array Value} {Z : State} {t u : Term} {a w : Addr} {cl : Cell} {ty : FieldType} {j : Int32} (ev : t.eval args Z none [] Z = some (.ref a)) (A : Arr Z Z.heap a cl ty) (evu : u.eval args Z none [] Z = some (.ref w)) (h : (Jvm.Cond.eq (.elem t (.int j)) u).value args Z none Z [] = some true) : cl.slots[j.toNatClampNeg]? = some (.ref w) := by
  obtain ⟨x, y, h1, h2, k1, k2⟩ := cmp_v (Or.inl h)
  cases evu.symm.trans h2
  have hx : x.isRef = true := k2.2
  have e : x = .ref w := gotT (eq_R h1 h2 hx rfl) h
  rw [← e]
  exact (elem_in h1 ev (Term.int_eval j) A.1).2
theorem own_ite {P Q : Prop} [Decidable P] [Decidable Q] (h : P ↔ Q) : (if P then (1 : Int32) else 0) = (if Q then (1 : Int32) else 0) := by
  by_cases p : P
  · rw [if_pos p, if_pos (h.mp p)]
  · rw [if_neg p, if_neg (fun q => p (h.mpr q))]
theorem ownBxJ {Z : State} {wc : Addr} {cl : Cell} {K : String} {q : Int64} (BX : Bxs Z wc cl K "J" 256 (fun j => .long (j - 128).toInt64)) (h1 : ¬ q < (-128 : Int64)) (h2 : ¬ (127 : Int64) < q) :
    ¬ (q.toInt32 + (128 : Int32) < 0 ∨ cl.slots.size ≤ (q.toInt32 + (128 : Int32)).toNatClampNeg) ∧ ∃ r, cl.slots[(q.toInt32 + (128 : Int32)).toNatClampNeg]? = some (.ref r) ∧ Exa Z Z.heap r K ∧ Fld Z Z.heap r K "value" "J" (.long q) := by
  rw [Int64.lt_iff_toInt_lt, show (-128 : Int64).toInt = -128 from rfl] at h1
  rw [Int64.lt_iff_toInt_lt, show (127 : Int64).toInt = 127 from rfl] at h2
  have e0 : q.toInt32.toInt = q.toInt := by rw [Int64.toInt_toInt32]; exact Int.bmod_eq_of_le (by omega) (by omega)
  have e1 : (q.toInt32 + (128 : Int32)).toInt = q.toInt + 128 := by
    rw [Int32.toInt_add, e0, show (128 : Int32).toInt = 128 from rfl]; exact Int.bmod_eq_of_le (by omega) (by omega)
  have hin : ¬ (q.toInt32 + (128 : Int32) < 0 ∨ cl.slots.size ≤ (q.toInt32 + (128 : Int32)).toNatClampNeg) := by
    refine inb_of BX.2.1 ⟨?_, ?_⟩
    · rw [Int32.lt_iff_toInt_lt, e1, show (0 : Int32).toInt = 0 from rfl]; omega
    · rw [Int32.lt_iff_toInt_lt, e1, show (256 : Int32).toInt = 256 from rfl]; omega
  obtain ⟨r, r1, r2, r3⟩ := BX.2.2.2 _ hin
  refine ⟨hin, r, r1, r2, ?_⟩
  have e2 : (q.toInt32 + 128 - 128).toInt64 = q := by
    apply Int64.toInt_inj.mp
    rw [Int32.toInt_toInt64, Int32.toInt_sub, e1, show (128 : Int32).toInt = 128 from rfl]
    rw [Int.bmod_eq_of_le (by omega) (by omega)]; omega
  simpa only [e2] using r3

theorem pd_0 : parseMethodDescriptor "()V" = some ⟨[], none⟩ := by decide +kernel
theorem pd_1 : parseMethodDescriptor "(J)V" = some ⟨[.long], none⟩ := by decide +kernel
theorem pd_2 : parseMethodDescriptor "(JJ)V" = some ⟨[.long, .long], none⟩ := by decide +kernel
theorem pd_3 : parseMethodDescriptor "(J)Ljava/lang/Long;" = some ⟨[.long], some (.object "java/lang/Long")⟩ := by decide +kernel
theorem pd_4 : parseMethodDescriptor "(Ljava/lang/Object;)Z" = some ⟨[(.object "java/lang/Object")], some .boolean⟩ := by decide +kernel
theorem d6_0 : decode jdk_18_method_1_code 0 = .ok (.aload_n 0, 1) := by decide +kernel
theorem d6_1 : decode jdk_18_method_1_code 1 = .ok (.invokespecial 1, 3) := by decide +kernel
theorem d6_4 : decode jdk_18_method_1_code 4 = .ok (.return_, 1) := by decide +kernel
theorem pn_6 : plainName "java/lang/Number" = true := by first | (simp [plainName, overriddenIn]; done) | decide +kernel
set_option maxRecDepth 65536 in
set_option maxHeartbeats 40000000 in
theorem rmNum (l : Launch) (Z : State) (a0 : Array Value) (hw : ∀ d ∈ tables_1, d.before a0 Z = true) (ws : List Jvm.Cond) (a1 : Addr) (h0 : Heap) (n0 : Nat) (O0 : Old Z n0 h0) :
    Ctr l (⟨"java/lang/Number", "<init>", "()V"⟩ : MethodName) jdk_18_method_1_code 1 none ws ({ frames := 1, cells := 0, slots := 0, locals := 12 } : Room) #[(.ref a1)] Z h0 (fun v h L => v = none ∧ Fr n0 L ∧ h = h0) := by
  have ef : ∀ m : MethodId, entryFrame m #[(.ref a1)] 1 = mkF m 0 #[.val (.ref a1)] [] := fun m => by first | (simp [entryFrame, mkF, argsToLocals, Value.category]; done) | rfl
  refine Ctr.of (plainFor_of_name pn_6) ?_
  intro p e s m below meth c s₁ hx hZ hby hml hown0 hnm hret hlk X0 e0
  have hown : s.vm.findClass "java/lang/Number" = some m.cls := hown0
  have N0 := Fr.nil n0
  refine Go.st (fun t k => castTop (ef m) k) ?_
  show Go p e below _ (s₁.setTop (mkF m 0 #[.val (.ref a1)] []))
  refine Go.st (fun _ => XS.aloadN X0.here hx rfl (hb hby d6_0) rfl rfl) ?_
  show Go p e below _ (s₁.setTop (mkF m 1 #[.val (.ref a1)] [(.ref a1)]))
  obtain ⟨T1, X1, e1, st1⟩ := initO X0 hx hZ hown (hw _ (List.mem_of_getElem? (i := 43) rfl)) (hw _ (List.mem_of_getElem? (i := 7) rfl)) (hw _ (List.mem_of_getElem? (i := 8) rfl)) e0 (g := (mkF m 1 #[.val (.ref a1)] [(.ref a1)])) rfl (by rw [hml]; rfl) rfl (hb hby d6_1) (by decide) (W := 0) (by show 2 * 0 + _ ≤ _; exact Nat.le_of_eq rfl) (by decide)
  refine Go.st st1 ?_
  show Go p e below _ (T1.setTop (mkF m 4 #[.val (.ref a1)] []))
  exact goRetV X1 hx hlk hret e1 (hb hby d6_4) (by decide) (by decide) ⟨rfl, N0, rfl⟩
theorem d5_0 : decode jdk_35_method_26_code 0 = .ok (.aload_n 0, 1) := by decide +kernel
theorem d5_1 : decode jdk_35_method_26_code 1 = .ok (.invokespecial 270, 3) := by decide +kernel
theorem d5_4 : decode jdk_35_method_26_code 4 = .ok (.aload_n 0, 1) := by decide +kernel
theorem d5_5 : decode jdk_35_method_26_code 5 = .ok (.lload_n 1, 1) := by decide +kernel
theorem d5_6 : decode jdk_35_method_26_code 6 = .ok (.putfield 273, 3) := by decide +kernel
theorem d5_9 : decode jdk_35_method_26_code 9 = .ok (.return_, 1) := by decide +kernel
theorem pn_5 : plainName "java/lang/Long" = true := by first | (simp [plainName, overriddenIn]; done) | decide +kernel
set_option maxRecDepth 65536 in
set_option maxHeartbeats 40000000 in
theorem rmBoxInit (l : Launch) (Z : State) (a0 : Array Value) (hw : ∀ d ∈ tables_1, d.before a0 Z = true) (ws : List Jvm.Cond) (a1 : Addr) (q2 : Int64) (h0 : Heap) (n0 : Nat) (O0 : Old Z n0 h0) (A1 : Exa Z h0 a1 "java/lang/Long") (F1 : Fld Z h0 a1 "java/lang/Long" "value" "J" (.long (0 : Int64))) (g1 : n0 ≤ a1) :
    Ctr l (⟨"java/lang/Long", "<init>", "(J)V"⟩ : MethodName) jdk_35_method_26_code 3 none ws ({ frames := 2, cells := 0, slots := 0, locals := 24 } : Room) #[(.ref a1), (.long q2)] Z h0 (fun v h L => v = none ∧ Fr n0 L ∧ Keep h0 h [a1] ∧ Fld Z h a1 "java/lang/Long" "value" "J" (.long q2)) := by
  have ef : ∀ m : MethodId, entryFrame m #[(.ref a1), (.long q2)] 3 = mkF m 0 #[.val (.ref a1), .val (.long q2), .second] [] := fun m => by first | (simp [entryFrame, mkF, argsToLocals, Value.category]; done) | rfl
  refine Ctr.of (plainFor_of_name pn_5) ?_
  intro p e s m below meth c s₁ hx hZ hby hml hown0 hnm hret hlk X0 e0
  have hown : s.vm.findClass "java/lang/Long" = some m.cls := hown0
  have N0 := Fr.nil n0
  refine Go.st (fun t k => castTop (ef m) k) ?_
  show Go p e below _ (s₁.setTop (mkF m 0 #[.val (.ref a1), .val (.long q2), .second] []))
  refine Go.st (fun _ => XS.aloadN X0.here hx rfl (hb hby d5_0) rfl rfl) ?_
  show Go p e below _ (s₁.setTop (mkF m 1 #[.val (.ref a1), .val (.long q2), .second] [(.ref a1)]))
  refine goInit X0 hx hZ (y := (⟨"java/lang/Number", "<init>", "()V"⟩ : MethodName)) rfl hown (hw _ (List.mem_of_getElem? (i := 37) rfl)) (hw _ (List.mem_of_getElem? (i := 38) rfl)) (hw _ (List.mem_of_getElem? (i := 41) rfl)) (hw _ (List.mem_of_getElem? (i := 42) rfl)) (by decide) (a := a1) (argsL := []) (rest := []) e0 (rmNum l Z a0 hw [] a1 h0 n0 O0) 0 (by decide) (by decide) (by decide) (by decide) (mkF m 1 #[.val (.ref a1), .val (.long q2), .second] [(.ref a1)]) rfl (by rw [hml]; rfl) (lenOf pd_0 rfl) rfl (hb hby d5_1) (Nat.le_of_eq rfl) ?_
  intro v1 T1 L1 X1 hQ1
  obtain ⟨rfl, M1, e1⟩ := hQ1
  have N1 := Fr.app N0 M1
  show Go p e below _ (T1.setTop (mkF m 4 #[.val (.ref a1), .val (.long q2), .second] []))
  refine Go.st (fun _ => XS.aloadN X1.here hx rfl (hb hby d5_4) rfl rfl) ?_
  show Go p e below _ (T1.setTop (mkF m 5 #[.val (.ref a1), .val (.long q2), .second] [(.ref a1)]))
  refine Go.st (fun _ => XS.lloadN X1.here hx rfl (hb hby d5_5) rfl) ?_
  show Go p e below _ (T1.setTop (mkF m 6 #[.val (.ref a1), .val (.long q2), .second] [(.long q2), (.ref a1)]))
  obtain ⟨T2, h2, X2, e2, W2, st2⟩ := putF X1 hx hZ hown (host := "") (Or.inl (hw _ (List.mem_of_getElem? (i := 44) rfl))) Via.refl e1 F1 A1 (Or.inr ⟨(hw _ (List.mem_of_getElem? (i := 45) rfl)), rfl, hnm⟩) (hw _ (List.mem_of_getElem? (i := 32) rfl)) (ty := .long) (by decide) rfl rfl (g := (mkF m 6 #[.val (.ref a1), .val (.long q2), .second] [(.long q2), (.ref a1)])) rfl rfl (hb hby d5_6)
  refine Go.st st2 ?_
  have O3 : Old Z n0 h2 := O0.wr W2 g1
  have E_4 : Exa Z h2 a1 "java/lang/Long" := A1.wr W2
  have K5 : Keep h0 h2 [a1] := (Keep.refl h0 [a1]).wr W2 (Or.inl (List.mem_of_getElem? (i := 0) rfl))
  have F6 : Fld Z h2 a1 "java/lang/Long" "value" "J" (.long q2) := F1.same W2
  have N2 := Fr.snoc X2 N1 g1
  show Go p e below _ (T2.setTop (mkF m 9 #[.val (.ref a1), .val (.long q2), .second] []))
  exact goRetV X2 hx hlk hret e2 (hb hby d5_9) (by decide) (by decide) ⟨rfl, N2, K5, F6⟩
theorem d3_0 : decode jdk_35_method_24_code 0 = .ok (.sipush 128, 3) := by decide +kernel
theorem d3_3 : decode jdk_35_method_24_code 3 = .ok (.istore_n 2, 1) := by decide +kernel
theorem d3_4 : decode jdk_35_method_24_code 4 = .ok (.lload_n 0, 1) := by decide +kernel
theorem d3_5 : decode jdk_35_method_24_code 5 = .ok (.ldc2_w 230, 3) := by decide +kernel
theorem d3_8 : decode jdk_35_method_24_code 8 = .ok (.lcmp, 1) := by decide +kernel
theorem d3_9 : decode jdk_35_method_24_code 9 = .ok (.ifCond .lt 22, 3) := by decide +kernel
theorem d3_12 : decode jdk_35_method_24_code 12 = .ok (.lload_n 0, 1) := by decide +kernel
theorem d3_13 : decode jdk_35_method_24_code 13 = .ok (.ldc2_w 232, 3) := by decide +kernel
theorem d3_16 : decode jdk_35_method_24_code 16 = .ok (.lcmp, 1) := by decide +kernel
theorem d3_17 : decode jdk_35_method_24_code 17 = .ok (.ifCond .gt 14, 3) := by decide +kernel
theorem d3_20 : decode jdk_35_method_24_code 20 = .ok (.getstatic 234, 3) := by decide +kernel
theorem d3_23 : decode jdk_35_method_24_code 23 = .ok (.lload_n 0, 1) := by decide +kernel
theorem d3_24 : decode jdk_35_method_24_code 24 = .ok (.l2i, 1) := by decide +kernel
theorem d3_25 : decode jdk_35_method_24_code 25 = .ok (.sipush 128, 3) := by decide +kernel
theorem d3_28 : decode jdk_35_method_24_code 28 = .ok (.iadd, 1) := by decide +kernel
theorem d3_29 : decode jdk_35_method_24_code 29 = .ok (.aaload, 1) := by decide +kernel
theorem d3_30 : decode jdk_35_method_24_code 30 = .ok (.areturn, 1) := by decide +kernel
theorem d3_31 : decode jdk_35_method_24_code 31 = .ok (.new 1, 3) := by decide +kernel
theorem d3_34 : decode jdk_35_method_24_code 34 = .ok (.dup, 1) := by decide +kernel
theorem d3_35 : decode jdk_35_method_24_code 35 = .ok (.lload_n 0, 1) := by decide +kernel
theorem d3_36 : decode jdk_35_method_24_code 36 = .ok (.invokespecial 240, 3) := by decide +kernel
theorem d3_39 : decode jdk_35_method_24_code 39 = .ok (.areturn, 1) := by decide +kernel
theorem pn_3 : plainName "java/lang/Long" = true := by first | (simp [plainName, overriddenIn]; done) | decide +kernel
set_option maxRecDepth 65536 in
set_option maxHeartbeats 40000000 in
theorem rmBox (l : Launch) (Z : State) (a0 : Array Value) (hw : ∀ d ∈ tables_1, d.before a0 Z = true) (ws : List Jvm.Cond) (q1 : Int64) (wc : Addr) (cl : Cell) (h0 : Heap) (n0 : Nat) (O0 : Old Z n0 h0) (S_cache : Sta Z Z.heap "java/lang/Long$LongCache" "cache" "[Ljava/lang/Long;" (.ref wc)) (BX : Bxs Z wc cl "java/lang/Long" "J" 256 (fun j => (.long (j - 128).toInt64))) :
    Ctr l (⟨"java/lang/Long", "valueOf", "(J)Ljava/lang/Long;"⟩ : MethodName) jdk_35_method_24_code 3 (some (.object "java/lang/Long")) ws ({ frames := 3, cells := 1, slots := 1, locals := 39 } : Room) #[(.long q1)] Z h0 (fun v h L => (∃ r, v = some (.ref r) ∧ Exa Z h r "java/lang/Long" ∧ Fld Z h r "java/lang/Long" "value" "J" (.long q1)) ∧ Fr n0 L ∧ Keep h0 h []) := by
  have ef : ∀ m : MethodId, entryFrame m #[(.long q1)] 3 = mkF m 0 #[.val (.long q1), .second, .unset] [] := fun m => by first | (simp [entryFrame, mkF, argsToLocals, Value.category]; done) | rfl
  refine Ctr.of (plainFor_of_name pn_3) ?_
  intro p e s m below meth c s₁ hx hZ hby hml hown0 hnm hret hlk X0 e0
  have hown : s.vm.findClass "java/lang/Long" = some m.cls := hown0
  have N0 := Fr.nil n0
  refine Go.st (fun t k => castTop (ef m) k) ?_
  show Go p e below _ (s₁.setTop (mkF m 0 #[.val (.long q1), .second, .unset] []))
  refine Go.st (fun _ => XS.sipush X0.here hx rfl (hb hby d3_0)) ?_
  show Go p e below _ (s₁.setTop (mkF m 3 #[.val (.long q1), .second, .unset] [(.int (128 : Int32))]))
  refine Go.st (fun _ => XS.istoreN X0.here hx rfl (hb hby d3_3) rfl (l' := #[.val (.long q1), .second, .val (.int (128 : Int32))]) rfl) ?_
  show Go p e below _ (s₁.setTop (mkF m 4 #[.val (.long q1), .second, .val (.int (128 : Int32))] []))
  refine Go.st (fun _ => XS.lloadN X0.here hx rfl (hb hby d3_4) rfl) ?_
  show Go p e below _ (s₁.setTop (mkF m 5 #[.val (.long q1), .second, .val (.int (128 : Int32))] [(.long q1)]))
  refine Go.st (fun _ => X0.ldc2Long hx hown (mvT hZ (hw _ (List.mem_of_getElem? (i := 17) rfl))) (g := (mkF m 5 #[.val (.long q1), .second, .val (.int (128 : Int32))] [(.long q1)])) rfl (hb hby d3_5) _) ?_
  show Go p e below _ (s₁.setTop (mkF m 8 #[.val (.long q1), .second, .val (.int (128 : Int32))] [(.long (-128 : Int64)), (.long q1)]))
  refine Go.st (fun _ => XS.lcmp X0.here hx rfl (hb hby d3_8) rfl) ?_
  show Go p e below _ (s₁.setTop (mkF m 9 #[.val (.long q1), .second, .val (.int (128 : Int32))] [(.int (lcmpW q1 (-128 : Int64)))]))
  by_cases hc1 : q1 < (-128 : Int64)
  · refine Go.st (fun _ => XS.ifYes X0.here hx rfl (pc0 := 9) (pc' := 31) rfl (hb hby d3_9) rfl ((if0 _ _).trans (tlt ((lw_lt _ _).mpr hc1)).1) (by decide) (by decide)) ?_
    show Go p e below _ (s₁.setTop (mkF m 31 #[.val (.long q1), .second, .val (.int (128 : Int32))] []))
    obtain ⟨T2, h2, X2, e2, E2, A2, D2, -, st2⟩ := newO X0 hx hZ hown (hw _ (List.mem_of_getElem? (i := 31) rfl)) (hw _ (List.mem_of_getElem? (i := 32) rfl)) (hw _ (List.mem_of_getElem? (i := 15) rfl)) e0 (g := (mkF m 31 #[.val (.long q1), .second, .val (.int (128 : Int32))] [])) rfl (hb hby d3_31) (by decide) (by decide)
    obtain ⟨b2, g2⟩ : ∃ z, z = h0.size := ⟨_, rfl⟩
    rw [← g2] at A2 D2 st2
    refine Go.st st2 ?_
    have gn2 : n0 ≤ b2 := oldGe O0 g2
    have sz2 : h0.size ≤ b2 := Nat.le_trans (Keep.refl h0 []).1 (Nat.le_of_eq g2.symm)
    have O3 : Old Z n0 h2 := O0.ext E2
    have K4 : Keep h0 h2 [] := (Keep.refl h0 []).ext E2
    have F5 : Fld Z h2 b2 "java/lang/Long" "value" "J" (.long (0 : Int64)) := D2 (Or.inr (hw _ (List.mem_of_getElem? (i := 45) rfl))) (ty := .long) (by decide)
    show Go p e below _ (T2.setTop (mkF m 34 #[.val (.long q1), .second, .val (.int (128 : Int32))] [(.ref b2)]))
    refine Go.st (fun _ => XS.dup X2.here hx rfl (hb hby d3_34) rfl rfl) ?_
    show Go p e below _ (T2.setTop (mkF m 35 #[.val (.long q1), .second, .val (.int (128 : Int32))] [(.ref b2), (.ref b2)]))
    refine Go.st (fun _ => XS.lloadN X2.here hx rfl (hb hby d3_35) rfl) ?_
    show Go p e below _ (T2.setTop (mkF m 36 #[.val (.long q1), .second, .val (.int (128 : Int32))] [(.long q1), (.ref b2), (.ref b2)]))
    refine goInit X2 hx hZ (y := (⟨"java/lang/Long", "<init>", "(J)V"⟩ : MethodName)) rfl hown (hw _ (List.mem_of_getElem? (i := 33) rfl)) (hw _ (List.mem_of_getElem? (i := 34) rfl)) (hw _ (List.mem_of_getElem? (i := 15) rfl)) (hw _ (List.mem_of_getElem? (i := 36) rfl)) (by decide) (a := b2) (argsL := [(.long q1)]) (rest := [(.ref b2)]) e2 (rmBoxInit l Z a0 hw [] b2 q1 h2 n0 O3 A2 F5 gn2) 1 (by decide) (by decide) (by decide) (by decide) (mkF m 36 #[.val (.long q1), .second, .val (.int (128 : Int32))] [(.long q1), (.ref b2), (.ref b2)]) rfl (by rw [hml]; rfl) (lenOf pd_1 rfl) rfl (hb hby d3_36) (Nat.le_of_eq rfl) ?_
    intro v6 T6 L6 X6 hQ6
    obtain ⟨rfl, M6, K6, G6⟩ := hQ6
    have N6 := Fr.app N0 M6
    have O7 : Old Z n0 T6.heap := O3.keep K6 (allS gn2 all0)
    have K8 : Keep h0 T6.heap [] := K4.trans K6 (allS (Or.inr sz2) all0)
    have E_9 : Exa Z T6.heap b2 "java/lang/Long" := A2.keep K6
    show Go p e below _ (T6.setTop (mkF m 39 #[.val (.long q1), .second, .val (.int (128 : Int32))] [(.ref b2)]))
    exact goRetA X6 hx hlk hret rfl rfl rfl rfl (hb hby d3_39) (by decide) (by decide) ⟨⟨b2, rfl, E_9, G6⟩, N6, K8⟩
  · refine Go.st (fun _ => XS.ifNo X0.here hx rfl (hb hby d3_9) rfl ((if0 _ _).trans (flt (fun q => hc1 ((lw_lt _ _).mp q))).1)) ?_
    show Go p e below _ (s₁.setTop (mkF m 12 #[.val (.long q1), .second, .val (.int (128 : Int32))] []))
    refine Go.st (fun _ => XS.lloadN X0.here hx rfl (hb hby d3_12) rfl) ?_
    show Go p e below _ (s₁.setTop (mkF m 13 #[.val (.long q1), .second, .val (.int (128 : Int32))] [(.long q1)]))
    refine Go.st (fun _ => X0.ldc2Long hx hown (mvT hZ (hw _ (List.mem_of_getElem? (i := 18) rfl))) (g := (mkF m 13 #[.val (.long q1), .second, .val (.int (128 : Int32))] [(.long q1)])) rfl (hb hby d3_13) _) ?_
    show Go p e below _ (s₁.setTop (mkF m 16 #[.val (.long q1), .second, .val (.int (128 : Int32))] [(.long (127 : Int64)), (.long q1)]))
    refine Go.st (fun _ => XS.lcmp X0.here hx rfl (hb hby d3_16) rfl) ?_
    show Go p e below _ (s₁.setTop (mkF m 17 #[.val (.long q1), .second, .val (.int (128 : Int32))] [(.int (lcmpW q1 (127 : Int64)))]))
    by_cases hc10 : (127 : Int64) < q1
    · refine Go.st (fun _ => XS.ifYes X0.here hx rfl (pc0 := 17) (pc' := 31) rfl (hb hby d3_17) rfl ((if0 _ _).trans (tlt ((lw_gt _ _).mpr hc10)).2.2.1) (by decide) (by decide)) ?_
      show Go p e below _ (s₁.setTop (mkF m 31 #[.val (.long q1), .second, .val (.int (128 : Int32))] []))
      obtain ⟨T11, h11, X11, e11, E11, A11, D11, -, st11⟩ := newO X0 hx hZ hown (hw _ (List.mem_of_getElem? (i := 31) rfl)) (hw _ (List.mem_of_getElem? (i := 32) rfl)) (hw _ (List.mem_of_getElem? (i := 15) rfl)) e0 (g := (mkF m 31 #[.val (.long q1), .second, .val (.int (128 : Int32))] [])) rfl (hb hby d3_31) (by decide) (by decide)
      obtain ⟨b11, g11⟩ : ∃ z, z = h0.size := ⟨_, rfl⟩
      rw [← g11] at A11 D11 st11
      refine Go.st st11 ?_
      have gn11 : n0 ≤ b11 := oldGe O0 g11
      have sz11 : h0.size ≤ b11 := Nat.le_trans (Keep.refl h0 []).1 (Nat.le_of_eq g11.symm)
      have O12 : Old Z n0 h11 := O0.ext E11
      have K13 : Keep h0 h11 [] := (Keep.refl h0 []).ext E11
      have F14 : Fld Z h11 b11 "java/lang/Long" "value" "J" (.long (0 : Int64)) := D11 (Or.inr (hw _ (List.mem_of_getElem? (i := 45) rfl))) (ty := .long) (by decide)
      show Go p e below _ (T11.setTop (mkF m 34 #[.val (.long q1), .second, .val (.int (128 : Int32))] [(.ref b11)]))
      refine Go.st (fun _ => XS.dup X11.here hx rfl (hb hby d3_34) rfl rfl) ?_
      show Go p e below _ (T11.setTop (mkF m 35 #[.val (.long q1), .second, .val (.int (128 : Int32))] [(.ref b11), (.ref b11)]))
      refine Go.st (fun _ => XS.lloadN X11.here hx rfl (hb hby d3_35) rfl) ?_
      show Go p e below _ (T11.setTop (mkF m 36 #[.val (.long q1), .second, .val (.int (128 : Int32))] [(.long q1), (.ref b11), (.ref b11)]))
      refine goInit X11 hx hZ (y := (⟨"java/lang/Long", "<init>", "(J)V"⟩ : MethodName)) rfl hown (hw _ (List.mem_of_getElem? (i := 33) rfl)) (hw _ (List.mem_of_getElem? (i := 34) rfl)) (hw _ (List.mem_of_getElem? (i := 15) rfl)) (hw _ (List.mem_of_getElem? (i := 36) rfl)) (by decide) (a := b11) (argsL := [(.long q1)]) (rest := [(.ref b11)]) e11 (rmBoxInit l Z a0 hw [] b11 q1 h11 n0 O12 A11 F14 gn11) 1 (by decide) (by decide) (by decide) (by decide) (mkF m 36 #[.val (.long q1), .second, .val (.int (128 : Int32))] [(.long q1), (.ref b11), (.ref b11)]) rfl (by rw [hml]; rfl) (lenOf pd_1 rfl) rfl (hb hby d3_36) (Nat.le_of_eq rfl) ?_
      intro v15 T15 L15 X15 hQ15
      obtain ⟨rfl, M15, K15, G15⟩ := hQ15
      have N15 := Fr.app N0 M15
      have O16 : Old Z n0 T15.heap := O12.keep K15 (allS gn11 all0)
      have K17 : Keep h0 T15.heap [] := K13.trans K15 (allS (Or.inr sz11) all0)
      have E_18 : Exa Z T15.heap b11 "java/lang/Long" := A11.keep K15
      show Go p e below _ (T15.setTop (mkF m 39 #[.val (.long q1), .second, .val (.int (128 : Int32))] [(.ref b11)]))
      exact goRetA X15 hx hlk hret rfl rfl rfl rfl (hb hby d3_39) (by decide) (by decide) ⟨⟨b11, rfl, E_18, G15⟩, N15, K17⟩
    · refine Go.st (fun _ => XS.ifNo X0.here hx rfl (hb hby d3_17) rfl ((if0 _ _).trans (flt (fun q => hc10 ((lw_gt _ _).mp q))).2.2.1)) ?_
      show Go p e below _ (s₁.setTop (mkF m 20 #[.val (.long q1), .second, .val (.int (128 : Int32))] []))
      obtain ⟨T19, X19, e19, st19⟩ := getS2 X0 hx hZ hown (host := "") (Or.inl (hw _ (List.mem_of_getElem? (i := 19) rfl))) Via.refl e0 (oldSta O0 S_cache) (g := (mkF m 20 #[.val (.long q1), .second, .val (.int (128 : Int32))] [])) rfl (hb hby d3_20)
      refine Go.st st19 ?_
      show Go p e below _ (T19.setTop (mkF m 23 #[.val (.long q1), .second, .val (.int (128 : Int32))] [(.ref wc)]))
      refine Go.st (fun _ => XS.lloadN X19.here hx rfl (hb hby d3_23) rfl) ?_
      show Go p e below _ (T19.setTop (mkF m 24 #[.val (.long q1), .second, .val (.int (128 : Int32))] [(.long q1), (.ref wc)]))
      refine Go.st (fun _ => XS.l2i X19.here hx rfl (hb hby d3_24) rfl) ?_
      show Go p e below _ (T19.setTop (mkF m 25 #[.val (.long q1), .second, .val (.int (128 : Int32))] [(.int (q1.toInt32)), (.ref wc)]))
      refine Go.st (fun _ => XS.sipush X19.here hx rfl (hb hby d3_25)) ?_
      show Go p e below _ (T19.setTop (mkF m 28 #[.val (.long q1), .second, .val (.int (128 : Int32))] [(.int (128 : Int32)), (.int (q1.toInt32)), (.ref wc)]))
      refine Go.st (fun _ => XS.iadd X19.here hx rfl (hb hby d3_28) rfl) ?_
      show Go p e below _ (T19.setTop (mkF m 29 #[.val (.long q1), .second, .val (.int (128 : Int32))] [(.int ((q1.toInt32) + (128 : Int32))), (.ref wc)]))
      obtain ⟨hin, r, hat, Er, Fr0⟩ := ownBxJ BX hc1 hc10
      have Er1 := oldExa O0 Er
      have Fr1 := oldFld O0 Fr0
      refine Go.st (fun _ => X19.aaload hx (j := ((q1.toInt32) + (128 : Int32))) (v := .ref r) (by rw [e19]; exact (BX.1.ext O0.2).1) (State.isArrayOf_alike hZ.alike BX.1.2.1) rfl BX.1.2.2 hin hat (g := (mkF m 29 #[.val (.long q1), .second, .val (.int (128 : Int32))] [(.int ((q1.toInt32) + (128 : Int32))), (.ref wc)])) rfl rfl (hb hby d3_29) _) ?_
      show Go p e below _ (T19.setTop (mkF m 30 #[.val (.long q1), .second, .val (.int (128 : Int32))] [(.ref r)]))
      exact goRetA X19 hx hlk hret rfl rfl rfl e19 (hb hby d3_30) (by decide) (by decide) ⟨⟨r, rfl, Er1, Fr1⟩, N0, (Keep.refl h0 [])⟩
theorem d1_0 : decode prog_18_method_1_code 0 = .ok (.aload_n 0, 1) := by decide +kernel
theorem d1_1 : decode prog_18_method_1_code 1 = .ok (.invokespecial 1, 3) := by decide +kernel
theorem d1_4 : decode prog_18_method_1_code 4 = .ok (.aload_n 0, 1) := by decide +kernel
theorem d1_5 : decode prog_18_method_1_code 5 = .ok (.lload_n 1, 1) := by decide +kernel
theorem d1_6 : decode prog_18_method_1_code 6 = .ok (.putfield 7, 3) := by decide +kernel
theorem d1_9 : decode prog_18_method_1_code 9 = .ok (.aload_n 0, 1) := by decide +kernel
theorem d1_10 : decode prog_18_method_1_code 10 = .ok (.lload_n 3, 1) := by decide +kernel
theorem d1_11 : decode prog_18_method_1_code 11 = .ok (.putfield 13, 3) := by decide +kernel
theorem d1_14 : decode prog_18_method_1_code 14 = .ok (.return_, 1) := by decide +kernel
theorem pn_1 : plainName "com/example/oghma/oghma/cli/ServerHome$ProcessIdentity" = true := by first | (simp [plainName, overriddenIn]; done) | decide +kernel
set_option maxRecDepth 65536 in
set_option maxHeartbeats 40000000 in
theorem rm1 (l : Launch) (Z : State) (a0 : Array Value) (hw : ∀ d ∈ tables_1, d.before a0 Z = true) (ws : List Jvm.Cond) (a1 : Addr) (q2 q3 : Int64) (h0 : Heap) (n0 : Nat) (O0 : Old Z n0 h0) (A1 : Exa Z h0 a1 "com/example/oghma/oghma/cli/ServerHome$ProcessIdentity") (F1 : Fld Z h0 a1 "com/example/oghma/oghma/cli/ServerHome$ProcessIdentity" "pid" "J" (.long (0 : Int64))) (F2 : Fld Z h0 a1 "com/example/oghma/oghma/cli/ServerHome$ProcessIdentity" "startTime" "J" (.long (0 : Int64))) (g1 : n0 ≤ a1) :
    Ctr l (⟨"com/example/oghma/oghma/cli/ServerHome$ProcessIdentity", "<init>", "(JJ)V"⟩ : MethodName) prog_18_method_1_code 5 none ws ({ frames := 1, cells := 0, slots := 0, locals := 12 } : Room) #[(.ref a1), (.long q2), (.long q3)] Z h0 (fun v h L => v = none ∧ Fr n0 L ∧ Keep h0 h [a1] ∧ Fld Z h a1 "com/example/oghma/oghma/cli/ServerHome$ProcessIdentity" "pid" "J" (.long q2) ∧ Fld Z h a1 "com/example/oghma/oghma/cli/ServerHome$ProcessIdentity" "startTime" "J" (.long q3)) := by
  have ef : ∀ m : MethodId, entryFrame m #[(.ref a1), (.long q2), (.long q3)] 5 = mkF m 0 #[.val (.ref a1), .val (.long q2), .second, .val (.long q3), .second] [] := fun m => by first | (simp [entryFrame, mkF, argsToLocals, Value.category]; done) | rfl
  refine Ctr.of (plainFor_of_name pn_1) ?_
  intro p e s m below meth c s₁ hx hZ hby hml hown0 hnm hret hlk X0 e0
  have hown : s.vm.findClass "com/example/oghma/oghma/cli/ServerHome$ProcessIdentity" = some m.cls := hown0
  have N0 := Fr.nil n0
  refine Go.st (fun t k => castTop (ef m) k) ?_
  show Go p e below _ (s₁.setTop (mkF m 0 #[.val (.ref a1), .val (.long q2), .second, .val (.long q3), .second] []))
  refine Go.st (fun _ => XS.aloadN X0.here hx rfl (hb hby d1_0) rfl rfl) ?_
  show Go p e below _ (s₁.setTop (mkF m 1 #[.val (.ref a1), .val (.long q2), .second, .val (.long q3), .second] [(.ref a1)]))
  obtain ⟨T1, X1, e1, st1⟩ := initO X0 hx hZ hown (hw _ (List.mem_of_getElem? (i := 6) rfl)) (hw _ (List.mem_of_getElem? (i := 7) rfl)) (hw _ (List.mem_of_getElem? (i := 8) rfl)) e0 (g := (mkF m 1 #[.val (.ref a1), .val (.long q2), .second, .val (.long q3), .second] [(.ref a1)])) rfl (by rw [hml]; rfl) rfl (hb hby d1_1) (by decide) (W := 0) (by show 2 * 0 + _ ≤ _; exact Nat.le_of_eq rfl) (by decide)
  refine Go.st st1 ?_
  show Go p e below _ (T1.setTop (mkF m 4 #[.val (.ref a1), .val (.long q2), .second, .val (.long q3), .second] []))
  refine Go.st (fun _ => XS.aloadN X1.here hx rfl (hb hby d1_4) rfl rfl) ?_
  show Go p e below _ (T1.setTop (mkF m 5 #[.val (.ref a1), .val (.long q2), .second, .val (.long q3), .second] [(.ref a1)]))
  refine Go.st (fun _ => XS.lloadN X1.here hx rfl (hb hby d1_5) rfl) ?_
  show Go p e below _ (T1.setTop (mkF m 6 #[.val (.ref a1), .val (.long q2), .second, .val (.long q3), .second] [(.long q2), (.ref a1)]))
  obtain ⟨T2, h2, X2, e2, W2, st2⟩ := putF X1 hx hZ hown (host := "") (Or.inl (hw _ (List.mem_of_getElem? (i := 9) rfl))) Via.refl e1 F1 A1 (Or.inr ⟨(hw _ (List.mem_of_getElem? (i := 10) rfl)), rfl, hnm⟩) (hw _ (List.mem_of_getElem? (i := 1) rfl)) (ty := .long) (by decide) rfl rfl (g := (mkF m 6 #[.val (.ref a1), .val (.long q2), .second, .val (.long q3), .second] [(.long q2), (.ref a1)])) rfl rfl (hb hby d1_6)
  refine Go.st st2 ?_
  have O3 : Old Z n0 h2 := O0.wr W2 g1
  have E_4 : Exa Z h2 a1 "com/example/oghma/oghma/cli/ServerHome$ProcessIdentity" := A1.wr W2
  have F5 : Fld Z h2 a1 "com/example/oghma/oghma/cli/ServerHome$ProcessIdentity" "startTime" "J" (.long (0 : Int64)) := F2.other W2 (Or.inr (slot_ne (Or.inr (hw _ (List.mem_of_getElem? (i := 12) rfl))) (Or.inr (hw _ (List.mem_of_getElem? (i := 10) rfl))) (by decide) (t := .long) (t' := .long) (by decide) (by decide)))
  have K6 : Keep h0 h2 [a1] := (Keep.refl h0 [a1]).wr W2 (Or.inl (List.mem_of_getElem? (i := 0) rfl))
  have F7 : Fld Z h2 a1 "com/example/oghma/oghma/cli/ServerHome$ProcessIdentity" "pid" "J" (.long q2) := F1.same W2
  have N2 := Fr.snoc X2 N0 g1
  show Go p e below _ (T2.setTop (mkF m 9 #[.val (.ref a1), .val (.long q2), .second, .val (.long q3), .second] []))
  refine Go.st (fun _ => XS.aloadN X2.here hx rfl (hb hby d1_9) rfl rfl) ?_
  show Go p e below _ (T2.setTop (mkF m 10 #[.val (.ref a1), .val (.long q2), .second, .val (.long q3), .second] [(.ref a1)]))
  refine Go.st (fun _ => XS.lloadN X2.here hx rfl (hb hby d1_10) rfl) ?_
  show Go p e below _ (T2.setTop (mkF m 11 #[.val (.ref a1), .val (.long q2), .second, .val (.long q3), .second] [(.long q3), (.ref a1)]))
  obtain ⟨T8, h8, X8, e8, W8, st8⟩ := putF X2 hx hZ hown (host := "") (Or.inl (hw _ (List.mem_of_getElem? (i := 11) rfl))) Via.refl e2 F5 E_4 (Or.inr ⟨(hw _ (List.mem_of_getElem? (i := 12) rfl)), rfl, hnm⟩) (hw _ (List.mem_of_getElem? (i := 1) rfl)) (ty := .long) (by decide) rfl rfl (g := (mkF m 11 #[.val (.ref a1), .val (.long q2), .second, .val (.long q3), .second] [(.long q3), (.ref a1)])) rfl rfl (hb hby d1_11)
  refine Go.st st8 ?_
  have O9 : Old Z n0 h8 := O3.wr W8 g1
  have E_10 : Exa Z h8 a1 "com/example/oghma/oghma/cli/ServerHome$ProcessIdentity" := E_4.wr W8
  have K11 : Keep h0 h8 [a1] := K6.wr W8 (Or.inl (List.mem_of_getElem? (i := 0) rfl))
  have F12 : Fld Z h8 a1 "com/example/oghma/oghma/cli/ServerHome$ProcessIdentity" "pid" "J" (.long q2) := F7.other W8 (Or.inr (slot_ne (Or.inr (hw _ (List.mem_of_getElem? (i := 10) rfl))) (Or.inr (hw _ (List.mem_of_getElem? (i := 12) rfl))) (by decide) (t := .long) (t' := .long) (by decide) (by decide)))
  have F13 : Fld Z h8 a1 "com/example/oghma/oghma/cli/ServerHome$ProcessIdentity" "startTime" "J" (.long q3) := F5.same W8
  have N8 := Fr.snoc X8 N2 g1
  show Go p e below _ (T8.setTop (mkF m 14 #[.val (.ref a1), .val (.long q2), .second, .val (.long q3), .second] []))
  exact goRetV X8 hx hlk hret e8 (hb hby d1_14) (by decide) (by decide) ⟨rfl, N8, K11, F12, F13⟩
theorem d4_0 : decode prog_18_method_5_code 0 = .ok (.aload_n 1, 1) := by decide +kernel
theorem d4_1 : decode prog_18_method_5_code 1 = .ok (.instanceof 8, 3) := by decide +kernel
theorem d4_4 : decode prog_18_method_5_code 4 = .ok (.ifCond .eq 36, 3) := by decide +kernel
theorem d4_7 : decode prog_18_method_5_code 7 = .ok (.aload_n 1, 1) := by decide +kernel
theorem d4_8 : decode prog_18_method_5_code 8 = .ok (.checkcast 8, 3) := by decide +kernel
theorem d4_11 : decode prog_18_method_5_code 11 = .ok (.astore_n 2, 1) := by decide +kernel
theorem d4_12 : decode prog_18_method_5_code 12 = .ok (.aload_n 0, 1) := by decide +kernel
theorem d4_13 : decode prog_18_method_5_code 13 = .ok (.getfield 7, 3) := by decide +kernel
theorem d4_16 : decode prog_18_method_5_code 16 = .ok (.aload_n 2, 1) := by decide +kernel
theorem d4_17 : decode prog_18_method_5_code 17 = .ok (.getfield 7, 3) := by decide +kernel
theorem d4_20 : decode prog_18_method_5_code 20 = .ok (.lcmp, 1) := by decide +kernel
theorem d4_21 : decode prog_18_method_5_code 21 = .ok (.ifCond .ne 19, 3) := by decide +kernel
theorem d4_24 : decode prog_18_method_5_code 24 = .ok (.aload_n 0, 1) := by decide +kernel
theorem d4_25 : decode prog_18_method_5_code 25 = .ok (.getfield 13, 3) := by decide +kernel
theorem d4_28 : decode prog_18_method_5_code 28 = .ok (.aload_n 2, 1) := by decide +kernel
theorem d4_29 : decode prog_18_method_5_code 29 = .ok (.getfield 13, 3) := by decide +kernel
theorem d4_32 : decode prog_18_method_5_code 32 = .ok (.lcmp, 1) := by decide +kernel
theorem d4_33 : decode prog_18_method_5_code 33 = .ok (.ifCond .ne 7, 3) := by decide +kernel
theorem d4_36 : decode prog_18_method_5_code 36 = .ok (.iconst 1, 1) := by decide +kernel
theorem d4_37 : decode prog_18_method_5_code 37 = .ok (.goto 4, 3) := by decide +kernel
theorem d4_40 : decode prog_18_method_5_code 40 = .ok (.iconst 0, 1) := by decide +kernel
theorem d4_41 : decode prog_18_method_5_code 41 = .ok (.ireturn, 1) := by decide +kernel
theorem pn_4 : plainName "com/example/oghma/oghma/cli/ServerHome$ProcessIdentity" = true := by first | (simp [plainName, overriddenIn]; done) | decide +kernel
set_option maxRecDepth 65536 in
set_option maxHeartbeats 40000000 in
theorem rm2 (l : Launch) (Z : State) (a0 : Array Value) (hw : ∀ d ∈ tables_1, d.before a0 Z = true) (ws : List Jvm.Cond) (a1 a2 : Addr) (q1 q2 q3 q4 : Int64) (h0 : Heap) (n0 : Nat) (O0 : Old Z n0 h0) (A2 : Exa Z h0 a2 "com/example/oghma/oghma/cli/ServerHome$ProcessIdentity") (F1 : Fld Z h0 a1 "com/example/oghma/oghma/cli/ServerHome$ProcessIdentity" "pid" "J" (.long q1)) (F2 : Fld Z h0 a1 "com/example/oghma/oghma/cli/ServerHome$ProcessIdentity" "startTime" "J" (.long q2)) (F3 : Fld Z h0 a2 "com/example/oghma/oghma/cli/ServerHome$ProcessIdentity" "pid" "J" (.long q3)) (F4 : Fld Z h0 a2 "com/example/oghma/oghma/cli/ServerHome$ProcessIdentity" "startTime" "J" (.long q4)) :
    Ctr l (⟨"com/example/oghma/oghma/cli/ServerHome$ProcessIdentity", "equals", "(Ljava/lang/Object;)Z"⟩ : MethodName) prog_18_method_5_code 3 (some .boolean) ws ({ frames := 0, cells := 0, slots := 0, locals := 0 } : Room) #[(.ref a1), (.ref a2)] Z h0 (fun v h L => v = some (.int (if q1 = q3 ∧ q2 = q4 then 1 else 0)) ∧ Fr n0 L ∧ h = h0) := by
  have ef : ∀ m : MethodId, entryFrame m #[(.ref a1), (.ref a2)] 3 = mkF m 0 #[.val (.ref a1), .val (.ref a2), .unset] [] := fun m => by first | (simp [entryFrame, mkF, argsToLocals, Value.category]; done) | rfl
  refine Ctr.of (plainFor_of_name pn_4) ?_
  intro p e s m below meth c s₁ hx hZ hby hml hown0 hnm hret hlk X0 e0
  have hown : s.vm.findClass "com/example/oghma/oghma/cli/ServerHome$ProcessIdentity" = some m.cls := hown0
  have N0 := Fr.nil n0
  refine Go.st (fun t k => castTop (ef m) k) ?_
  show Go p e below _ (s₁.setTop (mkF m 0 #[.val (.ref a1), .val (.ref a2), .unset] []))
  refine Go.st (fun _ => XS.aloadN X0.here hx rfl (hb hby d4_0) rfl rfl) ?_
  show Go p e below _ (s₁.setTop (mkF m 1 #[.val (.ref a1), .val (.ref a2), .unset] [(.ref a2)]))
  obtain ⟨T1, X1, e1, st1⟩ := instY X0 hx hZ hown (hw _ (List.mem_of_getElem? (i := 26) rfl)) e0 (Ins.self A2) (g := (mkF m 1 #[.val (.ref a1), .val (.ref a2), .unset] [(.ref a2)])) rfl rfl (hb hby d4_1)
  refine Go.st st1 ?_
  show Go p e below _ (T1.setTop (mkF m 4 #[.val (.ref a1), .val (.ref a2), .unset] [(.int (1 : Int32))]))
  refine Go.st (fun _ => XS.ifNo X1.here hx rfl (hb hby d4_4) rfl ((if0 _ _).trans (feq (by decide : ¬ ((1 : Int32) = (0 : Int32)))).1)) ?_
  show Go p e below _ (T1.setTop (mkF m 7 #[.val (.ref a1), .val (.ref a2), .unset] []))
  refine Go.st (fun _ => XS.aloadN X1.here hx rfl (hb hby d4_7) rfl rfl) ?_
  show Go p e below _ (T1.setTop (mkF m 8 #[.val (.ref a1), .val (.ref a2), .unset] [(.ref a2)]))
  obtain ⟨T2, X2, e2, st2⟩ := castY X1 hx hZ hown (hw _ (List.mem_of_getElem? (i := 26) rfl)) e1 (Ins.self A2) (g := (mkF m 8 #[.val (.ref a1), .val (.ref a2), .unset] [(.ref a2)])) rfl rfl (hb hby d4_8)
  refine Go.st st2 ?_
  show Go p e below _ (T2.setTop (mkF m 11 #[.val (.ref a1), .val (.ref a2), .unset] [(.ref a2)]))
  refine Go.st (fun _ => XS.astoreN X2.here hx rfl (hb hby d4_11) rfl rfl (l' := #[.val (.ref a1), .val (.ref a2), .val (.ref a2)]) rfl) ?_
  show Go p e below _ (T2.setTop (mkF m 12 #[.val (.ref a1), .val (.ref a2), .val (.ref a2)] []))
  refine Go.st (fun _ => XS.aloadN X2.here hx rfl (hb hby d4_12) rfl rfl) ?_
  show Go p e below _ (T2.setTop (mkF m 13 #[.val (.ref a1), .val (.ref a2), .val (.ref a2)] [(.ref a1)]))
  obtain ⟨T3, X3, e3, st3⟩ := getF X2 hx hZ hown (host := "") (Or.inl (hw _ (List.mem_of_getElem? (i := 9) rfl))) Via.refl e2 F1 (g := (mkF m 13 #[.val (.ref a1), .val (.ref a2), .val (.ref a2)] [(.ref a1)])) rfl rfl (hb hby d4_13)
  refine Go.st st3 ?_
  show Go p e below _ (T3.setTop (mkF m 16 #[.val (.ref a1), .val (.ref a2), .val (.ref a2)] [(.long q1)]))
  refine Go.st (fun _ => XS.aloadN X3.here hx rfl (hb hby d4_16) rfl rfl) ?_
  show Go p e below _ (T3.setTop (mkF m 17 #[.val (.ref a1), .val (.ref a2), .val (.ref a2)] [(.ref a2), (.long q1)]))
  obtain ⟨T4, X4, e4, st4⟩ := getF X3 hx hZ hown (host := "") (Or.inl (hw _ (List.mem_of_getElem? (i := 9) rfl))) Via.refl e3 F3 (g := (mkF m 17 #[.val (.ref a1), .val (.ref a2), .val (.ref a2)] [(.ref a2), (.long q1)])) rfl rfl (hb hby d4_17)
  refine Go.st st4 ?_
  show Go p e below _ (T4.setTop (mkF m 20 #[.val (.ref a1), .val (.ref a2), .val (.ref a2)] [(.long q3), (.long q1)]))
  refine Go.st (fun _ => XS.lcmp X4.here hx rfl (hb hby d4_20) rfl) ?_
  show Go p e below _ (T4.setTop (mkF m 21 #[.val (.ref a1), .val (.ref a2), .val (.ref a2)] [(.int (lcmpW q1 q3))]))
  by_cases hc5 : q1 = q3
  · refine Go.st (fun _ => XS.ifNo X4.here hx rfl (hb hby d4_21) rfl ((if0 _ _).trans (teq ((lw_eq _ _).mpr hc5)).2)) ?_
    show Go p e below _ (T4.setTop (mkF m 24 #[.val (.ref a1), .val (.ref a2), .val (.ref a2)] []))
    refine Go.st (fun _ => XS.aloadN X4.here hx rfl (hb hby d4_24) rfl rfl) ?_
    show Go p e below _ (T4.setTop (mkF m 25 #[.val (.ref a1), .val (.ref a2), .val (.ref a2)] [(.ref a1)]))
    obtain ⟨T6, X6, e6, st6⟩ := getF X4 hx hZ hown (host := "") (Or.inl (hw _ (List.mem_of_getElem? (i := 11) rfl))) Via.refl e4 F2 (g := (mkF m 25 #[.val (.ref a1), .val (.ref a2), .val (.ref a2)] [(.ref a1)])) rfl rfl (hb hby d4_25)
    refine Go.st st6 ?_
    show Go p e below _ (T6.setTop (mkF m 28 #[.val (.ref a1), .val (.ref a2), .val (.ref a2)] [(.long q2)]))
    refine Go.st (fun _ => XS.aloadN X6.here hx rfl (hb hby d4_28) rfl rfl) ?_
    show Go p e below _ (T6.setTop (mkF m 29 #[.val (.ref a1), .val (.ref a2), .val (.ref a2)] [(.ref a2), (.long q2)]))
    obtain ⟨T7, X7, e7, st7⟩ := getF X6 hx hZ hown (host := "") (Or.inl (hw _ (List.mem_of_getElem? (i := 11) rfl))) Via.refl e6 F4 (g := (mkF m 29 #[.val (.ref a1), .val (.ref a2), .val (.ref a2)] [(.ref a2), (.long q2)])) rfl rfl (hb hby d4_29)
    refine Go.st st7 ?_
    show Go p e below _ (T7.setTop (mkF m 32 #[.val (.ref a1), .val (.ref a2), .val (.ref a2)] [(.long q4), (.long q2)]))
    refine Go.st (fun _ => XS.lcmp X7.here hx rfl (hb hby d4_32) rfl) ?_
    show Go p e below _ (T7.setTop (mkF m 33 #[.val (.ref a1), .val (.ref a2), .val (.ref a2)] [(.int (lcmpW q2 q4))]))
    by_cases hc8 : q2 = q4
    · refine Go.st (fun _ => XS.ifNo X7.here hx rfl (hb hby d4_33) rfl ((if0 _ _).trans (teq ((lw_eq _ _).mpr hc8)).2)) ?_
      show Go p e below _ (T7.setTop (mkF m 36 #[.val (.ref a1), .val (.ref a2), .val (.ref a2)] []))
      refine Go.st (fun _ => XS.iconst X7.here hx rfl (hb hby d4_36)) ?_
      show Go p e below _ (T7.setTop (mkF m 37 #[.val (.ref a1), .val (.ref a2), .val (.ref a2)] [(.int (1 : Int32))]))
      refine Go.st (fun _ => XS.goto X7.here hx rfl (pc0 := 37) (pc' := 41) rfl (hb hby d4_37) (by decide) (by decide)) ?_
      show Go p e below _ (T7.setTop (mkF m 41 #[.val (.ref a1), .val (.ref a2), .val (.ref a2)] [(.int (1 : Int32))]))
      exact goRetN X7 hx hlk hret (t := .boolean) (by simp) (w := (1 : Int32)) (by decide) e7 (hb hby d4_41) (by decide) (by decide) ⟨by simp [hc5, hc8], N0, rfl⟩
    · refine Go.st (fun _ => XS.ifYes X7.here hx rfl (pc0 := 33) (pc' := 40) rfl (hb hby d4_33) rfl ((if0 _ _).trans (feq (fun q => hc8 ((lw_eq _ _).mp q))).2) (by decide) (by decide)) ?_
      show Go p e below _ (T7.setTop (mkF m 40 #[.val (.ref a1), .val (.ref a2), .val (.ref a2)] []))
      refine Go.st (fun _ => XS.iconst X7.here hx rfl (hb hby d4_40)) ?_
      show Go p e below _ (T7.setTop (mkF m 41 #[.val (.ref a1), .val (.ref a2), .val (.ref a2)] [(.int (0 : Int32))]))
      exact goRetN X7 hx hlk hret (t := .boolean) (by simp) (w := (0 : Int32)) (by decide) e7 (hb hby d4_41) (by decide) (by decide) ⟨by simp [hc5, hc8], N0, rfl⟩
  · refine Go.st (fun _ => XS.ifYes X4.here hx rfl (pc0 := 21) (pc' := 40) rfl (hb hby d4_21) rfl ((if0 _ _).trans (feq (fun q => hc5 ((lw_eq _ _).mp q))).2) (by decide) (by decide)) ?_
    show Go p e below _ (T4.setTop (mkF m 40 #[.val (.ref a1), .val (.ref a2), .val (.ref a2)] []))
    refine Go.st (fun _ => XS.iconst X4.here hx rfl (hb hby d4_40)) ?_
    show Go p e below _ (T4.setTop (mkF m 41 #[.val (.ref a1), .val (.ref a2), .val (.ref a2)] [(.int (0 : Int32))]))
    exact goRetN X4 hx hlk hret (t := .boolean) (by simp) (w := (0 : Int32)) (by decide) e4 (hb hby d4_41) (by decide) (by decide) ⟨by simp [hc5], N0, rfl⟩
set_option maxRecDepth 65536 in
set_option maxHeartbeats 40000000 in
theorem rm3 (l : Launch) (Z : State) (a0 : Array Value) (hw : ∀ d ∈ tables_1, d.before a0 Z = true) (ws : List Jvm.Cond) (a1 : Addr) (h0 : Heap) (n0 : Nat) (O0 : Old Z n0 h0) :
    Ctr l (⟨"com/example/oghma/oghma/cli/ServerHome$ProcessIdentity", "equals", "(Ljava/lang/Object;)Z"⟩ : MethodName) prog_18_method_5_code 3 (some .boolean) ws ({ frames := 0, cells := 0, slots := 0, locals := 0 } : Room) #[(.ref a1), .null] Z h0 (fun v h L => v = some (.int 0) ∧ Fr n0 L ∧ h = h0) := by
  have ef : ∀ m : MethodId, entryFrame m #[(.ref a1), .null] 3 = mkF m 0 #[.val (.ref a1), .val .null, .unset] [] := fun m => by first | (simp [entryFrame, mkF, argsToLocals, Value.category]; done) | rfl
  refine Ctr.of (plainFor_of_name pn_4) ?_
  intro p e s m below meth c s₁ hx hZ hby hml hown0 hnm hret hlk X0 e0
  have hown : s.vm.findClass "com/example/oghma/oghma/cli/ServerHome$ProcessIdentity" = some m.cls := hown0
  have N0 := Fr.nil n0
  refine Go.st (fun t k => castTop (ef m) k) ?_
  show Go p e below _ (s₁.setTop (mkF m 0 #[.val (.ref a1), .val .null, .unset] []))
  refine Go.st (fun _ => XS.aloadN X0.here hx rfl (hb hby d4_0) rfl rfl) ?_
  show Go p e below _ (s₁.setTop (mkF m 1 #[.val (.ref a1), .val .null, .unset] [.null]))
  refine Go.st (fun _ => X0.instanceofNull hx (g := (mkF m 1 #[.val (.ref a1), .val .null, .unset] [.null])) rfl rfl (hb hby d4_1) _) ?_
  show Go p e below _ (s₁.setTop (mkF m 4 #[.val (.ref a1), .val .null, .unset] [(.int (0 : Int32))]))
  refine Go.st (fun _ => XS.ifYes X0.here hx rfl (pc0 := 4) (pc' := 40) rfl (hb hby d4_4) rfl ((if0 _ _).trans (teq (by decide : (0 : Int32) = (0 : Int32))).1) (by decide) (by decide)) ?_
  show Go p e below _ (s₁.setTop (mkF m 40 #[.val (.ref a1), .val .null, .unset] []))
  refine Go.st (fun _ => XS.iconst X0.here hx rfl (hb hby d4_40)) ?_
  show Go p e below _ (s₁.setTop (mkF m 41 #[.val (.ref a1), .val .null, .unset] [(.int (0 : Int32))]))
  exact goRetN X0 hx hlk hret (t := .boolean) (by simp) (w := (0 : Int32)) (by decide) e0 (hb hby d4_41) (by decide) (by decide) ⟨rfl, N0, rfl⟩
set_option maxRecDepth 65536 in
set_option maxHeartbeats 40000000 in
theorem rm4 (l : Launch) (Z : State) (a0 : Array Value) (hw : ∀ d ∈ tables_1, d.before a0 Z = true) (ws : List Jvm.Cond) (a1 a2 : Addr) (h0 : Heap) (n0 : Nat) (O0 : Old Z n0 h0) (A2 : Exa Z h0 a2 "java/lang/Long") :
    Ctr l (⟨"com/example/oghma/oghma/cli/ServerHome$ProcessIdentity", "equals", "(Ljava/lang/Object;)Z"⟩ : MethodName) prog_18_method_5_code 3 (some .boolean) ws ({ frames := 0, cells := 0, slots := 0, locals := 0 } : Room) #[(.ref a1), (.ref a2)] Z h0 (fun v h L => v = some (.int 0) ∧ Fr n0 L ∧ h = h0) := by
  have ef : ∀ m : MethodId, entryFrame m #[(.ref a1), (.ref a2)] 3 = mkF m 0 #[.val (.ref a1), .val (.ref a2), .unset] [] := fun m => by first | (simp [entryFrame, mkF, argsToLocals, Value.category]; done) | rfl
  refine Ctr.of (plainFor_of_name pn_4) ?_
  intro p e s m below meth c s₁ hx hZ hby hml hown0 hnm hret hlk X0 e0
  have hown : s.vm.findClass "com/example/oghma/oghma/cli/ServerHome$ProcessIdentity" = some m.cls := hown0
  have N0 := Fr.nil n0
  refine Go.st (fun t k => castTop (ef m) k) ?_
  show Go p e below _ (s₁.setTop (mkF m 0 #[.val (.ref a1), .val (.ref a2), .unset] []))
  refine Go.st (fun _ => XS.aloadN X0.here hx rfl (hb hby d4_0) rfl rfl) ?_
  show Go p e below _ (s₁.setTop (mkF m 1 #[.val (.ref a1), .val (.ref a2), .unset] [(.ref a2)]))
  obtain ⟨T1, X1, e1, st1⟩ := instNo X0 hx hZ hown (hw _ (List.mem_of_getElem? (i := 26) rfl)) e0 A2 (nsNo (hw _ (List.mem_of_getElem? (i := 28) rfl)) (hw _ (List.mem_of_getElem? (i := 1) rfl)) (NS.step (hw _ (List.mem_of_getElem? (i := 28) rfl)) (NS.step (hw _ (List.mem_of_getElem? (i := 29) rfl)) (nsRoot (hw _ (List.mem_of_getElem? (i := 30) rfl)) (hw _ (List.mem_of_getElem? (i := 1) rfl)) (by decide)) (by decide)) (by decide)) (by decide)) (g := (mkF m 1 #[.val (.ref a1), .val (.ref a2), .unset] [(.ref a2)])) rfl rfl (hb hby d4_1)
  refine Go.st st1 ?_
  show Go p e below _ (T1.setTop (mkF m 4 #[.val (.ref a1), .val (.ref a2), .unset] [(.int (0 : Int32))]))
  refine Go.st (fun _ => XS.ifYes X1.here hx rfl (pc0 := 4) (pc' := 40) rfl (hb hby d4_4) rfl ((if0 _ _).trans (teq (by decide : (0 : Int32) = (0 : Int32))).1) (by decide) (by decide)) ?_
  show Go p e below _ (T1.setTop (mkF m 40 #[.val (.ref a1), .val (.ref a2), .unset] []))
  refine Go.st (fun _ => XS.iconst X1.here hx rfl (hb hby d4_40)) ?_
  show Go p e below _ (T1.setTop (mkF m 41 #[.val (.ref a1), .val (.ref a2), .unset] [(.int (0 : Int32))]))
  exact goRetN X1 hx hlk hret (t := .boolean) (by simp) (w := (0 : Int32)) (by decide) e1 (hb hby d4_41) (by decide) (by decide) ⟨rfl, N0, rfl⟩
theorem pn_0 : plainName "com/example/oghma/oghma/cli/ProcessIdentityEqualsPinLaw" = true := by first | (simp [plainName, overriddenIn]; done) | decide +kernel
set_option maxRecDepth 65536 in
set_option maxHeartbeats 40000000 in
theorem rm0 (l : Launch) (Z : State) (a0 : Array Value) (hw : ∀ d ∈ tables_1, d.before a0 Z = true) (ws : List Jvm.Cond) (q0 q1 q2 q3 : Int64) (p4 : Int32) (wc : Addr) (cl : Cell) (h0 : Heap) (n0 : Nat) (O0 : Old Z n0 h0) (S_cache : Sta Z Z.heap "java/lang/Long$LongCache" "cache" "[Ljava/lang/Long;" (.ref wc)) (BX : Bxs Z wc cl "java/lang/Long" "J" 256 (fun j => .long (j - 128).toInt64)) :
    Ctr l x code maxLocals ret ws room_1 #[(.long q0), (.long q1), (.long q2), (.long q3), (.int p4)] Z h0 (fun v h L => v = some (.int 1) ∧ Fr n0 L) := by
  have ef : ∀ m : MethodId, entryFrame m #[(.long q0), (.long q1), (.long q2), (.long q3), (.int p4)] 17 = mkF m 0 #[.val (.long q0), .second, .val (.long q1), .second, .val (.long q2), .second, .val (.long q3), .second, .val (.int p4), .unset, .unset, .unset, .unset, .unset, .unset, .unset, .unset] [] := fun m => by first | (simp [entryFrame, mkF, argsToLocals, Value.category]; done) | rfl
  refine Ctr.of (plainFor_of_name pn_0) ?_
  intro p e s m below meth c s₁ hx hZ hby hml hown0 hnm hret hlk X0 e0
  have hown : s.vm.findClass "com/example/oghma/oghma/cli/ProcessIdentityEqualsPinLaw" = some m.cls := hown0
  have N0 := Fr.nil n0
  refine Go.st (fun t k => castTop (ef m) k) ?_
  show Go p e below _ (s₁.setTop (mkF m 0 #[.val (.long q0), .second, .val (.long q1), .second, .val (.long q2), .second, .val (.long q3), .second, .val (.int p4), .unset, .unset, .unset, .unset, .unset, .unset, .unset, .unset] []))
  refine Go.st (fun _ => XS.iload X0.here hx rfl (hb hby at_0) rfl) ?_
  show Go p e below _ (s₁.setTop (mkF m 2 #[.val (.long q0), .second, .val (.long q1), .second, .val (.long q2), .second, .val (.long q3), .second, .val (.int p4), .unset, .unset, .unset, .unset, .unset, .unset, .unset, .unset] [(.int p4)]))
  refine Go.st (fun _ => XS.iconst X0.here hx rfl (hb hby at_2)) ?_
  show Go p e below _ (s₁.setTop (mkF m 3 #[.val (.long q0), .second, .val (.long q1), .second, .val (.long q2), .second, .val (.long q3), .second, .val (.int p4), .unset, .unset, .unset, .unset, .unset, .unset, .unset, .unset] [(.int (1 : Int32)), (.int p4)]))
  refine Go.st (fun _ => XS.iand X0.here hx rfl (hb hby at_3) rfl) ?_
  show Go p e below _ (s₁.setTop (mkF m 4 #[.val (.long q0), .second, .val (.long q1), .second, .val (.long q2), .second, .val (.long q3), .second, .val (.int p4), .unset, .unset, .unset, .unset, .unset, .unset, .unset, .unset] [(.int (p4 &&& (1 : Int32)))]))
  refine goJoin (P := fun z1 : Int64 => True) (F := fun z1 => s₁.setTop (mkF m 13 #[.val (.long q0), .second, .val (.long q1), .second, .val (.long q2), .second, .val (.long q3), .second, .val (.int p4), .unset, .unset, .unset, .unset, .unset, .unset, .unset, .unset] [(.long z1)])) (fun z1 hz1 => ?_) (fun J1 => ?_)
  · show Go p e below _ (s₁.setTop (mkF m 13 #[.val (.long q0), .second, .val (.long q1), .second, .val (.long q2), .second, .val (.long q3), .second, .val (.int p4), .unset, .unset, .unset, .unset, .unset, .unset, .unset, .unset] [(.long z1)]))
    refine Go.st (fun _ => XS.lstore X0.here hx rfl (hb hby at_13) rfl (l' := #[.val (.long q0), .second, .val (.long q1), .second, .val (.long q2), .second, .val (.long q3), .second, .val (.int p4), .val (.long z1), .second, .unset, .unset, .unset, .unset, .unset, .unset]) rfl) ?_
    show Go p e below _ (s₁.setTop (mkF m 15 #[.val (.long q0), .second, .val (.long q1), .second, .val (.long q2), .second, .val (.long q3), .second, .val (.int p4), .val (.long z1), .second, .unset, .unset, .unset, .unset, .unset, .unset] []))
    refine Go.st (fun _ => XS.iload X0.here hx rfl (hb hby at_15) rfl) ?_
    show Go p e below _ (s₁.setTop (mkF m 17 #[.val (.long q0), .second, .val (.long q1), .second, .val (.long q2), .second, .val (.long q3), .second, .val (.int p4), .val (.long z1), .second, .unset, .unset, .unset, .unset, .unset, .unset] [(.int p4)]))
    refine Go.st (fun _ => XS.iconst X0.here hx rfl (hb hby at_17)) ?_
    show Go p e below _ (s₁.setTop (mkF m 18 #[.val (.long q0), .second, .val (.long q1), .second, .val (.long q2), .second, .val (.long q3), .second, .val (.int p4), .val (.long z1), .second, .unset, .unset, .unset, .unset, .unset, .unset] [(.int (2 : Int32)), (.int p4)]))
    refine Go.st (fun _ => XS.iand X0.here hx rfl (hb hby at_18) rfl) ?_
    show Go p e below _ (s₁.setTop (mkF m 19 #[.val (.long q0), .second, .val (.long q1), .second, .val (.long q2), .second, .val (.long q3), .second, .val (.int p4), .val (.long z1), .second, .unset, .unset, .unset, .unset, .unset, .unset] [(.int (p4 &&& (2 : Int32)))]))
    refine goJoin (P := fun z2 : Int64 => True) (F := fun z2 => s₁.setTop (mkF m 28 #[.val (.long q0), .second, .val (.long q1), .second, .val (.long q2), .second, .val (.long q3), .second, .val (.int p4), .val (.long z1), .second, .unset, .unset, .unset, .unset, .unset, .unset] [(.long z2)])) (fun z2 hz2 => ?_) (fun J2 => ?_)
    · show Go p e below _ (s₁.setTop (mkF m 28 #[.val (.long q0), .second, .val (.long q1), .second, .val (.long q2), .second, .val (.long q3), .second, .val (.int p4), .val (.long z1), .second, .unset, .unset, .unset, .unset, .unset, .unset] [(.long z2)]))
      refine Go.st (fun _ => XS.lstore X0.here hx rfl (hb hby at_28) rfl (l' := #[.val (.long q0), .second, .val (.long q1), .second, .val (.long q2), .second, .val (.long q3), .second, .val (.int p4), .val (.long z1), .second, .val (.long z2), .second, .unset, .unset, .unset, .unset]) rfl) ?_
      show Go p e below _ (s₁.setTop (mkF m 30 #[.val (.long q0), .second, .val (.long q1), .second, .val (.long q2), .second, .val (.long q3), .second, .val (.int p4), .val (.long z1), .second, .val (.long z2), .second, .unset, .unset, .unset, .unset] []))
      obtain ⟨T3, h3, X3, e3, E3, A3, D3, -, st3⟩ := newO X0 hx hZ hown (hw _ (List.mem_of_getElem? (i := 0) rfl)) (hw _ (List.mem_of_getElem? (i := 1) rfl)) (hw _ (List.mem_of_getElem? (i := 2) rfl)) e0 (g := (mkF m 30 #[.val (.long q0), .second, .val (.long q1), .second, .val (.long q2), .second, .val (.long q3), .second, .val (.int p4), .val (.long z1), .second, .val (.long z2), .second, .unset, .unset, .unset, .unset] [])) rfl (hb hby at_30) (by decide) (by decide)
      obtain ⟨b3, g3⟩ : ∃ z, z = h0.size := ⟨_, rfl⟩
      rw [← g3] at A3 D3 st3
      refine Go.st st3 ?_
      have gn3 : n0 ≤ b3 := oldGe O0 g3
      have O4 : Old Z n0 h3 := O0.ext E3
      have F5 : Fld Z h3 b3 "com/example/oghma/oghma/cli/ServerHome$ProcessIdentity" "pid" "J" (.long (0 : Int64)) := D3 (Or.inr (hw _ (List.mem_of_getElem? (i := 10) rfl))) (ty := .long) (by decide)
      have F6 : Fld Z h3 b3 "com/example/oghma/oghma/cli/ServerHome$ProcessIdentity" "startTime" "J" (.long (0 : Int64)) := D3 (Or.inr (hw _ (List.mem_of_getElem? (i := 12) rfl))) (ty := .long) (by decide)
      show Go p e below _ (T3.setTop (mkF m 33 #[.val (.long q0), .second, .val (.long q1), .second, .val (.long q2), .second, .val (.long q3), .second, .val (.int p4), .val (.long z1), .second, .val (.long z2), .second, .unset, .unset, .unset, .unset] [(.ref b3)]))
      refine Go.st (fun _ => XS.dup X3.here hx rfl (hb hby at_33) rfl rfl) ?_
      show Go p e below _ (T3.setTop (mkF m 34 #[.val (.long q0), .second, .val (.long q1), .second, .val (.long q2), .second, .val (.long q3), .second, .val (.int p4), .val (.long z1), .second, .val (.long z2), .second, .unset, .unset, .unset, .unset] [(.ref b3), (.ref b3)]))
      refine Go.st (fun _ => XS.lloadN X3.here hx rfl (hb hby at_34) rfl) ?_
      show Go p e below _ (T3.setTop (mkF m 35 #[.val (.long q0), .second, .val (.long q1), .second, .val (.long q2), .second, .val (.long q3), .second, .val (.int p4), .val (.long z1), .second, .val (.long z2), .second, .unset, .unset, .unset, .unset] [(.long q0), (.ref b3), (.ref b3)]))
      refine Go.st (fun _ => XS.lloadN X3.here hx rfl (hb hby at_35) rfl) ?_
      show Go p e below _ (T3.setTop (mkF m 36 #[.val (.long q0), .second, .val (.long q1), .second, .val (.long q2), .second, .val (.long q3), .second, .val (.int p4), .val (.long z1), .second, .val (.long z2), .second, .unset, .unset, .unset, .unset] [(.long q1), (.long q0), (.ref b3), (.ref b3)]))
      refine goInit X3 hx hZ (y := (⟨"com/example/oghma/oghma/cli/ServerHome$ProcessIdentity", "<init>", "(JJ)V"⟩ : MethodName)) rfl hown (hw _ (List.mem_of_getElem? (i := 3) rfl)) (hw _ (List.mem_of_getElem? (i := 4) rfl)) (hw _ (List.mem_of_getElem? (i := 2) rfl)) (hw _ (List.mem_of_getElem? (i := 5) rfl)) (by decide) (a := b3) (argsL := [(.long q0), (.long q1)]) (rest := [(.ref b3)]) e3 (rm1 l Z a0 hw [] b3 q0 q1 h3 n0 O4 A3 F5 F6 gn3) 1 (by decide) (by decide) (by decide) (by decide) (mkF m 36 #[.val (.long q0), .second, .val (.long q1), .second, .val (.long q2), .second, .val (.long q3), .second, .val (.int p4), .val (.long z1), .second, .val (.long z2), .second, .unset, .unset, .unset, .unset] [(.long q1), (.long q0), (.ref b3), (.ref b3)]) rfl (by rw [hml]; rfl) (lenOf pd_2 rfl) rfl (hb hby at_36) (Nat.le_of_eq rfl) ?_
      intro v7 T7 L7 X7 hQ7
      obtain ⟨rfl, M7, K7, Ga7, Gb7⟩ := hQ7
      have N7 := Fr.app N0 M7
      have O8 : Old Z n0 T7.heap := O4.keep K7 (allS gn3 all0)
      have E_9 : Exa Z T7.heap b3 "com/example/oghma/oghma/cli/ServerHome$ProcessIdentity" := A3.keep K7
      show Go p e below _ (T7.setTop (mkF m 39 #[.val (.long q0), .second, .val (.long q1), .second, .val (.long q2), .second, .val (.long q3), .second, .val (.int p4), .val (.long z1), .second, .val (.long z2), .second, .unset, .unset, .unset, .unset] [(.ref b3)]))
      refine Go.st (fun _ => XS.astore X7.here hx rfl (hb hby at_39) rfl rfl (l' := #[.val (.long q0), .second, .val (.long q1), .second, .val (.long q2), .second, .val (.long q3), .second, .val (.int p4), .val (.long z1), .second, .val (.long z2), .second, .val (.ref b3), .unset, .unset, .unset]) rfl) ?_
      show Go p e below _ (T7.setTop (mkF m 41 #[.val (.long q0), .second, .val (.long q1), .second, .val (.long q2), .second, .val (.long q3), .second, .val (.int p4), .val (.long z1), .second, .val (.long z2), .second, .val (.ref b3), .unset, .unset, .unset] []))
      obtain ⟨T10, h10, X10, e10, E10, A10, D10, -, st10⟩ := newO X7 hx hZ hown (hw _ (List.mem_of_getElem? (i := 0) rfl)) (hw _ (List.mem_of_getElem? (i := 1) rfl)) (hw _ (List.mem_of_getElem? (i := 2) rfl)) rfl (g := (mkF m 41 #[.val (.long q0), .second, .val (.long q1), .second, .val (.long q2), .second, .val (.long q3), .second, .val (.int p4), .val (.long z1), .second, .val (.long z2), .second, .val (.ref b3), .unset, .unset, .unset] [])) rfl (hb hby at_41) (by decide) (by decide)
      obtain ⟨b10, g10⟩ : ∃ z, z = T7.heap.size := ⟨_, rfl⟩
      rw [← g10] at A10 D10 st10
      refine Go.st st10 ?_
      have gn10 : n0 ≤ b10 := oldGe O8 g10
      have ne11 : b3 ≠ b10 := Nat.ne_of_lt (Nat.lt_of_lt_of_le E_9.lt (Nat.le_of_eq g10.symm))
      have O12 : Old Z n0 h10 := O8.ext E10
      have E_13 : Exa Z h10 b3 "com/example/oghma/oghma/cli/ServerHome$ProcessIdentity" := E_9.ext E10
      have F14 : Fld Z h10 b3 "com/example/oghma/oghma/cli/ServerHome$ProcessIdentity" "pid" "J" (.long q0) := Ga7.ext E10
      have F15 : Fld Z h10 b3 "com/example/oghma/oghma/cli/ServerHome$ProcessIdentity" "startTime" "J" (.long q1) := Gb7.ext E10
      have F16 : Fld Z h10 b10 "com/example/oghma/oghma/cli/ServerHome$ProcessIdentity" "pid" "J" (.long (0 : Int64)) := D10 (Or.inr (hw _ (List.mem_of_getElem? (i := 10) rfl))) (ty := .long) (by decide)
      have F17 : Fld Z h10 b10 "com/example/oghma/oghma/cli/ServerHome$ProcessIdentity" "startTime" "J" (.long (0 : Int64)) := D10 (Or.inr (hw _ (List.mem_of_getElem? (i := 12) rfl))) (ty := .long) (by decide)
      show Go p e below _ (T10.setTop (mkF m 44 #[.val (.long q0), .second, .val (.long q1), .second, .val (.long q2), .second, .val (.long q3), .second, .val (.int p4), .val (.long z1), .second, .val (.long z2), .second, .val (.ref b3), .unset, .unset, .unset] [(.ref b10)]))
      refine Go.st (fun _ => XS.dup X10.here hx rfl (hb hby at_44) rfl rfl) ?_
      show Go p e below _ (T10.setTop (mkF m 45 #[.val (.long q0), .second, .val (.long q1), .second, .val (.long q2), .second, .val (.long q3), .second, .val (.int p4), .val (.long z1), .second, .val (.long z2), .second, .val (.ref b3), .unset, .unset, .unset] [(.ref b10), (.ref b10)]))
      refine Go.st (fun _ => XS.lload X10.here hx rfl (hb hby at_45) rfl) ?_
      show Go p e below _ (T10.setTop (mkF m 47 #[.val (.long q0), .second, .val (.long q1), .second, .val (.long q2), .second, .val (.long q3), .second, .val (.int p4), .val (.long z1), .second, .val (.long z2), .second, .val (.ref b3), .unset, .unset, .unset] [(.long z1), (.ref b10), (.ref b10)]))
      refine Go.st (fun _ => XS.lload X10.here hx rfl (hb hby at_47) rfl) ?_
      show Go p e below _ (T10.setTop (mkF m 49 #[.val (.long q0), .second, .val (.long q1), .second, .val (.long q2), .second, .val (.long q3), .second, .val (.int p4), .val (.long z1), .second, .val (.long z2), .second, .val (.ref b3), .unset, .unset, .unset] [(.long z2), (.long z1), (.ref b10), (.ref b10)]))
      refine goInit X10 hx hZ (y := (⟨"com/example/oghma/oghma/cli/ServerHome$ProcessIdentity", "<init>", "(JJ)V"⟩ : MethodName)) rfl hown (hw _ (List.mem_of_getElem? (i := 3) rfl)) (hw _ (List.mem_of_getElem? (i := 4) rfl)) (hw _ (List.mem_of_getElem? (i := 2) rfl)) (hw _ (List.mem_of_getElem? (i := 5) rfl)) (by decide) (a := b10) (argsL := [(.long z1), (.long z2)]) (rest := [(.ref b10)]) e10 (rm1 l Z a0 hw [] b10 z1 z2 h10 n0 O12 A10 F16 F17 gn10) 1 (by decide) (by decide) (by decide) (by decide) (mkF m 49 #[.val (.long q0), .second, .val (.long q1), .second, .val (.long q2), .second, .val (.long q3), .second, .val (.int p4), .val (.long z1), .second, .val (.long z2), .second, .val (.ref b3), .unset, .unset, .unset] [(.long z2), (.long z1), (.ref b10), (.ref b10)]) rfl (by rw [hml]; rfl) (lenOf pd_2 rfl) rfl (hb hby at_49) (Nat.le_of_eq rfl) ?_
      intro v18 T18 L18 X18 hQ18
      obtain ⟨rfl, M18, K18, Ga18, Gb18⟩ := hQ18
      have N18 := Fr.app N7 M18
      have O19 : Old Z n0 T18.heap := O12.keep K18 (allS gn10 all0)
      have E_20 : Exa Z T18.heap b3 "com/example/oghma/oghma/cli/ServerHome$ProcessIdentity" := E_13.keep K18
      have F21 : Fld Z T18.heap b3 "com/example/oghma/oghma/cli/ServerHome$ProcessIdentity" "pid" "J" (.long q0) := F14.keep K18 (ninS ne11 nin0)
      have F22 : Fld Z T18.heap b3 "com/example/oghma/oghma/cli/ServerHome$ProcessIdentity" "startTime" "J" (.long q1) := F15.keep K18 (ninS ne11 nin0)
      have E_23 : Exa Z T18.heap b10 "com/example/oghma/oghma/cli/ServerHome$ProcessIdentity" := A10.keep K18
      show Go p e below _ (T18.setTop (mkF m 52 #[.val (.long q0), .second, .val (.long q1), .second, .val (.long q2), .second, .val (.long q3), .second, .val (.int p4), .val (.long z1), .second, .val (.long z2), .second, .val (.ref b3), .unset, .unset, .unset] [(.ref b10)]))
      refine Go.st (fun _ => XS.astore X18.here hx rfl (hb hby at_52) rfl rfl (l' := #[.val (.long q0), .second, .val (.long q1), .second, .val (.long q2), .second, .val (.long q3), .second, .val (.int p4), .val (.long z1), .second, .val (.long z2), .second, .val (.ref b3), .val (.ref b10), .unset, .unset]) rfl) ?_
      show Go p e below _ (T18.setTop (mkF m 54 #[.val (.long q0), .second, .val (.long q1), .second, .val (.long q2), .second, .val (.long q3), .second, .val (.int p4), .val (.long z1), .second, .val (.long z2), .second, .val (.ref b3), .val (.ref b10), .unset, .unset] []))
      refine Go.st (fun _ => XS.lload X18.here hx rfl (hb hby at_54) rfl) ?_
      show Go p e below _ (T18.setTop (mkF m 56 #[.val (.long q0), .second, .val (.long q1), .second, .val (.long q2), .second, .val (.long q3), .second, .val (.int p4), .val (.long z1), .second, .val (.long z2), .second, .val (.ref b3), .val (.ref b10), .unset, .unset] [(.long z1)]))
      refine Go.st (fun _ => XS.lloadN X18.here hx rfl (hb hby at_56) rfl) ?_
      show Go p e below _ (T18.setTop (mkF m 57 #[.val (.long q0), .second, .val (.long q1), .second, .val (.long q2), .second, .val (.long q3), .second, .val (.int p4), .val (.long z1), .second, .val (.long z2), .second, .val (.ref b3), .val (.ref b10), .unset, .unset] [(.long q0), (.long z1)]))
      refine Go.st (fun _ => XS.lcmp X18.here hx rfl (hb hby at_57) rfl) ?_
      show Go p e below _ (T18.setTop (mkF m 58 #[.val (.long q0), .second, .val (.long q1), .second, .val (.long q2), .second, .val (.long q3), .second, .val (.int p4), .val (.long z1), .second, .val (.long z2), .second, .val (.ref b3), .val (.ref b10), .unset, .unset] [(.int (lcmpW z1 q0))]))
      refine goJoin (P := fun z24 : Int32 => z24 = (if z1 = q0 ∧ z2 = q1 then (1 : Int32) else 0)) (F := fun z24 => T18.setTop (mkF m 73 #[.val (.long q0), .second, .val (.long q1), .second, .val (.long q2), .second, .val (.long q3), .second, .val (.int p4), .val (.long z1), .second, .val (.long z2), .second, .val (.ref b3), .val (.ref b10), .unset, .unset] [(.int z24)])) (fun z24 hz24 => ?_) (fun J24 => ?_)
      · have hbz24 : z24 = 0 ∨ z24 = 1 := own_bit hz24
        show Go p e below _ (T18.setTop (mkF m 73 #[.val (.long q0), .second, .val (.long q1), .second, .val (.long q2), .second, .val (.long q3), .second, .val (.int p4), .val (.long z1), .second, .val (.long z2), .second, .val (.ref b3), .val (.ref b10), .unset, .unset] [(.int z24)]))
        refine Go.st (fun _ => XS.istore X18.here hx rfl (hb hby at_73) rfl (l' := #[.val (.long q0), .second, .val (.long q1), .second, .val (.long q2), .second, .val (.long q3), .second, .val (.int p4), .val (.long z1), .second, .val (.long z2), .second, .val (.ref b3), .val (.ref b10), .val (.int z24), .unset]) rfl) ?_
        show Go p e below _ (T18.setTop (mkF m 75 #[.val (.long q0), .second, .val (.long q1), .second, .val (.long q2), .second, .val (.long q3), .second, .val (.int p4), .val (.long z1), .second, .val (.long z2), .second, .val (.ref b3), .val (.ref b10), .val (.int z24), .unset] []))
        refine Go.st (fun _ => XS.iload X18.here hx rfl (hb hby at_75) rfl) ?_
        show Go p e below _ (T18.setTop (mkF m 77 #[.val (.long q0), .second, .val (.long q1), .second, .val (.long q2), .second, .val (.long q3), .second, .val (.int p4), .val (.long z1), .second, .val (.long z2), .second, .val (.ref b3), .val (.ref b10), .val (.int z24), .unset] [(.int p4)]))
        refine Go.st (fun _ => XS.iconst X18.here hx rfl (hb hby at_77)) ?_
        show Go p e below _ (T18.setTop (mkF m 78 #[.val (.long q0), .second, .val (.long q1), .second, .val (.long q2), .second, .val (.long q3), .second, .val (.int p4), .val (.long z1), .second, .val (.long z2), .second, .val (.ref b3), .val (.ref b10), .val (.int z24), .unset] [(.int (4 : Int32)), (.int p4)]))
        refine Go.st (fun _ => XS.iand X18.here hx rfl (hb hby at_78) rfl) ?_
        show Go p e below _ (T18.setTop (mkF m 79 #[.val (.long q0), .second, .val (.long q1), .second, .val (.long q2), .second, .val (.long q3), .second, .val (.int p4), .val (.long z1), .second, .val (.long z2), .second, .val (.ref b3), .val (.ref b10), .val (.int z24), .unset] [(.int (p4 &&& (4 : Int32)))]))
        by_cases hc25 : (p4 &&& (4 : Int32)) = (0 : Int32)
        · refine Go.st (fun _ => XS.ifYes X18.here hx rfl (pc0 := 79) (pc' := 86) rfl (hb hby at_79) rfl ((if0 _ _).trans (teq hc25).1) (by decide) (by decide)) ?_
          show Go p e below _ (T18.setTop (mkF m 86 #[.val (.long q0), .second, .val (.long q1), .second, .val (.long q2), .second, .val (.long q3), .second, .val (.int p4), .val (.long z1), .second, .val (.long z2), .second, .val (.ref b3), .val (.ref b10), .val (.int z24), .unset] []))
          refine Go.st (fun _ => XS.lloadN X18.here hx rfl (hb hby at_86) rfl) ?_
          show Go p e below _ (T18.setTop (mkF m 87 #[.val (.long q0), .second, .val (.long q1), .second, .val (.long q2), .second, .val (.long q3), .second, .val (.int p4), .val (.long z1), .second, .val (.long z2), .second, .val (.ref b3), .val (.ref b10), .val (.int z24), .unset] [(.long q0)]))
          refine goCallS X18 hx hZ (y := (⟨"java/lang/Long", "valueOf", "(J)Ljava/lang/Long;"⟩ : MethodName)) hown (hw _ (List.mem_of_getElem? (i := 13) rfl)) (hw _ (List.mem_of_getElem? (i := 14) rfl)) (hw _ (List.mem_of_getElem? (i := 15) rfl)) (hw _ (List.mem_of_getElem? (i := 16) rfl)) (by decide) (argsL := [(.long q0)]) (rest := []) rfl (rmBox l Z a0 hw [] q0 wc cl T18.heap n0 O19 S_cache BX) 0 (by decide) (by decide) (by decide) (by decide) (mkF m 87 #[.val (.long q0), .second, .val (.long q1), .second, .val (.long q2), .second, .val (.long q3), .second, .val (.int p4), .val (.long z1), .second, .val (.long z2), .second, .val (.ref b3), .val (.ref b10), .val (.int z24), .unset] [(.long q0)]) rfl (by rw [hml]; rfl) (lenOf pd_3 rfl) rfl (hb hby at_87) (Nat.le_of_eq rfl) ?_
          intro v26 T26 L26 X26 hQ26
          obtain ⟨⟨r26, rfl, Er26, Gr26⟩, M26, K26⟩ := hQ26
          have N26 := Fr.app N18 M26
          have O27 : Old Z n0 T26.heap := O19.keep K26 all0
          have E_28 : Exa Z T26.heap b3 "com/example/oghma/oghma/cli/ServerHome$ProcessIdentity" := E_20.keep K26
          have F29 : Fld Z T26.heap b3 "com/example/oghma/oghma/cli/ServerHome$ProcessIdentity" "pid" "J" (.long q0) := F21.keep K26 nin0
          have F30 : Fld Z T26.heap b3 "com/example/oghma/oghma/cli/ServerHome$ProcessIdentity" "startTime" "J" (.long q1) := F22.keep K26 nin0
          have E_31 : Exa Z T26.heap b10 "com/example/oghma/oghma/cli/ServerHome$ProcessIdentity" := E_23.keep K26
          have F32 : Fld Z T26.heap b10 "com/example/oghma/oghma/cli/ServerHome$ProcessIdentity" "pid" "J" (.long z1) := Ga18.keep K26 nin0
          have F33 : Fld Z T26.heap b10 "com/example/oghma/oghma/cli/ServerHome$ProcessIdentity" "startTime" "J" (.long z2) := Gb18.keep K26 nin0
          show Go p e below _ (T26.setTop (mkF m 90 #[.val (.long q0), .second, .val (.long q1), .second, .val (.long q2), .second, .val (.long q3), .second, .val (.int p4), .val (.long z1), .second, .val (.long z2), .second, .val (.ref b3), .val (.ref b10), .val (.int z24), .unset] [(.ref r26)]))
          refine Go.st (fun _ => XS.astore X26.here hx rfl (hb hby at_90) rfl rfl (l' := #[.val (.long q0), .second, .val (.long q1), .second, .val (.long q2), .second, .val (.long q3), .second, .val (.int p4), .val (.long z1), .second, .val (.long z2), .second, .val (.ref b3), .val (.ref b10), .val (.int z24), .val (.ref r26)]) rfl) ?_
          show Go p e below _ (T26.setTop (mkF m 92 #[.val (.long q0), .second, .val (.long q1), .second, .val (.long q2), .second, .val (.long q3), .second, .val (.int p4), .val (.long z1), .second, .val (.long z2), .second, .val (.ref b3), .val (.ref b10), .val (.int z24), .val (.ref r26)] []))
          refine Go.st (fun _ => XS.aload X26.here hx rfl (hb hby at_92) rfl rfl) ?_
          show Go p e below _ (T26.setTop (mkF m 94 #[.val (.long q0), .second, .val (.long q1), .second, .val (.long q2), .second, .val (.long q3), .second, .val (.int p4), .val (.long z1), .second, .val (.long z2), .second, .val (.ref b3), .val (.ref b10), .val (.int z24), .val (.ref r26)] [(.ref b3)]))
          refine Go.st (fun _ => XS.aload X26.here hx rfl (hb hby at_94) rfl rfl) ?_
          show Go p e below _ (T26.setTop (mkF m 96 #[.val (.long q0), .second, .val (.long q1), .second, .val (.long q2), .second, .val (.long q3), .second, .val (.int p4), .val (.long z1), .second, .val (.long z2), .second, .val (.ref b3), .val (.ref b10), .val (.int z24), .val (.ref r26)] [(.ref b10), (.ref b3)]))
          refine goVirt X26 hx hZ (y := (⟨"com/example/oghma/oghma/cli/ServerHome$ProcessIdentity", "equals", "(Ljava/lang/Object;)Z"⟩ : MethodName)) (z := (⟨"com/example/oghma/oghma/cli/ServerHome$ProcessIdentity", "equals", "(Ljava/lang/Object;)Z"⟩ : MethodName)) hown (hw _ (List.mem_of_getElem? (i := 21) rfl)) (hw _ (List.mem_of_getElem? (i := 22) rfl)) (notFace_of_selects (args := #[]) (mvT hZ (hw _ (List.mem_of_getElem? (i := 24) rfl)))) (hw _ (List.mem_of_getElem? (i := 24) rfl)) (hw _ (List.mem_of_getElem? (i := 23) rfl)) (hw _ (List.mem_of_getElem? (i := 2) rfl)) (hw _ (List.mem_of_getElem? (i := 25) rfl)) (by decide) (a := b3) (argsL := [(.ref b10)]) (rest := []) rfl E_28 (rm2 l Z a0 hw [] b3 b10 q0 q1 z1 z2 T26.heap n0 O27 E_31 F29 F30 F32 F33) 0 (by decide) (by decide) (by decide) (by decide) (mkF m 96 #[.val (.long q0), .second, .val (.long q1), .second, .val (.long q2), .second, .val (.long q3), .second, .val (.int p4), .val (.long z1), .second, .val (.long z2), .second, .val (.ref b3), .val (.ref b10), .val (.int z24), .val (.ref r26)] [(.ref b10), (.ref b3)]) rfl (by rw [hml]; rfl) (lenOf pd_4 rfl) rfl (hb hby at_96) (Nat.le_of_eq rfl) ?_
          intro v34 T34 L34 X34 hQ34
          obtain ⟨rfl, M34, e34⟩ := hQ34
          have N34 := Fr.app N26 M34
          show Go p e below _ (T34.setTop (mkF m 99 #[.val (.long q0), .second, .val (.long q1), .second, .val (.long q2), .second, .val (.long q3), .second, .val (.int p4), .val (.long z1), .second, .val (.long z2), .second, .val (.ref b3), .val (.ref b10), .val (.int z24), .val (.ref r26)] [(.int (if q0 = z1 ∧ q1 = z2 then (1 : Int32) else 0))]))
          refine Go.st (fun _ => XS.iload X34.here hx rfl (hb hby at_99) rfl) ?_
          show Go p e below _ (T34.setTop (mkF m 101 #[.val (.long q0), .second, .val (.long q1), .second, .val (.long q2), .second, .val (.long q3), .second, .val (.int p4), .val (.long z1), .second, .val (.long z2), .second, .val (.ref b3), .val (.ref b10), .val (.int z24), .val (.ref r26)] [(.int z24), (.int (if q0 = z1 ∧ q1 = z2 then (1 : Int32) else 0))]))
          refine Go.st (fun _ => XS.icmpNo X34.here hx rfl (hb hby at_101) rfl (teq ((own_ite ⟨fun h => ⟨h.1.symm, h.2.symm⟩, fun h => ⟨h.1.symm, h.2.symm⟩⟩).trans hz24.symm)).2) ?_
          show Go p e below _ (T34.setTop (mkF m 104 #[.val (.long q0), .second, .val (.long q1), .second, .val (.long q2), .second, .val (.long q3), .second, .val (.int p4), .val (.long z1), .second, .val (.long z2), .second, .val (.ref b3), .val (.ref b10), .val (.int z24), .val (.ref r26)] []))
          refine Go.st (fun _ => XS.aload X34.here hx rfl (hb hby at_104) rfl rfl) ?_
          show Go p e below _ (T34.setTop (mkF m 106 #[.val (.long q0), .second, .val (.long q1), .second, .val (.long q2), .second, .val (.long q3), .second, .val (.int p4), .val (.long z1), .second, .val (.long z2), .second, .val (.ref b3), .val (.ref b10), .val (.int z24), .val (.ref r26)] [(.ref b10)]))
          refine Go.st (fun _ => XS.aload X34.here hx rfl (hb hby at_106) rfl rfl) ?_
          show Go p e below _ (T34.setTop (mkF m 108 #[.val (.long q0), .second, .val (.long q1), .second, .val (.long q2), .second, .val (.long q3), .second, .val (.int p4), .val (.long z1), .second, .val (.long z2), .second, .val (.ref b3), .val (.ref b10), .val (.int z24), .val (.ref r26)] [(.ref b3), (.ref b10)]))
          refine goVirt X34 hx hZ (y := (⟨"com/example/oghma/oghma/cli/ServerHome$ProcessIdentity", "equals", "(Ljava/lang/Object;)Z"⟩ : MethodName)) (z := (⟨"com/example/oghma/oghma/cli/ServerHome$ProcessIdentity", "equals", "(Ljava/lang/Object;)Z"⟩ : MethodName)) hown (hw _ (List.mem_of_getElem? (i := 21) rfl)) (hw _ (List.mem_of_getElem? (i := 22) rfl)) (notFace_of_selects (args := #[]) (mvT hZ (hw _ (List.mem_of_getElem? (i := 24) rfl)))) (hw _ (List.mem_of_getElem? (i := 24) rfl)) (hw _ (List.mem_of_getElem? (i := 23) rfl)) (hw _ (List.mem_of_getElem? (i := 2) rfl)) (hw _ (List.mem_of_getElem? (i := 25) rfl)) (by decide) (a := b10) (argsL := [(.ref b3)]) (rest := []) e34 E_31 (rm2 l Z a0 hw [] b10 b3 z1 z2 q0 q1 T26.heap n0 O27 E_28 F32 F33 F29 F30) 0 (by decide) (by decide) (by decide) (by decide) (mkF m 108 #[.val (.long q0), .second, .val (.long q1), .second, .val (.long q2), .second, .val (.long q3), .second, .val (.int p4), .val (.long z1), .second, .val (.long z2), .second, .val (.ref b3), .val (.ref b10), .val (.int z24), .val (.ref r26)] [(.ref b3), (.ref b10)]) rfl (by rw [hml]; rfl) (lenOf pd_4 rfl) rfl (hb hby at_108) (Nat.le_of_eq rfl) ?_
          intro v35 T35 L35 X35 hQ35
          obtain ⟨rfl, M35, e35⟩ := hQ35
          have N35 := Fr.app N34 M35
          show Go p e below _ (T35.setTop (mkF m 111 #[.val (.long q0), .second, .val (.long q1), .second, .val (.long q2), .second, .val (.long q3), .second, .val (.int p4), .val (.long z1), .second, .val (.long z2), .second, .val (.ref b3), .val (.ref b10), .val (.int z24), .val (.ref r26)] [(.int (if z1 = q0 ∧ z2 = q1 then (1 : Int32) else 0))]))
          refine Go.st (fun _ => XS.iload X35.here hx rfl (hb hby at_111) rfl) ?_
          show Go p e below _ (T35.setTop (mkF m 113 #[.val (.long q0), .second, .val (.long q1), .second, .val (.long q2), .second, .val (.long q3), .second, .val (.int p4), .val (.long z1), .second, .val (.long z2), .second, .val (.ref b3), .val (.ref b10), .val (.int z24), .val (.ref r26)] [(.int z24), (.int (if z1 = q0 ∧ z2 = q1 then (1 : Int32) else 0))]))
          refine Go.st (fun _ => XS.icmpNo X35.here hx rfl (hb hby at_113) rfl (teq hz24.symm).2) ?_
          show Go p e below _ (T35.setTop (mkF m 116 #[.val (.long q0), .second, .val (.long q1), .second, .val (.long q2), .second, .val (.long q3), .second, .val (.int p4), .val (.long z1), .second, .val (.long z2), .second, .val (.ref b3), .val (.ref b10), .val (.int z24), .val (.ref r26)] []))
          refine Go.st (fun _ => XS.aload X35.here hx rfl (hb hby at_116) rfl rfl) ?_
          show Go p e below _ (T35.setTop (mkF m 118 #[.val (.long q0), .second, .val (.long q1), .second, .val (.long q2), .second, .val (.long q3), .second, .val (.int p4), .val (.long z1), .second, .val (.long z2), .second, .val (.ref b3), .val (.ref b10), .val (.int z24), .val (.ref r26)] [(.ref b3)]))
          refine Go.st (fun _ => XS.aload X35.here hx rfl (hb hby at_118) rfl rfl) ?_
          show Go p e below _ (T35.setTop (mkF m 120 #[.val (.long q0), .second, .val (.long q1), .second, .val (.long q2), .second, .val (.long q3), .second, .val (.int p4), .val (.long z1), .second, .val (.long z2), .second, .val (.ref b3), .val (.ref b10), .val (.int z24), .val (.ref r26)] [(.ref b3), (.ref b3)]))
          refine goVirt X35 hx hZ (y := (⟨"com/example/oghma/oghma/cli/ServerHome$ProcessIdentity", "equals", "(Ljava/lang/Object;)Z"⟩ : MethodName)) (z := (⟨"com/example/oghma/oghma/cli/ServerHome$ProcessIdentity", "equals", "(Ljava/lang/Object;)Z"⟩ : MethodName)) hown (hw _ (List.mem_of_getElem? (i := 21) rfl)) (hw _ (List.mem_of_getElem? (i := 22) rfl)) (notFace_of_selects (args := #[]) (mvT hZ (hw _ (List.mem_of_getElem? (i := 24) rfl)))) (hw _ (List.mem_of_getElem? (i := 24) rfl)) (hw _ (List.mem_of_getElem? (i := 23) rfl)) (hw _ (List.mem_of_getElem? (i := 2) rfl)) (hw _ (List.mem_of_getElem? (i := 25) rfl)) (by decide) (a := b3) (argsL := [(.ref b3)]) (rest := []) e35 E_28 (rm2 l Z a0 hw [] b3 b3 q0 q1 q0 q1 T26.heap n0 O27 E_28 F29 F30 F29 F30) 0 (by decide) (by decide) (by decide) (by decide) (mkF m 120 #[.val (.long q0), .second, .val (.long q1), .second, .val (.long q2), .second, .val (.long q3), .second, .val (.int p4), .val (.long z1), .second, .val (.long z2), .second, .val (.ref b3), .val (.ref b10), .val (.int z24), .val (.ref r26)] [(.ref b3), (.ref b3)]) rfl (by rw [hml]; rfl) (lenOf pd_4 rfl) rfl (hb hby at_120) (Nat.le_of_eq rfl) ?_
          intro v36 T36 L36 X36 hQ36
          obtain ⟨rfl, M36, e36⟩ := hQ36
          have N36 := Fr.app N35 M36
          show Go p e below _ (T36.setTop (mkF m 123 #[.val (.long q0), .second, .val (.long q1), .second, .val (.long q2), .second, .val (.long q3), .second, .val (.int p4), .val (.long z1), .second, .val (.long z2), .second, .val (.ref b3), .val (.ref b10), .val (.int z24), .val (.ref r26)] [(.int (if q0 = q0 ∧ q1 = q1 then (1 : Int32) else 0))]))
          refine Go.st (fun _ => XS.ifNo X36.here hx rfl (hb hby at_123) rfl ((if0 _ _).trans (feq (by simp)).1)) ?_
          show Go p e below _ (T36.setTop (mkF m 126 #[.val (.long q0), .second, .val (.long q1), .second, .val (.long q2), .second, .val (.long q3), .second, .val (.int p4), .val (.long z1), .second, .val (.long z2), .second, .val (.ref b3), .val (.ref b10), .val (.int z24), .val (.ref r26)] []))
          refine Go.st (fun _ => XS.aload X36.here hx rfl (hb hby at_126) rfl rfl) ?_
          show Go p e below _ (T36.setTop (mkF m 128 #[.val (.long q0), .second, .val (.long q1), .second, .val (.long q2), .second, .val (.long q3), .second, .val (.int p4), .val (.long z1), .second, .val (.long z2), .second, .val (.ref b3), .val (.ref b10), .val (.int z24), .val (.ref r26)] [(.ref b3)]))
          refine Go.st (fun _ => XS.aload X36.here hx rfl (hb hby at_128) rfl rfl) ?_
          show Go p e below _ (T36.setTop (mkF m 130 #[.val (.long q0), .second, .val (.long q1), .second, .val (.long q2), .second, .val (.long q3), .second, .val (.int p4), .val (.long z1), .second, .val (.long z2), .second, .val (.ref b3), .val (.ref b10), .val (.int z24), .val (.ref r26)] [(.ref r26), (.ref b3)]))
          refine goVirt X36 hx hZ (y := (⟨"com/example/oghma/oghma/cli/ServerHome$ProcessIdentity", "equals", "(Ljava/lang/Object;)Z"⟩ : MethodName)) (z := (⟨"com/example/oghma/oghma/cli/ServerHome$ProcessIdentity", "equals", "(Ljava/lang/Object;)Z"⟩ : MethodName)) hown (hw _ (List.mem_of_getElem? (i := 21) rfl)) (hw _ (List.mem_of_getElem? (i := 22) rfl)) (notFace_of_selects (args := #[]) (mvT hZ (hw _ (List.mem_of_getElem? (i := 24) rfl)))) (hw _ (List.mem_of_getElem? (i := 24) rfl)) (hw _ (List.mem_of_getElem? (i := 23) rfl)) (hw _ (List.mem_of_getElem? (i := 2) rfl)) (hw _ (List.mem_of_getElem? (i := 25) rfl)) (by decide) (a := b3) (argsL := [(.ref r26)]) (rest := []) e36 E_28 (rm4 l Z a0 hw [] b3 r26 T26.heap n0 O27 Er26) 0 (by decide) (by decide) (by decide) (by decide) (mkF m 130 #[.val (.long q0), .second, .val (.long q1), .second, .val (.long q2), .second, .val (.long q3), .second, .val (.int p4), .val (.long z1), .second, .val (.long z2), .second, .val (.ref b3), .val (.ref b10), .val (.int z24), .val (.ref r26)] [(.ref r26), (.ref b3)]) rfl (by rw [hml]; rfl) (lenOf pd_4 rfl) rfl (hb hby at_130) (Nat.le_of_eq rfl) ?_
          intro v37 T37 L37 X37 hQ37
          obtain ⟨rfl, M37, e37⟩ := hQ37
          have N37 := Fr.app N36 M37
          show Go p e below _ (T37.setTop (mkF m 133 #[.val (.long q0), .second, .val (.long q1), .second, .val (.long q2), .second, .val (.long q3), .second, .val (.int p4), .val (.long z1), .second, .val (.long z2), .second, .val (.ref b3), .val (.ref b10), .val (.int z24), .val (.ref r26)] [(.int (0 : Int32))]))
          refine Go.st (fun _ => XS.ifNo X37.here hx rfl (hb hby at_133) rfl ((if0 _ _).trans (teq (by decide : (0 : Int32) = (0 : Int32))).2)) ?_
          show Go p e below _ (T37.setTop (mkF m 136 #[.val (.long q0), .second, .val (.long q1), .second, .val (.long q2), .second, .val (.long q3), .second, .val (.int p4), .val (.long z1), .second, .val (.long z2), .second, .val (.ref b3), .val (.ref b10), .val (.int z24), .val (.ref r26)] []))
          refine Go.st (fun _ => XS.iconst X37.here hx rfl (hb hby at_136)) ?_
          show Go p e below _ (T37.setTop (mkF m 137 #[.val (.long q0), .second, .val (.long q1), .second, .val (.long q2), .second, .val (.long q3), .second, .val (.int p4), .val (.long z1), .second, .val (.long z2), .second, .val (.ref b3), .val (.ref b10), .val (.int z24), .val (.ref r26)] [(.int (1 : Int32))]))
          refine Go.st (fun _ => XS.goto X37.here hx rfl (pc0 := 137) (pc' := 141) rfl (hb hby at_137) (by decide) (by decide)) ?_
          show Go p e below _ (T37.setTop (mkF m 141 #[.val (.long q0), .second, .val (.long q1), .second, .val (.long q2), .second, .val (.long q3), .second, .val (.int p4), .val (.long z1), .second, .val (.long z2), .second, .val (.ref b3), .val (.ref b10), .val (.int z24), .val (.ref r26)] [(.int (1 : Int32))]))
          exact goRetN X37 hx hlk hret (t := .boolean) (by simp) (w := (1 : Int32)) (by decide) e37 (hb hby at_141) (by decide) (by decide) ⟨rfl, N37⟩
        · refine Go.st (fun _ => XS.ifNo X18.here hx rfl (hb hby at_79) rfl ((if0 _ _).trans (feq hc25).1)) ?_
          show Go p e below _ (T18.setTop (mkF m 82 #[.val (.long q0), .second, .val (.long q1), .second, .val (.long q2), .second, .val (.long q3), .second, .val (.int p4), .val (.long z1), .second, .val (.long z2), .second, .val (.ref b3), .val (.ref b10), .val (.int z24), .unset] []))
          refine Go.st (fun _ => XS.aconstNull X18.here hx rfl (hb hby at_82)) ?_
          show Go p e below _ (T18.setTop (mkF m 83 #[.val (.long q0), .second, .val (.long q1), .second, .val (.long q2), .second, .val (.long q3), .second, .val (.int p4), .val (.long z1), .second, .val (.long z2), .second, .val (.ref b3), .val (.ref b10), .val (.int z24), .unset] [.null]))
          refine Go.st (fun _ => XS.goto X18.here hx rfl (pc0 := 83) (pc' := 90) rfl (hb hby at_83) (by decide) (by decide)) ?_
          show Go p e below _ (T18.setTop (mkF m 90 #[.val (.long q0), .second, .val (.long q1), .second, .val (.long q2), .second, .val (.long q3), .second, .val (.int p4), .val (.long z1), .second, .val (.long z2), .second, .val (.ref b3), .val (.ref b10), .val (.int z24), .unset] [.null]))
          refine Go.st (fun _ => XS.astore X18.here hx rfl (hb hby at_90) rfl rfl (l' := #[.val (.long q0), .second, .val (.long q1), .second, .val (.long q2), .second, .val (.long q3), .second, .val (.int p4), .val (.long z1), .second, .val (.long z2), .second, .val (.ref b3), .val (.ref b10), .val (.int z24), .val .null]) rfl) ?_
          show Go p e below _ (T18.setTop (mkF m 92 #[.val (.long q0), .second, .val (.long q1), .second, .val (.long q2), .second, .val (.long q3), .second, .val (.int p4), .val (.long z1), .second, .val (.long z2), .second, .val (.ref b3), .val (.ref b10), .val (.int z24), .val .null] []))
          refine Go.st (fun _ => XS.aload X18.here hx rfl (hb hby at_92) rfl rfl) ?_
          show Go p e below _ (T18.setTop (mkF m 94 #[.val (.long q0), .second, .val (.long q1), .second, .val (.long q2), .second, .val (.long q3), .second, .val (.int p4), .val (.long z1), .second, .val (.long z2), .second, .val (.ref b3), .val (.ref b10), .val (.int z24), .val .null] [(.ref b3)]))
          refine Go.st (fun _ => XS.aload X18.here hx rfl (hb hby at_94) rfl rfl) ?_
          show Go p e below _ (T18.setTop (mkF m 96 #[.val (.long q0), .second, .val (.long q1), .second, .val (.long q2), .second, .val (.long q3), .second, .val (.int p4), .val (.long z1), .second, .val (.long z2), .second, .val (.ref b3), .val (.ref b10), .val (.int z24), .val .null] [(.ref b10), (.ref b3)]))
          refine goVirt X18 hx hZ (y := (⟨"com/example/oghma/oghma/cli/ServerHome$ProcessIdentity", "equals", "(Ljava/lang/Object;)Z"⟩ : MethodName)) (z := (⟨"com/example/oghma/oghma/cli/ServerHome$ProcessIdentity", "equals", "(Ljava/lang/Object;)Z"⟩ : MethodName)) hown (hw _ (List.mem_of_getElem? (i := 21) rfl)) (hw _ (List.mem_of_getElem? (i := 22) rfl)) (notFace_of_selects (args := #[]) (mvT hZ (hw _ (List.mem_of_getElem? (i := 24) rfl)))) (hw _ (List.mem_of_getElem? (i := 24) rfl)) (hw _ (List.mem_of_getElem? (i := 23) rfl)) (hw _ (List.mem_of_getElem? (i := 2) rfl)) (hw _ (List.mem_of_getElem? (i := 25) rfl)) (by decide) (a := b3) (argsL := [(.ref b10)]) (rest := []) rfl E_20 (rm2 l Z a0 hw [] b3 b10 q0 q1 z1 z2 T18.heap n0 O19 E_23 F21 F22 Ga18 Gb18) 0 (by decide) (by decide) (by decide) (by decide) (mkF m 96 #[.val (.long q0), .second, .val (.long q1), .second, .val (.long q2), .second, .val (.long q3), .second, .val (.int p4), .val (.long z1), .second, .val (.long z2), .second, .val (.ref b3), .val (.ref b10), .val (.int z24), .val .null] [(.ref b10), (.ref b3)]) rfl (by rw [hml]; rfl) (lenOf pd_4 rfl) rfl (hb hby at_96) (Nat.le_of_eq rfl) ?_
          intro v38 T38 L38 X38 hQ38
          obtain ⟨rfl, M38, e38⟩ := hQ38
          have N38 := Fr.app N18 M38
          show Go p e below _ (T38.setTop (mkF m 99 #[.val (.long q0), .second, .val (.long q1), .second, .val (.long q2), .second, .val (.long q3), .second, .val (.int p4), .val (.long z1), .second, .val (.long z2), .second, .val (.ref b3), .val (.ref b10), .val (.int z24), .val .null] [(.int (if q0 = z1 ∧ q1 = z2 then (1 : Int32) else 0))]))
          refine Go.st (fun _ => XS.iload X38.here hx rfl (hb hby at_99) rfl) ?_
          show Go p e below _ (T38.setTop (mkF m 101 #[.val (.long q0), .second, .val (.long q1), .second, .val (.long q2), .second, .val (.long q3), .second, .val (.int p4), .val (.long z1), .second, .val (.long z2), .second, .val (.ref b3), .val (.ref b10), .val (.int z24), .val .null] [(.int z24), (.int (if q0 = z1 ∧ q1 = z2 then (1 : Int32) else 0))]))
          refine Go.st (fun _ => XS.icmpNo X38.here hx rfl (hb hby at_101) rfl (teq ((own_ite ⟨fun h => ⟨h.1.symm, h.2.symm⟩, fun h => ⟨h.1.symm, h.2.symm⟩⟩).trans hz24.symm)).2) ?_
          show Go p e below _ (T38.setTop (mkF m 104 #[.val (.long q0), .second, .val (.long q1), .second, .val (.long q2), .second, .val (.long q3), .second, .val (.int p4), .val (.long z1), .second, .val (.long z2), .second, .val (.ref b3), .val (.ref b10), .val (.int z24), .val .null] []))
          refine Go.st (fun _ => XS.aload X38.here hx rfl (hb hby at_104) rfl rfl) ?_
          show Go p e below _ (T38.setTop (mkF m 106 #[.val (.long q0), .second, .val (.long q1), .second, .val (.long q2), .second, .val (.long q3), .second, .val (.int p4), .val (.long z1), .second, .val (.long z2), .second, .val (.ref b3), .val (.ref b10), .val (.int z24), .val .null] [(.ref b10)]))
          refine Go.st (fun _ => XS.aload X38.here hx rfl (hb hby at_106) rfl rfl) ?_
          show Go p e below _ (T38.setTop (mkF m 108 #[.val (.long q0), .second, .val (.long q1), .second, .val (.long q2), .second, .val (.long q3), .second, .val (.int p4), .val (.long z1), .second, .val (.long z2), .second, .val (.ref b3), .val (.ref b10), .val (.int z24), .val .null] [(.ref b3), (.ref b10)]))
          refine goVirt X38 hx hZ (y := (⟨"com/example/oghma/oghma/cli/ServerHome$ProcessIdentity", "equals", "(Ljava/lang/Object;)Z"⟩ : MethodName)) (z := (⟨"com/example/oghma/oghma/cli/ServerHome$ProcessIdentity", "equals", "(Ljava/lang/Object;)Z"⟩ : MethodName)) hown (hw _ (List.mem_of_getElem? (i := 21) rfl)) (hw _ (List.mem_of_getElem? (i := 22) rfl)) (notFace_of_selects (args := #[]) (mvT hZ (hw _ (List.mem_of_getElem? (i := 24) rfl)))) (hw _ (List.mem_of_getElem? (i := 24) rfl)) (hw _ (List.mem_of_getElem? (i := 23) rfl)) (hw _ (List.mem_of_getElem? (i := 2) rfl)) (hw _ (List.mem_of_getElem? (i := 25) rfl)) (by decide) (a := b10) (argsL := [(.ref b3)]) (rest := []) e38 E_23 (rm2 l Z a0 hw [] b10 b3 z1 z2 q0 q1 T18.heap n0 O19 E_20 Ga18 Gb18 F21 F22) 0 (by decide) (by decide) (by decide) (by decide) (mkF m 108 #[.val (.long q0), .second, .val (.long q1), .second, .val (.long q2), .second, .val (.long q3), .second, .val (.int p4), .val (.long z1), .second, .val (.long z2), .second, .val (.ref b3), .val (.ref b10), .val (.int z24), .val .null] [(.ref b3), (.ref b10)]) rfl (by rw [hml]; rfl) (lenOf pd_4 rfl) rfl (hb hby at_108) (Nat.le_of_eq rfl) ?_
          intro v39 T39 L39 X39 hQ39
          obtain ⟨rfl, M39, e39⟩ := hQ39
          have N39 := Fr.app N38 M39
          show Go p e below _ (T39.setTop (mkF m 111 #[.val (.long q0), .second, .val (.long q1), .second, .val (.long q2), .second, .val (.long q3), .second, .val (.int p4), .val (.long z1), .second, .val (.long z2), .second, .val (.ref b3), .val (.ref b10), .val (.int z24), .val .null] [(.int (if z1 = q0 ∧ z2 = q1 then (1 : Int32) else 0))]))
          refine Go.st (fun _ => XS.iload X39.here hx rfl (hb hby at_111) rfl) ?_
          show Go p e below _ (T39.setTop (mkF m 113 #[.val (.long q0), .second, .val (.long q1), .second, .val (.long q2), .second, .val (.long q3), .second, .val (.int p4), .val (.long z1), .second, .val (.long z2), .second, .val (.ref b3), .val (.ref b10), .val (.int z24), .val .null] [(.int z24), (.int (if z1 = q0 ∧ z2 = q1 then (1 : Int32) else 0))]))
          refine Go.st (fun _ => XS.icmpNo X39.here hx rfl (hb hby at_113) rfl (teq hz24.symm).2) ?_
          show Go p e below _ (T39.setTop (mkF m 116 #[.val (.long q0), .second, .val (.long q1), .second, .val (.long q2), .second, .val (.long q3), .second, .val (.int p4), .val (.long z1), .second, .val (.long z2), .second, .val (.ref b3), .val (.ref b10), .val (.int z24), .val .null] []))
          refine Go.st (fun _ => XS.aload X39.here hx rfl (hb hby at_116) rfl rfl) ?_
          show Go p e below _ (T39.setTop (mkF m 118 #[.val (.long q0), .second, .val (.long q1), .second, .val (.long q2), .second, .val (.long q3), .second, .val (.int p4), .val (.long z1), .second, .val (.long z2), .second, .val (.ref b3), .val (.ref b10), .val (.int z24), .val .null] [(.ref b3)]))
          refine Go.st (fun _ => XS.aload X39.here hx rfl (hb hby at_118) rfl rfl) ?_
          show Go p e below _ (T39.setTop (mkF m 120 #[.val (.long q0), .second, .val (.long q1), .second, .val (.long q2), .second, .val (.long q3), .second, .val (.int p4), .val (.long z1), .second, .val (.long z2), .second, .val (.ref b3), .val (.ref b10), .val (.int z24), .val .null] [(.ref b3), (.ref b3)]))
          refine goVirt X39 hx hZ (y := (⟨"com/example/oghma/oghma/cli/ServerHome$ProcessIdentity", "equals", "(Ljava/lang/Object;)Z"⟩ : MethodName)) (z := (⟨"com/example/oghma/oghma/cli/ServerHome$ProcessIdentity", "equals", "(Ljava/lang/Object;)Z"⟩ : MethodName)) hown (hw _ (List.mem_of_getElem? (i := 21) rfl)) (hw _ (List.mem_of_getElem? (i := 22) rfl)) (notFace_of_selects (args := #[]) (mvT hZ (hw _ (List.mem_of_getElem? (i := 24) rfl)))) (hw _ (List.mem_of_getElem? (i := 24) rfl)) (hw _ (List.mem_of_getElem? (i := 23) rfl)) (hw _ (List.mem_of_getElem? (i := 2) rfl)) (hw _ (List.mem_of_getElem? (i := 25) rfl)) (by decide) (a := b3) (argsL := [(.ref b3)]) (rest := []) e39 E_20 (rm2 l Z a0 hw [] b3 b3 q0 q1 q0 q1 T18.heap n0 O19 E_20 F21 F22 F21 F22) 0 (by decide) (by decide) (by decide) (by decide) (mkF m 120 #[.val (.long q0), .second, .val (.long q1), .second, .val (.long q2), .second, .val (.long q3), .second, .val (.int p4), .val (.long z1), .second, .val (.long z2), .second, .val (.ref b3), .val (.ref b10), .val (.int z24), .val .null] [(.ref b3), (.ref b3)]) rfl (by rw [hml]; rfl) (lenOf pd_4 rfl) rfl (hb hby at_120) (Nat.le_of_eq rfl) ?_
          intro v40 T40 L40 X40 hQ40
          obtain ⟨rfl, M40, e40⟩ := hQ40
          have N40 := Fr.app N39 M40
          show Go p e below _ (T40.setTop (mkF m 123 #[.val (.long q0), .second, .val (.long q1), .second, .val (.long q2), .second, .val (.long q3), .second, .val (.int p4), .val (.long z1), .second, .val (.long z2), .second, .val (.ref b3), .val (.ref b10), .val (.int z24), .val .null] [(.int (if q0 = q0 ∧ q1 = q1 then (1 : Int32) else 0))]))
          refine Go.st (fun _ => XS.ifNo X40.here hx rfl (hb hby at_123) rfl ((if0 _ _).trans (feq (by simp)).1)) ?_
          show Go p e below _ (T40.setTop (mkF m 126 #[.val (.long q0), .second, .val (.long q1), .second, .val (.long q2), .second, .val (.long q3), .second, .val (.int p4), .val (.long z1), .second, .val (.long z2), .second, .val (.ref b3), .val (.ref b10), .val (.int z24), .val .null] []))
          refine Go.st (fun _ => XS.aload X40.here hx rfl (hb hby at_126) rfl rfl) ?_
          show Go p e below _ (T40.setTop (mkF m 128 #[.val (.long q0), .second, .val (.long q1), .second, .val (.long q2), .second, .val (.long q3), .second, .val (.int p4), .val (.long z1), .second, .val (.long z2), .second, .val (.ref b3), .val (.ref b10), .val (.int z24), .val .null] [(.ref b3)]))
          refine Go.st (fun _ => XS.aload X40.here hx rfl (hb hby at_128) rfl rfl) ?_
          show Go p e below _ (T40.setTop (mkF m 130 #[.val (.long q0), .second, .val (.long q1), .second, .val (.long q2), .second, .val (.long q3), .second, .val (.int p4), .val (.long z1), .second, .val (.long z2), .second, .val (.ref b3), .val (.ref b10), .val (.int z24), .val .null] [.null, (.ref b3)]))
          refine goVirt X40 hx hZ (y := (⟨"com/example/oghma/oghma/cli/ServerHome$ProcessIdentity", "equals", "(Ljava/lang/Object;)Z"⟩ : MethodName)) (z := (⟨"com/example/oghma/oghma/cli/ServerHome$ProcessIdentity", "equals", "(Ljava/lang/Object;)Z"⟩ : MethodName)) hown (hw _ (List.mem_of_getElem? (i := 21) rfl)) (hw _ (List.mem_of_getElem? (i := 22) rfl)) (notFace_of_selects (args := #[]) (mvT hZ (hw _ (List.mem_of_getElem? (i := 24) rfl)))) (hw _ (List.mem_of_getElem? (i := 24) rfl)) (hw _ (List.mem_of_getElem? (i := 23) rfl)) (hw _ (List.mem_of_getElem? (i := 2) rfl)) (hw _ (List.mem_of_getElem? (i := 25) rfl)) (by decide) (a := b3) (argsL := [.null]) (rest := []) e40 E_20 (rm3 l Z a0 hw [] b3 T18.heap n0 O19) 0 (by decide) (by decide) (by decide) (by decide) (mkF m 130 #[.val (.long q0), .second, .val (.long q1), .second, .val (.long q2), .second, .val (.long q3), .second, .val (.int p4), .val (.long z1), .second, .val (.long z2), .second, .val (.ref b3), .val (.ref b10), .val (.int z24), .val .null] [.null, (.ref b3)]) rfl (by rw [hml]; rfl) (lenOf pd_4 rfl) rfl (hb hby at_130) (Nat.le_of_eq rfl) ?_
          intro v41 T41 L41 X41 hQ41
          obtain ⟨rfl, M41, e41⟩ := hQ41
          have N41 := Fr.app N40 M41
          show Go p e below _ (T41.setTop (mkF m 133 #[.val (.long q0), .second, .val (.long q1), .second, .val (.long q2), .second, .val (.long q3), .second, .val (.int p4), .val (.long z1), .second, .val (.long z2), .second, .val (.ref b3), .val (.ref b10), .val (.int z24), .val .null] [(.int (0 : Int32))]))
          refine Go.st (fun _ => XS.ifNo X41.here hx rfl (hb hby at_133) rfl ((if0 _ _).trans (teq (by decide : (0 : Int32) = (0 : Int32))).2)) ?_
          show Go p e below _ (T41.setTop (mkF m 136 #[.val (.long q0), .second, .val (.long q1), .second, .val (.long q2), .second, .val (.long q3), .second, .val (.int p4), .val (.long z1), .second, .val (.long z2), .second, .val (.ref b3), .val (.ref b10), .val (.int z24), .val .null] []))
          refine Go.st (fun _ => XS.iconst X41.here hx rfl (hb hby at_136)) ?_
          show Go p e below _ (T41.setTop (mkF m 137 #[.val (.long q0), .second, .val (.long q1), .second, .val (.long q2), .second, .val (.long q3), .second, .val (.int p4), .val (.long z1), .second, .val (.long z2), .second, .val (.ref b3), .val (.ref b10), .val (.int z24), .val .null] [(.int (1 : Int32))]))
          refine Go.st (fun _ => XS.goto X41.here hx rfl (pc0 := 137) (pc' := 141) rfl (hb hby at_137) (by decide) (by decide)) ?_
          show Go p e below _ (T41.setTop (mkF m 141 #[.val (.long q0), .second, .val (.long q1), .second, .val (.long q2), .second, .val (.long q3), .second, .val (.int p4), .val (.long z1), .second, .val (.long z2), .second, .val (.ref b3), .val (.ref b10), .val (.int z24), .val .null] [(.int (1 : Int32))]))
          exact goRetN X41 hx hlk hret (t := .boolean) (by simp) (w := (1 : Int32)) (by decide) e41 (hb hby at_141) (by decide) (by decide) ⟨rfl, N41⟩
      · show Go p e below _ (T18.setTop (mkF m 58 #[.val (.long q0), .second, .val (.long q1), .second, .val (.long q2), .second, .val (.long q3), .second, .val (.int p4), .val (.long z1), .second, .val (.long z2), .second, .val (.ref b3), .val (.ref b10), .unset, .unset] [(.int (lcmpW z1 q0))]))
        by_cases hc42 : z1 = q0
        · refine Go.st (fun _ => XS.ifNo X18.here hx rfl (hb hby at_58) rfl ((if0 _ _).trans (teq ((lw_eq _ _).mpr hc42)).2)) ?_
          show Go p e below _ (T18.setTop (mkF m 61 #[.val (.long q0), .second, .val (.long q1), .second, .val (.long q2), .second, .val (.long q3), .second, .val (.int p4), .val (.long z1), .second, .val (.long z2), .second, .val (.ref b3), .val (.ref b10), .unset, .unset] []))
          refine Go.st (fun _ => XS.lload X18.here hx rfl (hb hby at_61) rfl) ?_
          show Go p e below _ (T18.setTop (mkF m 63 #[.val (.long q0), .second, .val (.long q1), .second, .val (.long q2), .second, .val (.long q3), .second, .val (.int p4), .val (.long z1), .second, .val (.long z2), .second, .val (.ref b3), .val (.ref b10), .unset, .unset] [(.long z2)]))
          refine Go.st (fun _ => XS.lloadN X18.here hx rfl (hb hby at_63) rfl) ?_
          show Go p e below _ (T18.setTop (mkF m 64 #[.val (.long q0), .second, .val (.long q1), .second, .val (.long q2), .second, .val (.long q3), .second, .val (.int p4), .val (.long z1), .second, .val (.long z2), .second, .val (.ref b3), .val (.ref b10), .unset, .unset] [(.long q1), (.long z2)]))
          refine Go.st (fun _ => XS.lcmp X18.here hx rfl (hb hby at_64) rfl) ?_
          show Go p e below _ (T18.setTop (mkF m 65 #[.val (.long q0), .second, .val (.long q1), .second, .val (.long q2), .second, .val (.long q3), .second, .val (.int p4), .val (.long z1), .second, .val (.long z2), .second, .val (.ref b3), .val (.ref b10), .unset, .unset] [(.int (lcmpW z2 q1))]))
          by_cases hc43 : z2 = q1
          · refine Go.st (fun _ => XS.ifNo X18.here hx rfl (hb hby at_65) rfl ((if0 _ _).trans (teq ((lw_eq _ _).mpr hc43)).2)) ?_
            show Go p e below _ (T18.setTop (mkF m 68 #[.val (.long q0), .second, .val (.long q1), .second, .val (.long q2), .second, .val (.long q3), .second, .val (.int p4), .val (.long z1), .second, .val (.long z2), .second, .val (.ref b3), .val (.ref b10), .unset, .unset] []))
            refine Go.st (fun _ => XS.iconst X18.here hx rfl (hb hby at_68)) ?_
            show Go p e below _ (T18.setTop (mkF m 69 #[.val (.long q0), .second, .val (.long q1), .second, .val (.long q2), .second, .val (.long q3), .second, .val (.int p4), .val (.long z1), .second, .val (.long z2), .second, .val (.ref b3), .val (.ref b10), .unset, .unset] [(.int (1 : Int32))]))
            refine Go.st (fun _ => XS.goto X18.here hx rfl (pc0 := 69) (pc' := 73) rfl (hb hby at_69) (by decide) (by decide)) ?_
            exact J24 _ (by simp [hc42, hc43])
          · refine Go.st (fun _ => XS.ifYes X18.here hx rfl (pc0 := 65) (pc' := 72) rfl (hb hby at_65) rfl ((if0 _ _).trans (feq (fun q => hc43 ((lw_eq _ _).mp q))).2) (by decide) (by decide)) ?_
            show Go p e below _ (T18.setTop (mkF m 72 #[.val (.long q0), .second, .val (.long q1), .second, .val (.long q2), .second, .val (.long q3), .second, .val (.int p4), .val (.long z1), .second, .val (.long z2), .second, .val (.ref b3), .val (.ref b10), .unset, .unset] []))
            refine Go.st (fun _ => XS.iconst X18.here hx rfl (hb hby at_72)) ?_
            exact J24 _ (by simp [hc42, hc43])
        · refine Go.st (fun _ => XS.ifYes X18.here hx rfl (pc0 := 58) (pc' := 72) rfl (hb hby at_58) rfl ((if0 _ _).trans (feq (fun q => hc42 ((lw_eq _ _).mp q))).2) (by decide) (by decide)) ?_
          show Go p e below _ (T18.setTop (mkF m 72 #[.val (.long q0), .second, .val (.long q1), .second, .val (.long q2), .second, .val (.long q3), .second, .val (.int p4), .val (.long z1), .second, .val (.long z2), .second, .val (.ref b3), .val (.ref b10), .unset, .unset] []))
          refine Go.st (fun _ => XS.iconst X18.here hx rfl (hb hby at_72)) ?_
          exact J24 _ (by simp [hc42])
    · show Go p e below _ (s₁.setTop (mkF m 19 #[.val (.long q0), .second, .val (.long q1), .second, .val (.long q2), .second, .val (.long q3), .second, .val (.int p4), .val (.long z1), .second, .unset, .unset, .unset, .unset, .unset, .unset] [(.int (p4 &&& (2 : Int32)))]))
      by_cases hc44 : (p4 &&& (2 : Int32)) = (0 : Int32)
      · refine Go.st (fun _ => XS.ifYes X0.here hx rfl (pc0 := 19) (pc' := 26) rfl (hb hby at_19) rfl ((if0 _ _).trans (teq hc44).1) (by decide) (by decide)) ?_
        show Go p e below _ (s₁.setTop (mkF m 26 #[.val (.long q0), .second, .val (.long q1), .second, .val (.long q2), .second, .val (.long q3), .second, .val (.int p4), .val (.long z1), .second, .unset, .unset, .unset, .unset, .unset, .unset] []))
        refine Go.st (fun _ => XS.lload X0.here hx rfl (hb hby at_26) rfl) ?_
        exact J2 _ trivial
      · refine Go.st (fun _ => XS.ifNo X0.here hx rfl (hb hby at_19) rfl ((if0 _ _).trans (feq hc44).1)) ?_
        show Go p e below _ (s₁.setTop (mkF m 22 #[.val (.long q0), .second, .val (.long q1), .second, .val (.long q2), .second, .val (.long q3), .second, .val (.int p4), .val (.long z1), .second, .unset, .unset, .unset, .unset, .unset, .unset] []))
        refine Go.st (fun _ => XS.lloadN X0.here hx rfl (hb hby at_22) rfl) ?_
        show Go p e below _ (s₁.setTop (mkF m 23 #[.val (.long q0), .second, .val (.long q1), .second, .val (.long q2), .second, .val (.long q3), .second, .val (.int p4), .val (.long z1), .second, .unset, .unset, .unset, .unset, .unset, .unset] [(.long q1)]))
        refine Go.st (fun _ => XS.goto X0.here hx rfl (pc0 := 23) (pc' := 28) rfl (hb hby at_23) (by decide) (by decide)) ?_
        exact J2 _ trivial
  · show Go p e below _ (s₁.setTop (mkF m 4 #[.val (.long q0), .second, .val (.long q1), .second, .val (.long q2), .second, .val (.long q3), .second, .val (.int p4), .unset, .unset, .unset, .unset, .unset, .unset, .unset, .unset] [(.int (p4 &&& (1 : Int32)))]))
    by_cases hc45 : (p4 &&& (1 : Int32)) = (0 : Int32)
    · refine Go.st (fun _ => XS.ifYes X0.here hx rfl (pc0 := 4) (pc' := 11) rfl (hb hby at_4) rfl ((if0 _ _).trans (teq hc45).1) (by decide) (by decide)) ?_
      show Go p e below _ (s₁.setTop (mkF m 11 #[.val (.long q0), .second, .val (.long q1), .second, .val (.long q2), .second, .val (.long q3), .second, .val (.int p4), .unset, .unset, .unset, .unset, .unset, .unset, .unset, .unset] []))
      refine Go.st (fun _ => XS.lload X0.here hx rfl (hb hby at_11) rfl) ?_
      exact J1 _ trivial
    · refine Go.st (fun _ => XS.ifNo X0.here hx rfl (hb hby at_4) rfl ((if0 _ _).trans (feq hc45).1)) ?_
      show Go p e below _ (s₁.setTop (mkF m 7 #[.val (.long q0), .second, .val (.long q1), .second, .val (.long q2), .second, .val (.long q3), .second, .val (.int p4), .unset, .unset, .unset, .unset, .unset, .unset, .unset, .unset] []))
      refine Go.st (fun _ => XS.lloadN X0.here hx rfl (hb hby at_7) rfl) ?_
      show Go p e below _ (s₁.setTop (mkF m 8 #[.val (.long q0), .second, .val (.long q1), .second, .val (.long q2), .second, .val (.long q3), .second, .val (.int p4), .unset, .unset, .unset, .unset, .unset, .unset, .unset, .unset] [(.long q0)]))
      refine Go.st (fun _ => XS.goto X0.here hx rfl (pc0 := 8) (pc' := 13) rfl (hb hby at_8) (by decide) (by decide)) ?_
      exact J1 _ trivial
set_option maxRecDepth 65536 in
set_option maxHeartbeats 40000000 in
theorem comes_1 {Post : Tables → Env → Array Value → State → Outcome → State → Prop} (hpost : ∀ tb e args s v u, (limb_1_1.after args s (.returned v) u = true ∧ limb_1_2.after args s (.returned v) u = true ∧ True) → FrameEnd s (.returned v) u (Jvm.fieldLocs frame_1_writes args s ++ Jvm.arrayLocs frame_1_arrays args s ++ Jvm.staticLocs frame_1_statics s) 16 128 → Post tb e args s (.returned v) u) :
    ArmFor flags0 classFile x code maxLocals ret World_1 tables_1 room_1 Calls_1 rest_1 Pre_1 Post := by
  intro l hfl _ _ p e ha hc hk s m args below hf hA hF happ hP
  obtain ⟨hcalls, hrest, hpre⟩ := hP
  obtain ⟨-, -, -, hnamed, -, -, -, hat⟩ := (Spec.applies_iff hf).mp happ
  obtain ⟨hg, hn⟩ := and_e (Cond.before_iff.mp (show (Jvm.Cond.and given_1 narrow_1).before args s = true from hpre))
  obtain ⟨g1, g2⟩ := and_e hg
  obtain ⟨g3, g4⟩ := and_e g2
  obtain ⟨g5, g6⟩ := and_e g4
  obtain ⟨g7, g8⟩ := and_e g6
  obtain ⟨g9, g10⟩ := and_e g8
  obtain ⟨w0, w1, w2, w3, w4, rfl⟩ : ∃ w0 w1 w2 w3 w4 : Value, args = #[w0, w1, w2, w3, w4] := by
    have hs : args.size = 5 := by simpa [Cond.value, given_1] using g1
    obtain ⟨L⟩ := args
    match L, hs with
    | [w0, w1, w2, w3, w4], _ => exact ⟨w0, w1, w2, w3, w4, rfl⟩
  have hw := fun d (hd : d ∈ tables_1) => atoms_spec (ws := Jvm.Cond.code x code maxLocals ret :: tables_1) hat d (List.mem_cons_of_mem _ hd)
  have hfit : Fit s := fun {y c} hc i hi => by
    obtain ⟨ha, rfl⟩ := Array.getElem?_eq_some_iff.mp hc
    have q := List.all_eq_true.mp ((Array.all_eq_true_iff_forall_mem.mp hF) _ (Array.getElem_mem ha)) i (List.mem_range.mpr hi)
    simpa [Array.getElem?_eq_getElem hi] using q
  obtain ⟨hsets, hown0⟩ := atoms_of _ (rest_1_c_eq ▸ (show rest_1_c.before _ s = true from hrest))
  obtain ⟨i0, ei0⟩ := isL_v g3
  obtain rfl : w0 = (.long i0) := Option.some.inj ei0
  obtain ⟨i1, ei1⟩ := isL_v g5
  obtain rfl : w1 = (.long i1) := Option.some.inj ei1
  obtain ⟨i2, ei2⟩ := isL_v g7
  obtain rfl : w2 = (.long i2) := Option.some.inj ei2
  obtain ⟨i3, ei3⟩ := isL_v g9
  obtain rfl : w3 = (.long i3) := Option.some.inj ei3
  obtain ⟨i4, ei4⟩ := is_v g10
  obtain rfl : w4 = (.int i4) := Option.some.inj ei4
  have hb2 := Cond.before_iff.mp (hsets _ (List.mem_of_getElem? (i := 2) rfl))
  obtain ⟨wc, evc⟩ := arr_v hb2
  obtain ⟨cl, Arc⟩ := Arr.start evc hb2
  have S_cache := Sta.start evc (Or.inl (hsets _ (List.mem_of_getElem? (i := 1) rfl)))
  obtain ⟨hlt, hle⟩ := lenStart evc (Arc.fin (Vm.Alike.refl _)) (Cond.before_iff.mp (hsets _ (List.mem_of_getElem? (i := 4) rfl)))
  have BX : Bxs s wc cl "java/lang/Long" "J" 256 (fun j => (.long (j - 128).toInt64)) := Bxs.start (fun _ => evc) Arc hlt hle (by decide) (Cond.before_iff.mp (hsets _ (List.mem_of_getElem? (i := 5) rfl))) (fun X j nn hX => eqv_l (i2l_at (subAt (idx_at nn) (Term.int_eval 128))) hX)
  obtain ⟨n, o, h1, h2, h3, _, L, rfl, ⟨rfl, N⟩, hq⟩ := rm0 l s _ hw tables_1 i0 i1 i2 i3 i4 wc cl s.heap s.heap.size (Old.start s) S_cache BX p e ha hc hk s m _ below hf ((Spec.applies_iff_loose hf).mp happ).1 ⟨rfl, State.Warmed39.refl s, rfl⟩ trivial
  refine ⟨n, _, h1, h2, h3, hpost _ _ _ _ _ _ ⟨Cond.after_iff.mpr rfl, Cond.after_iff.mpr (eq_i res_at (Term.int_eval (1)) rfl), trivial⟩ ⟨hq.1, hq.2.1, (hq.2.2.sift fun y hy => Or.inr (N y hy)).mono (by decide) (by decide)⟩⟩
theorem main_1_1 : Claimed_1_1 := comes_1 fun _ _ _ _ _ _ h hF => ⟨h.1, hF⟩
theorem main_1_2 : Claimed_1_2 := comes_1 fun _ _ _ _ _ _ h hF => ⟨h.2.1, hF⟩
end Jvm.Pilot.@@N@@
namespace Jvm.Pilot.@@N@@
open Jvm Jvm.ClassFile Sem Op Lib Jvm.Free Jvm.Stand Jvm.Pilot.@@N@@.Jvm.D
/-! MADE BY PROGRAM (witnessworld.py) out of the Statement's table words and the real class files: 16 classes; the members and pool entries that the words name. The judged class is class 1, her method 1. -/
namespace start1
open Jvm.ClassFile
def u (s : String) : CpInfo := .utf8 (stringToUtf16 s)
/-- a pool by its gaps: so many unusable entries, then the entry; so many at the end -/
def gap : Nat → List CpInfo → List CpInfo
  | 0, r => r
  | n + 1, r => .unusable :: gap n r
def poolList (es : List (Nat × CpInfo)) (last : Nat) : List CpInfo := es.foldr (fun e r => gap e.1 (e.2 :: r)) (gap last [])
def pool (es : List (Nat × CpInfo)) (last : Nat) : Array CpInfo := ⟨poolList es last⟩
def fileOf (pool : Array CpInfo) (this : Nat) (attrs : Array Attribute := #[]) (ms : Array MethodInfo := #[]) (fl : Nat := 33) (sup : Nat := 0) (ifs : Array Nat := #[]) (fds : Array FieldInfo := #[]) : ClassFile where
  minorVersion := 0
  majorVersion := 65
  constantPool := pool
  accessFlags := fl
  thisClass := this
  superClass := sup
  interfaces := ifs
  fields := fds
  methods := ms
  attributes := attrs
def plain (name : String) (sup : Option ClassId) : Class where
  name := name
  kind := .ordinary
  loader := none
  accessFlags := 33
  super := sup
  interfaces := #[]
  cf := none
  fields := #[]
  methods := #[]
  instanceTypes := #[]
  staticTypes := #[]
  resolved := #[]
  callSites := []
  init := .initialized
  statics := none
  mirror := none

def pool0 : Array CpInfo := pool [(5, u "<init>"), (0, u "()V"), (1, .class_ 10), (1, u "java/lang/Object")] 113

def k0c0 : Code := { maxStack := 0, maxLocals := 1, code := object_method_1_code, exceptionTable := #[], attributes := #[] }
def k0m0 : Method := { name := "<init>", desc := "()V", sig := { parameters := [], returnType := none }, accessFlags := 1, code := some k0c0 }
/-- java/lang/Object -/
def k0 : Class := { plain "java/lang/Object" none with
  accessFlags := 33
  interfaces := #[]
  cf := some (fileOf pool0 8 #[] #[{ accessFlags := 1, nameIndex := 5, descriptorIndex := 6, attributes := #[] }] 33 0 #[] #[])
  fields := #[]
  methods := #[k0m0]
  instanceTypes := #[]
  staticTypes := #[]
  resolved := Array.replicate 124 none
  statics := none }

def pool1 : Array CpInfo := pool [(2, .class_ 4), (1, u "java/lang/Object"), (0, u "<init>"), (0, u "()V"), (0, .class_ 8), (0, u "com/example/oghma/oghma/cli/ServerHome$ProcessIdentity"), (0, .methodref 7 10), (0, .nameAndType 5 11), (0, u "(JJ)V"), (0, .methodref 13 14), (0, .class_ 15), (0, .nameAndType 16 17), (0, u "java/lang/Long"), (0, u "valueOf"), (0, u "(J)Ljava/lang/Long;"), (0, .methodref 7 19), (0, .nameAndType 20 21), (0, u "equals"), (0, u "(Ljava/lang/Object;)Z"), (0, .class_ 23), (0, u "com/example/oghma/oghma/cli/ProcessIdentityEqualsPinLaw"), (2, u "law"), (0, u "(JJJJI)Z")] 7

def k1m0 : Method := { name := "<init>", desc := "()V", sig := { parameters := [], returnType := none }, accessFlags := 1, code := none }
def k1c1 : Code := { maxStack := 6, maxLocals := 17, code := code, exceptionTable := #[], attributes := #[] }
def k1m1 : Method := { name := "law", desc := "(JJJJI)Z", sig := { parameters := [.long, .long, .long, .long, .int], returnType := some .boolean }, accessFlags := 9, code := some k1c1 }
/-- com/example/oghma/oghma/cli/ProcessIdentityEqualsPinLaw -/
def k1 : Class := { plain "com/example/oghma/oghma/cli/ProcessIdentityEqualsPinLaw" (some 0) with
  accessFlags := 49
  interfaces := #[]
  cf := some (fileOf pool1 22 #[] #[{ accessFlags := 1, nameIndex := 5, descriptorIndex := 6, attributes := #[] }, { accessFlags := 9, nameIndex := 26, descriptorIndex := 27, attributes := #[] }] 49 2 #[] #[])
  fields := #[]
  methods := #[k1m0, k1m1]
  instanceTypes := #[]
  staticTypes := #[]
  resolved := Array.replicate 35 none
  statics := none }

def pool2 : Array CpInfo := pool [(1, .methodref 2 3), (0, .class_ 4), (0, .nameAndType 5 6), (0, u "java/lang/Object"), (0, u "<init>"), (0, u "()V"), (0, .fieldref 8 9), (0, .class_ 10), (0, .nameAndType 11 12), (0, u "com/example/oghma/oghma/cli/ServerHome$ProcessIdentity"), (0, u "pid"), (0, u "J"), (0, .fieldref 8 14), (0, .nameAndType 15 12), (0, u "startTime"), (20, u "(JJ)V"), (3, .class_ 42), (1, u "com/example/oghma/oghma/cli/ServerHome"), (13, u "MAX_LENGTH"), (0, u "I"), (14, u "equals"), (0, u "(Ljava/lang/Object;)Z")] 21

def k2c0 : Code := { maxStack := 3, maxLocals := 5, code := prog_18_method_1_code, exceptionTable := #[], attributes := #[] }
def k2m0 : Method := { name := "<init>", desc := "(JJ)V", sig := { parameters := [.long, .long], returnType := none }, accessFlags := 0, code := some k2c0 }
def k2c1 : Code := { maxStack := 4, maxLocals := 3, code := prog_18_method_5_code, exceptionTable := #[], attributes := #[] }
def k2m1 : Method := { name := "equals", desc := "(Ljava/lang/Object;)Z", sig := { parameters := [(.object "java/lang/Object")], returnType := some .boolean }, accessFlags := 1, code := some k2c1 }
/-- com/example/oghma/oghma/cli/ServerHome$ProcessIdentity -/
def k2 : Class := { plain "com/example/oghma/oghma/cli/ServerHome$ProcessIdentity" (some 0) with
  accessFlags := 48
  interfaces := #[]
  cf := some (fileOf pool2 8 #[.nestHost 40] #[{ accessFlags := 0, nameIndex := 5, descriptorIndex := 36, attributes := #[] }, { accessFlags := 1, nameIndex := 72, descriptorIndex := 73, attributes := #[] }] 48 2 #[] #[{ accessFlags := 24, nameIndex := 56, descriptorIndex := 57, attributes := #[] }, { accessFlags := 18, nameIndex := 11, descriptorIndex := 12, attributes := #[] }, { accessFlags := 18, nameIndex := 15, descriptorIndex := 12, attributes := #[] }])
  fields := #[{ name := "MAX_LENGTH", type := .int, accessFlags := 24, slot := 0, constantValue := 0 }, { name := "pid", type := .long, accessFlags := 18, slot := 0, constantValue := 0 }, { name := "startTime", type := .long, accessFlags := 18, slot := 1, constantValue := 0 }]
  methods := #[k2m0, k2m1]
  instanceTypes := #[.long, .long]
  staticTypes := #[.int]
  resolved := Array.replicate 95 none
  statics := none }

def pool3 : Array CpInfo := pool [(1, .class_ 2), (0, u "java/io/Serializable"), (0, .class_ 4), (0, u "java/lang/Object")] 2

/-- java/io/Serializable -/
def k3 : Class := { plain "java/io/Serializable" (some 0) with
  accessFlags := 1537
  interfaces := #[]
  cf := some (fileOf pool3 1 #[] #[] 1537 3 #[] #[])
  fields := #[]
  methods := #[]
  instanceTypes := #[]
  staticTypes := #[]
  resolved := Array.replicate 7 none
  statics := none }

def pool4 : Array CpInfo := pool [(1, .methodref 2 3), (0, .class_ 4), (0, .nameAndType 5 6), (0, u "java/lang/Object"), (0, u "<init>"), (0, u "()V"), (1, .class_ 10), (1, u "java/lang/Number"), (2, .class_ 14), (0, u "java/io/Serializable"), (0, u "serialVersionUID"), (0, u "J")] 20

def k4c0 : Code := { maxStack := 1, maxLocals := 1, code := jdk_18_method_1_code, exceptionTable := #[], attributes := #[] }
def k4m0 : Method := { name := "<init>", desc := "()V", sig := { parameters := [], returnType := none }, accessFlags := 1, code := some k4c0 }
/-- java/lang/Number -/
def k4 : Class := { plain "java/lang/Number" (some 0) with
  accessFlags := 1057
  interfaces := #[3]
  cf := some (fileOf pool4 8 #[] #[{ accessFlags := 1, nameIndex := 5, descriptorIndex := 6, attributes := #[] }] 1057 2 #[13] #[{ accessFlags := 26, nameIndex := 15, descriptorIndex := 16, attributes := #[] }])
  fields := #[{ name := "serialVersionUID", type := .long, accessFlags := 26, slot := 0, constantValue := 0 }]
  methods := #[k4m0]
  instanceTypes := #[]
  staticTypes := #[.long]
  resolved := Array.replicate 37 none
  statics := none }

def pool5 : Array CpInfo := pool [(1, .class_ 2), (0, u "java/lang/Comparable"), (0, .class_ 4), (0, u "java/lang/Object")] 7

/-- java/lang/Comparable -/
def k5 : Class := { plain "java/lang/Comparable" (some 0) with
  accessFlags := 1537
  interfaces := #[]
  cf := some (fileOf pool5 1 #[] #[] 1537 3 #[] #[])
  fields := #[]
  methods := #[]
  instanceTypes := #[]
  staticTypes := #[]
  resolved := Array.replicate 12 none
  statics := none }

def pool6 : Array CpInfo := pool [(1, .class_ 2), (0, u "java/lang/constant/Constable"), (0, .class_ 4), (0, u "java/lang/Object")] 6

/-- java/lang/constant/Constable -/
def k6 : Class := { plain "java/lang/constant/Constable" (some 0) with
  accessFlags := 1537
  interfaces := #[]
  cf := some (fileOf pool6 1 #[] #[] 1537 3 #[] #[])
  fields := #[]
  methods := #[]
  instanceTypes := #[]
  staticTypes := #[]
  resolved := Array.replicate 11 none
  statics := none }

def pool7 : Array CpInfo := pool [(1, .class_ 2), (0, u "java/lang/constant/ConstantDesc"), (0, .class_ 4), (0, u "java/lang/Object")] 32

/-- java/lang/constant/ConstantDesc -/
def k7 : Class := { plain "java/lang/constant/ConstantDesc" (some 0) with
  accessFlags := 1537
  interfaces := #[]
  cf := some (fileOf pool7 1 #[] #[] 1537 3 #[] #[])
  fields := #[]
  methods := #[]
  instanceTypes := #[]
  staticTypes := #[]
  resolved := Array.replicate 37 none
  statics := none }

def pool8 : Array CpInfo := pool [(1, .class_ 2), (0, u "java/lang/Long"), (55, .nameAndType 59 60), (0, u "<init>"), (0, u "()V"), (24, u "valueOf"), (143, u "(J)Ljava/lang/Long;"), (0, .long 18446744073709551488), (1, .long 127), (1, .fieldref 235 236), (0, .class_ 237), (0, .nameAndType 238 239), (0, u "java/lang/Long$LongCache"), (0, u "cache"), (0, u "[Ljava/lang/Long;"), (0, .methodref 1 241), (0, .nameAndType 59 242), (0, u "(J)V"), (27, .methodref 271 58), (0, .class_ 272), (0, u "java/lang/Number"), (0, .fieldref 1 274), (0, .nameAndType 275 276), (0, u "value"), (0, u "J"), (84, u "TYPE"), (0, u "Ljava/lang/Class;"), (0, .class_ 364), (0, u "java/lang/Comparable"), (0, .class_ 366), (0, u "java/lang/constant/Constable"), (0, .class_ 368), (0, u "java/lang/constant/ConstantDesc"), (0, u "MIN_VALUE"), (1, u "MAX_VALUE"), (4, u "SIZE"), (0, u "I"), (1, u "BYTES"), (1, u "serialVersionUID")] 142

def k8c0 : Code := { maxStack := 4, maxLocals := 3, code := jdk_35_method_24_code, exceptionTable := #[], attributes := #[] }
def k8m0 : Method := { name := "valueOf", desc := "(J)Ljava/lang/Long;", sig := { parameters := [.long], returnType := some (.object "java/lang/Long") }, accessFlags := 9, code := some k8c0 }
def k8c1 : Code := { maxStack := 3, maxLocals := 3, code := jdk_35_method_26_code, exceptionTable := #[], attributes := #[] }
def k8m1 : Method := { name := "<init>", desc := "(J)V", sig := { parameters := [.long], returnType := none }, accessFlags := 1, code := some k8c1 }
/-- java/lang/Long -/
def k8 : Class := { plain "java/lang/Long" (some 4) with
  accessFlags := 49
  interfaces := #[5, 6, 7]
  cf := some (fileOf pool8 1 #[.nestMembers #[235]] #[{ accessFlags := 9, nameIndex := 85, descriptorIndex := 229, attributes := #[] }, { accessFlags := 1, nameIndex := 59, descriptorIndex := 242, attributes := #[] }] 49 271 #[363, 365, 367] #[{ accessFlags := 25, nameIndex := 369, descriptorIndex := 276, attributes := #[] }, { accessFlags := 25, nameIndex := 371, descriptorIndex := 276, attributes := #[] }, { accessFlags := 25, nameIndex := 361, descriptorIndex := 362, attributes := #[] }, { accessFlags := 18, nameIndex := 275, descriptorIndex := 276, attributes := #[] }, { accessFlags := 25, nameIndex := 376, descriptorIndex := 377, attributes := #[] }, { accessFlags := 25, nameIndex := 379, descriptorIndex := 377, attributes := #[] }, { accessFlags := 26, nameIndex := 381, descriptorIndex := 276, attributes := #[] }])
  fields := #[{ name := "MIN_VALUE", type := .long, accessFlags := 25, slot := 0, constantValue := 0 }, { name := "MAX_VALUE", type := .long, accessFlags := 25, slot := 1, constantValue := 0 }, { name := "TYPE", type := (.object "java/lang/Class"), accessFlags := 25, slot := 2, constantValue := 0 }, { name := "value", type := .long, accessFlags := 18, slot := 0, constantValue := 0 }, { name := "SIZE", type := .int, accessFlags := 25, slot := 3, constantValue := 0 }, { name := "BYTES", type := .int, accessFlags := 25, slot := 4, constantValue := 0 }, { name := "serialVersionUID", type := .long, accessFlags := 26, slot := 5, constantValue := 0 }]
  methods := #[k8m0, k8m1]
  instanceTypes := #[.long]
  staticTypes := #[.long, .long, (.object "java/lang/Class"), .int, .int, .long]
  resolved := Array.replicate 524 none
  statics := none }

def pool9 : Array CpInfo := pool [(2, .class_ 4), (1, u "java/lang/Object"), (0, u "<init>"), (0, u "()V"), (0, .class_ 8), (0, u "java/lang/Long"), (7, .class_ 18), (1, u "java/lang/Long$LongCache"), (0, u "$assertionsDisabled"), (0, u "Z"), (8, u "archivedCache"), (0, u "[Ljava/lang/Long;"), (7, u "cache")] 24

def k9m0 : Method := { name := "<init>", desc := "()V", sig := { parameters := [], returnType := none }, accessFlags := 2, code := none }
/-- java/lang/Long$LongCache -/
def k9 : Class := { plain "java/lang/Long$LongCache" (some 0) with
  accessFlags := 48
  interfaces := #[]
  cf := some (fileOf pool9 16 #[.nestHost 7] #[{ accessFlags := 2, nameIndex := 5, descriptorIndex := 6, attributes := #[] }] 48 2 #[] #[{ accessFlags := 24, nameIndex := 38, descriptorIndex := 30, attributes := #[] }, { accessFlags := 8, nameIndex := 29, descriptorIndex := 30, attributes := #[] }, { accessFlags := 4120, nameIndex := 19, descriptorIndex := 20, attributes := #[] }])
  fields := #[{ name := "cache", type := (.array (.object "java/lang/Long")), accessFlags := 24, slot := 0, constantValue := 0 }, { name := "archivedCache", type := (.array (.object "java/lang/Long")), accessFlags := 8, slot := 1, constantValue := 0 }, { name := "$assertionsDisabled", type := .boolean, accessFlags := 4120, slot := 2, constantValue := 0 }]
  methods := #[k9m0]
  instanceTypes := #[]
  staticTypes := #[(.array (.object "java/lang/Long")), (.array (.object "java/lang/Long")), .boolean]
  resolved := Array.replicate 63 none
  statics := some 0 }

def pool10 : Array CpInfo := pool [(1, u "java/lang/Cloneable"), (0, .class_ 1), (0, u "java/lang/Object"), (0, .class_ 3)] 3

/-- java/lang/Cloneable -/
def k10 : Class := { plain "java/lang/Cloneable" (some 0) with
  accessFlags := 1537
  interfaces := #[]
  cf := some (fileOf pool10 2 #[] #[] 1537 4 #[] #[])
  fields := #[]
  methods := #[]
  instanceTypes := #[]
  staticTypes := #[]
  resolved := Array.replicate 8 none
  statics := none }

/-- the primitive byte -/
def k11 : Class := { plain "byte" none with kind := .primitive 'B', accessFlags := 0x411 }
/-- [B -/
def k12 : Class := { plain "[B" (some 0) with kind := .array 11 .byte, interfaces := #[10, 3], accessFlags := 1041 }

/-- the primitive int -/
def k13 : Class := { plain "int" none with kind := .primitive 'I', accessFlags := 0x411 }
/-- [I -/
def k14 : Class := { plain "[I" (some 0) with kind := .array 13 .int, interfaces := #[10, 3], accessFlags := 1041 }

/-- [Ljava/lang/Long; -/
def k15 : Class := { plain "[Ljava/lang/Long;" (some 0) with kind := .array 8 (.object "java/lang/Long"), interfaces := #[10, 3], accessFlags := 1041 }

def heap : Heap := #[{ cls := 9, slots := #[.ref 1, .null, .int 0], vm := .statics 9 },
  { cls := 15, slots := #[.ref 2, .ref 3, .ref 4, .ref 5, .ref 6, .ref 7, .ref 8, .ref 9, .ref 10, .ref 11, .ref 12, .ref 13, .ref 14, .ref 15, .ref 16, .ref 17, .ref 18, .ref 19, .ref 20, .ref 21, .ref 22, .ref 23, .ref 24, .ref 25, .ref 26, .ref 27, .ref 28, .ref 29, .ref 30, .ref 31, .ref 32, .ref 33, .ref 34, .ref 35, .ref 36, .ref 37, .ref 38, .ref 39, .ref 40, .ref 41, .ref 42, .ref 43, .ref 44, .ref 45, .ref 46, .ref 47, .ref 48, .ref 49, .ref 50, .ref 51, .ref 52, .ref 53, .ref 54, .ref 55, .ref 56, .ref 57, .ref 58, .ref 59, .ref 60, .ref 61, .ref 62, .ref 63, .ref 64, .ref 65, .ref 66, .ref 67, .ref 68, .ref 69, .ref 70, .ref 71, .ref 72, .ref 73, .ref 74, .ref 75, .ref 76, .ref 77, .ref 78, .ref 79, .ref 80, .ref 81, .ref 82, .ref 83, .ref 84, .ref 85, .ref 86, .ref 87, .ref 88, .ref 89, .ref 90, .ref 91, .ref 92, .ref 93, .ref 94, .ref 95, .ref 96, .ref 97, .ref 98, .ref 99, .ref 100, .ref 101, .ref 102, .ref 103, .ref 104, .ref 105, .ref 106, .ref 107, .ref 108, .ref 109, .ref 110, .ref 111, .ref 112, .ref 113, .ref 114, .ref 115, .ref 116, .ref 117, .ref 118, .ref 119, .ref 120, .ref 121, .ref 122, .ref 123, .ref 124, .ref 125, .ref 126, .ref 127, .ref 128, .ref 129, .ref 130, .ref 131, .ref 132, .ref 133, .ref 134, .ref 135, .ref 136, .ref 137, .ref 138, .ref 139, .ref 140, .ref 141, .ref 142, .ref 143, .ref 144, .ref 145, .ref 146, .ref 147, .ref 148, .ref 149, .ref 150, .ref 151, .ref 152, .ref 153, .ref 154, .ref 155, .ref 156, .ref 157, .ref 158, .ref 159, .ref 160, .ref 161, .ref 162, .ref 163, .ref 164, .ref 165, .ref 166, .ref 167, .ref 168, .ref 169, .ref 170, .ref 171, .ref 172, .ref 173, .ref 174, .ref 175, .ref 176, .ref 177, .ref 178, .ref 179, .ref 180, .ref 181, .ref 182, .ref 183, .ref 184, .ref 185, .ref 186, .ref 187, .ref 188, .ref 189, .ref 190, .ref 191, .ref 192, .ref 193, .ref 194, .ref 195, .ref 196, .ref 197, .ref 198, .ref 199, .ref 200, .ref 201, .ref 202, .ref 203, .ref 204, .ref 205, .ref 206, .ref 207, .ref 208, .ref 209, .ref 210, .ref 211, .ref 212, .ref 213, .ref 214, .ref 215, .ref 216, .ref 217, .ref 218, .ref 219, .ref 220, .ref 221, .ref 222, .ref 223, .ref 224, .ref 225, .ref 226, .ref 227, .ref 228, .ref 229, .ref 230, .ref 231, .ref 232, .ref 233, .ref 234, .ref 235, .ref 236, .ref 237, .ref 238, .ref 239, .ref 240, .ref 241, .ref 242, .ref 243, .ref 244, .ref 245, .ref 246, .ref 247, .ref 248, .ref 249, .ref 250, .ref 251, .ref 252, .ref 253, .ref 254, .ref 255, .ref 256, .ref 257], vm := .none },
  { cls := 8, slots := #[.long (-128)], vm := .none },
  { cls := 8, slots := #[.long (-127)], vm := .none },
  { cls := 8, slots := #[.long (-126)], vm := .none },
  { cls := 8, slots := #[.long (-125)], vm := .none },
  { cls := 8, slots := #[.long (-124)], vm := .none },
  { cls := 8, slots := #[.long (-123)], vm := .none },
  { cls := 8, slots := #[.long (-122)], vm := .none },
  { cls := 8, slots := #[.long (-121)], vm := .none },
  { cls := 8, slots := #[.long (-120)], vm := .none },
  { cls := 8, slots := #[.long (-119)], vm := .none },
  { cls := 8, slots := #[.long (-118)], vm := .none },
  { cls := 8, slots := #[.long (-117)], vm := .none },
  { cls := 8, slots := #[.long (-116)], vm := .none },
  { cls := 8, slots := #[.long (-115)], vm := .none },
  { cls := 8, slots := #[.long (-114)], vm := .none },
  { cls := 8, slots := #[.long (-113)], vm := .none },
  { cls := 8, slots := #[.long (-112)], vm := .none },
  { cls := 8, slots := #[.long (-111)], vm := .none },
  { cls := 8, slots := #[.long (-110)], vm := .none },
  { cls := 8, slots := #[.long (-109)], vm := .none },
  { cls := 8, slots := #[.long (-108)], vm := .none },
  { cls := 8, slots := #[.long (-107)], vm := .none },
  { cls := 8, slots := #[.long (-106)], vm := .none },
  { cls := 8, slots := #[.long (-105)], vm := .none },
  { cls := 8, slots := #[.long (-104)], vm := .none },
  { cls := 8, slots := #[.long (-103)], vm := .none },
  { cls := 8, slots := #[.long (-102)], vm := .none },
  { cls := 8, slots := #[.long (-101)], vm := .none },
  { cls := 8, slots := #[.long (-100)], vm := .none },
  { cls := 8, slots := #[.long (-99)], vm := .none },
  { cls := 8, slots := #[.long (-98)], vm := .none },
  { cls := 8, slots := #[.long (-97)], vm := .none },
  { cls := 8, slots := #[.long (-96)], vm := .none },
  { cls := 8, slots := #[.long (-95)], vm := .none },
  { cls := 8, slots := #[.long (-94)], vm := .none },
  { cls := 8, slots := #[.long (-93)], vm := .none },
  { cls := 8, slots := #[.long (-92)], vm := .none },
  { cls := 8, slots := #[.long (-91)], vm := .none },
  { cls := 8, slots := #[.long (-90)], vm := .none },
  { cls := 8, slots := #[.long (-89)], vm := .none },
  { cls := 8, slots := #[.long (-88)], vm := .none },
  { cls := 8, slots := #[.long (-87)], vm := .none },
  { cls := 8, slots := #[.long (-86)], vm := .none },
  { cls := 8, slots := #[.long (-85)], vm := .none },
  { cls := 8, slots := #[.long (-84)], vm := .none },
  { cls := 8, slots := #[.long (-83)], vm := .none },
  { cls := 8, slots := #[.long (-82)], vm := .none },
  { cls := 8, slots := #[.long (-81)], vm := .none },
  { cls := 8, slots := #[.long (-80)], vm := .none },
  { cls := 8, slots := #[.long (-79)], vm := .none },
  { cls := 8, slots := #[.long (-78)], vm := .none },
  { cls := 8, slots := #[.long (-77)], vm := .none },
  { cls := 8, slots := #[.long (-76)], vm := .none },
  { cls := 8, slots := #[.long (-75)], vm := .none },
  { cls := 8, slots := #[.long (-74)], vm := .none },
  { cls := 8, slots := #[.long (-73)], vm := .none },
  { cls := 8, slots := #[.long (-72)], vm := .none },
  { cls := 8, slots := #[.long (-71)], vm := .none },
  { cls := 8, slots := #[.long (-70)], vm := .none },
  { cls := 8, slots := #[.long (-69)], vm := .none },
  { cls := 8, slots := #[.long (-68)], vm := .none },
  { cls := 8, slots := #[.long (-67)], vm := .none },
  { cls := 8, slots := #[.long (-66)], vm := .none },
  { cls := 8, slots := #[.long (-65)], vm := .none },
  { cls := 8, slots := #[.long (-64)], vm := .none },
  { cls := 8, slots := #[.long (-63)], vm := .none },
  { cls := 8, slots := #[.long (-62)], vm := .none },
  { cls := 8, slots := #[.long (-61)], vm := .none },
  { cls := 8, slots := #[.long (-60)], vm := .none },
  { cls := 8, slots := #[.long (-59)], vm := .none },
  { cls := 8, slots := #[.long (-58)], vm := .none },
  { cls := 8, slots := #[.long (-57)], vm := .none },
  { cls := 8, slots := #[.long (-56)], vm := .none },
  { cls := 8, slots := #[.long (-55)], vm := .none },
  { cls := 8, slots := #[.long (-54)], vm := .none },
  { cls := 8, slots := #[.long (-53)], vm := .none },
  { cls := 8, slots := #[.long (-52)], vm := .none },
  { cls := 8, slots := #[.long (-51)], vm := .none },
  { cls := 8, slots := #[.long (-50)], vm := .none },
  { cls := 8, slots := #[.long (-49)], vm := .none },
  { cls := 8, slots := #[.long (-48)], vm := .none },
  { cls := 8, slots := #[.long (-47)], vm := .none },
  { cls := 8, slots := #[.long (-46)], vm := .none },
  { cls := 8, slots := #[.long (-45)], vm := .none },
  { cls := 8, slots := #[.long (-44)], vm := .none },
  { cls := 8, slots := #[.long (-43)], vm := .none },
  { cls := 8, slots := #[.long (-42)], vm := .none },
  { cls := 8, slots := #[.long (-41)], vm := .none },
  { cls := 8, slots := #[.long (-40)], vm := .none },
  { cls := 8, slots := #[.long (-39)], vm := .none },
  { cls := 8, slots := #[.long (-38)], vm := .none },
  { cls := 8, slots := #[.long (-37)], vm := .none },
  { cls := 8, slots := #[.long (-36)], vm := .none },
  { cls := 8, slots := #[.long (-35)], vm := .none },
  { cls := 8, slots := #[.long (-34)], vm := .none },
  { cls := 8, slots := #[.long (-33)], vm := .none },
  { cls := 8, slots := #[.long (-32)], vm := .none },
  { cls := 8, slots := #[.long (-31)], vm := .none },
  { cls := 8, slots := #[.long (-30)], vm := .none },
  { cls := 8, slots := #[.long (-29)], vm := .none },
  { cls := 8, slots := #[.long (-28)], vm := .none },
  { cls := 8, slots := #[.long (-27)], vm := .none },
  { cls := 8, slots := #[.long (-26)], vm := .none },
  { cls := 8, slots := #[.long (-25)], vm := .none },
  { cls := 8, slots := #[.long (-24)], vm := .none },
  { cls := 8, slots := #[.long (-23)], vm := .none },
  { cls := 8, slots := #[.long (-22)], vm := .none },
  { cls := 8, slots := #[.long (-21)], vm := .none },
  { cls := 8, slots := #[.long (-20)], vm := .none },
  { cls := 8, slots := #[.long (-19)], vm := .none },
  { cls := 8, slots := #[.long (-18)], vm := .none },
  { cls := 8, slots := #[.long (-17)], vm := .none },
  { cls := 8, slots := #[.long (-16)], vm := .none },
  { cls := 8, slots := #[.long (-15)], vm := .none },
  { cls := 8, slots := #[.long (-14)], vm := .none },
  { cls := 8, slots := #[.long (-13)], vm := .none },
  { cls := 8, slots := #[.long (-12)], vm := .none },
  { cls := 8, slots := #[.long (-11)], vm := .none },
  { cls := 8, slots := #[.long (-10)], vm := .none },
  { cls := 8, slots := #[.long (-9)], vm := .none },
  { cls := 8, slots := #[.long (-8)], vm := .none },
  { cls := 8, slots := #[.long (-7)], vm := .none },
  { cls := 8, slots := #[.long (-6)], vm := .none },
  { cls := 8, slots := #[.long (-5)], vm := .none },
  { cls := 8, slots := #[.long (-4)], vm := .none },
  { cls := 8, slots := #[.long (-3)], vm := .none },
  { cls := 8, slots := #[.long (-2)], vm := .none },
  { cls := 8, slots := #[.long (-1)], vm := .none },
  { cls := 8, slots := #[.long 0], vm := .none },
  { cls := 8, slots := #[.long 1], vm := .none },
  { cls := 8, slots := #[.long 2], vm := .none },
  { cls := 8, slots := #[.long 3], vm := .none },
  { cls := 8, slots := #[.long 4], vm := .none },
  { cls := 8, slots := #[.long 5], vm := .none },
  { cls := 8, slots := #[.long 6], vm := .none },
  { cls := 8, slots := #[.long 7], vm := .none },
  { cls := 8, slots := #[.long 8], vm := .none },
  { cls := 8, slots := #[.long 9], vm := .none },
  { cls := 8, slots := #[.long 10], vm := .none },
  { cls := 8, slots := #[.long 11], vm := .none },
  { cls := 8, slots := #[.long 12], vm := .none },
  { cls := 8, slots := #[.long 13], vm := .none },
  { cls := 8, slots := #[.long 14], vm := .none },
  { cls := 8, slots := #[.long 15], vm := .none },
  { cls := 8, slots := #[.long 16], vm := .none },
  { cls := 8, slots := #[.long 17], vm := .none },
  { cls := 8, slots := #[.long 18], vm := .none },
  { cls := 8, slots := #[.long 19], vm := .none },
  { cls := 8, slots := #[.long 20], vm := .none },
  { cls := 8, slots := #[.long 21], vm := .none },
  { cls := 8, slots := #[.long 22], vm := .none },
  { cls := 8, slots := #[.long 23], vm := .none },
  { cls := 8, slots := #[.long 24], vm := .none },
  { cls := 8, slots := #[.long 25], vm := .none },
  { cls := 8, slots := #[.long 26], vm := .none },
  { cls := 8, slots := #[.long 27], vm := .none },
  { cls := 8, slots := #[.long 28], vm := .none },
  { cls := 8, slots := #[.long 29], vm := .none },
  { cls := 8, slots := #[.long 30], vm := .none },
  { cls := 8, slots := #[.long 31], vm := .none },
  { cls := 8, slots := #[.long 32], vm := .none },
  { cls := 8, slots := #[.long 33], vm := .none },
  { cls := 8, slots := #[.long 34], vm := .none },
  { cls := 8, slots := #[.long 35], vm := .none },
  { cls := 8, slots := #[.long 36], vm := .none },
  { cls := 8, slots := #[.long 37], vm := .none },
  { cls := 8, slots := #[.long 38], vm := .none },
  { cls := 8, slots := #[.long 39], vm := .none },
  { cls := 8, slots := #[.long 40], vm := .none },
  { cls := 8, slots := #[.long 41], vm := .none },
  { cls := 8, slots := #[.long 42], vm := .none },
  { cls := 8, slots := #[.long 43], vm := .none },
  { cls := 8, slots := #[.long 44], vm := .none },
  { cls := 8, slots := #[.long 45], vm := .none },
  { cls := 8, slots := #[.long 46], vm := .none },
  { cls := 8, slots := #[.long 47], vm := .none },
  { cls := 8, slots := #[.long 48], vm := .none },
  { cls := 8, slots := #[.long 49], vm := .none },
  { cls := 8, slots := #[.long 50], vm := .none },
  { cls := 8, slots := #[.long 51], vm := .none },
  { cls := 8, slots := #[.long 52], vm := .none },
  { cls := 8, slots := #[.long 53], vm := .none },
  { cls := 8, slots := #[.long 54], vm := .none },
  { cls := 8, slots := #[.long 55], vm := .none },
  { cls := 8, slots := #[.long 56], vm := .none },
  { cls := 8, slots := #[.long 57], vm := .none },
  { cls := 8, slots := #[.long 58], vm := .none },
  { cls := 8, slots := #[.long 59], vm := .none },
  { cls := 8, slots := #[.long 60], vm := .none },
  { cls := 8, slots := #[.long 61], vm := .none },
  { cls := 8, slots := #[.long 62], vm := .none },
  { cls := 8, slots := #[.long 63], vm := .none },
  { cls := 8, slots := #[.long 64], vm := .none },
  { cls := 8, slots := #[.long 65], vm := .none },
  { cls := 8, slots := #[.long 66], vm := .none },
  { cls := 8, slots := #[.long 67], vm := .none },
  { cls := 8, slots := #[.long 68], vm := .none },
  { cls := 8, slots := #[.long 69], vm := .none },
  { cls := 8, slots := #[.long 70], vm := .none },
  { cls := 8, slots := #[.long 71], vm := .none },
  { cls := 8, slots := #[.long 72], vm := .none },
  { cls := 8, slots := #[.long 73], vm := .none },
  { cls := 8, slots := #[.long 74], vm := .none },
  { cls := 8, slots := #[.long 75], vm := .none },
  { cls := 8, slots := #[.long 76], vm := .none },
  { cls := 8, slots := #[.long 77], vm := .none },
  { cls := 8, slots := #[.long 78], vm := .none },
  { cls := 8, slots := #[.long 79], vm := .none },
  { cls := 8, slots := #[.long 80], vm := .none },
  { cls := 8, slots := #[.long 81], vm := .none },
  { cls := 8, slots := #[.long 82], vm := .none },
  { cls := 8, slots := #[.long 83], vm := .none },
  { cls := 8, slots := #[.long 84], vm := .none },
  { cls := 8, slots := #[.long 85], vm := .none },
  { cls := 8, slots := #[.long 86], vm := .none },
  { cls := 8, slots := #[.long 87], vm := .none },
  { cls := 8, slots := #[.long 88], vm := .none },
  { cls := 8, slots := #[.long 89], vm := .none },
  { cls := 8, slots := #[.long 90], vm := .none },
  { cls := 8, slots := #[.long 91], vm := .none },
  { cls := 8, slots := #[.long 92], vm := .none },
  { cls := 8, slots := #[.long 93], vm := .none },
  { cls := 8, slots := #[.long 94], vm := .none },
  { cls := 8, slots := #[.long 95], vm := .none },
  { cls := 8, slots := #[.long 96], vm := .none },
  { cls := 8, slots := #[.long 97], vm := .none },
  { cls := 8, slots := #[.long 98], vm := .none },
  { cls := 8, slots := #[.long 99], vm := .none },
  { cls := 8, slots := #[.long 100], vm := .none },
  { cls := 8, slots := #[.long 101], vm := .none },
  { cls := 8, slots := #[.long 102], vm := .none },
  { cls := 8, slots := #[.long 103], vm := .none },
  { cls := 8, slots := #[.long 104], vm := .none },
  { cls := 8, slots := #[.long 105], vm := .none },
  { cls := 8, slots := #[.long 106], vm := .none },
  { cls := 8, slots := #[.long 107], vm := .none },
  { cls := 8, slots := #[.long 108], vm := .none },
  { cls := 8, slots := #[.long 109], vm := .none },
  { cls := 8, slots := #[.long 110], vm := .none },
  { cls := 8, slots := #[.long 111], vm := .none },
  { cls := 8, slots := #[.long 112], vm := .none },
  { cls := 8, slots := #[.long 113], vm := .none },
  { cls := 8, slots := #[.long 114], vm := .none },
  { cls := 8, slots := #[.long 115], vm := .none },
  { cls := 8, slots := #[.long 116], vm := .none },
  { cls := 8, slots := #[.long 117], vm := .none },
  { cls := 8, slots := #[.long 118], vm := .none },
  { cls := 8, slots := #[.long 119], vm := .none },
  { cls := 8, slots := #[.long 120], vm := .none },
  { cls := 8, slots := #[.long 121], vm := .none },
  { cls := 8, slots := #[.long 122], vm := .none },
  { cls := 8, slots := #[.long 123], vm := .none },
  { cls := 8, slots := #[.long 124], vm := .none },
  { cls := 8, slots := #[.long 125], vm := .none },
  { cls := 8, slots := #[.long 126], vm := .none },
  { cls := 8, slots := #[.long 127], vm := .none }]
def classes : Array Class := #[k0, k1, k2, k3, k4, k5, k6, k7, k8, k9, k10, k11, k12, k13, k14, k15]
def interned : List (Array UInt16 × Addr) := []
def slotsUsed : Nat := 515
def theMethod : MethodId := ⟨1, 1⟩
def args0 : Array Value := #[.long 5, .long 4, .long 5, .long 4, .int 7]
def aboutOver (below : List Frame) : State where
  vm := { classes := classes, interned := interned.toArray }
  heap := heap
  slotsUsed := slotsUsed
  threads := #[{ frames := .invoking theMethod args0 :: below }]
def below0 : List Frame := [.native { method := ⟨0, 0⟩, args := #[] }]
def about1 : State := aboutOver below0
def p0 : Program := .bare "" "" ""
def e0 : Env := launch0.env 0 0 0
theorem w_frames : about1.frames = Frame.invoking theMethod args0 :: below0 := rfl
set_option maxRecDepth 65536 in
theorem w_args : argsFit about1.vm theMethod args0 = true := by decide +kernel
set_option maxRecDepth 65536 in
theorem w_heap : heapFits about1 = true := by decide +kernel
set_option maxRecDepth 65536 in
theorem w_runnable : about1.curStatus? = some .runnable := by decide +kernel
set_option maxRecDepth 65536 in
theorem w_alone : about1.alone = true := by decide +kernel
set_option maxRecDepth 65536 in
theorem w_named : about1.methodNamed? x = some theMethod := by decide +kernel
set_option maxRecDepth 65536 in
theorem w_hears : about1.hears theMethod below0 = true := by decide +kernel
set_option maxRecDepth 65536 in
theorem w_ripe : about1.ripe theMethod args0 below0 = true := by decide +kernel
theorem w_running : about1.status = .running := rfl
set_option maxRecDepth 65536 in
theorem w_room : about1.hasRoom e0.platform room_1 = true :=
  launch0.hasRoom_least _ room_1 (by decide +kernel) (by decide +kernel) (by decide +kernel) (by decide +kernel) (by decide +kernel) (by decide +kernel)
theorem allAtoms_all (ts : List Jvm.Cond) (a : Array Jvm.Value) (st : Jvm.State) : (allAtoms ts).before a st = ts.all (fun c => c.before a st) := by
  induction ts with
  | nil => rfl
  | cons c t ih =>
    show (Jvm.Cond.and c (allAtoms t)).before a st = _
    rw [Jvm.Cond.before_and, ih, List.all_cons]
def words1 : List Jvm.Cond := Jvm.Cond.code x code maxLocals ret :: tables_1
/-- a 'code' word, met by the world's own term for the bytes: nothing is compared byte by byte -/
theorem code_word {y : MethodName} {bytes : ByteArray} {mx : Nat} {rt : Option FieldType} {a : Array Value} {s : State} {m : MethodId} {meth : Method} {c : Code} (h1 : s.methodNamed? y = some m) (h2 : s.vm.method? m = some meth) (h3 : meth.code = some c) (h4 : c.code = bytes)
    (h5 : (c.maxLocals == mx && c.exceptionTable.isEmpty && decide (c.maxStack ≤ mostOperands) && decide (meth.sig.returnType = rt) && !meth.locks && decide (parseMethodDescriptor y.desc = some meth.sig)) = true) : (Jvm.Cond.code y bytes mx rt).before a s = true := by
  simp only [Bool.and_eq_true, beq_iff_eq, Bool.not_eq_true', decide_eq_true_eq] at h5
  obtain ⟨⟨⟨⟨⟨g1, g2⟩, g3⟩, g4⟩, g5⟩, g6⟩ := h5
  simp [Cond.before, Cond.holds, Cond.value, h1, h2, h3, h4, g1, g2, g3, g4, g5, g6]
def isCode : Jvm.Cond → Bool
  | .code _ _ _ _ => true
  | _ => false
theorem all_split {L : List Jvm.Cond} {P : Jvm.Cond → Bool} (h1 : L.all (fun c => isCode c || P c) = true) (h2 : ∀ c ∈ L.filter isCode, P c = true) : L.all P = true := by
  refine List.all_eq_true.mpr fun c hc => ?_
  have h := List.all_eq_true.mp h1 c hc
  rcases Bool.eq_false_or_eq_true (isCode c) with hi | hi
  · exact h2 c (List.mem_filter.mpr ⟨hc, hi⟩)
  · simpa [hi] using h
set_option maxRecDepth 65536 in
theorem w_c0 : (Jvm.Cond.code x code maxLocals ret).before args0 about1 = true := code_word (m := ⟨1, 1⟩) (meth := k1m1) (c := k1c1) (by decide +kernel) rfl rfl rfl (by decide +kernel)
set_option maxRecDepth 65536 in
theorem w_c1 : (Jvm.Cond.code ({ cls := "com/example/oghma/oghma/cli/ServerHome$ProcessIdentity", name := "<init>", desc := "(JJ)V" } : Jvm.MethodName) prog_18_method_1_code (5 : Nat) (Option.none : Option Jvm.ClassFile.FieldType)).before args0 about1 = true := code_word (m := ⟨2, 0⟩) (meth := k2m0) (c := k2c0) (by decide +kernel) rfl rfl rfl (by decide +kernel)
set_option maxRecDepth 65536 in
theorem w_c2 : (Jvm.Cond.code ({ cls := "java/lang/Object", name := "<init>", desc := "()V" } : Jvm.MethodName) object_method_1_code (1 : Nat) (Option.none : Option Jvm.ClassFile.FieldType)).before args0 about1 = true := code_word (m := ⟨0, 0⟩) (meth := k0m0) (c := k0c0) (by decide +kernel) rfl rfl rfl (by decide +kernel)
set_option maxRecDepth 65536 in
theorem w_c3 : (Jvm.Cond.code ({ cls := "java/lang/Long", name := "valueOf", desc := "(J)Ljava/lang/Long;" } : Jvm.MethodName) jdk_35_method_24_code (3 : Nat) (Option.some (Jvm.ClassFile.FieldType.object "java/lang/Long"))).before args0 about1 = true := code_word (m := ⟨8, 0⟩) (meth := k8m0) (c := k8c0) (by decide +kernel) rfl rfl rfl (by decide +kernel)
set_option maxRecDepth 65536 in
theorem w_c4 : (Jvm.Cond.code ({ cls := "com/example/oghma/oghma/cli/ServerHome$ProcessIdentity", name := "equals", desc := "(Ljava/lang/Object;)Z" } : Jvm.MethodName) prog_18_method_5_code (3 : Nat) (Option.some Jvm.ClassFile.FieldType.boolean)).before args0 about1 = true := code_word (m := ⟨2, 1⟩) (meth := k2m1) (c := k2c1) (by decide +kernel) rfl rfl rfl (by decide +kernel)
set_option maxRecDepth 65536 in
theorem w_c5 : (Jvm.Cond.code ({ cls := "java/lang/Long", name := "<init>", desc := "(J)V" } : Jvm.MethodName) jdk_35_method_26_code (3 : Nat) (Option.none : Option Jvm.ClassFile.FieldType)).before args0 about1 = true := code_word (m := ⟨8, 1⟩) (meth := k8m1) (c := k8c1) (by decide +kernel) rfl rfl rfl (by decide +kernel)
set_option maxRecDepth 65536 in
theorem w_c6 : (Jvm.Cond.code ({ cls := "java/lang/Number", name := "<init>", desc := "()V" } : Jvm.MethodName) jdk_18_method_1_code (1 : Nat) (Option.none : Option Jvm.ClassFile.FieldType)).before args0 about1 = true := code_word (m := ⟨4, 0⟩) (meth := k4m0) (c := k4c0) (by decide +kernel) rfl rfl rfl (by decide +kernel)
def codes1 : List Jvm.Cond := [Jvm.Cond.code x code maxLocals ret, Jvm.Cond.code ({ cls := "com/example/oghma/oghma/cli/ServerHome$ProcessIdentity", name := "<init>", desc := "(JJ)V" } : Jvm.MethodName) prog_18_method_1_code (5 : Nat) (Option.none : Option Jvm.ClassFile.FieldType), Jvm.Cond.code ({ cls := "java/lang/Object", name := "<init>", desc := "()V" } : Jvm.MethodName) object_method_1_code (1 : Nat) (Option.none : Option Jvm.ClassFile.FieldType), Jvm.Cond.code ({ cls := "java/lang/Long", name := "valueOf", desc := "(J)Ljava/lang/Long;" } : Jvm.MethodName) jdk_35_method_24_code (3 : Nat) (Option.some (Jvm.ClassFile.FieldType.object "java/lang/Long")), Jvm.Cond.code ({ cls := "com/example/oghma/oghma/cli/ServerHome$ProcessIdentity", name := "equals", desc := "(Ljava/lang/Object;)Z" } : Jvm.MethodName) prog_18_method_5_code (3 : Nat) (Option.some Jvm.ClassFile.FieldType.boolean), Jvm.Cond.code ({ cls := "java/lang/Long", name := "<init>", desc := "(J)V" } : Jvm.MethodName) jdk_35_method_26_code (3 : Nat) (Option.none : Option Jvm.ClassFile.FieldType), Jvm.Cond.code ({ cls := "java/lang/Number", name := "<init>", desc := "()V" } : Jvm.MethodName) jdk_18_method_1_code (1 : Nat) (Option.none : Option Jvm.ClassFile.FieldType)]
set_option maxRecDepth 65536 in
theorem codes_eq : words1.filter isCode = codes1 := rfl
theorem w_codes : ∀ c ∈ words1.filter isCode, c.before args0 about1 = true := by
  rw [codes_eq]
  intro c hc
  simp only [codes1, List.mem_cons, List.not_mem_nil, or_false] at hc
  rcases hc with rfl | rfl | rfl | rfl | rfl | rfl | rfl
  · exact w_c0
  · exact w_c1
  · exact w_c2
  · exact w_c3
  · exact w_c4
  · exact w_c5
  · exact w_c6
set_option maxRecDepth 65536 in
theorem w_t1 : (words1.take 24).all (fun c => isCode c || c.before args0 about1) = true := by decide +kernel
set_option maxRecDepth 65536 in
theorem w_t2 : (words1.drop 24).all (fun c => isCode c || c.before args0 about1) = true := by decide +kernel
theorem w_tables : (allAtoms (Jvm.Cond.code x code maxLocals ret :: tables_1)).before args0 about1 = true := by
  rw [allAtoms_all]
  show words1.all (fun c => c.before args0 about1) = true
  refine all_split ?_ w_codes
  rw [← List.take_append_drop 24 words1, List.all_append, w_t1, w_t2]
  rfl
set_option maxRecDepth 65536 in
theorem w_rest : rest_1_c.before args0 about1 = true := by decide +kernel
set_option maxRecDepth 65536 in
theorem w_case : (Jvm.Cond.and given_1 narrow_1).before args0 about1 = true := by decide +kernel
theorem w_applies : (headSpec (Jvm.Cond.code x code maxLocals ret :: tables_1) room_1).applies x e0.platform about1 = true :=
  (Spec.applies_iff w_frames).mpr ⟨w_running, w_runnable, w_alone, w_named, w_hears, w_ripe, w_room, w_tables⟩
theorem atStart : AtStart classFile x code maxLocals ret World_1 tables_1 room_1 Calls_1 rest_1 Pre_1 launch0 p0 e0 about1 theMethod args0 below0 :=
  ⟨lists_1, trivial, launch0.admits_env _ _ _, launch0.least_env, fairChoices_fair.cas, fairChoices_fair.clock, w_frames, w_args, w_heap, w_applies, trivial, w_rest, w_case⟩
end start1
theorem witness_1 : WitnessClaimed_1 := ⟨start1.p0, start1.e0, start1.about1, start1.theMethod, start1.args0, start1.below0, start1.atStart⟩
end Jvm.Pilot.@@N@@
