import JvmDerived
import JvmDerived.Pilot.@@N@@Statement
import JvmDerived.Pilot.@@N@@Code
set_option linter.unusedVariables false
set_option linter.unusedSimpArgs false
namespace Jvm.Pilot.@@N@@
open Jvm Jvm.ClassFile Sem Op Lib Jvm.Free Jvm.Stand Jvm.LawKit Jvm.RoadKit Bundle Jvm.Pilot.@@N@@.Jvm.D
section Own
variable {p : Program} {l : Launch} {e : Env} {R : Room} {s : State} {m : MethodId} {args : Array Value} {below : List Frame} {meth : Method} {c : Code} {T : State} {locs : List Loc} {cells slots : Nat} {K : Outcome → State → Prop} {Z : State} {a0 : Array Value}
/-- from S the run comes to an end of which K is true -/
def Go (p : Program) (e : Env) (below : List Frame) (K : Outcome → State → Prop) (S : State) : Prop := ∃ s₂ o, Steps p.tables e below S s₂ ∧ s₂.status = .running ∧ Ended s₂ below o ∧ K o s₂
theorem Go.st {S S' : State} (h : ∀ t, Steps p.tables e below S' t → Steps p.tables e below S t) (k : Go p e below K S') : Go p e below K S := by
  obtain ⟨a, o, h1, r⟩ := k; exact ⟨a, o, h _ h1, r⟩
theorem Go.tr {S S' : State} (h : Steps p.tables e below S S') (k : Go p e below K S') : Go p e below K S := by
  obtain ⟨a, o, h1, r⟩ := k; exact ⟨a, o, h.trans h1, r⟩
def EndQ (s : State) (Q : Option Value → Heap → List Loc → Prop) (ce sl : Nat) (o : Outcome) (U : State) : Prop := ∃ v L, o = .returned v ∧ Q v U.heap L ∧ FrameEnd s o U L ce sl
theorem goRet {v : Option Value} {ce sl : Nat} {Q : Option Value → Heap → List Loc → Prop} {S : State} {h : Heap} (X : Stand p l e R s m args below meth c T locs cells slots) (hlk : meth.locks = false) (hv : meth.sig.returnType = none → v = none) (eT : T.heap = h)
    (step : ∀ fs, (∀ (f : JFrame) (acts : List Action), f.method = m → f.locked = none → f.entered = [] → (doReturn e (T.setTop f) acts v).1 = T.setFrames fs) → Steps p.tables e below S (T.setFrames fs))
    (hc : cells ≤ ce) (hs : slots ≤ sl) (hQ : Q v h locs) : Go p e below (EndQ s Q ce sl) S := by
  obtain ⟨fs, hr, hrun, hended, hW, hsame⟩ := X.leave (v := v) hv hlk
  subst eT
  exact ⟨_, _, step fs hr, hrun, hended, _, _, rfl, hQ, ⟨_, rfl⟩, hW, hsame.mono hc hs⟩
/-- ireturn of a boolean, byte, char, short -/
theorem goRetN {ce sl : Nat} {Q : Option Value → Heap → List Loc → Prop} {pc : Nat} {Ls : Array Slot} {z w : Int32} {rest : List Value} {t : FieldType} {h : Heap} (X : Stand p l e R s m args below meth c T locs cells slots) (hx : p.tables.exec = Jvm.exec) (hlk : meth.locks = false) (hret : meth.sig.returnType = some t) (ht : t = .boolean ∨ t = .byte ∨ t = .char ∨ t = .short) (hw : nar t z = w) (eT : T.heap = h)
    (hd : decode c.code pc = .ok (.ireturn, 1)) (hc : cells ≤ ce) (hs : slots ≤ sl) (hQ : Q (some (.int w)) h locs) : Go p e below (EndQ s Q ce sl) (T.setTop (mkF m pc Ls (.int z :: rest))) := by
  subst hw
  exact goRet X hlk (fun h => by rw [hret] at h; cases h) eT (fun fs hr => retN X hx hret ht hd hr) hc hs hQ
theorem goRetI {ce sl : Nat} {Q : Option Value → Heap → List Loc → Prop} {pc : Nat} {Ls : Array Slot} {z : Int32} {rest : List Value} {h : Heap} (X : Stand p l e R s m args below meth c T locs cells slots) (hx : p.tables.exec = Jvm.exec) (hlk : meth.locks = false) (hret : meth.sig.returnType = some .int) (eT : T.heap = h)
    (hd : decode c.code pc = .ok (.ireturn, 1)) (hc : cells ≤ ce) (hs : slots ≤ sl) (hQ : Q (some (.int z)) h locs) : Go p e below (EndQ s Q ce sl) (T.setTop (mkF m pc Ls (.int z :: rest))) :=
  goRet X hlk (fun h => by rw [hret] at h; cases h) eT (fun fs hr => retOut X hx hret rfl (Or.inl ⟨rfl, Or.inl rfl, z, rfl⟩) hd hr) hc hs hQ
theorem goRetJ {ce sl : Nat} {Q : Option Value → Heap → List Loc → Prop} {pc : Nat} {Ls : Array Slot} {z : Int64} {rest : List Value} {h : Heap} (X : Stand p l e R s m args below meth c T locs cells slots) (hx : p.tables.exec = Jvm.exec) (hlk : meth.locks = false) (hret : meth.sig.returnType = some .long) (eT : T.heap = h)
    (hd : decode c.code pc = .ok (.lreturn, 1)) (hc : cells ≤ ce) (hs : slots ≤ sl) (hQ : Q (some (.long z)) h locs) : Go p e below (EndQ s Q ce sl) (T.setTop (mkF m pc Ls (.long z :: rest))) :=
  goRet X hlk (fun h => by rw [hret] at h; cases h) eT (fun fs hr => retOut X hx hret rfl (Or.inr (Or.inl ⟨rfl, rfl, z, rfl⟩)) hd hr) hc hs hQ
theorem goRetA {ce sl : Nat} {Q : Option Value → Heap → List Loc → Prop} {pc : Nat} {Ls : Array Slot} {w : Value} {rest : List Value} {t : FieldType} {h : Heap} (X : Stand p l e R s m args below meth c T locs cells slots) (hx : p.tables.exec = Jvm.exec) (hlk : meth.locks = false) (hret : meth.sig.returnType = some t) (ht : t.isReference = true) (hw : w.isRef = true) (hn : narrow t w = w) (eT : T.heap = h)
    (hd : decode c.code pc = .ok (.areturn, 1)) (hc : cells ≤ ce) (hs : slots ≤ sl) (hQ : Q (some w) h locs) : Go p e below (EndQ s Q ce sl) (T.setTop (mkF m pc Ls (w :: rest))) :=
  goRet X hlk (fun h => by rw [hret] at h; cases h) eT (fun fs hr => retOut X hx hret hn (Or.inr (Or.inr (Or.inr (Or.inr ⟨rfl, ht, hw⟩)))) hd hr) hc hs hQ
theorem goRetV {ce sl : Nat} {Q : Option Value → Heap → List Loc → Prop} {pc : Nat} {Ls : Array Slot} {h : Heap} (X : Stand p l e R s m args below meth c T locs cells slots) (hx : p.tables.exec = Jvm.exec) (hlk : meth.locks = false) (hret : meth.sig.returnType = none) (eT : T.heap = h)
    (hd : decode c.code pc = .ok (.return_, 1)) (hc : cells ≤ ce) (hs : slots ≤ sl) (hQ : Q none h locs) : Go p e below (EndQ s Q ce sl) (T.setTop (mkF m pc Ls [])) :=
  goRet X hlk (fun _ => rfl) eT (fun fs hr => X.returnOut hx hret hd hr) hc hs hQ
/-- a method's contract, in the form that a caller takes -/
abbrev Ctr (l : Launch) (y : MethodName) (bytes : ByteArray) (maxL : Nat) (ret : Option FieldType) (ws : List Jvm.Cond) (rm : Room) (as : Array Value) (Z : State) (h0 : Heap) (Q : Option Value → Heap → List Loc → Prop) : Prop :=
  MetFree l y (head1 (Jvm.Cond.code y bytes maxL ret :: ws) rm) (fun a U => a = as ∧ Z.Warmed39 U.vm ∧ U.heap = h0) (fun _ _ _ _ _ => True) (fun _ U o U' => ∃ v L, o = .returned v ∧ Q v U'.heap L ∧ FrameEnd U o U' L rm.cells rm.slots)
theorem Ctr.of {y : MethodName} {bytes : ByteArray} {maxL : Nat} {ret : Option FieldType} {ws : List Jvm.Cond} {rm : Room} {as : Array Value} {h0 : Heap} {Q : Option Value → Heap → List Loc → Prop} (hpl : plainFor y = true)
    (body : ∀ (p : Program) (e : Env) (s : State) (m : MethodId) (below : List Frame) (meth : Method) (c : Code) (s₁ : State), p.tables.exec = Jvm.exec → Z.Warmed39 s.vm → c.code = bytes → c.maxLocals = maxL → s.vm.findClass y.cls = some m.cls → meth.name = y.name → meth.sig.returnType = ret → meth.locks = false →
      Stand p l e rm s m as below meth c s₁ [] 0 0 → s₁.heap = h0 → Go p e below (EndQ s Q rm.cells rm.slots) (s₁.setTop (entryFrame m as maxL))) :
    Ctr l y bytes maxL ret ws rm as Z h0 Q := by
  refine MetFree.of_bodySF hpl hisR ?_
  intro p e s m args below meth c s₁ Bd hml hP _
  obtain ⟨rfl, hZ, hh⟩ := hP
  exact body p e s m below meth c s₁ Bd.exec hZ Bd.bytes hml (findClass_of_methodNamed Bd.named) (name_of_methodNamed Bd.named Bd.method).1 Bd.returns Bd.notSynchronized (Stand.of_body Bd) (by rw [← hh, Bd.state]; rfl)
theorem goCallS (X : Stand p l e R s m args below meth c T locs cells slots) (hx : p.tables.exec = Jvm.exec) (hZ : Z.Warmed39 s.vm) {own : String} {index : Nat} {y : MethodName} {bytes : ByteArray} {maxL : Nat} {ret : Option FieldType} (hown : s.vm.findClass own = some m.cls)
    (w1 : (Jvm.Cond.methodLink own index y).before a0 Z = true) (w2 : (Jvm.Cond.static y).before a0 Z = true) (w3 : (Jvm.Cond.initialized y.cls).before a0 Z = true) (w4 : (Jvm.Cond.code y bytes maxL ret).before a0 Z = true) (hy : y.cls ≠ "java/lang/invoke/MethodHandle" ∧ y.cls ≠ "java/lang/invoke/VarHandle")
    {h : Heap} {rm : Room} {argsL rest : List Value} {Q : Option Value → Heap → List Loc → Prop} (eT : T.heap = h) (hC : Ctr l y bytes maxL ret [] rm argsL.toArray Z h Q) (W : Nat) (hf : rm.frames + 1 ≤ R.frames) (hl : W + (maxL + 11) + rm.locals ≤ R.locals) (hcl : cells + rm.cells ≤ R.cells) (hsl : slots + rm.slots ≤ R.slots)
    (g : JFrame) (hg : g.method = m) (hsize : g.locals.size = c.maxLocals) (hlen : ∀ sig, parseMethodDescriptor y.desc = some sig → argsL.length = sig.parameters.length) (hst : g.stack = argsL.reverse ++ rest) (hd : decode c.code g.pc = .ok (.invokestatic index, 3))
    (hW : 2 * g.monitorRoom + (rest.map fun v => v.category).sum ≤ W)
    (next : ∀ (v : Option Value) (T' : State) (L : List Loc), Stand p l e R s m args below meth c T' (locs ++ L) (cells + rm.cells) (slots + rm.slots) → Q v T'.heap L → Go p e below K (T'.setTop { g with pc := g.pc + 3, stack := v.toList ++ rest })) :
    Go p e below K (T.setTop g) := by
  subst eT
  obtain ⟨v, _, ⟨T', L', k', n'⟩, -, X', ⟨L, hQ, l1, y1, z1⟩, stp⟩ := Jvm.LawKit.callS X hx hown (mvT hZ w1) (mvT hZ w2) (mvT hZ w3) (mvT hZ w4) hy (backOf (W := W) hC hZ w4 w3 hf hl) (g := g) hg hsize hlen hst hW hd (fun _ _ => ⟨rfl, rfl, hcl, hsl⟩)
  dsimp only [Pt.U, Pt.locs, Pt.cells, Pt.slots] at X' l1 y1 z1 stp hQ
  subst l1 y1 z1
  exact Go.st stp (next v T' L X' hQ)
theorem goInit (X : Stand p l e R s m args below meth c T locs cells slots) (hx : p.tables.exec = Jvm.exec) (hZ : Z.Warmed39 s.vm) {own : String} {index : Nat} {y : MethodName} {bytes : ByteArray} {maxL : Nat} (hy1 : y.name = "<init>") (hown : s.vm.findClass own = some m.cls)
    (w1 : (Jvm.Cond.methodLink own index y).before a0 Z = true) (w2 : (Jvm.Cond.instanceMethod y).before a0 Z = true) (w3 : (Jvm.Cond.initialized y.cls).before a0 Z = true) (w4 : (Jvm.Cond.code y bytes maxL none).before a0 Z = true) (hy : y.cls ≠ "java/lang/invoke/MethodHandle" ∧ y.cls ≠ "java/lang/invoke/VarHandle")
    {h : Heap} {rm : Room} {a : Addr} {argsL rest : List Value} {Q : Option Value → Heap → List Loc → Prop} (eT : T.heap = h) (hC : Ctr l y bytes maxL none [] rm (.ref a :: argsL).toArray Z h Q) (W : Nat) (hf : rm.frames + 1 ≤ R.frames) (hl : W + (maxL + 11) + rm.locals ≤ R.locals) (hcl : cells + rm.cells ≤ R.cells) (hsl : slots + rm.slots ≤ R.slots)
    (g : JFrame) (hg : g.method = m) (hsize : g.locals.size = c.maxLocals) (hlen : ∀ sig, parseMethodDescriptor y.desc = some sig → argsL.length = sig.parameters.length) (hst : g.stack = argsL.reverse ++ .ref a :: rest) (hd : decode c.code g.pc = .ok (.invokespecial index, 3))
    (hW : 2 * g.monitorRoom + (rest.map fun v => v.category).sum ≤ W)
    (next : ∀ (v : Option Value) (T' : State) (L : List Loc), Stand p l e R s m args below meth c T' (locs ++ L) (cells + rm.cells) (slots + rm.slots) → Q v T'.heap L → Go p e below K (T'.setTop { g with pc := g.pc + 3, stack := v.toList ++ rest })) :
    Go p e below K (T.setTop g) := by
  subst eT
  obtain ⟨v, _, ⟨T', L', k', n'⟩, -, X', ⟨L, hQ, l1, y1, z1⟩, stp⟩ := X.specialBack hx hy1 hown (mvT hZ w1) (mvT hZ w2) (mvT hZ w4) hy (backOf (W := W) hC hZ w4 w3 hf hl) (g := g) hg hsize (Steps.refl _) hlen hst hW hd (fun _ _ => ⟨rfl, rfl, hcl, hsl⟩)
  dsimp only [Pt.U, Pt.locs, Pt.cells, Pt.slots] at X' l1 y1 z1 stp hQ
  subst l1 y1 z1
  exact Go.tr stp (next v T' L X' hQ)
theorem goVirt (X : Stand p l e R s m args below meth c T locs cells slots) (hx : p.tables.exec = Jvm.exec) (hZ : Z.Warmed39 s.vm) {own C : String} {index : Nat} {y z : MethodName} {bytes : ByteArray} {maxL : Nat} {ret : Option FieldType} (hown : s.vm.findClass own = some m.cls)
    (w1 : (Jvm.Cond.methodLink own index y).before a0 Z = true) (w2 : (Jvm.Cond.declares y).before a0 Z = true) (hnf : NotFace s y) (w5 : (Jvm.Cond.selects C y z).before a0 Z = true) (w6 : (Jvm.Cond.instanceMethod z).before a0 Z = true) (w3 : (Jvm.Cond.initialized z.cls).before a0 Z = true) (w4 : (Jvm.Cond.code z bytes maxL ret).before a0 Z = true) (hy : y.cls ≠ "java/lang/invoke/MethodHandle" ∧ y.cls ≠ "java/lang/invoke/VarHandle")
    {h : Heap} {rm : Room} {a : Addr} {argsL rest : List Value} {Q : Option Value → Heap → List Loc → Prop} (eT : T.heap = h) (E : Exa Z h a C) (hC : Ctr l z bytes maxL ret [] rm (.ref a :: argsL).toArray Z h Q) (W : Nat) (hf : rm.frames + 1 ≤ R.frames) (hl : W + (maxL + 11) + rm.locals ≤ R.locals) (hcl : cells + rm.cells ≤ R.cells) (hsl : slots + rm.slots ≤ R.slots)
    (g : JFrame) (hg : g.method = m) (hsize : g.locals.size = c.maxLocals) (hlen : ∀ sig, parseMethodDescriptor y.desc = some sig → argsL.length = sig.parameters.length) (hst : g.stack = argsL.reverse ++ .ref a :: rest) (hd : decode c.code g.pc = .ok (.invokevirtual index, 3))
    (hW : 2 * g.monitorRoom + (rest.map fun v => v.category).sum ≤ W)
    (next : ∀ (v : Option Value) (T' : State) (L : List Loc), Stand p l e R s m args below meth c T' (locs ++ L) (cells + rm.cells) (slots + rm.slots) → Q v T'.heap L → Go p e below K (T'.setTop { g with pc := g.pc + 3, stack := v.toList ++ rest })) :
    Go p e below K (T.setTop g) := by
  subst eT
  obtain ⟨cq, kq, qa, qb, qc⟩ := isOf (T := T) hZ rfl E
  obtain ⟨v, _, ⟨T', L', k', n'⟩, -, X', ⟨L, hQ, l1, y1, z1⟩, stp⟩ := X.virtualBack hx hown (mvT hZ w1) (mvT hZ w2) hnf (mvT hZ w5) (mvT hZ w6) hy (backOf (W := W) hC hZ w4 w3 hf hl) qa qc (g := g) hg hsize (Steps.refl _) hlen hst hW hd (fun _ _ => ⟨rfl, rfl, hcl, hsl⟩)
  dsimp only [Pt.U, Pt.locs, Pt.cells, Pt.slots] at X' l1 y1 z1 stp hQ
  subst l1 y1 z1
  exact Go.tr stp (next v T' L X' hQ)
theorem oldGe {h : Heap} {n0 : Nat} {b : Addr} (O : Old Z n0 h) (g : b = h.size) : n0 ≤ b := by rw [g, ← O.1]; exact O.2.1
theorem oldSta {h : Heap} {n0 : Nat} {C n d : String} {v : Value} (O : Old Z n0 h) (S : Sta Z Z.heap C n d v) : Sta Z h C n d v := S.ext O.2
theorem oldExa {h : Heap} {n0 : Nat} {C : String} {a : Addr} (O : Old Z n0 h) (S : Exa Z Z.heap a C) : Exa Z h a C := S.ext O.2
theorem oldFld {h : Heap} {n0 : Nat} {a : Addr} {C n d : String} {v : Value} (O : Old Z n0 h) (S : Fld Z Z.heap a C n d v) : Fld Z h a C n d v := S.ext O.2
end Own
theorem fldStart {args : Array Value} {Z : State} {t : Term} {a : Addr} {C n d : String} {v : Int32} (ev : t.eval args Z none [] Z = some (.ref a)) (h : (Jvm.Cond.eq (.field t C n d) (.int v)).value args Z none Z [] = some true) : Fld Z Z.heap a C n d (.int v) := by
  cases hf : Z.fieldOf? a C n d with
  | none => simp [Cond.value, Term.eval, ev, hf] at h
  | some x =>
    cases x <;> simp [Cond.value, Term.eval, ev, hf] at h
    exact Fld.start (by rw [hf, h])
theorem staInt {args : Array Value} {Z : State} {C n d : String} {v : Int32} (h : (Jvm.Cond.eq (.static C n d) (.int v)).value args Z none Z [] = some true) : (Term.static C n d).eval args Z none [] Z = some (.int v) := by
  obtain ⟨x, y, h1, h2, k1, k2⟩ := cmp_v (Or.inl h)
  cases (Term.int_eval v (args := args) (first := Z) (o := none) (idx := []) (s := Z)).symm.trans h2
  obtain ⟨z, rfl⟩ := k2
  rw [h1]
  simp [Cond.value, h1, Term.int_eval] at h
  rw [h]
theorem narZ {z : Int32} (h : z = 0 ∨ z = 1) : nar .boolean z = z := by rcases h with rfl | rfl <;> decide
theorem goJoin {p : Program} {e : Env} {below : List Frame} {K : Outcome → State → Prop} {S : State} {α : Type} {P : α → Prop} {F : α → State} (h1 : ∀ z, P z → Go p e below K (F z)) (h2 : (∀ z, P z → Go p e below K (F z)) → Go p e below K S) : Go p e below K S := h2 h1
theorem own_bit {z : Int32} {P : Prop} [Decidable P] (h : z = (if P then (1 : Int32) else 0)) : z = 0 ∨ z = 1 := by rw [h]; by_cases q : P <;> simp [q]
theorem lenStart {args : Array Value} {Z : State} {t : Term} {a : Addr} {cl : Cell} {n : Int32} (ev : t.eval args Z none [] Z = some (.ref a)) (ha : Z.arrayAt? a = some cl) (h : (Jvm.Cond.eq (.length t) (.int n)).value args Z none Z [] = some true) : cl.slots.size < 2 ^ 31 ∧ cl.slots.size.toInt32 = n := by
  have h1 := eqv_i (Term.int_eval n) h
  by_cases q : cl.slots.size < 2 ^ 31
  · rw [len_f ev ha q] at h1
    exact ⟨q, by simpa using h1⟩
  · simp [Term.eval, ev, ha, q] at h1
theorem nsRoot {Z : State} {a0 : Array Value} {O K : String} {n : Nat} (w : (Jvm.Cond.noSuperclass O).before a0 Z = true) (wi : (Jvm.Cond.instantiable K n).before a0 Z = true) (hn : O ≠ K) : NS Z O K := by
  obtain ⟨c, k, h1, h2, h3, -, -⟩ := Cond.noSuperclass_spec w
  obtain ⟨t, k', g1, -⟩ := Cond.instantiable_spec wi
  have ne := ids_ne h1 g1 hn
  refine ⟨c, t, h1, g1, fun fuel => ?_⟩
  cases fuel with
  | zero => rfl
  | succ f => simp [Vm.isSubclassAux, ne, h2, h3]
theorem nsNo {Z : State} {a0 : Array Value} {C S K : String} {n : Nat} (w : (Jvm.Cond.superclass C S).before a0 Z = true) (wi : (Jvm.Cond.instantiable K n).before a0 Z = true) (nn : NS Z C K) (hn : C ≠ K) : ∃ c t, Z.vm.findClass C = some c ∧ Z.vm.findClass K = some t ∧ Z.vm.assignable c t = false := by
  obtain ⟨c, t, h0, g0, n3⟩ := nn
  obtain ⟨p, k, kp, h1, h2, h3, h4, h5, -, h7⟩ := Cond.superclass_spec h0 w
  obtain ⟨t', k', g1, g2, g5, g6, -⟩ := Cond.instantiable_spec wi
  cases g0.symm.trans g1
  have g7 : k'.isInterface = false := by
    cases hq : k'.isInterface with
    | false => rfl
    | true => rw [hq] at g6; simp at g6
  have ne := ids_ne h0 g0 hn
  refine ⟨c, t, h0, g0, ?_⟩
  show Z.vm.assignableAux (255 + 1) c t = false
  simp [Vm.assignableAux, ne, h2, g2, h5, g5, g7, Vm.isSubclass, n3]
theorem subAt {args : Array Value} {Z : State} {a b : Term} {idx : List Nat} {x y : Int32} (ha : a.eval args Z none idx Z = some (.int x)) (hb : b.eval args Z none idx Z = some (.int y)) : (Term.sub a b).eval args Z none idx Z = some (.int (x - y)) := by simp [Term.eval, ha, hb]
theorem elemStart {args : Array Value} {Z : State} {t u : Term} {a w : Addr} {cl : Cell} {ty : FieldType} {j : Int32} (ev : t.eval args Z none [] Z = some (.ref a)) (A : Arr Z Z.heap a cl ty) (evu : u.eval args Z none [] Z = some (.ref w)) (h : (Jvm.Cond.eq (.elem t (.int j)) u).value args Z none Z [] = some true) : cl.slots[j.toNatClampNeg]? = some (.ref w) := by
  obtain ⟨x, y, h1, h2, k1, k2⟩ := cmp_v (Or.inl h)
  cases evu.symm.trans h2
  have hx : x.isRef = true := k2.2
  have e : x = .ref w := gotT (eq_R h1 h2 hx rfl) h
  rw [← e]
  exact (elem_in h1 ev (Term.int_eval j) A.1).2
theorem own_ite {P Q : Prop} [Decidable P] [Decidable Q] (h : P ↔ Q) : (if P then (1 : Int32) else 0) = (if Q then (1 : Int32) else 0) := by
  by_cases p : P
  · rw [if_pos p, if_pos (h.mp p)]
  · rw [if_neg p, if_neg (fun q => p (h.mpr q))]
theorem ww {a0 : Array Value} {Z : State} (hw : ∀ d ∈ tables_1, d.before a0 Z = true) (i : Nat) {d : Jvm.Cond} (h : tables_1[i]? = some d) : d.before a0 Z = true := hw d (List.mem_of_getElem? h)
theorem own_amt {c : Int32} {b : Nat} (h : c.toInt = b) : (c &&& 0x3f).toInt64.toBitVec = BitVec.ofNat 64 (b % 64) ∧ b % 64 < 64 := by
  have hb : b < 2 ^ 31 := by have := c.toInt_lt; omega
  have e : c.toBitVec.toNat = b := by
    have h' : c.toBitVec.toInt = b := h
    rw [BitVec.toInt_eq_toNat_cond] at h'
    split at h' <;> omega
  exact sm64 c (b % 64) (by rw [e])
theorem own_shl (x : Int64) {c : Int32} {b : Nat} (h : c.toInt = b) : (x <<< (c &&& 0x3f).toInt64).toBitVec = x.toBitVec <<< (b % 64) := by
  obtain ⟨e1, e2⟩ := own_amt h
  rw [Int64.toBitVec_shiftLeft, e1]
  rw [BitVec.shiftLeft_eq', smod64 _ e2]
theorem own_shr (x : Int64) {c : Int32} {b : Nat} (h : c.toInt = b) : ((x.toUInt64 >>> (c &&& 0x3f).toInt64.toUInt64).toInt64).toBitVec = x.toBitVec >>> (b % 64) := by
  obtain ⟨e1, e2⟩ := own_amt h
  have e3 : (c &&& 0x3f).toInt64.toUInt64.toBitVec = BitVec.ofNat 64 (b % 64) := e1
  show (x.toUInt64 >>> (c &&& 0x3f).toInt64.toUInt64).toBitVec = _
  rw [UInt64.toBitVec_shiftRight, e3]
  show x.toBitVec >>> (BitVec.ofNat 64 (b % 64) % 64) = _
  rw [BitVec.ushiftRight_eq', BitVec.toNat_umod, BitVec.toNat_ofNat]
  congr 1
  have : (64 : BitVec 64).toNat = 64 := rfl
  rw [this]; omega
def bt (x : Int64) (i : Nat) : Bool := x.toBitVec.getLsbD i
theorem bt_ext {x y : Int64} (h : ∀ i, i < 64 → bt x i = bt y i) : x = y := Int64.toBitVec_inj.mp (BitVec.eq_of_getLsbD_eq h)
theorem bt_big {x : Int64} {i : Nat} (h : 64 ≤ i) : bt x i = false := BitVec.getLsbD_of_ge _ _ h
theorem bt_and (x y : Int64) (i : Nat) : bt (x &&& y) i = (bt x i && bt y i) := by simp [bt]
theorem bt_or (x y : Int64) (i : Nat) : bt (x ||| y) i = (bt x i || bt y i) := by simp [bt]
theorem bt_xor (x y : Int64) (i : Nat) : bt (x ^^^ y) i = (bt x i ^^ bt y i) := by simp [bt]
theorem bt_m1 {i : Nat} (h : i < 64) : bt (-1) i = true := by
  have e : (-1 : Int64).toBitVec = BitVec.allOnes 64 := by decide
  rw [bt, e, BitVec.getLsbD_allOnes]; simp [h]
theorem bt_shl (x : Int64) {c : Int32} {b i : Nat} (h : c.toInt = b) (hi : i < 64) : bt (x <<< (c &&& 0x3f).toInt64) i = (decide (b % 64 ≤ i) && bt x (i - b % 64)) := by
  rw [bt, own_shl x h, BitVec.getLsbD_shiftLeft]
  simp only [hi, decide_true, Bool.true_and, bt]
  by_cases q : i < b % 64
  · simp [q, show ¬ b % 64 ≤ i by omega]
  · simp [q, show b % 64 ≤ i by omega]
theorem bt_shr (x : Int64) {c : Int32} {b : Nat} (i : Nat) (h : c.toInt = b) : bt ((x.toUInt64 >>> (c &&& 0x3f).toInt64.toUInt64).toInt64) i = bt x (b % 64 + i) := by
  rw [bt, own_shr x h, BitVec.getLsbD_ushiftRight]; rfl
/-- the mask of b bits -/
theorem bt_mask {c : Int32} {b i : Nat} (h : c.toInt = b) (hb : b < 64) (hi : i < 64) : bt (((1 : Int64) <<< (c &&& 0x3f).toInt64) - 1) i = decide (i < b) := by
  have e : (((1 : Int64) <<< (c &&& 0x3f).toInt64) - 1).toBitVec.toNat = 2 ^ b - 1 := by
    rw [Int64.toBitVec_sub, own_shl 1 h, Nat.mod_eq_of_lt hb]
    have : (1 : Int64).toBitVec = 1#64 := rfl
    rw [this, BitVec.toNat_sub, BitVec.toNat_shiftLeft]
    have h1 : (1#64).toNat = 1 := rfl
    rw [h1, Nat.one_shiftLeft]
    have : 2 ^ b < 2 ^ 64 := Nat.pow_lt_pow_right (by decide) hb
    have := Nat.one_le_two_pow (n := b)
    rw [Nat.mod_eq_of_lt (by omega : 2 ^ b < 2 ^ 64)]
    omega
  rw [bt, BitVec.getLsbD, e, Nat.testBit_two_pow_sub_one]
theorem bt_i2l (x : Int32) {i : Nat} (hi : i < 32) : bt x.toInt64 i = x.toBitVec.getLsbD i := by
  have : x.toInt64.toBitVec = x.toBitVec.signExtend 64 := rfl
  rw [bt, this, BitVec.getLsbD_signExtend]; simp [hi, show i < 64 by omega]
theorem bt_l2i (x : Int64) {i : Nat} (hi : i < 32) : x.toInt32.toBitVec.getLsbD i = bt x i := by
  rw [Int64.toBitVec_toInt32, BitVec.getLsbD_signExtend]; simp [hi, bt, show i < 64 by omega]
theorem bt_lt {x : Int64} {b : Nat} (h : x.toBitVec.toNat < 2 ^ b) {i : Nat} (hi : b ≤ i) : bt x i = false := by
  rw [bt, BitVec.getLsbD]; exact Nat.testBit_lt_two_pow (Nat.lt_of_lt_of_le h (Nat.pow_le_pow_right (by decide) hi))
def own_set (w m : Int64) (c x : Int32) : Int64 := (w &&& ((m <<< (c &&& 0x3f).toInt64) ^^^ (-1 : Int64))) ||| ((x.toInt64 &&& m) <<< (c &&& 0x3f).toInt64)
def own_get (w m : Int64) (c : Int32) : Int64 := ((w.toUInt64 >>> (c &&& 0x3f).toInt64.toUInt64).toInt64) &&& m
theorem bt_set {w m : Int64} {c x : Int32} {s b : Nat} (hc : c.toInt = s) (hm : ∀ i, i < 64 → bt m i = decide (i < b)) (hsb : s % 64 + b ≤ 64) {i : Nat} (hi : i < 64) : bt (own_set w m c x) i = if s % 64 ≤ i ∧ i < s % 64 + b then bt x.toInt64 (i - s % 64) else bt w i := by
  rw [own_set, bt_or, bt_and, bt_xor, bt_shl _ hc hi, bt_shl _ hc hi, bt_m1 hi, bt_and, hm _ (by omega)]
  by_cases q : s % 64 ≤ i
  · by_cases r : i < s % 64 + b
    · simp [q, r, show i - s % 64 < b by omega]
    · simp [q, r, show ¬ (i - s % 64 < b) by omega]
  · simp [q]
theorem bt_get {w m : Int64} {c : Int32} {s b : Nat} (hc : c.toInt = s) (hm : ∀ i, i < 64 → bt m i = decide (i < b)) {i : Nat} (hi : i < 64) : bt (own_get w m c) i = (bt w (s % 64 + i) && decide (i < b)) := by
  rw [own_get, bt_and, bt_shr _ _ hc, hm _ hi]
/-- what was laid into a field is read back, whatever was laid beside it behind -/
theorem get_set {w w' m : Int64} {c x : Int32} {s b : Nat} {r : Int64} (hc : c.toInt = s) (hm : ∀ i, i < 64 → bt m i = decide (i < b)) (hsb : s % 64 + b ≤ 64) (hb : b ≤ 32) (hr : r.toBitVec.toNat < 2 ^ b) (hx : x = r.toInt32)
    (hw : ∀ i, s % 64 ≤ i → i < s % 64 + b → bt w' i = bt (own_set w m c x) i) : (own_get w' m c).toInt32 = x := by
  have e : own_get w' m c = r := bt_ext fun i hi => by
    rw [bt_get hc hm hi]
    by_cases q : i < b
    · rw [hw _ (by omega) (by omega), bt_set hc hm hsb (by omega), if_pos ⟨by omega, by omega⟩, show s % 64 + i - s % 64 = i by omega, hx, bt_i2l _ (by omega), bt_l2i _ (by omega)]; simp [q]
    · rw [bt_lt hr (by omega)]; simp [q]
  rw [e, hx]
def own_nlz32 (x z : Int32) : Prop := ∃ b : Nat, b ≤ 32 ∧ z.toInt = 32 - b ∧ x.toBitVec.toNat < 2 ^ b ∧ (b = 0 ∨ 2 ^ (b - 1) ≤ x.toBitVec.toNat)
def own_nlz64 (x : Int64) (z : Int32) : Prop := ∃ b : Nat, b ≤ 64 ∧ z.toInt = 64 - b ∧ x.toBitVec.toNat < 2 ^ b ∧ (b = 0 ∨ 2 ^ (b - 1) ≤ x.toBitVec.toNat)
def own_nz (x : Int32) (K B : Nat) (i n : Int32) : Prop := ∃ k : Nat, k ≤ K ∧ n.toInt = 31 - k ∧ i.toInt = (x.toInt.toNat / 2 ^ k : Nat) ∧ 0 < i.toInt ∧ i.toInt < B
theorem nz_start {x : Int32} (h : (0 : Int32) < x) : own_nz x 0 (2 ^ 31) x 31 := by
  rw [Int32.lt_iff_toInt_lt, show (0 : Int32).toInt = 0 from rfl] at h
  have := x.toInt_lt
  exact ⟨0, Nat.le_refl _, by decide, by rw [Nat.pow_zero, Nat.div_one]; omega, h, by omega⟩
theorem nz_no {x i n t : Int32} {K K' B c : Nat} (N : own_nz x K B i n) (h : i < t) (ht : t.toInt = c) (hK : K ≤ K') : own_nz x K' c i n := by
  obtain ⟨k, h1, h2, h3, h4, h5⟩ := N
  rw [Int32.lt_iff_toInt_lt, ht] at h
  exact ⟨k, by omega, h2, h3, h4, h⟩
theorem nz_yes {x i n t q d : Int32} {K B B' c j : Nat} (N : own_nz x K B i n) (h : ¬ i < t) (ht : t.toInt = c) (hc : c = 2 ^ j) (hj : 0 < j) (hj2 : j ≤ 31) (hq : q.toBitVec.toNat % 32 = j) (hd : d.toInt = -j) (hB : B / c < B' ∨ (B ≤ B' * c ∧ 0 < c)) (hK : K + j ≤ 31) : own_nz x (K + j) B' ((i.toUInt32 >>> (q &&& 31).toUInt32).toInt32) (n + d) := by
  obtain ⟨k, h1, h2, h3, h4, h5⟩ := N
  rw [Int32.lt_iff_toInt_lt, ht] at h
  have e1 := c_iushr i q j hq hj
  have hi := i.toInt_lt
  rw [Int.emod_eq_of_lt (by omega) (by omega)] at e1
  have e2 : ((x.toInt.toNat / 2 ^ k : Nat) : Int) / ((2 ^ j : Nat) : Int) = (x.toInt.toNat / 2 ^ (k + j) : Nat) := by
    rw [← Int.natCast_ediv, Nat.div_div_eq_div_mul, Nat.pow_add]
  have e3 : (n + d).toInt = 31 - (k + j : Nat) := by
    rw [Int32.toInt_add, h2, hd]
    rw [Int.bmod_eq_of_le (by omega) (by omega)]; omega
  have hp : 0 < 2 ^ j := Nat.two_pow_pos j
  refine ⟨k + j, by omega, e3, by rw [e1, h3, e2], ?_, ?_⟩
  · rw [e1]
    have : (1 : Int) ≤ i.toInt / (2 ^ j : Nat) := by
      rw [Int.le_ediv_iff_mul_le (by omega)]; rw [← hc]; omega
    omega
  · rw [e1, ← hc]
    rcases hB with hB | ⟨hB, hc0⟩
    · have : i.toInt / c ≤ (B : Int) / c := Int.ediv_le_ediv (by omega) (by omega)
      rw [← Int.natCast_ediv] at this; omega
    · rw [Int.ediv_lt_iff_lt_mul (by omega)]
      have : (B : Int) ≤ B' * c := by exact_mod_cast hB
      omega
theorem toNat_pos {x : Int32} (h : 0 ≤ x.toInt) : x.toBitVec.toNat = x.toInt.toNat := by
  have h' : 0 ≤ x.toBitVec.toInt := h
  show x.toBitVec.toNat = x.toBitVec.toInt.toNat
  rw [BitVec.toInt_eq_toNat_cond] at h' ⊢
  split at h' <;> rename_i q
  · rw [if_pos q]; omega
  · omega
theorem nz_end {x i n : Int32} (hx : (0 : Int32) < x) (N : own_nz x 30 4 i n) : own_nlz32 x (n - ((i.toUInt32 >>> ((1 : Int32) &&& 31).toUInt32).toInt32)) := by
  obtain ⟨k, h1, h2, h3, h4, h5⟩ := N
  rw [Int32.lt_iff_toInt_lt, show (0 : Int32).toInt = 0 from rfl] at hx
  have e1 := c_iushr i 1 1 (by decide) (by decide)
  rw [Int.emod_eq_of_lt (by omega) (by omega)] at e1
  have e0 := toNat_pos (x := x) (by omega)
  have hp : 0 < 2 ^ k := Nat.two_pow_pos k
  have hdm := Nat.div_add_mod x.toInt.toNat (2 ^ k)
  have hml := Nat.mod_lt x.toInt.toNat hp
  generalize hQ : x.toInt.toNat / 2 ^ k = Q at *
  have hs : (n - ((i.toUInt32 >>> ((1 : Int32) &&& 31).toUInt32).toInt32)).toInt = 31 - k - i.toInt / 2 := by
    rw [Int32.toInt_sub, h2, e1]
    rw [Int.bmod_eq_of_le (by omega) (by omega)]; rfl
  have hQ3 : Q = 1 ∨ Q = 2 ∨ Q = 3 := by omega
  rcases hQ3 with rfl | rfl | rfl
  · refine ⟨k + 1, by omega, by omega, ?_, Or.inr ?_⟩
    · rw [e0, Nat.pow_succ]; omega
    · rw [e0, show k + 1 - 1 = k from rfl]; omega
  · refine ⟨k + 2, by omega, by omega, ?_, Or.inr ?_⟩
    · rw [e0, Nat.pow_succ, Nat.pow_succ]; omega
    · rw [e0, show k + 2 - 1 = k + 1 from rfl, Nat.pow_succ]; omega
  · refine ⟨k + 2, by omega, by omega, ?_, Or.inr ?_⟩
    · rw [e0, Nat.pow_succ, Nat.pow_succ]; omega
    · rw [e0, show k + 2 - 1 = k + 1 from rfl, Nat.pow_succ]; omega
theorem nlz_zero {x : Int32} (h : x = 0) : own_nlz32 x 32 := by subst h; exact ⟨0, by decide, by decide, by decide, Or.inl rfl⟩
theorem nlz_neg {x : Int32} (h : ¬ (0 : Int32) < x) (h0 : ¬ x = 0) : own_nlz32 x 0 := by
  rw [Int32.lt_iff_toInt_lt, show (0 : Int32).toInt = 0 from rfl] at h
  have hn : x.toInt ≠ 0 := fun q => h0 (Int32.toInt_inj.mp q)
  refine ⟨32, by decide, by decide, x.toBitVec.isLt, Or.inr ?_⟩
  have h' : x.toBitVec.toInt < 0 := by show x.toInt < 0; omega
  rw [BitVec.toInt_eq_toNat_cond] at h'
  split at h' <;> omega
theorem nlz64_lo {x : Int64} {z : Int32} (h : ((x.toUInt64 >>> ((32 : Int32) &&& 0x3f).toInt64.toUInt64).toInt64).toInt32 = 0) (N : own_nlz32 x.toInt32 z) : own_nlz64 x (32 + z) := by
  obtain ⟨b, h1, h2, h3, h4⟩ := N
  have hx : x.toBitVec.toNat < 2 ^ 32 := by
    have e : (((x.toUInt64 >>> ((32 : Int32) &&& 0x3f).toInt64.toUInt64).toInt64).toInt32).toBitVec.toNat = x.toBitVec.toNat / 2 ^ 32 := by
      rw [Int64.toBitVec_toInt32]
      show ((x.toBitVec >>> (((32 : Int32) &&& 0x3f).toInt64.toUInt64.toBitVec % 64)).signExtend 32).toNat = _
      rw [BitVec.signExtend_eq_setWidth_of_le _ (by decide), BitVec.toNat_setWidth]
      have : (((32 : Int32) &&& 0x3f).toInt64.toUInt64.toBitVec % 64) = 32#64 := by decide
      rw [this, BitVec.ushiftRight_eq', BitVec.toNat_ushiftRight, Nat.shiftRight_eq_div_pow]
      have := x.toBitVec.isLt
      exact Nat.mod_eq_of_lt (by rw [show (32#64).toNat = 32 from rfl]; omega)
    rw [h] at e
    have : (0 : Int32).toBitVec.toNat = 0 := rfl
    omega
  have e2 : x.toInt32.toBitVec.toNat = x.toBitVec.toNat := by
    rw [Int64.toBitVec_toInt32, BitVec.signExtend_eq_setWidth_of_le _ (by decide), BitVec.toNat_setWidth, Nat.mod_eq_of_lt hx]
  rw [e2] at h3 h4
  refine ⟨b, by omega, ?_, h3, h4⟩
  rw [Int32.toInt_add, h2, show (32 : Int32).toInt = 32 from rfl, Int.bmod_eq_of_le (by omega) (by omega)]; omega
theorem nlz64_hi {x : Int64} {z : Int32} (h : ¬ ((x.toUInt64 >>> ((32 : Int32) &&& 0x3f).toInt64.toUInt64).toInt64).toInt32 = 0) (N : own_nlz32 ((x.toUInt64 >>> ((32 : Int32) &&& 0x3f).toInt64.toUInt64).toInt64).toInt32 z) : own_nlz64 x z := by
  obtain ⟨b, h1, h2, h3, h4⟩ := N
  have e : (((x.toUInt64 >>> ((32 : Int32) &&& 0x3f).toInt64.toUInt64).toInt64).toInt32).toBitVec.toNat = x.toBitVec.toNat / 2 ^ 32 := by
    rw [Int64.toBitVec_toInt32]
    show ((x.toBitVec >>> (((32 : Int32) &&& 0x3f).toInt64.toUInt64.toBitVec % 64)).signExtend 32).toNat = _
    rw [BitVec.signExtend_eq_setWidth_of_le _ (by decide), BitVec.toNat_setWidth]
    have : (((32 : Int32) &&& 0x3f).toInt64.toUInt64.toBitVec % 64) = 32#64 := by decide
    rw [this, BitVec.ushiftRight_eq', BitVec.toNat_ushiftRight, Nat.shiftRight_eq_div_pow]
    have := x.toBitVec.isLt
    exact Nat.mod_eq_of_lt (by rw [show (32#64).toNat = 32 from rfl]; omega)
  rw [e] at h3 h4
  have hb : b ≠ 0 := fun q => h (Int32.toBitVec_inj.mp (BitVec.eq_of_toNat_eq (by rw [e]; subst q; show _ = 0; omega)))
  rcases h4 with h4 | h4
  · exact absurd h4 hb
  refine ⟨b + 32, by omega, by omega, ?_, Or.inr ?_⟩
  · rw [Nat.pow_add, Nat.mul_comm]; exact Nat.lt_mul_of_div_lt h3 (by decide) |> fun q => by rwa [Nat.mul_comm] at q
  · rw [show b + 32 - 1 = (b - 1) + 32 by omega, Nat.pow_add]
    exact (Nat.le_div_iff_mul_le (by decide)).mp h4
theorem add_toInt {a b : Int32} {x y : Nat} (ha : a.toInt = x) (hb : b.toInt = y) (h : x + y < 2 ^ 31) : (a + b).toInt = (x + y : Nat) := by
  rw [Int32.toInt_add, ha, hb, Int.bmod_eq_of_le (by omega) (by omega)]; omega
/-- an array of longs: n places, place j holds f j -/
def LAr (Z : State) (h : Heap) (a : Addr) (n : Nat) (f : Nat → Int64) : Prop := ∃ cl : Cell, Arr Z h a cl .long ∧ cl.slots.size = n ∧ n < 2 ^ 31 ∧ ∀ j, j < n → cl.slots[j]? = some (.long (f j))
section OwnLar
variable {Z : State} {h h' : Heap} {a b : Addr} {n : Nat} {f : Nat → Int64}
theorem LAr_lt (F : LAr Z h a n f) : a < h.size := by obtain ⟨c, A, -⟩ := F; exact A.lt
theorem LAr_ext (F : LAr Z h a n f) (E : Ext h h') : LAr Z h' a n f := by obtain ⟨c, A, r⟩ := F; exact ⟨c, A.ext E, r⟩
theorem LAr_other {sl : Nat} {v : Value} (F : LAr Z h b n f) (W : Wr h h' a sl v) (q : b ≠ a) : LAr Z h' b n f := by obtain ⟨c, A, r⟩ := F; exact ⟨c, A.other W q, r⟩
theorem LAr_keep {ws : List Addr} (F : LAr Z h a n f) (K : Keep h h' ws) (q : a ∉ ws) : LAr Z h' a n f := by obtain ⟨c, A, r⟩ := F; exact ⟨c, ⟨K.2.1 a c A.1 q, A.2⟩, r⟩
theorem nat_clamp {j : Int32} (h0 : 0 ≤ j.toInt) : (j.toNatClampNeg : Int) = j.toInt := by simp only [Int32.toNatClampNeg]; omega
theorem LAr_in (F : LAr Z h a n f) {j : Int32} (h0 : 0 ≤ j.toInt) (h1 : j.toInt < n) : ∃ cl : Cell, Arr Z h a cl .long ∧ ¬ (j < 0 ∨ cl.slots.size ≤ j.toNatClampNeg) ∧ cl.slots[j.toNatClampNeg]? = some (.long (f j.toNatClampNeg)) ∧ cl.slots.size = n ∧ n < 2 ^ 31 ∧ ∀ j, j < n → cl.slots[j]? = some (.long (f j)) := by
  obtain ⟨c, A, S, hn, H⟩ := F
  have hj := nat_clamp h0
  refine ⟨c, A, ?_, H _ (by omega), S, hn, H⟩
  rw [Int32.lt_iff_toInt_lt, show (0 : Int32).toInt = 0 from rfl, S]; omega
theorem LAr_set {cl : Cell} {j : Nat} {v : Int64} (A : Arr Z h a cl .long) (S : cl.slots.size = n) (hn : n < 2 ^ 31) (H : ∀ j, j < n → cl.slots[j]? = some (.long (f j))) (W : Wr h h' a j (.long v)) : LAr Z h' a n (fun k => if k = j then v else f k) := by
  refine ⟨_, A.same W, by rw [sz_set, S], hn, fun k hk => ?_⟩
  show (cl.slots.setIfInBounds j (.long v))[k]? = _
  by_cases q : k = j
  · subst q; simp [S, hk]
  · rw [Array.getElem?_setIfInBounds_ne (Ne.symm q), H k hk]; simp [q]
theorem LAr_of {k : ClassId} {z : Int32} {vs : List Value} {d : Value} (F : Arv Z h a k .long z vs d) (hz : z.toNatClampNeg = n) (hn : n < 2 ^ 31) (hf : ∀ j, j < n → vs.getD j d = .long (f j)) : LAr Z h a n f := by
  obtain ⟨c, A, -, S, -, H, -⟩ := F
  exact ⟨c, A, by rw [S, hz], hn, fun j hj => by rw [H j (by rw [S, hz]; exact hj), hf j hj]⟩
end OwnLar
/-- bit i of the longs f -/
def cb (f : Nat → Int64) (i : Nat) : Bool := bt (f (i / 64)) (i % 64)
def bi (v : Int32) (i : Nat) : Bool := v.toBitVec.getLsbD i
abbrev Row := Int32 × Int32 × Int32
/-- the bits of a row of three fields of b0, b1, b2 bits -/
def RB (b0 b1 b2 : Nat) (v : Row) (i : Nat) : Bool := if i < b0 then bi v.1 i else if i < b0 + b1 then bi v.2.1 (i - b0) else if i < b0 + b1 + b2 then bi v.2.2 (i - b0 - b1) else false
def rowsBit (b0 b1 b2 : Nat) : List Row → Nat → Bool
  | [], _ => false
  | v :: vs, i => RB b0 b1 b2 v i || (decide (b0 + b1 + b2 ≤ i) && rowsBit b0 b1 b2 vs (i - (b0 + b1 + b2)))
def own_wid (w0 w1 w2 rb wd cw : Int32) (b0 b1 b2 : Nat) : Prop := w0.toInt = b0 ∧ w1.toInt = b1 ∧ w2.toInt = b2 ∧ b0 ≤ 31 ∧ b1 ≤ 31 ∧ b2 ≤ 31 ∧ rb.toInt = ((b0 + b1 + b2 : Nat) : Int) ∧ wd.toInt = (((b0 + b1 + b2 + 63) / 64 : Nat) : Int) ∧ cw.toInt = ((64 * (b0 + b1 + b2) : Nat) : Int)
def fit1 (v : Int32) (b : Nat) : Prop := v.toBitVec.toNat < 2 ^ b
def own_fits (b0 b1 b2 : Nat) (v : Row) : Prop := fit1 v.1 b0 ∧ fit1 v.2.1 b1 ∧ fit1 v.2.2 b2
def own_fld (f : Nat → Int64) (q b : Nat) (z : Int32) : Prop := ∀ i, i < 32 → bi z i = (decide (i < b) && cb f (q + i))
theorem bi_fit {v : Int32} {b i : Nat} (h : fit1 v b) (hi : b ≤ i) : bi v i = false := by
  rw [bi, BitVec.getLsbD]; exact Nat.testBit_lt_two_pow (Nat.lt_of_lt_of_le h (Nat.pow_le_pow_right (by decide) hi))
theorem fld_uniq {f : Nat → Int64} {q b : Nat} {x y : Int32} (hx : own_fld f q b x) (hy : own_fld f q b y) : x = y :=
  Int32.toBitVec_inj.mp (BitVec.eq_of_getLsbD_eq fun i hi => (hx i hi).trans (hy i hi).symm)
theorem RB_ge {b0 b1 b2 : Nat} {v : Row} {i : Nat} (h : b0 + b1 + b2 ≤ i) : RB b0 b1 b2 v i = false := by
  rw [RB, if_neg (by omega), if_neg (by omega), if_neg (by omega)]
theorem rows_at {b0 b1 b2 i : Nat} (hi : i < b0 + b1 + b2) : ∀ (rows : List Row) (r : Nat) (v : Row), rows[r]? = some v → rowsBit b0 b1 b2 rows (r * (b0 + b1 + b2) + i) = RB b0 b1 b2 v i
  | [], _, _, h => by simp at h
  | u :: us, 0, v, h => by
    obtain rfl : u = v := by simpa using h
    simp [rowsBit, show ¬ (b0 + b1 + b2 ≤ i) by omega]
  | u :: us, r + 1, v, h => by
    have ih := rows_at hi us r v (by simpa using h)
    have e : (r + 1) * (b0 + b1 + b2) + i = r * (b0 + b1 + b2) + i + (b0 + b1 + b2) := by rw [Nat.succ_mul]; omega
    rw [rowsBit, e, RB_ge (by omega), Nat.add_sub_cancel, ih]; simp
theorem rows_snoc {b0 b1 b2 : Nat} {v : Row} : ∀ (rows : List Row) (i : Nat), rowsBit b0 b1 b2 (rows ++ [v]) i = (rowsBit b0 b1 b2 rows i || (decide (rows.length * (b0 + b1 + b2) ≤ i) && RB b0 b1 b2 v (i - rows.length * (b0 + b1 + b2))))
  | [], i => by simp [rowsBit]
  | u :: us, i => by
    rw [List.cons_append, rowsBit, rows_snoc us, rowsBit, List.length_cons, Nat.succ_mul]
    by_cases q : b0 + b1 + b2 ≤ i
    · have e1 : decide (us.length * (b0 + b1 + b2) ≤ i - (b0 + b1 + b2)) = decide (us.length * (b0 + b1 + b2) + (b0 + b1 + b2) ≤ i) := by
        rw [decide_eq_decide]; omega
      rw [e1, show i - (b0 + b1 + b2) - us.length * (b0 + b1 + b2) = i - (us.length * (b0 + b1 + b2) + (b0 + b1 + b2)) by omega]
      simp [q, Bool.or_assoc]
    · simp [q, show ¬ (us.length * (b0 + b1 + b2) + (b0 + b1 + b2) ≤ i) by omega]
/-- a kept row is read back -/
theorem rows_read {b0 b1 b2 r : Nat} {f : Nat → Int64} {rows : List Row} {v : Row} (h : ∀ i, cb f i = rowsBit b0 b1 b2 rows i) (hr : rows[r]? = some v) (hf : own_fits b0 b1 b2 v) :
    own_fld f (r * (b0 + b1 + b2)) b0 v.1 ∧ own_fld f (r * (b0 + b1 + b2) + b0) b1 v.2.1 ∧ own_fld f (r * (b0 + b1 + b2) + b0 + b1) b2 v.2.2 := by
  obtain ⟨f0, f1, f2⟩ := hf
  refine ⟨fun i hi => ?_, fun i hi => ?_, fun i hi => ?_⟩
  · by_cases q : i < b0
    · rw [h, rows_at (by omega) _ _ _ hr, RB, if_pos q]; simp [q]
    · rw [bi_fit f0 (by omega)]; simp [q]
  · by_cases q : i < b1
    · rw [h, Nat.add_assoc, rows_at (by omega) _ _ _ hr, RB, if_neg (by omega), if_pos (by omega), show b0 + i - b0 = i by omega]; simp [q]
    · rw [bi_fit f1 (by omega)]; simp [q]
  · by_cases q : i < b2
    · rw [h, Nat.add_assoc, Nat.add_assoc, rows_at (by omega) _ _ _ hr, RB, if_neg (by omega), if_neg (by omega), if_pos (by omega), show b0 + (b1 + i) - b0 - b1 = i by omega]; simp [q]
    · rw [bi_fit f2 (by omega)]; simp [q]
theorem clampN {j : Int32} {n : Nat} (h : j.toInt = n) : j.toNatClampNeg = n := by
  have := nat_clamp (j := j) (by omega); omega
/-- bit >>> 6 and bit & 63 -/
theorem own_word {x : Int64} {q : Nat} (h : x.toInt = q) (hq : q < 2 ^ 31) : ((((x.toUInt64 >>> ((6 : Int32) &&& 0x3f).toInt64.toUInt64).toInt64)).toInt32).toInt = ((q / 64 : Nat) : Int) := by
  have e := own_shr x (c := 6) (b := 6) rfl
  have hx : x.toBitVec.toNat = q := by
    have h' : x.toBitVec.toInt = q := h
    rw [BitVec.toInt_eq_toNat_cond] at h'
    split at h' <;> omega
  have e2 : (((x.toUInt64 >>> ((6 : Int32) &&& 0x3f).toInt64.toUInt64).toInt64)).toInt = ((q / 64 : Nat) : Int) := by
    show (((x.toUInt64 >>> ((6 : Int32) &&& 0x3f).toInt64.toUInt64).toInt64)).toBitVec.toInt = _
    rw [e, BitVec.toInt_eq_toNat_cond, BitVec.toNat_ushiftRight, hx, Nat.shiftRight_eq_div_pow]
    have e6 : q / 2 ^ (6 % 64) = q / 64 := rfl
    rw [e6, if_pos (by omega)]
  rw [Int64.toInt_toInt32, e2, Int.bmod_eq_of_le (by omega) (by omega)]
theorem own_sh {x : Int64} {q : Nat} (h : x.toInt = q) (hq : q < 2 ^ 31) : (x.toInt32 &&& (63 : Int32)).toInt = ((q % 64 : Nat) : Int) := by
  have e1 : x.toInt32.toInt = q := by rw [Int64.toInt_toInt32, h, Int.bmod_eq_of_le (by omega) (by omega)]
  have e2 : x.toInt32.toBitVec.toNat = q := by rw [toNat_pos (by omega), e1]; rfl
  show (x.toInt32 &&& (63 : Int32)).toBitVec.toInt = _
  rw [Int32.toBitVec_and, BitVec.toInt_eq_toNat_cond, BitVec.toNat_and, e2]
  have : (63 : Int32).toBitVec.toNat = 2 ^ 6 - 1 := rfl
  rw [this, Nat.and_two_pow_sub_one_eq_mod, if_pos (by omega)]
theorem own_start {r rb : Int32} {x y : Nat} (hr : r.toInt = x) (hb : rb.toInt = y) (hx : x ≤ 2) (hy : y ≤ 93) : (r.toInt64 * rb.toInt64).toInt = ((x * y : Nat) : Int) := by
  rw [Int64.toInt_mul, Int32.toInt_toInt64, Int32.toInt_toInt64, hr, hb]
  have h1 : x * y ≤ 2 * 93 := Nat.mul_le_mul hx hy
  have e : (x : Int) * (y : Int) = ((x * y : Nat) : Int) := (Int.natCast_mul x y).symm
  rw [e]
  exact Int.bmod_eq_of_le (by omega) (by omega)
theorem own_addJ {a b : Int64} {x y : Nat} (ha : a.toInt = x) (hb : b.toInt = y) (h : x + y < 2 ^ 31) : (a + b).toInt = ((x + y : Nat) : Int) := by
  rw [Int64.toInt_add, ha, hb, Int.bmod_eq_of_le (by omega) (by omega)]; omega
theorem own_i2l {a : Int32} {x : Nat} (ha : a.toInt = x) : a.toInt64.toInt = x := by rw [Int32.toInt_toInt64, ha]
theorem cb_at {f : Nat → Int64} {q W s i : Nat} (hW : q = 64 * W + s) (hs : s < 64) (h : s + i < 64) : cb f (q + i) = bt (f W) (s + i) := by
  rw [cb, show (q + i) / 64 = W by omega, show (q + i) % 64 = s + i by omega]
theorem cb_at' {f : Nat → Int64} {q W s i : Nat} (hW : q = 64 * W + s) (hs : s < 64) (h : 64 ≤ s + i) (h2 : i < 64) : cb f (q + i) = bt (f (W + 1)) (s + i - 64) := by
  rw [cb, show (q + i) / 64 = W + 1 by omega, show (q + i) % 64 = s + i - 64 by omega]
theorem fld_zero {f : Nat → Int64} {q b : Nat} {p : Int32} (hp : p.toInt = b) (h : p = 0) : own_fld f q b (0 : Int32) := fun i hi => by
  subst h
  have : b = 0 := by have h0 : (0 : Int32).toInt = 0 := rfl; omega
  subst this
  simp [bi]
theorem fld_a {f : Nat → Int64} {q b : Nat} {jw sh p : Int32} (hjw : jw.toInt = ((q / 64 : Nat) : Int)) (hsh : sh.toInt = ((q % 64 : Nat) : Int)) (hp : p.toInt = b) (hb : b ≤ 31) (hc : ¬ (64 : Int32) < sh + p) :
    own_fld f q b (((((f (jw).toNatClampNeg).toUInt64 >>> (sh &&& 0x3f).toInt64.toUInt64).toInt64) &&& (((1 : Int64) <<< (p &&& 0x3f).toInt64) - (1 : Int64))).toInt32) := fun i hi => by
  rw [Int32.lt_iff_toInt_lt, add_toInt hsh hp (by omega), show (64 : Int32).toInt = 64 from rfl] at hc
  rw [bi, bt_l2i _ hi, bt_and, bt_shr _ _ hsh, bt_mask hp (by omega) (by omega), clampN hjw, Bool.and_comm]
  by_cases q' : i < b
  · rw [cb_at (W := q / 64) (s := q % 64) (by omega) (by omega) (by omega), show q % 64 % 64 = q % 64 by omega]
  · simp [q']
theorem fld_b {f : Nat → Int64} {q b : Nat} {jw sh p : Int32} (hjw : jw.toInt = ((q / 64 : Nat) : Int)) (hsh : sh.toInt = ((q % 64 : Nat) : Int)) (hp : p.toInt = b) (hb : b ≤ 31) (hq : q < 2 ^ 20) (hc : (64 : Int32) < sh + p) :
    own_fld f q b ((((((f (jw).toNatClampNeg).toUInt64 >>> (sh &&& 0x3f).toInt64.toUInt64).toInt64) ||| ((f (jw + (1 : Int32)).toNatClampNeg) <<< (((64 : Int32) - sh) &&& 0x3f).toInt64)) &&& (((1 : Int64) <<< (p &&& 0x3f).toInt64) - (1 : Int64))).toInt32) := fun i hi => by
  rw [Int32.lt_iff_toInt_lt, add_toInt hsh hp (by omega), show (64 : Int32).toInt = 64 from rfl] at hc
  have h1 : (jw + (1 : Int32)).toInt = ((q / 64 + 1 : Nat) : Int) := add_toInt hjw rfl (by omega)
  have h2 : ((64 : Int32) - sh).toInt = ((64 - q % 64 : Nat) : Int) := by
    rw [Int32.toInt_sub, hsh, show (64 : Int32).toInt = 64 from rfl, Int.bmod_eq_of_le (by omega) (by omega)]; omega
  rw [bi, bt_l2i _ hi, bt_and, bt_or, bt_shr _ _ hsh, bt_shl _ h2 (by omega), bt_mask hp (by omega) (by omega), clampN hjw, clampN h1, Bool.and_comm, show q % 64 % 64 = q % 64 by omega, show (64 - q % 64) % 64 = 64 - q % 64 by omega]
  by_cases q' : i < b
  · by_cases r : q % 64 + i < 64
    · rw [cb_at (W := q / 64) (s := q % 64) (by omega) (by omega) r]
      simp [q', show ¬ (64 - q % 64 ≤ i) by omega]
    · rw [cb_at' (W := q / 64) (s := q % 64) (by omega) (by omega) (by omega) (by omega), bt_big (by omega : 64 ≤ q % 64 + i), show i - (64 - q % 64) = q % 64 + i - 64 by omega]
      simp [q', show 64 - q % 64 ≤ i by omega]
  · simp [q']
theorem int32_ofNat_lt {v : Int32} (h : ¬ v < 0) : v.toInt64.toBitVec.toNat = v.toBitVec.toNat ∧ v.toBitVec.toNat < 2 ^ 31 := by
  rw [Int32.lt_iff_toInt_lt, show (0 : Int32).toInt = 0 from rfl] at h
  have h1 := toNat_pos (x := v) (by omega)
  have h2 := v.toInt_lt
  refine ⟨?_, by omega⟩
  have e : v.toInt64.toInt = v.toInt := Int32.toInt_toInt64 v
  have e' : v.toInt64.toBitVec.toInt = v.toInt := e
  have := v.toInt64.toBitVec.isLt
  rw [BitVec.toInt_eq_toNat_cond] at e'
  split at e' <;> omega
theorem fit_of {v w : Int32} {b : Nat} (hv : ¬ v < 0) (hw : w.toInt = b) (hb : b ≤ 31) : (((v.toInt64).toUInt64 >>> (w &&& 0x3f).toInt64.toUInt64).toInt64) = (0 : Int64) ↔ fit1 v b := by
  obtain ⟨e1, e2⟩ := int32_ofNat_lt hv
  rw [← Int64.toBitVec_inj, own_shr _ hw, Nat.mod_eq_of_lt (by omega : b < 64), fit1, ← e1]
  constructor
  · intro h
    have h' := congrArg BitVec.toNat h
    rw [BitVec.toNat_ushiftRight, Nat.shiftRight_eq_div_pow, show (0 : Int64).toBitVec.toNat = 0 from rfl] at h'
    exact (Nat.div_eq_zero_iff_lt (Nat.two_pow_pos b)).mp h'
  · intro h
    apply BitVec.eq_of_toNat_eq
    rw [BitVec.toNat_ushiftRight, Nat.shiftRight_eq_div_pow, show (0 : Int64).toBitVec.toNat = 0 from rfl]
    exact (Nat.div_eq_zero_iff_lt (Nat.two_pow_pos b)).mpr h
theorem bt_bi {v : Int32} (hv : ¬ v < 0) (i : Nat) : bt v.toInt64 i = bi v i := by
  obtain ⟨e1, e2⟩ := int32_ofNat_lt hv
  rw [bt, bi, BitVec.getLsbD, BitVec.getLsbD, e1]
/-- the row's first 64 bits, as encode lays them -/
theorem enc_word {v0 v1 v2 c0 c1 c2 : Int32} {b0 b1 b2 : Nat} (n0 : ¬ v0 < 0) (n1 : ¬ v1 < 0) (n2 : ¬ v2 < 0) (f0 : fit1 v0 b0) (f1 : fit1 v1 b1) (f2 : fit1 v2 b2) (h0 : c0.toInt = (0 : Nat)) (h1 : c1.toInt = b0) (h2 : c2.toInt = ((b0 + b1 : Nat) : Int)) (hb0 : b0 ≤ 31) (hb1 : b1 ≤ 31) {i : Nat} (hi : i < 64) :
    bt ((((0 : Int64) ||| (v0.toInt64 <<< (c0 &&& 0x3f).toInt64)) ||| (v1.toInt64 <<< (c1 &&& 0x3f).toInt64)) ||| (v2.toInt64 <<< (c2 &&& 0x3f).toInt64)) i = RB b0 b1 b2 (v0, v1, v2) i := by
  have z : bt (0 : Int64) i = false := by simp [bt]
  rw [bt_or, bt_or, bt_or, z, bt_shl _ h0 hi, bt_shl _ h1 hi, bt_shl _ h2 hi, bt_bi n0, bt_bi n1, bt_bi n2, RB, show 0 % 64 = 0 from rfl, Nat.mod_eq_of_lt (by omega : b0 < 64), Nat.mod_eq_of_lt (by omega : b0 + b1 < 64), show i - 0 = i from rfl, show i - (b0 + b1) = i - b0 - b1 by omega]
  by_cases q0 : i < b0
  · simp [q0, show ¬ b0 ≤ i by omega, show ¬ b0 + b1 ≤ i by omega]
  · rw [bi_fit f0 (by omega)]
    by_cases q1 : i < b0 + b1
    · simp [q0, q1, show b0 ≤ i by omega, show ¬ b0 + b1 ≤ i by omega]
    · rw [bi_fit f1 (by omega : b1 ≤ i - b0)]
      by_cases q2 : i < b0 + b1 + b2
      · simp [q0, q1, q2, show b0 + b1 ≤ i by omega]
      · rw [bi_fit f2 (by omega : b2 ≤ i - b0 - b1)]; simp [q0, q1, q2]
theorem cb_lo {g : Nat → Int64} {i : Nat} (h : i < 64) : cb g i = bt (g 0) i := by rw [cb, show i / 64 = 0 by omega, show i % 64 = i by omega]
theorem cb_hi {g : Nat → Int64} {i : Nat} (h : 64 ≤ i) (h2 : i < 128) : cb g i = bt (g 1) (i - 64) := by rw [cb, show i / 64 = 1 by omega, show i % 64 = i - 64 by omega]
theorem enc_spill {v2 w2 c4 : Int32} {b0 b1 b2 : Nat} {v0 v1 : Int32} (n2 : ¬ v2 < 0) (f2 : fit1 v2 b2) (hw : w2.toInt = b2) (h4 : c4.toInt = ((b0 + b1 + b2 - 64 : Nat) : Int)) (hT : 64 ≤ b0 + b1 + b2) (hb0 : b0 ≤ 31) (hb1 : b1 ≤ 31) (hb2 : b2 ≤ 31) {i : Nat} (h : 64 ≤ i) (h' : i < 128) :
    bt (((v2.toInt64).toUInt64 >>> ((w2 - c4) &&& 0x3f).toInt64.toUInt64).toInt64) (i - 64) = RB b0 b1 b2 (v0, v1, v2) i := by
  have e : (w2 - c4).toInt = ((64 - b0 - b1 : Nat) : Int) := by
    rw [Int32.toInt_sub, hw, h4, Int.bmod_eq_of_le (by omega) (by omega)]; omega
  rw [bt_shr _ _ e, bt_bi n2, RB, if_neg (by omega), if_neg (by omega), Nat.mod_eq_of_lt (by omega : 64 - b0 - b1 < 64), show 64 - b0 - b1 + (i - 64) = i - b0 - b1 by omega]
  by_cases q2 : i < b0 + b1 + b2
  · rw [if_pos q2]
  · rw [if_neg q2, bi_fit f2 (by omega)]
/-- put: after the first k words -/
def own_put (f0 g : Nat → Int64) (s k : Nat) (f : Nat → Int64) : Prop := ∀ i, cb f i = (cb f0 i || (decide (s ≤ i) && decide (i < s + 64 * k) && cb g (i - s)))
theorem put_zero {f g : Nat → Int64} {s : Nat} : own_put f g s 0 f := fun i => by
  by_cases q : s ≤ i
  · simp [show ¬ i < s by omega]
  · simp [q]
theorem put_no {f0 g f : Nat → Int64} {s k T m W S : Nat} {jw sh jx mn : Int32} (I : own_put f0 g s k f) (hs : s < 2 ^ 20) (hk : k < m) (hm : m ≤ 2) (hT : T ≤ 93) (hjx : jx.toInt = k) (hg : ∀ i, T ≤ i → i < 64 * m → cb g i = false) (hWS : s + 64 * k = 64 * W + S) (hS : S < 64) (hjw : jw.toInt = W) (hsh : sh.toInt = S) (hmn : mn.toInt = (min 64 ((T : Int) - 64 * k))) (hc : ¬ (64 : Int32) < sh + mn) :
    own_put f0 g s (k + 1) (fun j => if j = (jw).toNatClampNeg then ((f (jw).toNatClampNeg) ||| ((g (jx).toNatClampNeg) <<< (sh &&& 0x3f).toInt64)) else f j) := fun i => by
  rw [Int32.lt_iff_toInt_lt, Int32.toInt_add, hsh, hmn, Int.bmod_eq_of_le (by omega) (by omega), show (64 : Int32).toInt = 64 from rfl] at hc
  rw [clampN hjw, clampN hjx, cb]
  have I' := I i
  rw [cb] at I'
  by_cases q : i / 64 = W
  · rw [if_pos q, bt_or, bt_shl _ hsh (Nat.mod_lt _ (by decide)), ← q, I', Nat.mod_eq_of_lt hS]
    by_cases r : S ≤ i % 64
    · have e : cb g (i - s) = bt (g k) (i % 64 - S) := by rw [cb, show (i - s) / 64 = k by omega, show (i - s) % 64 = i % 64 - S by omega]
      rw [e]
      simp [r, show s ≤ i by omega, show ¬ i < s + 64 * k by omega, show i < s + 64 * (k + 1) by omega]
    · by_cases r2 : s ≤ i
      · simp [r, r2, show i < s + 64 * k by omega, show i < s + 64 * (k + 1) by omega]
      · simp [r, r2]
  · rw [if_neg q, I']
    by_cases r2 : s ≤ i
    · by_cases r3 : i < s + 64 * k
      · simp [r2, r3, show i < s + 64 * (k + 1) by omega]
      · by_cases r4 : i < s + 64 * (k + 1)
        · rw [hg (i - s) (by omega) (by omega)]; simp
        · simp [r2, r3, r4]
    · simp [r2]
theorem put_yes {f0 g f : Nat → Int64} {s k T m W S : Nat} {jw sh jx mn : Int32} (I : own_put f0 g s k f) (hs : s < 2 ^ 20) (hk : k < m) (hm : m ≤ 2) (hT : T ≤ 93) (hjx : jx.toInt = k) (hWS : s + 64 * k = 64 * W + S) (hS : S < 64) (hjw : jw.toInt = W) (hsh : sh.toInt = S) (hmn : mn.toInt = (min 64 ((T : Int) - 64 * k))) (hc : (64 : Int32) < sh + mn) :
    own_put f0 g s (k + 1) (fun j => if j = (jw + (1 : Int32)).toNatClampNeg then (((fun j => if j = (jw).toNatClampNeg then ((f (jw).toNatClampNeg) ||| ((g (jx).toNatClampNeg) <<< (sh &&& 0x3f).toInt64)) else f j) (jw + (1 : Int32)).toNatClampNeg) ||| (((g (jx).toNatClampNeg).toUInt64 >>> (((64 : Int32) - sh) &&& 0x3f).toInt64.toUInt64).toInt64)) else (fun j => if j = (jw).toNatClampNeg then ((f (jw).toNatClampNeg) ||| ((g (jx).toNatClampNeg) <<< (sh &&& 0x3f).toInt64)) else f j) j) := fun i => by
  rw [Int32.lt_iff_toInt_lt, Int32.toInt_add, hsh, hmn, Int.bmod_eq_of_le (by omega) (by omega), show (64 : Int32).toInt = 64 from rfl] at hc
  have h1 : (jw + (1 : Int32)).toInt = ((W + 1 : Nat) : Int) := add_toInt hjw rfl (by omega)
  have h2 : ((64 : Int32) - sh).toInt = ((64 - S : Nat) : Int) := by
    rw [Int32.toInt_sub, hsh, show (64 : Int32).toInt = 64 from rfl, Int.bmod_eq_of_le (by omega) (by omega)]; omega
  rw [clampN hjw, clampN hjx, clampN h1, cb]
  dsimp only
  have I' := I i
  rw [cb] at I'
  rw [if_neg (by omega : ¬ W + 1 = W)]
  by_cases q1 : i / 64 = W + 1
  · rw [if_pos q1, bt_or, bt_shr _ _ h2, ← q1, I', Nat.mod_eq_of_lt (by omega : 64 - S < 64)]
    by_cases r4 : i < s + 64 * (k + 1)
    · have e : cb g (i - s) = bt (g k) (64 - S + i % 64) := by rw [cb, show (i - s) / 64 = k by omega, show (i - s) % 64 = 64 - S + i % 64 by omega]
      rw [e]
      simp [r4, show s ≤ i by omega, show ¬ i < s + 64 * k by omega]
    · rw [bt_big (by omega : 64 ≤ 64 - S + i % 64)]
      simp [r4, show ¬ i < s + 64 * k by omega]
  · rw [if_neg q1]
    by_cases q : i / 64 = W
    · rw [if_pos q, bt_or, bt_shl _ hsh (Nat.mod_lt _ (by decide)), ← q, I', Nat.mod_eq_of_lt hS]
      by_cases r : S ≤ i % 64
      · have e : cb g (i - s) = bt (g k) (i % 64 - S) := by rw [cb, show (i - s) / 64 = k by omega, show (i - s) % 64 = i % 64 - S by omega]
        rw [e]
        simp [r, show s ≤ i by omega, show ¬ i < s + 64 * k by omega, show i < s + 64 * (k + 1) by omega]
      · by_cases r2 : s ≤ i
        · simp [r, r2, show i < s + 64 * k by omega, show i < s + 64 * (k + 1) by omega]
        · simp [r, r2]
    · rw [if_neg q, I']
      by_cases r2 : s ≤ i
      · by_cases r3 : i < s + 64 * k
        · simp [r2, r3, show i < s + 64 * (k + 1) by omega]
        · simp [r2, r3, show ¬ i < s + 64 * (k + 1) by omega]
      · simp [r2]
def own_enc (g : Nat → Int64) (b0 b1 b2 : Nat) (v : Row) : Prop := ∀ i, i < 64 * ((b0 + b1 + b2 + 63) / 64) → cb g i = RB b0 b1 b2 v i
theorem enc_none {g : Nat → Int64} {b0 b1 b2 : Nat} {v : Row} (h : b0 + b1 + b2 = 0) : own_enc g b0 b1 b2 v := fun i hi => by omega
theorem enc_one {g : Nat → Int64} {W : Int64} {b0 b1 b2 : Nat} {v : Row} (h : b0 + b1 + b2 ≤ 64) (hW : ∀ i, i < 64 → bt W i = RB b0 b1 b2 v i) : own_enc (fun k => if k = ((0 : Int32)).toNatClampNeg then W else g k) b0 b1 b2 v := fun i hi => by
  rw [cb_lo (by omega), if_pos (by decide), hW i (by omega)]
theorem enc_two {g : Nat → Int64} {W S : Int64} {b0 b1 b2 : Nat} {v : Row} (h : b0 + b1 + b2 ≤ 93) (hW : ∀ i, i < 64 → bt W i = RB b0 b1 b2 v i) (hS : ∀ i, 64 ≤ i → i < 128 → bt S (i - 64) = RB b0 b1 b2 v i) : own_enc (fun k => if k = ((1 : Int32)).toNatClampNeg then S else (fun k => if k = ((0 : Int32)).toNatClampNeg then W else g k) k) b0 b1 b2 v := fun i hi => by
  by_cases q : i < 64
  · rw [cb_lo q, if_neg (by decide)]
    show bt (if 0 = ((0 : Int32)).toNatClampNeg then W else g 0) i = _
    rw [if_pos (by decide), hW i q]
  · rw [cb_hi (by omega) (by omega), if_pos (by decide), hS i (by omega) (by omega)]
theorem enc_clear {g : Nat → Int64} {b0 b1 b2 : Nat} {v : Row} (h : own_enc g b0 b1 b2 v) : ∀ i, b0 + b1 + b2 ≤ i → i < 64 * ((b0 + b1 + b2 + 63) / 64) → cb g i = false := fun i h1 h2 => by rw [h i h2, RB_ge h1]
theorem put_rows {f g f' : Nat → Int64} {b0 b1 b2 r : Nat} {v : Row} {rows : List Row} (hr : rows.length = r) (hf : ∀ i, cb f i = rowsBit b0 b1 b2 rows i) (hg : own_enc g b0 b1 b2 v) (h : own_put f g (r * (b0 + b1 + b2)) ((b0 + b1 + b2 + 63) / 64) f') : ∀ i, cb f' i = rowsBit b0 b1 b2 (rows ++ [v]) i := fun i => by
  subst hr
  rw [h i, hf i, rows_snoc]
  generalize hs : rows.length * (b0 + b1 + b2) = s
  by_cases q : s ≤ i
  · by_cases q2 : i < s + 64 * ((b0 + b1 + b2 + 63) / 64)
    · rw [hg (i - s) (by omega)]; simp [q, q2]
    · rw [RB_ge (by omega : b0 + b1 + b2 ≤ i - s)]; simp [q, q2]
  · simp [q]
theorem rows_none {b0 b1 b2 : Nat} : ∀ i, cb (fun _ => (0 : Int64)) i = rowsBit b0 b1 b2 [] i := fun i => by simp [cb, bt, rowsBit]
def own_wf (q : Int64) : Int32 := ((((q + (63 : Int64)).toUInt64 >>> ((6 : Int32) &&& 0x3f).toInt64.toUInt64).toInt64)).toInt32
theorem wf_nat {q : Int64} {n : Nat} (h : q.toInt = n) (hn : n < 2 ^ 30) : (own_wf q).toInt = (((n + 63) / 64 : Nat) : Int) := own_word (own_addJ h rfl (by omega)) (by omega)
theorem shl12 {x : Int64} {n : Nat} (h : x.toInt = n) (hn : n ≤ 93) : (x <<< ((12 : Int32) &&& 0x3f).toInt64).toInt = ((n * 4096 : Nat) : Int) := by
  have e := own_shl x (c := 12) (b := 12) rfl
  have hx : x.toBitVec.toNat = n := by
    have h' : x.toBitVec.toInt = n := h
    have := x.toBitVec.isLt
    rw [BitVec.toInt_eq_toNat_cond] at h'
    split at h' <;> omega
  show (x <<< ((12 : Int32) &&& 0x3f).toInt64).toBitVec.toInt = _
  rw [e, BitVec.toInt_eq_toNat_cond, BitVec.toNat_shiftLeft, hx, Nat.shiftLeft_eq]
  have e6 : (2 : Nat) ^ (12 % 64) = 4096 := rfl
  rw [e6, Nat.mod_eq_of_lt (by omega), if_pos (by omega)]
theorem wid_of {w0 w1 w2 rb : Int32} {q : Int64} {b0 b1 b2 : Nat} (h0 : w0.toInt = b0) (h1 : w1.toInt = b1) (h2 : w2.toInt = b2) (g0 : b0 ≤ 31) (g1 : b1 ≤ 31) (g2 : b2 ≤ 31) (hq : q = (((0 : Int64) + w0.toInt64) + w1.toInt64) + w2.toInt64) (hr : rb = q.toInt32) : ¬ (2147483647 : Int64) < q ∧ own_wid w0 w1 w2 rb (own_wf rb.toInt64) (own_wf (rb.toInt64 <<< ((12 : Int32) &&& 0x3f).toInt64)) b0 b1 b2 := by
  have e : q.toInt = ((b0 + b1 + b2 : Nat) : Int) := by
    rw [hq]
    have a1 := own_addJ (a := (0 : Int64)) (x := 0) (y := b0) rfl (own_i2l h0) (by omega)
    have a2 := own_addJ a1 (own_i2l h1) (by omega)
    have a3 := own_addJ a2 (own_i2l h2) (by omega)
    rw [a3, Nat.zero_add]
  have er : rb.toInt = ((b0 + b1 + b2 : Nat) : Int) := by rw [hr, Int64.toInt_toInt32, e, Int.bmod_eq_of_le (by omega) (by omega)]
  refine ⟨by rw [Int64.lt_iff_toInt_lt, e, show (2147483647 : Int64).toInt = 2147483647 from rfl]; omega, h0, h1, h2, g0, g1, g2, er, wf_nat (own_i2l er) (by omega), ?_⟩
  rw [wf_nat (shl12 (own_i2l er) (by omega)) (by omega)]
  congr 1; omega
def own_bf (p z : Int32) : Prop := ∃ b : Nat, z.toInt = b ∧ b ≤ 32 ∧ p.toBitVec.toNat < 2 ^ b ∧ (b = 0 ∨ 2 ^ (b - 1) ≤ p.toBitVec.toNat)
theorem bf_of {p z : Int32} (h : own_nlz32 p z) : own_bf p ((32 : Int32) - z) := by
  obtain ⟨b, h1, h2, h3, h4⟩ := h
  refine ⟨b, ?_, h1, h3, h4⟩
  rw [Int32.toInt_sub, h2, show (32 : Int32).toInt = 32 from rfl, Int.bmod_eq_of_le (by omega) (by omega)]; omega
theorem bf_two {z : Int32} (h : own_bf 2 z) : z = 2 := by
  obtain ⟨b, h1, h2, h3, h4⟩ := h
  have e : (2 : Int32).toBitVec.toNat = 2 := rfl
  rw [e] at h3 h4
  have : b = 2 := by
    rcases h4 with rfl | h4
    · simp at h3
    · by_cases q : b ≤ 1
      · have : 2 ^ b ≤ 2 ^ 1 := Nat.pow_le_pow_right (by decide) q
        omega
      · by_cases q2 : 3 ≤ b
        · have : 2 ^ 2 ≤ 2 ^ (b - 1) := Nat.pow_le_pow_right (by decide) (by omega)
          omega
        · omega
  subst this
  exact Int32.toInt_inj.mp h1
theorem own_mx {w z m p : Int32} {b : Nat} (hw : w.toInt = b) (hb : b ≤ 31) (hz : own_bf p z) (hp : ¬ p < 0) (hm : m = (if w < z then z else w)) : ∃ b' : Nat, m.toInt = b' ∧ b ≤ b' ∧ b' ≤ 31 ∧ fit1 p b' := by
  obtain ⟨c, h1, h2, h3, h4⟩ := hz
  have hp2 := (int32_ofNat_lt hp).2
  have hc : c ≤ 31 := by
    rcases h4 with rfl | h4
    · omega
    · refine Nat.le_of_not_lt fun q => ?_
      have : 2 ^ 31 ≤ 2 ^ (c - 1) := Nat.pow_le_pow_right (by decide) (by omega)
      omega
  by_cases q : w < z
  · rw [if_pos q] at hm; subst hm
    rw [Int32.lt_iff_toInt_lt, hw, h1] at q
    exact ⟨c, h1, by omega, hc, h3⟩
  · rw [if_neg q] at hm; subst hm
    rw [Int32.lt_iff_toInt_lt, hw, h1] at q
    exact ⟨b, hw, Nat.le_refl _, hb, Nat.lt_of_lt_of_le h3 (Nat.pow_le_pow_right (by decide) (by omega))⟩
theorem fits_up {a0 a1 a2 b0 b1 b2 : Nat} {v : Row} (h : own_fits a0 a1 a2 v) (h0 : a0 ≤ b0) (h1 : a1 ≤ b1) (h2 : a2 ≤ b2) : own_fits b0 b1 b2 v :=
  ⟨Nat.lt_of_lt_of_le h.1 (Nat.pow_le_pow_right (by decide) h0), Nat.lt_of_lt_of_le h.2.1 (Nat.pow_le_pow_right (by decide) h1), Nat.lt_of_lt_of_le h.2.2 (Nat.pow_le_pow_right (by decide) h2)⟩
theorem own_mn {rb c m : Int32} {T k : Nat} (hr : rb.toInt = T) (hT : T ≤ 93) (hk : k < 2) (hc : c.toInt = ((64 * k : Nat) : Int)) (hm : m = (if rb - c < (64 : Int32) then rb - c else (64 : Int32))) : m.toInt = min 64 ((T : Int) - 64 * k) := by
  have e : (rb - c).toInt = (T : Int) - 64 * k := by
    rw [Int32.toInt_sub, hr, hc, Int.bmod_eq_of_le (by omega) (by omega)]; omega
  by_cases q : rb - c < (64 : Int32)
  · rw [if_pos q] at hm; subst hm
    rw [Int32.lt_iff_toInt_lt, e, show (64 : Int32).toInt = 64 from rfl] at q
    omega
  · rw [if_neg q] at hm; subst hm
    rw [Int32.lt_iff_toInt_lt, e, show (64 : Int32).toInt = 64 from rfl] at q
    rw [show (64 : Int32).toInt = 64 from rfl]; omega
section OwnKinds
variable {Z : State} {h h' : Heap} {a b : Addr}
theorem arr_ne {c c' : Cell} {t t' : FieldType} (A : Arr Z h a c t) (B : Arr Z h b c' t') (q : t ≠ t') : a ≠ b := fun e => by
  subst e
  cases A.1.symm.trans B.1
  obtain ⟨-, k, h1, co, h2⟩ := A.2.1
  obtain ⟨-, k', g1, co', g2⟩ := B.2.1
  cases h1.symm.trans g1
  cases h2.symm.trans g2
  exact q rfl
theorem LAr_arv {n : Nat} {f : Nat → Int64} {k : ClassId} {ty : FieldType} {z : Int32} {vs : List Value} {d : Value} (A : LAr Z h a n f) (B : Arv Z h b k ty z vs d) (q : (FieldType.long) ≠ ty) : a ≠ b := by
  obtain ⟨c, A1, -⟩ := A; obtain ⟨c', B1, -⟩ := B; exact arr_ne A1 B1 q
theorem arv_arv {k k' : ClassId} {ty ty' : FieldType} {z z' : Int32} {vs vs' : List Value} {d d' : Value} (A : Arv Z h a k ty z vs d) (B : Arv Z h b k' ty' z' vs' d') (q : ty ≠ ty') : a ≠ b := by
  obtain ⟨c, A1, -⟩ := A; obtain ⟨c', B1, -⟩ := B; exact arr_ne A1 B1 q
end OwnKinds
section OwnPk
variable {Z : State} {h h' : Heap} {a b : Addr}
theorem LAr_exa {n : Nat} {f : Nat → Int64} {C : String} {m : Nat} {a0 : Array Value} (A : LAr Z h a n f) (E : Exa Z h b C) (w : (Jvm.Cond.instantiable C m).before a0 Z = true) : a ≠ b := fun q => by
  subst q
  obtain ⟨cl, ⟨e2, hA, -⟩, -⟩ := A
  obtain ⟨c1, k1, e1, f1, g1, -⟩ := E
  cases e1.symm.trans e2
  simp only [Cond.before, Cond.holds, Cond.value, f1, Option.bind_some, g1, Option.map_some] at w
  have ho : k1.kind = .ordinary := by
    simp only [beq_iff_eq, Option.some.injEq, Bool.and_eq_true, decide_eq_true_eq] at w; exact w.1.1.1
  obtain ⟨-, kk, hk, comp, hkind⟩ := hA
  rw [g1] at hk; cases hk; rw [ho] at hkind; cases hkind
theorem LAr_new {cA : ClassId} {z : Int32} {n : Nat} (A : Arr Z h a (newA cA .long z) .long) (hz : z.toInt = n) : LAr Z h a n (fun _ => (0 : Int64)) := by
  have hc := clampN hz
  have := z.toInt_lt
  refine ⟨_, A, by rw [sz_new, hc], by omega, fun j hj => ?_⟩
  show (Array.replicate z.toNatClampNeg (defaultValue .long))[j]? = _
  rw [hc, Array.getElem?_replicate, if_pos hj]; rfl
theorem len_cap {z : Int32} {n cap : Nat} (hz : z.toInt = n) (h : n ≤ cap) : ¬ z < 0 ∧ z.toNatClampNeg ≤ cap := by
  refine ⟨?_, by rw [clampN hz]; exact h⟩
  rw [Int32.lt_iff_toInt_lt, hz, show (0 : Int32).toInt = 0 from rfl]; omega
theorem Exa_lt {C : String} (E : Exa Z h a C) : a < h.size := E.lt
end OwnPk
section OwnRef
variable {p : Program} {l : Launch} {e : Env} {R : Room} {s : State} {m : MethodId} {args : Array Value} {below : List Frame} {meth : Method} {c : Code} {T : State} {locs : List Loc} {cells slots : Nat} {Z : State} {a0 : Array Value} {h : Heap}
theorem own_ready39 {Z : State} {vm' : Vm} {cur index cf : Nat} {f : Field} (hZ : Z.Warmed39 vm') (r : Z.vm.fieldReady cur index cf f) : vm'.fieldReady cur index cf f := by
  obtain ⟨k, i, kc, h1, h2, h3, h4⟩ := r
  obtain ⟨k', q1, -, -, q4, -⟩ := hZ.2.2.2 _ _ h1
  obtain ⟨kc', r1, r2, -⟩ := hZ.2.2.2 _ _ h3
  refine ⟨k', i, kc', q1, ?_, r1, by rw [r2]; exact h4⟩
  rcases q4 index with q | ⟨q, -⟩
  · rw [q]; exact h2
  · rw [h2] at q; cases q
theorem own_readyH {Z : State} {vm' : Vm} {cur index cf : Nat} {f : Field} (hZ : Z.WarmedH vm') (r : Z.vm.fieldReady cur index cf f) : vm'.fieldReady cur index cf f := by
  obtain ⟨k, i, kc, h1, h2, h3, h4⟩ := r
  obtain ⟨k', q1, -, -, q4, -⟩ := hZ.2.2 _ _ h1
  obtain ⟨kc', r1, r2, -⟩ := hZ.2.2 _ _ h3
  refine ⟨k', i, kc', q1, ?_, r1, by rw [r2]; exact h4⟩
  rcases q4 index with q | ⟨q, -⟩
  · rw [q]; exact h2
  · rw [h2] at q; cases q
/-- getfield of an entry that stands resolved -/
theorem getFR (X : Stand p l e R s m args below meth c T locs cells slots) (hx : p.tables.exec = Jvm.exec) (hZ : Z.Warmed39 s.vm) {own O n d : String} {index : Nat} (hown : s.vm.findClass own = some m.cls) (w : (Cond.fieldRef own index O n d).before a0 Z = true)
    (eT : T.heap = h) {a : Addr} {v : Value} (F : Fld Z h a O n d v) {g : JFrame} (hg : g.method = m) {rest : List Value} (hs : g.stack = .ref a :: rest) (hd : decode c.code g.pc = .ok (.getfield index, 3)) : ∃ T', Stand p l e R s m args below meth c T' locs cells slots ∧ T'.heap = h ∧ ∀ target, Steps p.tables e below (T'.setTop { g with pc := g.pc + 3, stack := v :: rest }) target → Steps p.tables e below (T.setTop g) target := by
  obtain ⟨cell, cf, k, i, f, h1, h2, h3, h4, -, -, h7⟩ := F
  have hown' : Z.vm.findClass own = some m.cls := by rw [← hZ.alike.findClass]; exact hown
  obtain ⟨c', k', i', f', q1, q2⟩ := Cond.fieldRef_spec hown' w
  cases h2.symm.trans q1
  have r := own_readyH X.warmed (own_ready39 hZ q2)
  refine ⟨T, X, eT, fun target hrest => ?_⟩
  subst hg eT
  jvm_step X.here [hx, hd, getfield.wp_ready (e := e) (s := T) (f := g) X.here.top r h3 hs h1 h4 h7]
  exact hrest
end OwnRef
section OwnPriv
variable {p : Program} {l : Launch} {e : Env} {R : Room} {s : State} {m : MethodId} {args : Array Value} {below : List Frame} {meth : Method} {c : Code} {T : State} {locs : List Loc} {cells slots : Nat} {K : Outcome → State → Prop} {Z : State} {a0 : Array Value}
/-- invokevirtual of a private method -/
theorem goPriv (X : Stand p l e R s m args below meth c T locs cells slots) (hx : p.tables.exec = Jvm.exec) (hZ : Z.Warmed39 s.vm) {own C : String} {index nI : Nat} {y : MethodName} {bytes : ByteArray} {maxL : Nat} {ret : Option FieldType} (hown : s.vm.findClass own = some m.cls)
    (w1 : (Jvm.Cond.methodLink own index y).before a0 Z = true) (w2 : (Jvm.Cond.instanceMethod y).before a0 Z = true) (w5 : (Jvm.Cond.privateMethod y).before a0 Z = true) (w6 : (Jvm.Cond.instantiable y.cls nI).before a0 Z = true) (w3 : (Jvm.Cond.initialized y.cls).before a0 Z = true) (w4 : (Jvm.Cond.code y bytes maxL ret).before a0 Z = true) (hy : y.cls ≠ "java/lang/invoke/MethodHandle" ∧ y.cls ≠ "java/lang/invoke/VarHandle")
    {h : Heap} {rm : Room} {a : Addr} {argsL rest : List Value} {Q : Option Value → Heap → List Loc → Prop} (eT : T.heap = h) (E : Exa Z h a C) (hC : Ctr l y bytes maxL ret [] rm (.ref a :: argsL).toArray Z h Q) (W : Nat) (hf : rm.frames + 1 ≤ R.frames) (hl : W + (maxL + 11) + rm.locals ≤ R.locals) (hcl : cells + rm.cells ≤ R.cells) (hsl : slots + rm.slots ≤ R.slots)
    (g : JFrame) (hg : g.method = m) (hsize : g.locals.size = c.maxLocals) (hlen : ∀ sig, parseMethodDescriptor y.desc = some sig → argsL.length = sig.parameters.length) (hst : g.stack = argsL.reverse ++ .ref a :: rest) (hd : decode c.code g.pc = .ok (.invokevirtual index, 3))
    (hW : 2 * g.monitorRoom + (rest.map fun v => v.category).sum ≤ W)
    (next : ∀ (v : Option Value) (T' : State) (L : List Loc), Stand p l e R s m args below meth c T' (locs ++ L) (cells + rm.cells) (slots + rm.slots) → Q v T'.heap L → Go p e below K (T'.setTop { g with pc := g.pc + 3, stack := v.toList ++ rest })) :
    Go p e below K (T.setTop g) := by
  subst eT
  obtain ⟨ci, ki, hc1, hc2, -, hc4, -⟩ := Cond.instantiable_spec w6
  have hni : ki.isInterface = false := by
    cases hq : ki.isInterface with
    | false => rfl
    | true => rw [hq] at hc4; simp at hc4
  obtain ⟨ki', hq1, hq2⟩ := hZ.alike.2.2 _ _ hc2
  have hpr : s.PrivateAt y := Cond.privateMethod_at (args := args) (mvP hZ w5)
  have hi2 : (Jvm.Cond.instanceMethod y).before args s = true := mvT hZ w2
  have hsel : (Jvm.Cond.selects y.cls y y).before args s = true := selects_self_of_private (by rw [hZ.alike.findClass]; exact hc1) hq1 (by rw [hq2]; exact hni) hpr hi2 hy
  obtain ⟨cell, k, e1, e2, e3, e4, -⟩ := E
  obtain ⟨v, _, ⟨T', L', k', n'⟩, -, X', ⟨L, hQ, l1, y1, z1⟩, stp⟩ := X.privateBack hx hown (mvT hZ w1) hi2 hsel hpr (mvT hZ w4) hy (backOf (W := W) hC hZ w4 w3 hf hl) (g := g) hg hsize (Steps.refl _) e1 (fun q z => by rw [z] at e4; cases e4) hlen hst hW hd (fun _ _ => ⟨rfl, rfl, hcl, hsl⟩)
  dsimp only [Pt.U, Pt.locs, Pt.cells, Pt.slots] at X' l1 y1 z1 stp hQ
  subst l1 y1 z1
  exact Go.tr stp (next v T' L X' hQ)
end OwnPriv
/-- the store P holds the rows -/
def PR (Z : State) (h : Heap) (P : Addr) (n : Int32) (rows : List Row) (aL : Addr) (aw : Addr) (aK : Addr) (aY : Addr) (aB : Addr) (aC : Addr) (kw : ClassId) (kK : ClassId) (kY : ClassId) (w0 : Int32) (w1 : Int32) (w2 : Int32) (rb : Int32) (wd : Int32) (cw : Int32) (b0 : Nat) (b1 : Nat) (b2 : Nat) (f : Nat → Int64) (g : Nat → Int64) (xK : Value) (xY : Value) : Prop := (Exa Z h P "com/example/traza/traza/PackedRows") ∧ (Fld Z h P "com/example/traza/traza/PackedRows" "chunkShift" "I" (.int (12 : Int32))) ∧ (Fld Z h P "com/example/traza/traza/PackedRows" "chunkMask" "I" (.int (4095 : Int32))) ∧ (Fld Z h P "com/example/traza/traza/PackedRows" "chunks" "[[J" (.ref aK)) ∧ (Fld Z h P "com/example/traza/traza/PackedRows" "layouts" "[Lcom/example/traza/traza/PackedRows$Layout;" (.ref aY)) ∧ (Fld Z h P "com/example/traza/traza/PackedRows" "layout" "Lcom/example/traza/traza/PackedRows$Layout;" (.ref aL)) ∧ (Fld Z h P "com/example/traza/traza/PackedRows" "bits" "[J" (.ref aB)) ∧ (Fld Z h P "com/example/traza/traza/PackedRows" "size" "I" (.int n)) ∧ (Exa Z h aL "com/example/traza/traza/PackedRows$Layout") ∧ (Fld Z h aL "com/example/traza/traza/PackedRows$Layout" "widths" "[I" (.ref aw)) ∧ (Fld Z h aL "com/example/traza/traza/PackedRows$Layout" "rowBits" "I" (.int rb)) ∧ (Fld Z h aL "com/example/traza/traza/PackedRows$Layout" "words" "I" (.int wd)) ∧ (Fld Z h aL "com/example/traza/traza/PackedRows$Layout" "chunkWords" "I" (.int cw)) ∧ (Arv Z h aw kw .int (3 : Int32) [(.int w0), (.int w1), (.int w2)] (.int (0 : Int32))) ∧ (Arv Z h aK kK (.array .long) (1 : Int32) [xK] .null) ∧ (Arv Z h aY kY (.object "com/example/traza/traza/PackedRows$Layout") (1 : Int32) [xY] .null) ∧ (OvrA Z kK .long "[J") ∧ (Ovr Z kY "com/example/traza/traza/PackedRows$Layout") ∧ (LAr Z h aB ((b0 + b1 + b2 + 63) / 64) g) ∧ (own_wid w0 w1 w2 rb wd cw b0 b1 b2) ∧ (P ≤ aL) ∧ (P ≤ aw) ∧ (P ≤ aK) ∧ (P ≤ aY) ∧ (P ≤ aB) ∧ (∀ v ∈ rows, own_fits b0 b1 b2 v) ∧ (¬ n = 0 → xK = .ref aC ∧ xY = .ref aL ∧ Exa Z h aC "[J" ∧ LAr Z h aC (64 * (b0 + b1 + b2)) f ∧ (∀ i, cb f i = rowsBit b0 b1 b2 rows i) ∧ aC ≠ aB ∧ P ≤ aC) ∧ (n = 0 → xK = .null ∧ xY = .null)
def Low (P : Nat) (h h' : Heap) : Prop := ∃ ws, Keep h h' ws ∧ ∀ x ∈ ws, P ≤ x
section OwnLow
variable {Z : State} {h h' h'' : Heap} {P a : Nat}
theorem Keep_up {ws vs : List Addr} (K : Keep h h' ws) (q : ∀ x ∈ ws, x ∈ vs) : Keep h h' vs := ⟨K.1, fun x c r s => K.2.1 x c r (fun z => s (q x z)), K.2.2⟩
theorem Low_refl : Low P h h := ⟨[], Keep.refl h [], fun x hx => by simp at hx⟩
theorem Low_keep {ws : List Addr} (L : Low P h h') (K : Keep h' h'' ws) (q : ∀ x ∈ ws, P ≤ x) : Low P h h'' := by
  obtain ⟨vs, L1, L2⟩ := L
  refine ⟨vs ++ ws, (Keep_up L1 (fun x hx => List.mem_append_left _ hx)).trans K (fun x hx => Or.inl (List.mem_append_right _ hx)), fun x hx => ?_⟩
  rcases List.mem_append.mp hx with hx | hx
  · exact L2 x hx
  · exact q x hx
theorem Low_ext (L : Low P h h') (E : Ext h' h'') : Low P h h'' := by obtain ⟨vs, L1, L2⟩ := L; exact ⟨vs, L1.ext E, L2⟩
theorem Low_wr {sl : Nat} {v : Value} (L : Low P h h') (W : Wr h' h'' a sl v) (q : P ≤ a) : Low P h h'' := Low_keep L (Keep.of_wr W) (allS q all0)
theorem low_nin {ws : List Addr} {x : Addr} (q : ∀ x ∈ ws, P ≤ x) (r : x < P) : x ∉ ws := fun z => absurd (q x z) (Nat.not_le.mpr r)
theorem PR_keep {n : Int32} {rows : List Row} {aL : Addr} {aw : Addr} {aK : Addr} {aY : Addr} {aB : Addr} {aC : Addr} {kw : ClassId} {kK : ClassId} {kY : ClassId} {w0 : Int32} {w1 : Int32} {w2 : Int32} {rb : Int32} {wd : Int32} {cw : Int32} {b0 : Nat} {b1 : Nat} {b2 : Nat} {f : Nat → Int64} {g : Nat → Int64} {xK : Value} {xY : Value} {ws : List Addr} (R : PR Z h P n rows aL aw aK aY aB aC kw kK kY w0 w1 w2 rb wd cw b0 b1 b2 f g xK xY) (K : Keep h h' ws) (q : ∀ x ∈ ws, x < P) : PR Z h' P n rows aL aw aK aY aB aC kw kK kY w0 w1 w2 rb wd cw b0 b1 b2 f g xK xY := by
  have N : ∀ {x : Addr}, P ≤ x → x ∉ ws := fun hp z => absurd (q _ z) (Nat.not_lt.mpr hp)
  obtain ⟨R_eP, R_f_chunkShift, R_f_chunkMask, R_f_chunks, R_f_layouts, R_f_layout, R_f_bits, R_f_size, R_eL, R_l_widths, R_l_rowBits, R_l_words, R_l_chunkWords, R_vw, R_vK, R_vY, R_oK, R_oY, R_vB, R_hW, R_pL, R_pw, R_pK, R_pY, R_pB, R_hF, R_full, R_none⟩ := R
  refine ⟨R_eP.keep K, R_f_chunkShift.keep K (N (Nat.le_refl _)), R_f_chunkMask.keep K (N (Nat.le_refl _)), R_f_chunks.keep K (N (Nat.le_refl _)), R_f_layouts.keep K (N (Nat.le_refl _)), R_f_layout.keep K (N (Nat.le_refl _)), R_f_bits.keep K (N (Nat.le_refl _)), R_f_size.keep K (N (Nat.le_refl _)), R_eL.keep K, R_l_widths.keep K (N (R_pL)), R_l_rowBits.keep K (N (R_pL)), R_l_words.keep K (N (R_pL)), R_l_chunkWords.keep K (N (R_pL)), R_vw.keep K (N (R_pw)), R_vK.keep K (N (R_pK)), R_vY.keep K (N (R_pY)), R_oK, R_oY, LAr_keep R_vB K (N (R_pB)), R_hW, R_pL, R_pw, R_pK, R_pY, R_pB, R_hF, fun hn => ?_, R_none⟩
  obtain ⟨q1, q2, q3, q4, q5, q6, q7⟩ := R_full hn
  exact ⟨q1, q2, q3.keep K, LAr_keep q4 K (N q7), q5, q6, q7⟩
theorem PR_pw {n : Int32} {rows : List Row} {aL : Addr} {aw : Addr} {aK : Addr} {aY : Addr} {aB : Addr} {aC : Addr} {kw : ClassId} {kK : ClassId} {kY : ClassId} {w0 : Int32} {w1 : Int32} {w2 : Int32} {rb : Int32} {wd : Int32} {cw : Int32} {b0 : Nat} {b1 : Nat} {b2 : Nat} {f : Nat → Int64} {g : Nat → Int64} {xK : Value} {xY : Value} (R : PR Z h P n rows aL aw aK aY aB aC kw kK kY w0 w1 w2 rb wd cw b0 b1 b2 f g xK xY) : P ≤ aw := by
  obtain ⟨R_eP, R_f_chunkShift, R_f_chunkMask, R_f_chunks, R_f_layouts, R_f_layout, R_f_bits, R_f_size, R_eL, R_l_widths, R_l_rowBits, R_l_words, R_l_chunkWords, R_vw, R_vK, R_vY, R_oK, R_oY, R_vB, R_hW, R_pL, R_pw, R_pK, R_pY, R_pB, R_hF, R_full, R_none⟩ := R; exact R_pw
end OwnLow
theorem fit_pos {v : Int32} {b : Nat} (h : fit1 v b) (hb : b ≤ 31) : ¬ v < 0 := by
  have h1 : v.toBitVec.toNat < 2 ^ 31 := Nat.lt_of_lt_of_le h (Nat.pow_le_pow_right (by decide) hb)
  rw [Int32.lt_iff_toInt_lt, show (0 : Int32).toInt = 0 from rfl]
  show ¬ v.toBitVec.toInt < 0
  rw [BitVec.toInt_eq_toNat_cond]; split <;> omega
theorem own_sh12 {p : Int32} {r : Nat} (h : p.toInt = r) (hr : r ≤ 2) : ((p.toUInt32 >>> ((12 : Int32) &&& 31).toUInt32).toInt32) = 0 := by
  have : p = 0 ∨ p = 1 ∨ p = 2 := by
    have h3 : r = 0 ∨ r = 1 ∨ r = 2 := by omega
    rcases h3 with rfl | rfl | rfl
    · exact Or.inl (Int32.toInt_inj.mp h)
    · exact Or.inr (Or.inl (Int32.toInt_inj.mp h))
    · exact Or.inr (Or.inr (Int32.toInt_inj.mp h))
  rcases this with rfl | rfl | rfl <;> decide
theorem own_an12 {p : Int32} {r : Nat} (h : p.toInt = r) (hr : r ≤ 2) : (p &&& (4095 : Int32)) = p := by
  have : p = 0 ∨ p = 1 ∨ p = 2 := by
    have h3 : r = 0 ∨ r = 1 ∨ r = 2 := by omega
    rcases h3 with rfl | rfl | rfl
    · exact Or.inl (Int32.toInt_inj.mp h)
    · exact Or.inr (Or.inl (Int32.toInt_inj.mp h))
    · exact Or.inr (Or.inr (Int32.toInt_inj.mp h))
  rcases this with rfl | rfl | rfl <;> decide

theorem pd_0 : parseMethodDescriptor "(I)I" = some ⟨[.int], some .int⟩ := by decide +kernel
theorem pd_1 : parseMethodDescriptor "(J)I" = some ⟨[.long], some .int⟩ := by decide +kernel
theorem pd_2 : parseMethodDescriptor "(II)I" = some ⟨[.int, .int], some .int⟩ := by decide +kernel
theorem pd_3 : parseMethodDescriptor "([JJI)I" = some ⟨[(.array .long), .long, .int], some .int⟩ := by decide +kernel
theorem pd_4 : parseMethodDescriptor "([II)V" = some ⟨[(.array .int), .int], none⟩ := by decide +kernel
theorem pd_5 : parseMethodDescriptor "([I[J)Z" = some ⟨[(.array .int), (.array .long)], some .boolean⟩ := by decide +kernel
theorem pd_6 : parseMethodDescriptor "([I)V" = some ⟨[(.array .int)], none⟩ := by decide +kernel
theorem pd_7 : parseMethodDescriptor "()[J" = some ⟨[], some (.array .long)⟩ := by decide +kernel
theorem pd_8 : parseMethodDescriptor "([JI[J)V" = some ⟨[(.array .long), .int, (.array .long)], none⟩ := by decide +kernel
theorem pd_9 : parseMethodDescriptor "([JI[I)V" = some ⟨[(.array .long), .int, (.array .int)], none⟩ := by decide +kernel
theorem pd_10 : parseMethodDescriptor "(I)V" = some ⟨[.int], none⟩ := by decide +kernel
theorem pd_11 : parseMethodDescriptor "([I)I" = some ⟨[(.array .int)], some .int⟩ := by decide +kernel
theorem pd_12 : parseMethodDescriptor "(I[I)V" = some ⟨[.int, (.array .int)], none⟩ := by decide +kernel
theorem pd_13 : parseMethodDescriptor "([IIII)Z" = some ⟨[(.array .int), .int, .int, .int], some .boolean⟩ := by decide +kernel
theorem d3_0 : decode jdk_29_method_65_code 0 = .ok (.iload_n 0, 1) := by decide +kernel
theorem d3_1 : decode jdk_29_method_65_code 1 = .ok (.iload_n 1, 1) := by decide +kernel
theorem d3_2 : decode jdk_29_method_65_code 2 = .ok (.if_icmp .lt 7, 3) := by decide +kernel
theorem d3_5 : decode jdk_29_method_65_code 5 = .ok (.iload_n 0, 1) := by decide +kernel
theorem d3_6 : decode jdk_29_method_65_code 6 = .ok (.goto 4, 3) := by decide +kernel
theorem d3_9 : decode jdk_29_method_65_code 9 = .ok (.iload_n 1, 1) := by decide +kernel
theorem d3_10 : decode jdk_29_method_65_code 10 = .ok (.ireturn, 1) := by decide +kernel
set_option maxRecDepth 65536 in
set_option maxHeartbeats 40000000 in
theorem rm_max (l : Launch) (Z : State) (a0 : Array Value) (hw : ∀ d ∈ tables_1, d.before a0 Z = true) (ws : List Jvm.Cond) (p1 p2 : Int32) (h0 : Heap) (n0 : Nat) (O0 : Old Z n0 h0) :
    Ctr l (⟨"java/lang/Math", "max", "(II)I"⟩ : MethodName) jdk_29_method_65_code 2 (some .int) ws ({ frames := 0, cells := 0, slots := 0, locals := 0 } : Room) #[(.int p1), (.int p2)] Z h0 (fun v h L => (∃ z, v = some (.int z) ∧ z = (if p1 < p2 then p2 else p1)) ∧ Fr n0 L ∧ h = h0) := by
  have ef : ∀ m : MethodId, entryFrame m #[(.int p1), (.int p2)] 2 = mkF m 0 #[.val (.int p1), .val (.int p2)] [] := fun m => by first | (simp [entryFrame, mkF, argsToLocals, Value.category]; done) | rfl
  refine Ctr.of (Jvm.Free.JP.mathPlain rfl (by decide +kernel)) ?_
  intro p e s m below meth c s₁ hx hZ hby hml hown0 hnm hret hlk X0 e0
  have hown : s.vm.findClass "java/lang/Math" = some m.cls := hown0
  have N0 := Fr.nil n0
  refine Go.st (fun t k => castTop (ef m) k) ?_
  refine Go.st (fun _ => XS.iloadN X0.here hx rfl (hb hby d3_0) rfl) ?_
  refine Go.st (fun _ => XS.iloadN X0.here hx rfl (hb hby d3_1) rfl) ?_
  by_cases hc1 : p1 < p2
  · refine Go.st (fun _ => XS.icmpYes X0.here hx rfl (pc0 := 2) (pc' := 9) rfl (hb hby d3_2) rfl (tlt hc1).1 (by decide) (by decide)) ?_
    show Go p e below _ (s₁.setTop (mkF m 9 #[.val (.int p1), .val (.int p2)] []))
    refine Go.st (fun _ => XS.iloadN X0.here hx rfl (hb hby d3_9) rfl) ?_
    show Go p e below _ (s₁.setTop (mkF m 10 #[.val (.int p1), .val (.int p2)] [(.int p2)]))
    exact goRetI X0 hx hlk hret e0 (hb hby d3_10) (by decide) (by decide) ⟨⟨_, rfl, by rw [if_pos hc1]⟩, N0, rfl⟩
  · refine Go.st (fun _ => XS.icmpNo X0.here hx rfl (hb hby d3_2) rfl (flt hc1).1) ?_
    refine Go.st (fun _ => XS.iloadN X0.here hx rfl (hb hby d3_5) rfl) ?_
    refine Go.st (fun _ => XS.goto X0.here hx rfl (pc0 := 6) (pc' := 10) rfl (hb hby d3_6) (by decide) (by decide)) ?_
    show Go p e below _ (s₁.setTop (mkF m 10 #[.val (.int p1), .val (.int p2)] [(.int p1)]))
    exact goRetI X0 hx hlk hret e0 (hb hby d3_10) (by decide) (by decide) ⟨⟨_, rfl, by rw [if_neg hc1]⟩, N0, rfl⟩
theorem d6_0 : decode jdk_29_method_69_code 0 = .ok (.iload_n 0, 1) := by decide +kernel
theorem d6_1 : decode jdk_29_method_69_code 1 = .ok (.iload_n 1, 1) := by decide +kernel
theorem d6_2 : decode jdk_29_method_69_code 2 = .ok (.if_icmp .gt 7, 3) := by decide +kernel
theorem d6_5 : decode jdk_29_method_69_code 5 = .ok (.iload_n 0, 1) := by decide +kernel
theorem d6_6 : decode jdk_29_method_69_code 6 = .ok (.goto 4, 3) := by decide +kernel
theorem d6_9 : decode jdk_29_method_69_code 9 = .ok (.iload_n 1, 1) := by decide +kernel
theorem d6_10 : decode jdk_29_method_69_code 10 = .ok (.ireturn, 1) := by decide +kernel
set_option maxRecDepth 65536 in
set_option maxHeartbeats 40000000 in
theorem rm_min (l : Launch) (Z : State) (a0 : Array Value) (hw : ∀ d ∈ tables_1, d.before a0 Z = true) (ws : List Jvm.Cond) (p1 p2 : Int32) (h0 : Heap) (n0 : Nat) (O0 : Old Z n0 h0) :
    Ctr l (⟨"java/lang/Math", "min", "(II)I"⟩ : MethodName) jdk_29_method_69_code 2 (some .int) ws ({ frames := 0, cells := 0, slots := 0, locals := 0 } : Room) #[(.int p1), (.int p2)] Z h0 (fun v h L => (∃ z, v = some (.int z) ∧ z = (if p2 < p1 then p2 else p1)) ∧ Fr n0 L ∧ h = h0) := by
  have ef : ∀ m : MethodId, entryFrame m #[(.int p1), (.int p2)] 2 = mkF m 0 #[.val (.int p1), .val (.int p2)] [] := fun m => by first | (simp [entryFrame, mkF, argsToLocals, Value.category]; done) | rfl
  refine Ctr.of (Jvm.Free.JP.mathPlain rfl (by decide +kernel)) ?_
  intro p e s m below meth c s₁ hx hZ hby hml hown0 hnm hret hlk X0 e0
  have hown : s.vm.findClass "java/lang/Math" = some m.cls := hown0
  have N0 := Fr.nil n0
  refine Go.st (fun t k => castTop (ef m) k) ?_
  refine Go.st (fun _ => XS.iloadN X0.here hx rfl (hb hby d6_0) rfl) ?_
  refine Go.st (fun _ => XS.iloadN X0.here hx rfl (hb hby d6_1) rfl) ?_
  by_cases hc1 : p2 < p1
  · refine Go.st (fun _ => XS.icmpYes X0.here hx rfl (pc0 := 2) (pc' := 9) rfl (hb hby d6_2) rfl (tlt hc1).2.2.1 (by decide) (by decide)) ?_
    show Go p e below _ (s₁.setTop (mkF m 9 #[.val (.int p1), .val (.int p2)] []))
    refine Go.st (fun _ => XS.iloadN X0.here hx rfl (hb hby d6_9) rfl) ?_
    show Go p e below _ (s₁.setTop (mkF m 10 #[.val (.int p1), .val (.int p2)] [(.int p2)]))
    exact goRetI X0 hx hlk hret e0 (hb hby d6_10) (by decide) (by decide) ⟨⟨_, rfl, by rw [if_pos hc1]⟩, N0, rfl⟩
  · refine Go.st (fun _ => XS.icmpNo X0.here hx rfl (hb hby d6_2) rfl (flt hc1).2.2.1) ?_
    refine Go.st (fun _ => XS.iloadN X0.here hx rfl (hb hby d6_5) rfl) ?_
    refine Go.st (fun _ => XS.goto X0.here hx rfl (pc0 := 6) (pc' := 10) rfl (hb hby d6_6) (by decide) (by decide)) ?_
    show Go p e below _ (s₁.setTop (mkF m 10 #[.val (.int p1), .val (.int p2)] [(.int p1)]))
    exact goRetI X0 hx hlk hret e0 (hb hby d6_10) (by decide) (by decide) ⟨⟨_, rfl, by rw [if_neg hc1]⟩, N0, rfl⟩
theorem d5_0 : decode jdk_33_method_47_code 0 = .ok (.iload_n 0, 1) := by decide +kernel
theorem d5_1 : decode jdk_33_method_47_code 1 = .ok (.ifCond .gt 14, 3) := by decide +kernel
theorem d5_4 : decode jdk_33_method_47_code 4 = .ok (.iload_n 0, 1) := by decide +kernel
theorem d5_5 : decode jdk_33_method_47_code 5 = .ok (.ifCond .ne 8, 3) := by decide +kernel
theorem d5_8 : decode jdk_33_method_47_code 8 = .ok (.bipush 32, 2) := by decide +kernel
theorem d5_10 : decode jdk_33_method_47_code 10 = .ok (.goto 4, 3) := by decide +kernel
theorem d5_13 : decode jdk_33_method_47_code 13 = .ok (.iconst 0, 1) := by decide +kernel
theorem d5_14 : decode jdk_33_method_47_code 14 = .ok (.ireturn, 1) := by decide +kernel
theorem d5_15 : decode jdk_33_method_47_code 15 = .ok (.bipush 31, 2) := by decide +kernel
theorem d5_17 : decode jdk_33_method_47_code 17 = .ok (.istore_n 1, 1) := by decide +kernel
theorem d5_18 : decode jdk_33_method_47_code 18 = .ok (.iload_n 0, 1) := by decide +kernel
theorem d5_19 : decode jdk_33_method_47_code 19 = .ok (.ldc_w 264, 3) := by decide +kernel
theorem d5_22 : decode jdk_33_method_47_code 22 = .ok (.if_icmp .lt 11, 3) := by decide +kernel
theorem d5_25 : decode jdk_33_method_47_code 25 = .ok (.iinc 1 (-16), 3) := by decide +kernel
theorem d5_28 : decode jdk_33_method_47_code 28 = .ok (.iload_n 0, 1) := by decide +kernel
theorem d5_29 : decode jdk_33_method_47_code 29 = .ok (.bipush 16, 2) := by decide +kernel
theorem d5_31 : decode jdk_33_method_47_code 31 = .ok (.iushr, 1) := by decide +kernel
theorem d5_32 : decode jdk_33_method_47_code 32 = .ok (.istore_n 0, 1) := by decide +kernel
theorem d5_33 : decode jdk_33_method_47_code 33 = .ok (.iload_n 0, 1) := by decide +kernel
theorem d5_34 : decode jdk_33_method_47_code 34 = .ok (.sipush 256, 3) := by decide +kernel
theorem d5_37 : decode jdk_33_method_47_code 37 = .ok (.if_icmp .lt 11, 3) := by decide +kernel
theorem d5_40 : decode jdk_33_method_47_code 40 = .ok (.iinc 1 (-8), 3) := by decide +kernel
theorem d5_43 : decode jdk_33_method_47_code 43 = .ok (.iload_n 0, 1) := by decide +kernel
theorem d5_44 : decode jdk_33_method_47_code 44 = .ok (.bipush 8, 2) := by decide +kernel
theorem d5_46 : decode jdk_33_method_47_code 46 = .ok (.iushr, 1) := by decide +kernel
theorem d5_47 : decode jdk_33_method_47_code 47 = .ok (.istore_n 0, 1) := by decide +kernel
theorem d5_48 : decode jdk_33_method_47_code 48 = .ok (.iload_n 0, 1) := by decide +kernel
theorem d5_49 : decode jdk_33_method_47_code 49 = .ok (.bipush 16, 2) := by decide +kernel
theorem d5_51 : decode jdk_33_method_47_code 51 = .ok (.if_icmp .lt 10, 3) := by decide +kernel
theorem d5_54 : decode jdk_33_method_47_code 54 = .ok (.iinc 1 (-4), 3) := by decide +kernel
theorem d5_57 : decode jdk_33_method_47_code 57 = .ok (.iload_n 0, 1) := by decide +kernel
theorem d5_58 : decode jdk_33_method_47_code 58 = .ok (.iconst 4, 1) := by decide +kernel
theorem d5_59 : decode jdk_33_method_47_code 59 = .ok (.iushr, 1) := by decide +kernel
theorem d5_60 : decode jdk_33_method_47_code 60 = .ok (.istore_n 0, 1) := by decide +kernel
theorem d5_61 : decode jdk_33_method_47_code 61 = .ok (.iload_n 0, 1) := by decide +kernel
theorem d5_62 : decode jdk_33_method_47_code 62 = .ok (.iconst 4, 1) := by decide +kernel
theorem d5_63 : decode jdk_33_method_47_code 63 = .ok (.if_icmp .lt 10, 3) := by decide +kernel
theorem d5_66 : decode jdk_33_method_47_code 66 = .ok (.iinc 1 (-2), 3) := by decide +kernel
theorem d5_69 : decode jdk_33_method_47_code 69 = .ok (.iload_n 0, 1) := by decide +kernel
theorem d5_70 : decode jdk_33_method_47_code 70 = .ok (.iconst 2, 1) := by decide +kernel
theorem d5_71 : decode jdk_33_method_47_code 71 = .ok (.iushr, 1) := by decide +kernel
theorem d5_72 : decode jdk_33_method_47_code 72 = .ok (.istore_n 0, 1) := by decide +kernel
theorem d5_73 : decode jdk_33_method_47_code 73 = .ok (.iload_n 1, 1) := by decide +kernel
theorem d5_74 : decode jdk_33_method_47_code 74 = .ok (.iload_n 0, 1) := by decide +kernel
theorem d5_75 : decode jdk_33_method_47_code 75 = .ok (.iconst 1, 1) := by decide +kernel
theorem d5_76 : decode jdk_33_method_47_code 76 = .ok (.iushr, 1) := by decide +kernel
theorem d5_77 : decode jdk_33_method_47_code 77 = .ok (.isub, 1) := by decide +kernel
theorem d5_78 : decode jdk_33_method_47_code 78 = .ok (.ireturn, 1) := by decide +kernel
theorem pn_5 : plainName "java/lang/Integer" = true := by first | (simp [plainName, overriddenIn]; done) | decide +kernel
set_option maxRecDepth 65536 in
set_option maxHeartbeats 40000000 in
theorem rmN32 (l : Launch) (Z : State) (a0 : Array Value) (hw : ∀ d ∈ tables_1, d.before a0 Z = true) (ws : List Jvm.Cond) (p1 : Int32) (h0 : Heap) (n0 : Nat) (O0 : Old Z n0 h0) :
    Ctr l (⟨"java/lang/Integer", "numberOfLeadingZeros", "(I)I"⟩ : MethodName) jdk_33_method_47_code 2 (some .int) ws ({ frames := 0, cells := 0, slots := 0, locals := 0 } : Room) #[(.int p1)] Z h0 (fun v h L => (∃ z, v = some (.int z) ∧ own_nlz32 p1 z) ∧ Fr n0 L ∧ h = h0) := by
  have ef : ∀ m : MethodId, entryFrame m #[(.int p1)] 2 = mkF m 0 #[.val (.int p1), .unset] [] := fun m => by first | (simp [entryFrame, mkF, argsToLocals, Value.category]; done) | rfl
  refine Ctr.of (plainFor_of_name pn_5) ?_
  intro p e s m below meth c s₁ hx hZ hby hml hown0 hnm hret hlk X0 e0
  have hown : s.vm.findClass "java/lang/Integer" = some m.cls := hown0
  have N0 := Fr.nil n0
  refine Go.st (fun t k => castTop (ef m) k) ?_
  refine Go.st (fun _ => XS.iloadN X0.here hx rfl (hb hby d5_0) rfl) ?_
  by_cases hc1 : (0 : Int32) < p1
  · refine Go.st (fun _ => XS.ifYes X0.here hx rfl (pc0 := 1) (pc' := 15) rfl (hb hby d5_1) rfl ((if0 _ _).trans (tlt hc1).2.2.1) (by decide) (by decide)) ?_
    refine Go.st (fun _ => XS.bipush X0.here hx rfl (hb hby d5_15)) ?_
    show Go p e below _ (s₁.setTop (mkF m 17 #[.val (.int p1), .unset] [(.int (31 : Int32))]))
    refine Go.st (fun _ => XS.istoreN X0.here hx rfl (hb hby d5_17) rfl (l' := #[.val (.int p1), .val (.int (31 : Int32))]) rfl) ?_
    refine Go.st (fun _ => XS.iloadN X0.here hx rfl (hb hby d5_18) rfl) ?_
    refine Go.st (fun _ => X0.ldcwInt hx hown (mvT hZ (ww hw 30 rfl)) (g := (mkF m 19 #[.val (.int p1), .val (.int (31 : Int32))] [(.int p1)])) rfl (hb hby d5_19) _) ?_
    show Go p e below _ (s₁.setTop (mkF m 22 #[.val (.int p1), .val (.int (31 : Int32))] [(.int (65536 : Int32)), (.int p1)]))
    refine goJoin (α := Int32 × Int32) (P := fun z1 => own_nz p1 16 65536 z1.1 z1.2) (F := fun z1 => s₁.setTop (mkF m 33 #[.val (.int z1.1), .val (.int z1.2)] [])) (fun z1 hz1 => ?_) (fun J1 => ?_)
    · obtain ⟨i1, n1⟩ := z1
      have hz1 : own_nz p1 16 65536 i1 n1 := hz1
      refine Go.st (fun _ => XS.iloadN X0.here hx rfl (hb hby d5_33) rfl) ?_
      show Go p e below _ (s₁.setTop (mkF m 34 #[.val (.int i1), .val (.int n1)] [(.int i1)]))
      refine Go.st (fun _ => XS.sipush X0.here hx rfl (hb hby d5_34)) ?_
      show Go p e below _ (s₁.setTop (mkF m 37 #[.val (.int i1), .val (.int n1)] [(.int (256 : Int32)), (.int i1)]))
      refine goJoin (α := Int32 × Int32) (P := fun z2 => own_nz p1 24 256 z2.1 z2.2) (F := fun z2 => s₁.setTop (mkF m 48 #[.val (.int z2.1), .val (.int z2.2)] [])) (fun z2 hz2 => ?_) (fun J2 => ?_)
      · obtain ⟨i2, n2⟩ := z2
        have hz2 : own_nz p1 24 256 i2 n2 := hz2
        refine Go.st (fun _ => XS.iloadN X0.here hx rfl (hb hby d5_48) rfl) ?_
        refine Go.st (fun _ => XS.bipush X0.here hx rfl (hb hby d5_49)) ?_
        show Go p e below _ (s₁.setTop (mkF m 51 #[.val (.int i2), .val (.int n2)] [(.int (16 : Int32)), (.int i2)]))
        refine goJoin (α := Int32 × Int32) (P := fun z3 => own_nz p1 28 16 z3.1 z3.2) (F := fun z3 => s₁.setTop (mkF m 61 #[.val (.int z3.1), .val (.int z3.2)] [])) (fun z3 hz3 => ?_) (fun J3 => ?_)
        · obtain ⟨i3, n3⟩ := z3
          have hz3 : own_nz p1 28 16 i3 n3 := hz3
          refine Go.st (fun _ => XS.iloadN X0.here hx rfl (hb hby d5_61) rfl) ?_
          show Go p e below _ (s₁.setTop (mkF m 62 #[.val (.int i3), .val (.int n3)] [(.int i3)]))
          refine Go.st (fun _ => XS.iconst X0.here hx rfl (hb hby d5_62)) ?_
          show Go p e below _ (s₁.setTop (mkF m 63 #[.val (.int i3), .val (.int n3)] [(.int (4 : Int32)), (.int i3)]))
          refine goJoin (α := Int32 × Int32) (P := fun z4 => own_nz p1 30 4 z4.1 z4.2) (F := fun z4 => s₁.setTop (mkF m 73 #[.val (.int z4.1), .val (.int z4.2)] [])) (fun z4 hz4 => ?_) (fun J4 => ?_)
          · obtain ⟨i4, n4⟩ := z4
            have hz4 : own_nz p1 30 4 i4 n4 := hz4
            refine Go.st (fun _ => XS.iloadN X0.here hx rfl (hb hby d5_73) rfl) ?_
            refine Go.st (fun _ => XS.iloadN X0.here hx rfl (hb hby d5_74) rfl) ?_
            refine Go.st (fun _ => XS.iconst X0.here hx rfl (hb hby d5_75)) ?_
            show Go p e below _ (s₁.setTop (mkF m 76 #[.val (.int i4), .val (.int n4)] [(.int (1 : Int32)), (.int i4), (.int n4)]))
            refine Go.st (fun _ => XS.iushr X0.here hx rfl (hb hby d5_76) rfl) ?_
            refine Go.st (fun _ => XS.isub X0.here hx rfl (hb hby d5_77) rfl) ?_
            show Go p e below _ (s₁.setTop (mkF m 78 #[.val (.int i4), .val (.int n4)] [(.int (n4 - ((i4.toUInt32 >>> ((1 : Int32) &&& 31).toUInt32).toInt32)))]))
            exact goRetI X0 hx hlk hret e0 (hb hby d5_78) (by decide) (by decide) ⟨⟨_, rfl, nz_end hc1 hz4⟩, N0, rfl⟩
          · show Go p e below _ (s₁.setTop (mkF m 63 #[.val (.int i3), .val (.int n3)] [(.int (4 : Int32)), (.int i3)]))
            by_cases hc2 : i3 < (4 : Int32)
            · refine Go.st (fun _ => XS.icmpYes X0.here hx rfl (pc0 := 63) (pc' := 73) rfl (hb hby d5_63) rfl (tlt hc2).1 (by decide) (by decide)) ?_
              show Go p e below _ (s₁.setTop (mkF m 73 #[.val (.int i3), .val (.int n3)] []))
              exact J4 (i3, n3) (nz_no hz3 hc2 (by decide) (by decide))
            · refine Go.st (fun _ => XS.icmpNo X0.here hx rfl (hb hby d5_63) rfl (flt hc2).1) ?_
              refine Go.st (fun _ => XS.iinc X0.here hx rfl (hb hby d5_66) rfl (l' := #[.val (.int i3), .val (.int (n3 + (-2 : Int32)))]) rfl) ?_
              refine Go.st (fun _ => XS.iloadN X0.here hx rfl (hb hby d5_69) rfl) ?_
              refine Go.st (fun _ => XS.iconst X0.here hx rfl (hb hby d5_70)) ?_
              show Go p e below _ (s₁.setTop (mkF m 71 #[.val (.int i3), .val (.int (n3 + (-2 : Int32)))] [(.int (2 : Int32)), (.int i3)]))
              refine Go.st (fun _ => XS.iushr X0.here hx rfl (hb hby d5_71) rfl) ?_
              refine Go.st (fun _ => XS.istoreN X0.here hx rfl (hb hby d5_72) rfl (l' := #[.val (.int ((i3.toUInt32 >>> ((2 : Int32) &&& 31).toUInt32).toInt32)), .val (.int (n3 + (-2 : Int32)))]) rfl) ?_
              show Go p e below _ (s₁.setTop (mkF m 73 #[.val (.int ((i3.toUInt32 >>> ((2 : Int32) &&& 31).toUInt32).toInt32)), .val (.int (n3 + (-2 : Int32)))] []))
              exact J4 (((i3.toUInt32 >>> ((2 : Int32) &&& 31).toUInt32).toInt32), (n3 + (-2 : Int32))) (nz_yes (j := 2) (K := 28) (q := 2) (d := -2) (c := 4) (B' := 4) hz3 hc2 (by decide) (by decide) (by decide) (by decide) (by decide) (by decide) (Or.inr ⟨by decide, by decide⟩) (by decide))
        · show Go p e below _ (s₁.setTop (mkF m 51 #[.val (.int i2), .val (.int n2)] [(.int (16 : Int32)), (.int i2)]))
          by_cases hc3 : i2 < (16 : Int32)
          · refine Go.st (fun _ => XS.icmpYes X0.here hx rfl (pc0 := 51) (pc' := 61) rfl (hb hby d5_51) rfl (tlt hc3).1 (by decide) (by decide)) ?_
            show Go p e below _ (s₁.setTop (mkF m 61 #[.val (.int i2), .val (.int n2)] []))
            exact J3 (i2, n2) (nz_no hz2 hc3 (by decide) (by decide))
          · refine Go.st (fun _ => XS.icmpNo X0.here hx rfl (hb hby d5_51) rfl (flt hc3).1) ?_
            refine Go.st (fun _ => XS.iinc X0.here hx rfl (hb hby d5_54) rfl (l' := #[.val (.int i2), .val (.int (n2 + (-4 : Int32)))]) rfl) ?_
            refine Go.st (fun _ => XS.iloadN X0.here hx rfl (hb hby d5_57) rfl) ?_
            refine Go.st (fun _ => XS.iconst X0.here hx rfl (hb hby d5_58)) ?_
            show Go p e below _ (s₁.setTop (mkF m 59 #[.val (.int i2), .val (.int (n2 + (-4 : Int32)))] [(.int (4 : Int32)), (.int i2)]))
            refine Go.st (fun _ => XS.iushr X0.here hx rfl (hb hby d5_59) rfl) ?_
            refine Go.st (fun _ => XS.istoreN X0.here hx rfl (hb hby d5_60) rfl (l' := #[.val (.int ((i2.toUInt32 >>> ((4 : Int32) &&& 31).toUInt32).toInt32)), .val (.int (n2 + (-4 : Int32)))]) rfl) ?_
            show Go p e below _ (s₁.setTop (mkF m 61 #[.val (.int ((i2.toUInt32 >>> ((4 : Int32) &&& 31).toUInt32).toInt32)), .val (.int (n2 + (-4 : Int32)))] []))
            exact J3 (((i2.toUInt32 >>> ((4 : Int32) &&& 31).toUInt32).toInt32), (n2 + (-4 : Int32))) (nz_yes (j := 4) (K := 24) (q := 4) (d := -4) (c := 16) (B' := 16) hz2 hc3 (by decide) (by decide) (by decide) (by decide) (by decide) (by decide) (Or.inr ⟨by decide, by decide⟩) (by decide))
      · show Go p e below _ (s₁.setTop (mkF m 37 #[.val (.int i1), .val (.int n1)] [(.int (256 : Int32)), (.int i1)]))
        by_cases hc4 : i1 < (256 : Int32)
        · refine Go.st (fun _ => XS.icmpYes X0.here hx rfl (pc0 := 37) (pc' := 48) rfl (hb hby d5_37) rfl (tlt hc4).1 (by decide) (by decide)) ?_
          show Go p e below _ (s₁.setTop (mkF m 48 #[.val (.int i1), .val (.int n1)] []))
          exact J2 (i1, n1) (nz_no hz1 hc4 (by decide) (by decide))
        · refine Go.st (fun _ => XS.icmpNo X0.here hx rfl (hb hby d5_37) rfl (flt hc4).1) ?_
          refine Go.st (fun _ => XS.iinc X0.here hx rfl (hb hby d5_40) rfl (l' := #[.val (.int i1), .val (.int (n1 + (-8 : Int32)))]) rfl) ?_
          refine Go.st (fun _ => XS.iloadN X0.here hx rfl (hb hby d5_43) rfl) ?_
          refine Go.st (fun _ => XS.bipush X0.here hx rfl (hb hby d5_44)) ?_
          show Go p e below _ (s₁.setTop (mkF m 46 #[.val (.int i1), .val (.int (n1 + (-8 : Int32)))] [(.int (8 : Int32)), (.int i1)]))
          refine Go.st (fun _ => XS.iushr X0.here hx rfl (hb hby d5_46) rfl) ?_
          refine Go.st (fun _ => XS.istoreN X0.here hx rfl (hb hby d5_47) rfl (l' := #[.val (.int ((i1.toUInt32 >>> ((8 : Int32) &&& 31).toUInt32).toInt32)), .val (.int (n1 + (-8 : Int32)))]) rfl) ?_
          show Go p e below _ (s₁.setTop (mkF m 48 #[.val (.int ((i1.toUInt32 >>> ((8 : Int32) &&& 31).toUInt32).toInt32)), .val (.int (n1 + (-8 : Int32)))] []))
          exact J2 (((i1.toUInt32 >>> ((8 : Int32) &&& 31).toUInt32).toInt32), (n1 + (-8 : Int32))) (nz_yes (j := 8) (K := 16) (q := 8) (d := -8) (c := 256) (B' := 256) hz1 hc4 (by decide) (by decide) (by decide) (by decide) (by decide) (by decide) (Or.inr ⟨by decide, by decide⟩) (by decide))
    · show Go p e below _ (s₁.setTop (mkF m 22 #[.val (.int p1), .val (.int (31 : Int32))] [(.int (65536 : Int32)), (.int p1)]))
      by_cases hc5 : p1 < (65536 : Int32)
      · refine Go.st (fun _ => XS.icmpYes X0.here hx rfl (pc0 := 22) (pc' := 33) rfl (hb hby d5_22) rfl (tlt hc5).1 (by decide) (by decide)) ?_
        show Go p e below _ (s₁.setTop (mkF m 33 #[.val (.int p1), .val (.int (31 : Int32))] []))
        exact J1 (p1, (31 : Int32)) (nz_no (nz_start hc1) hc5 (by decide) (by decide))
      · refine Go.st (fun _ => XS.icmpNo X0.here hx rfl (hb hby d5_22) rfl (flt hc5).1) ?_
        refine Go.st (fun _ => XS.iinc X0.here hx rfl (hb hby d5_25) rfl (l' := #[.val (.int p1), .val (.int (15 : Int32))]) rfl) ?_
        refine Go.st (fun _ => XS.iloadN X0.here hx rfl (hb hby d5_28) rfl) ?_
        refine Go.st (fun _ => XS.bipush X0.here hx rfl (hb hby d5_29)) ?_
        show Go p e below _ (s₁.setTop (mkF m 31 #[.val (.int p1), .val (.int (15 : Int32))] [(.int (16 : Int32)), (.int p1)]))
        refine Go.st (fun _ => XS.iushr X0.here hx rfl (hb hby d5_31) rfl) ?_
        refine Go.st (fun _ => XS.istoreN X0.here hx rfl (hb hby d5_32) rfl (l' := #[.val (.int ((p1.toUInt32 >>> ((16 : Int32) &&& 31).toUInt32).toInt32)), .val (.int (15 : Int32))]) rfl) ?_
        show Go p e below _ (s₁.setTop (mkF m 33 #[.val (.int ((p1.toUInt32 >>> ((16 : Int32) &&& 31).toUInt32).toInt32)), .val (.int (15 : Int32))] []))
        exact J1 (((p1.toUInt32 >>> ((16 : Int32) &&& 31).toUInt32).toInt32), (15 : Int32)) (show own_nz p1 16 65536 ((p1.toUInt32 >>> ((16 : Int32) &&& 31).toUInt32).toInt32) (15 : Int32) from by rw [show (15 : Int32) = 31 + -16 from by decide]; exact nz_yes (j := 16) (K := 0) (q := 16) (d := -16) (c := 65536) (B' := 65536) (nz_start hc1) hc5 (by decide) (by decide) (by decide) (by decide) (by decide) (by decide) (Or.inr ⟨by decide, by decide⟩) (by decide))
  · refine Go.st (fun _ => XS.ifNo X0.here hx rfl (hb hby d5_1) rfl ((if0 _ _).trans (flt hc1).2.2.1)) ?_
    refine Go.st (fun _ => XS.iloadN X0.here hx rfl (hb hby d5_4) rfl) ?_
    by_cases hc6 : p1 = (0 : Int32)
    · refine Go.st (fun _ => XS.ifNo X0.here hx rfl (hb hby d5_5) rfl ((if0 _ _).trans (teq hc6).2)) ?_
      show Go p e below _ (s₁.setTop (mkF m 8 #[.val (.int p1), .unset] []))
      refine Go.st (fun _ => XS.bipush X0.here hx rfl (hb hby d5_8)) ?_
      refine Go.st (fun _ => XS.goto X0.here hx rfl (pc0 := 10) (pc' := 14) rfl (hb hby d5_10) (by decide) (by decide)) ?_
      show Go p e below _ (s₁.setTop (mkF m 14 #[.val (.int p1), .unset] [(.int (32 : Int32))]))
      exact goRetI X0 hx hlk hret e0 (hb hby d5_14) (by decide) (by decide) ⟨⟨_, rfl, nlz_zero hc6⟩, N0, rfl⟩
    · refine Go.st (fun _ => XS.ifYes X0.here hx rfl (pc0 := 5) (pc' := 13) rfl (hb hby d5_5) rfl ((if0 _ _).trans (feq hc6).2) (by decide) (by decide)) ?_
      refine Go.st (fun _ => XS.iconst X0.here hx rfl (hb hby d5_13)) ?_
      show Go p e below _ (s₁.setTop (mkF m 14 #[.val (.int p1), .unset] [(.int (0 : Int32))]))
      exact goRetI X0 hx hlk hret e0 (hb hby d5_14) (by decide) (by decide) ⟨⟨_, rfl, nlz_neg hc1 hc6⟩, N0, rfl⟩
theorem d4_0 : decode prog_27_method_8_code 0 = .ok (.bipush 32, 2) := by decide +kernel
theorem d4_2 : decode prog_27_method_8_code 2 = .ok (.iload_n 0, 1) := by decide +kernel
theorem d4_3 : decode prog_27_method_8_code 3 = .ok (.invokestatic 111, 3) := by decide +kernel
theorem d4_6 : decode prog_27_method_8_code 6 = .ok (.isub, 1) := by decide +kernel
theorem d4_7 : decode prog_27_method_8_code 7 = .ok (.ireturn, 1) := by decide +kernel
theorem pn_4 : plainName "com/example/traza/traza/PackedRows" = true := by first | (simp [plainName, overriddenIn]; done) | decide +kernel
set_option maxRecDepth 65536 in
set_option maxHeartbeats 40000000 in
theorem rm_bf (l : Launch) (Z : State) (a0 : Array Value) (hw : ∀ d ∈ tables_1, d.before a0 Z = true) (ws : List Jvm.Cond) (p1 : Int32) (h0 : Heap) (n0 : Nat) (O0 : Old Z n0 h0) :
    Ctr l (⟨"com/example/traza/traza/PackedRows", "bitsFor", "(I)I"⟩ : MethodName) prog_27_method_8_code 1 (some .int) ws ({ frames := 1, cells := 0, slots := 0, locals := 14 } : Room) #[(.int p1)] Z h0 (fun v h L => (∃ z, v = some (.int z) ∧ own_bf p1 z) ∧ Fr n0 L ∧ h = h0) := by
  have ef : ∀ m : MethodId, entryFrame m #[(.int p1)] 1 = mkF m 0 #[.val (.int p1)] [] := fun m => by first | (simp [entryFrame, mkF, argsToLocals, Value.category]; done) | rfl
  refine Ctr.of (plainFor_of_name pn_4) ?_
  intro p e s m below meth c s₁ hx hZ hby hml hown0 hnm hret hlk X0 e0
  have hown : s.vm.findClass "com/example/traza/traza/PackedRows" = some m.cls := hown0
  have N0 := Fr.nil n0
  refine Go.st (fun t k => castTop (ef m) k) ?_
  refine Go.st (fun _ => XS.bipush X0.here hx rfl (hb hby d4_0)) ?_
  refine Go.st (fun _ => XS.iloadN X0.here hx rfl (hb hby d4_2) rfl) ?_
  refine goCallS X0 hx hZ (y := (⟨"java/lang/Integer", "numberOfLeadingZeros", "(I)I"⟩ : MethodName)) hown (ww hw 26 rfl) (ww hw 27 rfl) (ww hw 28 rfl) (ww hw 29 rfl) (by decide) (argsL := [(.int p1)]) (rest := [(.int (32 : Int32))]) e0 (rmN32 l Z a0 hw [] p1 h0 n0 O0) 1 (by decide) (by decide) (by decide) (by decide) (mkF m 3 #[.val (.int p1)] [(.int p1), (.int (32 : Int32))]) rfl (by rw [hml]; rfl) (lenOf pd_0 rfl) rfl (hb hby d4_3) (Nat.le_of_eq rfl) ?_
  intro v1 T1 L1 X1 hQ1
  obtain ⟨⟨z1, rfl, hN1⟩, M1, e1⟩ := hQ1
  have N1 := Fr.app N0 M1
  show Go p e below _ (T1.setTop (mkF m 6 #[.val (.int p1)] [(.int z1), (.int (32 : Int32))]))
  refine Go.st (fun _ => XS.isub X1.here hx rfl (hb hby d4_6) rfl) ?_
  show Go p e below _ (T1.setTop (mkF m 7 #[.val (.int p1)] [(.int ((32 : Int32) - z1))]))
  exact goRetI X1 hx hlk hret e1 (hb hby d4_7) (by decide) (by decide) ⟨⟨_, rfl, bf_of hN1⟩, N1, rfl⟩
theorem d8_0 : decode prog_28_method_8_code 0 = .ok (.lload_n 0, 1) := by decide +kernel
theorem d8_1 : decode prog_28_method_8_code 1 = .ok (.ldc2_w 52, 3) := by decide +kernel
theorem d8_4 : decode prog_28_method_8_code 4 = .ok (.ladd, 1) := by decide +kernel
theorem d8_5 : decode prog_28_method_8_code 5 = .ok (.bipush 6, 2) := by decide +kernel
theorem d8_7 : decode prog_28_method_8_code 7 = .ok (.lushr, 1) := by decide +kernel
theorem d8_8 : decode prog_28_method_8_code 8 = .ok (.l2i, 1) := by decide +kernel
theorem d8_9 : decode prog_28_method_8_code 9 = .ok (.ireturn, 1) := by decide +kernel
theorem pn_8 : plainName "com/example/traza/traza/PackedRows$Layout" = true := by first | (simp [plainName, overriddenIn]; done) | decide +kernel
set_option maxRecDepth 65536 in
set_option maxHeartbeats 40000000 in
theorem rm_wf (l : Launch) (Z : State) (a0 : Array Value) (hw : ∀ d ∈ tables_1, d.before a0 Z = true) (ws : List Jvm.Cond) (q1 : Int64) (h0 : Heap) (n0 : Nat) (O0 : Old Z n0 h0) :
    Ctr l (⟨"com/example/traza/traza/PackedRows$Layout", "wordsFor", "(J)I"⟩ : MethodName) prog_28_method_8_code 2 (some .int) ws ({ frames := 0, cells := 0, slots := 0, locals := 0 } : Room) #[(.long q1)] Z h0 (fun v h L => v = some (.int (own_wf q1)) ∧ Fr n0 L ∧ h = h0) := by
  have ef : ∀ m : MethodId, entryFrame m #[(.long q1)] 2 = mkF m 0 #[.val (.long q1), .second] [] := fun m => by first | (simp [entryFrame, mkF, argsToLocals, Value.category]; done) | rfl
  refine Ctr.of (plainFor_of_name pn_8) ?_
  intro p e s m below meth c s₁ hx hZ hby hml hown0 hnm hret hlk X0 e0
  have hown : s.vm.findClass "com/example/traza/traza/PackedRows$Layout" = some m.cls := hown0
  have N0 := Fr.nil n0
  refine Go.st (fun t k => castTop (ef m) k) ?_
  refine Go.st (fun _ => XS.lloadN X0.here hx rfl (hb hby d8_0) rfl) ?_
  refine Go.st (fun _ => X0.ldc2Long hx hown (mvT hZ (ww hw 52 rfl)) (g := (mkF m 1 #[.val (.long q1), .second] [(.long q1)])) rfl (hb hby d8_1) _) ?_
  refine Go.st (fun _ => XS.ladd X0.here hx rfl (hb hby d8_4) rfl) ?_
  show Go p e below _ (s₁.setTop (mkF m 5 #[.val (.long q1), .second] [(.long (q1 + (63 : Int64)))]))
  refine Go.st (fun _ => XS.bipush X0.here hx rfl (hb hby d8_5)) ?_
  refine Go.st (fun _ => XS.lushr X0.here hx rfl (hb hby d8_7) rfl) ?_
  refine Go.st (fun _ => XS.l2i X0.here hx rfl (hb hby d8_8) rfl) ?_
  show Go p e below _ (s₁.setTop (mkF m 9 #[.val (.long q1), .second] [(.int ((((q1 + (63 : Int64)).toUInt64 >>> ((6 : Int32) &&& 0x3f).toInt64.toUInt64).toInt64).toInt32))]))
  exact goRetI X0 hx hlk hret e0 (hb hby d8_9) (by decide) (by decide) ⟨rfl, N0, rfl⟩
theorem d7_0 : decode prog_28_method_1_code 0 = .ok (.aload_n 0, 1) := by decide +kernel
theorem d7_1 : decode prog_28_method_1_code 1 = .ok (.invokespecial 1, 3) := by decide +kernel
theorem d7_4 : decode prog_28_method_1_code 4 = .ok (.lconst 0, 1) := by decide +kernel
theorem d7_5 : decode prog_28_method_1_code 5 = .ok (.lstore_n 3, 1) := by decide +kernel
theorem d7_6 : decode prog_28_method_1_code 6 = .ok (.aload_n 1, 1) := by decide +kernel
theorem d7_7 : decode prog_28_method_1_code 7 = .ok (.astore 5, 2) := by decide +kernel
theorem d7_9 : decode prog_28_method_1_code 9 = .ok (.aload 5, 2) := by decide +kernel
theorem d7_11 : decode prog_28_method_1_code 11 = .ok (.arraylength, 1) := by decide +kernel
theorem d7_12 : decode prog_28_method_1_code 12 = .ok (.istore 6, 2) := by decide +kernel
theorem d7_14 : decode prog_28_method_1_code 14 = .ok (.iconst 0, 1) := by decide +kernel
theorem d7_15 : decode prog_28_method_1_code 15 = .ok (.istore 7, 2) := by decide +kernel
theorem d7_17 : decode prog_28_method_1_code 17 = .ok (.iload 7, 2) := by decide +kernel
theorem d7_19 : decode prog_28_method_1_code 19 = .ok (.iload 6, 2) := by decide +kernel
theorem d7_21 : decode prog_28_method_1_code 21 = .ok (.if_icmp .ge 22, 3) := by decide +kernel
theorem d7_24 : decode prog_28_method_1_code 24 = .ok (.aload 5, 2) := by decide +kernel
theorem d7_26 : decode prog_28_method_1_code 26 = .ok (.iload 7, 2) := by decide +kernel
theorem d7_28 : decode prog_28_method_1_code 28 = .ok (.iaload, 1) := by decide +kernel
theorem d7_29 : decode prog_28_method_1_code 29 = .ok (.istore 8, 2) := by decide +kernel
theorem d7_31 : decode prog_28_method_1_code 31 = .ok (.lload_n 3, 1) := by decide +kernel
theorem d7_32 : decode prog_28_method_1_code 32 = .ok (.iload 8, 2) := by decide +kernel
theorem d7_34 : decode prog_28_method_1_code 34 = .ok (.i2l, 1) := by decide +kernel
theorem d7_35 : decode prog_28_method_1_code 35 = .ok (.ladd, 1) := by decide +kernel
theorem d7_36 : decode prog_28_method_1_code 36 = .ok (.lstore_n 3, 1) := by decide +kernel
theorem d7_37 : decode prog_28_method_1_code 37 = .ok (.iinc 7 1, 3) := by decide +kernel
theorem d7_40 : decode prog_28_method_1_code 40 = .ok (.goto (-23), 3) := by decide +kernel
theorem d7_43 : decode prog_28_method_1_code 43 = .ok (.lload_n 3, 1) := by decide +kernel
theorem d7_44 : decode prog_28_method_1_code 44 = .ok (.ldc2_w 9, 3) := by decide +kernel
theorem d7_47 : decode prog_28_method_1_code 47 = .ok (.lcmp, 1) := by decide +kernel
theorem d7_48 : decode prog_28_method_1_code 48 = .ok (.ifCond .le 17, 3) := by decide +kernel
theorem d7_51 : decode prog_28_method_1_code 51 = .ok (.new 11, 3) := by decide +kernel
theorem d7_54 : decode prog_28_method_1_code 54 = .ok (.dup, 1) := by decide +kernel
theorem d7_55 : decode prog_28_method_1_code 55 = .ok (.lload_n 3, 1) := by decide +kernel
theorem d7_61 : decode prog_28_method_1_code 61 = .ok (.invokespecial 17, 3) := by decide +kernel
theorem d7_64 : decode prog_28_method_1_code 64 = .ok (.athrow, 1) := by decide +kernel
theorem d7_65 : decode prog_28_method_1_code 65 = .ok (.aload_n 0, 1) := by decide +kernel
theorem d7_66 : decode prog_28_method_1_code 66 = .ok (.aload_n 1, 1) := by decide +kernel
theorem d7_67 : decode prog_28_method_1_code 67 = .ok (.putfield 20, 3) := by decide +kernel
theorem d7_70 : decode prog_28_method_1_code 70 = .ok (.aload_n 0, 1) := by decide +kernel
theorem d7_71 : decode prog_28_method_1_code 71 = .ok (.lload_n 3, 1) := by decide +kernel
theorem d7_72 : decode prog_28_method_1_code 72 = .ok (.l2i, 1) := by decide +kernel
theorem d7_73 : decode prog_28_method_1_code 73 = .ok (.putfield 26, 3) := by decide +kernel
theorem d7_76 : decode prog_28_method_1_code 76 = .ok (.aload_n 0, 1) := by decide +kernel
theorem d7_77 : decode prog_28_method_1_code 77 = .ok (.aload_n 0, 1) := by decide +kernel
theorem d7_78 : decode prog_28_method_1_code 78 = .ok (.getfield 26, 3) := by decide +kernel
theorem d7_81 : decode prog_28_method_1_code 81 = .ok (.i2l, 1) := by decide +kernel
theorem d7_82 : decode prog_28_method_1_code 82 = .ok (.invokestatic 30, 3) := by decide +kernel
theorem d7_85 : decode prog_28_method_1_code 85 = .ok (.putfield 34, 3) := by decide +kernel
theorem d7_88 : decode prog_28_method_1_code 88 = .ok (.aload_n 0, 1) := by decide +kernel
theorem d7_89 : decode prog_28_method_1_code 89 = .ok (.aload_n 0, 1) := by decide +kernel
theorem d7_90 : decode prog_28_method_1_code 90 = .ok (.getfield 26, 3) := by decide +kernel
theorem d7_93 : decode prog_28_method_1_code 93 = .ok (.i2l, 1) := by decide +kernel
theorem d7_94 : decode prog_28_method_1_code 94 = .ok (.iload_n 2, 1) := by decide +kernel
theorem d7_95 : decode prog_28_method_1_code 95 = .ok (.lshl, 1) := by decide +kernel
theorem d7_96 : decode prog_28_method_1_code 96 = .ok (.invokestatic 30, 3) := by decide +kernel
theorem d7_99 : decode prog_28_method_1_code 99 = .ok (.putfield 37, 3) := by decide +kernel
theorem d7_102 : decode prog_28_method_1_code 102 = .ok (.return_, 1) := by decide +kernel
theorem pn_7 : plainName "com/example/traza/traza/PackedRows$Layout" = true := by first | (simp [plainName, overriddenIn]; done) | decide +kernel
set_option maxRecDepth 65536 in
set_option maxHeartbeats 40000000 in
theorem rm_LI (l : Launch) (Z : State) (a0 : Array Value) (hw : ∀ d ∈ tables_1, d.before a0 Z = true) (ws : List Jvm.Cond) (aL aw : Addr) (kw : ClassId) (w0 w1 w2 : Int32) (b0 b1 b2 : Nat) (h0 : Heap) (n0 : Nat) (O0 : Old Z n0 h0) (A1 : Exa Z h0 aL "com/example/traza/traza/PackedRows$Layout") (FL0 : Fld Z h0 aL "com/example/traza/traza/PackedRows$Layout" "widths" "[I" .null) (FL1 : Fld Z h0 aL "com/example/traza/traza/PackedRows$Layout" "rowBits" "I" (.int (0 : Int32))) (FL2 : Fld Z h0 aL "com/example/traza/traza/PackedRows$Layout" "words" "I" (.int (0 : Int32))) (FL3 : Fld Z h0 aL "com/example/traza/traza/PackedRows$Layout" "chunkWords" "I" (.int (0 : Int32))) (g1 : n0 ≤ aL) (vw : Arv Z h0 aw kw .int (3 : Int32) [(.int w0), (.int w1), (.int w2)] (.int (0 : Int32))) (hw0 : w0.toInt = b0) (hw1 : w1.toInt = b1) (hw2 : w2.toInt = b2) (hb0 : b0 ≤ 31) (hb1 : b1 ≤ 31) (hb2 : b2 ≤ 31) :
    Ctr l (⟨"com/example/traza/traza/PackedRows$Layout", "<init>", "([II)V"⟩ : MethodName) prog_28_method_1_code 9 none ws ({ frames := 1, cells := 0, slots := 0, locals := 14 } : Room) #[(.ref aL), (.ref aw), (.int (12 : Int32))] Z h0 (fun v h L => v = none ∧ Fr n0 L ∧ Keep h0 h [aL] ∧ ∃ rb wd cw : Int32, own_wid w0 w1 w2 rb wd cw b0 b1 b2 ∧ Fld Z h aL "com/example/traza/traza/PackedRows$Layout" "widths" "[I" (.ref aw) ∧ Fld Z h aL "com/example/traza/traza/PackedRows$Layout" "rowBits" "I" (.int rb) ∧ Fld Z h aL "com/example/traza/traza/PackedRows$Layout" "words" "I" (.int wd) ∧ Fld Z h aL "com/example/traza/traza/PackedRows$Layout" "chunkWords" "I" (.int cw)) := by
  have ef : ∀ m : MethodId, entryFrame m #[(.ref aL), (.ref aw), (.int (12 : Int32))] 9 = mkF m 0 #[.val (.ref aL), .val (.ref aw), .val (.int (12 : Int32)), .unset, .unset, .unset, .unset, .unset, .unset] [] := fun m => by first | (simp [entryFrame, mkF, argsToLocals, Value.category]; done) | rfl
  refine Ctr.of (plainFor_of_name pn_7) ?_
  intro p e s m below meth c s₁ hx hZ hby hml hown0 hnm hret hlk X0 e0
  have hown : s.vm.findClass "com/example/traza/traza/PackedRows$Layout" = some m.cls := hown0
  have N0 := Fr.nil n0
  refine Go.st (fun t k => castTop (ef m) k) ?_
  refine Go.st (fun _ => XS.aloadN X0.here hx rfl (hb hby d7_0) rfl rfl) ?_
  obtain ⟨T1, X1, e1, st1⟩ := initO X0 hx hZ hown (ww hw 43 rfl) (ww hw 9 rfl) (ww hw 10 rfl) e0 (g := (mkF m 1 #[.val (.ref aL), .val (.ref aw), .val (.int (12 : Int32)), .unset, .unset, .unset, .unset, .unset, .unset] [(.ref aL)])) rfl (by rw [hml]; rfl) rfl (hb hby d7_1) (by decide) (W := 0) (by show 2 * 0 + _ ≤ _; exact Nat.le_of_eq rfl) (by decide)
  refine Go.st st1 ?_
  refine Go.st (fun _ => XS.lconst X1.here hx rfl (hb hby d7_4)) ?_
  show Go p e below _ (T1.setTop (mkF m 5 #[.val (.ref aL), .val (.ref aw), .val (.int (12 : Int32)), .unset, .unset, .unset, .unset, .unset, .unset] [(.long (0 : Int64))]))
  refine Go.st (fun _ => XS.lstoreN X1.here hx rfl (hb hby d7_5) rfl (l' := #[.val (.ref aL), .val (.ref aw), .val (.int (12 : Int32)), .val (.long (0 : Int64)), .second, .unset, .unset, .unset, .unset]) rfl) ?_
  refine Go.st (fun _ => XS.aloadN X1.here hx rfl (hb hby d7_6) rfl rfl) ?_
  refine Go.st (fun _ => XS.astore X1.here hx rfl (hb hby d7_7) rfl rfl (l' := #[.val (.ref aL), .val (.ref aw), .val (.int (12 : Int32)), .val (.long (0 : Int64)), .second, .val (.ref aw), .unset, .unset, .unset]) rfl) ?_
  refine Go.st (fun _ => XS.aload X1.here hx rfl (hb hby d7_9) rfl rfl) ?_
  show Go p e below _ (T1.setTop (mkF m 11 #[.val (.ref aL), .val (.ref aw), .val (.int (12 : Int32)), .val (.long (0 : Int64)), .second, .val (.ref aw), .unset, .unset, .unset] [(.ref aw)]))
  obtain ⟨cl2, Ar2, qk2, Sz2, Nn2, Ha2, Ga2⟩ := id vw
  refine Go.st (fun _ => X1.arraylength hx (by rw [e1]; exact Ar2.1) (State.isArrayOf_alike hZ.alike Ar2.2.1) (g := (mkF m 11 #[.val (.ref aL), .val (.ref aw), .val (.int (12 : Int32)), .val (.long (0 : Int64)), .second, .val (.ref aw), .unset, .unset, .unset] [(.ref aw)])) rfl rfl (hb hby d7_11) _) ?_
  rw [len_of Sz2 Nn2]
  show Go p e below _ (T1.setTop (mkF m 12 #[.val (.ref aL), .val (.ref aw), .val (.int (12 : Int32)), .val (.long (0 : Int64)), .second, .val (.ref aw), .unset, .unset, .unset] [(.int (3 : Int32))]))
  refine Go.st (fun _ => XS.istore X1.here hx rfl (hb hby d7_12) rfl (l' := #[.val (.ref aL), .val (.ref aw), .val (.int (12 : Int32)), .val (.long (0 : Int64)), .second, .val (.ref aw), .val (.int (3 : Int32)), .unset, .unset]) rfl) ?_
  refine Go.st (fun _ => XS.iconst X1.here hx rfl (hb hby d7_14)) ?_
  refine Go.st (fun _ => XS.istore X1.here hx rfl (hb hby d7_15) rfl (l' := #[.val (.ref aL), .val (.ref aw), .val (.int (12 : Int32)), .val (.long (0 : Int64)), .second, .val (.ref aw), .val (.int (3 : Int32)), .val (.int (0 : Int32)), .unset]) rfl) ?_
  refine Go.st (fun _ => XS.iload X1.here hx rfl (hb hby d7_17) rfl) ?_
  show Go p e below _ (T1.setTop (mkF m 19 #[.val (.ref aL), .val (.ref aw), .val (.int (12 : Int32)), .val (.long (0 : Int64)), .second, .val (.ref aw), .val (.int (3 : Int32)), .val (.int (0 : Int32)), .unset] [(.int (0 : Int32))]))
  refine Go.st (fun _ => XS.iload X1.here hx rfl (hb hby d7_19) rfl) ?_
  refine Go.st (fun _ => XS.icmpNo X1.here hx rfl (hb hby d7_21) rfl (tlt (by decide : (0 : Int32) < (3 : Int32))).2.1) ?_
  refine Go.st (fun _ => XS.aload X1.here hx rfl (hb hby d7_24) rfl rfl) ?_
  refine Go.st (fun _ => XS.iload X1.here hx rfl (hb hby d7_26) rfl) ?_
  show Go p e below _ (T1.setTop (mkF m 28 #[.val (.ref aL), .val (.ref aw), .val (.int (12 : Int32)), .val (.long (0 : Int64)), .second, .val (.ref aw), .val (.int (3 : Int32)), .val (.int (0 : Int32)), .unset] [(.int (0 : Int32)), (.ref aw)]))
  obtain ⟨cl3, Ar3, qk3, Sz3, Nn3, Ha3, Ga3⟩ := id vw
  have hin3 : ¬ ((0 : Int32) < 0 ∨ cl3.slots.size ≤ ((0 : Int32) : Int32).toNatClampNeg) := inb_of Sz3 ⟨by decide, by decide⟩
  refine Go.st (fun _ => X1.iaload hx (j := (0 : Int32)) (v := (.int w0)) (by rw [e1]; exact Ar3.1) (State.isArrayOf_alike hZ.alike Ar3.2.1) Ar3.2.2 hin3 (Has.at Ha3 hin3 rfl) (g := (mkF m 28 #[.val (.ref aL), .val (.ref aw), .val (.int (12 : Int32)), .val (.long (0 : Int64)), .second, .val (.ref aw), .val (.int (3 : Int32)), .val (.int (0 : Int32)), .unset] [(.int (0 : Int32)), (.ref aw)])) rfl rfl (hb hby d7_28) _) ?_
  refine Go.st (fun _ => XS.istore X1.here hx rfl (hb hby d7_29) rfl (l' := #[.val (.ref aL), .val (.ref aw), .val (.int (12 : Int32)), .val (.long (0 : Int64)), .second, .val (.ref aw), .val (.int (3 : Int32)), .val (.int (0 : Int32)), .val (.int w0)]) rfl) ?_
  refine Go.st (fun _ => XS.lloadN X1.here hx rfl (hb hby d7_31) rfl) ?_
  refine Go.st (fun _ => XS.iload X1.here hx rfl (hb hby d7_32) rfl) ?_
  show Go p e below _ (T1.setTop (mkF m 34 #[.val (.ref aL), .val (.ref aw), .val (.int (12 : Int32)), .val (.long (0 : Int64)), .second, .val (.ref aw), .val (.int (3 : Int32)), .val (.int (0 : Int32)), .val (.int w0)] [(.int w0), (.long (0 : Int64))]))
  refine Go.st (fun _ => XS.i2l X1.here hx rfl (hb hby d7_34) rfl) ?_
  refine Go.st (fun _ => XS.ladd X1.here hx rfl (hb hby d7_35) rfl) ?_
  refine Go.st (fun _ => XS.lstoreN X1.here hx rfl (hb hby d7_36) rfl (l' := #[.val (.ref aL), .val (.ref aw), .val (.int (12 : Int32)), .val (.long ((0 : Int64) + (w0.toInt64))), .second, .val (.ref aw), .val (.int (3 : Int32)), .val (.int (0 : Int32)), .val (.int w0)]) rfl) ?_
  refine Go.st (fun _ => XS.iinc X1.here hx rfl (hb hby d7_37) rfl (l' := #[.val (.ref aL), .val (.ref aw), .val (.int (12 : Int32)), .val (.long ((0 : Int64) + (w0.toInt64))), .second, .val (.ref aw), .val (.int (3 : Int32)), .val (.int (1 : Int32)), .val (.int w0)]) rfl) ?_
  show Go p e below _ (T1.setTop (mkF m 40 #[.val (.ref aL), .val (.ref aw), .val (.int (12 : Int32)), .val (.long ((0 : Int64) + (w0.toInt64))), .second, .val (.ref aw), .val (.int (3 : Int32)), .val (.int (1 : Int32)), .val (.int w0)] []))
  refine Go.st (fun _ => XS.goto X1.here hx rfl (pc0 := 40) (pc' := 17) rfl (hb hby d7_40) (by decide) (by decide)) ?_
  refine Go.st (fun _ => XS.iload X1.here hx rfl (hb hby d7_17) rfl) ?_
  refine Go.st (fun _ => XS.iload X1.here hx rfl (hb hby d7_19) rfl) ?_
  refine Go.st (fun _ => XS.icmpNo X1.here hx rfl (hb hby d7_21) rfl (tlt (by decide : (1 : Int32) < (3 : Int32))).2.1) ?_
  show Go p e below _ (T1.setTop (mkF m 24 #[.val (.ref aL), .val (.ref aw), .val (.int (12 : Int32)), .val (.long ((0 : Int64) + (w0.toInt64))), .second, .val (.ref aw), .val (.int (3 : Int32)), .val (.int (1 : Int32)), .val (.int w0)] []))
  refine Go.st (fun _ => XS.aload X1.here hx rfl (hb hby d7_24) rfl rfl) ?_
  refine Go.st (fun _ => XS.iload X1.here hx rfl (hb hby d7_26) rfl) ?_
  obtain ⟨cl4, Ar4, qk4, Sz4, Nn4, Ha4, Ga4⟩ := id vw
  have hin4 : ¬ ((1 : Int32) < 0 ∨ cl4.slots.size ≤ ((1 : Int32) : Int32).toNatClampNeg) := inb_of Sz4 ⟨by decide, by decide⟩
  refine Go.st (fun _ => X1.iaload hx (j := (1 : Int32)) (v := (.int w1)) (by rw [e1]; exact Ar4.1) (State.isArrayOf_alike hZ.alike Ar4.2.1) Ar4.2.2 hin4 (Has.at Ha4 hin4 rfl) (g := (mkF m 28 #[.val (.ref aL), .val (.ref aw), .val (.int (12 : Int32)), .val (.long ((0 : Int64) + (w0.toInt64))), .second, .val (.ref aw), .val (.int (3 : Int32)), .val (.int (1 : Int32)), .val (.int w0)] [(.int (1 : Int32)), (.ref aw)])) rfl rfl (hb hby d7_28) _) ?_
  refine Go.st (fun _ => XS.istore X1.here hx rfl (hb hby d7_29) rfl (l' := #[.val (.ref aL), .val (.ref aw), .val (.int (12 : Int32)), .val (.long ((0 : Int64) + (w0.toInt64))), .second, .val (.ref aw), .val (.int (3 : Int32)), .val (.int (1 : Int32)), .val (.int w1)]) rfl) ?_
  show Go p e below _ (T1.setTop (mkF m 31 #[.val (.ref aL), .val (.ref aw), .val (.int (12 : Int32)), .val (.long ((0 : Int64) + (w0.toInt64))), .second, .val (.ref aw), .val (.int (3 : Int32)), .val (.int (1 : Int32)), .val (.int w1)] []))
  refine Go.st (fun _ => XS.lloadN X1.here hx rfl (hb hby d7_31) rfl) ?_
  refine Go.st (fun _ => XS.iload X1.here hx rfl (hb hby d7_32) rfl) ?_
  refine Go.st (fun _ => XS.i2l X1.here hx rfl (hb hby d7_34) rfl) ?_
  refine Go.st (fun _ => XS.ladd X1.here hx rfl (hb hby d7_35) rfl) ?_
  show Go p e below _ (T1.setTop (mkF m 36 #[.val (.ref aL), .val (.ref aw), .val (.int (12 : Int32)), .val (.long ((0 : Int64) + (w0.toInt64))), .second, .val (.ref aw), .val (.int (3 : Int32)), .val (.int (1 : Int32)), .val (.int w1)] [(.long (((0 : Int64) + (w0.toInt64)) + (w1.toInt64)))]))
  refine Go.st (fun _ => XS.lstoreN X1.here hx rfl (hb hby d7_36) rfl (l' := #[.val (.ref aL), .val (.ref aw), .val (.int (12 : Int32)), .val (.long (((0 : Int64) + (w0.toInt64)) + (w1.toInt64))), .second, .val (.ref aw), .val (.int (3 : Int32)), .val (.int (1 : Int32)), .val (.int w1)]) rfl) ?_
  refine Go.st (fun _ => XS.iinc X1.here hx rfl (hb hby d7_37) rfl (l' := #[.val (.ref aL), .val (.ref aw), .val (.int (12 : Int32)), .val (.long (((0 : Int64) + (w0.toInt64)) + (w1.toInt64))), .second, .val (.ref aw), .val (.int (3 : Int32)), .val (.int (2 : Int32)), .val (.int w1)]) rfl) ?_
  refine Go.st (fun _ => XS.goto X1.here hx rfl (pc0 := 40) (pc' := 17) rfl (hb hby d7_40) (by decide) (by decide)) ?_
  refine Go.st (fun _ => XS.iload X1.here hx rfl (hb hby d7_17) rfl) ?_
  show Go p e below _ (T1.setTop (mkF m 19 #[.val (.ref aL), .val (.ref aw), .val (.int (12 : Int32)), .val (.long (((0 : Int64) + (w0.toInt64)) + (w1.toInt64))), .second, .val (.ref aw), .val (.int (3 : Int32)), .val (.int (2 : Int32)), .val (.int w1)] [(.int (2 : Int32))]))
  refine Go.st (fun _ => XS.iload X1.here hx rfl (hb hby d7_19) rfl) ?_
  refine Go.st (fun _ => XS.icmpNo X1.here hx rfl (hb hby d7_21) rfl (tlt (by decide : (2 : Int32) < (3 : Int32))).2.1) ?_
  refine Go.st (fun _ => XS.aload X1.here hx rfl (hb hby d7_24) rfl rfl) ?_
  refine Go.st (fun _ => XS.iload X1.here hx rfl (hb hby d7_26) rfl) ?_
  show Go p e below _ (T1.setTop (mkF m 28 #[.val (.ref aL), .val (.ref aw), .val (.int (12 : Int32)), .val (.long (((0 : Int64) + (w0.toInt64)) + (w1.toInt64))), .second, .val (.ref aw), .val (.int (3 : Int32)), .val (.int (2 : Int32)), .val (.int w1)] [(.int (2 : Int32)), (.ref aw)]))
  obtain ⟨cl5, Ar5, qk5, Sz5, Nn5, Ha5, Ga5⟩ := id vw
  have hin5 : ¬ ((2 : Int32) < 0 ∨ cl5.slots.size ≤ ((2 : Int32) : Int32).toNatClampNeg) := inb_of Sz5 ⟨by decide, by decide⟩
  refine Go.st (fun _ => X1.iaload hx (j := (2 : Int32)) (v := (.int w2)) (by rw [e1]; exact Ar5.1) (State.isArrayOf_alike hZ.alike Ar5.2.1) Ar5.2.2 hin5 (Has.at Ha5 hin5 rfl) (g := (mkF m 28 #[.val (.ref aL), .val (.ref aw), .val (.int (12 : Int32)), .val (.long (((0 : Int64) + (w0.toInt64)) + (w1.toInt64))), .second, .val (.ref aw), .val (.int (3 : Int32)), .val (.int (2 : Int32)), .val (.int w1)] [(.int (2 : Int32)), (.ref aw)])) rfl rfl (hb hby d7_28) _) ?_
  refine Go.st (fun _ => XS.istore X1.here hx rfl (hb hby d7_29) rfl (l' := #[.val (.ref aL), .val (.ref aw), .val (.int (12 : Int32)), .val (.long (((0 : Int64) + (w0.toInt64)) + (w1.toInt64))), .second, .val (.ref aw), .val (.int (3 : Int32)), .val (.int (2 : Int32)), .val (.int w2)]) rfl) ?_
  refine Go.st (fun _ => XS.lloadN X1.here hx rfl (hb hby d7_31) rfl) ?_
  refine Go.st (fun _ => XS.iload X1.here hx rfl (hb hby d7_32) rfl) ?_
  show Go p e below _ (T1.setTop (mkF m 34 #[.val (.ref aL), .val (.ref aw), .val (.int (12 : Int32)), .val (.long (((0 : Int64) + (w0.toInt64)) + (w1.toInt64))), .second, .val (.ref aw), .val (.int (3 : Int32)), .val (.int (2 : Int32)), .val (.int w2)] [(.int w2), (.long (((0 : Int64) + (w0.toInt64)) + (w1.toInt64)))]))
  refine Go.st (fun _ => XS.i2l X1.here hx rfl (hb hby d7_34) rfl) ?_
  refine Go.st (fun _ => XS.ladd X1.here hx rfl (hb hby d7_35) rfl) ?_
  refine Go.st (fun _ => XS.lstoreN X1.here hx rfl (hb hby d7_36) rfl (l' := #[.val (.ref aL), .val (.ref aw), .val (.int (12 : Int32)), .val (.long ((((0 : Int64) + (w0.toInt64)) + (w1.toInt64)) + (w2.toInt64))), .second, .val (.ref aw), .val (.int (3 : Int32)), .val (.int (2 : Int32)), .val (.int w2)]) rfl) ?_
  refine Go.st (fun _ => XS.iinc X1.here hx rfl (hb hby d7_37) rfl (l' := #[.val (.ref aL), .val (.ref aw), .val (.int (12 : Int32)), .val (.long ((((0 : Int64) + (w0.toInt64)) + (w1.toInt64)) + (w2.toInt64))), .second, .val (.ref aw), .val (.int (3 : Int32)), .val (.int (3 : Int32)), .val (.int w2)]) rfl) ?_
  show Go p e below _ (T1.setTop (mkF m 40 #[.val (.ref aL), .val (.ref aw), .val (.int (12 : Int32)), .val (.long ((((0 : Int64) + (w0.toInt64)) + (w1.toInt64)) + (w2.toInt64))), .second, .val (.ref aw), .val (.int (3 : Int32)), .val (.int (3 : Int32)), .val (.int w2)] []))
  refine Go.st (fun _ => XS.goto X1.here hx rfl (pc0 := 40) (pc' := 17) rfl (hb hby d7_40) (by decide) (by decide)) ?_
  refine Go.st (fun _ => XS.iload X1.here hx rfl (hb hby d7_17) rfl) ?_
  refine Go.st (fun _ => XS.iload X1.here hx rfl (hb hby d7_19) rfl) ?_
  refine Go.st (fun _ => XS.icmpYes X1.here hx rfl (pc0 := 21) (pc' := 43) rfl (hb hby d7_21) rfl (flt (by decide : ¬ ((3 : Int32) < (3 : Int32)))).2.1 (by decide) (by decide)) ?_
  show Go p e below _ (T1.setTop (mkF m 43 #[.val (.ref aL), .val (.ref aw), .val (.int (12 : Int32)), .val (.long ((((0 : Int64) + (w0.toInt64)) + (w1.toInt64)) + (w2.toInt64))), .second, .val (.ref aw), .val (.int (3 : Int32)), .val (.int (3 : Int32)), .val (.int w2)] []))
  obtain ⟨qs, eqs⟩ : ∃ z, z = ((((0 : Int64) + (w0.toInt64)) + (w1.toInt64)) + (w2.toInt64)) := ⟨_, rfl⟩
  rw [← eqs]
  obtain ⟨rb, erb⟩ : ∃ z, z = qs.toInt32 := ⟨_, rfl⟩
  obtain ⟨hlt, hWD⟩ := wid_of hw0 hw1 hw2 hb0 hb1 hb2 eqs erb
  show Go p e below _ (T1.setTop (mkF m 43 #[.val (.ref aL), .val (.ref aw), .val (.int (12 : Int32)), .val (.long qs), .second, .val (.ref aw), .val (.int (3 : Int32)), .val (.int (3 : Int32)), .val (.int w2)] []))
  refine Go.st (fun _ => XS.lloadN X1.here hx rfl (hb hby d7_43) rfl) ?_
  refine Go.st (fun _ => X1.ldc2Long hx hown (mvT hZ (ww hw 44 rfl)) (g := (mkF m 44 #[.val (.ref aL), .val (.ref aw), .val (.int (12 : Int32)), .val (.long qs), .second, .val (.ref aw), .val (.int (3 : Int32)), .val (.int (3 : Int32)), .val (.int w2)] [(.long qs)])) rfl (hb hby d7_44) _) ?_
  refine Go.st (fun _ => XS.lcmp X1.here hx rfl (hb hby d7_47) rfl) ?_
  refine Go.st (fun _ => XS.ifYes X1.here hx rfl (pc0 := 48) (pc' := 65) rfl (hb hby d7_48) rfl ((if0 _ _).trans (flt (fun q => hlt ((lw_gt _ _).mp q))).2.2.2) (by decide) (by decide)) ?_
  show Go p e below _ (T1.setTop (mkF m 65 #[.val (.ref aL), .val (.ref aw), .val (.int (12 : Int32)), .val (.long qs), .second, .val (.ref aw), .val (.int (3 : Int32)), .val (.int (3 : Int32)), .val (.int w2)] []))
  refine Go.st (fun _ => XS.aloadN X1.here hx rfl (hb hby d7_65) rfl rfl) ?_
  refine Go.st (fun _ => XS.aloadN X1.here hx rfl (hb hby d7_66) rfl rfl) ?_
  obtain ⟨T6, h6, X6, e6, W6, st6⟩ := putF X1 hx hZ hown (host := "") (Or.inl (ww hw 45 rfl)) Via.refl e1 FL0 A1 (Or.inr ⟨(ww hw 46 rfl), rfl, hnm⟩) (ww hw 38 rfl) (ty := (.array .int)) (by decide) rfl rfl (g := (mkF m 67 #[.val (.ref aL), .val (.ref aw), .val (.int (12 : Int32)), .val (.long qs), .second, .val (.ref aw), .val (.int (3 : Int32)), .val (.int (3 : Int32)), .val (.int w2)] [(.ref aw), (.ref aL)])) rfl rfl (hb hby d7_67)
  refine Go.st st6 ?_
  have O7 := O0.wr W6 g1
  have E_8 := A1.wr W6
  have F9 := FL1.other W6 (Or.inr (slot_ne (Or.inr (ww hw 48 rfl)) (Or.inr (ww hw 46 rfl)) (by decide) (t := .int) (t' := (.array .int)) (by decide) (by decide)))
  have F10 := FL2.other W6 (Or.inr (slot_ne (Or.inr (ww hw 54 rfl)) (Or.inr (ww hw 46 rfl)) (by decide) (t := .int) (t' := (.array .int)) (by decide) (by decide)))
  have F11 := FL3.other W6 (Or.inr (slot_ne (Or.inr (ww hw 56 rfl)) (Or.inr (ww hw 46 rfl)) (by decide) (t := .int) (t' := (.array .int)) (by decide) (by decide)))
  have V_12 := vw.other W6 (Ne.symm (Exa.neArv A1 vw (ww hw 38 rfl)))
  have K13 := (Keep.refl h0 [aL]).wr W6 (Or.inl (List.mem_of_getElem? (i := 0) rfl))
  have F14 : Fld Z h6 aL "com/example/traza/traza/PackedRows$Layout" "widths" "[I" (.ref aw) := FL0.same W6
  have N6 := Fr.snoc X6 N0 g1
  refine Go.st (fun _ => XS.aloadN X6.here hx rfl (hb hby d7_70) rfl rfl) ?_
  show Go p e below _ (T6.setTop (mkF m 71 #[.val (.ref aL), .val (.ref aw), .val (.int (12 : Int32)), .val (.long qs), .second, .val (.ref aw), .val (.int (3 : Int32)), .val (.int (3 : Int32)), .val (.int w2)] [(.ref aL)]))
  refine Go.st (fun _ => XS.lloadN X6.here hx rfl (hb hby d7_71) rfl) ?_
  refine Go.st (fun _ => XS.l2i X6.here hx rfl (hb hby d7_72) rfl) ?_
  show Go p e below _ (T6.setTop (mkF m 73 #[.val (.ref aL), .val (.ref aw), .val (.int (12 : Int32)), .val (.long qs), .second, .val (.ref aw), .val (.int (3 : Int32)), .val (.int (3 : Int32)), .val (.int w2)] [(.int (qs.toInt32)), (.ref aL)]))
  rw [← erb]
  show Go p e below _ (T6.setTop (mkF m 73 #[.val (.ref aL), .val (.ref aw), .val (.int (12 : Int32)), .val (.long qs), .second, .val (.ref aw), .val (.int (3 : Int32)), .val (.int (3 : Int32)), .val (.int w2)] [(.int rb), (.ref aL)]))
  obtain ⟨T15, h15, X15, e15, W15, st15⟩ := putF X6 hx hZ hown (host := "") (Or.inl (ww hw 47 rfl)) Via.refl e6 F9 E_8 (Or.inr ⟨(ww hw 48 rfl), rfl, hnm⟩) (ww hw 38 rfl) (ty := .int) (by decide) rfl rfl (g := (mkF m 73 #[.val (.ref aL), .val (.ref aw), .val (.int (12 : Int32)), .val (.long qs), .second, .val (.ref aw), .val (.int (3 : Int32)), .val (.int (3 : Int32)), .val (.int w2)] [(.int rb), (.ref aL)])) rfl rfl (hb hby d7_73)
  refine Go.st st15 ?_
  have O16 := O7.wr W15 g1
  have E_17 := E_8.wr W15
  have F18 := F10.other W15 (Or.inr (slot_ne (Or.inr (ww hw 54 rfl)) (Or.inr (ww hw 48 rfl)) (by decide) (t := .int) (t' := .int) (by decide) (by decide)))
  have F19 := F11.other W15 (Or.inr (slot_ne (Or.inr (ww hw 56 rfl)) (Or.inr (ww hw 48 rfl)) (by decide) (t := .int) (t' := .int) (by decide) (by decide)))
  have V_20 := V_12.other W15 (Ne.symm (Exa.neArv E_8 V_12 (ww hw 38 rfl)))
  have K21 := K13.wr W15 (Or.inl (List.mem_of_getElem? (i := 0) rfl))
  have F22 := F14.other W15 (Or.inr (slot_ne (Or.inr (ww hw 46 rfl)) (Or.inr (ww hw 48 rfl)) (by decide) (t := (.array .int)) (t' := .int) (by decide) (by decide)))
  have F23 : Fld Z h15 aL "com/example/traza/traza/PackedRows$Layout" "rowBits" "I" (.int rb) := F9.same W15
  have N15 := Fr.snoc X15 N6 g1
  refine Go.st (fun _ => XS.aloadN X15.here hx rfl (hb hby d7_76) rfl rfl) ?_
  refine Go.st (fun _ => XS.aloadN X15.here hx rfl (hb hby d7_77) rfl rfl) ?_
  obtain ⟨T24, X24, e24, st24⟩ := getF X15 hx hZ hown (host := "") (Or.inl (ww hw 47 rfl)) Via.refl e15 F23 (g := (mkF m 78 #[.val (.ref aL), .val (.ref aw), .val (.int (12 : Int32)), .val (.long qs), .second, .val (.ref aw), .val (.int (3 : Int32)), .val (.int (3 : Int32)), .val (.int w2)] [(.ref aL), (.ref aL)])) rfl rfl (hb hby d7_78)
  refine Go.st st24 ?_
  show Go p e below _ (T24.setTop (mkF m 81 #[.val (.ref aL), .val (.ref aw), .val (.int (12 : Int32)), .val (.long qs), .second, .val (.ref aw), .val (.int (3 : Int32)), .val (.int (3 : Int32)), .val (.int w2)] [(.int rb), (.ref aL)]))
  refine Go.st (fun _ => XS.i2l X24.here hx rfl (hb hby d7_81) rfl) ?_
  refine goCallS X24 hx hZ (y := (⟨"com/example/traza/traza/PackedRows$Layout", "wordsFor", "(J)I"⟩ : MethodName)) hown (ww hw 49 rfl) (ww hw 50 rfl) (ww hw 39 rfl) (ww hw 51 rfl) (by decide) (argsL := [(.long (rb.toInt64))]) (rest := [(.ref aL)]) e24 (rm_wf l Z a0 hw [] (rb.toInt64) h15 n0 O16) 1 (by decide) (by decide) (by decide) (by decide) (mkF m 82 #[.val (.ref aL), .val (.ref aw), .val (.int (12 : Int32)), .val (.long qs), .second, .val (.ref aw), .val (.int (3 : Int32)), .val (.int (3 : Int32)), .val (.int w2)] [(.long (rb.toInt64)), (.ref aL)]) rfl (by rw [hml]; rfl) (lenOf pd_1 rfl) rfl (hb hby d7_82) (Nat.le_of_eq rfl) ?_
  intro v25 T25 L25 X25 hQ25
  obtain ⟨rfl, M25, e25⟩ := hQ25
  have N25 := Fr.app N15 M25
  show Go p e below _ (T25.setTop (mkF m 85 #[.val (.ref aL), .val (.ref aw), .val (.int (12 : Int32)), .val (.long qs), .second, .val (.ref aw), .val (.int (3 : Int32)), .val (.int (3 : Int32)), .val (.int w2)] [(.int (own_wf (rb.toInt64))), (.ref aL)]))
  obtain ⟨T26, h26, X26, e26, W26, st26⟩ := putF X25 hx hZ hown (host := "") (Or.inl (ww hw 53 rfl)) Via.refl e25 F18 E_17 (Or.inr ⟨(ww hw 54 rfl), rfl, hnm⟩) (ww hw 38 rfl) (ty := .int) (by decide) rfl rfl (g := (mkF m 85 #[.val (.ref aL), .val (.ref aw), .val (.int (12 : Int32)), .val (.long qs), .second, .val (.ref aw), .val (.int (3 : Int32)), .val (.int (3 : Int32)), .val (.int w2)] [(.int (own_wf (rb.toInt64))), (.ref aL)])) rfl rfl (hb hby d7_85)
  refine Go.st st26 ?_
  have O27 := O16.wr W26 g1
  have E_28 := E_17.wr W26
  have F29 := F19.other W26 (Or.inr (slot_ne (Or.inr (ww hw 56 rfl)) (Or.inr (ww hw 54 rfl)) (by decide) (t := .int) (t' := .int) (by decide) (by decide)))
  have V_30 := V_20.other W26 (Ne.symm (Exa.neArv E_17 V_20 (ww hw 38 rfl)))
  have K31 := K21.wr W26 (Or.inl (List.mem_of_getElem? (i := 0) rfl))
  have F32 := F22.other W26 (Or.inr (slot_ne (Or.inr (ww hw 46 rfl)) (Or.inr (ww hw 54 rfl)) (by decide) (t := (.array .int)) (t' := .int) (by decide) (by decide)))
  have F33 := F23.other W26 (Or.inr (slot_ne (Or.inr (ww hw 48 rfl)) (Or.inr (ww hw 54 rfl)) (by decide) (t := .int) (t' := .int) (by decide) (by decide)))
  have F34 : Fld Z h26 aL "com/example/traza/traza/PackedRows$Layout" "words" "I" (.int (own_wf (rb.toInt64))) := F18.same W26
  have N26 := Fr.snoc X26 N25 g1
  refine Go.st (fun _ => XS.aloadN X26.here hx rfl (hb hby d7_88) rfl rfl) ?_
  refine Go.st (fun _ => XS.aloadN X26.here hx rfl (hb hby d7_89) rfl rfl) ?_
  obtain ⟨T35, X35, e35, st35⟩ := getF X26 hx hZ hown (host := "") (Or.inl (ww hw 47 rfl)) Via.refl e26 F33 (g := (mkF m 90 #[.val (.ref aL), .val (.ref aw), .val (.int (12 : Int32)), .val (.long qs), .second, .val (.ref aw), .val (.int (3 : Int32)), .val (.int (3 : Int32)), .val (.int w2)] [(.ref aL), (.ref aL)])) rfl rfl (hb hby d7_90)
  refine Go.st st35 ?_
  show Go p e below _ (T35.setTop (mkF m 93 #[.val (.ref aL), .val (.ref aw), .val (.int (12 : Int32)), .val (.long qs), .second, .val (.ref aw), .val (.int (3 : Int32)), .val (.int (3 : Int32)), .val (.int w2)] [(.int rb), (.ref aL)]))
  refine Go.st (fun _ => XS.i2l X35.here hx rfl (hb hby d7_93) rfl) ?_
  refine Go.st (fun _ => XS.iloadN X35.here hx rfl (hb hby d7_94) rfl) ?_
  refine Go.st (fun _ => XS.lshl X35.here hx rfl (hb hby d7_95) rfl) ?_
  refine goCallS X35 hx hZ (y := (⟨"com/example/traza/traza/PackedRows$Layout", "wordsFor", "(J)I"⟩ : MethodName)) hown (ww hw 49 rfl) (ww hw 50 rfl) (ww hw 39 rfl) (ww hw 51 rfl) (by decide) (argsL := [(.long ((rb.toInt64) <<< ((12 : Int32) &&& 0x3f).toInt64))]) (rest := [(.ref aL)]) e35 (rm_wf l Z a0 hw [] ((rb.toInt64) <<< ((12 : Int32) &&& 0x3f).toInt64) h26 n0 O27) 1 (by decide) (by decide) (by decide) (by decide) (mkF m 96 #[.val (.ref aL), .val (.ref aw), .val (.int (12 : Int32)), .val (.long qs), .second, .val (.ref aw), .val (.int (3 : Int32)), .val (.int (3 : Int32)), .val (.int w2)] [(.long ((rb.toInt64) <<< ((12 : Int32) &&& 0x3f).toInt64)), (.ref aL)]) rfl (by rw [hml]; rfl) (lenOf pd_1 rfl) rfl (hb hby d7_96) (Nat.le_of_eq rfl) ?_
  intro v36 T36 L36 X36 hQ36
  obtain ⟨rfl, M36, e36⟩ := hQ36
  have N36 := Fr.app N26 M36
  show Go p e below _ (T36.setTop (mkF m 99 #[.val (.ref aL), .val (.ref aw), .val (.int (12 : Int32)), .val (.long qs), .second, .val (.ref aw), .val (.int (3 : Int32)), .val (.int (3 : Int32)), .val (.int w2)] [(.int (own_wf ((rb.toInt64) <<< ((12 : Int32) &&& 0x3f).toInt64))), (.ref aL)]))
  obtain ⟨T37, h37, X37, e37, W37, st37⟩ := putF X36 hx hZ hown (host := "") (Or.inl (ww hw 55 rfl)) Via.refl e36 F29 E_28 (Or.inr ⟨(ww hw 56 rfl), rfl, hnm⟩) (ww hw 38 rfl) (ty := .int) (by decide) rfl rfl (g := (mkF m 99 #[.val (.ref aL), .val (.ref aw), .val (.int (12 : Int32)), .val (.long qs), .second, .val (.ref aw), .val (.int (3 : Int32)), .val (.int (3 : Int32)), .val (.int w2)] [(.int (own_wf ((rb.toInt64) <<< ((12 : Int32) &&& 0x3f).toInt64))), (.ref aL)])) rfl rfl (hb hby d7_99)
  refine Go.st st37 ?_
  have O38 := O27.wr W37 g1
  have E_39 := E_28.wr W37
  have V_40 := V_30.other W37 (Ne.symm (Exa.neArv E_28 V_30 (ww hw 38 rfl)))
  have K41 := K31.wr W37 (Or.inl (List.mem_of_getElem? (i := 0) rfl))
  have F42 := F32.other W37 (Or.inr (slot_ne (Or.inr (ww hw 46 rfl)) (Or.inr (ww hw 56 rfl)) (by decide) (t := (.array .int)) (t' := .int) (by decide) (by decide)))
  have F43 := F33.other W37 (Or.inr (slot_ne (Or.inr (ww hw 48 rfl)) (Or.inr (ww hw 56 rfl)) (by decide) (t := .int) (t' := .int) (by decide) (by decide)))
  have F44 := F34.other W37 (Or.inr (slot_ne (Or.inr (ww hw 54 rfl)) (Or.inr (ww hw 56 rfl)) (by decide) (t := .int) (t' := .int) (by decide) (by decide)))
  have F45 : Fld Z h37 aL "com/example/traza/traza/PackedRows$Layout" "chunkWords" "I" (.int (own_wf ((rb.toInt64) <<< ((12 : Int32) &&& 0x3f).toInt64))) := F29.same W37
  have N37 := Fr.snoc X37 N36 g1
  show Go p e below _ (T37.setTop (mkF m 102 #[.val (.ref aL), .val (.ref aw), .val (.int (12 : Int32)), .val (.long qs), .second, .val (.ref aw), .val (.int (3 : Int32)), .val (.int (3 : Int32)), .val (.int w2)] []))
  exact goRetV X37 hx hlk hret e37 (hb hby d7_102) (by decide) (by decide) ⟨rfl, N37, K41, _, _, _, hWD, F42, F43, F44, F45⟩
theorem d10_0 : decode prog_28_method_3_code 0 = .ok (.lconst 0, 1) := by decide +kernel
theorem d10_1 : decode prog_28_method_3_code 1 = .ok (.lstore_n 3, 1) := by decide +kernel
theorem d10_2 : decode prog_28_method_3_code 2 = .ok (.iconst 0, 1) := by decide +kernel
theorem d10_3 : decode prog_28_method_3_code 3 = .ok (.istore 5, 2) := by decide +kernel
theorem d10_5 : decode prog_28_method_3_code 5 = .ok (.iconst 0, 1) := by decide +kernel
theorem d10_6 : decode prog_28_method_3_code 6 = .ok (.istore 6, 2) := by decide +kernel
theorem d10_8 : decode prog_28_method_3_code 8 = .ok (.iconst 0, 1) := by decide +kernel
theorem d10_9 : decode prog_28_method_3_code 9 = .ok (.istore 7, 2) := by decide +kernel
theorem d10_11 : decode prog_28_method_3_code 11 = .ok (.iload 7, 2) := by decide +kernel
theorem d10_13 : decode prog_28_method_3_code 13 = .ok (.aload_n 0, 1) := by decide +kernel
theorem d10_14 : decode prog_28_method_3_code 14 = .ok (.getfield 20, 3) := by decide +kernel
theorem d10_17 : decode prog_28_method_3_code 17 = .ok (.arraylength, 1) := by decide +kernel
theorem d10_18 : decode prog_28_method_3_code 18 = .ok (.if_icmp .ge 79, 3) := by decide +kernel
theorem d10_21 : decode prog_28_method_3_code 21 = .ok (.aload_n 0, 1) := by decide +kernel
theorem d10_22 : decode prog_28_method_3_code 22 = .ok (.getfield 20, 3) := by decide +kernel
theorem d10_25 : decode prog_28_method_3_code 25 = .ok (.iload 7, 2) := by decide +kernel
theorem d10_27 : decode prog_28_method_3_code 27 = .ok (.iaload, 1) := by decide +kernel
theorem d10_28 : decode prog_28_method_3_code 28 = .ok (.istore 8, 2) := by decide +kernel
theorem d10_30 : decode prog_28_method_3_code 30 = .ok (.aload_n 1, 1) := by decide +kernel
theorem d10_31 : decode prog_28_method_3_code 31 = .ok (.iload 7, 2) := by decide +kernel
theorem d10_33 : decode prog_28_method_3_code 33 = .ok (.iaload, 1) := by decide +kernel
theorem d10_34 : decode prog_28_method_3_code 34 = .ok (.i2l, 1) := by decide +kernel
theorem d10_35 : decode prog_28_method_3_code 35 = .ok (.lstore 9, 2) := by decide +kernel
theorem d10_37 : decode prog_28_method_3_code 37 = .ok (.lload 9, 2) := by decide +kernel
theorem d10_39 : decode prog_28_method_3_code 39 = .ok (.iload 8, 2) := by decide +kernel
theorem d10_41 : decode prog_28_method_3_code 41 = .ok (.lushr, 1) := by decide +kernel
theorem d10_42 : decode prog_28_method_3_code 42 = .ok (.lconst 0, 1) := by decide +kernel
theorem d10_43 : decode prog_28_method_3_code 43 = .ok (.lcmp, 1) := by decide +kernel
theorem d10_44 : decode prog_28_method_3_code 44 = .ok (.ifCond .eq 5, 3) := by decide +kernel
theorem d10_47 : decode prog_28_method_3_code 47 = .ok (.iconst 0, 1) := by decide +kernel
theorem d10_48 : decode prog_28_method_3_code 48 = .ok (.ireturn, 1) := by decide +kernel
theorem d10_49 : decode prog_28_method_3_code 49 = .ok (.lload_n 3, 1) := by decide +kernel
theorem d10_50 : decode prog_28_method_3_code 50 = .ok (.lload 9, 2) := by decide +kernel
theorem d10_52 : decode prog_28_method_3_code 52 = .ok (.iload 5, 2) := by decide +kernel
theorem d10_54 : decode prog_28_method_3_code 54 = .ok (.lshl, 1) := by decide +kernel
theorem d10_55 : decode prog_28_method_3_code 55 = .ok (.lor, 1) := by decide +kernel
theorem d10_56 : decode prog_28_method_3_code 56 = .ok (.lstore_n 3, 1) := by decide +kernel
theorem d10_57 : decode prog_28_method_3_code 57 = .ok (.iload 5, 2) := by decide +kernel
theorem d10_59 : decode prog_28_method_3_code 59 = .ok (.iload 8, 2) := by decide +kernel
theorem d10_61 : decode prog_28_method_3_code 61 = .ok (.iadd, 1) := by decide +kernel
theorem d10_62 : decode prog_28_method_3_code 62 = .ok (.istore 5, 2) := by decide +kernel
theorem d10_64 : decode prog_28_method_3_code 64 = .ok (.iload 5, 2) := by decide +kernel
theorem d10_66 : decode prog_28_method_3_code 66 = .ok (.bipush 64, 2) := by decide +kernel
theorem d10_68 : decode prog_28_method_3_code 68 = .ok (.if_icmp .lt 23, 3) := by decide +kernel
theorem d10_71 : decode prog_28_method_3_code 71 = .ok (.aload_n 2, 1) := by decide +kernel
theorem d10_72 : decode prog_28_method_3_code 72 = .ok (.iload 6, 2) := by decide +kernel
theorem d10_74 : decode prog_28_method_3_code 74 = .ok (.iinc 6 1, 3) := by decide +kernel
theorem d10_77 : decode prog_28_method_3_code 77 = .ok (.lload_n 3, 1) := by decide +kernel
theorem d10_78 : decode prog_28_method_3_code 78 = .ok (.lastore, 1) := by decide +kernel
theorem d10_79 : decode prog_28_method_3_code 79 = .ok (.iinc 5 (-64), 3) := by decide +kernel
theorem d10_82 : decode prog_28_method_3_code 82 = .ok (.lload 9, 2) := by decide +kernel
theorem d10_84 : decode prog_28_method_3_code 84 = .ok (.iload 8, 2) := by decide +kernel
theorem d10_86 : decode prog_28_method_3_code 86 = .ok (.iload 5, 2) := by decide +kernel
theorem d10_88 : decode prog_28_method_3_code 88 = .ok (.isub, 1) := by decide +kernel
theorem d10_89 : decode prog_28_method_3_code 89 = .ok (.lushr, 1) := by decide +kernel
theorem d10_90 : decode prog_28_method_3_code 90 = .ok (.lstore_n 3, 1) := by decide +kernel
theorem d10_91 : decode prog_28_method_3_code 91 = .ok (.iinc 7 1, 3) := by decide +kernel
theorem d10_94 : decode prog_28_method_3_code 94 = .ok (.goto (-83), 3) := by decide +kernel
theorem d10_97 : decode prog_28_method_3_code 97 = .ok (.iload 5, 2) := by decide +kernel
theorem d10_99 : decode prog_28_method_3_code 99 = .ok (.ifCond .le 8, 3) := by decide +kernel
theorem d10_102 : decode prog_28_method_3_code 102 = .ok (.aload_n 2, 1) := by decide +kernel
theorem d10_103 : decode prog_28_method_3_code 103 = .ok (.iload 6, 2) := by decide +kernel
theorem d10_105 : decode prog_28_method_3_code 105 = .ok (.lload_n 3, 1) := by decide +kernel
theorem d10_106 : decode prog_28_method_3_code 106 = .ok (.lastore, 1) := by decide +kernel
theorem d10_107 : decode prog_28_method_3_code 107 = .ok (.iconst 1, 1) := by decide +kernel
theorem d10_108 : decode prog_28_method_3_code 108 = .ok (.ireturn, 1) := by decide +kernel
theorem pn_10 : plainName "com/example/traza/traza/PackedRows$Layout" = true := by first | (simp [plainName, overriddenIn]; done) | decide +kernel
set_option maxRecDepth 65536 in
set_option maxHeartbeats 40000000 in
theorem rm_enc (l : Launch) (Z : State) (a0 : Array Value) (hw : ∀ d ∈ tables_1, d.before a0 Z = true) (ws : List Jvm.Cond) (aL aw aV aB : Addr) (kw kV : ClassId) (w0 w1 w2 rb wd cw p0 p1 p2 : Int32) (b0 b1 b2 : Nat) (g : Nat → Int64) (h0 : Heap) (n0 : Nat) (O0 : Old Z n0 h0) (A1 : Exa Z h0 aL "com/example/traza/traza/PackedRows$Layout") (l1 : Fld Z h0 aL "com/example/traza/traza/PackedRows$Layout" "widths" "[I" (.ref aw)) (vw : Arv Z h0 aw kw .int (3 : Int32) [(.int w0), (.int w1), (.int w2)] (.int (0 : Int32))) (vV : Arv Z h0 aV kV .int (3 : Int32) [(.int p0), (.int p1), (.int p2)] (.int (0 : Int32))) (vB : LAr Z h0 aB ((b0 + b1 + b2 + 63) / 64) g) (gB : n0 ≤ aB) (hW : own_wid w0 w1 w2 rb wd cw b0 b1 b2) (hp0 : ¬ p0 < 0) (hp1 : ¬ p1 < 0) (hp2 : ¬ p2 < 0) :
    Ctr l (⟨"com/example/traza/traza/PackedRows$Layout", "encode", "([I[J)Z"⟩ : MethodName) prog_28_method_3_code 11 (some .boolean) ws ({ frames := 0, cells := 0, slots := 0, locals := 0 } : Room) #[(.ref aL), (.ref aV), (.ref aB)] Z h0 (fun v h L => ∃ t, v = some (.int t) ∧ Fr n0 L ∧ Keep h0 h [aB] ∧ ∃ g', LAr Z h aB ((b0 + b1 + b2 + 63) / 64) g' ∧ ((t = 0 ∧ ¬ own_fits b0 b1 b2 (p0, p1, p2)) ∨ (t = 1 ∧ own_fits b0 b1 b2 (p0, p1, p2) ∧ own_enc g' b0 b1 b2 (p0, p1, p2)))) := by
  have ef : ∀ m : MethodId, entryFrame m #[(.ref aL), (.ref aV), (.ref aB)] 11 = mkF m 0 #[.val (.ref aL), .val (.ref aV), .val (.ref aB), .unset, .unset, .unset, .unset, .unset, .unset, .unset, .unset] [] := fun m => by first | (simp [entryFrame, mkF, argsToLocals, Value.category]; done) | rfl
  refine Ctr.of (plainFor_of_name pn_10) ?_
  intro p e s m below meth c s₁ hx hZ hby hml hown0 hnm hret hlk X0 e0
  have hown : s.vm.findClass "com/example/traza/traza/PackedRows$Layout" = some m.cls := hown0
  have N0 := Fr.nil n0
  refine Go.st (fun t k => castTop (ef m) k) ?_
  obtain ⟨hw0, hw1, hw2, hb0, hb1, hb2, hrb, hwd, hcw⟩ := hW
  have hc0 : ((0 : Int32)).toInt = (0 : Nat) := rfl
  refine Go.st (fun _ => XS.lconst X0.here hx rfl (hb hby d10_0)) ?_
  refine Go.st (fun _ => XS.lstoreN X0.here hx rfl (hb hby d10_1) rfl (l' := #[.val (.ref aL), .val (.ref aV), .val (.ref aB), .val (.long (0 : Int64)), .second, .unset, .unset, .unset, .unset, .unset, .unset]) rfl) ?_
  refine Go.st (fun _ => XS.iconst X0.here hx rfl (hb hby d10_2)) ?_
  show Go p e below _ (s₁.setTop (mkF m 3 #[.val (.ref aL), .val (.ref aV), .val (.ref aB), .val (.long (0 : Int64)), .second, .unset, .unset, .unset, .unset, .unset, .unset] [(.int (0 : Int32))]))
  refine Go.st (fun _ => XS.istore X0.here hx rfl (hb hby d10_3) rfl (l' := #[.val (.ref aL), .val (.ref aV), .val (.ref aB), .val (.long (0 : Int64)), .second, .val (.int (0 : Int32)), .unset, .unset, .unset, .unset, .unset]) rfl) ?_
  refine Go.st (fun _ => XS.iconst X0.here hx rfl (hb hby d10_5)) ?_
  refine Go.st (fun _ => XS.istore X0.here hx rfl (hb hby d10_6) rfl (l' := #[.val (.ref aL), .val (.ref aV), .val (.ref aB), .val (.long (0 : Int64)), .second, .val (.int (0 : Int32)), .val (.int (0 : Int32)), .unset, .unset, .unset, .unset]) rfl) ?_
  refine Go.st (fun _ => XS.iconst X0.here hx rfl (hb hby d10_8)) ?_
  show Go p e below _ (s₁.setTop (mkF m 9 #[.val (.ref aL), .val (.ref aV), .val (.ref aB), .val (.long (0 : Int64)), .second, .val (.int (0 : Int32)), .val (.int (0 : Int32)), .unset, .unset, .unset, .unset] [(.int (0 : Int32))]))
  refine Go.st (fun _ => XS.istore X0.here hx rfl (hb hby d10_9) rfl (l' := #[.val (.ref aL), .val (.ref aV), .val (.ref aB), .val (.long (0 : Int64)), .second, .val (.int (0 : Int32)), .val (.int (0 : Int32)), .val (.int (0 : Int32)), .unset, .unset, .unset]) rfl) ?_
  refine Go.st (fun _ => XS.iload X0.here hx rfl (hb hby d10_11) rfl) ?_
  refine Go.st (fun _ => XS.aloadN X0.here hx rfl (hb hby d10_13) rfl rfl) ?_
  obtain ⟨T1, X1, e1, st1⟩ := getF X0 hx hZ hown (host := "") (Or.inl (ww hw 45 rfl)) Via.refl e0 l1 (g := (mkF m 14 #[.val (.ref aL), .val (.ref aV), .val (.ref aB), .val (.long (0 : Int64)), .second, .val (.int (0 : Int32)), .val (.int (0 : Int32)), .val (.int (0 : Int32)), .unset, .unset, .unset] [(.ref aL), (.int (0 : Int32))])) rfl rfl (hb hby d10_14)
  refine Go.st st1 ?_
  show Go p e below _ (T1.setTop (mkF m 17 #[.val (.ref aL), .val (.ref aV), .val (.ref aB), .val (.long (0 : Int64)), .second, .val (.int (0 : Int32)), .val (.int (0 : Int32)), .val (.int (0 : Int32)), .unset, .unset, .unset] [(.ref aw), (.int (0 : Int32))]))
  obtain ⟨cl2, Ar2, qk2, Sz2, Nn2, Ha2, Ga2⟩ := id vw
  refine Go.st (fun _ => X1.arraylength hx (by rw [e1]; exact Ar2.1) (State.isArrayOf_alike hZ.alike Ar2.2.1) (g := (mkF m 17 #[.val (.ref aL), .val (.ref aV), .val (.ref aB), .val (.long (0 : Int64)), .second, .val (.int (0 : Int32)), .val (.int (0 : Int32)), .val (.int (0 : Int32)), .unset, .unset, .unset] [(.ref aw), (.int (0 : Int32))])) rfl rfl (hb hby d10_17) _) ?_
  rw [len_of Sz2 Nn2]
  show Go p e below _ (T1.setTop (mkF m 18 #[.val (.ref aL), .val (.ref aV), .val (.ref aB), .val (.long (0 : Int64)), .second, .val (.int (0 : Int32)), .val (.int (0 : Int32)), .val (.int (0 : Int32)), .unset, .unset, .unset] [(.int (3 : Int32)), (.int (0 : Int32))]))
  refine Go.st (fun _ => XS.icmpNo X1.here hx rfl (hb hby d10_18) rfl (tlt (by decide : (0 : Int32) < (3 : Int32))).2.1) ?_
  refine Go.st (fun _ => XS.aloadN X1.here hx rfl (hb hby d10_21) rfl rfl) ?_
  obtain ⟨T3, X3, e3, st3⟩ := getF X1 hx hZ hown (host := "") (Or.inl (ww hw 45 rfl)) Via.refl e1 l1 (g := (mkF m 22 #[.val (.ref aL), .val (.ref aV), .val (.ref aB), .val (.long (0 : Int64)), .second, .val (.int (0 : Int32)), .val (.int (0 : Int32)), .val (.int (0 : Int32)), .unset, .unset, .unset] [(.ref aL)])) rfl rfl (hb hby d10_22)
  refine Go.st st3 ?_
  refine Go.st (fun _ => XS.iload X3.here hx rfl (hb hby d10_25) rfl) ?_
  show Go p e below _ (T3.setTop (mkF m 27 #[.val (.ref aL), .val (.ref aV), .val (.ref aB), .val (.long (0 : Int64)), .second, .val (.int (0 : Int32)), .val (.int (0 : Int32)), .val (.int (0 : Int32)), .unset, .unset, .unset] [(.int (0 : Int32)), (.ref aw)]))
  obtain ⟨cl4, Ar4, qk4, Sz4, Nn4, Ha4, Ga4⟩ := id vw
  have hin4 : ¬ ((0 : Int32) < 0 ∨ cl4.slots.size ≤ ((0 : Int32) : Int32).toNatClampNeg) := inb_of Sz4 ⟨by decide, by decide⟩
  refine Go.st (fun _ => X3.iaload hx (j := (0 : Int32)) (v := (.int w0)) (by rw [e3]; exact Ar4.1) (State.isArrayOf_alike hZ.alike Ar4.2.1) Ar4.2.2 hin4 (Has.at Ha4 hin4 rfl) (g := (mkF m 27 #[.val (.ref aL), .val (.ref aV), .val (.ref aB), .val (.long (0 : Int64)), .second, .val (.int (0 : Int32)), .val (.int (0 : Int32)), .val (.int (0 : Int32)), .unset, .unset, .unset] [(.int (0 : Int32)), (.ref aw)])) rfl rfl (hb hby d10_27) _) ?_
  refine Go.st (fun _ => XS.istore X3.here hx rfl (hb hby d10_28) rfl (l' := #[.val (.ref aL), .val (.ref aV), .val (.ref aB), .val (.long (0 : Int64)), .second, .val (.int (0 : Int32)), .val (.int (0 : Int32)), .val (.int (0 : Int32)), .val (.int w0), .unset, .unset]) rfl) ?_
  refine Go.st (fun _ => XS.aloadN X3.here hx rfl (hb hby d10_30) rfl rfl) ?_
  refine Go.st (fun _ => XS.iload X3.here hx rfl (hb hby d10_31) rfl) ?_
  show Go p e below _ (T3.setTop (mkF m 33 #[.val (.ref aL), .val (.ref aV), .val (.ref aB), .val (.long (0 : Int64)), .second, .val (.int (0 : Int32)), .val (.int (0 : Int32)), .val (.int (0 : Int32)), .val (.int w0), .unset, .unset] [(.int (0 : Int32)), (.ref aV)]))
  obtain ⟨cl5, Ar5, qk5, Sz5, Nn5, Ha5, Ga5⟩ := id vV
  have hin5 : ¬ ((0 : Int32) < 0 ∨ cl5.slots.size ≤ ((0 : Int32) : Int32).toNatClampNeg) := inb_of Sz5 ⟨by decide, by decide⟩
  refine Go.st (fun _ => X3.iaload hx (j := (0 : Int32)) (v := (.int p0)) (by rw [e3]; exact Ar5.1) (State.isArrayOf_alike hZ.alike Ar5.2.1) Ar5.2.2 hin5 (Has.at Ha5 hin5 rfl) (g := (mkF m 33 #[.val (.ref aL), .val (.ref aV), .val (.ref aB), .val (.long (0 : Int64)), .second, .val (.int (0 : Int32)), .val (.int (0 : Int32)), .val (.int (0 : Int32)), .val (.int w0), .unset, .unset] [(.int (0 : Int32)), (.ref aV)])) rfl rfl (hb hby d10_33) _) ?_
  refine Go.st (fun _ => XS.i2l X3.here hx rfl (hb hby d10_34) rfl) ?_
  refine Go.st (fun _ => XS.lstore X3.here hx rfl (hb hby d10_35) rfl (l' := #[.val (.ref aL), .val (.ref aV), .val (.ref aB), .val (.long (0 : Int64)), .second, .val (.int (0 : Int32)), .val (.int (0 : Int32)), .val (.int (0 : Int32)), .val (.int w0), .val (.long (p0.toInt64)), .second]) rfl) ?_
  refine Go.st (fun _ => XS.lload X3.here hx rfl (hb hby d10_37) rfl) ?_
  show Go p e below _ (T3.setTop (mkF m 39 #[.val (.ref aL), .val (.ref aV), .val (.ref aB), .val (.long (0 : Int64)), .second, .val (.int (0 : Int32)), .val (.int (0 : Int32)), .val (.int (0 : Int32)), .val (.int w0), .val (.long (p0.toInt64)), .second] [(.long (p0.toInt64))]))
  refine Go.st (fun _ => XS.iload X3.here hx rfl (hb hby d10_39) rfl) ?_
  refine Go.st (fun _ => XS.lushr X3.here hx rfl (hb hby d10_41) rfl) ?_
  refine Go.st (fun _ => XS.lconst X3.here hx rfl (hb hby d10_42)) ?_
  refine Go.st (fun _ => XS.lcmp X3.here hx rfl (hb hby d10_43) rfl) ?_
  show Go p e below _ (T3.setTop (mkF m 44 #[.val (.ref aL), .val (.ref aV), .val (.ref aB), .val (.long (0 : Int64)), .second, .val (.int (0 : Int32)), .val (.int (0 : Int32)), .val (.int (0 : Int32)), .val (.int w0), .val (.long (p0.toInt64)), .second] [(.int (lcmpW (((p0.toInt64).toUInt64 >>> (w0 &&& 0x3f).toInt64.toUInt64).toInt64) (0 : Int64)))]))
  by_cases hc6 : (((p0.toInt64).toUInt64 >>> (w0 &&& 0x3f).toInt64.toUInt64).toInt64) = (0 : Int64)
  · refine Go.st (fun _ => XS.ifYes X3.here hx rfl (pc0 := 44) (pc' := 49) rfl (hb hby d10_44) rfl ((if0 _ _).trans (teq ((lw_eq _ _).mpr hc6)).1) (by decide) (by decide)) ?_
    refine Go.st (fun _ => XS.lloadN X3.here hx rfl (hb hby d10_49) rfl) ?_
    refine Go.st (fun _ => XS.lload X3.here hx rfl (hb hby d10_50) rfl) ?_
    refine Go.st (fun _ => XS.iload X3.here hx rfl (hb hby d10_52) rfl) ?_
    show Go p e below _ (T3.setTop (mkF m 54 #[.val (.ref aL), .val (.ref aV), .val (.ref aB), .val (.long (0 : Int64)), .second, .val (.int (0 : Int32)), .val (.int (0 : Int32)), .val (.int (0 : Int32)), .val (.int w0), .val (.long (p0.toInt64)), .second] [(.int (0 : Int32)), (.long (p0.toInt64)), (.long (0 : Int64))]))
    refine Go.st (fun _ => XS.lshl X3.here hx rfl (hb hby d10_54) rfl) ?_
    refine Go.st (fun _ => XS.lor X3.here hx rfl (hb hby d10_55) rfl) ?_
    refine Go.st (fun _ => XS.lstoreN X3.here hx rfl (hb hby d10_56) rfl (l' := #[.val (.ref aL), .val (.ref aV), .val (.ref aB), .val (.long ((0 : Int64) ||| ((p0.toInt64) <<< ((0 : Int32) &&& 0x3f).toInt64))), .second, .val (.int (0 : Int32)), .val (.int (0 : Int32)), .val (.int (0 : Int32)), .val (.int w0), .val (.long (p0.toInt64)), .second]) rfl) ?_
    refine Go.st (fun _ => XS.iload X3.here hx rfl (hb hby d10_57) rfl) ?_
    show Go p e below _ (T3.setTop (mkF m 59 #[.val (.ref aL), .val (.ref aV), .val (.ref aB), .val (.long ((0 : Int64) ||| ((p0.toInt64) <<< ((0 : Int32) &&& 0x3f).toInt64))), .second, .val (.int (0 : Int32)), .val (.int (0 : Int32)), .val (.int (0 : Int32)), .val (.int w0), .val (.long (p0.toInt64)), .second] [(.int (0 : Int32))]))
    refine Go.st (fun _ => XS.iload X3.here hx rfl (hb hby d10_59) rfl) ?_
    refine Go.st (fun _ => XS.iadd X3.here hx rfl (hb hby d10_61) rfl) ?_
    refine Go.st (fun _ => XS.istore X3.here hx rfl (hb hby d10_62) rfl (l' := #[.val (.ref aL), .val (.ref aV), .val (.ref aB), .val (.long ((0 : Int64) ||| ((p0.toInt64) <<< ((0 : Int32) &&& 0x3f).toInt64))), .second, .val (.int ((0 : Int32) + w0)), .val (.int (0 : Int32)), .val (.int (0 : Int32)), .val (.int w0), .val (.long (p0.toInt64)), .second]) rfl) ?_
    show Go p e below _ (T3.setTop (mkF m 64 #[.val (.ref aL), .val (.ref aV), .val (.ref aB), .val (.long ((0 : Int64) ||| ((p0.toInt64) <<< ((0 : Int32) &&& 0x3f).toInt64))), .second, .val (.int ((0 : Int32) + w0)), .val (.int (0 : Int32)), .val (.int (0 : Int32)), .val (.int w0), .val (.long (p0.toInt64)), .second] []))
    obtain ⟨c1, ec1⟩ : ∃ z, z = ((0 : Int32) + w0) := ⟨_, rfl⟩
    rw [← ec1]
    have hc1 : c1.toInt = ((b0 : Nat) : Int) := by rw [ec1]; exact (by rw [add_toInt (x := 0) rfl hw0 (by omega), Nat.zero_add])
    have lt1 : c1 < (64 : Int32) := by rw [Int32.lt_iff_toInt_lt, hc1, show (64 : Int32).toInt = 64 from rfl]; omega
    refine Go.st (fun _ => XS.iload X3.here hx rfl (hb hby d10_64) rfl) ?_
    show Go p e below _ (T3.setTop (mkF m 66 #[.val (.ref aL), .val (.ref aV), .val (.ref aB), .val (.long ((0 : Int64) ||| ((p0.toInt64) <<< ((0 : Int32) &&& 0x3f).toInt64))), .second, .val (.int c1), .val (.int (0 : Int32)), .val (.int (0 : Int32)), .val (.int w0), .val (.long (p0.toInt64)), .second] [(.int c1)]))
    refine Go.st (fun _ => XS.bipush X3.here hx rfl (hb hby d10_66)) ?_
    refine Go.st (fun _ => XS.icmpYes X3.here hx rfl (pc0 := 68) (pc' := 91) rfl (hb hby d10_68) rfl (tlt lt1).1 (by decide) (by decide)) ?_
    refine Go.st (fun _ => XS.iinc X3.here hx rfl (hb hby d10_91) rfl (l' := #[.val (.ref aL), .val (.ref aV), .val (.ref aB), .val (.long ((0 : Int64) ||| ((p0.toInt64) <<< ((0 : Int32) &&& 0x3f).toInt64))), .second, .val (.int c1), .val (.int (0 : Int32)), .val (.int (1 : Int32)), .val (.int w0), .val (.long (p0.toInt64)), .second]) rfl) ?_
    refine Go.st (fun _ => XS.goto X3.here hx rfl (pc0 := 94) (pc' := 11) rfl (hb hby d10_94) (by decide) (by decide)) ?_
    show Go p e below _ (T3.setTop (mkF m 11 #[.val (.ref aL), .val (.ref aV), .val (.ref aB), .val (.long ((0 : Int64) ||| ((p0.toInt64) <<< ((0 : Int32) &&& 0x3f).toInt64))), .second, .val (.int c1), .val (.int (0 : Int32)), .val (.int (1 : Int32)), .val (.int w0), .val (.long (p0.toInt64)), .second] []))
    refine Go.st (fun _ => XS.iload X3.here hx rfl (hb hby d10_11) rfl) ?_
    refine Go.st (fun _ => XS.aloadN X3.here hx rfl (hb hby d10_13) rfl rfl) ?_
    obtain ⟨T7, X7, e7, st7⟩ := getF X3 hx hZ hown (host := "") (Or.inl (ww hw 45 rfl)) Via.refl e3 l1 (g := (mkF m 14 #[.val (.ref aL), .val (.ref aV), .val (.ref aB), .val (.long ((0 : Int64) ||| ((p0.toInt64) <<< ((0 : Int32) &&& 0x3f).toInt64))), .second, .val (.int c1), .val (.int (0 : Int32)), .val (.int (1 : Int32)), .val (.int w0), .val (.long (p0.toInt64)), .second] [(.ref aL), (.int (1 : Int32))])) rfl rfl (hb hby d10_14)
    refine Go.st st7 ?_
    show Go p e below _ (T7.setTop (mkF m 17 #[.val (.ref aL), .val (.ref aV), .val (.ref aB), .val (.long ((0 : Int64) ||| ((p0.toInt64) <<< ((0 : Int32) &&& 0x3f).toInt64))), .second, .val (.int c1), .val (.int (0 : Int32)), .val (.int (1 : Int32)), .val (.int w0), .val (.long (p0.toInt64)), .second] [(.ref aw), (.int (1 : Int32))]))
    obtain ⟨cl8, Ar8, qk8, Sz8, Nn8, Ha8, Ga8⟩ := id vw
    refine Go.st (fun _ => X7.arraylength hx (by rw [e7]; exact Ar8.1) (State.isArrayOf_alike hZ.alike Ar8.2.1) (g := (mkF m 17 #[.val (.ref aL), .val (.ref aV), .val (.ref aB), .val (.long ((0 : Int64) ||| ((p0.toInt64) <<< ((0 : Int32) &&& 0x3f).toInt64))), .second, .val (.int c1), .val (.int (0 : Int32)), .val (.int (1 : Int32)), .val (.int w0), .val (.long (p0.toInt64)), .second] [(.ref aw), (.int (1 : Int32))])) rfl rfl (hb hby d10_17) _) ?_
    rw [len_of Sz8 Nn8]
    show Go p e below _ (T7.setTop (mkF m 18 #[.val (.ref aL), .val (.ref aV), .val (.ref aB), .val (.long ((0 : Int64) ||| ((p0.toInt64) <<< ((0 : Int32) &&& 0x3f).toInt64))), .second, .val (.int c1), .val (.int (0 : Int32)), .val (.int (1 : Int32)), .val (.int w0), .val (.long (p0.toInt64)), .second] [(.int (3 : Int32)), (.int (1 : Int32))]))
    refine Go.st (fun _ => XS.icmpNo X7.here hx rfl (hb hby d10_18) rfl (tlt (by decide : (1 : Int32) < (3 : Int32))).2.1) ?_
    refine Go.st (fun _ => XS.aloadN X7.here hx rfl (hb hby d10_21) rfl rfl) ?_
    obtain ⟨T9, X9, e9, st9⟩ := getF X7 hx hZ hown (host := "") (Or.inl (ww hw 45 rfl)) Via.refl e7 l1 (g := (mkF m 22 #[.val (.ref aL), .val (.ref aV), .val (.ref aB), .val (.long ((0 : Int64) ||| ((p0.toInt64) <<< ((0 : Int32) &&& 0x3f).toInt64))), .second, .val (.int c1), .val (.int (0 : Int32)), .val (.int (1 : Int32)), .val (.int w0), .val (.long (p0.toInt64)), .second] [(.ref aL)])) rfl rfl (hb hby d10_22)
    refine Go.st st9 ?_
    refine Go.st (fun _ => XS.iload X9.here hx rfl (hb hby d10_25) rfl) ?_
    show Go p e below _ (T9.setTop (mkF m 27 #[.val (.ref aL), .val (.ref aV), .val (.ref aB), .val (.long ((0 : Int64) ||| ((p0.toInt64) <<< ((0 : Int32) &&& 0x3f).toInt64))), .second, .val (.int c1), .val (.int (0 : Int32)), .val (.int (1 : Int32)), .val (.int w0), .val (.long (p0.toInt64)), .second] [(.int (1 : Int32)), (.ref aw)]))
    obtain ⟨cl10, Ar10, qk10, Sz10, Nn10, Ha10, Ga10⟩ := id vw
    have hin10 : ¬ ((1 : Int32) < 0 ∨ cl10.slots.size ≤ ((1 : Int32) : Int32).toNatClampNeg) := inb_of Sz10 ⟨by decide, by decide⟩
    refine Go.st (fun _ => X9.iaload hx (j := (1 : Int32)) (v := (.int w1)) (by rw [e9]; exact Ar10.1) (State.isArrayOf_alike hZ.alike Ar10.2.1) Ar10.2.2 hin10 (Has.at Ha10 hin10 rfl) (g := (mkF m 27 #[.val (.ref aL), .val (.ref aV), .val (.ref aB), .val (.long ((0 : Int64) ||| ((p0.toInt64) <<< ((0 : Int32) &&& 0x3f).toInt64))), .second, .val (.int c1), .val (.int (0 : Int32)), .val (.int (1 : Int32)), .val (.int w0), .val (.long (p0.toInt64)), .second] [(.int (1 : Int32)), (.ref aw)])) rfl rfl (hb hby d10_27) _) ?_
    refine Go.st (fun _ => XS.istore X9.here hx rfl (hb hby d10_28) rfl (l' := #[.val (.ref aL), .val (.ref aV), .val (.ref aB), .val (.long ((0 : Int64) ||| ((p0.toInt64) <<< ((0 : Int32) &&& 0x3f).toInt64))), .second, .val (.int c1), .val (.int (0 : Int32)), .val (.int (1 : Int32)), .val (.int w1), .val (.long (p0.toInt64)), .second]) rfl) ?_
    refine Go.st (fun _ => XS.aloadN X9.here hx rfl (hb hby d10_30) rfl rfl) ?_
    refine Go.st (fun _ => XS.iload X9.here hx rfl (hb hby d10_31) rfl) ?_
    show Go p e below _ (T9.setTop (mkF m 33 #[.val (.ref aL), .val (.ref aV), .val (.ref aB), .val (.long ((0 : Int64) ||| ((p0.toInt64) <<< ((0 : Int32) &&& 0x3f).toInt64))), .second, .val (.int c1), .val (.int (0 : Int32)), .val (.int (1 : Int32)), .val (.int w1), .val (.long (p0.toInt64)), .second] [(.int (1 : Int32)), (.ref aV)]))
    obtain ⟨cl11, Ar11, qk11, Sz11, Nn11, Ha11, Ga11⟩ := id vV
    have hin11 : ¬ ((1 : Int32) < 0 ∨ cl11.slots.size ≤ ((1 : Int32) : Int32).toNatClampNeg) := inb_of Sz11 ⟨by decide, by decide⟩
    refine Go.st (fun _ => X9.iaload hx (j := (1 : Int32)) (v := (.int p1)) (by rw [e9]; exact Ar11.1) (State.isArrayOf_alike hZ.alike Ar11.2.1) Ar11.2.2 hin11 (Has.at Ha11 hin11 rfl) (g := (mkF m 33 #[.val (.ref aL), .val (.ref aV), .val (.ref aB), .val (.long ((0 : Int64) ||| ((p0.toInt64) <<< ((0 : Int32) &&& 0x3f).toInt64))), .second, .val (.int c1), .val (.int (0 : Int32)), .val (.int (1 : Int32)), .val (.int w1), .val (.long (p0.toInt64)), .second] [(.int (1 : Int32)), (.ref aV)])) rfl rfl (hb hby d10_33) _) ?_
    refine Go.st (fun _ => XS.i2l X9.here hx rfl (hb hby d10_34) rfl) ?_
    refine Go.st (fun _ => XS.lstore X9.here hx rfl (hb hby d10_35) rfl (l' := #[.val (.ref aL), .val (.ref aV), .val (.ref aB), .val (.long ((0 : Int64) ||| ((p0.toInt64) <<< ((0 : Int32) &&& 0x3f).toInt64))), .second, .val (.int c1), .val (.int (0 : Int32)), .val (.int (1 : Int32)), .val (.int w1), .val (.long (p1.toInt64)), .second]) rfl) ?_
    refine Go.st (fun _ => XS.lload X9.here hx rfl (hb hby d10_37) rfl) ?_
    show Go p e below _ (T9.setTop (mkF m 39 #[.val (.ref aL), .val (.ref aV), .val (.ref aB), .val (.long ((0 : Int64) ||| ((p0.toInt64) <<< ((0 : Int32) &&& 0x3f).toInt64))), .second, .val (.int c1), .val (.int (0 : Int32)), .val (.int (1 : Int32)), .val (.int w1), .val (.long (p1.toInt64)), .second] [(.long (p1.toInt64))]))
    refine Go.st (fun _ => XS.iload X9.here hx rfl (hb hby d10_39) rfl) ?_
    refine Go.st (fun _ => XS.lushr X9.here hx rfl (hb hby d10_41) rfl) ?_
    refine Go.st (fun _ => XS.lconst X9.here hx rfl (hb hby d10_42)) ?_
    refine Go.st (fun _ => XS.lcmp X9.here hx rfl (hb hby d10_43) rfl) ?_
    show Go p e below _ (T9.setTop (mkF m 44 #[.val (.ref aL), .val (.ref aV), .val (.ref aB), .val (.long ((0 : Int64) ||| ((p0.toInt64) <<< ((0 : Int32) &&& 0x3f).toInt64))), .second, .val (.int c1), .val (.int (0 : Int32)), .val (.int (1 : Int32)), .val (.int w1), .val (.long (p1.toInt64)), .second] [(.int (lcmpW (((p1.toInt64).toUInt64 >>> (w1 &&& 0x3f).toInt64.toUInt64).toInt64) (0 : Int64)))]))
    by_cases hc12 : (((p1.toInt64).toUInt64 >>> (w1 &&& 0x3f).toInt64.toUInt64).toInt64) = (0 : Int64)
    · refine Go.st (fun _ => XS.ifYes X9.here hx rfl (pc0 := 44) (pc' := 49) rfl (hb hby d10_44) rfl ((if0 _ _).trans (teq ((lw_eq _ _).mpr hc12)).1) (by decide) (by decide)) ?_
      refine Go.st (fun _ => XS.lloadN X9.here hx rfl (hb hby d10_49) rfl) ?_
      refine Go.st (fun _ => XS.lload X9.here hx rfl (hb hby d10_50) rfl) ?_
      refine Go.st (fun _ => XS.iload X9.here hx rfl (hb hby d10_52) rfl) ?_
      show Go p e below _ (T9.setTop (mkF m 54 #[.val (.ref aL), .val (.ref aV), .val (.ref aB), .val (.long ((0 : Int64) ||| ((p0.toInt64) <<< ((0 : Int32) &&& 0x3f).toInt64))), .second, .val (.int c1), .val (.int (0 : Int32)), .val (.int (1 : Int32)), .val (.int w1), .val (.long (p1.toInt64)), .second] [(.int c1), (.long (p1.toInt64)), (.long ((0 : Int64) ||| ((p0.toInt64) <<< ((0 : Int32) &&& 0x3f).toInt64)))]))
      refine Go.st (fun _ => XS.lshl X9.here hx rfl (hb hby d10_54) rfl) ?_
      refine Go.st (fun _ => XS.lor X9.here hx rfl (hb hby d10_55) rfl) ?_
      refine Go.st (fun _ => XS.lstoreN X9.here hx rfl (hb hby d10_56) rfl (l' := #[.val (.ref aL), .val (.ref aV), .val (.ref aB), .val (.long (((0 : Int64) ||| ((p0.toInt64) <<< ((0 : Int32) &&& 0x3f).toInt64)) ||| ((p1.toInt64) <<< (c1 &&& 0x3f).toInt64))), .second, .val (.int c1), .val (.int (0 : Int32)), .val (.int (1 : Int32)), .val (.int w1), .val (.long (p1.toInt64)), .second]) rfl) ?_
      refine Go.st (fun _ => XS.iload X9.here hx rfl (hb hby d10_57) rfl) ?_
      show Go p e below _ (T9.setTop (mkF m 59 #[.val (.ref aL), .val (.ref aV), .val (.ref aB), .val (.long (((0 : Int64) ||| ((p0.toInt64) <<< ((0 : Int32) &&& 0x3f).toInt64)) ||| ((p1.toInt64) <<< (c1 &&& 0x3f).toInt64))), .second, .val (.int c1), .val (.int (0 : Int32)), .val (.int (1 : Int32)), .val (.int w1), .val (.long (p1.toInt64)), .second] [(.int c1)]))
      refine Go.st (fun _ => XS.iload X9.here hx rfl (hb hby d10_59) rfl) ?_
      refine Go.st (fun _ => XS.iadd X9.here hx rfl (hb hby d10_61) rfl) ?_
      refine Go.st (fun _ => XS.istore X9.here hx rfl (hb hby d10_62) rfl (l' := #[.val (.ref aL), .val (.ref aV), .val (.ref aB), .val (.long (((0 : Int64) ||| ((p0.toInt64) <<< ((0 : Int32) &&& 0x3f).toInt64)) ||| ((p1.toInt64) <<< (c1 &&& 0x3f).toInt64))), .second, .val (.int (c1 + w1)), .val (.int (0 : Int32)), .val (.int (1 : Int32)), .val (.int w1), .val (.long (p1.toInt64)), .second]) rfl) ?_
      show Go p e below _ (T9.setTop (mkF m 64 #[.val (.ref aL), .val (.ref aV), .val (.ref aB), .val (.long (((0 : Int64) ||| ((p0.toInt64) <<< ((0 : Int32) &&& 0x3f).toInt64)) ||| ((p1.toInt64) <<< (c1 &&& 0x3f).toInt64))), .second, .val (.int (c1 + w1)), .val (.int (0 : Int32)), .val (.int (1 : Int32)), .val (.int w1), .val (.long (p1.toInt64)), .second] []))
      obtain ⟨c2, ec2⟩ : ∃ z, z = (c1 + w1) := ⟨_, rfl⟩
      rw [← ec2]
      have hc2 : c2.toInt = ((b0 + b1 : Nat) : Int) := by rw [ec2]; exact add_toInt hc1 hw1 (by omega)
      have lt2 : c2 < (64 : Int32) := by rw [Int32.lt_iff_toInt_lt, hc2, show (64 : Int32).toInt = 64 from rfl]; omega
      refine Go.st (fun _ => XS.iload X9.here hx rfl (hb hby d10_64) rfl) ?_
      show Go p e below _ (T9.setTop (mkF m 66 #[.val (.ref aL), .val (.ref aV), .val (.ref aB), .val (.long (((0 : Int64) ||| ((p0.toInt64) <<< ((0 : Int32) &&& 0x3f).toInt64)) ||| ((p1.toInt64) <<< (c1 &&& 0x3f).toInt64))), .second, .val (.int c2), .val (.int (0 : Int32)), .val (.int (1 : Int32)), .val (.int w1), .val (.long (p1.toInt64)), .second] [(.int c2)]))
      refine Go.st (fun _ => XS.bipush X9.here hx rfl (hb hby d10_66)) ?_
      refine Go.st (fun _ => XS.icmpYes X9.here hx rfl (pc0 := 68) (pc' := 91) rfl (hb hby d10_68) rfl (tlt lt2).1 (by decide) (by decide)) ?_
      refine Go.st (fun _ => XS.iinc X9.here hx rfl (hb hby d10_91) rfl (l' := #[.val (.ref aL), .val (.ref aV), .val (.ref aB), .val (.long (((0 : Int64) ||| ((p0.toInt64) <<< ((0 : Int32) &&& 0x3f).toInt64)) ||| ((p1.toInt64) <<< (c1 &&& 0x3f).toInt64))), .second, .val (.int c2), .val (.int (0 : Int32)), .val (.int (2 : Int32)), .val (.int w1), .val (.long (p1.toInt64)), .second]) rfl) ?_
      refine Go.st (fun _ => XS.goto X9.here hx rfl (pc0 := 94) (pc' := 11) rfl (hb hby d10_94) (by decide) (by decide)) ?_
      show Go p e below _ (T9.setTop (mkF m 11 #[.val (.ref aL), .val (.ref aV), .val (.ref aB), .val (.long (((0 : Int64) ||| ((p0.toInt64) <<< ((0 : Int32) &&& 0x3f).toInt64)) ||| ((p1.toInt64) <<< (c1 &&& 0x3f).toInt64))), .second, .val (.int c2), .val (.int (0 : Int32)), .val (.int (2 : Int32)), .val (.int w1), .val (.long (p1.toInt64)), .second] []))
      refine Go.st (fun _ => XS.iload X9.here hx rfl (hb hby d10_11) rfl) ?_
      refine Go.st (fun _ => XS.aloadN X9.here hx rfl (hb hby d10_13) rfl rfl) ?_
      obtain ⟨T13, X13, e13, st13⟩ := getF X9 hx hZ hown (host := "") (Or.inl (ww hw 45 rfl)) Via.refl e9 l1 (g := (mkF m 14 #[.val (.ref aL), .val (.ref aV), .val (.ref aB), .val (.long (((0 : Int64) ||| ((p0.toInt64) <<< ((0 : Int32) &&& 0x3f).toInt64)) ||| ((p1.toInt64) <<< (c1 &&& 0x3f).toInt64))), .second, .val (.int c2), .val (.int (0 : Int32)), .val (.int (2 : Int32)), .val (.int w1), .val (.long (p1.toInt64)), .second] [(.ref aL), (.int (2 : Int32))])) rfl rfl (hb hby d10_14)
      refine Go.st st13 ?_
      show Go p e below _ (T13.setTop (mkF m 17 #[.val (.ref aL), .val (.ref aV), .val (.ref aB), .val (.long (((0 : Int64) ||| ((p0.toInt64) <<< ((0 : Int32) &&& 0x3f).toInt64)) ||| ((p1.toInt64) <<< (c1 &&& 0x3f).toInt64))), .second, .val (.int c2), .val (.int (0 : Int32)), .val (.int (2 : Int32)), .val (.int w1), .val (.long (p1.toInt64)), .second] [(.ref aw), (.int (2 : Int32))]))
      obtain ⟨cl14, Ar14, qk14, Sz14, Nn14, Ha14, Ga14⟩ := id vw
      refine Go.st (fun _ => X13.arraylength hx (by rw [e13]; exact Ar14.1) (State.isArrayOf_alike hZ.alike Ar14.2.1) (g := (mkF m 17 #[.val (.ref aL), .val (.ref aV), .val (.ref aB), .val (.long (((0 : Int64) ||| ((p0.toInt64) <<< ((0 : Int32) &&& 0x3f).toInt64)) ||| ((p1.toInt64) <<< (c1 &&& 0x3f).toInt64))), .second, .val (.int c2), .val (.int (0 : Int32)), .val (.int (2 : Int32)), .val (.int w1), .val (.long (p1.toInt64)), .second] [(.ref aw), (.int (2 : Int32))])) rfl rfl (hb hby d10_17) _) ?_
      rw [len_of Sz14 Nn14]
      show Go p e below _ (T13.setTop (mkF m 18 #[.val (.ref aL), .val (.ref aV), .val (.ref aB), .val (.long (((0 : Int64) ||| ((p0.toInt64) <<< ((0 : Int32) &&& 0x3f).toInt64)) ||| ((p1.toInt64) <<< (c1 &&& 0x3f).toInt64))), .second, .val (.int c2), .val (.int (0 : Int32)), .val (.int (2 : Int32)), .val (.int w1), .val (.long (p1.toInt64)), .second] [(.int (3 : Int32)), (.int (2 : Int32))]))
      refine Go.st (fun _ => XS.icmpNo X13.here hx rfl (hb hby d10_18) rfl (tlt (by decide : (2 : Int32) < (3 : Int32))).2.1) ?_
      refine Go.st (fun _ => XS.aloadN X13.here hx rfl (hb hby d10_21) rfl rfl) ?_
      obtain ⟨T15, X15, e15, st15⟩ := getF X13 hx hZ hown (host := "") (Or.inl (ww hw 45 rfl)) Via.refl e13 l1 (g := (mkF m 22 #[.val (.ref aL), .val (.ref aV), .val (.ref aB), .val (.long (((0 : Int64) ||| ((p0.toInt64) <<< ((0 : Int32) &&& 0x3f).toInt64)) ||| ((p1.toInt64) <<< (c1 &&& 0x3f).toInt64))), .second, .val (.int c2), .val (.int (0 : Int32)), .val (.int (2 : Int32)), .val (.int w1), .val (.long (p1.toInt64)), .second] [(.ref aL)])) rfl rfl (hb hby d10_22)
      refine Go.st st15 ?_
      refine Go.st (fun _ => XS.iload X15.here hx rfl (hb hby d10_25) rfl) ?_
      show Go p e below _ (T15.setTop (mkF m 27 #[.val (.ref aL), .val (.ref aV), .val (.ref aB), .val (.long (((0 : Int64) ||| ((p0.toInt64) <<< ((0 : Int32) &&& 0x3f).toInt64)) ||| ((p1.toInt64) <<< (c1 &&& 0x3f).toInt64))), .second, .val (.int c2), .val (.int (0 : Int32)), .val (.int (2 : Int32)), .val (.int w1), .val (.long (p1.toInt64)), .second] [(.int (2 : Int32)), (.ref aw)]))
      obtain ⟨cl16, Ar16, qk16, Sz16, Nn16, Ha16, Ga16⟩ := id vw
      have hin16 : ¬ ((2 : Int32) < 0 ∨ cl16.slots.size ≤ ((2 : Int32) : Int32).toNatClampNeg) := inb_of Sz16 ⟨by decide, by decide⟩
      refine Go.st (fun _ => X15.iaload hx (j := (2 : Int32)) (v := (.int w2)) (by rw [e15]; exact Ar16.1) (State.isArrayOf_alike hZ.alike Ar16.2.1) Ar16.2.2 hin16 (Has.at Ha16 hin16 rfl) (g := (mkF m 27 #[.val (.ref aL), .val (.ref aV), .val (.ref aB), .val (.long (((0 : Int64) ||| ((p0.toInt64) <<< ((0 : Int32) &&& 0x3f).toInt64)) ||| ((p1.toInt64) <<< (c1 &&& 0x3f).toInt64))), .second, .val (.int c2), .val (.int (0 : Int32)), .val (.int (2 : Int32)), .val (.int w1), .val (.long (p1.toInt64)), .second] [(.int (2 : Int32)), (.ref aw)])) rfl rfl (hb hby d10_27) _) ?_
      refine Go.st (fun _ => XS.istore X15.here hx rfl (hb hby d10_28) rfl (l' := #[.val (.ref aL), .val (.ref aV), .val (.ref aB), .val (.long (((0 : Int64) ||| ((p0.toInt64) <<< ((0 : Int32) &&& 0x3f).toInt64)) ||| ((p1.toInt64) <<< (c1 &&& 0x3f).toInt64))), .second, .val (.int c2), .val (.int (0 : Int32)), .val (.int (2 : Int32)), .val (.int w2), .val (.long (p1.toInt64)), .second]) rfl) ?_
      refine Go.st (fun _ => XS.aloadN X15.here hx rfl (hb hby d10_30) rfl rfl) ?_
      refine Go.st (fun _ => XS.iload X15.here hx rfl (hb hby d10_31) rfl) ?_
      show Go p e below _ (T15.setTop (mkF m 33 #[.val (.ref aL), .val (.ref aV), .val (.ref aB), .val (.long (((0 : Int64) ||| ((p0.toInt64) <<< ((0 : Int32) &&& 0x3f).toInt64)) ||| ((p1.toInt64) <<< (c1 &&& 0x3f).toInt64))), .second, .val (.int c2), .val (.int (0 : Int32)), .val (.int (2 : Int32)), .val (.int w2), .val (.long (p1.toInt64)), .second] [(.int (2 : Int32)), (.ref aV)]))
      obtain ⟨cl17, Ar17, qk17, Sz17, Nn17, Ha17, Ga17⟩ := id vV
      have hin17 : ¬ ((2 : Int32) < 0 ∨ cl17.slots.size ≤ ((2 : Int32) : Int32).toNatClampNeg) := inb_of Sz17 ⟨by decide, by decide⟩
      refine Go.st (fun _ => X15.iaload hx (j := (2 : Int32)) (v := (.int p2)) (by rw [e15]; exact Ar17.1) (State.isArrayOf_alike hZ.alike Ar17.2.1) Ar17.2.2 hin17 (Has.at Ha17 hin17 rfl) (g := (mkF m 33 #[.val (.ref aL), .val (.ref aV), .val (.ref aB), .val (.long (((0 : Int64) ||| ((p0.toInt64) <<< ((0 : Int32) &&& 0x3f).toInt64)) ||| ((p1.toInt64) <<< (c1 &&& 0x3f).toInt64))), .second, .val (.int c2), .val (.int (0 : Int32)), .val (.int (2 : Int32)), .val (.int w2), .val (.long (p1.toInt64)), .second] [(.int (2 : Int32)), (.ref aV)])) rfl rfl (hb hby d10_33) _) ?_
      refine Go.st (fun _ => XS.i2l X15.here hx rfl (hb hby d10_34) rfl) ?_
      refine Go.st (fun _ => XS.lstore X15.here hx rfl (hb hby d10_35) rfl (l' := #[.val (.ref aL), .val (.ref aV), .val (.ref aB), .val (.long (((0 : Int64) ||| ((p0.toInt64) <<< ((0 : Int32) &&& 0x3f).toInt64)) ||| ((p1.toInt64) <<< (c1 &&& 0x3f).toInt64))), .second, .val (.int c2), .val (.int (0 : Int32)), .val (.int (2 : Int32)), .val (.int w2), .val (.long (p2.toInt64)), .second]) rfl) ?_
      refine Go.st (fun _ => XS.lload X15.here hx rfl (hb hby d10_37) rfl) ?_
      show Go p e below _ (T15.setTop (mkF m 39 #[.val (.ref aL), .val (.ref aV), .val (.ref aB), .val (.long (((0 : Int64) ||| ((p0.toInt64) <<< ((0 : Int32) &&& 0x3f).toInt64)) ||| ((p1.toInt64) <<< (c1 &&& 0x3f).toInt64))), .second, .val (.int c2), .val (.int (0 : Int32)), .val (.int (2 : Int32)), .val (.int w2), .val (.long (p2.toInt64)), .second] [(.long (p2.toInt64))]))
      refine Go.st (fun _ => XS.iload X15.here hx rfl (hb hby d10_39) rfl) ?_
      refine Go.st (fun _ => XS.lushr X15.here hx rfl (hb hby d10_41) rfl) ?_
      refine Go.st (fun _ => XS.lconst X15.here hx rfl (hb hby d10_42)) ?_
      refine Go.st (fun _ => XS.lcmp X15.here hx rfl (hb hby d10_43) rfl) ?_
      show Go p e below _ (T15.setTop (mkF m 44 #[.val (.ref aL), .val (.ref aV), .val (.ref aB), .val (.long (((0 : Int64) ||| ((p0.toInt64) <<< ((0 : Int32) &&& 0x3f).toInt64)) ||| ((p1.toInt64) <<< (c1 &&& 0x3f).toInt64))), .second, .val (.int c2), .val (.int (0 : Int32)), .val (.int (2 : Int32)), .val (.int w2), .val (.long (p2.toInt64)), .second] [(.int (lcmpW (((p2.toInt64).toUInt64 >>> (w2 &&& 0x3f).toInt64.toUInt64).toInt64) (0 : Int64)))]))
      by_cases hc18 : (((p2.toInt64).toUInt64 >>> (w2 &&& 0x3f).toInt64.toUInt64).toInt64) = (0 : Int64)
      · refine Go.st (fun _ => XS.ifYes X15.here hx rfl (pc0 := 44) (pc' := 49) rfl (hb hby d10_44) rfl ((if0 _ _).trans (teq ((lw_eq _ _).mpr hc18)).1) (by decide) (by decide)) ?_
        refine Go.st (fun _ => XS.lloadN X15.here hx rfl (hb hby d10_49) rfl) ?_
        refine Go.st (fun _ => XS.lload X15.here hx rfl (hb hby d10_50) rfl) ?_
        refine Go.st (fun _ => XS.iload X15.here hx rfl (hb hby d10_52) rfl) ?_
        show Go p e below _ (T15.setTop (mkF m 54 #[.val (.ref aL), .val (.ref aV), .val (.ref aB), .val (.long (((0 : Int64) ||| ((p0.toInt64) <<< ((0 : Int32) &&& 0x3f).toInt64)) ||| ((p1.toInt64) <<< (c1 &&& 0x3f).toInt64))), .second, .val (.int c2), .val (.int (0 : Int32)), .val (.int (2 : Int32)), .val (.int w2), .val (.long (p2.toInt64)), .second] [(.int c2), (.long (p2.toInt64)), (.long (((0 : Int64) ||| ((p0.toInt64) <<< ((0 : Int32) &&& 0x3f).toInt64)) ||| ((p1.toInt64) <<< (c1 &&& 0x3f).toInt64)))]))
        refine Go.st (fun _ => XS.lshl X15.here hx rfl (hb hby d10_54) rfl) ?_
        refine Go.st (fun _ => XS.lor X15.here hx rfl (hb hby d10_55) rfl) ?_
        refine Go.st (fun _ => XS.lstoreN X15.here hx rfl (hb hby d10_56) rfl (l' := #[.val (.ref aL), .val (.ref aV), .val (.ref aB), .val (.long ((((0 : Int64) ||| ((p0.toInt64) <<< ((0 : Int32) &&& 0x3f).toInt64)) ||| ((p1.toInt64) <<< (c1 &&& 0x3f).toInt64)) ||| ((p2.toInt64) <<< (c2 &&& 0x3f).toInt64))), .second, .val (.int c2), .val (.int (0 : Int32)), .val (.int (2 : Int32)), .val (.int w2), .val (.long (p2.toInt64)), .second]) rfl) ?_
        refine Go.st (fun _ => XS.iload X15.here hx rfl (hb hby d10_57) rfl) ?_
        show Go p e below _ (T15.setTop (mkF m 59 #[.val (.ref aL), .val (.ref aV), .val (.ref aB), .val (.long ((((0 : Int64) ||| ((p0.toInt64) <<< ((0 : Int32) &&& 0x3f).toInt64)) ||| ((p1.toInt64) <<< (c1 &&& 0x3f).toInt64)) ||| ((p2.toInt64) <<< (c2 &&& 0x3f).toInt64))), .second, .val (.int c2), .val (.int (0 : Int32)), .val (.int (2 : Int32)), .val (.int w2), .val (.long (p2.toInt64)), .second] [(.int c2)]))
        refine Go.st (fun _ => XS.iload X15.here hx rfl (hb hby d10_59) rfl) ?_
        refine Go.st (fun _ => XS.iadd X15.here hx rfl (hb hby d10_61) rfl) ?_
        refine Go.st (fun _ => XS.istore X15.here hx rfl (hb hby d10_62) rfl (l' := #[.val (.ref aL), .val (.ref aV), .val (.ref aB), .val (.long ((((0 : Int64) ||| ((p0.toInt64) <<< ((0 : Int32) &&& 0x3f).toInt64)) ||| ((p1.toInt64) <<< (c1 &&& 0x3f).toInt64)) ||| ((p2.toInt64) <<< (c2 &&& 0x3f).toInt64))), .second, .val (.int (c2 + w2)), .val (.int (0 : Int32)), .val (.int (2 : Int32)), .val (.int w2), .val (.long (p2.toInt64)), .second]) rfl) ?_
        show Go p e below _ (T15.setTop (mkF m 64 #[.val (.ref aL), .val (.ref aV), .val (.ref aB), .val (.long ((((0 : Int64) ||| ((p0.toInt64) <<< ((0 : Int32) &&& 0x3f).toInt64)) ||| ((p1.toInt64) <<< (c1 &&& 0x3f).toInt64)) ||| ((p2.toInt64) <<< (c2 &&& 0x3f).toInt64))), .second, .val (.int (c2 + w2)), .val (.int (0 : Int32)), .val (.int (2 : Int32)), .val (.int w2), .val (.long (p2.toInt64)), .second] []))
        obtain ⟨c3, ec3⟩ : ∃ z, z = (c2 + w2) := ⟨_, rfl⟩
        rw [← ec3]
        have hc3 : c3.toInt = ((b0 + b1 + b2 : Nat) : Int) := by rw [ec3]; exact add_toInt hc2 hw2 (by omega)
        refine Go.st (fun _ => XS.iload X15.here hx rfl (hb hby d10_64) rfl) ?_
        show Go p e below _ (T15.setTop (mkF m 66 #[.val (.ref aL), .val (.ref aV), .val (.ref aB), .val (.long ((((0 : Int64) ||| ((p0.toInt64) <<< ((0 : Int32) &&& 0x3f).toInt64)) ||| ((p1.toInt64) <<< (c1 &&& 0x3f).toInt64)) ||| ((p2.toInt64) <<< (c2 &&& 0x3f).toInt64))), .second, .val (.int c3), .val (.int (0 : Int32)), .val (.int (2 : Int32)), .val (.int w2), .val (.long (p2.toInt64)), .second] [(.int c3)]))
        refine Go.st (fun _ => XS.bipush X15.here hx rfl (hb hby d10_66)) ?_
        by_cases hc19 : c3 < (64 : Int32)
        · refine Go.st (fun _ => XS.icmpYes X15.here hx rfl (pc0 := 68) (pc' := 91) rfl (hb hby d10_68) rfl (tlt hc19).1 (by decide) (by decide)) ?_
          refine Go.st (fun _ => XS.iinc X15.here hx rfl (hb hby d10_91) rfl (l' := #[.val (.ref aL), .val (.ref aV), .val (.ref aB), .val (.long ((((0 : Int64) ||| ((p0.toInt64) <<< ((0 : Int32) &&& 0x3f).toInt64)) ||| ((p1.toInt64) <<< (c1 &&& 0x3f).toInt64)) ||| ((p2.toInt64) <<< (c2 &&& 0x3f).toInt64))), .second, .val (.int c3), .val (.int (0 : Int32)), .val (.int (3 : Int32)), .val (.int w2), .val (.long (p2.toInt64)), .second]) rfl) ?_
          refine Go.st (fun _ => XS.goto X15.here hx rfl (pc0 := 94) (pc' := 11) rfl (hb hby d10_94) (by decide) (by decide)) ?_
          show Go p e below _ (T15.setTop (mkF m 11 #[.val (.ref aL), .val (.ref aV), .val (.ref aB), .val (.long ((((0 : Int64) ||| ((p0.toInt64) <<< ((0 : Int32) &&& 0x3f).toInt64)) ||| ((p1.toInt64) <<< (c1 &&& 0x3f).toInt64)) ||| ((p2.toInt64) <<< (c2 &&& 0x3f).toInt64))), .second, .val (.int c3), .val (.int (0 : Int32)), .val (.int (3 : Int32)), .val (.int w2), .val (.long (p2.toInt64)), .second] []))
          refine Go.st (fun _ => XS.iload X15.here hx rfl (hb hby d10_11) rfl) ?_
          refine Go.st (fun _ => XS.aloadN X15.here hx rfl (hb hby d10_13) rfl rfl) ?_
          obtain ⟨T20, X20, e20, st20⟩ := getF X15 hx hZ hown (host := "") (Or.inl (ww hw 45 rfl)) Via.refl e15 l1 (g := (mkF m 14 #[.val (.ref aL), .val (.ref aV), .val (.ref aB), .val (.long ((((0 : Int64) ||| ((p0.toInt64) <<< ((0 : Int32) &&& 0x3f).toInt64)) ||| ((p1.toInt64) <<< (c1 &&& 0x3f).toInt64)) ||| ((p2.toInt64) <<< (c2 &&& 0x3f).toInt64))), .second, .val (.int c3), .val (.int (0 : Int32)), .val (.int (3 : Int32)), .val (.int w2), .val (.long (p2.toInt64)), .second] [(.ref aL), (.int (3 : Int32))])) rfl rfl (hb hby d10_14)
          refine Go.st st20 ?_
          show Go p e below _ (T20.setTop (mkF m 17 #[.val (.ref aL), .val (.ref aV), .val (.ref aB), .val (.long ((((0 : Int64) ||| ((p0.toInt64) <<< ((0 : Int32) &&& 0x3f).toInt64)) ||| ((p1.toInt64) <<< (c1 &&& 0x3f).toInt64)) ||| ((p2.toInt64) <<< (c2 &&& 0x3f).toInt64))), .second, .val (.int c3), .val (.int (0 : Int32)), .val (.int (3 : Int32)), .val (.int w2), .val (.long (p2.toInt64)), .second] [(.ref aw), (.int (3 : Int32))]))
          obtain ⟨cl21, Ar21, qk21, Sz21, Nn21, Ha21, Ga21⟩ := id vw
          refine Go.st (fun _ => X20.arraylength hx (by rw [e20]; exact Ar21.1) (State.isArrayOf_alike hZ.alike Ar21.2.1) (g := (mkF m 17 #[.val (.ref aL), .val (.ref aV), .val (.ref aB), .val (.long ((((0 : Int64) ||| ((p0.toInt64) <<< ((0 : Int32) &&& 0x3f).toInt64)) ||| ((p1.toInt64) <<< (c1 &&& 0x3f).toInt64)) ||| ((p2.toInt64) <<< (c2 &&& 0x3f).toInt64))), .second, .val (.int c3), .val (.int (0 : Int32)), .val (.int (3 : Int32)), .val (.int w2), .val (.long (p2.toInt64)), .second] [(.ref aw), (.int (3 : Int32))])) rfl rfl (hb hby d10_17) _) ?_
          rw [len_of Sz21 Nn21]
          show Go p e below _ (T20.setTop (mkF m 18 #[.val (.ref aL), .val (.ref aV), .val (.ref aB), .val (.long ((((0 : Int64) ||| ((p0.toInt64) <<< ((0 : Int32) &&& 0x3f).toInt64)) ||| ((p1.toInt64) <<< (c1 &&& 0x3f).toInt64)) ||| ((p2.toInt64) <<< (c2 &&& 0x3f).toInt64))), .second, .val (.int c3), .val (.int (0 : Int32)), .val (.int (3 : Int32)), .val (.int w2), .val (.long (p2.toInt64)), .second] [(.int (3 : Int32)), (.int (3 : Int32))]))
          refine Go.st (fun _ => XS.icmpYes X20.here hx rfl (pc0 := 18) (pc' := 97) rfl (hb hby d10_18) rfl (flt (by decide : ¬ ((3 : Int32) < (3 : Int32)))).2.1 (by decide) (by decide)) ?_
          refine Go.st (fun _ => XS.iload X20.here hx rfl (hb hby d10_97) rfl) ?_
          by_cases hc22 : (0 : Int32) < c3
          · refine Go.st (fun _ => XS.ifNo X20.here hx rfl (hb hby d10_99) rfl ((if0 _ _).trans (tlt hc22).2.2.2)) ?_
            refine Go.st (fun _ => XS.aloadN X20.here hx rfl (hb hby d10_102) rfl rfl) ?_
            show Go p e below _ (T20.setTop (mkF m 103 #[.val (.ref aL), .val (.ref aV), .val (.ref aB), .val (.long ((((0 : Int64) ||| ((p0.toInt64) <<< ((0 : Int32) &&& 0x3f).toInt64)) ||| ((p1.toInt64) <<< (c1 &&& 0x3f).toInt64)) ||| ((p2.toInt64) <<< (c2 &&& 0x3f).toInt64))), .second, .val (.int c3), .val (.int (0 : Int32)), .val (.int (3 : Int32)), .val (.int w2), .val (.long (p2.toInt64)), .second] [(.ref aB)]))
            refine Go.st (fun _ => XS.iload X20.here hx rfl (hb hby d10_103) rfl) ?_
            refine Go.st (fun _ => XS.lloadN X20.here hx rfl (hb hby d10_105) rfl) ?_
            have hr23 := hc22
            rw [Int32.lt_iff_toInt_lt, hc3, show (0 : Int32).toInt = 0 from rfl] at hr23
            have hq24 := hc19
            rw [Int32.lt_iff_toInt_lt, hc3, show (64 : Int32).toInt = 64 from rfl] at hq24
            have bd0_24 : 0 ≤ ((0 : Int32)).toInt ∧ ((0 : Int32)).toInt < ((((b0 + b1 + b2 + 63) / 64) : Nat) : Int) := ⟨by decide, by rw [show ((0 : Int32)).toInt = 0 from rfl]; omega⟩
            obtain ⟨cl25, Ar25, hin25, hat25, Sz25, Nn25, Ha25⟩ := LAr_in vB (j := (0 : Int32)) bd0_24.1 bd0_24.2
            obtain ⟨T25, h25, X25, e25, W25, st25⟩ := stJ X20 hx hZ e20 Ar25 (j := (0 : Int32)) hin25 (g := (mkF m 106 #[.val (.ref aL), .val (.ref aV), .val (.ref aB), .val (.long ((((0 : Int64) ||| ((p0.toInt64) <<< ((0 : Int32) &&& 0x3f).toInt64)) ||| ((p1.toInt64) <<< (c1 &&& 0x3f).toInt64)) ||| ((p2.toInt64) <<< (c2 &&& 0x3f).toInt64))), .second, .val (.int c3), .val (.int (0 : Int32)), .val (.int (3 : Int32)), .val (.int w2), .val (.long (p2.toInt64)), .second] [(.long ((((0 : Int64) ||| ((p0.toInt64) <<< ((0 : Int32) &&& 0x3f).toInt64)) ||| ((p1.toInt64) <<< (c1 &&& 0x3f).toInt64)) ||| ((p2.toInt64) <<< (c2 &&& 0x3f).toInt64))), (.int (0 : Int32)), (.ref aB)])) rfl rfl (hb hby d10_106)
            refine Go.st st25 ?_
            have O26 := O0.wr W25 gB
            have E_27 := A1.wr W25
            have F28 := l1.other W25 (Or.inl (Ne.symm (LAr_exa vB A1 (ww hw 38 rfl))))
            have V_29 := vw.other W25 (Ne.symm (LAr_arv vB vw (fun q => nomatch q)))
            have V_30 := vV.other W25 (Ne.symm (LAr_arv vB vV (fun q => nomatch q)))
            have K31 := (Keep.refl h0 [aB]).wr W25 (Or.inl (List.mem_of_getElem? (i := 0) rfl))
            have VL32 : LAr Z h25 aB ((b0 + b1 + b2 + 63) / 64) (fun k => if k = ((0 : Int32)).toNatClampNeg then ((((0 : Int64) ||| ((p0.toInt64) <<< ((0 : Int32) &&& 0x3f).toInt64)) ||| ((p1.toInt64) <<< (c1 &&& 0x3f).toInt64)) ||| ((p2.toInt64) <<< (c2 &&& 0x3f).toInt64)) else g k) := LAr_set Ar25 Sz25 Nn25 Ha25 W25
            have N25 := Fr.snoc X25 N0 gB
            refine Go.st (fun _ => XS.iconst X25.here hx rfl (hb hby d10_107)) ?_
            show Go p e below _ (T25.setTop (mkF m 108 #[.val (.ref aL), .val (.ref aV), .val (.ref aB), .val (.long ((((0 : Int64) ||| ((p0.toInt64) <<< ((0 : Int32) &&& 0x3f).toInt64)) ||| ((p1.toInt64) <<< (c1 &&& 0x3f).toInt64)) ||| ((p2.toInt64) <<< (c2 &&& 0x3f).toInt64))), .second, .val (.int c3), .val (.int (0 : Int32)), .val (.int (3 : Int32)), .val (.int w2), .val (.long (p2.toInt64)), .second] [(.int (1 : Int32))]))
            have FT : own_fits b0 b1 b2 (p0, p1, p2) := ⟨(fit_of hp0 hw0 hb0).mp hc6, (fit_of hp1 hw1 hb1).mp hc12, (fit_of hp2 hw2 hb2).mp hc18⟩
            exact goRetN X25 hx hlk hret (t := .boolean) (by simp) (w := (1 : Int32)) (by decide) e25 (hb hby d10_108) (by decide) (by decide) ⟨_, rfl, N25, K31, _, VL32, Or.inr ⟨rfl, FT, enc_one (by omega) (fun i hi => enc_word hp0 hp1 hp2 FT.1 FT.2.1 FT.2.2 hc0 hc1 hc2 hb0 hb1 hi)⟩⟩
          · refine Go.st (fun _ => XS.ifYes X20.here hx rfl (pc0 := 99) (pc' := 107) rfl (hb hby d10_99) rfl ((if0 _ _).trans (flt hc22).2.2.2) (by decide) (by decide)) ?_
            refine Go.st (fun _ => XS.iconst X20.here hx rfl (hb hby d10_107)) ?_
            show Go p e below _ (T20.setTop (mkF m 108 #[.val (.ref aL), .val (.ref aV), .val (.ref aB), .val (.long ((((0 : Int64) ||| ((p0.toInt64) <<< ((0 : Int32) &&& 0x3f).toInt64)) ||| ((p1.toInt64) <<< (c1 &&& 0x3f).toInt64)) ||| ((p2.toInt64) <<< (c2 &&& 0x3f).toInt64))), .second, .val (.int c3), .val (.int (0 : Int32)), .val (.int (3 : Int32)), .val (.int w2), .val (.long (p2.toInt64)), .second] [(.int (1 : Int32))]))
            have FT : own_fits b0 b1 b2 (p0, p1, p2) := ⟨(fit_of hp0 hw0 hb0).mp hc6, (fit_of hp1 hw1 hb1).mp hc12, (fit_of hp2 hw2 hb2).mp hc18⟩
            have hz := hc22
            rw [Int32.lt_iff_toInt_lt, hc3, show (0 : Int32).toInt = 0 from rfl] at hz
            exact goRetN X20 hx hlk hret (t := .boolean) (by simp) (w := (1 : Int32)) (by decide) e20 (hb hby d10_108) (by decide) (by decide) ⟨_, rfl, N0, (Keep.refl h0 [aB]), _, vB, Or.inr ⟨rfl, FT, enc_none (by omega)⟩⟩
        · refine Go.st (fun _ => XS.icmpNo X15.here hx rfl (hb hby d10_68) rfl (flt hc19).1) ?_
          refine Go.st (fun _ => XS.aloadN X15.here hx rfl (hb hby d10_71) rfl rfl) ?_
          show Go p e below _ (T15.setTop (mkF m 72 #[.val (.ref aL), .val (.ref aV), .val (.ref aB), .val (.long ((((0 : Int64) ||| ((p0.toInt64) <<< ((0 : Int32) &&& 0x3f).toInt64)) ||| ((p1.toInt64) <<< (c1 &&& 0x3f).toInt64)) ||| ((p2.toInt64) <<< (c2 &&& 0x3f).toInt64))), .second, .val (.int c3), .val (.int (0 : Int32)), .val (.int (2 : Int32)), .val (.int w2), .val (.long (p2.toInt64)), .second] [(.ref aB)]))
          refine Go.st (fun _ => XS.iload X15.here hx rfl (hb hby d10_72) rfl) ?_
          refine Go.st (fun _ => XS.iinc X15.here hx rfl (hb hby d10_74) rfl (l' := #[.val (.ref aL), .val (.ref aV), .val (.ref aB), .val (.long ((((0 : Int64) ||| ((p0.toInt64) <<< ((0 : Int32) &&& 0x3f).toInt64)) ||| ((p1.toInt64) <<< (c1 &&& 0x3f).toInt64)) ||| ((p2.toInt64) <<< (c2 &&& 0x3f).toInt64))), .second, .val (.int c3), .val (.int (1 : Int32)), .val (.int (2 : Int32)), .val (.int w2), .val (.long (p2.toInt64)), .second]) rfl) ?_
          refine Go.st (fun _ => XS.lloadN X15.here hx rfl (hb hby d10_77) rfl) ?_
          have hq33 := hc19
          rw [Int32.lt_iff_toInt_lt, hc3, show (64 : Int32).toInt = 64 from rfl] at hq33
          have bd0_33 : 0 ≤ ((0 : Int32)).toInt ∧ ((0 : Int32)).toInt < ((((b0 + b1 + b2 + 63) / 64) : Nat) : Int) := ⟨by decide, by rw [show ((0 : Int32)).toInt = 0 from rfl]; omega⟩
          obtain ⟨cl34, Ar34, hin34, hat34, Sz34, Nn34, Ha34⟩ := LAr_in vB (j := (0 : Int32)) bd0_33.1 bd0_33.2
          obtain ⟨T34, h34, X34, e34, W34, st34⟩ := stJ X15 hx hZ e15 Ar34 (j := (0 : Int32)) hin34 (g := (mkF m 78 #[.val (.ref aL), .val (.ref aV), .val (.ref aB), .val (.long ((((0 : Int64) ||| ((p0.toInt64) <<< ((0 : Int32) &&& 0x3f).toInt64)) ||| ((p1.toInt64) <<< (c1 &&& 0x3f).toInt64)) ||| ((p2.toInt64) <<< (c2 &&& 0x3f).toInt64))), .second, .val (.int c3), .val (.int (1 : Int32)), .val (.int (2 : Int32)), .val (.int w2), .val (.long (p2.toInt64)), .second] [(.long ((((0 : Int64) ||| ((p0.toInt64) <<< ((0 : Int32) &&& 0x3f).toInt64)) ||| ((p1.toInt64) <<< (c1 &&& 0x3f).toInt64)) ||| ((p2.toInt64) <<< (c2 &&& 0x3f).toInt64))), (.int (0 : Int32)), (.ref aB)])) rfl rfl (hb hby d10_78)
          refine Go.st st34 ?_
          have O35 := O0.wr W34 gB
          have E_36 := A1.wr W34
          have F37 := l1.other W34 (Or.inl (Ne.symm (LAr_exa vB A1 (ww hw 38 rfl))))
          have V_38 := vw.other W34 (Ne.symm (LAr_arv vB vw (fun q => nomatch q)))
          have V_39 := vV.other W34 (Ne.symm (LAr_arv vB vV (fun q => nomatch q)))
          have K40 := (Keep.refl h0 [aB]).wr W34 (Or.inl (List.mem_of_getElem? (i := 0) rfl))
          have VL41 : LAr Z h34 aB ((b0 + b1 + b2 + 63) / 64) (fun k => if k = ((0 : Int32)).toNatClampNeg then ((((0 : Int64) ||| ((p0.toInt64) <<< ((0 : Int32) &&& 0x3f).toInt64)) ||| ((p1.toInt64) <<< (c1 &&& 0x3f).toInt64)) ||| ((p2.toInt64) <<< (c2 &&& 0x3f).toInt64)) else g k) := LAr_set Ar34 Sz34 Nn34 Ha34 W34
          have N34 := Fr.snoc X34 N0 gB
          show Go p e below _ (T34.setTop (mkF m 79 #[.val (.ref aL), .val (.ref aV), .val (.ref aB), .val (.long ((((0 : Int64) ||| ((p0.toInt64) <<< ((0 : Int32) &&& 0x3f).toInt64)) ||| ((p1.toInt64) <<< (c1 &&& 0x3f).toInt64)) ||| ((p2.toInt64) <<< (c2 &&& 0x3f).toInt64))), .second, .val (.int c3), .val (.int (1 : Int32)), .val (.int (2 : Int32)), .val (.int w2), .val (.long (p2.toInt64)), .second] []))
          refine Go.st (fun _ => XS.iinc X34.here hx rfl (hb hby d10_79) rfl (l' := #[.val (.ref aL), .val (.ref aV), .val (.ref aB), .val (.long ((((0 : Int64) ||| ((p0.toInt64) <<< ((0 : Int32) &&& 0x3f).toInt64)) ||| ((p1.toInt64) <<< (c1 &&& 0x3f).toInt64)) ||| ((p2.toInt64) <<< (c2 &&& 0x3f).toInt64))), .second, .val (.int (c3 + (-64 : Int32))), .val (.int (1 : Int32)), .val (.int (2 : Int32)), .val (.int w2), .val (.long (p2.toInt64)), .second]) rfl) ?_
          show Go p e below _ (T34.setTop (mkF m 82 #[.val (.ref aL), .val (.ref aV), .val (.ref aB), .val (.long ((((0 : Int64) ||| ((p0.toInt64) <<< ((0 : Int32) &&& 0x3f).toInt64)) ||| ((p1.toInt64) <<< (c1 &&& 0x3f).toInt64)) ||| ((p2.toInt64) <<< (c2 &&& 0x3f).toInt64))), .second, .val (.int (c3 + (-64 : Int32))), .val (.int (1 : Int32)), .val (.int (2 : Int32)), .val (.int w2), .val (.long (p2.toInt64)), .second] []))
          obtain ⟨c4, ec4⟩ : ∃ z, z = (c3 + (-64 : Int32)) := ⟨_, rfl⟩
          rw [← ec4]
          have hc4 : c4.toInt = ((b0 + b1 + b2 - 64 : Nat) : Int) := by rw [ec4, Int32.toInt_add, hc3, show (-64 : Int32).toInt = -64 from rfl, Int.bmod_eq_of_le (by omega) (by omega)]; omega
          refine Go.st (fun _ => XS.lload X34.here hx rfl (hb hby d10_82) rfl) ?_
          refine Go.st (fun _ => XS.iload X34.here hx rfl (hb hby d10_84) rfl) ?_
          refine Go.st (fun _ => XS.iload X34.here hx rfl (hb hby d10_86) rfl) ?_
          show Go p e below _ (T34.setTop (mkF m 88 #[.val (.ref aL), .val (.ref aV), .val (.ref aB), .val (.long ((((0 : Int64) ||| ((p0.toInt64) <<< ((0 : Int32) &&& 0x3f).toInt64)) ||| ((p1.toInt64) <<< (c1 &&& 0x3f).toInt64)) ||| ((p2.toInt64) <<< (c2 &&& 0x3f).toInt64))), .second, .val (.int c4), .val (.int (1 : Int32)), .val (.int (2 : Int32)), .val (.int w2), .val (.long (p2.toInt64)), .second] [(.int c4), (.int w2), (.long (p2.toInt64))]))
          refine Go.st (fun _ => XS.isub X34.here hx rfl (hb hby d10_88) rfl) ?_
          refine Go.st (fun _ => XS.lushr X34.here hx rfl (hb hby d10_89) rfl) ?_
          refine Go.st (fun _ => XS.lstoreN X34.here hx rfl (hb hby d10_90) rfl (l' := #[.val (.ref aL), .val (.ref aV), .val (.ref aB), .val (.long (((p2.toInt64).toUInt64 >>> ((w2 - c4) &&& 0x3f).toInt64.toUInt64).toInt64)), .second, .val (.int c4), .val (.int (1 : Int32)), .val (.int (2 : Int32)), .val (.int w2), .val (.long (p2.toInt64)), .second]) rfl) ?_
          refine Go.st (fun _ => XS.iinc X34.here hx rfl (hb hby d10_91) rfl (l' := #[.val (.ref aL), .val (.ref aV), .val (.ref aB), .val (.long (((p2.toInt64).toUInt64 >>> ((w2 - c4) &&& 0x3f).toInt64.toUInt64).toInt64)), .second, .val (.int c4), .val (.int (1 : Int32)), .val (.int (3 : Int32)), .val (.int w2), .val (.long (p2.toInt64)), .second]) rfl) ?_
          show Go p e below _ (T34.setTop (mkF m 94 #[.val (.ref aL), .val (.ref aV), .val (.ref aB), .val (.long (((p2.toInt64).toUInt64 >>> ((w2 - c4) &&& 0x3f).toInt64.toUInt64).toInt64)), .second, .val (.int c4), .val (.int (1 : Int32)), .val (.int (3 : Int32)), .val (.int w2), .val (.long (p2.toInt64)), .second] []))
          refine Go.st (fun _ => XS.goto X34.here hx rfl (pc0 := 94) (pc' := 11) rfl (hb hby d10_94) (by decide) (by decide)) ?_
          refine Go.st (fun _ => XS.iload X34.here hx rfl (hb hby d10_11) rfl) ?_
          refine Go.st (fun _ => XS.aloadN X34.here hx rfl (hb hby d10_13) rfl rfl) ?_
          obtain ⟨T42, X42, e42, st42⟩ := getF X34 hx hZ hown (host := "") (Or.inl (ww hw 45 rfl)) Via.refl e34 F37 (g := (mkF m 14 #[.val (.ref aL), .val (.ref aV), .val (.ref aB), .val (.long (((p2.toInt64).toUInt64 >>> ((w2 - c4) &&& 0x3f).toInt64.toUInt64).toInt64)), .second, .val (.int c4), .val (.int (1 : Int32)), .val (.int (3 : Int32)), .val (.int w2), .val (.long (p2.toInt64)), .second] [(.ref aL), (.int (3 : Int32))])) rfl rfl (hb hby d10_14)
          refine Go.st st42 ?_
          show Go p e below _ (T42.setTop (mkF m 17 #[.val (.ref aL), .val (.ref aV), .val (.ref aB), .val (.long (((p2.toInt64).toUInt64 >>> ((w2 - c4) &&& 0x3f).toInt64.toUInt64).toInt64)), .second, .val (.int c4), .val (.int (1 : Int32)), .val (.int (3 : Int32)), .val (.int w2), .val (.long (p2.toInt64)), .second] [(.ref aw), (.int (3 : Int32))]))
          obtain ⟨cl43, Ar43, qk43, Sz43, Nn43, Ha43, Ga43⟩ := id V_38
          refine Go.st (fun _ => X42.arraylength hx (by rw [e42]; exact Ar43.1) (State.isArrayOf_alike hZ.alike Ar43.2.1) (g := (mkF m 17 #[.val (.ref aL), .val (.ref aV), .val (.ref aB), .val (.long (((p2.toInt64).toUInt64 >>> ((w2 - c4) &&& 0x3f).toInt64.toUInt64).toInt64)), .second, .val (.int c4), .val (.int (1 : Int32)), .val (.int (3 : Int32)), .val (.int w2), .val (.long (p2.toInt64)), .second] [(.ref aw), (.int (3 : Int32))])) rfl rfl (hb hby d10_17) _) ?_
          rw [len_of Sz43 Nn43]
          show Go p e below _ (T42.setTop (mkF m 18 #[.val (.ref aL), .val (.ref aV), .val (.ref aB), .val (.long (((p2.toInt64).toUInt64 >>> ((w2 - c4) &&& 0x3f).toInt64.toUInt64).toInt64)), .second, .val (.int c4), .val (.int (1 : Int32)), .val (.int (3 : Int32)), .val (.int w2), .val (.long (p2.toInt64)), .second] [(.int (3 : Int32)), (.int (3 : Int32))]))
          refine Go.st (fun _ => XS.icmpYes X42.here hx rfl (pc0 := 18) (pc' := 97) rfl (hb hby d10_18) rfl (flt (by decide : ¬ ((3 : Int32) < (3 : Int32)))).2.1 (by decide) (by decide)) ?_
          refine Go.st (fun _ => XS.iload X42.here hx rfl (hb hby d10_97) rfl) ?_
          by_cases hc44 : (0 : Int32) < c4
          · refine Go.st (fun _ => XS.ifNo X42.here hx rfl (hb hby d10_99) rfl ((if0 _ _).trans (tlt hc44).2.2.2)) ?_
            refine Go.st (fun _ => XS.aloadN X42.here hx rfl (hb hby d10_102) rfl rfl) ?_
            show Go p e below _ (T42.setTop (mkF m 103 #[.val (.ref aL), .val (.ref aV), .val (.ref aB), .val (.long (((p2.toInt64).toUInt64 >>> ((w2 - c4) &&& 0x3f).toInt64.toUInt64).toInt64)), .second, .val (.int c4), .val (.int (1 : Int32)), .val (.int (3 : Int32)), .val (.int w2), .val (.long (p2.toInt64)), .second] [(.ref aB)]))
            refine Go.st (fun _ => XS.iload X42.here hx rfl (hb hby d10_103) rfl) ?_
            refine Go.st (fun _ => XS.lloadN X42.here hx rfl (hb hby d10_105) rfl) ?_
            have hr45 := hc44
            rw [Int32.lt_iff_toInt_lt, hc4, show (0 : Int32).toInt = 0 from rfl] at hr45
            have bd1_45 : 0 ≤ ((1 : Int32)).toInt ∧ ((1 : Int32)).toInt < ((((b0 + b1 + b2 + 63) / 64) : Nat) : Int) := ⟨by decide, by rw [show ((1 : Int32)).toInt = 1 from rfl]; omega⟩
            obtain ⟨cl46, Ar46, hin46, hat46, Sz46, Nn46, Ha46⟩ := LAr_in VL41 (j := (1 : Int32)) bd1_45.1 bd1_45.2
            obtain ⟨T46, h46, X46, e46, W46, st46⟩ := stJ X42 hx hZ e42 Ar46 (j := (1 : Int32)) hin46 (g := (mkF m 106 #[.val (.ref aL), .val (.ref aV), .val (.ref aB), .val (.long (((p2.toInt64).toUInt64 >>> ((w2 - c4) &&& 0x3f).toInt64.toUInt64).toInt64)), .second, .val (.int c4), .val (.int (1 : Int32)), .val (.int (3 : Int32)), .val (.int w2), .val (.long (p2.toInt64)), .second] [(.long (((p2.toInt64).toUInt64 >>> ((w2 - c4) &&& 0x3f).toInt64.toUInt64).toInt64)), (.int (1 : Int32)), (.ref aB)])) rfl rfl (hb hby d10_106)
            refine Go.st st46 ?_
            have O47 := O35.wr W46 gB
            have E_48 := E_36.wr W46
            have F49 := F37.other W46 (Or.inl (Ne.symm (LAr_exa VL41 E_36 (ww hw 38 rfl))))
            have V_50 := V_38.other W46 (Ne.symm (LAr_arv VL41 V_38 (fun q => nomatch q)))
            have V_51 := V_39.other W46 (Ne.symm (LAr_arv VL41 V_39 (fun q => nomatch q)))
            have K52 := K40.wr W46 (Or.inl (List.mem_of_getElem? (i := 0) rfl))
            have VL53 : LAr Z h46 aB ((b0 + b1 + b2 + 63) / 64) (fun k => if k = ((1 : Int32)).toNatClampNeg then (((p2.toInt64).toUInt64 >>> ((w2 - c4) &&& 0x3f).toInt64.toUInt64).toInt64) else (fun k => if k = ((0 : Int32)).toNatClampNeg then ((((0 : Int64) ||| ((p0.toInt64) <<< ((0 : Int32) &&& 0x3f).toInt64)) ||| ((p1.toInt64) <<< (c1 &&& 0x3f).toInt64)) ||| ((p2.toInt64) <<< (c2 &&& 0x3f).toInt64)) else g k) k) := LAr_set Ar46 Sz46 Nn46 Ha46 W46
            have N46 := Fr.snoc X46 N34 gB
            refine Go.st (fun _ => XS.iconst X46.here hx rfl (hb hby d10_107)) ?_
            show Go p e below _ (T46.setTop (mkF m 108 #[.val (.ref aL), .val (.ref aV), .val (.ref aB), .val (.long (((p2.toInt64).toUInt64 >>> ((w2 - c4) &&& 0x3f).toInt64.toUInt64).toInt64)), .second, .val (.int c4), .val (.int (1 : Int32)), .val (.int (3 : Int32)), .val (.int w2), .val (.long (p2.toInt64)), .second] [(.int (1 : Int32))]))
            have FT : own_fits b0 b1 b2 (p0, p1, p2) := ⟨(fit_of hp0 hw0 hb0).mp hc6, (fit_of hp1 hw1 hb1).mp hc12, (fit_of hp2 hw2 hb2).mp hc18⟩
            exact goRetN X46 hx hlk hret (t := .boolean) (by simp) (w := (1 : Int32)) (by decide) e46 (hb hby d10_108) (by decide) (by decide) ⟨_, rfl, N46, K52, _, VL53, Or.inr ⟨rfl, FT, enc_two (by omega) (fun i hi => enc_word hp0 hp1 hp2 FT.1 FT.2.1 FT.2.2 hc0 hc1 hc2 hb0 hb1 hi) (fun i h1 h2 => enc_spill hp2 FT.2.2 hw2 hc4 (by omega) hb0 hb1 hb2 h1 h2)⟩⟩
          · refine Go.st (fun _ => XS.ifYes X42.here hx rfl (pc0 := 99) (pc' := 107) rfl (hb hby d10_99) rfl ((if0 _ _).trans (flt hc44).2.2.2) (by decide) (by decide)) ?_
            refine Go.st (fun _ => XS.iconst X42.here hx rfl (hb hby d10_107)) ?_
            show Go p e below _ (T42.setTop (mkF m 108 #[.val (.ref aL), .val (.ref aV), .val (.ref aB), .val (.long (((p2.toInt64).toUInt64 >>> ((w2 - c4) &&& 0x3f).toInt64.toUInt64).toInt64)), .second, .val (.int c4), .val (.int (1 : Int32)), .val (.int (3 : Int32)), .val (.int w2), .val (.long (p2.toInt64)), .second] [(.int (1 : Int32))]))
            have FT : own_fits b0 b1 b2 (p0, p1, p2) := ⟨(fit_of hp0 hw0 hb0).mp hc6, (fit_of hp1 hw1 hb1).mp hc12, (fit_of hp2 hw2 hb2).mp hc18⟩
            have hz := hc44
            rw [Int32.lt_iff_toInt_lt, hc4, show (0 : Int32).toInt = 0 from rfl] at hz
            exact goRetN X42 hx hlk hret (t := .boolean) (by simp) (w := (1 : Int32)) (by decide) e42 (hb hby d10_108) (by decide) (by decide) ⟨_, rfl, N34, K40, _, VL41, Or.inr ⟨rfl, FT, enc_one (by omega) (fun i hi => enc_word hp0 hp1 hp2 FT.1 FT.2.1 FT.2.2 hc0 hc1 hc2 hb0 hb1 hi)⟩⟩
      · refine Go.st (fun _ => XS.ifNo X15.here hx rfl (hb hby d10_44) rfl ((if0 _ _).trans (feq (fun q => hc18 ((lw_eq _ _).mp q))).1)) ?_
        refine Go.st (fun _ => XS.iconst X15.here hx rfl (hb hby d10_47)) ?_
        show Go p e below _ (T15.setTop (mkF m 48 #[.val (.ref aL), .val (.ref aV), .val (.ref aB), .val (.long (((0 : Int64) ||| ((p0.toInt64) <<< ((0 : Int32) &&& 0x3f).toInt64)) ||| ((p1.toInt64) <<< (c1 &&& 0x3f).toInt64))), .second, .val (.int c2), .val (.int (0 : Int32)), .val (.int (2 : Int32)), .val (.int w2), .val (.long (p2.toInt64)), .second] [(.int (0 : Int32))]))
        exact goRetN X15 hx hlk hret (t := .boolean) (by simp) (w := (0 : Int32)) (by decide) e15 (hb hby d10_48) (by decide) (by decide) ⟨_, rfl, N0, (Keep.refl h0 [aB]), _, vB, Or.inl ⟨rfl, fun q => hc18 ((fit_of hp2 hw2 hb2).mpr q.2.2)⟩⟩
    · refine Go.st (fun _ => XS.ifNo X9.here hx rfl (hb hby d10_44) rfl ((if0 _ _).trans (feq (fun q => hc12 ((lw_eq _ _).mp q))).1)) ?_
      refine Go.st (fun _ => XS.iconst X9.here hx rfl (hb hby d10_47)) ?_
      show Go p e below _ (T9.setTop (mkF m 48 #[.val (.ref aL), .val (.ref aV), .val (.ref aB), .val (.long ((0 : Int64) ||| ((p0.toInt64) <<< ((0 : Int32) &&& 0x3f).toInt64))), .second, .val (.int c1), .val (.int (0 : Int32)), .val (.int (1 : Int32)), .val (.int w1), .val (.long (p1.toInt64)), .second] [(.int (0 : Int32))]))
      exact goRetN X9 hx hlk hret (t := .boolean) (by simp) (w := (0 : Int32)) (by decide) e9 (hb hby d10_48) (by decide) (by decide) ⟨_, rfl, N0, (Keep.refl h0 [aB]), _, vB, Or.inl ⟨rfl, fun q => hc12 ((fit_of hp1 hw1 hb1).mpr q.2.1)⟩⟩
  · refine Go.st (fun _ => XS.ifNo X3.here hx rfl (hb hby d10_44) rfl ((if0 _ _).trans (feq (fun q => hc6 ((lw_eq _ _).mp q))).1)) ?_
    refine Go.st (fun _ => XS.iconst X3.here hx rfl (hb hby d10_47)) ?_
    show Go p e below _ (T3.setTop (mkF m 48 #[.val (.ref aL), .val (.ref aV), .val (.ref aB), .val (.long (0 : Int64)), .second, .val (.int (0 : Int32)), .val (.int (0 : Int32)), .val (.int (0 : Int32)), .val (.int w0), .val (.long (p0.toInt64)), .second] [(.int (0 : Int32))]))
    exact goRetN X3 hx hlk hret (t := .boolean) (by simp) (w := (0 : Int32)) (by decide) e3 (hb hby d10_48) (by decide) (by decide) ⟨_, rfl, N0, (Keep.refl h0 [aB]), _, vB, Or.inl ⟨rfl, fun q => hc6 ((fit_of hp0 hw0 hb0).mpr q.1)⟩⟩
theorem d12_0 : decode prog_28_method_2_code 0 = .ok (.aload_n 0, 1) := by decide +kernel
theorem d12_1 : decode prog_28_method_2_code 1 = .ok (.getfield 37, 3) := by decide +kernel
theorem d12_4 : decode prog_28_method_2_code 4 = .ok (.newarray .long, 2) := by decide +kernel
theorem d12_6 : decode prog_28_method_2_code 6 = .ok (.areturn, 1) := by decide +kernel
theorem pn_12 : plainName "com/example/traza/traza/PackedRows$Layout" = true := by first | (simp [plainName, overriddenIn]; done) | decide +kernel
set_option maxRecDepth 65536 in
set_option maxHeartbeats 40000000 in
theorem rm_nc (l : Launch) (Z : State) (a0 : Array Value) (hw : ∀ d ∈ tables_1, d.before a0 Z = true) (ws : List Jvm.Cond) (aL : Addr) (w0 w1 w2 rb wd cw : Int32) (b0 b1 b2 : Nat) (h0 : Heap) (n0 : Nat) (O0 : Old Z n0 h0) (l4 : Fld Z h0 aL "com/example/traza/traza/PackedRows$Layout" "chunkWords" "I" (.int cw)) (hW : own_wid w0 w1 w2 rb wd cw b0 b1 b2) :
    Ctr l (⟨"com/example/traza/traza/PackedRows$Layout", "newChunk", "()[J"⟩ : MethodName) prog_28_method_2_code 1 (some (.array .long)) ws ({ frames := 0, cells := 1, slots := 5952, locals := 0 } : Room) #[(.ref aL)] Z h0 (fun v h L => ∃ c, v = some (.ref c) ∧ Fr n0 L ∧ Keep h0 h [] ∧ h0.size ≤ c ∧ Exa Z h c "[J" ∧ LAr Z h c (64 * (b0 + b1 + b2)) (fun _ => (0 : Int64))) := by
  have ef : ∀ m : MethodId, entryFrame m #[(.ref aL)] 1 = mkF m 0 #[.val (.ref aL)] [] := fun m => by first | (simp [entryFrame, mkF, argsToLocals, Value.category]; done) | rfl
  refine Ctr.of (plainFor_of_name pn_12) ?_
  intro p e s m below meth c s₁ hx hZ hby hml hown0 hnm hret hlk X0 e0
  have hown : s.vm.findClass "com/example/traza/traza/PackedRows$Layout" = some m.cls := hown0
  have N0 := Fr.nil n0
  refine Go.st (fun t k => castTop (ef m) k) ?_
  obtain ⟨hw0, hw1, hw2, hb0, hb1, hb2, hrb, hwd, hcw⟩ := hW
  have hle : 64 * (b0 + b1 + b2) ≤ 5952 := by omega
  refine Go.st (fun _ => XS.aloadN X0.here hx rfl (hb hby d12_0) rfl rfl) ?_
  obtain ⟨T1, X1, e1, st1⟩ := getF X0 hx hZ hown (host := "") (Or.inl (ww hw 55 rfl)) Via.refl e0 l4 (g := (mkF m 1 #[.val (.ref aL)] [(.ref aL)])) rfl rfl (hb hby d12_1)
  refine Go.st st1 ?_
  obtain ⟨T2, h2, k2, X2, e2, E2, A2, B2, st2⟩ := newPE X1 hx hZ (ww hw 60 rfl) e1 (g := (mkF m 4 #[.val (.ref aL)] [(.int cw)])) rfl (hb hby d12_4) rfl (len_cap hcw hle).1 (cap := 5952) (len_cap hcw hle).2 (by decide) (by decide) (by decide) (ad := "[J") rfl
  obtain ⟨ad2, g2⟩ : ∃ z, z = h0.size := ⟨_, rfl⟩
  rw [← g2] at A2 B2 st2
  refine Go.st st2 ?_
  have gn2 : n0 ≤ ad2 := oldGe O0 g2
  have sz2 : h0.size ≤ ad2 := Nat.le_trans (Keep.refl h0 []).1 (Nat.le_of_eq g2.symm)
  have ne3 : aL ≠ ad2 := Nat.ne_of_lt (Nat.lt_of_lt_of_le l4.lt (Nat.le_of_eq g2.symm))
  have O4 := O0.ext E2
  have F5 := l4.ext E2
  have K6 := (Keep.refl h0 []).ext E2
  have VL7 : LAr Z h2 ad2 (64 * (b0 + b1 + b2)) (fun _ => (0 : Int64)) := LAr_new A2 hcw
  show Go p e below _ (T2.setTop (mkF m 6 #[.val (.ref aL)] [(.ref ad2)]))
  exact goRetA X2 hx hlk hret rfl rfl rfl e2 (hb hby d12_6) (by decide) (by decide) ⟨_, rfl, N0, K6, sz2, B2, VL7⟩
theorem d13_0 : decode prog_28_method_4_code 0 = .ok (.iload_n 2, 1) := by decide +kernel
theorem d13_1 : decode prog_28_method_4_code 1 = .ok (.i2l, 1) := by decide +kernel
theorem d13_2 : decode prog_28_method_4_code 2 = .ok (.aload_n 0, 1) := by decide +kernel
theorem d13_3 : decode prog_28_method_4_code 3 = .ok (.getfield 26, 3) := by decide +kernel
theorem d13_6 : decode prog_28_method_4_code 6 = .ok (.i2l, 1) := by decide +kernel
theorem d13_7 : decode prog_28_method_4_code 7 = .ok (.lmul, 1) := by decide +kernel
theorem d13_8 : decode prog_28_method_4_code 8 = .ok (.lstore 4, 2) := by decide +kernel
theorem d13_10 : decode prog_28_method_4_code 10 = .ok (.iconst 0, 1) := by decide +kernel
theorem d13_11 : decode prog_28_method_4_code 11 = .ok (.istore 6, 2) := by decide +kernel
theorem d13_13 : decode prog_28_method_4_code 13 = .ok (.iload 6, 2) := by decide +kernel
theorem d13_15 : decode prog_28_method_4_code 15 = .ok (.aload_n 0, 1) := by decide +kernel
theorem d13_16 : decode prog_28_method_4_code 16 = .ok (.getfield 34, 3) := by decide +kernel
theorem d13_19 : decode prog_28_method_4_code 19 = .ok (.if_icmp .ge 93, 3) := by decide +kernel
theorem d13_22 : decode prog_28_method_4_code 22 = .ok (.lload 4, 2) := by decide +kernel
theorem d13_24 : decode prog_28_method_4_code 24 = .ok (.ldc2_w 40, 3) := by decide +kernel
theorem d13_27 : decode prog_28_method_4_code 27 = .ok (.iload 6, 2) := by decide +kernel
theorem d13_29 : decode prog_28_method_4_code 29 = .ok (.i2l, 1) := by decide +kernel
theorem d13_30 : decode prog_28_method_4_code 30 = .ok (.lmul, 1) := by decide +kernel
theorem d13_31 : decode prog_28_method_4_code 31 = .ok (.ladd, 1) := by decide +kernel
theorem d13_32 : decode prog_28_method_4_code 32 = .ok (.lstore 7, 2) := by decide +kernel
theorem d13_34 : decode prog_28_method_4_code 34 = .ok (.lload 7, 2) := by decide +kernel
theorem d13_36 : decode prog_28_method_4_code 36 = .ok (.bipush 6, 2) := by decide +kernel
theorem d13_38 : decode prog_28_method_4_code 38 = .ok (.lushr, 1) := by decide +kernel
theorem d13_39 : decode prog_28_method_4_code 39 = .ok (.l2i, 1) := by decide +kernel
theorem d13_40 : decode prog_28_method_4_code 40 = .ok (.istore 9, 2) := by decide +kernel
theorem d13_42 : decode prog_28_method_4_code 42 = .ok (.lload 7, 2) := by decide +kernel
theorem d13_44 : decode prog_28_method_4_code 44 = .ok (.l2i, 1) := by decide +kernel
theorem d13_45 : decode prog_28_method_4_code 45 = .ok (.bipush 63, 2) := by decide +kernel
theorem d13_47 : decode prog_28_method_4_code 47 = .ok (.iand, 1) := by decide +kernel
theorem d13_48 : decode prog_28_method_4_code 48 = .ok (.istore 10, 2) := by decide +kernel
theorem d13_50 : decode prog_28_method_4_code 50 = .ok (.aload_n 1, 1) := by decide +kernel
theorem d13_51 : decode prog_28_method_4_code 51 = .ok (.iload 9, 2) := by decide +kernel
theorem d13_53 : decode prog_28_method_4_code 53 = .ok (.dup2, 1) := by decide +kernel
theorem d13_54 : decode prog_28_method_4_code 54 = .ok (.laload, 1) := by decide +kernel
theorem d13_55 : decode prog_28_method_4_code 55 = .ok (.aload_n 3, 1) := by decide +kernel
theorem d13_56 : decode prog_28_method_4_code 56 = .ok (.iload 6, 2) := by decide +kernel
theorem d13_58 : decode prog_28_method_4_code 58 = .ok (.laload, 1) := by decide +kernel
theorem d13_59 : decode prog_28_method_4_code 59 = .ok (.iload 10, 2) := by decide +kernel
theorem d13_61 : decode prog_28_method_4_code 61 = .ok (.lshl, 1) := by decide +kernel
theorem d13_62 : decode prog_28_method_4_code 62 = .ok (.lor, 1) := by decide +kernel
theorem d13_63 : decode prog_28_method_4_code 63 = .ok (.lastore, 1) := by decide +kernel
theorem d13_64 : decode prog_28_method_4_code 64 = .ok (.iload 10, 2) := by decide +kernel
theorem d13_66 : decode prog_28_method_4_code 66 = .ok (.bipush 64, 2) := by decide +kernel
theorem d13_68 : decode prog_28_method_4_code 68 = .ok (.aload_n 0, 1) := by decide +kernel
theorem d13_69 : decode prog_28_method_4_code 69 = .ok (.getfield 26, 3) := by decide +kernel
theorem d13_72 : decode prog_28_method_4_code 72 = .ok (.bipush 64, 2) := by decide +kernel
theorem d13_74 : decode prog_28_method_4_code 74 = .ok (.iload 6, 2) := by decide +kernel
theorem d13_76 : decode prog_28_method_4_code 76 = .ok (.imul, 1) := by decide +kernel
theorem d13_77 : decode prog_28_method_4_code 77 = .ok (.isub, 1) := by decide +kernel
theorem d13_78 : decode prog_28_method_4_code 78 = .ok (.invokestatic 42, 3) := by decide +kernel
theorem d13_81 : decode prog_28_method_4_code 81 = .ok (.iadd, 1) := by decide +kernel
theorem d13_82 : decode prog_28_method_4_code 82 = .ok (.bipush 64, 2) := by decide +kernel
theorem d13_84 : decode prog_28_method_4_code 84 = .ok (.if_icmp .le 22, 3) := by decide +kernel
theorem d13_87 : decode prog_28_method_4_code 87 = .ok (.aload_n 1, 1) := by decide +kernel
theorem d13_88 : decode prog_28_method_4_code 88 = .ok (.iload 9, 2) := by decide +kernel
theorem d13_90 : decode prog_28_method_4_code 90 = .ok (.iconst 1, 1) := by decide +kernel
theorem d13_91 : decode prog_28_method_4_code 91 = .ok (.iadd, 1) := by decide +kernel
theorem d13_92 : decode prog_28_method_4_code 92 = .ok (.dup2, 1) := by decide +kernel
theorem d13_93 : decode prog_28_method_4_code 93 = .ok (.laload, 1) := by decide +kernel
theorem d13_94 : decode prog_28_method_4_code 94 = .ok (.aload_n 3, 1) := by decide +kernel
theorem d13_95 : decode prog_28_method_4_code 95 = .ok (.iload 6, 2) := by decide +kernel
theorem d13_97 : decode prog_28_method_4_code 97 = .ok (.laload, 1) := by decide +kernel
theorem d13_98 : decode prog_28_method_4_code 98 = .ok (.bipush 64, 2) := by decide +kernel
theorem d13_100 : decode prog_28_method_4_code 100 = .ok (.iload 10, 2) := by decide +kernel
theorem d13_102 : decode prog_28_method_4_code 102 = .ok (.isub, 1) := by decide +kernel
theorem d13_103 : decode prog_28_method_4_code 103 = .ok (.lushr, 1) := by decide +kernel
theorem d13_104 : decode prog_28_method_4_code 104 = .ok (.lor, 1) := by decide +kernel
theorem d13_105 : decode prog_28_method_4_code 105 = .ok (.lastore, 1) := by decide +kernel
theorem d13_106 : decode prog_28_method_4_code 106 = .ok (.iinc 6 1, 3) := by decide +kernel
theorem d13_109 : decode prog_28_method_4_code 109 = .ok (.goto (-96), 3) := by decide +kernel
theorem d13_112 : decode prog_28_method_4_code 112 = .ok (.return_, 1) := by decide +kernel
theorem pn_13 : plainName "com/example/traza/traza/PackedRows$Layout" = true := by first | (simp [plainName, overriddenIn]; done) | decide +kernel
set_option maxRecDepth 65536 in
set_option maxHeartbeats 40000000 in
theorem rm_put (l : Launch) (Z : State) (a0 : Array Value) (hw : ∀ d ∈ tables_1, d.before a0 Z = true) (ws : List Jvm.Cond) (aL aC aB : Addr) (p2 : Int32) (r : Nat) (w0 w1 w2 rb wd cw : Int32) (b0 b1 b2 : Nat) (f g : Nat → Int64) (h0 : Heap) (n0 : Nat) (O0 : Old Z n0 h0) (A1 : Exa Z h0 aL "com/example/traza/traza/PackedRows$Layout") (l2 : Fld Z h0 aL "com/example/traza/traza/PackedRows$Layout" "rowBits" "I" (.int rb)) (l3 : Fld Z h0 aL "com/example/traza/traza/PackedRows$Layout" "words" "I" (.int wd)) (vC : LAr Z h0 aC (64 * (b0 + b1 + b2)) f) (vB : LAr Z h0 aB ((b0 + b1 + b2 + 63) / 64) g) (neCB : aC ≠ aB) (gC : n0 ≤ aC) (hW : own_wid w0 w1 w2 rb wd cw b0 b1 b2) (hr : p2.toInt = (r : Nat)) (hr2 : r ≤ 2) (hg : ∀ i, b0 + b1 + b2 ≤ i → i < 64 * ((b0 + b1 + b2 + 63) / 64) → cb g i = false) :
    Ctr l (⟨"com/example/traza/traza/PackedRows$Layout", "put", "([JI[J)V"⟩ : MethodName) prog_28_method_4_code 11 none ws ({ frames := 1, cells := 0, slots := 0, locals := 14 } : Room) #[(.ref aL), (.ref aC), (.int p2), (.ref aB)] Z h0 (fun v h L => v = none ∧ Fr n0 L ∧ Keep h0 h [aC] ∧ ∃ f', LAr Z h aC (64 * (b0 + b1 + b2)) f' ∧ own_put f g (r * (b0 + b1 + b2)) ((b0 + b1 + b2 + 63) / 64) f') := by
  have ef : ∀ m : MethodId, entryFrame m #[(.ref aL), (.ref aC), (.int p2), (.ref aB)] 11 = mkF m 0 #[.val (.ref aL), .val (.ref aC), .val (.int p2), .val (.ref aB), .unset, .unset, .unset, .unset, .unset, .unset, .unset] [] := fun m => by first | (simp [entryFrame, mkF, argsToLocals, Value.category]; done) | rfl
  refine Ctr.of (plainFor_of_name pn_13) ?_
  intro p e s m below meth c s₁ hx hZ hby hml hown0 hnm hret hlk X0 e0
  have hown : s.vm.findClass "com/example/traza/traza/PackedRows$Layout" = some m.cls := hown0
  have N0 := Fr.nil n0
  refine Go.st (fun t k => castTop (ef m) k) ?_
  obtain ⟨hw0, hw1, hw2, hb0, hb1, hb2, hrb, hwd, hcw⟩ := hW
  have hT : b0 + b1 + b2 ≤ 93 := by omega
  have hs0 := own_start hr hrb hr2 hT
  have hsl : r * (b0 + b1 + b2) ≤ 186 := Nat.le_trans (Nat.mul_le_mul hr2 hT) (by decide)
  have hm2 : ((b0 + b1 + b2 + 63) / 64) ≤ 2 := by omega
  obtain ⟨sr, esr⟩ : ∃ z, z = r * (b0 + b1 + b2) := ⟨_, rfl⟩
  rw [← esr] at hs0 hsl ⊢
  have I_0 : own_put f g sr 0 f := put_zero
  refine Go.st (fun _ => XS.iloadN X0.here hx rfl (hb hby d13_0) rfl) ?_
  refine Go.st (fun _ => XS.i2l X0.here hx rfl (hb hby d13_1) rfl) ?_
  refine Go.st (fun _ => XS.aloadN X0.here hx rfl (hb hby d13_2) rfl rfl) ?_
  show Go p e below _ (s₁.setTop (mkF m 3 #[.val (.ref aL), .val (.ref aC), .val (.int p2), .val (.ref aB), .unset, .unset, .unset, .unset, .unset, .unset, .unset] [(.ref aL), (.long (p2.toInt64))]))
  obtain ⟨T1, X1, e1, st1⟩ := getF X0 hx hZ hown (host := "") (Or.inl (ww hw 47 rfl)) Via.refl e0 l2 (g := (mkF m 3 #[.val (.ref aL), .val (.ref aC), .val (.int p2), .val (.ref aB), .unset, .unset, .unset, .unset, .unset, .unset, .unset] [(.ref aL), (.long (p2.toInt64))])) rfl rfl (hb hby d13_3)
  refine Go.st st1 ?_
  refine Go.st (fun _ => XS.i2l X1.here hx rfl (hb hby d13_6) rfl) ?_
  refine Go.st (fun _ => XS.lmul X1.here hx rfl (hb hby d13_7) rfl) ?_
  refine Go.st (fun _ => XS.lstore X1.here hx rfl (hb hby d13_8) rfl (l' := #[.val (.ref aL), .val (.ref aC), .val (.int p2), .val (.ref aB), .val (.long ((p2.toInt64) * (rb.toInt64))), .second, .unset, .unset, .unset, .unset, .unset]) rfl) ?_
  show Go p e below _ (T1.setTop (mkF m 10 #[.val (.ref aL), .val (.ref aC), .val (.int p2), .val (.ref aB), .val (.long ((p2.toInt64) * (rb.toInt64))), .second, .unset, .unset, .unset, .unset, .unset] []))
  obtain ⟨qst, eqst⟩ : ∃ z, z = ((p2.toInt64) * (rb.toInt64)) := ⟨_, rfl⟩
  rw [← eqst]
  rw [← eqst] at hs0
  show Go p e below _ (T1.setTop (mkF m 10 #[.val (.ref aL), .val (.ref aC), .val (.int p2), .val (.ref aB), .val (.long qst), .second, .unset, .unset, .unset, .unset, .unset] []))
  refine Go.st (fun _ => XS.iconst X1.here hx rfl (hb hby d13_10)) ?_
  refine Go.st (fun _ => XS.istore X1.here hx rfl (hb hby d13_11) rfl (l' := #[.val (.ref aL), .val (.ref aC), .val (.int p2), .val (.ref aB), .val (.long qst), .second, .val (.int (0 : Int32)), .unset, .unset, .unset, .unset]) rfl) ?_
  refine Go.st (fun _ => XS.iload X1.here hx rfl (hb hby d13_13) rfl) ?_
  refine Go.st (fun _ => XS.aloadN X1.here hx rfl (hb hby d13_15) rfl rfl) ?_
  show Go p e below _ (T1.setTop (mkF m 16 #[.val (.ref aL), .val (.ref aC), .val (.int p2), .val (.ref aB), .val (.long qst), .second, .val (.int (0 : Int32)), .unset, .unset, .unset, .unset] [(.ref aL), (.int (0 : Int32))]))
  obtain ⟨T2, X2, e2, st2⟩ := getF X1 hx hZ hown (host := "") (Or.inl (ww hw 53 rfl)) Via.refl e1 l3 (g := (mkF m 16 #[.val (.ref aL), .val (.ref aC), .val (.int p2), .val (.ref aB), .val (.long qst), .second, .val (.int (0 : Int32)), .unset, .unset, .unset, .unset] [(.ref aL), (.int (0 : Int32))])) rfl rfl (hb hby d13_16)
  refine Go.st st2 ?_
  by_cases hc3 : (0 : Int32) < wd
  · refine Go.st (fun _ => XS.icmpNo X2.here hx rfl (hb hby d13_19) rfl (tlt hc3).2.1) ?_
    have hn4 := hc3
    rw [Int32.lt_iff_toInt_lt, hwd, show ((0 : Int32)).toInt = 0 from rfl] at hn4
    have hk0 : 0 < ((b0 + b1 + b2 + 63) / 64) := by omega
    refine Go.st (fun _ => XS.lload X2.here hx rfl (hb hby d13_22) rfl) ?_
    refine Go.st (fun _ => X2.ldc2Long hx hown (mvT hZ (ww hw 93 rfl)) (g := (mkF m 24 #[.val (.ref aL), .val (.ref aC), .val (.int p2), .val (.ref aB), .val (.long qst), .second, .val (.int (0 : Int32)), .unset, .unset, .unset, .unset] [(.long qst)])) rfl (hb hby d13_24) _) ?_
    show Go p e below _ (T2.setTop (mkF m 27 #[.val (.ref aL), .val (.ref aC), .val (.int p2), .val (.ref aB), .val (.long qst), .second, .val (.int (0 : Int32)), .unset, .unset, .unset, .unset] [(.long (64 : Int64)), (.long qst)]))
    refine Go.st (fun _ => XS.iload X2.here hx rfl (hb hby d13_27) rfl) ?_
    refine Go.st (fun _ => XS.i2l X2.here hx rfl (hb hby d13_29) rfl) ?_
    refine Go.st (fun _ => XS.lmul X2.here hx rfl (hb hby d13_30) rfl) ?_
    refine Go.st (fun _ => XS.ladd X2.here hx rfl (hb hby d13_31) rfl) ?_
    show Go p e below _ (T2.setTop (mkF m 32 #[.val (.ref aL), .val (.ref aC), .val (.int p2), .val (.ref aB), .val (.long qst), .second, .val (.int (0 : Int32)), .unset, .unset, .unset, .unset] [(.long (qst + ((64 : Int64) * ((0 : Int32).toInt64))))]))
    refine Go.st (fun _ => XS.lstore X2.here hx rfl (hb hby d13_32) rfl (l' := #[.val (.ref aL), .val (.ref aC), .val (.int p2), .val (.ref aB), .val (.long qst), .second, .val (.int (0 : Int32)), .val (.long (qst + ((64 : Int64) * ((0 : Int32).toInt64)))), .second, .unset, .unset]) rfl) ?_
    refine Go.st (fun _ => XS.lload X2.here hx rfl (hb hby d13_34) rfl) ?_
    refine Go.st (fun _ => XS.bipush X2.here hx rfl (hb hby d13_36)) ?_
    refine Go.st (fun _ => XS.lushr X2.here hx rfl (hb hby d13_38) rfl) ?_
    show Go p e below _ (T2.setTop (mkF m 39 #[.val (.ref aL), .val (.ref aC), .val (.int p2), .val (.ref aB), .val (.long qst), .second, .val (.int (0 : Int32)), .val (.long (qst + ((64 : Int64) * ((0 : Int32).toInt64)))), .second, .unset, .unset] [(.long (((qst + ((64 : Int64) * ((0 : Int32).toInt64))).toUInt64 >>> ((6 : Int32) &&& 0x3f).toInt64.toUInt64).toInt64))]))
    refine Go.st (fun _ => XS.l2i X2.here hx rfl (hb hby d13_39) rfl) ?_
    refine Go.st (fun _ => XS.istore X2.here hx rfl (hb hby d13_40) rfl (l' := #[.val (.ref aL), .val (.ref aC), .val (.int p2), .val (.ref aB), .val (.long qst), .second, .val (.int (0 : Int32)), .val (.long (qst + ((64 : Int64) * ((0 : Int32).toInt64)))), .second, .val (.int ((((qst + ((64 : Int64) * ((0 : Int32).toInt64))).toUInt64 >>> ((6 : Int32) &&& 0x3f).toInt64.toUInt64).toInt64).toInt32)), .unset]) rfl) ?_
    refine Go.st (fun _ => XS.lload X2.here hx rfl (hb hby d13_42) rfl) ?_
    refine Go.st (fun _ => XS.l2i X2.here hx rfl (hb hby d13_44) rfl) ?_
    show Go p e below _ (T2.setTop (mkF m 45 #[.val (.ref aL), .val (.ref aC), .val (.int p2), .val (.ref aB), .val (.long qst), .second, .val (.int (0 : Int32)), .val (.long (qst + ((64 : Int64) * ((0 : Int32).toInt64)))), .second, .val (.int ((((qst + ((64 : Int64) * ((0 : Int32).toInt64))).toUInt64 >>> ((6 : Int32) &&& 0x3f).toInt64.toUInt64).toInt64).toInt32)), .unset] [(.int ((qst + ((64 : Int64) * ((0 : Int32).toInt64))).toInt32))]))
    refine Go.st (fun _ => XS.bipush X2.here hx rfl (hb hby d13_45)) ?_
    refine Go.st (fun _ => XS.iand X2.here hx rfl (hb hby d13_47) rfl) ?_
    refine Go.st (fun _ => XS.istore X2.here hx rfl (hb hby d13_48) rfl (l' := #[.val (.ref aL), .val (.ref aC), .val (.int p2), .val (.ref aB), .val (.long qst), .second, .val (.int (0 : Int32)), .val (.long (qst + ((64 : Int64) * ((0 : Int32).toInt64)))), .second, .val (.int ((((qst + ((64 : Int64) * ((0 : Int32).toInt64))).toUInt64 >>> ((6 : Int32) &&& 0x3f).toInt64.toUInt64).toInt64).toInt32)), .val (.int (((qst + ((64 : Int64) * ((0 : Int32).toInt64))).toInt32) &&& (63 : Int32)))]) rfl) ?_
    have hbt5 : ((qst + ((64 : Int64) * ((0 : Int32).toInt64)))).toInt = ((sr + 64 * 0 : Nat) : Int) := own_addJ hs0 (y := 64 * 0) (by decide) (by omega)
    show Go p e below _ (T2.setTop (mkF m 50 #[.val (.ref aL), .val (.ref aC), .val (.int p2), .val (.ref aB), .val (.long qst), .second, .val (.int (0 : Int32)), .val (.long (qst + ((64 : Int64) * ((0 : Int32).toInt64)))), .second, .val (.int ((((qst + ((64 : Int64) * ((0 : Int32).toInt64))).toUInt64 >>> ((6 : Int32) &&& 0x3f).toInt64.toUInt64).toInt64).toInt32)), .val (.int (((qst + ((64 : Int64) * ((0 : Int32).toInt64))).toInt32) &&& (63 : Int32)))] []))
    obtain ⟨jw5, ejw5⟩ : ∃ z, z = ((((qst + ((64 : Int64) * ((0 : Int32).toInt64))).toUInt64 >>> ((6 : Int32) &&& 0x3f).toInt64.toUInt64).toInt64).toInt32) := ⟨_, rfl⟩
    rw [← ejw5]
    show Go p e below _ (T2.setTop (mkF m 50 #[.val (.ref aL), .val (.ref aC), .val (.int p2), .val (.ref aB), .val (.long qst), .second, .val (.int (0 : Int32)), .val (.long (qst + ((64 : Int64) * ((0 : Int32).toInt64)))), .second, .val (.int jw5), .val (.int (((qst + ((64 : Int64) * ((0 : Int32).toInt64))).toInt32) &&& (63 : Int32)))] []))
    obtain ⟨sh5, esh5⟩ : ∃ z, z = (((qst + ((64 : Int64) * ((0 : Int32).toInt64))).toInt32) &&& (63 : Int32)) := ⟨_, rfl⟩
    rw [← esh5]
    have hjw5 : jw5.toInt = (((sr + 64 * 0) / 64 : Nat) : Int) := by rw [ejw5]; exact own_word hbt5 (by omega)
    have hsh5 : sh5.toInt = (((sr + 64 * 0) % 64 : Nat) : Int) := by rw [esh5]; exact own_sh hbt5 (by omega)
    have bw5 : 0 ≤ (jw5).toInt ∧ (jw5).toInt < (((64 * (b0 + b1 + b2)) : Nat) : Int) := ⟨by rw [hjw5]; omega, by rw [hjw5]; omega⟩
    have bx5 : 0 ≤ (jw5 + (1 : Int32)).toInt ∧ (jw5 + (1 : Int32)).toInt < (((64 * (b0 + b1 + b2)) : Nat) : Int) := by rw [add_toInt hjw5 (b := (1 : Int32)) (y := 1) rfl (by omega)]; exact ⟨by omega, by omega⟩
    have bk5 : 0 ≤ ((0 : Int32)).toInt ∧ ((0 : Int32)).toInt < ((((b0 + b1 + b2 + 63) / 64) : Nat) : Int) := ⟨by decide, by rw [show ((0 : Int32)).toInt = 0 from rfl]; omega⟩
    show Go p e below _ (T2.setTop (mkF m 50 #[.val (.ref aL), .val (.ref aC), .val (.int p2), .val (.ref aB), .val (.long qst), .second, .val (.int (0 : Int32)), .val (.long (qst + ((64 : Int64) * ((0 : Int32).toInt64)))), .second, .val (.int jw5), .val (.int sh5)] []))
    show Go p e below _ (T2.setTop (mkF m 50 #[.val (.ref aL), .val (.ref aC), .val (.int p2), .val (.ref aB), .val (.long qst), .second, .val (.int (0 : Int32)), .val (.long (qst + ((64 : Int64) * ((0 : Int32).toInt64)))), .second, .val (.int jw5), .val (.int sh5)] []))
    refine Go.st (fun _ => XS.aloadN X2.here hx rfl (hb hby d13_50) rfl rfl) ?_
    refine Go.st (fun _ => XS.iload X2.here hx rfl (hb hby d13_51) rfl) ?_
    refine Go.st (fun _ => fun k => Jvm.Free.XT.dup2 (g := (mkF m 53 #[.val (.ref aL), .val (.ref aC), .val (.int p2), .val (.ref aB), .val (.long qst), .second, .val (.int (0 : Int32)), .val (.long (qst + ((64 : Int64) * ((0 : Int32).toInt64)))), .second, .val (.int jw5), .val (.int sh5)] [(.int jw5), (.ref aC)])) X2.here hx rfl (hb hby d13_53) rfl rfl rfl k) ?_
    obtain ⟨cl6, Ar6, hin6, hat6, -⟩ := LAr_in vC (j := jw5) bw5.1 bw5.2
    refine Go.st (fun _ => X2.laload hx (j := jw5) (v := (.long (f (jw5).toNatClampNeg))) (by rw [e2]; exact Ar6.1) (State.isArrayOf_alike hZ.alike Ar6.2.1) Ar6.2.2 hin6 hat6 (g := (mkF m 54 #[.val (.ref aL), .val (.ref aC), .val (.int p2), .val (.ref aB), .val (.long qst), .second, .val (.int (0 : Int32)), .val (.long (qst + ((64 : Int64) * ((0 : Int32).toInt64)))), .second, .val (.int jw5), .val (.int sh5)] [(.int jw5), (.ref aC), (.int jw5), (.ref aC)])) rfl rfl (hb hby d13_54) _) ?_
    show Go p e below _ (T2.setTop (mkF m 55 #[.val (.ref aL), .val (.ref aC), .val (.int p2), .val (.ref aB), .val (.long qst), .second, .val (.int (0 : Int32)), .val (.long (qst + ((64 : Int64) * ((0 : Int32).toInt64)))), .second, .val (.int jw5), .val (.int sh5)] [(.long (f (jw5).toNatClampNeg)), (.int jw5), (.ref aC)]))
    refine Go.st (fun _ => XS.aloadN X2.here hx rfl (hb hby d13_55) rfl rfl) ?_
    refine Go.st (fun _ => XS.iload X2.here hx rfl (hb hby d13_56) rfl) ?_
    obtain ⟨cl7, Ar7, hin7, hat7, -⟩ := LAr_in vB (j := (0 : Int32)) bk5.1 bk5.2
    refine Go.st (fun _ => X2.laload hx (j := (0 : Int32)) (v := (.long (g ((0 : Int32)).toNatClampNeg))) (by rw [e2]; exact Ar7.1) (State.isArrayOf_alike hZ.alike Ar7.2.1) Ar7.2.2 hin7 hat7 (g := (mkF m 58 #[.val (.ref aL), .val (.ref aC), .val (.int p2), .val (.ref aB), .val (.long qst), .second, .val (.int (0 : Int32)), .val (.long (qst + ((64 : Int64) * ((0 : Int32).toInt64)))), .second, .val (.int jw5), .val (.int sh5)] [(.int (0 : Int32)), (.ref aB), (.long (f (jw5).toNatClampNeg)), (.int jw5), (.ref aC)])) rfl rfl (hb hby d13_58) _) ?_
    refine Go.st (fun _ => XS.iload X2.here hx rfl (hb hby d13_59) rfl) ?_
    show Go p e below _ (T2.setTop (mkF m 61 #[.val (.ref aL), .val (.ref aC), .val (.int p2), .val (.ref aB), .val (.long qst), .second, .val (.int (0 : Int32)), .val (.long (qst + ((64 : Int64) * ((0 : Int32).toInt64)))), .second, .val (.int jw5), .val (.int sh5)] [(.int sh5), (.long (g ((0 : Int32)).toNatClampNeg)), (.long (f (jw5).toNatClampNeg)), (.int jw5), (.ref aC)]))
    refine Go.st (fun _ => XS.lshl X2.here hx rfl (hb hby d13_61) rfl) ?_
    refine Go.st (fun _ => XS.lor X2.here hx rfl (hb hby d13_62) rfl) ?_
    obtain ⟨cl8, Ar8, hin8, hat8, Sz8, Nn8, Ha8⟩ := LAr_in vC (j := jw5) bw5.1 bw5.2
    obtain ⟨T8, h8, X8, e8, W8, st8⟩ := stJ X2 hx hZ e2 Ar8 (j := jw5) hin8 (g := (mkF m 63 #[.val (.ref aL), .val (.ref aC), .val (.int p2), .val (.ref aB), .val (.long qst), .second, .val (.int (0 : Int32)), .val (.long (qst + ((64 : Int64) * ((0 : Int32).toInt64)))), .second, .val (.int jw5), .val (.int sh5)] [(.long ((f (jw5).toNatClampNeg) ||| ((g ((0 : Int32)).toNatClampNeg) <<< (sh5 &&& 0x3f).toInt64))), (.int jw5), (.ref aC)])) rfl rfl (hb hby d13_63)
    refine Go.st st8 ?_
    have O9 := O0.wr W8 gC
    have E_10 := A1.wr W8
    have F11 := l2.other W8 (Or.inl (Ne.symm (LAr_exa vC A1 (ww hw 38 rfl))))
    have F12 := l3.other W8 (Or.inl (Ne.symm (LAr_exa vC A1 (ww hw 38 rfl))))
    have VL13 := LAr_other vB W8 (Ne.symm neCB)
    have K14 := (Keep.refl h0 [aC]).wr W8 (Or.inl (List.mem_of_getElem? (i := 0) rfl))
    have VL15 : LAr Z h8 aC (64 * (b0 + b1 + b2)) (fun k => if k = (jw5).toNatClampNeg then ((f (jw5).toNatClampNeg) ||| ((g ((0 : Int32)).toNatClampNeg) <<< (sh5 &&& 0x3f).toInt64)) else f k) := LAr_set Ar8 Sz8 Nn8 Ha8 W8
    have N8 := Fr.snoc X8 N0 gC
    refine Go.st (fun _ => XS.iload X8.here hx rfl (hb hby d13_64) rfl) ?_
    show Go p e below _ (T8.setTop (mkF m 66 #[.val (.ref aL), .val (.ref aC), .val (.int p2), .val (.ref aB), .val (.long qst), .second, .val (.int (0 : Int32)), .val (.long (qst + ((64 : Int64) * ((0 : Int32).toInt64)))), .second, .val (.int jw5), .val (.int sh5)] [(.int sh5)]))
    refine Go.st (fun _ => XS.bipush X8.here hx rfl (hb hby d13_66)) ?_
    refine Go.st (fun _ => XS.aloadN X8.here hx rfl (hb hby d13_68) rfl rfl) ?_
    obtain ⟨T16, X16, e16, st16⟩ := getF X8 hx hZ hown (host := "") (Or.inl (ww hw 47 rfl)) Via.refl e8 F11 (g := (mkF m 69 #[.val (.ref aL), .val (.ref aC), .val (.int p2), .val (.ref aB), .val (.long qst), .second, .val (.int (0 : Int32)), .val (.long (qst + ((64 : Int64) * ((0 : Int32).toInt64)))), .second, .val (.int jw5), .val (.int sh5)] [(.ref aL), (.int (64 : Int32)), (.int sh5)])) rfl rfl (hb hby d13_69)
    refine Go.st st16 ?_
    refine Go.st (fun _ => XS.bipush X16.here hx rfl (hb hby d13_72)) ?_
    show Go p e below _ (T16.setTop (mkF m 74 #[.val (.ref aL), .val (.ref aC), .val (.int p2), .val (.ref aB), .val (.long qst), .second, .val (.int (0 : Int32)), .val (.long (qst + ((64 : Int64) * ((0 : Int32).toInt64)))), .second, .val (.int jw5), .val (.int sh5)] [(.int (64 : Int32)), (.int rb), (.int (64 : Int32)), (.int sh5)]))
    refine Go.st (fun _ => XS.iload X16.here hx rfl (hb hby d13_74) rfl) ?_
    refine Go.st (fun _ => XS.imul X16.here hx rfl (hb hby d13_76) rfl) ?_
    refine Go.st (fun _ => XS.isub X16.here hx rfl (hb hby d13_77) rfl) ?_
    refine goCallS X16 hx hZ (y := (⟨"java/lang/Math", "min", "(II)I"⟩ : MethodName)) hown (ww hw 94 rfl) (ww hw 32 rfl) (ww hw 21 rfl) (ww hw 33 rfl) (by decide) (argsL := [(.int (64 : Int32)), (.int (rb - (0 : Int32)))]) (rest := [(.int sh5)]) e16 (rm_min l Z a0 hw [] (64 : Int32) (rb - (0 : Int32)) h8 n0 O9) 1 (by decide) (by decide) (by decide) (by decide) (mkF m 78 #[.val (.ref aL), .val (.ref aC), .val (.int p2), .val (.ref aB), .val (.long qst), .second, .val (.int (0 : Int32)), .val (.long (qst + ((64 : Int64) * ((0 : Int32).toInt64)))), .second, .val (.int jw5), .val (.int sh5)] [(.int (rb - (0 : Int32))), (.int (64 : Int32)), (.int sh5)]) rfl (by rw [hml]; rfl) (lenOf pd_2 rfl) rfl (hb hby d13_78) (Nat.le_of_eq rfl) ?_
    intro v17 T17 L17 X17 hQ17
    obtain ⟨⟨m17, rfl, em17⟩, M17, e17⟩ := hQ17
    have N17 := Fr.app N8 M17
    show Go p e below _ (T17.setTop (mkF m 81 #[.val (.ref aL), .val (.ref aC), .val (.int p2), .val (.ref aB), .val (.long qst), .second, .val (.int (0 : Int32)), .val (.long (qst + ((64 : Int64) * ((0 : Int32).toInt64)))), .second, .val (.int jw5), .val (.int sh5)] [(.int m17), (.int sh5)]))
    refine Go.st (fun _ => XS.iadd X17.here hx rfl (hb hby d13_81) rfl) ?_
    have hmn17 := own_mn hrb hT (k := 0) (by decide) (c := (0 : Int32)) (by decide) em17
    refine Go.st (fun _ => XS.bipush X17.here hx rfl (hb hby d13_82)) ?_
    by_cases hc18 : (64 : Int32) < (sh5 + m17)
    · refine Go.st (fun _ => XS.icmpNo X17.here hx rfl (hb hby d13_84) rfl (tlt hc18).2.2.2) ?_
      refine Go.st (fun _ => XS.aloadN X17.here hx rfl (hb hby d13_87) rfl rfl) ?_
      show Go p e below _ (T17.setTop (mkF m 88 #[.val (.ref aL), .val (.ref aC), .val (.int p2), .val (.ref aB), .val (.long qst), .second, .val (.int (0 : Int32)), .val (.long (qst + ((64 : Int64) * ((0 : Int32).toInt64)))), .second, .val (.int jw5), .val (.int sh5)] [(.ref aC)]))
      refine Go.st (fun _ => XS.iload X17.here hx rfl (hb hby d13_88) rfl) ?_
      refine Go.st (fun _ => XS.iconst X17.here hx rfl (hb hby d13_90)) ?_
      refine Go.st (fun _ => XS.iadd X17.here hx rfl (hb hby d13_91) rfl) ?_
      refine Go.st (fun _ => fun k => Jvm.Free.XT.dup2 (g := (mkF m 92 #[.val (.ref aL), .val (.ref aC), .val (.int p2), .val (.ref aB), .val (.long qst), .second, .val (.int (0 : Int32)), .val (.long (qst + ((64 : Int64) * ((0 : Int32).toInt64)))), .second, .val (.int jw5), .val (.int sh5)] [(.int (jw5 + (1 : Int32))), (.ref aC)])) X17.here hx rfl (hb hby d13_92) rfl rfl rfl k) ?_
      show Go p e below _ (T17.setTop (mkF m 93 #[.val (.ref aL), .val (.ref aC), .val (.int p2), .val (.ref aB), .val (.long qst), .second, .val (.int (0 : Int32)), .val (.long (qst + ((64 : Int64) * ((0 : Int32).toInt64)))), .second, .val (.int jw5), .val (.int sh5)] [(.int (jw5 + (1 : Int32))), (.ref aC), (.int (jw5 + (1 : Int32))), (.ref aC)]))
      obtain ⟨cl19, Ar19, hin19, hat19, -⟩ := LAr_in VL15 (j := (jw5 + (1 : Int32))) bx5.1 bx5.2
      refine Go.st (fun _ => X17.laload hx (j := (jw5 + (1 : Int32))) (v := (.long ((fun k => if k = (jw5).toNatClampNeg then ((f (jw5).toNatClampNeg) ||| ((g ((0 : Int32)).toNatClampNeg) <<< (sh5 &&& 0x3f).toInt64)) else f k) ((jw5 + (1 : Int32))).toNatClampNeg))) (by rw [e17]; exact Ar19.1) (State.isArrayOf_alike hZ.alike Ar19.2.1) Ar19.2.2 hin19 hat19 (g := (mkF m 93 #[.val (.ref aL), .val (.ref aC), .val (.int p2), .val (.ref aB), .val (.long qst), .second, .val (.int (0 : Int32)), .val (.long (qst + ((64 : Int64) * ((0 : Int32).toInt64)))), .second, .val (.int jw5), .val (.int sh5)] [(.int (jw5 + (1 : Int32))), (.ref aC), (.int (jw5 + (1 : Int32))), (.ref aC)])) rfl rfl (hb hby d13_93) _) ?_
      refine Go.st (fun _ => XS.aloadN X17.here hx rfl (hb hby d13_94) rfl rfl) ?_
      refine Go.st (fun _ => XS.iload X17.here hx rfl (hb hby d13_95) rfl) ?_
      obtain ⟨cl20, Ar20, hin20, hat20, -⟩ := LAr_in VL13 (j := (0 : Int32)) bk5.1 bk5.2
      refine Go.st (fun _ => X17.laload hx (j := (0 : Int32)) (v := (.long (g ((0 : Int32)).toNatClampNeg))) (by rw [e17]; exact Ar20.1) (State.isArrayOf_alike hZ.alike Ar20.2.1) Ar20.2.2 hin20 hat20 (g := (mkF m 97 #[.val (.ref aL), .val (.ref aC), .val (.int p2), .val (.ref aB), .val (.long qst), .second, .val (.int (0 : Int32)), .val (.long (qst + ((64 : Int64) * ((0 : Int32).toInt64)))), .second, .val (.int jw5), .val (.int sh5)] [(.int (0 : Int32)), (.ref aB), (.long ((fun k => if k = (jw5).toNatClampNeg then ((f (jw5).toNatClampNeg) ||| ((g ((0 : Int32)).toNatClampNeg) <<< (sh5 &&& 0x3f).toInt64)) else f k) ((jw5 + (1 : Int32))).toNatClampNeg)), (.int (jw5 + (1 : Int32))), (.ref aC)])) rfl rfl (hb hby d13_97) _) ?_
      show Go p e below _ (T17.setTop (mkF m 98 #[.val (.ref aL), .val (.ref aC), .val (.int p2), .val (.ref aB), .val (.long qst), .second, .val (.int (0 : Int32)), .val (.long (qst + ((64 : Int64) * ((0 : Int32).toInt64)))), .second, .val (.int jw5), .val (.int sh5)] [(.long (g ((0 : Int32)).toNatClampNeg)), (.long ((fun k => if k = (jw5).toNatClampNeg then ((f (jw5).toNatClampNeg) ||| ((g ((0 : Int32)).toNatClampNeg) <<< (sh5 &&& 0x3f).toInt64)) else f k) ((jw5 + (1 : Int32))).toNatClampNeg)), (.int (jw5 + (1 : Int32))), (.ref aC)]))
      refine Go.st (fun _ => XS.bipush X17.here hx rfl (hb hby d13_98)) ?_
      refine Go.st (fun _ => XS.iload X17.here hx rfl (hb hby d13_100) rfl) ?_
      refine Go.st (fun _ => XS.isub X17.here hx rfl (hb hby d13_102) rfl) ?_
      refine Go.st (fun _ => XS.lushr X17.here hx rfl (hb hby d13_103) rfl) ?_
      show Go p e below _ (T17.setTop (mkF m 104 #[.val (.ref aL), .val (.ref aC), .val (.int p2), .val (.ref aB), .val (.long qst), .second, .val (.int (0 : Int32)), .val (.long (qst + ((64 : Int64) * ((0 : Int32).toInt64)))), .second, .val (.int jw5), .val (.int sh5)] [(.long (((g ((0 : Int32)).toNatClampNeg).toUInt64 >>> (((64 : Int32) - sh5) &&& 0x3f).toInt64.toUInt64).toInt64)), (.long ((fun k => if k = (jw5).toNatClampNeg then ((f (jw5).toNatClampNeg) ||| ((g ((0 : Int32)).toNatClampNeg) <<< (sh5 &&& 0x3f).toInt64)) else f k) ((jw5 + (1 : Int32))).toNatClampNeg)), (.int (jw5 + (1 : Int32))), (.ref aC)]))
      refine Go.st (fun _ => XS.lor X17.here hx rfl (hb hby d13_104) rfl) ?_
      obtain ⟨cl21, Ar21, hin21, hat21, Sz21, Nn21, Ha21⟩ := LAr_in VL15 (j := (jw5 + (1 : Int32))) bx5.1 bx5.2
      obtain ⟨T21, h21, X21, e21, W21, st21⟩ := stJ X17 hx hZ e17 Ar21 (j := (jw5 + (1 : Int32))) hin21 (g := (mkF m 105 #[.val (.ref aL), .val (.ref aC), .val (.int p2), .val (.ref aB), .val (.long qst), .second, .val (.int (0 : Int32)), .val (.long (qst + ((64 : Int64) * ((0 : Int32).toInt64)))), .second, .val (.int jw5), .val (.int sh5)] [(.long (((fun k => if k = (jw5).toNatClampNeg then ((f (jw5).toNatClampNeg) ||| ((g ((0 : Int32)).toNatClampNeg) <<< (sh5 &&& 0x3f).toInt64)) else f k) ((jw5 + (1 : Int32))).toNatClampNeg) ||| (((g ((0 : Int32)).toNatClampNeg).toUInt64 >>> (((64 : Int32) - sh5) &&& 0x3f).toInt64.toUInt64).toInt64))), (.int (jw5 + (1 : Int32))), (.ref aC)])) rfl rfl (hb hby d13_105)
      refine Go.st st21 ?_
      have O22 := O9.wr W21 gC
      have E_23 := E_10.wr W21
      have F24 := F11.other W21 (Or.inl (Ne.symm (LAr_exa VL15 E_10 (ww hw 38 rfl))))
      have F25 := F12.other W21 (Or.inl (Ne.symm (LAr_exa VL15 E_10 (ww hw 38 rfl))))
      have VL26 := LAr_other VL13 W21 (Ne.symm neCB)
      have K27 := K14.wr W21 (Or.inl (List.mem_of_getElem? (i := 0) rfl))
      have VL28 : LAr Z h21 aC (64 * (b0 + b1 + b2)) (fun k => if k = ((jw5 + (1 : Int32))).toNatClampNeg then (((fun k => if k = (jw5).toNatClampNeg then ((f (jw5).toNatClampNeg) ||| ((g ((0 : Int32)).toNatClampNeg) <<< (sh5 &&& 0x3f).toInt64)) else f k) ((jw5 + (1 : Int32))).toNatClampNeg) ||| (((g ((0 : Int32)).toNatClampNeg).toUInt64 >>> (((64 : Int32) - sh5) &&& 0x3f).toInt64.toUInt64).toInt64)) else (fun k => if k = (jw5).toNatClampNeg then ((f (jw5).toNatClampNeg) ||| ((g ((0 : Int32)).toNatClampNeg) <<< (sh5 &&& 0x3f).toInt64)) else f k) k) := LAr_set Ar21 Sz21 Nn21 Ha21 W21
      have N21 := Fr.snoc X21 N17 gC
      obtain ⟨f29, V29, I29⟩ : ∃ f', LAr Z h21 aC (64 * (b0 + b1 + b2)) f' ∧ own_put f g sr 1 f' := ⟨_, VL28, put_yes I_0 (by omega) hk0 hm2 hT (jx := (0 : Int32)) (by decide) (W := (sr + 64 * 0) / 64) (S := (sr + 64 * 0) % 64) (by omega) (by omega) hjw5 hsh5 hmn17 hc18⟩
      show Go p e below _ (T21.setTop (mkF m 106 #[.val (.ref aL), .val (.ref aC), .val (.int p2), .val (.ref aB), .val (.long qst), .second, .val (.int (0 : Int32)), .val (.long (qst + ((64 : Int64) * ((0 : Int32).toInt64)))), .second, .val (.int jw5), .val (.int sh5)] []))
      refine Go.st (fun _ => XS.iinc X21.here hx rfl (hb hby d13_106) rfl (l' := #[.val (.ref aL), .val (.ref aC), .val (.int p2), .val (.ref aB), .val (.long qst), .second, .val (.int (1 : Int32)), .val (.long (qst + ((64 : Int64) * ((0 : Int32).toInt64)))), .second, .val (.int jw5), .val (.int sh5)]) rfl) ?_
      refine Go.st (fun _ => XS.goto X21.here hx rfl (pc0 := 109) (pc' := 13) rfl (hb hby d13_109) (by decide) (by decide)) ?_
      refine Go.st (fun _ => XS.iload X21.here hx rfl (hb hby d13_13) rfl) ?_
      refine Go.st (fun _ => XS.aloadN X21.here hx rfl (hb hby d13_15) rfl rfl) ?_
      show Go p e below _ (T21.setTop (mkF m 16 #[.val (.ref aL), .val (.ref aC), .val (.int p2), .val (.ref aB), .val (.long qst), .second, .val (.int (1 : Int32)), .val (.long (qst + ((64 : Int64) * ((0 : Int32).toInt64)))), .second, .val (.int jw5), .val (.int sh5)] [(.ref aL), (.int (1 : Int32))]))
      obtain ⟨T30, X30, e30, st30⟩ := getF X21 hx hZ hown (host := "") (Or.inl (ww hw 53 rfl)) Via.refl e21 F25 (g := (mkF m 16 #[.val (.ref aL), .val (.ref aC), .val (.int p2), .val (.ref aB), .val (.long qst), .second, .val (.int (1 : Int32)), .val (.long (qst + ((64 : Int64) * ((0 : Int32).toInt64)))), .second, .val (.int jw5), .val (.int sh5)] [(.ref aL), (.int (1 : Int32))])) rfl rfl (hb hby d13_16)
      refine Go.st st30 ?_
      by_cases hc31 : (1 : Int32) < wd
      · refine Go.st (fun _ => XS.icmpNo X30.here hx rfl (hb hby d13_19) rfl (tlt hc31).2.1) ?_
        have hn32 := hc31
        rw [Int32.lt_iff_toInt_lt, hwd, show ((1 : Int32)).toInt = 1 from rfl] at hn32
        have hk1 : 1 < ((b0 + b1 + b2 + 63) / 64) := by omega
        refine Go.st (fun _ => XS.lload X30.here hx rfl (hb hby d13_22) rfl) ?_
        refine Go.st (fun _ => X30.ldc2Long hx hown (mvT hZ (ww hw 93 rfl)) (g := (mkF m 24 #[.val (.ref aL), .val (.ref aC), .val (.int p2), .val (.ref aB), .val (.long qst), .second, .val (.int (1 : Int32)), .val (.long (qst + ((64 : Int64) * ((0 : Int32).toInt64)))), .second, .val (.int jw5), .val (.int sh5)] [(.long qst)])) rfl (hb hby d13_24) _) ?_
        show Go p e below _ (T30.setTop (mkF m 27 #[.val (.ref aL), .val (.ref aC), .val (.int p2), .val (.ref aB), .val (.long qst), .second, .val (.int (1 : Int32)), .val (.long (qst + ((64 : Int64) * ((0 : Int32).toInt64)))), .second, .val (.int jw5), .val (.int sh5)] [(.long (64 : Int64)), (.long qst)]))
        refine Go.st (fun _ => XS.iload X30.here hx rfl (hb hby d13_27) rfl) ?_
        refine Go.st (fun _ => XS.i2l X30.here hx rfl (hb hby d13_29) rfl) ?_
        refine Go.st (fun _ => XS.lmul X30.here hx rfl (hb hby d13_30) rfl) ?_
        refine Go.st (fun _ => XS.ladd X30.here hx rfl (hb hby d13_31) rfl) ?_
        show Go p e below _ (T30.setTop (mkF m 32 #[.val (.ref aL), .val (.ref aC), .val (.int p2), .val (.ref aB), .val (.long qst), .second, .val (.int (1 : Int32)), .val (.long (qst + ((64 : Int64) * ((0 : Int32).toInt64)))), .second, .val (.int jw5), .val (.int sh5)] [(.long (qst + ((64 : Int64) * ((1 : Int32).toInt64))))]))
        refine Go.st (fun _ => XS.lstore X30.here hx rfl (hb hby d13_32) rfl (l' := #[.val (.ref aL), .val (.ref aC), .val (.int p2), .val (.ref aB), .val (.long qst), .second, .val (.int (1 : Int32)), .val (.long (qst + ((64 : Int64) * ((1 : Int32).toInt64)))), .second, .val (.int jw5), .val (.int sh5)]) rfl) ?_
        refine Go.st (fun _ => XS.lload X30.here hx rfl (hb hby d13_34) rfl) ?_
        refine Go.st (fun _ => XS.bipush X30.here hx rfl (hb hby d13_36)) ?_
        refine Go.st (fun _ => XS.lushr X30.here hx rfl (hb hby d13_38) rfl) ?_
        show Go p e below _ (T30.setTop (mkF m 39 #[.val (.ref aL), .val (.ref aC), .val (.int p2), .val (.ref aB), .val (.long qst), .second, .val (.int (1 : Int32)), .val (.long (qst + ((64 : Int64) * ((1 : Int32).toInt64)))), .second, .val (.int jw5), .val (.int sh5)] [(.long (((qst + ((64 : Int64) * ((1 : Int32).toInt64))).toUInt64 >>> ((6 : Int32) &&& 0x3f).toInt64.toUInt64).toInt64))]))
        refine Go.st (fun _ => XS.l2i X30.here hx rfl (hb hby d13_39) rfl) ?_
        refine Go.st (fun _ => XS.istore X30.here hx rfl (hb hby d13_40) rfl (l' := #[.val (.ref aL), .val (.ref aC), .val (.int p2), .val (.ref aB), .val (.long qst), .second, .val (.int (1 : Int32)), .val (.long (qst + ((64 : Int64) * ((1 : Int32).toInt64)))), .second, .val (.int ((((qst + ((64 : Int64) * ((1 : Int32).toInt64))).toUInt64 >>> ((6 : Int32) &&& 0x3f).toInt64.toUInt64).toInt64).toInt32)), .val (.int sh5)]) rfl) ?_
        refine Go.st (fun _ => XS.lload X30.here hx rfl (hb hby d13_42) rfl) ?_
        refine Go.st (fun _ => XS.l2i X30.here hx rfl (hb hby d13_44) rfl) ?_
        show Go p e below _ (T30.setTop (mkF m 45 #[.val (.ref aL), .val (.ref aC), .val (.int p2), .val (.ref aB), .val (.long qst), .second, .val (.int (1 : Int32)), .val (.long (qst + ((64 : Int64) * ((1 : Int32).toInt64)))), .second, .val (.int ((((qst + ((64 : Int64) * ((1 : Int32).toInt64))).toUInt64 >>> ((6 : Int32) &&& 0x3f).toInt64.toUInt64).toInt64).toInt32)), .val (.int sh5)] [(.int ((qst + ((64 : Int64) * ((1 : Int32).toInt64))).toInt32))]))
        refine Go.st (fun _ => XS.bipush X30.here hx rfl (hb hby d13_45)) ?_
        refine Go.st (fun _ => XS.iand X30.here hx rfl (hb hby d13_47) rfl) ?_
        refine Go.st (fun _ => XS.istore X30.here hx rfl (hb hby d13_48) rfl (l' := #[.val (.ref aL), .val (.ref aC), .val (.int p2), .val (.ref aB), .val (.long qst), .second, .val (.int (1 : Int32)), .val (.long (qst + ((64 : Int64) * ((1 : Int32).toInt64)))), .second, .val (.int ((((qst + ((64 : Int64) * ((1 : Int32).toInt64))).toUInt64 >>> ((6 : Int32) &&& 0x3f).toInt64.toUInt64).toInt64).toInt32)), .val (.int (((qst + ((64 : Int64) * ((1 : Int32).toInt64))).toInt32) &&& (63 : Int32)))]) rfl) ?_
        have hbt33 : ((qst + ((64 : Int64) * ((1 : Int32).toInt64)))).toInt = ((sr + 64 * 1 : Nat) : Int) := own_addJ hs0 (y := 64 * 1) (by decide) (by omega)
        show Go p e below _ (T30.setTop (mkF m 50 #[.val (.ref aL), .val (.ref aC), .val (.int p2), .val (.ref aB), .val (.long qst), .second, .val (.int (1 : Int32)), .val (.long (qst + ((64 : Int64) * ((1 : Int32).toInt64)))), .second, .val (.int ((((qst + ((64 : Int64) * ((1 : Int32).toInt64))).toUInt64 >>> ((6 : Int32) &&& 0x3f).toInt64.toUInt64).toInt64).toInt32)), .val (.int (((qst + ((64 : Int64) * ((1 : Int32).toInt64))).toInt32) &&& (63 : Int32)))] []))
        obtain ⟨jw33, ejw33⟩ : ∃ z, z = ((((qst + ((64 : Int64) * ((1 : Int32).toInt64))).toUInt64 >>> ((6 : Int32) &&& 0x3f).toInt64.toUInt64).toInt64).toInt32) := ⟨_, rfl⟩
        rw [← ejw33]
        show Go p e below _ (T30.setTop (mkF m 50 #[.val (.ref aL), .val (.ref aC), .val (.int p2), .val (.ref aB), .val (.long qst), .second, .val (.int (1 : Int32)), .val (.long (qst + ((64 : Int64) * ((1 : Int32).toInt64)))), .second, .val (.int jw33), .val (.int (((qst + ((64 : Int64) * ((1 : Int32).toInt64))).toInt32) &&& (63 : Int32)))] []))
        obtain ⟨sh33, esh33⟩ : ∃ z, z = (((qst + ((64 : Int64) * ((1 : Int32).toInt64))).toInt32) &&& (63 : Int32)) := ⟨_, rfl⟩
        rw [← esh33]
        have hjw33 : jw33.toInt = (((sr + 64 * 1) / 64 : Nat) : Int) := by rw [ejw33]; exact own_word hbt33 (by omega)
        have hsh33 : sh33.toInt = (((sr + 64 * 1) % 64 : Nat) : Int) := by rw [esh33]; exact own_sh hbt33 (by omega)
        have bw33 : 0 ≤ (jw33).toInt ∧ (jw33).toInt < (((64 * (b0 + b1 + b2)) : Nat) : Int) := ⟨by rw [hjw33]; omega, by rw [hjw33]; omega⟩
        have bx33 : 0 ≤ (jw33 + (1 : Int32)).toInt ∧ (jw33 + (1 : Int32)).toInt < (((64 * (b0 + b1 + b2)) : Nat) : Int) := by rw [add_toInt hjw33 (b := (1 : Int32)) (y := 1) rfl (by omega)]; exact ⟨by omega, by omega⟩
        have bk33 : 0 ≤ ((1 : Int32)).toInt ∧ ((1 : Int32)).toInt < ((((b0 + b1 + b2 + 63) / 64) : Nat) : Int) := ⟨by decide, by rw [show ((1 : Int32)).toInt = 1 from rfl]; omega⟩
        show Go p e below _ (T30.setTop (mkF m 50 #[.val (.ref aL), .val (.ref aC), .val (.int p2), .val (.ref aB), .val (.long qst), .second, .val (.int (1 : Int32)), .val (.long (qst + ((64 : Int64) * ((1 : Int32).toInt64)))), .second, .val (.int jw33), .val (.int sh33)] []))
        show Go p e below _ (T30.setTop (mkF m 50 #[.val (.ref aL), .val (.ref aC), .val (.int p2), .val (.ref aB), .val (.long qst), .second, .val (.int (1 : Int32)), .val (.long (qst + ((64 : Int64) * ((1 : Int32).toInt64)))), .second, .val (.int jw33), .val (.int sh33)] []))
        refine Go.st (fun _ => XS.aloadN X30.here hx rfl (hb hby d13_50) rfl rfl) ?_
        refine Go.st (fun _ => XS.iload X30.here hx rfl (hb hby d13_51) rfl) ?_
        refine Go.st (fun _ => fun k => Jvm.Free.XT.dup2 (g := (mkF m 53 #[.val (.ref aL), .val (.ref aC), .val (.int p2), .val (.ref aB), .val (.long qst), .second, .val (.int (1 : Int32)), .val (.long (qst + ((64 : Int64) * ((1 : Int32).toInt64)))), .second, .val (.int jw33), .val (.int sh33)] [(.int jw33), (.ref aC)])) X30.here hx rfl (hb hby d13_53) rfl rfl rfl k) ?_
        obtain ⟨cl34, Ar34, hin34, hat34, -⟩ := LAr_in V29 (j := jw33) bw33.1 bw33.2
        refine Go.st (fun _ => X30.laload hx (j := jw33) (v := (.long (f29 (jw33).toNatClampNeg))) (by rw [e30]; exact Ar34.1) (State.isArrayOf_alike hZ.alike Ar34.2.1) Ar34.2.2 hin34 hat34 (g := (mkF m 54 #[.val (.ref aL), .val (.ref aC), .val (.int p2), .val (.ref aB), .val (.long qst), .second, .val (.int (1 : Int32)), .val (.long (qst + ((64 : Int64) * ((1 : Int32).toInt64)))), .second, .val (.int jw33), .val (.int sh33)] [(.int jw33), (.ref aC), (.int jw33), (.ref aC)])) rfl rfl (hb hby d13_54) _) ?_
        show Go p e below _ (T30.setTop (mkF m 55 #[.val (.ref aL), .val (.ref aC), .val (.int p2), .val (.ref aB), .val (.long qst), .second, .val (.int (1 : Int32)), .val (.long (qst + ((64 : Int64) * ((1 : Int32).toInt64)))), .second, .val (.int jw33), .val (.int sh33)] [(.long (f29 (jw33).toNatClampNeg)), (.int jw33), (.ref aC)]))
        refine Go.st (fun _ => XS.aloadN X30.here hx rfl (hb hby d13_55) rfl rfl) ?_
        refine Go.st (fun _ => XS.iload X30.here hx rfl (hb hby d13_56) rfl) ?_
        obtain ⟨cl35, Ar35, hin35, hat35, -⟩ := LAr_in VL26 (j := (1 : Int32)) bk33.1 bk33.2
        refine Go.st (fun _ => X30.laload hx (j := (1 : Int32)) (v := (.long (g ((1 : Int32)).toNatClampNeg))) (by rw [e30]; exact Ar35.1) (State.isArrayOf_alike hZ.alike Ar35.2.1) Ar35.2.2 hin35 hat35 (g := (mkF m 58 #[.val (.ref aL), .val (.ref aC), .val (.int p2), .val (.ref aB), .val (.long qst), .second, .val (.int (1 : Int32)), .val (.long (qst + ((64 : Int64) * ((1 : Int32).toInt64)))), .second, .val (.int jw33), .val (.int sh33)] [(.int (1 : Int32)), (.ref aB), (.long (f29 (jw33).toNatClampNeg)), (.int jw33), (.ref aC)])) rfl rfl (hb hby d13_58) _) ?_
        refine Go.st (fun _ => XS.iload X30.here hx rfl (hb hby d13_59) rfl) ?_
        show Go p e below _ (T30.setTop (mkF m 61 #[.val (.ref aL), .val (.ref aC), .val (.int p2), .val (.ref aB), .val (.long qst), .second, .val (.int (1 : Int32)), .val (.long (qst + ((64 : Int64) * ((1 : Int32).toInt64)))), .second, .val (.int jw33), .val (.int sh33)] [(.int sh33), (.long (g ((1 : Int32)).toNatClampNeg)), (.long (f29 (jw33).toNatClampNeg)), (.int jw33), (.ref aC)]))
        refine Go.st (fun _ => XS.lshl X30.here hx rfl (hb hby d13_61) rfl) ?_
        refine Go.st (fun _ => XS.lor X30.here hx rfl (hb hby d13_62) rfl) ?_
        obtain ⟨cl36, Ar36, hin36, hat36, Sz36, Nn36, Ha36⟩ := LAr_in V29 (j := jw33) bw33.1 bw33.2
        obtain ⟨T36, h36, X36, e36, W36, st36⟩ := stJ X30 hx hZ e30 Ar36 (j := jw33) hin36 (g := (mkF m 63 #[.val (.ref aL), .val (.ref aC), .val (.int p2), .val (.ref aB), .val (.long qst), .second, .val (.int (1 : Int32)), .val (.long (qst + ((64 : Int64) * ((1 : Int32).toInt64)))), .second, .val (.int jw33), .val (.int sh33)] [(.long ((f29 (jw33).toNatClampNeg) ||| ((g ((1 : Int32)).toNatClampNeg) <<< (sh33 &&& 0x3f).toInt64))), (.int jw33), (.ref aC)])) rfl rfl (hb hby d13_63)
        refine Go.st st36 ?_
        have O37 := O22.wr W36 gC
        have E_38 := E_23.wr W36
        have F39 := F24.other W36 (Or.inl (Ne.symm (LAr_exa V29 E_23 (ww hw 38 rfl))))
        have F40 := F25.other W36 (Or.inl (Ne.symm (LAr_exa V29 E_23 (ww hw 38 rfl))))
        have VL41 := LAr_other VL26 W36 (Ne.symm neCB)
        have K42 := K27.wr W36 (Or.inl (List.mem_of_getElem? (i := 0) rfl))
        have VL43 : LAr Z h36 aC (64 * (b0 + b1 + b2)) (fun k => if k = (jw33).toNatClampNeg then ((f29 (jw33).toNatClampNeg) ||| ((g ((1 : Int32)).toNatClampNeg) <<< (sh33 &&& 0x3f).toInt64)) else f29 k) := LAr_set Ar36 Sz36 Nn36 Ha36 W36
        have N36 := Fr.snoc X36 N21 gC
        refine Go.st (fun _ => XS.iload X36.here hx rfl (hb hby d13_64) rfl) ?_
        show Go p e below _ (T36.setTop (mkF m 66 #[.val (.ref aL), .val (.ref aC), .val (.int p2), .val (.ref aB), .val (.long qst), .second, .val (.int (1 : Int32)), .val (.long (qst + ((64 : Int64) * ((1 : Int32).toInt64)))), .second, .val (.int jw33), .val (.int sh33)] [(.int sh33)]))
        refine Go.st (fun _ => XS.bipush X36.here hx rfl (hb hby d13_66)) ?_
        refine Go.st (fun _ => XS.aloadN X36.here hx rfl (hb hby d13_68) rfl rfl) ?_
        obtain ⟨T44, X44, e44, st44⟩ := getF X36 hx hZ hown (host := "") (Or.inl (ww hw 47 rfl)) Via.refl e36 F39 (g := (mkF m 69 #[.val (.ref aL), .val (.ref aC), .val (.int p2), .val (.ref aB), .val (.long qst), .second, .val (.int (1 : Int32)), .val (.long (qst + ((64 : Int64) * ((1 : Int32).toInt64)))), .second, .val (.int jw33), .val (.int sh33)] [(.ref aL), (.int (64 : Int32)), (.int sh33)])) rfl rfl (hb hby d13_69)
        refine Go.st st44 ?_
        refine Go.st (fun _ => XS.bipush X44.here hx rfl (hb hby d13_72)) ?_
        show Go p e below _ (T44.setTop (mkF m 74 #[.val (.ref aL), .val (.ref aC), .val (.int p2), .val (.ref aB), .val (.long qst), .second, .val (.int (1 : Int32)), .val (.long (qst + ((64 : Int64) * ((1 : Int32).toInt64)))), .second, .val (.int jw33), .val (.int sh33)] [(.int (64 : Int32)), (.int rb), (.int (64 : Int32)), (.int sh33)]))
        refine Go.st (fun _ => XS.iload X44.here hx rfl (hb hby d13_74) rfl) ?_
        refine Go.st (fun _ => XS.imul X44.here hx rfl (hb hby d13_76) rfl) ?_
        refine Go.st (fun _ => XS.isub X44.here hx rfl (hb hby d13_77) rfl) ?_
        refine goCallS X44 hx hZ (y := (⟨"java/lang/Math", "min", "(II)I"⟩ : MethodName)) hown (ww hw 94 rfl) (ww hw 32 rfl) (ww hw 21 rfl) (ww hw 33 rfl) (by decide) (argsL := [(.int (64 : Int32)), (.int (rb - (64 : Int32)))]) (rest := [(.int sh33)]) e44 (rm_min l Z a0 hw [] (64 : Int32) (rb - (64 : Int32)) h36 n0 O37) 1 (by decide) (by decide) (by decide) (by decide) (mkF m 78 #[.val (.ref aL), .val (.ref aC), .val (.int p2), .val (.ref aB), .val (.long qst), .second, .val (.int (1 : Int32)), .val (.long (qst + ((64 : Int64) * ((1 : Int32).toInt64)))), .second, .val (.int jw33), .val (.int sh33)] [(.int (rb - (64 : Int32))), (.int (64 : Int32)), (.int sh33)]) rfl (by rw [hml]; rfl) (lenOf pd_2 rfl) rfl (hb hby d13_78) (Nat.le_of_eq rfl) ?_
        intro v45 T45 L45 X45 hQ45
        obtain ⟨⟨m45, rfl, em45⟩, M45, e45⟩ := hQ45
        have N45 := Fr.app N36 M45
        show Go p e below _ (T45.setTop (mkF m 81 #[.val (.ref aL), .val (.ref aC), .val (.int p2), .val (.ref aB), .val (.long qst), .second, .val (.int (1 : Int32)), .val (.long (qst + ((64 : Int64) * ((1 : Int32).toInt64)))), .second, .val (.int jw33), .val (.int sh33)] [(.int m45), (.int sh33)]))
        refine Go.st (fun _ => XS.iadd X45.here hx rfl (hb hby d13_81) rfl) ?_
        have hmn45 := own_mn hrb hT (k := 1) (by decide) (c := (64 : Int32)) (by decide) em45
        refine Go.st (fun _ => XS.bipush X45.here hx rfl (hb hby d13_82)) ?_
        by_cases hc46 : (64 : Int32) < (sh33 + m45)
        · refine Go.st (fun _ => XS.icmpNo X45.here hx rfl (hb hby d13_84) rfl (tlt hc46).2.2.2) ?_
          refine Go.st (fun _ => XS.aloadN X45.here hx rfl (hb hby d13_87) rfl rfl) ?_
          show Go p e below _ (T45.setTop (mkF m 88 #[.val (.ref aL), .val (.ref aC), .val (.int p2), .val (.ref aB), .val (.long qst), .second, .val (.int (1 : Int32)), .val (.long (qst + ((64 : Int64) * ((1 : Int32).toInt64)))), .second, .val (.int jw33), .val (.int sh33)] [(.ref aC)]))
          refine Go.st (fun _ => XS.iload X45.here hx rfl (hb hby d13_88) rfl) ?_
          refine Go.st (fun _ => XS.iconst X45.here hx rfl (hb hby d13_90)) ?_
          refine Go.st (fun _ => XS.iadd X45.here hx rfl (hb hby d13_91) rfl) ?_
          refine Go.st (fun _ => fun k => Jvm.Free.XT.dup2 (g := (mkF m 92 #[.val (.ref aL), .val (.ref aC), .val (.int p2), .val (.ref aB), .val (.long qst), .second, .val (.int (1 : Int32)), .val (.long (qst + ((64 : Int64) * ((1 : Int32).toInt64)))), .second, .val (.int jw33), .val (.int sh33)] [(.int (jw33 + (1 : Int32))), (.ref aC)])) X45.here hx rfl (hb hby d13_92) rfl rfl rfl k) ?_
          show Go p e below _ (T45.setTop (mkF m 93 #[.val (.ref aL), .val (.ref aC), .val (.int p2), .val (.ref aB), .val (.long qst), .second, .val (.int (1 : Int32)), .val (.long (qst + ((64 : Int64) * ((1 : Int32).toInt64)))), .second, .val (.int jw33), .val (.int sh33)] [(.int (jw33 + (1 : Int32))), (.ref aC), (.int (jw33 + (1 : Int32))), (.ref aC)]))
          obtain ⟨cl47, Ar47, hin47, hat47, -⟩ := LAr_in VL43 (j := (jw33 + (1 : Int32))) bx33.1 bx33.2
          refine Go.st (fun _ => X45.laload hx (j := (jw33 + (1 : Int32))) (v := (.long ((fun k => if k = (jw33).toNatClampNeg then ((f29 (jw33).toNatClampNeg) ||| ((g ((1 : Int32)).toNatClampNeg) <<< (sh33 &&& 0x3f).toInt64)) else f29 k) ((jw33 + (1 : Int32))).toNatClampNeg))) (by rw [e45]; exact Ar47.1) (State.isArrayOf_alike hZ.alike Ar47.2.1) Ar47.2.2 hin47 hat47 (g := (mkF m 93 #[.val (.ref aL), .val (.ref aC), .val (.int p2), .val (.ref aB), .val (.long qst), .second, .val (.int (1 : Int32)), .val (.long (qst + ((64 : Int64) * ((1 : Int32).toInt64)))), .second, .val (.int jw33), .val (.int sh33)] [(.int (jw33 + (1 : Int32))), (.ref aC), (.int (jw33 + (1 : Int32))), (.ref aC)])) rfl rfl (hb hby d13_93) _) ?_
          refine Go.st (fun _ => XS.aloadN X45.here hx rfl (hb hby d13_94) rfl rfl) ?_
          refine Go.st (fun _ => XS.iload X45.here hx rfl (hb hby d13_95) rfl) ?_
          obtain ⟨cl48, Ar48, hin48, hat48, -⟩ := LAr_in VL41 (j := (1 : Int32)) bk33.1 bk33.2
          refine Go.st (fun _ => X45.laload hx (j := (1 : Int32)) (v := (.long (g ((1 : Int32)).toNatClampNeg))) (by rw [e45]; exact Ar48.1) (State.isArrayOf_alike hZ.alike Ar48.2.1) Ar48.2.2 hin48 hat48 (g := (mkF m 97 #[.val (.ref aL), .val (.ref aC), .val (.int p2), .val (.ref aB), .val (.long qst), .second, .val (.int (1 : Int32)), .val (.long (qst + ((64 : Int64) * ((1 : Int32).toInt64)))), .second, .val (.int jw33), .val (.int sh33)] [(.int (1 : Int32)), (.ref aB), (.long ((fun k => if k = (jw33).toNatClampNeg then ((f29 (jw33).toNatClampNeg) ||| ((g ((1 : Int32)).toNatClampNeg) <<< (sh33 &&& 0x3f).toInt64)) else f29 k) ((jw33 + (1 : Int32))).toNatClampNeg)), (.int (jw33 + (1 : Int32))), (.ref aC)])) rfl rfl (hb hby d13_97) _) ?_
          show Go p e below _ (T45.setTop (mkF m 98 #[.val (.ref aL), .val (.ref aC), .val (.int p2), .val (.ref aB), .val (.long qst), .second, .val (.int (1 : Int32)), .val (.long (qst + ((64 : Int64) * ((1 : Int32).toInt64)))), .second, .val (.int jw33), .val (.int sh33)] [(.long (g ((1 : Int32)).toNatClampNeg)), (.long ((fun k => if k = (jw33).toNatClampNeg then ((f29 (jw33).toNatClampNeg) ||| ((g ((1 : Int32)).toNatClampNeg) <<< (sh33 &&& 0x3f).toInt64)) else f29 k) ((jw33 + (1 : Int32))).toNatClampNeg)), (.int (jw33 + (1 : Int32))), (.ref aC)]))
          refine Go.st (fun _ => XS.bipush X45.here hx rfl (hb hby d13_98)) ?_
          refine Go.st (fun _ => XS.iload X45.here hx rfl (hb hby d13_100) rfl) ?_
          refine Go.st (fun _ => XS.isub X45.here hx rfl (hb hby d13_102) rfl) ?_
          refine Go.st (fun _ => XS.lushr X45.here hx rfl (hb hby d13_103) rfl) ?_
          show Go p e below _ (T45.setTop (mkF m 104 #[.val (.ref aL), .val (.ref aC), .val (.int p2), .val (.ref aB), .val (.long qst), .second, .val (.int (1 : Int32)), .val (.long (qst + ((64 : Int64) * ((1 : Int32).toInt64)))), .second, .val (.int jw33), .val (.int sh33)] [(.long (((g ((1 : Int32)).toNatClampNeg).toUInt64 >>> (((64 : Int32) - sh33) &&& 0x3f).toInt64.toUInt64).toInt64)), (.long ((fun k => if k = (jw33).toNatClampNeg then ((f29 (jw33).toNatClampNeg) ||| ((g ((1 : Int32)).toNatClampNeg) <<< (sh33 &&& 0x3f).toInt64)) else f29 k) ((jw33 + (1 : Int32))).toNatClampNeg)), (.int (jw33 + (1 : Int32))), (.ref aC)]))
          refine Go.st (fun _ => XS.lor X45.here hx rfl (hb hby d13_104) rfl) ?_
          obtain ⟨cl49, Ar49, hin49, hat49, Sz49, Nn49, Ha49⟩ := LAr_in VL43 (j := (jw33 + (1 : Int32))) bx33.1 bx33.2
          obtain ⟨T49, h49, X49, e49, W49, st49⟩ := stJ X45 hx hZ e45 Ar49 (j := (jw33 + (1 : Int32))) hin49 (g := (mkF m 105 #[.val (.ref aL), .val (.ref aC), .val (.int p2), .val (.ref aB), .val (.long qst), .second, .val (.int (1 : Int32)), .val (.long (qst + ((64 : Int64) * ((1 : Int32).toInt64)))), .second, .val (.int jw33), .val (.int sh33)] [(.long (((fun k => if k = (jw33).toNatClampNeg then ((f29 (jw33).toNatClampNeg) ||| ((g ((1 : Int32)).toNatClampNeg) <<< (sh33 &&& 0x3f).toInt64)) else f29 k) ((jw33 + (1 : Int32))).toNatClampNeg) ||| (((g ((1 : Int32)).toNatClampNeg).toUInt64 >>> (((64 : Int32) - sh33) &&& 0x3f).toInt64.toUInt64).toInt64))), (.int (jw33 + (1 : Int32))), (.ref aC)])) rfl rfl (hb hby d13_105)
          refine Go.st st49 ?_
          have O50 := O37.wr W49 gC
          have E_51 := E_38.wr W49
          have F52 := F39.other W49 (Or.inl (Ne.symm (LAr_exa VL43 E_38 (ww hw 38 rfl))))
          have F53 := F40.other W49 (Or.inl (Ne.symm (LAr_exa VL43 E_38 (ww hw 38 rfl))))
          have VL54 := LAr_other VL41 W49 (Ne.symm neCB)
          have K55 := K42.wr W49 (Or.inl (List.mem_of_getElem? (i := 0) rfl))
          have VL56 : LAr Z h49 aC (64 * (b0 + b1 + b2)) (fun k => if k = ((jw33 + (1 : Int32))).toNatClampNeg then (((fun k => if k = (jw33).toNatClampNeg then ((f29 (jw33).toNatClampNeg) ||| ((g ((1 : Int32)).toNatClampNeg) <<< (sh33 &&& 0x3f).toInt64)) else f29 k) ((jw33 + (1 : Int32))).toNatClampNeg) ||| (((g ((1 : Int32)).toNatClampNeg).toUInt64 >>> (((64 : Int32) - sh33) &&& 0x3f).toInt64.toUInt64).toInt64)) else (fun k => if k = (jw33).toNatClampNeg then ((f29 (jw33).toNatClampNeg) ||| ((g ((1 : Int32)).toNatClampNeg) <<< (sh33 &&& 0x3f).toInt64)) else f29 k) k) := LAr_set Ar49 Sz49 Nn49 Ha49 W49
          have N49 := Fr.snoc X49 N45 gC
          obtain ⟨f57, V57, I57⟩ : ∃ f', LAr Z h49 aC (64 * (b0 + b1 + b2)) f' ∧ own_put f g sr 2 f' := ⟨_, VL56, put_yes I29 (by omega) hk1 hm2 hT (jx := (1 : Int32)) (by decide) (W := (sr + 64 * 1) / 64) (S := (sr + 64 * 1) % 64) (by omega) (by omega) hjw33 hsh33 hmn45 hc46⟩
          show Go p e below _ (T49.setTop (mkF m 106 #[.val (.ref aL), .val (.ref aC), .val (.int p2), .val (.ref aB), .val (.long qst), .second, .val (.int (1 : Int32)), .val (.long (qst + ((64 : Int64) * ((1 : Int32).toInt64)))), .second, .val (.int jw33), .val (.int sh33)] []))
          refine Go.st (fun _ => XS.iinc X49.here hx rfl (hb hby d13_106) rfl (l' := #[.val (.ref aL), .val (.ref aC), .val (.int p2), .val (.ref aB), .val (.long qst), .second, .val (.int (2 : Int32)), .val (.long (qst + ((64 : Int64) * ((1 : Int32).toInt64)))), .second, .val (.int jw33), .val (.int sh33)]) rfl) ?_
          refine Go.st (fun _ => XS.goto X49.here hx rfl (pc0 := 109) (pc' := 13) rfl (hb hby d13_109) (by decide) (by decide)) ?_
          refine Go.st (fun _ => XS.iload X49.here hx rfl (hb hby d13_13) rfl) ?_
          refine Go.st (fun _ => XS.aloadN X49.here hx rfl (hb hby d13_15) rfl rfl) ?_
          show Go p e below _ (T49.setTop (mkF m 16 #[.val (.ref aL), .val (.ref aC), .val (.int p2), .val (.ref aB), .val (.long qst), .second, .val (.int (2 : Int32)), .val (.long (qst + ((64 : Int64) * ((1 : Int32).toInt64)))), .second, .val (.int jw33), .val (.int sh33)] [(.ref aL), (.int (2 : Int32))]))
          obtain ⟨T58, X58, e58, st58⟩ := getF X49 hx hZ hown (host := "") (Or.inl (ww hw 53 rfl)) Via.refl e49 F53 (g := (mkF m 16 #[.val (.ref aL), .val (.ref aC), .val (.int p2), .val (.ref aB), .val (.long qst), .second, .val (.int (2 : Int32)), .val (.long (qst + ((64 : Int64) * ((1 : Int32).toInt64)))), .second, .val (.int jw33), .val (.int sh33)] [(.ref aL), (.int (2 : Int32))])) rfl rfl (hb hby d13_16)
          refine Go.st st58 ?_
          have no3 : ¬ (2 : Int32) < wd := by rw [Int32.lt_iff_toInt_lt, hwd, show (2 : Int32).toInt = 2 from rfl]; omega
          refine Go.st (fun _ => XS.icmpYes X58.here hx rfl (pc0 := 19) (pc' := 112) rfl (hb hby d13_19) rfl (flt no3).2.1 (by decide) (by decide)) ?_
          show Go p e below _ (T58.setTop (mkF m 112 #[.val (.ref aL), .val (.ref aC), .val (.int p2), .val (.ref aB), .val (.long qst), .second, .val (.int (2 : Int32)), .val (.long (qst + ((64 : Int64) * ((1 : Int32).toInt64)))), .second, .val (.int jw33), .val (.int sh33)] []))
          have hnk : ((b0 + b1 + b2 + 63) / 64) = 2 := by omega
          rw [← hnk] at I57
          exact goRetV X58 hx hlk hret e58 (hb hby d13_112) (by decide) (by decide) ⟨rfl, N49, K55, _, V57, I57⟩
        · refine Go.st (fun _ => XS.icmpYes X45.here hx rfl (pc0 := 84) (pc' := 106) rfl (hb hby d13_84) rfl (flt hc46).2.2.2 (by decide) (by decide)) ?_
          obtain ⟨f59, V59, I59⟩ : ∃ f', LAr Z h36 aC (64 * (b0 + b1 + b2)) f' ∧ own_put f g sr 2 f' := ⟨_, VL43, put_no I29 (by omega) hk1 hm2 hT (jx := (1 : Int32)) (by decide) hg (W := (sr + 64 * 1) / 64) (S := (sr + 64 * 1) % 64) (by omega) (by omega) hjw33 hsh33 hmn45 hc46⟩
          show Go p e below _ (T45.setTop (mkF m 106 #[.val (.ref aL), .val (.ref aC), .val (.int p2), .val (.ref aB), .val (.long qst), .second, .val (.int (1 : Int32)), .val (.long (qst + ((64 : Int64) * ((1 : Int32).toInt64)))), .second, .val (.int jw33), .val (.int sh33)] []))
          refine Go.st (fun _ => XS.iinc X45.here hx rfl (hb hby d13_106) rfl (l' := #[.val (.ref aL), .val (.ref aC), .val (.int p2), .val (.ref aB), .val (.long qst), .second, .val (.int (2 : Int32)), .val (.long (qst + ((64 : Int64) * ((1 : Int32).toInt64)))), .second, .val (.int jw33), .val (.int sh33)]) rfl) ?_
          refine Go.st (fun _ => XS.goto X45.here hx rfl (pc0 := 109) (pc' := 13) rfl (hb hby d13_109) (by decide) (by decide)) ?_
          refine Go.st (fun _ => XS.iload X45.here hx rfl (hb hby d13_13) rfl) ?_
          refine Go.st (fun _ => XS.aloadN X45.here hx rfl (hb hby d13_15) rfl rfl) ?_
          show Go p e below _ (T45.setTop (mkF m 16 #[.val (.ref aL), .val (.ref aC), .val (.int p2), .val (.ref aB), .val (.long qst), .second, .val (.int (2 : Int32)), .val (.long (qst + ((64 : Int64) * ((1 : Int32).toInt64)))), .second, .val (.int jw33), .val (.int sh33)] [(.ref aL), (.int (2 : Int32))]))
          obtain ⟨T60, X60, e60, st60⟩ := getF X45 hx hZ hown (host := "") (Or.inl (ww hw 53 rfl)) Via.refl e45 F40 (g := (mkF m 16 #[.val (.ref aL), .val (.ref aC), .val (.int p2), .val (.ref aB), .val (.long qst), .second, .val (.int (2 : Int32)), .val (.long (qst + ((64 : Int64) * ((1 : Int32).toInt64)))), .second, .val (.int jw33), .val (.int sh33)] [(.ref aL), (.int (2 : Int32))])) rfl rfl (hb hby d13_16)
          refine Go.st st60 ?_
          have no3 : ¬ (2 : Int32) < wd := by rw [Int32.lt_iff_toInt_lt, hwd, show (2 : Int32).toInt = 2 from rfl]; omega
          refine Go.st (fun _ => XS.icmpYes X60.here hx rfl (pc0 := 19) (pc' := 112) rfl (hb hby d13_19) rfl (flt no3).2.1 (by decide) (by decide)) ?_
          show Go p e below _ (T60.setTop (mkF m 112 #[.val (.ref aL), .val (.ref aC), .val (.int p2), .val (.ref aB), .val (.long qst), .second, .val (.int (2 : Int32)), .val (.long (qst + ((64 : Int64) * ((1 : Int32).toInt64)))), .second, .val (.int jw33), .val (.int sh33)] []))
          have hnk : ((b0 + b1 + b2 + 63) / 64) = 2 := by omega
          rw [← hnk] at I59
          exact goRetV X60 hx hlk hret e60 (hb hby d13_112) (by decide) (by decide) ⟨rfl, N45, K42, _, V59, I59⟩
      · refine Go.st (fun _ => XS.icmpYes X30.here hx rfl (pc0 := 19) (pc' := 112) rfl (hb hby d13_19) rfl (flt hc31).2.1 (by decide) (by decide)) ?_
        show Go p e below _ (T30.setTop (mkF m 112 #[.val (.ref aL), .val (.ref aC), .val (.int p2), .val (.ref aB), .val (.long qst), .second, .val (.int (1 : Int32)), .val (.long (qst + ((64 : Int64) * ((0 : Int32).toInt64)))), .second, .val (.int jw5), .val (.int sh5)] []))
        have hn61 := hc31
        rw [Int32.lt_iff_toInt_lt, hwd, show ((1 : Int32)).toInt = 1 from rfl] at hn61
        have hnk : ((b0 + b1 + b2 + 63) / 64) = 1 := by omega
        rw [← hnk] at I29
        exact goRetV X30 hx hlk hret e30 (hb hby d13_112) (by decide) (by decide) ⟨rfl, N21, K27, _, V29, I29⟩
    · refine Go.st (fun _ => XS.icmpYes X17.here hx rfl (pc0 := 84) (pc' := 106) rfl (hb hby d13_84) rfl (flt hc18).2.2.2 (by decide) (by decide)) ?_
      obtain ⟨f62, V62, I62⟩ : ∃ f', LAr Z h8 aC (64 * (b0 + b1 + b2)) f' ∧ own_put f g sr 1 f' := ⟨_, VL15, put_no I_0 (by omega) hk0 hm2 hT (jx := (0 : Int32)) (by decide) hg (W := (sr + 64 * 0) / 64) (S := (sr + 64 * 0) % 64) (by omega) (by omega) hjw5 hsh5 hmn17 hc18⟩
      show Go p e below _ (T17.setTop (mkF m 106 #[.val (.ref aL), .val (.ref aC), .val (.int p2), .val (.ref aB), .val (.long qst), .second, .val (.int (0 : Int32)), .val (.long (qst + ((64 : Int64) * ((0 : Int32).toInt64)))), .second, .val (.int jw5), .val (.int sh5)] []))
      refine Go.st (fun _ => XS.iinc X17.here hx rfl (hb hby d13_106) rfl (l' := #[.val (.ref aL), .val (.ref aC), .val (.int p2), .val (.ref aB), .val (.long qst), .second, .val (.int (1 : Int32)), .val (.long (qst + ((64 : Int64) * ((0 : Int32).toInt64)))), .second, .val (.int jw5), .val (.int sh5)]) rfl) ?_
      refine Go.st (fun _ => XS.goto X17.here hx rfl (pc0 := 109) (pc' := 13) rfl (hb hby d13_109) (by decide) (by decide)) ?_
      refine Go.st (fun _ => XS.iload X17.here hx rfl (hb hby d13_13) rfl) ?_
      refine Go.st (fun _ => XS.aloadN X17.here hx rfl (hb hby d13_15) rfl rfl) ?_
      show Go p e below _ (T17.setTop (mkF m 16 #[.val (.ref aL), .val (.ref aC), .val (.int p2), .val (.ref aB), .val (.long qst), .second, .val (.int (1 : Int32)), .val (.long (qst + ((64 : Int64) * ((0 : Int32).toInt64)))), .second, .val (.int jw5), .val (.int sh5)] [(.ref aL), (.int (1 : Int32))]))
      obtain ⟨T63, X63, e63, st63⟩ := getF X17 hx hZ hown (host := "") (Or.inl (ww hw 53 rfl)) Via.refl e17 F12 (g := (mkF m 16 #[.val (.ref aL), .val (.ref aC), .val (.int p2), .val (.ref aB), .val (.long qst), .second, .val (.int (1 : Int32)), .val (.long (qst + ((64 : Int64) * ((0 : Int32).toInt64)))), .second, .val (.int jw5), .val (.int sh5)] [(.ref aL), (.int (1 : Int32))])) rfl rfl (hb hby d13_16)
      refine Go.st st63 ?_
      by_cases hc64 : (1 : Int32) < wd
      · refine Go.st (fun _ => XS.icmpNo X63.here hx rfl (hb hby d13_19) rfl (tlt hc64).2.1) ?_
        have hn65 := hc64
        rw [Int32.lt_iff_toInt_lt, hwd, show ((1 : Int32)).toInt = 1 from rfl] at hn65
        have hk1 : 1 < ((b0 + b1 + b2 + 63) / 64) := by omega
        refine Go.st (fun _ => XS.lload X63.here hx rfl (hb hby d13_22) rfl) ?_
        refine Go.st (fun _ => X63.ldc2Long hx hown (mvT hZ (ww hw 93 rfl)) (g := (mkF m 24 #[.val (.ref aL), .val (.ref aC), .val (.int p2), .val (.ref aB), .val (.long qst), .second, .val (.int (1 : Int32)), .val (.long (qst + ((64 : Int64) * ((0 : Int32).toInt64)))), .second, .val (.int jw5), .val (.int sh5)] [(.long qst)])) rfl (hb hby d13_24) _) ?_
        show Go p e below _ (T63.setTop (mkF m 27 #[.val (.ref aL), .val (.ref aC), .val (.int p2), .val (.ref aB), .val (.long qst), .second, .val (.int (1 : Int32)), .val (.long (qst + ((64 : Int64) * ((0 : Int32).toInt64)))), .second, .val (.int jw5), .val (.int sh5)] [(.long (64 : Int64)), (.long qst)]))
        refine Go.st (fun _ => XS.iload X63.here hx rfl (hb hby d13_27) rfl) ?_
        refine Go.st (fun _ => XS.i2l X63.here hx rfl (hb hby d13_29) rfl) ?_
        refine Go.st (fun _ => XS.lmul X63.here hx rfl (hb hby d13_30) rfl) ?_
        refine Go.st (fun _ => XS.ladd X63.here hx rfl (hb hby d13_31) rfl) ?_
        show Go p e below _ (T63.setTop (mkF m 32 #[.val (.ref aL), .val (.ref aC), .val (.int p2), .val (.ref aB), .val (.long qst), .second, .val (.int (1 : Int32)), .val (.long (qst + ((64 : Int64) * ((0 : Int32).toInt64)))), .second, .val (.int jw5), .val (.int sh5)] [(.long (qst + ((64 : Int64) * ((1 : Int32).toInt64))))]))
        refine Go.st (fun _ => XS.lstore X63.here hx rfl (hb hby d13_32) rfl (l' := #[.val (.ref aL), .val (.ref aC), .val (.int p2), .val (.ref aB), .val (.long qst), .second, .val (.int (1 : Int32)), .val (.long (qst + ((64 : Int64) * ((1 : Int32).toInt64)))), .second, .val (.int jw5), .val (.int sh5)]) rfl) ?_
        refine Go.st (fun _ => XS.lload X63.here hx rfl (hb hby d13_34) rfl) ?_
        refine Go.st (fun _ => XS.bipush X63.here hx rfl (hb hby d13_36)) ?_
        refine Go.st (fun _ => XS.lushr X63.here hx rfl (hb hby d13_38) rfl) ?_
        show Go p e below _ (T63.setTop (mkF m 39 #[.val (.ref aL), .val (.ref aC), .val (.int p2), .val (.ref aB), .val (.long qst), .second, .val (.int (1 : Int32)), .val (.long (qst + ((64 : Int64) * ((1 : Int32).toInt64)))), .second, .val (.int jw5), .val (.int sh5)] [(.long (((qst + ((64 : Int64) * ((1 : Int32).toInt64))).toUInt64 >>> ((6 : Int32) &&& 0x3f).toInt64.toUInt64).toInt64))]))
        refine Go.st (fun _ => XS.l2i X63.here hx rfl (hb hby d13_39) rfl) ?_
        refine Go.st (fun _ => XS.istore X63.here hx rfl (hb hby d13_40) rfl (l' := #[.val (.ref aL), .val (.ref aC), .val (.int p2), .val (.ref aB), .val (.long qst), .second, .val (.int (1 : Int32)), .val (.long (qst + ((64 : Int64) * ((1 : Int32).toInt64)))), .second, .val (.int ((((qst + ((64 : Int64) * ((1 : Int32).toInt64))).toUInt64 >>> ((6 : Int32) &&& 0x3f).toInt64.toUInt64).toInt64).toInt32)), .val (.int sh5)]) rfl) ?_
        refine Go.st (fun _ => XS.lload X63.here hx rfl (hb hby d13_42) rfl) ?_
        refine Go.st (fun _ => XS.l2i X63.here hx rfl (hb hby d13_44) rfl) ?_
        show Go p e below _ (T63.setTop (mkF m 45 #[.val (.ref aL), .val (.ref aC), .val (.int p2), .val (.ref aB), .val (.long qst), .second, .val (.int (1 : Int32)), .val (.long (qst + ((64 : Int64) * ((1 : Int32).toInt64)))), .second, .val (.int ((((qst + ((64 : Int64) * ((1 : Int32).toInt64))).toUInt64 >>> ((6 : Int32) &&& 0x3f).toInt64.toUInt64).toInt64).toInt32)), .val (.int sh5)] [(.int ((qst + ((64 : Int64) * ((1 : Int32).toInt64))).toInt32))]))
        refine Go.st (fun _ => XS.bipush X63.here hx rfl (hb hby d13_45)) ?_
        refine Go.st (fun _ => XS.iand X63.here hx rfl (hb hby d13_47) rfl) ?_
        refine Go.st (fun _ => XS.istore X63.here hx rfl (hb hby d13_48) rfl (l' := #[.val (.ref aL), .val (.ref aC), .val (.int p2), .val (.ref aB), .val (.long qst), .second, .val (.int (1 : Int32)), .val (.long (qst + ((64 : Int64) * ((1 : Int32).toInt64)))), .second, .val (.int ((((qst + ((64 : Int64) * ((1 : Int32).toInt64))).toUInt64 >>> ((6 : Int32) &&& 0x3f).toInt64.toUInt64).toInt64).toInt32)), .val (.int (((qst + ((64 : Int64) * ((1 : Int32).toInt64))).toInt32) &&& (63 : Int32)))]) rfl) ?_
        have hbt66 : ((qst + ((64 : Int64) * ((1 : Int32).toInt64)))).toInt = ((sr + 64 * 1 : Nat) : Int) := own_addJ hs0 (y := 64 * 1) (by decide) (by omega)
        show Go p e below _ (T63.setTop (mkF m 50 #[.val (.ref aL), .val (.ref aC), .val (.int p2), .val (.ref aB), .val (.long qst), .second, .val (.int (1 : Int32)), .val (.long (qst + ((64 : Int64) * ((1 : Int32).toInt64)))), .second, .val (.int ((((qst + ((64 : Int64) * ((1 : Int32).toInt64))).toUInt64 >>> ((6 : Int32) &&& 0x3f).toInt64.toUInt64).toInt64).toInt32)), .val (.int (((qst + ((64 : Int64) * ((1 : Int32).toInt64))).toInt32) &&& (63 : Int32)))] []))
        obtain ⟨jw66, ejw66⟩ : ∃ z, z = ((((qst + ((64 : Int64) * ((1 : Int32).toInt64))).toUInt64 >>> ((6 : Int32) &&& 0x3f).toInt64.toUInt64).toInt64).toInt32) := ⟨_, rfl⟩
        rw [← ejw66]
        show Go p e below _ (T63.setTop (mkF m 50 #[.val (.ref aL), .val (.ref aC), .val (.int p2), .val (.ref aB), .val (.long qst), .second, .val (.int (1 : Int32)), .val (.long (qst + ((64 : Int64) * ((1 : Int32).toInt64)))), .second, .val (.int jw66), .val (.int (((qst + ((64 : Int64) * ((1 : Int32).toInt64))).toInt32) &&& (63 : Int32)))] []))
        obtain ⟨sh66, esh66⟩ : ∃ z, z = (((qst + ((64 : Int64) * ((1 : Int32).toInt64))).toInt32) &&& (63 : Int32)) := ⟨_, rfl⟩
        rw [← esh66]
        have hjw66 : jw66.toInt = (((sr + 64 * 1) / 64 : Nat) : Int) := by rw [ejw66]; exact own_word hbt66 (by omega)
        have hsh66 : sh66.toInt = (((sr + 64 * 1) % 64 : Nat) : Int) := by rw [esh66]; exact own_sh hbt66 (by omega)
        have bw66 : 0 ≤ (jw66).toInt ∧ (jw66).toInt < (((64 * (b0 + b1 + b2)) : Nat) : Int) := ⟨by rw [hjw66]; omega, by rw [hjw66]; omega⟩
        have bx66 : 0 ≤ (jw66 + (1 : Int32)).toInt ∧ (jw66 + (1 : Int32)).toInt < (((64 * (b0 + b1 + b2)) : Nat) : Int) := by rw [add_toInt hjw66 (b := (1 : Int32)) (y := 1) rfl (by omega)]; exact ⟨by omega, by omega⟩
        have bk66 : 0 ≤ ((1 : Int32)).toInt ∧ ((1 : Int32)).toInt < ((((b0 + b1 + b2 + 63) / 64) : Nat) : Int) := ⟨by decide, by rw [show ((1 : Int32)).toInt = 1 from rfl]; omega⟩
        show Go p e below _ (T63.setTop (mkF m 50 #[.val (.ref aL), .val (.ref aC), .val (.int p2), .val (.ref aB), .val (.long qst), .second, .val (.int (1 : Int32)), .val (.long (qst + ((64 : Int64) * ((1 : Int32).toInt64)))), .second, .val (.int jw66), .val (.int sh66)] []))
        show Go p e below _ (T63.setTop (mkF m 50 #[.val (.ref aL), .val (.ref aC), .val (.int p2), .val (.ref aB), .val (.long qst), .second, .val (.int (1 : Int32)), .val (.long (qst + ((64 : Int64) * ((1 : Int32).toInt64)))), .second, .val (.int jw66), .val (.int sh66)] []))
        refine Go.st (fun _ => XS.aloadN X63.here hx rfl (hb hby d13_50) rfl rfl) ?_
        refine Go.st (fun _ => XS.iload X63.here hx rfl (hb hby d13_51) rfl) ?_
        refine Go.st (fun _ => fun k => Jvm.Free.XT.dup2 (g := (mkF m 53 #[.val (.ref aL), .val (.ref aC), .val (.int p2), .val (.ref aB), .val (.long qst), .second, .val (.int (1 : Int32)), .val (.long (qst + ((64 : Int64) * ((1 : Int32).toInt64)))), .second, .val (.int jw66), .val (.int sh66)] [(.int jw66), (.ref aC)])) X63.here hx rfl (hb hby d13_53) rfl rfl rfl k) ?_
        obtain ⟨cl67, Ar67, hin67, hat67, -⟩ := LAr_in V62 (j := jw66) bw66.1 bw66.2
        refine Go.st (fun _ => X63.laload hx (j := jw66) (v := (.long (f62 (jw66).toNatClampNeg))) (by rw [e63]; exact Ar67.1) (State.isArrayOf_alike hZ.alike Ar67.2.1) Ar67.2.2 hin67 hat67 (g := (mkF m 54 #[.val (.ref aL), .val (.ref aC), .val (.int p2), .val (.ref aB), .val (.long qst), .second, .val (.int (1 : Int32)), .val (.long (qst + ((64 : Int64) * ((1 : Int32).toInt64)))), .second, .val (.int jw66), .val (.int sh66)] [(.int jw66), (.ref aC), (.int jw66), (.ref aC)])) rfl rfl (hb hby d13_54) _) ?_
        show Go p e below _ (T63.setTop (mkF m 55 #[.val (.ref aL), .val (.ref aC), .val (.int p2), .val (.ref aB), .val (.long qst), .second, .val (.int (1 : Int32)), .val (.long (qst + ((64 : Int64) * ((1 : Int32).toInt64)))), .second, .val (.int jw66), .val (.int sh66)] [(.long (f62 (jw66).toNatClampNeg)), (.int jw66), (.ref aC)]))
        refine Go.st (fun _ => XS.aloadN X63.here hx rfl (hb hby d13_55) rfl rfl) ?_
        refine Go.st (fun _ => XS.iload X63.here hx rfl (hb hby d13_56) rfl) ?_
        obtain ⟨cl68, Ar68, hin68, hat68, -⟩ := LAr_in VL13 (j := (1 : Int32)) bk66.1 bk66.2
        refine Go.st (fun _ => X63.laload hx (j := (1 : Int32)) (v := (.long (g ((1 : Int32)).toNatClampNeg))) (by rw [e63]; exact Ar68.1) (State.isArrayOf_alike hZ.alike Ar68.2.1) Ar68.2.2 hin68 hat68 (g := (mkF m 58 #[.val (.ref aL), .val (.ref aC), .val (.int p2), .val (.ref aB), .val (.long qst), .second, .val (.int (1 : Int32)), .val (.long (qst + ((64 : Int64) * ((1 : Int32).toInt64)))), .second, .val (.int jw66), .val (.int sh66)] [(.int (1 : Int32)), (.ref aB), (.long (f62 (jw66).toNatClampNeg)), (.int jw66), (.ref aC)])) rfl rfl (hb hby d13_58) _) ?_
        refine Go.st (fun _ => XS.iload X63.here hx rfl (hb hby d13_59) rfl) ?_
        show Go p e below _ (T63.setTop (mkF m 61 #[.val (.ref aL), .val (.ref aC), .val (.int p2), .val (.ref aB), .val (.long qst), .second, .val (.int (1 : Int32)), .val (.long (qst + ((64 : Int64) * ((1 : Int32).toInt64)))), .second, .val (.int jw66), .val (.int sh66)] [(.int sh66), (.long (g ((1 : Int32)).toNatClampNeg)), (.long (f62 (jw66).toNatClampNeg)), (.int jw66), (.ref aC)]))
        refine Go.st (fun _ => XS.lshl X63.here hx rfl (hb hby d13_61) rfl) ?_
        refine Go.st (fun _ => XS.lor X63.here hx rfl (hb hby d13_62) rfl) ?_
        obtain ⟨cl69, Ar69, hin69, hat69, Sz69, Nn69, Ha69⟩ := LAr_in V62 (j := jw66) bw66.1 bw66.2
        obtain ⟨T69, h69, X69, e69, W69, st69⟩ := stJ X63 hx hZ e63 Ar69 (j := jw66) hin69 (g := (mkF m 63 #[.val (.ref aL), .val (.ref aC), .val (.int p2), .val (.ref aB), .val (.long qst), .second, .val (.int (1 : Int32)), .val (.long (qst + ((64 : Int64) * ((1 : Int32).toInt64)))), .second, .val (.int jw66), .val (.int sh66)] [(.long ((f62 (jw66).toNatClampNeg) ||| ((g ((1 : Int32)).toNatClampNeg) <<< (sh66 &&& 0x3f).toInt64))), (.int jw66), (.ref aC)])) rfl rfl (hb hby d13_63)
        refine Go.st st69 ?_
        have O70 := O9.wr W69 gC
        have E_71 := E_10.wr W69
        have F72 := F11.other W69 (Or.inl (Ne.symm (LAr_exa V62 E_10 (ww hw 38 rfl))))
        have F73 := F12.other W69 (Or.inl (Ne.symm (LAr_exa V62 E_10 (ww hw 38 rfl))))
        have VL74 := LAr_other VL13 W69 (Ne.symm neCB)
        have K75 := K14.wr W69 (Or.inl (List.mem_of_getElem? (i := 0) rfl))
        have VL76 : LAr Z h69 aC (64 * (b0 + b1 + b2)) (fun k => if k = (jw66).toNatClampNeg then ((f62 (jw66).toNatClampNeg) ||| ((g ((1 : Int32)).toNatClampNeg) <<< (sh66 &&& 0x3f).toInt64)) else f62 k) := LAr_set Ar69 Sz69 Nn69 Ha69 W69
        have N69 := Fr.snoc X69 N17 gC
        refine Go.st (fun _ => XS.iload X69.here hx rfl (hb hby d13_64) rfl) ?_
        show Go p e below _ (T69.setTop (mkF m 66 #[.val (.ref aL), .val (.ref aC), .val (.int p2), .val (.ref aB), .val (.long qst), .second, .val (.int (1 : Int32)), .val (.long (qst + ((64 : Int64) * ((1 : Int32).toInt64)))), .second, .val (.int jw66), .val (.int sh66)] [(.int sh66)]))
        refine Go.st (fun _ => XS.bipush X69.here hx rfl (hb hby d13_66)) ?_
        refine Go.st (fun _ => XS.aloadN X69.here hx rfl (hb hby d13_68) rfl rfl) ?_
        obtain ⟨T77, X77, e77, st77⟩ := getF X69 hx hZ hown (host := "") (Or.inl (ww hw 47 rfl)) Via.refl e69 F72 (g := (mkF m 69 #[.val (.ref aL), .val (.ref aC), .val (.int p2), .val (.ref aB), .val (.long qst), .second, .val (.int (1 : Int32)), .val (.long (qst + ((64 : Int64) * ((1 : Int32).toInt64)))), .second, .val (.int jw66), .val (.int sh66)] [(.ref aL), (.int (64 : Int32)), (.int sh66)])) rfl rfl (hb hby d13_69)
        refine Go.st st77 ?_
        refine Go.st (fun _ => XS.bipush X77.here hx rfl (hb hby d13_72)) ?_
        show Go p e below _ (T77.setTop (mkF m 74 #[.val (.ref aL), .val (.ref aC), .val (.int p2), .val (.ref aB), .val (.long qst), .second, .val (.int (1 : Int32)), .val (.long (qst + ((64 : Int64) * ((1 : Int32).toInt64)))), .second, .val (.int jw66), .val (.int sh66)] [(.int (64 : Int32)), (.int rb), (.int (64 : Int32)), (.int sh66)]))
        refine Go.st (fun _ => XS.iload X77.here hx rfl (hb hby d13_74) rfl) ?_
        refine Go.st (fun _ => XS.imul X77.here hx rfl (hb hby d13_76) rfl) ?_
        refine Go.st (fun _ => XS.isub X77.here hx rfl (hb hby d13_77) rfl) ?_
        refine goCallS X77 hx hZ (y := (⟨"java/lang/Math", "min", "(II)I"⟩ : MethodName)) hown (ww hw 94 rfl) (ww hw 32 rfl) (ww hw 21 rfl) (ww hw 33 rfl) (by decide) (argsL := [(.int (64 : Int32)), (.int (rb - (64 : Int32)))]) (rest := [(.int sh66)]) e77 (rm_min l Z a0 hw [] (64 : Int32) (rb - (64 : Int32)) h69 n0 O70) 1 (by decide) (by decide) (by decide) (by decide) (mkF m 78 #[.val (.ref aL), .val (.ref aC), .val (.int p2), .val (.ref aB), .val (.long qst), .second, .val (.int (1 : Int32)), .val (.long (qst + ((64 : Int64) * ((1 : Int32).toInt64)))), .second, .val (.int jw66), .val (.int sh66)] [(.int (rb - (64 : Int32))), (.int (64 : Int32)), (.int sh66)]) rfl (by rw [hml]; rfl) (lenOf pd_2 rfl) rfl (hb hby d13_78) (Nat.le_of_eq rfl) ?_
        intro v78 T78 L78 X78 hQ78
        obtain ⟨⟨m78, rfl, em78⟩, M78, e78⟩ := hQ78
        have N78 := Fr.app N69 M78
        show Go p e below _ (T78.setTop (mkF m 81 #[.val (.ref aL), .val (.ref aC), .val (.int p2), .val (.ref aB), .val (.long qst), .second, .val (.int (1 : Int32)), .val (.long (qst + ((64 : Int64) * ((1 : Int32).toInt64)))), .second, .val (.int jw66), .val (.int sh66)] [(.int m78), (.int sh66)]))
        refine Go.st (fun _ => XS.iadd X78.here hx rfl (hb hby d13_81) rfl) ?_
        have hmn78 := own_mn hrb hT (k := 1) (by decide) (c := (64 : Int32)) (by decide) em78
        refine Go.st (fun _ => XS.bipush X78.here hx rfl (hb hby d13_82)) ?_
        by_cases hc79 : (64 : Int32) < (sh66 + m78)
        · refine Go.st (fun _ => XS.icmpNo X78.here hx rfl (hb hby d13_84) rfl (tlt hc79).2.2.2) ?_
          refine Go.st (fun _ => XS.aloadN X78.here hx rfl (hb hby d13_87) rfl rfl) ?_
          show Go p e below _ (T78.setTop (mkF m 88 #[.val (.ref aL), .val (.ref aC), .val (.int p2), .val (.ref aB), .val (.long qst), .second, .val (.int (1 : Int32)), .val (.long (qst + ((64 : Int64) * ((1 : Int32).toInt64)))), .second, .val (.int jw66), .val (.int sh66)] [(.ref aC)]))
          refine Go.st (fun _ => XS.iload X78.here hx rfl (hb hby d13_88) rfl) ?_
          refine Go.st (fun _ => XS.iconst X78.here hx rfl (hb hby d13_90)) ?_
          refine Go.st (fun _ => XS.iadd X78.here hx rfl (hb hby d13_91) rfl) ?_
          refine Go.st (fun _ => fun k => Jvm.Free.XT.dup2 (g := (mkF m 92 #[.val (.ref aL), .val (.ref aC), .val (.int p2), .val (.ref aB), .val (.long qst), .second, .val (.int (1 : Int32)), .val (.long (qst + ((64 : Int64) * ((1 : Int32).toInt64)))), .second, .val (.int jw66), .val (.int sh66)] [(.int (jw66 + (1 : Int32))), (.ref aC)])) X78.here hx rfl (hb hby d13_92) rfl rfl rfl k) ?_
          show Go p e below _ (T78.setTop (mkF m 93 #[.val (.ref aL), .val (.ref aC), .val (.int p2), .val (.ref aB), .val (.long qst), .second, .val (.int (1 : Int32)), .val (.long (qst + ((64 : Int64) * ((1 : Int32).toInt64)))), .second, .val (.int jw66), .val (.int sh66)] [(.int (jw66 + (1 : Int32))), (.ref aC), (.int (jw66 + (1 : Int32))), (.ref aC)]))
          obtain ⟨cl80, Ar80, hin80, hat80, -⟩ := LAr_in VL76 (j := (jw66 + (1 : Int32))) bx66.1 bx66.2
          refine Go.st (fun _ => X78.laload hx (j := (jw66 + (1 : Int32))) (v := (.long ((fun k => if k = (jw66).toNatClampNeg then ((f62 (jw66).toNatClampNeg) ||| ((g ((1 : Int32)).toNatClampNeg) <<< (sh66 &&& 0x3f).toInt64)) else f62 k) ((jw66 + (1 : Int32))).toNatClampNeg))) (by rw [e78]; exact Ar80.1) (State.isArrayOf_alike hZ.alike Ar80.2.1) Ar80.2.2 hin80 hat80 (g := (mkF m 93 #[.val (.ref aL), .val (.ref aC), .val (.int p2), .val (.ref aB), .val (.long qst), .second, .val (.int (1 : Int32)), .val (.long (qst + ((64 : Int64) * ((1 : Int32).toInt64)))), .second, .val (.int jw66), .val (.int sh66)] [(.int (jw66 + (1 : Int32))), (.ref aC), (.int (jw66 + (1 : Int32))), (.ref aC)])) rfl rfl (hb hby d13_93) _) ?_
          refine Go.st (fun _ => XS.aloadN X78.here hx rfl (hb hby d13_94) rfl rfl) ?_
          refine Go.st (fun _ => XS.iload X78.here hx rfl (hb hby d13_95) rfl) ?_
          obtain ⟨cl81, Ar81, hin81, hat81, -⟩ := LAr_in VL74 (j := (1 : Int32)) bk66.1 bk66.2
          refine Go.st (fun _ => X78.laload hx (j := (1 : Int32)) (v := (.long (g ((1 : Int32)).toNatClampNeg))) (by rw [e78]; exact Ar81.1) (State.isArrayOf_alike hZ.alike Ar81.2.1) Ar81.2.2 hin81 hat81 (g := (mkF m 97 #[.val (.ref aL), .val (.ref aC), .val (.int p2), .val (.ref aB), .val (.long qst), .second, .val (.int (1 : Int32)), .val (.long (qst + ((64 : Int64) * ((1 : Int32).toInt64)))), .second, .val (.int jw66), .val (.int sh66)] [(.int (1 : Int32)), (.ref aB), (.long ((fun k => if k = (jw66).toNatClampNeg then ((f62 (jw66).toNatClampNeg) ||| ((g ((1 : Int32)).toNatClampNeg) <<< (sh66 &&& 0x3f).toInt64)) else f62 k) ((jw66 + (1 : Int32))).toNatClampNeg)), (.int (jw66 + (1 : Int32))), (.ref aC)])) rfl rfl (hb hby d13_97) _) ?_
          show Go p e below _ (T78.setTop (mkF m 98 #[.val (.ref aL), .val (.ref aC), .val (.int p2), .val (.ref aB), .val (.long qst), .second, .val (.int (1 : Int32)), .val (.long (qst + ((64 : Int64) * ((1 : Int32).toInt64)))), .second, .val (.int jw66), .val (.int sh66)] [(.long (g ((1 : Int32)).toNatClampNeg)), (.long ((fun k => if k = (jw66).toNatClampNeg then ((f62 (jw66).toNatClampNeg) ||| ((g ((1 : Int32)).toNatClampNeg) <<< (sh66 &&& 0x3f).toInt64)) else f62 k) ((jw66 + (1 : Int32))).toNatClampNeg)), (.int (jw66 + (1 : Int32))), (.ref aC)]))
          refine Go.st (fun _ => XS.bipush X78.here hx rfl (hb hby d13_98)) ?_
          refine Go.st (fun _ => XS.iload X78.here hx rfl (hb hby d13_100) rfl) ?_
          refine Go.st (fun _ => XS.isub X78.here hx rfl (hb hby d13_102) rfl) ?_
          refine Go.st (fun _ => XS.lushr X78.here hx rfl (hb hby d13_103) rfl) ?_
          show Go p e below _ (T78.setTop (mkF m 104 #[.val (.ref aL), .val (.ref aC), .val (.int p2), .val (.ref aB), .val (.long qst), .second, .val (.int (1 : Int32)), .val (.long (qst + ((64 : Int64) * ((1 : Int32).toInt64)))), .second, .val (.int jw66), .val (.int sh66)] [(.long (((g ((1 : Int32)).toNatClampNeg).toUInt64 >>> (((64 : Int32) - sh66) &&& 0x3f).toInt64.toUInt64).toInt64)), (.long ((fun k => if k = (jw66).toNatClampNeg then ((f62 (jw66).toNatClampNeg) ||| ((g ((1 : Int32)).toNatClampNeg) <<< (sh66 &&& 0x3f).toInt64)) else f62 k) ((jw66 + (1 : Int32))).toNatClampNeg)), (.int (jw66 + (1 : Int32))), (.ref aC)]))
          refine Go.st (fun _ => XS.lor X78.here hx rfl (hb hby d13_104) rfl) ?_
          obtain ⟨cl82, Ar82, hin82, hat82, Sz82, Nn82, Ha82⟩ := LAr_in VL76 (j := (jw66 + (1 : Int32))) bx66.1 bx66.2
          obtain ⟨T82, h82, X82, e82, W82, st82⟩ := stJ X78 hx hZ e78 Ar82 (j := (jw66 + (1 : Int32))) hin82 (g := (mkF m 105 #[.val (.ref aL), .val (.ref aC), .val (.int p2), .val (.ref aB), .val (.long qst), .second, .val (.int (1 : Int32)), .val (.long (qst + ((64 : Int64) * ((1 : Int32).toInt64)))), .second, .val (.int jw66), .val (.int sh66)] [(.long (((fun k => if k = (jw66).toNatClampNeg then ((f62 (jw66).toNatClampNeg) ||| ((g ((1 : Int32)).toNatClampNeg) <<< (sh66 &&& 0x3f).toInt64)) else f62 k) ((jw66 + (1 : Int32))).toNatClampNeg) ||| (((g ((1 : Int32)).toNatClampNeg).toUInt64 >>> (((64 : Int32) - sh66) &&& 0x3f).toInt64.toUInt64).toInt64))), (.int (jw66 + (1 : Int32))), (.ref aC)])) rfl rfl (hb hby d13_105)
          refine Go.st st82 ?_
          have O83 := O70.wr W82 gC
          have E_84 := E_71.wr W82
          have F85 := F72.other W82 (Or.inl (Ne.symm (LAr_exa VL76 E_71 (ww hw 38 rfl))))
          have F86 := F73.other W82 (Or.inl (Ne.symm (LAr_exa VL76 E_71 (ww hw 38 rfl))))
          have VL87 := LAr_other VL74 W82 (Ne.symm neCB)
          have K88 := K75.wr W82 (Or.inl (List.mem_of_getElem? (i := 0) rfl))
          have VL89 : LAr Z h82 aC (64 * (b0 + b1 + b2)) (fun k => if k = ((jw66 + (1 : Int32))).toNatClampNeg then (((fun k => if k = (jw66).toNatClampNeg then ((f62 (jw66).toNatClampNeg) ||| ((g ((1 : Int32)).toNatClampNeg) <<< (sh66 &&& 0x3f).toInt64)) else f62 k) ((jw66 + (1 : Int32))).toNatClampNeg) ||| (((g ((1 : Int32)).toNatClampNeg).toUInt64 >>> (((64 : Int32) - sh66) &&& 0x3f).toInt64.toUInt64).toInt64)) else (fun k => if k = (jw66).toNatClampNeg then ((f62 (jw66).toNatClampNeg) ||| ((g ((1 : Int32)).toNatClampNeg) <<< (sh66 &&& 0x3f).toInt64)) else f62 k) k) := LAr_set Ar82 Sz82 Nn82 Ha82 W82
          have N82 := Fr.snoc X82 N78 gC
          obtain ⟨f90, V90, I90⟩ : ∃ f', LAr Z h82 aC (64 * (b0 + b1 + b2)) f' ∧ own_put f g sr 2 f' := ⟨_, VL89, put_yes I62 (by omega) hk1 hm2 hT (jx := (1 : Int32)) (by decide) (W := (sr + 64 * 1) / 64) (S := (sr + 64 * 1) % 64) (by omega) (by omega) hjw66 hsh66 hmn78 hc79⟩
          show Go p e below _ (T82.setTop (mkF m 106 #[.val (.ref aL), .val (.ref aC), .val (.int p2), .val (.ref aB), .val (.long qst), .second, .val (.int (1 : Int32)), .val (.long (qst + ((64 : Int64) * ((1 : Int32).toInt64)))), .second, .val (.int jw66), .val (.int sh66)] []))
          refine Go.st (fun _ => XS.iinc X82.here hx rfl (hb hby d13_106) rfl (l' := #[.val (.ref aL), .val (.ref aC), .val (.int p2), .val (.ref aB), .val (.long qst), .second, .val (.int (2 : Int32)), .val (.long (qst + ((64 : Int64) * ((1 : Int32).toInt64)))), .second, .val (.int jw66), .val (.int sh66)]) rfl) ?_
          refine Go.st (fun _ => XS.goto X82.here hx rfl (pc0 := 109) (pc' := 13) rfl (hb hby d13_109) (by decide) (by decide)) ?_
          refine Go.st (fun _ => XS.iload X82.here hx rfl (hb hby d13_13) rfl) ?_
          refine Go.st (fun _ => XS.aloadN X82.here hx rfl (hb hby d13_15) rfl rfl) ?_
          show Go p e below _ (T82.setTop (mkF m 16 #[.val (.ref aL), .val (.ref aC), .val (.int p2), .val (.ref aB), .val (.long qst), .second, .val (.int (2 : Int32)), .val (.long (qst + ((64 : Int64) * ((1 : Int32).toInt64)))), .second, .val (.int jw66), .val (.int sh66)] [(.ref aL), (.int (2 : Int32))]))
          obtain ⟨T91, X91, e91, st91⟩ := getF X82 hx hZ hown (host := "") (Or.inl (ww hw 53 rfl)) Via.refl e82 F86 (g := (mkF m 16 #[.val (.ref aL), .val (.ref aC), .val (.int p2), .val (.ref aB), .val (.long qst), .second, .val (.int (2 : Int32)), .val (.long (qst + ((64 : Int64) * ((1 : Int32).toInt64)))), .second, .val (.int jw66), .val (.int sh66)] [(.ref aL), (.int (2 : Int32))])) rfl rfl (hb hby d13_16)
          refine Go.st st91 ?_
          have no3 : ¬ (2 : Int32) < wd := by rw [Int32.lt_iff_toInt_lt, hwd, show (2 : Int32).toInt = 2 from rfl]; omega
          refine Go.st (fun _ => XS.icmpYes X91.here hx rfl (pc0 := 19) (pc' := 112) rfl (hb hby d13_19) rfl (flt no3).2.1 (by decide) (by decide)) ?_
          show Go p e below _ (T91.setTop (mkF m 112 #[.val (.ref aL), .val (.ref aC), .val (.int p2), .val (.ref aB), .val (.long qst), .second, .val (.int (2 : Int32)), .val (.long (qst + ((64 : Int64) * ((1 : Int32).toInt64)))), .second, .val (.int jw66), .val (.int sh66)] []))
          have hnk : ((b0 + b1 + b2 + 63) / 64) = 2 := by omega
          rw [← hnk] at I90
          exact goRetV X91 hx hlk hret e91 (hb hby d13_112) (by decide) (by decide) ⟨rfl, N82, K88, _, V90, I90⟩
        · refine Go.st (fun _ => XS.icmpYes X78.here hx rfl (pc0 := 84) (pc' := 106) rfl (hb hby d13_84) rfl (flt hc79).2.2.2 (by decide) (by decide)) ?_
          obtain ⟨f92, V92, I92⟩ : ∃ f', LAr Z h69 aC (64 * (b0 + b1 + b2)) f' ∧ own_put f g sr 2 f' := ⟨_, VL76, put_no I62 (by omega) hk1 hm2 hT (jx := (1 : Int32)) (by decide) hg (W := (sr + 64 * 1) / 64) (S := (sr + 64 * 1) % 64) (by omega) (by omega) hjw66 hsh66 hmn78 hc79⟩
          show Go p e below _ (T78.setTop (mkF m 106 #[.val (.ref aL), .val (.ref aC), .val (.int p2), .val (.ref aB), .val (.long qst), .second, .val (.int (1 : Int32)), .val (.long (qst + ((64 : Int64) * ((1 : Int32).toInt64)))), .second, .val (.int jw66), .val (.int sh66)] []))
          refine Go.st (fun _ => XS.iinc X78.here hx rfl (hb hby d13_106) rfl (l' := #[.val (.ref aL), .val (.ref aC), .val (.int p2), .val (.ref aB), .val (.long qst), .second, .val (.int (2 : Int32)), .val (.long (qst + ((64 : Int64) * ((1 : Int32).toInt64)))), .second, .val (.int jw66), .val (.int sh66)]) rfl) ?_
          refine Go.st (fun _ => XS.goto X78.here hx rfl (pc0 := 109) (pc' := 13) rfl (hb hby d13_109) (by decide) (by decide)) ?_
          refine Go.st (fun _ => XS.iload X78.here hx rfl (hb hby d13_13) rfl) ?_
          refine Go.st (fun _ => XS.aloadN X78.here hx rfl (hb hby d13_15) rfl rfl) ?_
          show Go p e below _ (T78.setTop (mkF m 16 #[.val (.ref aL), .val (.ref aC), .val (.int p2), .val (.ref aB), .val (.long qst), .second, .val (.int (2 : Int32)), .val (.long (qst + ((64 : Int64) * ((1 : Int32).toInt64)))), .second, .val (.int jw66), .val (.int sh66)] [(.ref aL), (.int (2 : Int32))]))
          obtain ⟨T93, X93, e93, st93⟩ := getF X78 hx hZ hown (host := "") (Or.inl (ww hw 53 rfl)) Via.refl e78 F73 (g := (mkF m 16 #[.val (.ref aL), .val (.ref aC), .val (.int p2), .val (.ref aB), .val (.long qst), .second, .val (.int (2 : Int32)), .val (.long (qst + ((64 : Int64) * ((1 : Int32).toInt64)))), .second, .val (.int jw66), .val (.int sh66)] [(.ref aL), (.int (2 : Int32))])) rfl rfl (hb hby d13_16)
          refine Go.st st93 ?_
          have no3 : ¬ (2 : Int32) < wd := by rw [Int32.lt_iff_toInt_lt, hwd, show (2 : Int32).toInt = 2 from rfl]; omega
          refine Go.st (fun _ => XS.icmpYes X93.here hx rfl (pc0 := 19) (pc' := 112) rfl (hb hby d13_19) rfl (flt no3).2.1 (by decide) (by decide)) ?_
          show Go p e below _ (T93.setTop (mkF m 112 #[.val (.ref aL), .val (.ref aC), .val (.int p2), .val (.ref aB), .val (.long qst), .second, .val (.int (2 : Int32)), .val (.long (qst + ((64 : Int64) * ((1 : Int32).toInt64)))), .second, .val (.int jw66), .val (.int sh66)] []))
          have hnk : ((b0 + b1 + b2 + 63) / 64) = 2 := by omega
          rw [← hnk] at I92
          exact goRetV X93 hx hlk hret e93 (hb hby d13_112) (by decide) (by decide) ⟨rfl, N78, K75, _, V92, I92⟩
      · refine Go.st (fun _ => XS.icmpYes X63.here hx rfl (pc0 := 19) (pc' := 112) rfl (hb hby d13_19) rfl (flt hc64).2.1 (by decide) (by decide)) ?_
        show Go p e below _ (T63.setTop (mkF m 112 #[.val (.ref aL), .val (.ref aC), .val (.int p2), .val (.ref aB), .val (.long qst), .second, .val (.int (1 : Int32)), .val (.long (qst + ((64 : Int64) * ((0 : Int32).toInt64)))), .second, .val (.int jw5), .val (.int sh5)] []))
        have hn94 := hc64
        rw [Int32.lt_iff_toInt_lt, hwd, show ((1 : Int32)).toInt = 1 from rfl] at hn94
        have hnk : ((b0 + b1 + b2 + 63) / 64) = 1 := by omega
        rw [← hnk] at I62
        exact goRetV X63 hx hlk hret e63 (hb hby d13_112) (by decide) (by decide) ⟨rfl, N17, K14, _, V62, I62⟩
  · refine Go.st (fun _ => XS.icmpYes X2.here hx rfl (pc0 := 19) (pc' := 112) rfl (hb hby d13_19) rfl (flt hc3).2.1 (by decide) (by decide)) ?_
    show Go p e below _ (T2.setTop (mkF m 112 #[.val (.ref aL), .val (.ref aC), .val (.int p2), .val (.ref aB), .val (.long qst), .second, .val (.int (0 : Int32)), .unset, .unset, .unset, .unset] []))
    have hn95 := hc3
    rw [Int32.lt_iff_toInt_lt, hwd, show ((0 : Int32)).toInt = 0 from rfl] at hn95
    have hnk : ((b0 + b1 + b2 + 63) / 64) = 0 := by omega
    rw [← hnk] at I_0
    exact goRetV X2 hx hlk hret e2 (hb hby d13_112) (by decide) (by decide) ⟨rfl, N0, (Keep.refl h0 [aC]), _, vC, I_0⟩
theorem d16_0 : decode prog_28_method_7_code 0 = .ok (.iload_n 3, 1) := by decide +kernel
theorem d16_1 : decode prog_28_method_7_code 1 = .ok (.ifCond .ne 5, 3) := by decide +kernel
theorem d16_4 : decode prog_28_method_7_code 4 = .ok (.iconst 0, 1) := by decide +kernel
theorem d16_5 : decode prog_28_method_7_code 5 = .ok (.ireturn, 1) := by decide +kernel
theorem d16_6 : decode prog_28_method_7_code 6 = .ok (.lload_n 1, 1) := by decide +kernel
theorem d16_7 : decode prog_28_method_7_code 7 = .ok (.bipush 6, 2) := by decide +kernel
theorem d16_9 : decode prog_28_method_7_code 9 = .ok (.lushr, 1) := by decide +kernel
theorem d16_10 : decode prog_28_method_7_code 10 = .ok (.l2i, 1) := by decide +kernel
theorem d16_11 : decode prog_28_method_7_code 11 = .ok (.istore 4, 2) := by decide +kernel
theorem d16_13 : decode prog_28_method_7_code 13 = .ok (.lload_n 1, 1) := by decide +kernel
theorem d16_14 : decode prog_28_method_7_code 14 = .ok (.l2i, 1) := by decide +kernel
theorem d16_15 : decode prog_28_method_7_code 15 = .ok (.bipush 63, 2) := by decide +kernel
theorem d16_17 : decode prog_28_method_7_code 17 = .ok (.iand, 1) := by decide +kernel
theorem d16_18 : decode prog_28_method_7_code 18 = .ok (.istore 5, 2) := by decide +kernel
theorem d16_20 : decode prog_28_method_7_code 20 = .ok (.aload_n 0, 1) := by decide +kernel
theorem d16_21 : decode prog_28_method_7_code 21 = .ok (.iload 4, 2) := by decide +kernel
theorem d16_23 : decode prog_28_method_7_code 23 = .ok (.laload, 1) := by decide +kernel
theorem d16_24 : decode prog_28_method_7_code 24 = .ok (.iload 5, 2) := by decide +kernel
theorem d16_26 : decode prog_28_method_7_code 26 = .ok (.lushr, 1) := by decide +kernel
theorem d16_27 : decode prog_28_method_7_code 27 = .ok (.lstore 6, 2) := by decide +kernel
theorem d16_29 : decode prog_28_method_7_code 29 = .ok (.iload 5, 2) := by decide +kernel
theorem d16_31 : decode prog_28_method_7_code 31 = .ok (.iload_n 3, 1) := by decide +kernel
theorem d16_32 : decode prog_28_method_7_code 32 = .ok (.iadd, 1) := by decide +kernel
theorem d16_33 : decode prog_28_method_7_code 33 = .ok (.bipush 64, 2) := by decide +kernel
theorem d16_35 : decode prog_28_method_7_code 35 = .ok (.if_icmp .le 20, 3) := by decide +kernel
theorem d16_38 : decode prog_28_method_7_code 38 = .ok (.lload 6, 2) := by decide +kernel
theorem d16_40 : decode prog_28_method_7_code 40 = .ok (.aload_n 0, 1) := by decide +kernel
theorem d16_41 : decode prog_28_method_7_code 41 = .ok (.iload 4, 2) := by decide +kernel
theorem d16_43 : decode prog_28_method_7_code 43 = .ok (.iconst 1, 1) := by decide +kernel
theorem d16_44 : decode prog_28_method_7_code 44 = .ok (.iadd, 1) := by decide +kernel
theorem d16_45 : decode prog_28_method_7_code 45 = .ok (.laload, 1) := by decide +kernel
theorem d16_46 : decode prog_28_method_7_code 46 = .ok (.bipush 64, 2) := by decide +kernel
theorem d16_48 : decode prog_28_method_7_code 48 = .ok (.iload 5, 2) := by decide +kernel
theorem d16_50 : decode prog_28_method_7_code 50 = .ok (.isub, 1) := by decide +kernel
theorem d16_51 : decode prog_28_method_7_code 51 = .ok (.lshl, 1) := by decide +kernel
theorem d16_52 : decode prog_28_method_7_code 52 = .ok (.lor, 1) := by decide +kernel
theorem d16_53 : decode prog_28_method_7_code 53 = .ok (.lstore 6, 2) := by decide +kernel
theorem d16_55 : decode prog_28_method_7_code 55 = .ok (.lload 6, 2) := by decide +kernel
theorem d16_57 : decode prog_28_method_7_code 57 = .ok (.lconst 1, 1) := by decide +kernel
theorem d16_58 : decode prog_28_method_7_code 58 = .ok (.iload_n 3, 1) := by decide +kernel
theorem d16_59 : decode prog_28_method_7_code 59 = .ok (.lshl, 1) := by decide +kernel
theorem d16_60 : decode prog_28_method_7_code 60 = .ok (.lconst 1, 1) := by decide +kernel
theorem d16_61 : decode prog_28_method_7_code 61 = .ok (.lsub, 1) := by decide +kernel
theorem d16_62 : decode prog_28_method_7_code 62 = .ok (.land, 1) := by decide +kernel
theorem d16_63 : decode prog_28_method_7_code 63 = .ok (.l2i, 1) := by decide +kernel
theorem d16_64 : decode prog_28_method_7_code 64 = .ok (.ireturn, 1) := by decide +kernel
theorem pn_16 : plainName "com/example/traza/traza/PackedRows$Layout" = true := by first | (simp [plainName, overriddenIn]; done) | decide +kernel
set_option maxRecDepth 65536 in
set_option maxHeartbeats 40000000 in
theorem rm_fld (l : Launch) (Z : State) (a0 : Array Value) (hw : ∀ d ∈ tables_1, d.before a0 Z = true) (ws : List Jvm.Cond) (aC : Addr) (q1 : Int64) (p3 : Int32) (n q b : Nat) (f : Nat → Int64) (h0 : Heap) (n0 : Nat) (O0 : Old Z n0 h0) (vC : LAr Z h0 aC n f) (hq : q1.toInt = (q : Nat)) (hq2 : q ≤ 255) (hp : p3.toInt = (b : Nat)) (hb3 : b ≤ 31) (hn : b ≠ 0 → 64 ≤ n) :
    Ctr l (⟨"com/example/traza/traza/PackedRows$Layout", "field", "([JJI)I"⟩ : MethodName) prog_28_method_7_code 8 (some .int) ws ({ frames := 0, cells := 0, slots := 0, locals := 0 } : Room) #[(.ref aC), (.long q1), (.int p3)] Z h0 (fun v h L => (∃ z, v = some (.int z) ∧ own_fld f q b z) ∧ Fr n0 L ∧ h = h0) := by
  have ef : ∀ m : MethodId, entryFrame m #[(.ref aC), (.long q1), (.int p3)] 8 = mkF m 0 #[.val (.ref aC), .val (.long q1), .second, .val (.int p3), .unset, .unset, .unset, .unset] [] := fun m => by first | (simp [entryFrame, mkF, argsToLocals, Value.category]; done) | rfl
  refine Ctr.of (plainFor_of_name pn_16) ?_
  intro p e s m below meth c s₁ hx hZ hby hml hown0 hnm hret hlk X0 e0
  have hown : s.vm.findClass "com/example/traza/traza/PackedRows$Layout" = some m.cls := hown0
  have N0 := Fr.nil n0
  refine Go.st (fun t k => castTop (ef m) k) ?_
  refine Go.st (fun _ => XS.iloadN X0.here hx rfl (hb hby d16_0) rfl) ?_
  by_cases hc1 : p3 = (0 : Int32)
  · refine Go.st (fun _ => XS.ifNo X0.here hx rfl (hb hby d16_1) rfl ((if0 _ _).trans (teq hc1).2)) ?_
    refine Go.st (fun _ => XS.iconst X0.here hx rfl (hb hby d16_4)) ?_
    show Go p e below _ (s₁.setTop (mkF m 5 #[.val (.ref aC), .val (.long q1), .second, .val (.int p3), .unset, .unset, .unset, .unset] [(.int (0 : Int32))]))
    exact goRetI X0 hx hlk hret e0 (hb hby d16_5) (by decide) (by decide) ⟨⟨_, rfl, fld_zero hp hc1⟩, N0, rfl⟩
  · refine Go.st (fun _ => XS.ifYes X0.here hx rfl (pc0 := 1) (pc' := 6) rfl (hb hby d16_1) rfl ((if0 _ _).trans (feq hc1).2) (by decide) (by decide)) ?_
    refine Go.st (fun _ => XS.lloadN X0.here hx rfl (hb hby d16_6) rfl) ?_
    refine Go.st (fun _ => XS.bipush X0.here hx rfl (hb hby d16_7)) ?_
    refine Go.st (fun _ => XS.lushr X0.here hx rfl (hb hby d16_9) rfl) ?_
    show Go p e below _ (s₁.setTop (mkF m 10 #[.val (.ref aC), .val (.long q1), .second, .val (.int p3), .unset, .unset, .unset, .unset] [(.long ((q1.toUInt64 >>> ((6 : Int32) &&& 0x3f).toInt64.toUInt64).toInt64))]))
    refine Go.st (fun _ => XS.l2i X0.here hx rfl (hb hby d16_10) rfl) ?_
    refine Go.st (fun _ => XS.istore X0.here hx rfl (hb hby d16_11) rfl (l' := #[.val (.ref aC), .val (.long q1), .second, .val (.int p3), .val (.int (((q1.toUInt64 >>> ((6 : Int32) &&& 0x3f).toInt64.toUInt64).toInt64).toInt32)), .unset, .unset, .unset]) rfl) ?_
    refine Go.st (fun _ => XS.lloadN X0.here hx rfl (hb hby d16_13) rfl) ?_
    refine Go.st (fun _ => XS.l2i X0.here hx rfl (hb hby d16_14) rfl) ?_
    show Go p e below _ (s₁.setTop (mkF m 15 #[.val (.ref aC), .val (.long q1), .second, .val (.int p3), .val (.int (((q1.toUInt64 >>> ((6 : Int32) &&& 0x3f).toInt64.toUInt64).toInt64).toInt32)), .unset, .unset, .unset] [(.int (q1.toInt32))]))
    refine Go.st (fun _ => XS.bipush X0.here hx rfl (hb hby d16_15)) ?_
    refine Go.st (fun _ => XS.iand X0.here hx rfl (hb hby d16_17) rfl) ?_
    refine Go.st (fun _ => XS.istore X0.here hx rfl (hb hby d16_18) rfl (l' := #[.val (.ref aC), .val (.long q1), .second, .val (.int p3), .val (.int (((q1.toUInt64 >>> ((6 : Int32) &&& 0x3f).toInt64.toUInt64).toInt64).toInt32)), .val (.int ((q1.toInt32) &&& (63 : Int32))), .unset, .unset]) rfl) ?_
    show Go p e below _ (s₁.setTop (mkF m 20 #[.val (.ref aC), .val (.long q1), .second, .val (.int p3), .val (.int (((q1.toUInt64 >>> ((6 : Int32) &&& 0x3f).toInt64.toUInt64).toInt64).toInt32)), .val (.int ((q1.toInt32) &&& (63 : Int32))), .unset, .unset] []))
    obtain ⟨jw, ejw⟩ : ∃ z, z = (((q1.toUInt64 >>> ((6 : Int32) &&& 0x3f).toInt64.toUInt64).toInt64).toInt32) := ⟨_, rfl⟩
    rw [← ejw]
    show Go p e below _ (s₁.setTop (mkF m 20 #[.val (.ref aC), .val (.long q1), .second, .val (.int p3), .val (.int jw), .val (.int ((q1.toInt32) &&& (63 : Int32))), .unset, .unset] []))
    obtain ⟨sh, esh⟩ : ∃ z, z = ((q1.toInt32) &&& (63 : Int32)) := ⟨_, rfl⟩
    rw [← esh]
    have hjw : jw.toInt = ((q / 64 : Nat) : Int) := by rw [ejw]; exact own_word hq (by omega)
    have hsh : sh.toInt = ((q % 64 : Nat) : Int) := by rw [esh]; exact own_sh hq (by omega)
    have hn64 : 64 ≤ n := hn (fun q0 => hc1 (Int32.toInt_inj.mp (by rw [hp, q0]; rfl)))
    have bw : 0 ≤ (jw).toInt ∧ (jw).toInt < (n : Int) := ⟨by rw [hjw]; omega, by rw [hjw]; omega⟩
    have bx : 0 ≤ (jw + (1 : Int32)).toInt ∧ (jw + (1 : Int32)).toInt < (n : Int) := by rw [add_toInt hjw (b := (1 : Int32)) (y := 1) rfl (by omega)]; exact ⟨by omega, by omega⟩
    show Go p e below _ (s₁.setTop (mkF m 20 #[.val (.ref aC), .val (.long q1), .second, .val (.int p3), .val (.int jw), .val (.int sh), .unset, .unset] []))
    show Go p e below _ (s₁.setTop (mkF m 20 #[.val (.ref aC), .val (.long q1), .second, .val (.int p3), .val (.int jw), .val (.int sh), .unset, .unset] []))
    refine Go.st (fun _ => XS.aloadN X0.here hx rfl (hb hby d16_20) rfl rfl) ?_
    refine Go.st (fun _ => XS.iload X0.here hx rfl (hb hby d16_21) rfl) ?_
    obtain ⟨cl2, Ar2, hin2, hat2, -⟩ := LAr_in vC (j := jw) bw.1 bw.2
    refine Go.st (fun _ => X0.laload hx (j := jw) (v := (.long (f (jw).toNatClampNeg))) (by rw [e0]; exact Ar2.1) (State.isArrayOf_alike hZ.alike Ar2.2.1) Ar2.2.2 hin2 hat2 (g := (mkF m 23 #[.val (.ref aC), .val (.long q1), .second, .val (.int p3), .val (.int jw), .val (.int sh), .unset, .unset] [(.int jw), (.ref aC)])) rfl rfl (hb hby d16_23) _) ?_
    refine Go.st (fun _ => XS.iload X0.here hx rfl (hb hby d16_24) rfl) ?_
    show Go p e below _ (s₁.setTop (mkF m 26 #[.val (.ref aC), .val (.long q1), .second, .val (.int p3), .val (.int jw), .val (.int sh), .unset, .unset] [(.int sh), (.long (f (jw).toNatClampNeg))]))
    refine Go.st (fun _ => XS.lushr X0.here hx rfl (hb hby d16_26) rfl) ?_
    refine Go.st (fun _ => XS.lstore X0.here hx rfl (hb hby d16_27) rfl (l' := #[.val (.ref aC), .val (.long q1), .second, .val (.int p3), .val (.int jw), .val (.int sh), .val (.long (((f (jw).toNatClampNeg).toUInt64 >>> (sh &&& 0x3f).toInt64.toUInt64).toInt64)), .second]) rfl) ?_
    refine Go.st (fun _ => XS.iload X0.here hx rfl (hb hby d16_29) rfl) ?_
    refine Go.st (fun _ => XS.iloadN X0.here hx rfl (hb hby d16_31) rfl) ?_
    show Go p e below _ (s₁.setTop (mkF m 32 #[.val (.ref aC), .val (.long q1), .second, .val (.int p3), .val (.int jw), .val (.int sh), .val (.long (((f (jw).toNatClampNeg).toUInt64 >>> (sh &&& 0x3f).toInt64.toUInt64).toInt64)), .second] [(.int p3), (.int sh)]))
    refine Go.st (fun _ => XS.iadd X0.here hx rfl (hb hby d16_32) rfl) ?_
    refine Go.st (fun _ => XS.bipush X0.here hx rfl (hb hby d16_33)) ?_
    by_cases hc3 : (64 : Int32) < (sh + p3)
    · refine Go.st (fun _ => XS.icmpNo X0.here hx rfl (hb hby d16_35) rfl (tlt hc3).2.2.2) ?_
      refine Go.st (fun _ => XS.lload X0.here hx rfl (hb hby d16_38) rfl) ?_
      show Go p e below _ (s₁.setTop (mkF m 40 #[.val (.ref aC), .val (.long q1), .second, .val (.int p3), .val (.int jw), .val (.int sh), .val (.long (((f (jw).toNatClampNeg).toUInt64 >>> (sh &&& 0x3f).toInt64.toUInt64).toInt64)), .second] [(.long (((f (jw).toNatClampNeg).toUInt64 >>> (sh &&& 0x3f).toInt64.toUInt64).toInt64))]))
      refine Go.st (fun _ => XS.aloadN X0.here hx rfl (hb hby d16_40) rfl rfl) ?_
      refine Go.st (fun _ => XS.iload X0.here hx rfl (hb hby d16_41) rfl) ?_
      refine Go.st (fun _ => XS.iconst X0.here hx rfl (hb hby d16_43)) ?_
      refine Go.st (fun _ => XS.iadd X0.here hx rfl (hb hby d16_44) rfl) ?_
      show Go p e below _ (s₁.setTop (mkF m 45 #[.val (.ref aC), .val (.long q1), .second, .val (.int p3), .val (.int jw), .val (.int sh), .val (.long (((f (jw).toNatClampNeg).toUInt64 >>> (sh &&& 0x3f).toInt64.toUInt64).toInt64)), .second] [(.int (jw + (1 : Int32))), (.ref aC), (.long (((f (jw).toNatClampNeg).toUInt64 >>> (sh &&& 0x3f).toInt64.toUInt64).toInt64))]))
      obtain ⟨cl4, Ar4, hin4, hat4, -⟩ := LAr_in vC (j := (jw + (1 : Int32))) bx.1 bx.2
      refine Go.st (fun _ => X0.laload hx (j := (jw + (1 : Int32))) (v := (.long (f ((jw + (1 : Int32))).toNatClampNeg))) (by rw [e0]; exact Ar4.1) (State.isArrayOf_alike hZ.alike Ar4.2.1) Ar4.2.2 hin4 hat4 (g := (mkF m 45 #[.val (.ref aC), .val (.long q1), .second, .val (.int p3), .val (.int jw), .val (.int sh), .val (.long (((f (jw).toNatClampNeg).toUInt64 >>> (sh &&& 0x3f).toInt64.toUInt64).toInt64)), .second] [(.int (jw + (1 : Int32))), (.ref aC), (.long (((f (jw).toNatClampNeg).toUInt64 >>> (sh &&& 0x3f).toInt64.toUInt64).toInt64))])) rfl rfl (hb hby d16_45) _) ?_
      refine Go.st (fun _ => XS.bipush X0.here hx rfl (hb hby d16_46)) ?_
      refine Go.st (fun _ => XS.iload X0.here hx rfl (hb hby d16_48) rfl) ?_
      refine Go.st (fun _ => XS.isub X0.here hx rfl (hb hby d16_50) rfl) ?_
      show Go p e below _ (s₁.setTop (mkF m 51 #[.val (.ref aC), .val (.long q1), .second, .val (.int p3), .val (.int jw), .val (.int sh), .val (.long (((f (jw).toNatClampNeg).toUInt64 >>> (sh &&& 0x3f).toInt64.toUInt64).toInt64)), .second] [(.int ((64 : Int32) - sh)), (.long (f ((jw + (1 : Int32))).toNatClampNeg)), (.long (((f (jw).toNatClampNeg).toUInt64 >>> (sh &&& 0x3f).toInt64.toUInt64).toInt64))]))
      refine Go.st (fun _ => XS.lshl X0.here hx rfl (hb hby d16_51) rfl) ?_
      refine Go.st (fun _ => XS.lor X0.here hx rfl (hb hby d16_52) rfl) ?_
      refine Go.st (fun _ => XS.lstore X0.here hx rfl (hb hby d16_53) rfl (l' := #[.val (.ref aC), .val (.long q1), .second, .val (.int p3), .val (.int jw), .val (.int sh), .val (.long ((((f (jw).toNatClampNeg).toUInt64 >>> (sh &&& 0x3f).toInt64.toUInt64).toInt64) ||| ((f ((jw + (1 : Int32))).toNatClampNeg) <<< (((64 : Int32) - sh) &&& 0x3f).toInt64))), .second]) rfl) ?_
      refine Go.st (fun _ => XS.lload X0.here hx rfl (hb hby d16_55) rfl) ?_
      show Go p e below _ (s₁.setTop (mkF m 57 #[.val (.ref aC), .val (.long q1), .second, .val (.int p3), .val (.int jw), .val (.int sh), .val (.long ((((f (jw).toNatClampNeg).toUInt64 >>> (sh &&& 0x3f).toInt64.toUInt64).toInt64) ||| ((f ((jw + (1 : Int32))).toNatClampNeg) <<< (((64 : Int32) - sh) &&& 0x3f).toInt64))), .second] [(.long ((((f (jw).toNatClampNeg).toUInt64 >>> (sh &&& 0x3f).toInt64.toUInt64).toInt64) ||| ((f ((jw + (1 : Int32))).toNatClampNeg) <<< (((64 : Int32) - sh) &&& 0x3f).toInt64)))]))
      refine Go.st (fun _ => XS.lconst X0.here hx rfl (hb hby d16_57)) ?_
      refine Go.st (fun _ => XS.iloadN X0.here hx rfl (hb hby d16_58) rfl) ?_
      refine Go.st (fun _ => XS.lshl X0.here hx rfl (hb hby d16_59) rfl) ?_
      refine Go.st (fun _ => XS.lconst X0.here hx rfl (hb hby d16_60)) ?_
      show Go p e below _ (s₁.setTop (mkF m 61 #[.val (.ref aC), .val (.long q1), .second, .val (.int p3), .val (.int jw), .val (.int sh), .val (.long ((((f (jw).toNatClampNeg).toUInt64 >>> (sh &&& 0x3f).toInt64.toUInt64).toInt64) ||| ((f ((jw + (1 : Int32))).toNatClampNeg) <<< (((64 : Int32) - sh) &&& 0x3f).toInt64))), .second] [(.long (1 : Int64)), (.long ((1 : Int64) <<< (p3 &&& 0x3f).toInt64)), (.long ((((f (jw).toNatClampNeg).toUInt64 >>> (sh &&& 0x3f).toInt64.toUInt64).toInt64) ||| ((f ((jw + (1 : Int32))).toNatClampNeg) <<< (((64 : Int32) - sh) &&& 0x3f).toInt64)))]))
      refine Go.st (fun _ => XS.lsub X0.here hx rfl (hb hby d16_61) rfl) ?_
      refine Go.st (fun _ => XS.land X0.here hx rfl (hb hby d16_62) rfl) ?_
      refine Go.st (fun _ => XS.l2i X0.here hx rfl (hb hby d16_63) rfl) ?_
      show Go p e below _ (s₁.setTop (mkF m 64 #[.val (.ref aC), .val (.long q1), .second, .val (.int p3), .val (.int jw), .val (.int sh), .val (.long ((((f (jw).toNatClampNeg).toUInt64 >>> (sh &&& 0x3f).toInt64.toUInt64).toInt64) ||| ((f ((jw + (1 : Int32))).toNatClampNeg) <<< (((64 : Int32) - sh) &&& 0x3f).toInt64))), .second] [(.int ((((((f (jw).toNatClampNeg).toUInt64 >>> (sh &&& 0x3f).toInt64.toUInt64).toInt64) ||| ((f ((jw + (1 : Int32))).toNatClampNeg) <<< (((64 : Int32) - sh) &&& 0x3f).toInt64)) &&& (((1 : Int64) <<< (p3 &&& 0x3f).toInt64) - (1 : Int64))).toInt32))]))
      exact goRetI X0 hx hlk hret e0 (hb hby d16_64) (by decide) (by decide) ⟨⟨_, rfl, fld_b hjw hsh hp hb3 (by omega) hc3⟩, N0, rfl⟩
    · refine Go.st (fun _ => XS.icmpYes X0.here hx rfl (pc0 := 35) (pc' := 55) rfl (hb hby d16_35) rfl (flt hc3).2.2.2 (by decide) (by decide)) ?_
      show Go p e below _ (s₁.setTop (mkF m 55 #[.val (.ref aC), .val (.long q1), .second, .val (.int p3), .val (.int jw), .val (.int sh), .val (.long (((f (jw).toNatClampNeg).toUInt64 >>> (sh &&& 0x3f).toInt64.toUInt64).toInt64)), .second] []))
      refine Go.st (fun _ => XS.lload X0.here hx rfl (hb hby d16_55) rfl) ?_
      refine Go.st (fun _ => XS.lconst X0.here hx rfl (hb hby d16_57)) ?_
      refine Go.st (fun _ => XS.iloadN X0.here hx rfl (hb hby d16_58) rfl) ?_
      refine Go.st (fun _ => XS.lshl X0.here hx rfl (hb hby d16_59) rfl) ?_
      show Go p e below _ (s₁.setTop (mkF m 60 #[.val (.ref aC), .val (.long q1), .second, .val (.int p3), .val (.int jw), .val (.int sh), .val (.long (((f (jw).toNatClampNeg).toUInt64 >>> (sh &&& 0x3f).toInt64.toUInt64).toInt64)), .second] [(.long ((1 : Int64) <<< (p3 &&& 0x3f).toInt64)), (.long (((f (jw).toNatClampNeg).toUInt64 >>> (sh &&& 0x3f).toInt64.toUInt64).toInt64))]))
      refine Go.st (fun _ => XS.lconst X0.here hx rfl (hb hby d16_60)) ?_
      refine Go.st (fun _ => XS.lsub X0.here hx rfl (hb hby d16_61) rfl) ?_
      refine Go.st (fun _ => XS.land X0.here hx rfl (hb hby d16_62) rfl) ?_
      refine Go.st (fun _ => XS.l2i X0.here hx rfl (hb hby d16_63) rfl) ?_
      show Go p e below _ (s₁.setTop (mkF m 64 #[.val (.ref aC), .val (.long q1), .second, .val (.int p3), .val (.int jw), .val (.int sh), .val (.long (((f (jw).toNatClampNeg).toUInt64 >>> (sh &&& 0x3f).toInt64.toUInt64).toInt64)), .second] [(.int (((((f (jw).toNatClampNeg).toUInt64 >>> (sh &&& 0x3f).toInt64.toUInt64).toInt64) &&& (((1 : Int64) <<< (p3 &&& 0x3f).toInt64) - (1 : Int64))).toInt32))]))
      exact goRetI X0 hx hlk hret e0 (hb hby d16_64) (by decide) (by decide) ⟨⟨_, rfl, fld_a hjw hsh hp hb3 hc3⟩, N0, rfl⟩
theorem d15_0 : decode prog_28_method_5_code 0 = .ok (.iload_n 2, 1) := by decide +kernel
theorem d15_1 : decode prog_28_method_5_code 1 = .ok (.i2l, 1) := by decide +kernel
theorem d15_2 : decode prog_28_method_5_code 2 = .ok (.aload_n 0, 1) := by decide +kernel
theorem d15_3 : decode prog_28_method_5_code 3 = .ok (.getfield 26, 3) := by decide +kernel
theorem d15_6 : decode prog_28_method_5_code 6 = .ok (.i2l, 1) := by decide +kernel
theorem d15_7 : decode prog_28_method_5_code 7 = .ok (.lmul, 1) := by decide +kernel
theorem d15_8 : decode prog_28_method_5_code 8 = .ok (.lstore 4, 2) := by decide +kernel
theorem d15_10 : decode prog_28_method_5_code 10 = .ok (.iconst 0, 1) := by decide +kernel
theorem d15_11 : decode prog_28_method_5_code 11 = .ok (.istore 6, 2) := by decide +kernel
theorem d15_13 : decode prog_28_method_5_code 13 = .ok (.iload 6, 2) := by decide +kernel
theorem d15_15 : decode prog_28_method_5_code 15 = .ok (.aload_n 0, 1) := by decide +kernel
theorem d15_16 : decode prog_28_method_5_code 16 = .ok (.getfield 20, 3) := by decide +kernel
theorem d15_19 : decode prog_28_method_5_code 19 = .ok (.arraylength, 1) := by decide +kernel
theorem d15_20 : decode prog_28_method_5_code 20 = .ok (.if_icmp .ge 39, 3) := by decide +kernel
theorem d15_23 : decode prog_28_method_5_code 23 = .ok (.aload_n 3, 1) := by decide +kernel
theorem d15_24 : decode prog_28_method_5_code 24 = .ok (.iload 6, 2) := by decide +kernel
theorem d15_26 : decode prog_28_method_5_code 26 = .ok (.aload_n 1, 1) := by decide +kernel
theorem d15_27 : decode prog_28_method_5_code 27 = .ok (.lload 4, 2) := by decide +kernel
theorem d15_29 : decode prog_28_method_5_code 29 = .ok (.aload_n 0, 1) := by decide +kernel
theorem d15_30 : decode prog_28_method_5_code 30 = .ok (.getfield 20, 3) := by decide +kernel
theorem d15_33 : decode prog_28_method_5_code 33 = .ok (.iload 6, 2) := by decide +kernel
theorem d15_35 : decode prog_28_method_5_code 35 = .ok (.iaload, 1) := by decide +kernel
theorem d15_36 : decode prog_28_method_5_code 36 = .ok (.invokestatic 48, 3) := by decide +kernel
theorem d15_39 : decode prog_28_method_5_code 39 = .ok (.iastore, 1) := by decide +kernel
theorem d15_40 : decode prog_28_method_5_code 40 = .ok (.lload 4, 2) := by decide +kernel
theorem d15_42 : decode prog_28_method_5_code 42 = .ok (.aload_n 0, 1) := by decide +kernel
theorem d15_43 : decode prog_28_method_5_code 43 = .ok (.getfield 20, 3) := by decide +kernel
theorem d15_46 : decode prog_28_method_5_code 46 = .ok (.iload 6, 2) := by decide +kernel
theorem d15_48 : decode prog_28_method_5_code 48 = .ok (.iaload, 1) := by decide +kernel
theorem d15_49 : decode prog_28_method_5_code 49 = .ok (.i2l, 1) := by decide +kernel
theorem d15_50 : decode prog_28_method_5_code 50 = .ok (.ladd, 1) := by decide +kernel
theorem d15_51 : decode prog_28_method_5_code 51 = .ok (.lstore 4, 2) := by decide +kernel
theorem d15_53 : decode prog_28_method_5_code 53 = .ok (.iinc 6 1, 3) := by decide +kernel
theorem d15_56 : decode prog_28_method_5_code 56 = .ok (.goto (-43), 3) := by decide +kernel
theorem d15_59 : decode prog_28_method_5_code 59 = .ok (.return_, 1) := by decide +kernel
theorem pn_15 : plainName "com/example/traza/traza/PackedRows$Layout" = true := by first | (simp [plainName, overriddenIn]; done) | decide +kernel
set_option maxRecDepth 65536 in
set_option maxHeartbeats 40000000 in
theorem rm_read (l : Launch) (Z : State) (a0 : Array Value) (hw : ∀ d ∈ tables_1, d.before a0 Z = true) (ws : List Jvm.Cond) (aL aw aC aV : Addr) (kw kV : ClassId) (pr : Int32) (r : Nat) (p0 p1 p2 : Int32) (w0 w1 w2 rb wd cw : Int32) (b0 b1 b2 : Nat) (f : Nat → Int64) (h0 : Heap) (n0 : Nat) (O0 : Old Z n0 h0) (A1 : Exa Z h0 aL "com/example/traza/traza/PackedRows$Layout") (l1 : Fld Z h0 aL "com/example/traza/traza/PackedRows$Layout" "widths" "[I" (.ref aw)) (l2 : Fld Z h0 aL "com/example/traza/traza/PackedRows$Layout" "rowBits" "I" (.int rb)) (vw : Arv Z h0 aw kw .int (3 : Int32) [(.int w0), (.int w1), (.int w2)] (.int (0 : Int32))) (vC : LAr Z h0 aC (64 * (b0 + b1 + b2)) f) (vV : Arv Z h0 aV kV .int (3 : Int32) [(.int p0), (.int p1), (.int p2)] (.int (0 : Int32))) (neV : aw ≠ aV) (gV : n0 ≤ aV) (hW : own_wid w0 w1 w2 rb wd cw b0 b1 b2) (hr : pr.toInt = (r : Nat)) (hr2 : r ≤ 2) :
    Ctr l (⟨"com/example/traza/traza/PackedRows$Layout", "read", "([JI[I)V"⟩ : MethodName) prog_28_method_5_code 7 none ws ({ frames := 1, cells := 0, slots := 0, locals := 21 } : Room) #[(.ref aL), (.ref aC), (.int pr), (.ref aV)] Z h0 (fun v h L => v = none ∧ Fr n0 L ∧ Keep h0 h [aV] ∧ ∃ z0 z1 z2, Arv Z h aV kV .int (3 : Int32) [(.int z0), (.int z1), (.int z2)] (.int (0 : Int32)) ∧ own_fld f (r * (b0 + b1 + b2)) b0 z0 ∧ own_fld f (r * (b0 + b1 + b2) + b0) b1 z1 ∧ own_fld f (r * (b0 + b1 + b2) + b0 + b1) b2 z2) := by
  have ef : ∀ m : MethodId, entryFrame m #[(.ref aL), (.ref aC), (.int pr), (.ref aV)] 7 = mkF m 0 #[.val (.ref aL), .val (.ref aC), .val (.int pr), .val (.ref aV), .unset, .unset, .unset] [] := fun m => by first | (simp [entryFrame, mkF, argsToLocals, Value.category]; done) | rfl
  refine Ctr.of (plainFor_of_name pn_15) ?_
  intro p e s m below meth c s₁ hx hZ hby hml hown0 hnm hret hlk X0 e0
  have hown : s.vm.findClass "com/example/traza/traza/PackedRows$Layout" = some m.cls := hown0
  have N0 := Fr.nil n0
  refine Go.st (fun t k => castTop (ef m) k) ?_
  obtain ⟨hw0, hw1, hw2, hb0, hb1, hb2, hrb, hwd, hcw⟩ := hW
  have hT : b0 + b1 + b2 ≤ 93 := by omega
  have hs0 := own_start hr hrb hr2 hT
  have hsl : r * (b0 + b1 + b2) ≤ 186 := Nat.le_trans (Nat.mul_le_mul hr2 hT) (by decide)
  obtain ⟨sr, esr⟩ : ∃ z, z = r * (b0 + b1 + b2) := ⟨_, rfl⟩
  rw [← esr] at hs0 hsl ⊢
  show Go p e below _ (s₁.setTop (mkF m 0 #[.val (.ref aL), .val (.ref aC), .val (.int pr), .val (.ref aV), .unset, .unset, .unset] []))
  refine Go.st (fun _ => XS.iloadN X0.here hx rfl (hb hby d15_0) rfl) ?_
  refine Go.st (fun _ => XS.i2l X0.here hx rfl (hb hby d15_1) rfl) ?_
  refine Go.st (fun _ => XS.aloadN X0.here hx rfl (hb hby d15_2) rfl rfl) ?_
  obtain ⟨T1, X1, e1, st1⟩ := getF X0 hx hZ hown (host := "") (Or.inl (ww hw 47 rfl)) Via.refl e0 l2 (g := (mkF m 3 #[.val (.ref aL), .val (.ref aC), .val (.int pr), .val (.ref aV), .unset, .unset, .unset] [(.ref aL), (.long (pr.toInt64))])) rfl rfl (hb hby d15_3)
  refine Go.st st1 ?_
  show Go p e below _ (T1.setTop (mkF m 6 #[.val (.ref aL), .val (.ref aC), .val (.int pr), .val (.ref aV), .unset, .unset, .unset] [(.int rb), (.long (pr.toInt64))]))
  refine Go.st (fun _ => XS.i2l X1.here hx rfl (hb hby d15_6) rfl) ?_
  refine Go.st (fun _ => XS.lmul X1.here hx rfl (hb hby d15_7) rfl) ?_
  refine Go.st (fun _ => XS.lstore X1.here hx rfl (hb hby d15_8) rfl (l' := #[.val (.ref aL), .val (.ref aC), .val (.int pr), .val (.ref aV), .val (.long ((pr.toInt64) * (rb.toInt64))), .second, .unset]) rfl) ?_
  show Go p e below _ (T1.setTop (mkF m 10 #[.val (.ref aL), .val (.ref aC), .val (.int pr), .val (.ref aV), .val (.long ((pr.toInt64) * (rb.toInt64))), .second, .unset] []))
  obtain ⟨qst, eqst⟩ : ∃ z, z = ((pr.toInt64) * (rb.toInt64)) := ⟨_, rfl⟩
  rw [← eqst]
  rw [← eqst] at hs0
  show Go p e below _ (T1.setTop (mkF m 10 #[.val (.ref aL), .val (.ref aC), .val (.int pr), .val (.ref aV), .val (.long qst), .second, .unset] []))
  refine Go.st (fun _ => XS.iconst X1.here hx rfl (hb hby d15_10)) ?_
  refine Go.st (fun _ => XS.istore X1.here hx rfl (hb hby d15_11) rfl (l' := #[.val (.ref aL), .val (.ref aC), .val (.int pr), .val (.ref aV), .val (.long qst), .second, .val (.int (0 : Int32))]) rfl) ?_
  refine Go.st (fun _ => XS.iload X1.here hx rfl (hb hby d15_13) rfl) ?_
  refine Go.st (fun _ => XS.aloadN X1.here hx rfl (hb hby d15_15) rfl rfl) ?_
  show Go p e below _ (T1.setTop (mkF m 16 #[.val (.ref aL), .val (.ref aC), .val (.int pr), .val (.ref aV), .val (.long qst), .second, .val (.int (0 : Int32))] [(.ref aL), (.int (0 : Int32))]))
  obtain ⟨T2, X2, e2, st2⟩ := getF X1 hx hZ hown (host := "") (Or.inl (ww hw 45 rfl)) Via.refl e1 l1 (g := (mkF m 16 #[.val (.ref aL), .val (.ref aC), .val (.int pr), .val (.ref aV), .val (.long qst), .second, .val (.int (0 : Int32))] [(.ref aL), (.int (0 : Int32))])) rfl rfl (hb hby d15_16)
  refine Go.st st2 ?_
  show Go p e below _ (T2.setTop (mkF m 19 #[.val (.ref aL), .val (.ref aC), .val (.int pr), .val (.ref aV), .val (.long qst), .second, .val (.int (0 : Int32))] [(.ref aw), (.int (0 : Int32))]))
  obtain ⟨cl3, Ar3, qk3, Sz3, Nn3, Ha3, Ga3⟩ := id vw
  refine Go.st (fun _ => X2.arraylength hx (by rw [e2]; exact Ar3.1) (State.isArrayOf_alike hZ.alike Ar3.2.1) (g := (mkF m 19 #[.val (.ref aL), .val (.ref aC), .val (.int pr), .val (.ref aV), .val (.long qst), .second, .val (.int (0 : Int32))] [(.ref aw), (.int (0 : Int32))])) rfl rfl (hb hby d15_19) _) ?_
  rw [len_of Sz3 Nn3]
  show Go p e below _ (T2.setTop (mkF m 20 #[.val (.ref aL), .val (.ref aC), .val (.int pr), .val (.ref aV), .val (.long qst), .second, .val (.int (0 : Int32))] [(.int (3 : Int32)), (.int (0 : Int32))]))
  refine Go.st (fun _ => XS.icmpNo X2.here hx rfl (hb hby d15_20) rfl (tlt (by decide : (0 : Int32) < (3 : Int32))).2.1) ?_
  refine Go.st (fun _ => XS.aloadN X2.here hx rfl (hb hby d15_23) rfl rfl) ?_
  refine Go.st (fun _ => XS.iload X2.here hx rfl (hb hby d15_24) rfl) ?_
  refine Go.st (fun _ => XS.aloadN X2.here hx rfl (hb hby d15_26) rfl rfl) ?_
  show Go p e below _ (T2.setTop (mkF m 27 #[.val (.ref aL), .val (.ref aC), .val (.int pr), .val (.ref aV), .val (.long qst), .second, .val (.int (0 : Int32))] [(.ref aC), (.int (0 : Int32)), (.ref aV)]))
  refine Go.st (fun _ => XS.lload X2.here hx rfl (hb hby d15_27) rfl) ?_
  refine Go.st (fun _ => XS.aloadN X2.here hx rfl (hb hby d15_29) rfl rfl) ?_
  obtain ⟨T4, X4, e4, st4⟩ := getF X2 hx hZ hown (host := "") (Or.inl (ww hw 45 rfl)) Via.refl e2 l1 (g := (mkF m 30 #[.val (.ref aL), .val (.ref aC), .val (.int pr), .val (.ref aV), .val (.long qst), .second, .val (.int (0 : Int32))] [(.ref aL), (.long qst), (.ref aC), (.int (0 : Int32)), (.ref aV)])) rfl rfl (hb hby d15_30)
  refine Go.st st4 ?_
  refine Go.st (fun _ => XS.iload X4.here hx rfl (hb hby d15_33) rfl) ?_
  show Go p e below _ (T4.setTop (mkF m 35 #[.val (.ref aL), .val (.ref aC), .val (.int pr), .val (.ref aV), .val (.long qst), .second, .val (.int (0 : Int32))] [(.int (0 : Int32)), (.ref aw), (.long qst), (.ref aC), (.int (0 : Int32)), (.ref aV)]))
  obtain ⟨cl5, Ar5, qk5, Sz5, Nn5, Ha5, Ga5⟩ := id vw
  have hin5 : ¬ ((0 : Int32) < 0 ∨ cl5.slots.size ≤ ((0 : Int32) : Int32).toNatClampNeg) := inb_of Sz5 ⟨by decide, by decide⟩
  refine Go.st (fun _ => X4.iaload hx (j := (0 : Int32)) (v := (.int w0)) (by rw [e4]; exact Ar5.1) (State.isArrayOf_alike hZ.alike Ar5.2.1) Ar5.2.2 hin5 (Has.at Ha5 hin5 rfl) (g := (mkF m 35 #[.val (.ref aL), .val (.ref aC), .val (.int pr), .val (.ref aV), .val (.long qst), .second, .val (.int (0 : Int32))] [(.int (0 : Int32)), (.ref aw), (.long qst), (.ref aC), (.int (0 : Int32)), (.ref aV)])) rfl rfl (hb hby d15_35) _) ?_
  refine goCallS X4 hx hZ (y := (⟨"com/example/traza/traza/PackedRows$Layout", "field", "([JJI)I"⟩ : MethodName)) hown (ww hw 105 rfl) (ww hw 106 rfl) (ww hw 39 rfl) (ww hw 107 rfl) (by decide) (argsL := [(.ref aC), (.long qst), (.int w0)]) (rest := [(.int (0 : Int32)), (.ref aV)]) e4 (rm_fld l Z a0 hw [] aC qst w0 (64 * (b0 + b1 + b2)) _ b0 f h0 n0 O0 vC hs0 (by omega) hw0 hb0 (by omega)) 2 (by decide) (by decide) (by decide) (by decide) (mkF m 36 #[.val (.ref aL), .val (.ref aC), .val (.int pr), .val (.ref aV), .val (.long qst), .second, .val (.int (0 : Int32))] [(.int w0), (.long qst), (.ref aC), (.int (0 : Int32)), (.ref aV)]) rfl (by rw [hml]; rfl) (lenOf pd_3 rfl) rfl (hb hby d15_36) (Nat.le_of_eq rfl) ?_
  intro v6 T6 L6 X6 hQ6
  obtain ⟨⟨z6, rfl, hz6⟩, M6, e6⟩ := hQ6
  have N6 := Fr.app N0 M6
  show Go p e below _ (T6.setTop (mkF m 39 #[.val (.ref aL), .val (.ref aC), .val (.int pr), .val (.ref aV), .val (.long qst), .second, .val (.int (0 : Int32))] [(.int z6), (.int (0 : Int32)), (.ref aV)]))
  obtain ⟨cl7, Ar7, qk7, Sz7, Nn7, Ha7, Ga7⟩ := id vV
  have hin7 : ¬ ((0 : Int32) < 0 ∨ cl7.slots.size ≤ ((0 : Int32) : Int32).toNatClampNeg) := inb_of Sz7 ⟨by decide, by decide⟩
  obtain ⟨T7, h7, X7, e7, W7, st7⟩ := stI X6 hx hZ e6 Ar7 (j := (0 : Int32)) hin7 (g := (mkF m 39 #[.val (.ref aL), .val (.ref aC), .val (.int pr), .val (.ref aV), .val (.long qst), .second, .val (.int (0 : Int32))] [(.int z6), (.int (0 : Int32)), (.ref aV)])) rfl rfl (hb hby d15_39)
  refine Go.st st7 ?_
  have O8 := O0.wr W7 gV
  have E_9 := A1.wr W7
  have F10 := l1.other W7 (Or.inl (Exa.neArv A1 vV (ww hw 38 rfl)))
  have F11 := l2.other W7 (Or.inl (Exa.neArv A1 vV (ww hw 38 rfl)))
  have V_12 := vw.other W7 neV
  have VL13 := LAr_other vC W7 (LAr_arv vC vV (fun q => nomatch q))
  have K14 := (Keep.refl h0 [aV]).wr W7 (Or.inl (List.mem_of_getElem? (i := 0) rfl))
  have V_15 : Arv Z h7 aV kV .int (3 : Int32) [(.int z6), (.int p1), (.int p2)] (.int (0 : Int32)) := Arv.set Ar7 qk7 Sz7 Nn7 Ha7 Ga7 rfl W7 0 rfl (Nat.le_of_ble_eq_true rfl)
  have N7 := Fr.snoc X7 N6 gV
  refine Go.st (fun _ => XS.lload X7.here hx rfl (hb hby d15_40) rfl) ?_
  refine Go.st (fun _ => XS.aloadN X7.here hx rfl (hb hby d15_42) rfl rfl) ?_
  obtain ⟨T16, X16, e16, st16⟩ := getF X7 hx hZ hown (host := "") (Or.inl (ww hw 45 rfl)) Via.refl e7 F10 (g := (mkF m 43 #[.val (.ref aL), .val (.ref aC), .val (.int pr), .val (.ref aV), .val (.long qst), .second, .val (.int (0 : Int32))] [(.ref aL), (.long qst)])) rfl rfl (hb hby d15_43)
  refine Go.st st16 ?_
  show Go p e below _ (T16.setTop (mkF m 46 #[.val (.ref aL), .val (.ref aC), .val (.int pr), .val (.ref aV), .val (.long qst), .second, .val (.int (0 : Int32))] [(.ref aw), (.long qst)]))
  refine Go.st (fun _ => XS.iload X16.here hx rfl (hb hby d15_46) rfl) ?_
  obtain ⟨cl17, Ar17, qk17, Sz17, Nn17, Ha17, Ga17⟩ := id V_12
  have hin17 : ¬ ((0 : Int32) < 0 ∨ cl17.slots.size ≤ ((0 : Int32) : Int32).toNatClampNeg) := inb_of Sz17 ⟨by decide, by decide⟩
  refine Go.st (fun _ => X16.iaload hx (j := (0 : Int32)) (v := (.int w0)) (by rw [e16]; exact Ar17.1) (State.isArrayOf_alike hZ.alike Ar17.2.1) Ar17.2.2 hin17 (Has.at Ha17 hin17 rfl) (g := (mkF m 48 #[.val (.ref aL), .val (.ref aC), .val (.int pr), .val (.ref aV), .val (.long qst), .second, .val (.int (0 : Int32))] [(.int (0 : Int32)), (.ref aw), (.long qst)])) rfl rfl (hb hby d15_48) _) ?_
  refine Go.st (fun _ => XS.i2l X16.here hx rfl (hb hby d15_49) rfl) ?_
  refine Go.st (fun _ => XS.ladd X16.here hx rfl (hb hby d15_50) rfl) ?_
  show Go p e below _ (T16.setTop (mkF m 51 #[.val (.ref aL), .val (.ref aC), .val (.int pr), .val (.ref aV), .val (.long qst), .second, .val (.int (0 : Int32))] [(.long (qst + (w0.toInt64)))]))
  refine Go.st (fun _ => XS.lstore X16.here hx rfl (hb hby d15_51) rfl (l' := #[.val (.ref aL), .val (.ref aC), .val (.int pr), .val (.ref aV), .val (.long (qst + (w0.toInt64))), .second, .val (.int (0 : Int32))]) rfl) ?_
  refine Go.st (fun _ => XS.iinc X16.here hx rfl (hb hby d15_53) rfl (l' := #[.val (.ref aL), .val (.ref aC), .val (.int pr), .val (.ref aV), .val (.long (qst + (w0.toInt64))), .second, .val (.int (1 : Int32))]) rfl) ?_
  refine Go.st (fun _ => XS.goto X16.here hx rfl (pc0 := 56) (pc' := 13) rfl (hb hby d15_56) (by decide) (by decide)) ?_
  refine Go.st (fun _ => XS.iload X16.here hx rfl (hb hby d15_13) rfl) ?_
  show Go p e below _ (T16.setTop (mkF m 15 #[.val (.ref aL), .val (.ref aC), .val (.int pr), .val (.ref aV), .val (.long (qst + (w0.toInt64))), .second, .val (.int (1 : Int32))] [(.int (1 : Int32))]))
  refine Go.st (fun _ => XS.aloadN X16.here hx rfl (hb hby d15_15) rfl rfl) ?_
  obtain ⟨T18, X18, e18, st18⟩ := getF X16 hx hZ hown (host := "") (Or.inl (ww hw 45 rfl)) Via.refl e16 F10 (g := (mkF m 16 #[.val (.ref aL), .val (.ref aC), .val (.int pr), .val (.ref aV), .val (.long (qst + (w0.toInt64))), .second, .val (.int (1 : Int32))] [(.ref aL), (.int (1 : Int32))])) rfl rfl (hb hby d15_16)
  refine Go.st st18 ?_
  show Go p e below _ (T18.setTop (mkF m 19 #[.val (.ref aL), .val (.ref aC), .val (.int pr), .val (.ref aV), .val (.long (qst + (w0.toInt64))), .second, .val (.int (1 : Int32))] [(.ref aw), (.int (1 : Int32))]))
  obtain ⟨cl19, Ar19, qk19, Sz19, Nn19, Ha19, Ga19⟩ := id V_12
  refine Go.st (fun _ => X18.arraylength hx (by rw [e18]; exact Ar19.1) (State.isArrayOf_alike hZ.alike Ar19.2.1) (g := (mkF m 19 #[.val (.ref aL), .val (.ref aC), .val (.int pr), .val (.ref aV), .val (.long (qst + (w0.toInt64))), .second, .val (.int (1 : Int32))] [(.ref aw), (.int (1 : Int32))])) rfl rfl (hb hby d15_19) _) ?_
  rw [len_of Sz19 Nn19]
  show Go p e below _ (T18.setTop (mkF m 20 #[.val (.ref aL), .val (.ref aC), .val (.int pr), .val (.ref aV), .val (.long (qst + (w0.toInt64))), .second, .val (.int (1 : Int32))] [(.int (3 : Int32)), (.int (1 : Int32))]))
  refine Go.st (fun _ => XS.icmpNo X18.here hx rfl (hb hby d15_20) rfl (tlt (by decide : (1 : Int32) < (3 : Int32))).2.1) ?_
  refine Go.st (fun _ => XS.aloadN X18.here hx rfl (hb hby d15_23) rfl rfl) ?_
  refine Go.st (fun _ => XS.iload X18.here hx rfl (hb hby d15_24) rfl) ?_
  refine Go.st (fun _ => XS.aloadN X18.here hx rfl (hb hby d15_26) rfl rfl) ?_
  show Go p e below _ (T18.setTop (mkF m 27 #[.val (.ref aL), .val (.ref aC), .val (.int pr), .val (.ref aV), .val (.long (qst + (w0.toInt64))), .second, .val (.int (1 : Int32))] [(.ref aC), (.int (1 : Int32)), (.ref aV)]))
  refine Go.st (fun _ => XS.lload X18.here hx rfl (hb hby d15_27) rfl) ?_
  refine Go.st (fun _ => XS.aloadN X18.here hx rfl (hb hby d15_29) rfl rfl) ?_
  obtain ⟨T20, X20, e20, st20⟩ := getF X18 hx hZ hown (host := "") (Or.inl (ww hw 45 rfl)) Via.refl e18 F10 (g := (mkF m 30 #[.val (.ref aL), .val (.ref aC), .val (.int pr), .val (.ref aV), .val (.long (qst + (w0.toInt64))), .second, .val (.int (1 : Int32))] [(.ref aL), (.long (qst + (w0.toInt64))), (.ref aC), (.int (1 : Int32)), (.ref aV)])) rfl rfl (hb hby d15_30)
  refine Go.st st20 ?_
  refine Go.st (fun _ => XS.iload X20.here hx rfl (hb hby d15_33) rfl) ?_
  show Go p e below _ (T20.setTop (mkF m 35 #[.val (.ref aL), .val (.ref aC), .val (.int pr), .val (.ref aV), .val (.long (qst + (w0.toInt64))), .second, .val (.int (1 : Int32))] [(.int (1 : Int32)), (.ref aw), (.long (qst + (w0.toInt64))), (.ref aC), (.int (1 : Int32)), (.ref aV)]))
  obtain ⟨cl21, Ar21, qk21, Sz21, Nn21, Ha21, Ga21⟩ := id V_12
  have hin21 : ¬ ((1 : Int32) < 0 ∨ cl21.slots.size ≤ ((1 : Int32) : Int32).toNatClampNeg) := inb_of Sz21 ⟨by decide, by decide⟩
  refine Go.st (fun _ => X20.iaload hx (j := (1 : Int32)) (v := (.int w1)) (by rw [e20]; exact Ar21.1) (State.isArrayOf_alike hZ.alike Ar21.2.1) Ar21.2.2 hin21 (Has.at Ha21 hin21 rfl) (g := (mkF m 35 #[.val (.ref aL), .val (.ref aC), .val (.int pr), .val (.ref aV), .val (.long (qst + (w0.toInt64))), .second, .val (.int (1 : Int32))] [(.int (1 : Int32)), (.ref aw), (.long (qst + (w0.toInt64))), (.ref aC), (.int (1 : Int32)), (.ref aV)])) rfl rfl (hb hby d15_35) _) ?_
  have hs1 : ((qst + (w0.toInt64))).toInt = ((sr + b0 : Nat) : Int) := own_addJ hs0 (own_i2l hw0) (by omega)
  refine goCallS X20 hx hZ (y := (⟨"com/example/traza/traza/PackedRows$Layout", "field", "([JJI)I"⟩ : MethodName)) hown (ww hw 105 rfl) (ww hw 106 rfl) (ww hw 39 rfl) (ww hw 107 rfl) (by decide) (argsL := [(.ref aC), (.long (qst + (w0.toInt64))), (.int w1)]) (rest := [(.int (1 : Int32)), (.ref aV)]) e20 (rm_fld l Z a0 hw [] aC (qst + (w0.toInt64)) w1 (64 * (b0 + b1 + b2)) _ b1 f h7 n0 O8 VL13 hs1 (by omega) hw1 hb1 (by omega)) 2 (by decide) (by decide) (by decide) (by decide) (mkF m 36 #[.val (.ref aL), .val (.ref aC), .val (.int pr), .val (.ref aV), .val (.long (qst + (w0.toInt64))), .second, .val (.int (1 : Int32))] [(.int w1), (.long (qst + (w0.toInt64))), (.ref aC), (.int (1 : Int32)), (.ref aV)]) rfl (by rw [hml]; rfl) (lenOf pd_3 rfl) rfl (hb hby d15_36) (Nat.le_of_eq rfl) ?_
  intro v22 T22 L22 X22 hQ22
  obtain ⟨⟨z22, rfl, hz22⟩, M22, e22⟩ := hQ22
  have N22 := Fr.app N7 M22
  show Go p e below _ (T22.setTop (mkF m 39 #[.val (.ref aL), .val (.ref aC), .val (.int pr), .val (.ref aV), .val (.long (qst + (w0.toInt64))), .second, .val (.int (1 : Int32))] [(.int z22), (.int (1 : Int32)), (.ref aV)]))
  obtain ⟨cl23, Ar23, qk23, Sz23, Nn23, Ha23, Ga23⟩ := id V_15
  have hin23 : ¬ ((1 : Int32) < 0 ∨ cl23.slots.size ≤ ((1 : Int32) : Int32).toNatClampNeg) := inb_of Sz23 ⟨by decide, by decide⟩
  obtain ⟨T23, h23, X23, e23, W23, st23⟩ := stI X22 hx hZ e22 Ar23 (j := (1 : Int32)) hin23 (g := (mkF m 39 #[.val (.ref aL), .val (.ref aC), .val (.int pr), .val (.ref aV), .val (.long (qst + (w0.toInt64))), .second, .val (.int (1 : Int32))] [(.int z22), (.int (1 : Int32)), (.ref aV)])) rfl rfl (hb hby d15_39)
  refine Go.st st23 ?_
  have O24 := O8.wr W23 gV
  have E_25 := E_9.wr W23
  have F26 := F10.other W23 (Or.inl (Exa.neArv E_9 V_15 (ww hw 38 rfl)))
  have F27 := F11.other W23 (Or.inl (Exa.neArv E_9 V_15 (ww hw 38 rfl)))
  have V_28 := V_12.other W23 neV
  have VL29 := LAr_other VL13 W23 (LAr_arv VL13 V_15 (fun q => nomatch q))
  have K30 := K14.wr W23 (Or.inl (List.mem_of_getElem? (i := 0) rfl))
  have V_31 : Arv Z h23 aV kV .int (3 : Int32) [(.int z6), (.int z22), (.int p2)] (.int (0 : Int32)) := Arv.set Ar23 qk23 Sz23 Nn23 Ha23 Ga23 rfl W23 1 rfl (Nat.le_of_ble_eq_true rfl)
  have N23 := Fr.snoc X23 N22 gV
  refine Go.st (fun _ => XS.lload X23.here hx rfl (hb hby d15_40) rfl) ?_
  refine Go.st (fun _ => XS.aloadN X23.here hx rfl (hb hby d15_42) rfl rfl) ?_
  obtain ⟨T32, X32, e32, st32⟩ := getF X23 hx hZ hown (host := "") (Or.inl (ww hw 45 rfl)) Via.refl e23 F26 (g := (mkF m 43 #[.val (.ref aL), .val (.ref aC), .val (.int pr), .val (.ref aV), .val (.long (qst + (w0.toInt64))), .second, .val (.int (1 : Int32))] [(.ref aL), (.long (qst + (w0.toInt64)))])) rfl rfl (hb hby d15_43)
  refine Go.st st32 ?_
  show Go p e below _ (T32.setTop (mkF m 46 #[.val (.ref aL), .val (.ref aC), .val (.int pr), .val (.ref aV), .val (.long (qst + (w0.toInt64))), .second, .val (.int (1 : Int32))] [(.ref aw), (.long (qst + (w0.toInt64)))]))
  refine Go.st (fun _ => XS.iload X32.here hx rfl (hb hby d15_46) rfl) ?_
  obtain ⟨cl33, Ar33, qk33, Sz33, Nn33, Ha33, Ga33⟩ := id V_28
  have hin33 : ¬ ((1 : Int32) < 0 ∨ cl33.slots.size ≤ ((1 : Int32) : Int32).toNatClampNeg) := inb_of Sz33 ⟨by decide, by decide⟩
  refine Go.st (fun _ => X32.iaload hx (j := (1 : Int32)) (v := (.int w1)) (by rw [e32]; exact Ar33.1) (State.isArrayOf_alike hZ.alike Ar33.2.1) Ar33.2.2 hin33 (Has.at Ha33 hin33 rfl) (g := (mkF m 48 #[.val (.ref aL), .val (.ref aC), .val (.int pr), .val (.ref aV), .val (.long (qst + (w0.toInt64))), .second, .val (.int (1 : Int32))] [(.int (1 : Int32)), (.ref aw), (.long (qst + (w0.toInt64)))])) rfl rfl (hb hby d15_48) _) ?_
  refine Go.st (fun _ => XS.i2l X32.here hx rfl (hb hby d15_49) rfl) ?_
  refine Go.st (fun _ => XS.ladd X32.here hx rfl (hb hby d15_50) rfl) ?_
  show Go p e below _ (T32.setTop (mkF m 51 #[.val (.ref aL), .val (.ref aC), .val (.int pr), .val (.ref aV), .val (.long (qst + (w0.toInt64))), .second, .val (.int (1 : Int32))] [(.long ((qst + (w0.toInt64)) + (w1.toInt64)))]))
  refine Go.st (fun _ => XS.lstore X32.here hx rfl (hb hby d15_51) rfl (l' := #[.val (.ref aL), .val (.ref aC), .val (.int pr), .val (.ref aV), .val (.long ((qst + (w0.toInt64)) + (w1.toInt64))), .second, .val (.int (1 : Int32))]) rfl) ?_
  refine Go.st (fun _ => XS.iinc X32.here hx rfl (hb hby d15_53) rfl (l' := #[.val (.ref aL), .val (.ref aC), .val (.int pr), .val (.ref aV), .val (.long ((qst + (w0.toInt64)) + (w1.toInt64))), .second, .val (.int (2 : Int32))]) rfl) ?_
  refine Go.st (fun _ => XS.goto X32.here hx rfl (pc0 := 56) (pc' := 13) rfl (hb hby d15_56) (by decide) (by decide)) ?_
  refine Go.st (fun _ => XS.iload X32.here hx rfl (hb hby d15_13) rfl) ?_
  show Go p e below _ (T32.setTop (mkF m 15 #[.val (.ref aL), .val (.ref aC), .val (.int pr), .val (.ref aV), .val (.long ((qst + (w0.toInt64)) + (w1.toInt64))), .second, .val (.int (2 : Int32))] [(.int (2 : Int32))]))
  refine Go.st (fun _ => XS.aloadN X32.here hx rfl (hb hby d15_15) rfl rfl) ?_
  obtain ⟨T34, X34, e34, st34⟩ := getF X32 hx hZ hown (host := "") (Or.inl (ww hw 45 rfl)) Via.refl e32 F26 (g := (mkF m 16 #[.val (.ref aL), .val (.ref aC), .val (.int pr), .val (.ref aV), .val (.long ((qst + (w0.toInt64)) + (w1.toInt64))), .second, .val (.int (2 : Int32))] [(.ref aL), (.int (2 : Int32))])) rfl rfl (hb hby d15_16)
  refine Go.st st34 ?_
  show Go p e below _ (T34.setTop (mkF m 19 #[.val (.ref aL), .val (.ref aC), .val (.int pr), .val (.ref aV), .val (.long ((qst + (w0.toInt64)) + (w1.toInt64))), .second, .val (.int (2 : Int32))] [(.ref aw), (.int (2 : Int32))]))
  obtain ⟨cl35, Ar35, qk35, Sz35, Nn35, Ha35, Ga35⟩ := id V_28
  refine Go.st (fun _ => X34.arraylength hx (by rw [e34]; exact Ar35.1) (State.isArrayOf_alike hZ.alike Ar35.2.1) (g := (mkF m 19 #[.val (.ref aL), .val (.ref aC), .val (.int pr), .val (.ref aV), .val (.long ((qst + (w0.toInt64)) + (w1.toInt64))), .second, .val (.int (2 : Int32))] [(.ref aw), (.int (2 : Int32))])) rfl rfl (hb hby d15_19) _) ?_
  rw [len_of Sz35 Nn35]
  show Go p e below _ (T34.setTop (mkF m 20 #[.val (.ref aL), .val (.ref aC), .val (.int pr), .val (.ref aV), .val (.long ((qst + (w0.toInt64)) + (w1.toInt64))), .second, .val (.int (2 : Int32))] [(.int (3 : Int32)), (.int (2 : Int32))]))
  refine Go.st (fun _ => XS.icmpNo X34.here hx rfl (hb hby d15_20) rfl (tlt (by decide : (2 : Int32) < (3 : Int32))).2.1) ?_
  refine Go.st (fun _ => XS.aloadN X34.here hx rfl (hb hby d15_23) rfl rfl) ?_
  refine Go.st (fun _ => XS.iload X34.here hx rfl (hb hby d15_24) rfl) ?_
  refine Go.st (fun _ => XS.aloadN X34.here hx rfl (hb hby d15_26) rfl rfl) ?_
  show Go p e below _ (T34.setTop (mkF m 27 #[.val (.ref aL), .val (.ref aC), .val (.int pr), .val (.ref aV), .val (.long ((qst + (w0.toInt64)) + (w1.toInt64))), .second, .val (.int (2 : Int32))] [(.ref aC), (.int (2 : Int32)), (.ref aV)]))
  refine Go.st (fun _ => XS.lload X34.here hx rfl (hb hby d15_27) rfl) ?_
  refine Go.st (fun _ => XS.aloadN X34.here hx rfl (hb hby d15_29) rfl rfl) ?_
  obtain ⟨T36, X36, e36, st36⟩ := getF X34 hx hZ hown (host := "") (Or.inl (ww hw 45 rfl)) Via.refl e34 F26 (g := (mkF m 30 #[.val (.ref aL), .val (.ref aC), .val (.int pr), .val (.ref aV), .val (.long ((qst + (w0.toInt64)) + (w1.toInt64))), .second, .val (.int (2 : Int32))] [(.ref aL), (.long ((qst + (w0.toInt64)) + (w1.toInt64))), (.ref aC), (.int (2 : Int32)), (.ref aV)])) rfl rfl (hb hby d15_30)
  refine Go.st st36 ?_
  refine Go.st (fun _ => XS.iload X36.here hx rfl (hb hby d15_33) rfl) ?_
  show Go p e below _ (T36.setTop (mkF m 35 #[.val (.ref aL), .val (.ref aC), .val (.int pr), .val (.ref aV), .val (.long ((qst + (w0.toInt64)) + (w1.toInt64))), .second, .val (.int (2 : Int32))] [(.int (2 : Int32)), (.ref aw), (.long ((qst + (w0.toInt64)) + (w1.toInt64))), (.ref aC), (.int (2 : Int32)), (.ref aV)]))
  obtain ⟨cl37, Ar37, qk37, Sz37, Nn37, Ha37, Ga37⟩ := id V_28
  have hin37 : ¬ ((2 : Int32) < 0 ∨ cl37.slots.size ≤ ((2 : Int32) : Int32).toNatClampNeg) := inb_of Sz37 ⟨by decide, by decide⟩
  refine Go.st (fun _ => X36.iaload hx (j := (2 : Int32)) (v := (.int w2)) (by rw [e36]; exact Ar37.1) (State.isArrayOf_alike hZ.alike Ar37.2.1) Ar37.2.2 hin37 (Has.at Ha37 hin37 rfl) (g := (mkF m 35 #[.val (.ref aL), .val (.ref aC), .val (.int pr), .val (.ref aV), .val (.long ((qst + (w0.toInt64)) + (w1.toInt64))), .second, .val (.int (2 : Int32))] [(.int (2 : Int32)), (.ref aw), (.long ((qst + (w0.toInt64)) + (w1.toInt64))), (.ref aC), (.int (2 : Int32)), (.ref aV)])) rfl rfl (hb hby d15_35) _) ?_
  have hs2 : (((qst + (w0.toInt64)) + (w1.toInt64))).toInt = ((sr + b0 + b1 : Nat) : Int) := own_addJ hs1 (own_i2l hw1) (by omega)
  refine goCallS X36 hx hZ (y := (⟨"com/example/traza/traza/PackedRows$Layout", "field", "([JJI)I"⟩ : MethodName)) hown (ww hw 105 rfl) (ww hw 106 rfl) (ww hw 39 rfl) (ww hw 107 rfl) (by decide) (argsL := [(.ref aC), (.long ((qst + (w0.toInt64)) + (w1.toInt64))), (.int w2)]) (rest := [(.int (2 : Int32)), (.ref aV)]) e36 (rm_fld l Z a0 hw [] aC ((qst + (w0.toInt64)) + (w1.toInt64)) w2 (64 * (b0 + b1 + b2)) _ b2 f h23 n0 O24 VL29 hs2 (by omega) hw2 hb2 (by omega)) 2 (by decide) (by decide) (by decide) (by decide) (mkF m 36 #[.val (.ref aL), .val (.ref aC), .val (.int pr), .val (.ref aV), .val (.long ((qst + (w0.toInt64)) + (w1.toInt64))), .second, .val (.int (2 : Int32))] [(.int w2), (.long ((qst + (w0.toInt64)) + (w1.toInt64))), (.ref aC), (.int (2 : Int32)), (.ref aV)]) rfl (by rw [hml]; rfl) (lenOf pd_3 rfl) rfl (hb hby d15_36) (Nat.le_of_eq rfl) ?_
  intro v38 T38 L38 X38 hQ38
  obtain ⟨⟨z38, rfl, hz38⟩, M38, e38⟩ := hQ38
  have N38 := Fr.app N23 M38
  show Go p e below _ (T38.setTop (mkF m 39 #[.val (.ref aL), .val (.ref aC), .val (.int pr), .val (.ref aV), .val (.long ((qst + (w0.toInt64)) + (w1.toInt64))), .second, .val (.int (2 : Int32))] [(.int z38), (.int (2 : Int32)), (.ref aV)]))
  obtain ⟨cl39, Ar39, qk39, Sz39, Nn39, Ha39, Ga39⟩ := id V_31
  have hin39 : ¬ ((2 : Int32) < 0 ∨ cl39.slots.size ≤ ((2 : Int32) : Int32).toNatClampNeg) := inb_of Sz39 ⟨by decide, by decide⟩
  obtain ⟨T39, h39, X39, e39, W39, st39⟩ := stI X38 hx hZ e38 Ar39 (j := (2 : Int32)) hin39 (g := (mkF m 39 #[.val (.ref aL), .val (.ref aC), .val (.int pr), .val (.ref aV), .val (.long ((qst + (w0.toInt64)) + (w1.toInt64))), .second, .val (.int (2 : Int32))] [(.int z38), (.int (2 : Int32)), (.ref aV)])) rfl rfl (hb hby d15_39)
  refine Go.st st39 ?_
  have O40 := O24.wr W39 gV
  have E_41 := E_25.wr W39
  have F42 := F26.other W39 (Or.inl (Exa.neArv E_25 V_31 (ww hw 38 rfl)))
  have F43 := F27.other W39 (Or.inl (Exa.neArv E_25 V_31 (ww hw 38 rfl)))
  have V_44 := V_28.other W39 neV
  have VL45 := LAr_other VL29 W39 (LAr_arv VL29 V_31 (fun q => nomatch q))
  have K46 := K30.wr W39 (Or.inl (List.mem_of_getElem? (i := 0) rfl))
  have V_47 : Arv Z h39 aV kV .int (3 : Int32) [(.int z6), (.int z22), (.int z38)] (.int (0 : Int32)) := Arv.set Ar39 qk39 Sz39 Nn39 Ha39 Ga39 rfl W39 2 rfl (Nat.le_of_ble_eq_true rfl)
  have N39 := Fr.snoc X39 N38 gV
  refine Go.st (fun _ => XS.lload X39.here hx rfl (hb hby d15_40) rfl) ?_
  refine Go.st (fun _ => XS.aloadN X39.here hx rfl (hb hby d15_42) rfl rfl) ?_
  obtain ⟨T48, X48, e48, st48⟩ := getF X39 hx hZ hown (host := "") (Or.inl (ww hw 45 rfl)) Via.refl e39 F42 (g := (mkF m 43 #[.val (.ref aL), .val (.ref aC), .val (.int pr), .val (.ref aV), .val (.long ((qst + (w0.toInt64)) + (w1.toInt64))), .second, .val (.int (2 : Int32))] [(.ref aL), (.long ((qst + (w0.toInt64)) + (w1.toInt64)))])) rfl rfl (hb hby d15_43)
  refine Go.st st48 ?_
  show Go p e below _ (T48.setTop (mkF m 46 #[.val (.ref aL), .val (.ref aC), .val (.int pr), .val (.ref aV), .val (.long ((qst + (w0.toInt64)) + (w1.toInt64))), .second, .val (.int (2 : Int32))] [(.ref aw), (.long ((qst + (w0.toInt64)) + (w1.toInt64)))]))
  refine Go.st (fun _ => XS.iload X48.here hx rfl (hb hby d15_46) rfl) ?_
  obtain ⟨cl49, Ar49, qk49, Sz49, Nn49, Ha49, Ga49⟩ := id V_44
  have hin49 : ¬ ((2 : Int32) < 0 ∨ cl49.slots.size ≤ ((2 : Int32) : Int32).toNatClampNeg) := inb_of Sz49 ⟨by decide, by decide⟩
  refine Go.st (fun _ => X48.iaload hx (j := (2 : Int32)) (v := (.int w2)) (by rw [e48]; exact Ar49.1) (State.isArrayOf_alike hZ.alike Ar49.2.1) Ar49.2.2 hin49 (Has.at Ha49 hin49 rfl) (g := (mkF m 48 #[.val (.ref aL), .val (.ref aC), .val (.int pr), .val (.ref aV), .val (.long ((qst + (w0.toInt64)) + (w1.toInt64))), .second, .val (.int (2 : Int32))] [(.int (2 : Int32)), (.ref aw), (.long ((qst + (w0.toInt64)) + (w1.toInt64)))])) rfl rfl (hb hby d15_48) _) ?_
  refine Go.st (fun _ => XS.i2l X48.here hx rfl (hb hby d15_49) rfl) ?_
  refine Go.st (fun _ => XS.ladd X48.here hx rfl (hb hby d15_50) rfl) ?_
  show Go p e below _ (T48.setTop (mkF m 51 #[.val (.ref aL), .val (.ref aC), .val (.int pr), .val (.ref aV), .val (.long ((qst + (w0.toInt64)) + (w1.toInt64))), .second, .val (.int (2 : Int32))] [(.long (((qst + (w0.toInt64)) + (w1.toInt64)) + (w2.toInt64)))]))
  refine Go.st (fun _ => XS.lstore X48.here hx rfl (hb hby d15_51) rfl (l' := #[.val (.ref aL), .val (.ref aC), .val (.int pr), .val (.ref aV), .val (.long (((qst + (w0.toInt64)) + (w1.toInt64)) + (w2.toInt64))), .second, .val (.int (2 : Int32))]) rfl) ?_
  refine Go.st (fun _ => XS.iinc X48.here hx rfl (hb hby d15_53) rfl (l' := #[.val (.ref aL), .val (.ref aC), .val (.int pr), .val (.ref aV), .val (.long (((qst + (w0.toInt64)) + (w1.toInt64)) + (w2.toInt64))), .second, .val (.int (3 : Int32))]) rfl) ?_
  refine Go.st (fun _ => XS.goto X48.here hx rfl (pc0 := 56) (pc' := 13) rfl (hb hby d15_56) (by decide) (by decide)) ?_
  refine Go.st (fun _ => XS.iload X48.here hx rfl (hb hby d15_13) rfl) ?_
  show Go p e below _ (T48.setTop (mkF m 15 #[.val (.ref aL), .val (.ref aC), .val (.int pr), .val (.ref aV), .val (.long (((qst + (w0.toInt64)) + (w1.toInt64)) + (w2.toInt64))), .second, .val (.int (3 : Int32))] [(.int (3 : Int32))]))
  refine Go.st (fun _ => XS.aloadN X48.here hx rfl (hb hby d15_15) rfl rfl) ?_
  obtain ⟨T50, X50, e50, st50⟩ := getF X48 hx hZ hown (host := "") (Or.inl (ww hw 45 rfl)) Via.refl e48 F42 (g := (mkF m 16 #[.val (.ref aL), .val (.ref aC), .val (.int pr), .val (.ref aV), .val (.long (((qst + (w0.toInt64)) + (w1.toInt64)) + (w2.toInt64))), .second, .val (.int (3 : Int32))] [(.ref aL), (.int (3 : Int32))])) rfl rfl (hb hby d15_16)
  refine Go.st st50 ?_
  show Go p e below _ (T50.setTop (mkF m 19 #[.val (.ref aL), .val (.ref aC), .val (.int pr), .val (.ref aV), .val (.long (((qst + (w0.toInt64)) + (w1.toInt64)) + (w2.toInt64))), .second, .val (.int (3 : Int32))] [(.ref aw), (.int (3 : Int32))]))
  obtain ⟨cl51, Ar51, qk51, Sz51, Nn51, Ha51, Ga51⟩ := id V_44
  refine Go.st (fun _ => X50.arraylength hx (by rw [e50]; exact Ar51.1) (State.isArrayOf_alike hZ.alike Ar51.2.1) (g := (mkF m 19 #[.val (.ref aL), .val (.ref aC), .val (.int pr), .val (.ref aV), .val (.long (((qst + (w0.toInt64)) + (w1.toInt64)) + (w2.toInt64))), .second, .val (.int (3 : Int32))] [(.ref aw), (.int (3 : Int32))])) rfl rfl (hb hby d15_19) _) ?_
  rw [len_of Sz51 Nn51]
  show Go p e below _ (T50.setTop (mkF m 20 #[.val (.ref aL), .val (.ref aC), .val (.int pr), .val (.ref aV), .val (.long (((qst + (w0.toInt64)) + (w1.toInt64)) + (w2.toInt64))), .second, .val (.int (3 : Int32))] [(.int (3 : Int32)), (.int (3 : Int32))]))
  refine Go.st (fun _ => XS.icmpYes X50.here hx rfl (pc0 := 20) (pc' := 59) rfl (hb hby d15_20) rfl (flt (by decide : ¬ ((3 : Int32) < (3 : Int32)))).2.1 (by decide) (by decide)) ?_
  show Go p e below _ (T50.setTop (mkF m 59 #[.val (.ref aL), .val (.ref aC), .val (.int pr), .val (.ref aV), .val (.long (((qst + (w0.toInt64)) + (w1.toInt64)) + (w2.toInt64))), .second, .val (.int (3 : Int32))] []))
  exact goRetV X50 hx hlk hret e50 (hb hby d15_59) (by decide) (by decide) ⟨rfl, N39, K46, _, _, _, V_47, hz6, hz22, hz38⟩
theorem d1_0 : decode prog_27_method_1_code 0 = .ok (.aload_n 0, 1) := by decide +kernel
theorem d1_1 : decode prog_27_method_1_code 1 = .ok (.invokespecial 1, 3) := by decide +kernel
theorem d1_4 : decode prog_27_method_1_code 4 = .ok (.aload_n 0, 1) := by decide +kernel
theorem d1_5 : decode prog_27_method_1_code 5 = .ok (.iconst 1, 1) := by decide +kernel
theorem d1_6 : decode prog_27_method_1_code 6 = .ok (.anewarray 7, 3) := by decide +kernel
theorem d1_9 : decode prog_27_method_1_code 9 = .ok (.putfield 9, 3) := by decide +kernel
theorem d1_12 : decode prog_27_method_1_code 12 = .ok (.aload_n 0, 1) := by decide +kernel
theorem d1_13 : decode prog_27_method_1_code 13 = .ok (.iconst 1, 1) := by decide +kernel
theorem d1_14 : decode prog_27_method_1_code 14 = .ok (.anewarray 15, 3) := by decide +kernel
theorem d1_17 : decode prog_27_method_1_code 17 = .ok (.putfield 17, 3) := by decide +kernel
theorem d1_20 : decode prog_27_method_1_code 20 = .ok (.aload_n 0, 1) := by decide +kernel
theorem d1_21 : decode prog_27_method_1_code 21 = .ok (.iconst 0, 1) := by decide +kernel
theorem d1_22 : decode prog_27_method_1_code 22 = .ok (.bipush 12, 2) := by decide +kernel
theorem d1_24 : decode prog_27_method_1_code 24 = .ok (.bipush 17, 2) := by decide +kernel
theorem d1_26 : decode prog_27_method_1_code 26 = .ok (.iload_n 1, 1) := by decide +kernel
theorem d1_27 : decode prog_27_method_1_code 27 = .ok (.iconst 1, 1) := by decide +kernel
theorem d1_28 : decode prog_27_method_1_code 28 = .ok (.invokestatic 21, 3) := by decide +kernel
theorem d1_31 : decode prog_27_method_1_code 31 = .ok (.iconst 1, 1) := by decide +kernel
theorem d1_32 : decode prog_27_method_1_code 32 = .ok (.isub, 1) := by decide +kernel
theorem d1_33 : decode prog_27_method_1_code 33 = .ok (.invokestatic 27, 3) := by decide +kernel
theorem d1_36 : decode prog_27_method_1_code 36 = .ok (.isub, 1) := by decide +kernel
theorem d1_37 : decode prog_27_method_1_code 37 = .ok (.invokestatic 31, 3) := by decide +kernel
theorem d1_40 : decode prog_27_method_1_code 40 = .ok (.invokestatic 21, 3) := by decide +kernel
theorem d1_43 : decode prog_27_method_1_code 43 = .ok (.putfield 34, 3) := by decide +kernel
theorem d1_46 : decode prog_27_method_1_code 46 = .ok (.aload_n 0, 1) := by decide +kernel
theorem d1_47 : decode prog_27_method_1_code 47 = .ok (.iconst 1, 1) := by decide +kernel
theorem d1_48 : decode prog_27_method_1_code 48 = .ok (.aload_n 0, 1) := by decide +kernel
theorem d1_49 : decode prog_27_method_1_code 49 = .ok (.getfield 34, 3) := by decide +kernel
theorem d1_52 : decode prog_27_method_1_code 52 = .ok (.ishl, 1) := by decide +kernel
theorem d1_53 : decode prog_27_method_1_code 53 = .ok (.iconst 1, 1) := by decide +kernel
theorem d1_54 : decode prog_27_method_1_code 54 = .ok (.isub, 1) := by decide +kernel
theorem d1_55 : decode prog_27_method_1_code 55 = .ok (.putfield 38, 3) := by decide +kernel
theorem d1_58 : decode prog_27_method_1_code 58 = .ok (.aload_n 0, 1) := by decide +kernel
theorem d1_59 : decode prog_27_method_1_code 59 = .ok (.new 15, 3) := by decide +kernel
theorem d1_62 : decode prog_27_method_1_code 62 = .ok (.dup, 1) := by decide +kernel
theorem d1_63 : decode prog_27_method_1_code 63 = .ok (.iload_n 1, 1) := by decide +kernel
theorem d1_64 : decode prog_27_method_1_code 64 = .ok (.newarray .int, 2) := by decide +kernel
theorem d1_66 : decode prog_27_method_1_code 66 = .ok (.aload_n 0, 1) := by decide +kernel
theorem d1_67 : decode prog_27_method_1_code 67 = .ok (.getfield 34, 3) := by decide +kernel
theorem d1_70 : decode prog_27_method_1_code 70 = .ok (.invokespecial 41, 3) := by decide +kernel
theorem d1_73 : decode prog_27_method_1_code 73 = .ok (.putfield 44, 3) := by decide +kernel
theorem d1_76 : decode prog_27_method_1_code 76 = .ok (.aload_n 0, 1) := by decide +kernel
theorem d1_77 : decode prog_27_method_1_code 77 = .ok (.aload_n 0, 1) := by decide +kernel
theorem d1_78 : decode prog_27_method_1_code 78 = .ok (.getfield 44, 3) := by decide +kernel
theorem d1_81 : decode prog_27_method_1_code 81 = .ok (.getfield 48, 3) := by decide +kernel
theorem d1_84 : decode prog_27_method_1_code 84 = .ok (.newarray .long, 2) := by decide +kernel
theorem d1_86 : decode prog_27_method_1_code 86 = .ok (.putfield 51, 3) := by decide +kernel
theorem d1_89 : decode prog_27_method_1_code 89 = .ok (.return_, 1) := by decide +kernel
theorem pn_1 : plainName "com/example/traza/traza/PackedRows" = true := by first | (simp [plainName, overriddenIn]; done) | decide +kernel
set_option maxRecDepth 65536 in
set_option maxHeartbeats 40000000 in
theorem rm_PI (l : Launch) (Z : State) (a0 : Array Value) (hw : ∀ d ∈ tables_1, d.before a0 Z = true) (ws : List Jvm.Cond) (aP : Addr) (h0 : Heap) (n0 : Nat) (O0 : Old Z n0 h0) (A1 : Exa Z h0 aP "com/example/traza/traza/PackedRows") (FP0 : Fld Z h0 aP "com/example/traza/traza/PackedRows" "chunkShift" "I" (.int (0 : Int32))) (FP1 : Fld Z h0 aP "com/example/traza/traza/PackedRows" "chunkMask" "I" (.int (0 : Int32))) (FP2 : Fld Z h0 aP "com/example/traza/traza/PackedRows" "chunks" "[[J" .null) (FP3 : Fld Z h0 aP "com/example/traza/traza/PackedRows" "layouts" "[Lcom/example/traza/traza/PackedRows$Layout;" .null) (FP4 : Fld Z h0 aP "com/example/traza/traza/PackedRows" "layout" "Lcom/example/traza/traza/PackedRows$Layout;" .null) (FP5 : Fld Z h0 aP "com/example/traza/traza/PackedRows" "bits" "[J" .null) (FP6 : Fld Z h0 aP "com/example/traza/traza/PackedRows" "size" "I" (.int (0 : Int32))) (gP : n0 ≤ aP) :
    Ctr l (⟨"com/example/traza/traza/PackedRows", "<init>", "(I)V"⟩ : MethodName) prog_27_method_1_code 2 none ws ({ frames := 2, cells := 5, slots := 9, locals := 36 } : Room) #[(.ref aP), (.int (3 : Int32))] Z h0 (fun v h L => v = none ∧ Fr n0 L ∧ Low aP h0 h ∧ ∃ (aL : Addr) (aw : Addr) (aK : Addr) (aY : Addr) (aB : Addr) (aC : Addr) (kw : ClassId) (kK : ClassId) (kY : ClassId) (w0 : Int32) (w1 : Int32) (w2 : Int32) (rb : Int32) (wd : Int32) (cw : Int32) (b0 : Nat) (b1 : Nat) (b2 : Nat) (f : Nat → Int64) (g : Nat → Int64) (xK : Value) (xY : Value), PR Z h aP (0 : Int32) [] aL aw aK aY aB aC kw kK kY w0 w1 w2 rb wd cw b0 b1 b2 f g xK xY) := by
  have ef : ∀ m : MethodId, entryFrame m #[(.ref aP), (.int (3 : Int32))] 2 = mkF m 0 #[.val (.ref aP), .val (.int (3 : Int32))] [] := fun m => by first | (simp [entryFrame, mkF, argsToLocals, Value.category]; done) | rfl
  refine Ctr.of (plainFor_of_name pn_1) ?_
  intro p e s m below meth c s₁ hx hZ hby hml hown0 hnm hret hlk X0 e0
  have hown : s.vm.findClass "com/example/traza/traza/PackedRows" = some m.cls := hown0
  have N0 := Fr.nil n0
  refine Go.st (fun t k => castTop (ef m) k) ?_
  refine Go.st (fun _ => XS.aloadN X0.here hx rfl (hb hby d1_0) rfl rfl) ?_
  obtain ⟨T1, X1, e1, st1⟩ := initO X0 hx hZ hown (ww hw 8 rfl) (ww hw 9 rfl) (ww hw 10 rfl) e0 (g := (mkF m 1 #[.val (.ref aP), .val (.int (3 : Int32))] [(.ref aP)])) rfl (by rw [hml]; rfl) rfl (hb hby d1_1) (by decide) (W := 0) (by show 2 * 0 + _ ≤ _; exact Nat.le_of_eq rfl) (by decide)
  refine Go.st st1 ?_
  refine Go.st (fun _ => XS.aloadN X1.here hx rfl (hb hby d1_4) rfl rfl) ?_
  show Go p e below _ (T1.setTop (mkF m 5 #[.val (.ref aP), .val (.int (3 : Int32))] [(.ref aP)]))
  refine Go.st (fun _ => XS.iconst X1.here hx rfl (hb hby d1_5)) ?_
  obtain ⟨T2, h2, k2, X2, e2, E2, A2, B2, O2, st2⟩ := newRA X1 hx hZ hown rfl (ww hw 11 rfl) (ww hw 12 rfl) e1 (g := (mkF m 6 #[.val (.ref aP), .val (.int (3 : Int32))] [(.int (1 : Int32)), (.ref aP)])) rfl (hb hby d1_6) rfl (by decide) (cap := 1) (by decide) (by decide) (by decide) (by decide) (ad := "[[J") rfl
  obtain ⟨ad2, g2⟩ : ∃ z, z = h0.size := ⟨_, rfl⟩
  rw [← g2] at A2 st2 B2
  refine Go.st st2 ?_
  have gn2 : n0 ≤ ad2 := oldGe O0 g2
  have lne3 : aP < ad2 := (Nat.lt_of_lt_of_le A1.lt (Nat.le_of_eq g2.symm))
  have ne3 : aP ≠ ad2 := Nat.ne_of_lt lne3
  have O4 := O0.ext E2
  have E_5 := A1.ext E2
  have F6 := FP0.ext E2
  have F7 := FP1.ext E2
  have F8 := FP2.ext E2
  have F9 := FP3.ext E2
  have F10 := FP4.ext E2
  have F11 := FP5.ext E2
  have F12 := FP6.ext E2
  have Y13 := Low_ext (Low_refl (P := aP) (h := h0)) E2
  have V_14 : Arv Z h2 ad2 k2 (.array .long) (1 : Int32) [.null] .null := (Arv.new A2 (by decide)).pad (pad_rep [] .null 1)
  obtain ⟨T15, h15, X15, e15, W15, st15⟩ := putF X2 hx hZ hown (host := "") (Or.inl (ww hw 13 rfl)) Via.refl e2 F8 E_5 (Or.inl (ww hw 14 rfl)) (ww hw 3 rfl) (ty := (.array (.array .long))) (by decide) rfl rfl (g := (mkF m 9 #[.val (.ref aP), .val (.int (3 : Int32))] [(.ref ad2), (.ref aP)])) rfl rfl (hb hby d1_9)
  refine Go.st st15 ?_
  have O16 := O4.wr W15 gP
  have E_17 := E_5.wr W15
  have F18 := F6.other W15 (Or.inr (slot_ne (Or.inr (ww hw 35 rfl)) (Or.inl (ww hw 14 rfl)) (by decide) (t := .int) (t' := (.array (.array .long))) (by decide) (by decide)))
  have F19 := F7.other W15 (Or.inr (slot_ne (Or.inr (ww hw 37 rfl)) (Or.inl (ww hw 14 rfl)) (by decide) (t := .int) (t' := (.array (.array .long))) (by decide) (by decide)))
  have F20 := F9.other W15 (Or.inr (slot_ne (Or.inl (ww hw 18 rfl)) (Or.inl (ww hw 14 rfl)) (by decide) (t := (.array (.object "com/example/traza/traza/PackedRows$Layout"))) (t' := (.array (.array .long))) (by decide) (by decide)))
  have F21 := F10.other W15 (Or.inr (slot_ne (Or.inl (ww hw 58 rfl)) (Or.inl (ww hw 14 rfl)) (by decide) (t := (.object "com/example/traza/traza/PackedRows$Layout")) (t' := (.array (.array .long))) (by decide) (by decide)))
  have F22 := F11.other W15 (Or.inr (slot_ne (Or.inl (ww hw 62 rfl)) (Or.inl (ww hw 14 rfl)) (by decide) (t := (.array .long)) (t' := (.array (.array .long))) (by decide) (by decide)))
  have F23 := F12.other W15 (Or.inr (slot_ne (Or.inl (ww hw 69 rfl)) (Or.inl (ww hw 14 rfl)) (by decide) (t := .int) (t' := (.array (.array .long))) (by decide) (by decide)))
  have Y24 := Low_wr Y13 W15 (Nat.le_refl _)
  have V_25 := V_14.other W15 (Ne.symm ne3)
  have F26 : Fld Z h15 aP "com/example/traza/traza/PackedRows" "chunks" "[[J" (.ref ad2) := F8.same W15
  have N15 := Fr.snoc X15 N0 gP
  refine Go.st (fun _ => XS.aloadN X15.here hx rfl (hb hby d1_12) rfl rfl) ?_
  show Go p e below _ (T15.setTop (mkF m 13 #[.val (.ref aP), .val (.int (3 : Int32))] [(.ref aP)]))
  refine Go.st (fun _ => XS.iconst X15.here hx rfl (hb hby d1_13)) ?_
  obtain ⟨T27, h27, k27, X27, e27, E27, A27, O27, st27⟩ := newR X15 hx hZ hown (ww hw 15 rfl) (ww hw 16 rfl) e15 (g := (mkF m 14 #[.val (.ref aP), .val (.int (3 : Int32))] [(.int (1 : Int32)), (.ref aP)])) rfl (hb hby d1_14) rfl (by decide) (cap := 1) (by decide) (by decide) (by decide) (by decide)
  obtain ⟨ad27, g27⟩ : ∃ z, z = h15.size := ⟨_, rfl⟩
  rw [← g27] at A27 st27
  refine Go.st st27 ?_
  have gn27 : n0 ≤ ad27 := oldGe O16 g27
  have lne28 : aP < ad27 := (Nat.lt_of_lt_of_le E_17.lt (Nat.le_of_eq g27.symm))
  have ne28 : aP ≠ ad27 := Nat.ne_of_lt lne28
  have ne29 : ad2 ≠ ad27 := Nat.ne_of_lt (Nat.lt_of_lt_of_le V_25.lt (Nat.le_of_eq g27.symm))
  have O30 := O16.ext E27
  have E_31 := E_17.ext E27
  have F32 := F18.ext E27
  have F33 := F19.ext E27
  have F34 := F20.ext E27
  have F35 := F21.ext E27
  have F36 := F22.ext E27
  have F37 := F23.ext E27
  have Y38 := Low_ext Y24 E27
  have V_39 := V_25.ext E27
  have F40 := F26.ext E27
  have V_41 : Arv Z h27 ad27 k27 (.object "com/example/traza/traza/PackedRows$Layout") (1 : Int32) [.null] .null := (Arv.new A27 (by decide)).pad (pad_rep [] .null 1)
  obtain ⟨T42, h42, X42, e42, W42, st42⟩ := putF X27 hx hZ hown (host := "") (Or.inl (ww hw 17 rfl)) Via.refl e27 F34 E_31 (Or.inl (ww hw 18 rfl)) (ww hw 3 rfl) (ty := (.array (.object "com/example/traza/traza/PackedRows$Layout"))) (by decide) rfl rfl (g := (mkF m 17 #[.val (.ref aP), .val (.int (3 : Int32))] [(.ref ad27), (.ref aP)])) rfl rfl (hb hby d1_17)
  refine Go.st st42 ?_
  have O43 := O30.wr W42 gP
  have E_44 := E_31.wr W42
  have F45 := F32.other W42 (Or.inr (slot_ne (Or.inr (ww hw 35 rfl)) (Or.inl (ww hw 18 rfl)) (by decide) (t := .int) (t' := (.array (.object "com/example/traza/traza/PackedRows$Layout"))) (by decide) (by decide)))
  have F46 := F33.other W42 (Or.inr (slot_ne (Or.inr (ww hw 37 rfl)) (Or.inl (ww hw 18 rfl)) (by decide) (t := .int) (t' := (.array (.object "com/example/traza/traza/PackedRows$Layout"))) (by decide) (by decide)))
  have F47 := F35.other W42 (Or.inr (slot_ne (Or.inl (ww hw 58 rfl)) (Or.inl (ww hw 18 rfl)) (by decide) (t := (.object "com/example/traza/traza/PackedRows$Layout")) (t' := (.array (.object "com/example/traza/traza/PackedRows$Layout"))) (by decide) (by decide)))
  have F48 := F36.other W42 (Or.inr (slot_ne (Or.inl (ww hw 62 rfl)) (Or.inl (ww hw 18 rfl)) (by decide) (t := (.array .long)) (t' := (.array (.object "com/example/traza/traza/PackedRows$Layout"))) (by decide) (by decide)))
  have F49 := F37.other W42 (Or.inr (slot_ne (Or.inl (ww hw 69 rfl)) (Or.inl (ww hw 18 rfl)) (by decide) (t := .int) (t' := (.array (.object "com/example/traza/traza/PackedRows$Layout"))) (by decide) (by decide)))
  have Y50 := Low_wr Y38 W42 (Nat.le_refl _)
  have V_51 := V_39.other W42 (Ne.symm ne3)
  have F52 := F40.other W42 (Or.inr (slot_ne (Or.inl (ww hw 14 rfl)) (Or.inl (ww hw 18 rfl)) (by decide) (t := (.array (.array .long))) (t' := (.array (.object "com/example/traza/traza/PackedRows$Layout"))) (by decide) (by decide)))
  have V_53 := V_41.other W42 (Ne.symm ne28)
  have F54 : Fld Z h42 aP "com/example/traza/traza/PackedRows" "layouts" "[Lcom/example/traza/traza/PackedRows$Layout;" (.ref ad27) := F34.same W42
  have N42 := Fr.snoc X42 N15 gP
  refine Go.st (fun _ => XS.aloadN X42.here hx rfl (hb hby d1_20) rfl rfl) ?_
  show Go p e below _ (T42.setTop (mkF m 21 #[.val (.ref aP), .val (.int (3 : Int32))] [(.ref aP)]))
  refine Go.st (fun _ => XS.iconst X42.here hx rfl (hb hby d1_21)) ?_
  refine Go.st (fun _ => XS.bipush X42.here hx rfl (hb hby d1_22)) ?_
  refine Go.st (fun _ => XS.bipush X42.here hx rfl (hb hby d1_24)) ?_
  refine Go.st (fun _ => XS.iloadN X42.here hx rfl (hb hby d1_26) rfl) ?_
  show Go p e below _ (T42.setTop (mkF m 27 #[.val (.ref aP), .val (.int (3 : Int32))] [(.int (3 : Int32)), (.int (17 : Int32)), (.int (12 : Int32)), (.int (0 : Int32)), (.ref aP)]))
  refine Go.st (fun _ => XS.iconst X42.here hx rfl (hb hby d1_27)) ?_
  refine goCallS X42 hx hZ (y := (⟨"java/lang/Math", "max", "(II)I"⟩ : MethodName)) hown (ww hw 19 rfl) (ww hw 20 rfl) (ww hw 21 rfl) (ww hw 22 rfl) (by decide) (argsL := [(.int (3 : Int32)), (.int (1 : Int32))]) (rest := [(.int (17 : Int32)), (.int (12 : Int32)), (.int (0 : Int32)), (.ref aP)]) e42 (rm_max l Z a0 hw [] (3 : Int32) (1 : Int32) h42 n0 O43) 4 (by decide) (by decide) (by decide) (by decide) (mkF m 28 #[.val (.ref aP), .val (.int (3 : Int32))] [(.int (1 : Int32)), (.int (3 : Int32)), (.int (17 : Int32)), (.int (12 : Int32)), (.int (0 : Int32)), (.ref aP)]) rfl (by rw [hml]; rfl) (lenOf pd_2 rfl) rfl (hb hby d1_28) (Nat.le_of_eq rfl) ?_
  intro v55 T55 L55 X55 hQ55
  obtain ⟨⟨m55, rfl, em55⟩, M55, e55⟩ := hQ55
  have N55 := Fr.app N42 M55
  obtain rfl : m55 = (3 : Int32) := em55.trans (by decide)
  show Go p e below _ (T55.setTop (mkF m 31 #[.val (.ref aP), .val (.int (3 : Int32))] [(.int (3 : Int32)), (.int (17 : Int32)), (.int (12 : Int32)), (.int (0 : Int32)), (.ref aP)]))
  refine Go.st (fun _ => XS.iconst X55.here hx rfl (hb hby d1_31)) ?_
  refine Go.st (fun _ => XS.isub X55.here hx rfl (hb hby d1_32) rfl) ?_
  refine goCallS X55 hx hZ (y := (⟨"com/example/traza/traza/PackedRows", "bitsFor", "(I)I"⟩ : MethodName)) hown (ww hw 23 rfl) (ww hw 24 rfl) (ww hw 4 rfl) (ww hw 25 rfl) (by decide) (argsL := [(.int (2 : Int32))]) (rest := [(.int (17 : Int32)), (.int (12 : Int32)), (.int (0 : Int32)), (.ref aP)]) e55 (rm_bf l Z a0 hw [] (2 : Int32) h42 n0 O43) 4 (by decide) (by decide) (by decide) (by decide) (mkF m 33 #[.val (.ref aP), .val (.int (3 : Int32))] [(.int (2 : Int32)), (.int (17 : Int32)), (.int (12 : Int32)), (.int (0 : Int32)), (.ref aP)]) rfl (by rw [hml]; rfl) (lenOf pd_0 rfl) rfl (hb hby d1_33) (Nat.le_of_eq rfl) ?_
  intro v56 T56 L56 X56 hQ56
  obtain ⟨⟨z56, rfl, hB56⟩, M56, e56⟩ := hQ56
  have N56 := Fr.app N55 M56
  obtain rfl : z56 = (2 : Int32) := bf_two hB56
  show Go p e below _ (T56.setTop (mkF m 36 #[.val (.ref aP), .val (.int (3 : Int32))] [(.int (2 : Int32)), (.int (17 : Int32)), (.int (12 : Int32)), (.int (0 : Int32)), (.ref aP)]))
  refine Go.st (fun _ => XS.isub X56.here hx rfl (hb hby d1_36) rfl) ?_
  refine goCallS X56 hx hZ (y := (⟨"java/lang/Math", "min", "(II)I"⟩ : MethodName)) hown (ww hw 31 rfl) (ww hw 32 rfl) (ww hw 21 rfl) (ww hw 33 rfl) (by decide) (argsL := [(.int (12 : Int32)), (.int (15 : Int32))]) (rest := [(.int (0 : Int32)), (.ref aP)]) e56 (rm_min l Z a0 hw [] (12 : Int32) (15 : Int32) h42 n0 O43) 2 (by decide) (by decide) (by decide) (by decide) (mkF m 37 #[.val (.ref aP), .val (.int (3 : Int32))] [(.int (15 : Int32)), (.int (12 : Int32)), (.int (0 : Int32)), (.ref aP)]) rfl (by rw [hml]; rfl) (lenOf pd_2 rfl) rfl (hb hby d1_37) (Nat.le_of_eq rfl) ?_
  intro v57 T57 L57 X57 hQ57
  obtain ⟨⟨m57, rfl, em57⟩, M57, e57⟩ := hQ57
  have N57 := Fr.app N56 M57
  obtain rfl : m57 = (12 : Int32) := em57.trans (by decide)
  show Go p e below _ (T57.setTop (mkF m 40 #[.val (.ref aP), .val (.int (3 : Int32))] [(.int (12 : Int32)), (.int (0 : Int32)), (.ref aP)]))
  refine goCallS X57 hx hZ (y := (⟨"java/lang/Math", "max", "(II)I"⟩ : MethodName)) hown (ww hw 19 rfl) (ww hw 20 rfl) (ww hw 21 rfl) (ww hw 22 rfl) (by decide) (argsL := [(.int (0 : Int32)), (.int (12 : Int32))]) (rest := [(.ref aP)]) e57 (rm_max l Z a0 hw [] (0 : Int32) (12 : Int32) h42 n0 O43) 1 (by decide) (by decide) (by decide) (by decide) (mkF m 40 #[.val (.ref aP), .val (.int (3 : Int32))] [(.int (12 : Int32)), (.int (0 : Int32)), (.ref aP)]) rfl (by rw [hml]; rfl) (lenOf pd_2 rfl) rfl (hb hby d1_40) (Nat.le_of_eq rfl) ?_
  intro v58 T58 L58 X58 hQ58
  obtain ⟨⟨m58, rfl, em58⟩, M58, e58⟩ := hQ58
  have N58 := Fr.app N57 M58
  obtain rfl : m58 = (12 : Int32) := em58.trans (by decide)
  show Go p e below _ (T58.setTop (mkF m 43 #[.val (.ref aP), .val (.int (3 : Int32))] [(.int (12 : Int32)), (.ref aP)]))
  obtain ⟨T59, h59, X59, e59, W59, st59⟩ := putF X58 hx hZ hown (host := "") (Or.inl (ww hw 34 rfl)) Via.refl e58 F45 E_44 (Or.inr ⟨(ww hw 35 rfl), rfl, hnm⟩) (ww hw 3 rfl) (ty := .int) (by decide) rfl rfl (g := (mkF m 43 #[.val (.ref aP), .val (.int (3 : Int32))] [(.int (12 : Int32)), (.ref aP)])) rfl rfl (hb hby d1_43)
  refine Go.st st59 ?_
  have O60 := O43.wr W59 gP
  have E_61 := E_44.wr W59
  have F62 := F46.other W59 (Or.inr (slot_ne (Or.inr (ww hw 37 rfl)) (Or.inr (ww hw 35 rfl)) (by decide) (t := .int) (t' := .int) (by decide) (by decide)))
  have F63 := F47.other W59 (Or.inr (slot_ne (Or.inl (ww hw 58 rfl)) (Or.inr (ww hw 35 rfl)) (by decide) (t := (.object "com/example/traza/traza/PackedRows$Layout")) (t' := .int) (by decide) (by decide)))
  have F64 := F48.other W59 (Or.inr (slot_ne (Or.inl (ww hw 62 rfl)) (Or.inr (ww hw 35 rfl)) (by decide) (t := (.array .long)) (t' := .int) (by decide) (by decide)))
  have F65 := F49.other W59 (Or.inr (slot_ne (Or.inl (ww hw 69 rfl)) (Or.inr (ww hw 35 rfl)) (by decide) (t := .int) (t' := .int) (by decide) (by decide)))
  have Y66 := Low_wr Y50 W59 (Nat.le_refl _)
  have V_67 := V_51.other W59 (Ne.symm ne3)
  have F68 := F52.other W59 (Or.inr (slot_ne (Or.inl (ww hw 14 rfl)) (Or.inr (ww hw 35 rfl)) (by decide) (t := (.array (.array .long))) (t' := .int) (by decide) (by decide)))
  have V_69 := V_53.other W59 (Ne.symm ne28)
  have F70 := F54.other W59 (Or.inr (slot_ne (Or.inl (ww hw 18 rfl)) (Or.inr (ww hw 35 rfl)) (by decide) (t := (.array (.object "com/example/traza/traza/PackedRows$Layout"))) (t' := .int) (by decide) (by decide)))
  have F71 : Fld Z h59 aP "com/example/traza/traza/PackedRows" "chunkShift" "I" (.int (12 : Int32)) := F45.same W59
  have N59 := Fr.snoc X59 N58 gP
  refine Go.st (fun _ => XS.aloadN X59.here hx rfl (hb hby d1_46) rfl rfl) ?_
  refine Go.st (fun _ => XS.iconst X59.here hx rfl (hb hby d1_47)) ?_
  refine Go.st (fun _ => XS.aloadN X59.here hx rfl (hb hby d1_48) rfl rfl) ?_
  show Go p e below _ (T59.setTop (mkF m 49 #[.val (.ref aP), .val (.int (3 : Int32))] [(.ref aP), (.int (1 : Int32)), (.ref aP)]))
  obtain ⟨T72, X72, e72, st72⟩ := getF X59 hx hZ hown (host := "") (Or.inl (ww hw 34 rfl)) Via.refl e59 F71 (g := (mkF m 49 #[.val (.ref aP), .val (.int (3 : Int32))] [(.ref aP), (.int (1 : Int32)), (.ref aP)])) rfl rfl (hb hby d1_49)
  refine Go.st st72 ?_
  show Go p e below _ (T72.setTop (mkF m 52 #[.val (.ref aP), .val (.int (3 : Int32))] [(.int (12 : Int32)), (.int (1 : Int32)), (.ref aP)]))
  refine Go.st (fun _ => XS.ishl X72.here hx rfl (hb hby d1_52) rfl) ?_
  rw [show ((1 : Int32) <<< ((12 : Int32) &&& 31)) = (4096 : Int32) from by decide]
  show Go p e below _ (T72.setTop (mkF m 53 #[.val (.ref aP), .val (.int (3 : Int32))] [(.int (4096 : Int32)), (.ref aP)]))
  refine Go.st (fun _ => XS.iconst X72.here hx rfl (hb hby d1_53)) ?_
  refine Go.st (fun _ => XS.isub X72.here hx rfl (hb hby d1_54) rfl) ?_
  obtain ⟨T73, h73, X73, e73, W73, st73⟩ := putF X72 hx hZ hown (host := "") (Or.inl (ww hw 36 rfl)) Via.refl e72 F62 E_61 (Or.inr ⟨(ww hw 37 rfl), rfl, hnm⟩) (ww hw 3 rfl) (ty := .int) (by decide) rfl rfl (g := (mkF m 55 #[.val (.ref aP), .val (.int (3 : Int32))] [(.int (4095 : Int32)), (.ref aP)])) rfl rfl (hb hby d1_55)
  refine Go.st st73 ?_
  have O74 := O60.wr W73 gP
  have E_75 := E_61.wr W73
  have F76 := F63.other W73 (Or.inr (slot_ne (Or.inl (ww hw 58 rfl)) (Or.inr (ww hw 37 rfl)) (by decide) (t := (.object "com/example/traza/traza/PackedRows$Layout")) (t' := .int) (by decide) (by decide)))
  have F77 := F64.other W73 (Or.inr (slot_ne (Or.inl (ww hw 62 rfl)) (Or.inr (ww hw 37 rfl)) (by decide) (t := (.array .long)) (t' := .int) (by decide) (by decide)))
  have F78 := F65.other W73 (Or.inr (slot_ne (Or.inl (ww hw 69 rfl)) (Or.inr (ww hw 37 rfl)) (by decide) (t := .int) (t' := .int) (by decide) (by decide)))
  have Y79 := Low_wr Y66 W73 (Nat.le_refl _)
  have V_80 := V_67.other W73 (Ne.symm ne3)
  have F81 := F68.other W73 (Or.inr (slot_ne (Or.inl (ww hw 14 rfl)) (Or.inr (ww hw 37 rfl)) (by decide) (t := (.array (.array .long))) (t' := .int) (by decide) (by decide)))
  have V_82 := V_69.other W73 (Ne.symm ne28)
  have F83 := F70.other W73 (Or.inr (slot_ne (Or.inl (ww hw 18 rfl)) (Or.inr (ww hw 37 rfl)) (by decide) (t := (.array (.object "com/example/traza/traza/PackedRows$Layout"))) (t' := .int) (by decide) (by decide)))
  have F84 := F71.other W73 (Or.inr (slot_ne (Or.inr (ww hw 35 rfl)) (Or.inr (ww hw 37 rfl)) (by decide) (t := .int) (t' := .int) (by decide) (by decide)))
  have F85 : Fld Z h73 aP "com/example/traza/traza/PackedRows" "chunkMask" "I" (.int (4095 : Int32)) := F62.same W73
  have N73 := Fr.snoc X73 N59 gP
  refine Go.st (fun _ => XS.aloadN X73.here hx rfl (hb hby d1_58) rfl rfl) ?_
  show Go p e below _ (T73.setTop (mkF m 59 #[.val (.ref aP), .val (.int (3 : Int32))] [(.ref aP)]))
  obtain ⟨T86, h86, X86, e86, E86, A86, D86, U86, st86⟩ := newO X73 hx hZ hown (ww hw 15 rfl) (ww hw 38 rfl) (ww hw 39 rfl) e73 (g := (mkF m 59 #[.val (.ref aP), .val (.int (3 : Int32))] [(.ref aP)])) rfl (hb hby d1_59) (by decide) (by decide)
  obtain ⟨ad86, g86⟩ : ∃ z, z = h73.size := ⟨_, rfl⟩
  rw [← g86] at A86 D86 U86 st86
  refine Go.st st86 ?_
  have gn86 : n0 ≤ ad86 := oldGe O74 g86
  have lne87 : aP < ad86 := (Nat.lt_of_lt_of_le E_75.lt (Nat.le_of_eq g86.symm))
  have ne87 : aP ≠ ad86 := Nat.ne_of_lt lne87
  have ne88 : ad2 ≠ ad86 := Nat.ne_of_lt (Nat.lt_of_lt_of_le V_80.lt (Nat.le_of_eq g86.symm))
  have ne89 : ad27 ≠ ad86 := Nat.ne_of_lt (Nat.lt_of_lt_of_le V_82.lt (Nat.le_of_eq g86.symm))
  have O90 := O74.ext E86
  have E_91 := E_75.ext E86
  have F92 := F76.ext E86
  have F93 := F77.ext E86
  have F94 := F78.ext E86
  have Y95 := Low_ext Y79 E86
  have V_96 := V_80.ext E86
  have F97 := F81.ext E86
  have V_98 := V_82.ext E86
  have F99 := F83.ext E86
  have F100 := F84.ext E86
  have F101 := F85.ext E86
  have F102 : Fld Z h86 ad86 "com/example/traza/traza/PackedRows$Layout" "widths" "[I" .null := D86 (Or.inr (ww hw 46 rfl)) (ty := (.array .int)) (by decide)
  have F103 : Fld Z h86 ad86 "com/example/traza/traza/PackedRows$Layout" "rowBits" "I" (.int (0 : Int32)) := D86 (Or.inr (ww hw 48 rfl)) (ty := .int) (by decide)
  have F104 : Fld Z h86 ad86 "com/example/traza/traza/PackedRows$Layout" "words" "I" (.int (0 : Int32)) := D86 (Or.inr (ww hw 54 rfl)) (ty := .int) (by decide)
  have F105 : Fld Z h86 ad86 "com/example/traza/traza/PackedRows$Layout" "chunkWords" "I" (.int (0 : Int32)) := D86 (Or.inr (ww hw 56 rfl)) (ty := .int) (by decide)
  refine Go.st (fun _ => XS.dup X86.here hx rfl (hb hby d1_62) rfl rfl) ?_
  refine Go.st (fun _ => XS.iloadN X86.here hx rfl (hb hby d1_63) rfl) ?_
  obtain ⟨T106, h106, k106, X106, e106, E106, A106, st106⟩ := newP X86 hx hZ (ww hw 1 rfl) e86 (g := (mkF m 64 #[.val (.ref aP), .val (.int (3 : Int32))] [(.int (3 : Int32)), (.ref ad86), (.ref ad86), (.ref aP)])) rfl (hb hby d1_64) rfl (by decide) (cap := 3) (by decide) (by decide) (by decide) (by decide)
  obtain ⟨ad106, g106⟩ : ∃ z, z = h86.size := ⟨_, rfl⟩
  rw [← g106] at A106 st106
  refine Go.st st106 ?_
  have gn106 : n0 ≤ ad106 := oldGe O90 g106
  have lne107 : aP < ad106 := (Nat.lt_of_lt_of_le E_91.lt (Nat.le_of_eq g106.symm))
  have ne107 : aP ≠ ad106 := Nat.ne_of_lt lne107
  have ne108 : ad2 ≠ ad106 := Nat.ne_of_lt (Nat.lt_of_lt_of_le V_96.lt (Nat.le_of_eq g106.symm))
  have ne109 : ad27 ≠ ad106 := Nat.ne_of_lt (Nat.lt_of_lt_of_le V_98.lt (Nat.le_of_eq g106.symm))
  have ne110 : ad86 ≠ ad106 := Nat.ne_of_lt (Nat.lt_of_lt_of_le A86.lt (Nat.le_of_eq g106.symm))
  have O111 := O90.ext E106
  have E_112 := E_91.ext E106
  have F113 := F92.ext E106
  have F114 := F93.ext E106
  have F115 := F94.ext E106
  have Y116 := Low_ext Y95 E106
  have V_117 := V_96.ext E106
  have F118 := F97.ext E106
  have V_119 := V_98.ext E106
  have F120 := F99.ext E106
  have F121 := F100.ext E106
  have F122 := F101.ext E106
  have E_123 := A86.ext E106
  have F124 := F102.ext E106
  have F125 := F103.ext E106
  have F126 := F104.ext E106
  have F127 := F105.ext E106
  have V_128 : Arv Z h106 ad106 k106 .int (3 : Int32) [(.int (0 : Int32)), (.int (0 : Int32)), (.int (0 : Int32))] (.int (0 : Int32)) := (Arv.new A106 (by decide)).pad (pad_rep [] (.int (0 : Int32)) 3)
  show Go p e below _ (T106.setTop (mkF m 66 #[.val (.ref aP), .val (.int (3 : Int32))] [(.ref ad106), (.ref ad86), (.ref ad86), (.ref aP)]))
  refine Go.st (fun _ => XS.aloadN X106.here hx rfl (hb hby d1_66) rfl rfl) ?_
  obtain ⟨T129, X129, e129, st129⟩ := getF X106 hx hZ hown (host := "") (Or.inl (ww hw 34 rfl)) Via.refl e106 F121 (g := (mkF m 67 #[.val (.ref aP), .val (.int (3 : Int32))] [(.ref aP), (.ref ad106), (.ref ad86), (.ref ad86), (.ref aP)])) rfl rfl (hb hby d1_67)
  refine Go.st st129 ?_
  refine goInit X129 hx hZ (y := (⟨"com/example/traza/traza/PackedRows$Layout", "<init>", "([II)V"⟩ : MethodName)) rfl hown (ww hw 40 rfl) (ww hw 41 rfl) (ww hw 39 rfl) (ww hw 42 rfl) (by decide) (a := ad86) (argsL := [(.ref ad106), (.int (12 : Int32))]) (rest := [(.ref ad86), (.ref aP)]) e129 (rm_LI l Z a0 hw [] ad86 ad106 k106 (0 : Int32) (0 : Int32) (0 : Int32) 0 0 0 h106 n0 O111 E_123 F124 F125 F126 F127 gn86 V_128 rfl rfl rfl (by decide) (by decide) (by decide)) 2 (by decide) (by decide) (by decide) (by decide) (mkF m 70 #[.val (.ref aP), .val (.int (3 : Int32))] [(.int (12 : Int32)), (.ref ad106), (.ref ad86), (.ref ad86), (.ref aP)]) rfl (by rw [hml]; rfl) (lenOf pd_4 rfl) rfl (hb hby d1_70) (Nat.le_of_eq rfl) ?_
  intro v130 T130 L130 X130 hQ130
  obtain ⟨rfl, M130, K130, rb130, wd130, cw130, hW130, Ga130, Gb130, Gc130, Gd130⟩ := hQ130
  have N130 := Fr.app N73 M130
  have O131 := O111.keep K130 (allS gn86 all0)
  have E_132 := E_112.keep K130
  have F133 := F113.keep K130 (ninS ne87 nin0)
  have F134 := F114.keep K130 (ninS ne87 nin0)
  have F135 := F115.keep K130 (ninS ne87 nin0)
  have Y136 := Low_keep Y116 K130 (allS (Nat.le_of_lt lne87) all0)
  have V_137 := V_117.keep K130 (ninS ne88 nin0)
  have F138 := F118.keep K130 (ninS ne87 nin0)
  have V_139 := V_119.keep K130 (ninS ne89 nin0)
  have F140 := F120.keep K130 (ninS ne87 nin0)
  have F141 := F121.keep K130 (ninS ne87 nin0)
  have F142 := F122.keep K130 (ninS ne87 nin0)
  have E_143 := E_123.keep K130
  have V_144 := V_128.keep K130 (ninS (Ne.symm ne110) nin0)
  show Go p e below _ (T130.setTop (mkF m 73 #[.val (.ref aP), .val (.int (3 : Int32))] [(.ref ad86), (.ref aP)]))
  obtain ⟨T145, h145, X145, e145, W145, st145⟩ := putF X130 hx hZ hown (host := "") (Or.inl (ww hw 57 rfl)) Via.refl rfl F133 E_132 (Or.inl (ww hw 58 rfl)) (ww hw 3 rfl) (ty := (.object "com/example/traza/traza/PackedRows$Layout")) (by decide) rfl rfl (g := (mkF m 73 #[.val (.ref aP), .val (.int (3 : Int32))] [(.ref ad86), (.ref aP)])) rfl rfl (hb hby d1_73)
  refine Go.st st145 ?_
  have O146 := O131.wr W145 gP
  have E_147 := E_132.wr W145
  have F148 := F134.other W145 (Or.inr (slot_ne (Or.inl (ww hw 62 rfl)) (Or.inl (ww hw 58 rfl)) (by decide) (t := (.array .long)) (t' := (.object "com/example/traza/traza/PackedRows$Layout")) (by decide) (by decide)))
  have F149 := F135.other W145 (Or.inr (slot_ne (Or.inl (ww hw 69 rfl)) (Or.inl (ww hw 58 rfl)) (by decide) (t := .int) (t' := (.object "com/example/traza/traza/PackedRows$Layout")) (by decide) (by decide)))
  have Y150 := Low_wr Y136 W145 (Nat.le_refl _)
  have V_151 := V_137.other W145 (Ne.symm ne3)
  have F152 := F138.other W145 (Or.inr (slot_ne (Or.inl (ww hw 14 rfl)) (Or.inl (ww hw 58 rfl)) (by decide) (t := (.array (.array .long))) (t' := (.object "com/example/traza/traza/PackedRows$Layout")) (by decide) (by decide)))
  have V_153 := V_139.other W145 (Ne.symm ne28)
  have F154 := F140.other W145 (Or.inr (slot_ne (Or.inl (ww hw 18 rfl)) (Or.inl (ww hw 58 rfl)) (by decide) (t := (.array (.object "com/example/traza/traza/PackedRows$Layout"))) (t' := (.object "com/example/traza/traza/PackedRows$Layout")) (by decide) (by decide)))
  have F155 := F141.other W145 (Or.inr (slot_ne (Or.inr (ww hw 35 rfl)) (Or.inl (ww hw 58 rfl)) (by decide) (t := .int) (t' := (.object "com/example/traza/traza/PackedRows$Layout")) (by decide) (by decide)))
  have F156 := F142.other W145 (Or.inr (slot_ne (Or.inr (ww hw 37 rfl)) (Or.inl (ww hw 58 rfl)) (by decide) (t := .int) (t' := (.object "com/example/traza/traza/PackedRows$Layout")) (by decide) (by decide)))
  have E_157 := E_143.wr W145
  have V_158 := V_144.other W145 (Ne.symm ne107)
  have F159 := Ga130.other W145 (Or.inl (Ne.symm ne87))
  have F160 := Gb130.other W145 (Or.inl (Ne.symm ne87))
  have F161 := Gc130.other W145 (Or.inl (Ne.symm ne87))
  have F162 := Gd130.other W145 (Or.inl (Ne.symm ne87))
  have F163 : Fld Z h145 aP "com/example/traza/traza/PackedRows" "layout" "Lcom/example/traza/traza/PackedRows$Layout;" (.ref ad86) := F133.same W145
  have N145 := Fr.snoc X145 N130 gP
  refine Go.st (fun _ => XS.aloadN X145.here hx rfl (hb hby d1_76) rfl rfl) ?_
  refine Go.st (fun _ => XS.aloadN X145.here hx rfl (hb hby d1_77) rfl rfl) ?_
  obtain ⟨T164, X164, e164, st164⟩ := getF X145 hx hZ hown (host := "") (Or.inl (ww hw 57 rfl)) Via.refl e145 F163 (g := (mkF m 78 #[.val (.ref aP), .val (.int (3 : Int32))] [(.ref aP), (.ref aP)])) rfl rfl (hb hby d1_78)
  refine Go.st st164 ?_
  show Go p e below _ (T164.setTop (mkF m 81 #[.val (.ref aP), .val (.int (3 : Int32))] [(.ref ad86), (.ref aP)]))
  obtain ⟨T165, X165, e165, st165⟩ := getFR X164 hx hZ hown (ww hw 59 rfl) e164 F161 (g := (mkF m 81 #[.val (.ref aP), .val (.int (3 : Int32))] [(.ref ad86), (.ref aP)])) rfl rfl (hb hby d1_81)
  refine Go.st st165 ?_
  obtain ⟨T166, h166, k166, X166, e166, E166, A166, B166, st166⟩ := newPE X165 hx hZ (ww hw 60 rfl) e165 (g := (mkF m 84 #[.val (.ref aP), .val (.int (3 : Int32))] [(.int wd130), (.ref aP)])) rfl (hb hby d1_84) rfl (len_cap hW130.2.2.2.2.2.2.2.1 (show ((0 + 0 + 0 + 63) / 64 : Nat) ≤ 0 from by decide)).1 (cap := 0) (len_cap hW130.2.2.2.2.2.2.2.1 (show ((0 + 0 + 0 + 63) / 64 : Nat) ≤ 0 from by decide)).2 (by decide) (by decide) (by decide) (ad := "[J") rfl
  obtain ⟨ad166, g166⟩ : ∃ z, z = h145.size := ⟨_, rfl⟩
  rw [← g166] at A166 B166 st166
  refine Go.st st166 ?_
  have gn166 : n0 ≤ ad166 := oldGe O146 g166
  have lne167 : aP < ad166 := (Nat.lt_of_lt_of_le E_147.lt (Nat.le_of_eq g166.symm))
  have ne167 : aP ≠ ad166 := Nat.ne_of_lt lne167
  have ne168 : ad2 ≠ ad166 := Nat.ne_of_lt (Nat.lt_of_lt_of_le V_151.lt (Nat.le_of_eq g166.symm))
  have ne169 : ad27 ≠ ad166 := Nat.ne_of_lt (Nat.lt_of_lt_of_le V_153.lt (Nat.le_of_eq g166.symm))
  have ne170 : ad86 ≠ ad166 := Nat.ne_of_lt (Nat.lt_of_lt_of_le E_157.lt (Nat.le_of_eq g166.symm))
  have ne171 : ad106 ≠ ad166 := Nat.ne_of_lt (Nat.lt_of_lt_of_le V_158.lt (Nat.le_of_eq g166.symm))
  have O172 := O146.ext E166
  have E_173 := E_147.ext E166
  have F174 := F148.ext E166
  have F175 := F149.ext E166
  have Y176 := Low_ext Y150 E166
  have V_177 := V_151.ext E166
  have F178 := F152.ext E166
  have V_179 := V_153.ext E166
  have F180 := F154.ext E166
  have F181 := F155.ext E166
  have F182 := F156.ext E166
  have E_183 := E_157.ext E166
  have V_184 := V_158.ext E166
  have F185 := F159.ext E166
  have F186 := F160.ext E166
  have F187 := F161.ext E166
  have F188 := F162.ext E166
  have F189 := F163.ext E166
  have VL190 : LAr Z h166 ad166 ((0 + 0 + 0 + 63) / 64) (fun _ => (0 : Int64)) := LAr_new A166 hW130.2.2.2.2.2.2.2.1
  obtain ⟨T191, h191, X191, e191, W191, st191⟩ := putF X166 hx hZ hown (host := "") (Or.inl (ww hw 61 rfl)) Via.refl e166 F174 E_173 (Or.inl (ww hw 62 rfl)) (ww hw 3 rfl) (ty := (.array .long)) (by decide) rfl rfl (g := (mkF m 86 #[.val (.ref aP), .val (.int (3 : Int32))] [(.ref ad166), (.ref aP)])) rfl rfl (hb hby d1_86)
  refine Go.st st191 ?_
  have O192 := O172.wr W191 gP
  have E_193 := E_173.wr W191
  have F194 := F175.other W191 (Or.inr (slot_ne (Or.inl (ww hw 69 rfl)) (Or.inl (ww hw 62 rfl)) (by decide) (t := .int) (t' := (.array .long)) (by decide) (by decide)))
  have Y195 := Low_wr Y176 W191 (Nat.le_refl _)
  have V_196 := V_177.other W191 (Ne.symm ne3)
  have F197 := F178.other W191 (Or.inr (slot_ne (Or.inl (ww hw 14 rfl)) (Or.inl (ww hw 62 rfl)) (by decide) (t := (.array (.array .long))) (t' := (.array .long)) (by decide) (by decide)))
  have V_198 := V_179.other W191 (Ne.symm ne28)
  have F199 := F180.other W191 (Or.inr (slot_ne (Or.inl (ww hw 18 rfl)) (Or.inl (ww hw 62 rfl)) (by decide) (t := (.array (.object "com/example/traza/traza/PackedRows$Layout"))) (t' := (.array .long)) (by decide) (by decide)))
  have F200 := F181.other W191 (Or.inr (slot_ne (Or.inr (ww hw 35 rfl)) (Or.inl (ww hw 62 rfl)) (by decide) (t := .int) (t' := (.array .long)) (by decide) (by decide)))
  have F201 := F182.other W191 (Or.inr (slot_ne (Or.inr (ww hw 37 rfl)) (Or.inl (ww hw 62 rfl)) (by decide) (t := .int) (t' := (.array .long)) (by decide) (by decide)))
  have E_202 := E_183.wr W191
  have V_203 := V_184.other W191 (Ne.symm ne107)
  have F204 := F185.other W191 (Or.inl (Ne.symm ne87))
  have F205 := F186.other W191 (Or.inl (Ne.symm ne87))
  have F206 := F187.other W191 (Or.inl (Ne.symm ne87))
  have F207 := F188.other W191 (Or.inl (Ne.symm ne87))
  have F208 := F189.other W191 (Or.inr (slot_ne (Or.inl (ww hw 58 rfl)) (Or.inl (ww hw 62 rfl)) (by decide) (t := (.object "com/example/traza/traza/PackedRows$Layout")) (t' := (.array .long)) (by decide) (by decide)))
  have VL209 := LAr_other VL190 W191 (Ne.symm ne167)
  have E_210 := B166.wr W191
  have F211 : Fld Z h191 aP "com/example/traza/traza/PackedRows" "bits" "[J" (.ref ad166) := F174.same W191
  have N191 := Fr.snoc X191 N145 gP
  show Go p e below _ (T191.setTop (mkF m 89 #[.val (.ref aP), .val (.int (3 : Int32))] []))
  exact goRetV X191 hx hlk hret e191 (hb hby d1_89) (by decide) (by decide) ⟨rfl, N191, Y195, ad86, ad106, ad2, ad27, ad166, aP, k106, k2, k27, (0 : Int32), (0 : Int32), (0 : Int32), rb130, wd130, cw130, 0, 0, 0, (fun _ => (0 : Int64)), (fun _ => (0 : Int64)), .null, .null, ⟨E_193, F200, F201, F197, F199, F208, F211, F194, E_202, F204, F205, F206, F207, V_203, V_196, V_198, O2, O27, VL209, hW130, (Nat.le_of_lt lne87), (Nat.le_of_lt lne107), (Nat.le_of_lt lne3), (Nat.le_of_lt lne28), (Nat.le_of_lt lne167), (fun v hv => by simp at hv), (fun q => absurd rfl q), (fun _ => ⟨rfl, rfl⟩)⟩⟩
theorem d11_0 : decode prog_27_method_7_code 0 = .ok (.aload_n 1, 1) := by decide +kernel
theorem d11_1 : decode prog_27_method_7_code 1 = .ok (.arraylength, 1) := by decide +kernel
theorem d11_2 : decode prog_27_method_7_code 2 = .ok (.newarray .int, 2) := by decide +kernel
theorem d11_4 : decode prog_27_method_7_code 4 = .ok (.astore_n 2, 1) := by decide +kernel
theorem d11_5 : decode prog_27_method_7_code 5 = .ok (.iconst 0, 1) := by decide +kernel
theorem d11_6 : decode prog_27_method_7_code 6 = .ok (.istore_n 3, 1) := by decide +kernel
theorem d11_7 : decode prog_27_method_7_code 7 = .ok (.iload_n 3, 1) := by decide +kernel
theorem d11_8 : decode prog_27_method_7_code 8 = .ok (.aload_n 1, 1) := by decide +kernel
theorem d11_9 : decode prog_27_method_7_code 9 = .ok (.arraylength, 1) := by decide +kernel
theorem d11_10 : decode prog_27_method_7_code 10 = .ok (.if_icmp .ge 53, 3) := by decide +kernel
theorem d11_13 : decode prog_27_method_7_code 13 = .ok (.aload_n 1, 1) := by decide +kernel
theorem d11_14 : decode prog_27_method_7_code 14 = .ok (.iload_n 3, 1) := by decide +kernel
theorem d11_15 : decode prog_27_method_7_code 15 = .ok (.iaload, 1) := by decide +kernel
theorem d11_16 : decode prog_27_method_7_code 16 = .ok (.ifCond .ge 20, 3) := by decide +kernel
theorem d11_19 : decode prog_27_method_7_code 19 = .ok (.new 105, 3) := by decide +kernel
theorem d11_22 : decode prog_27_method_7_code 22 = .ok (.dup, 1) := by decide +kernel
theorem d11_23 : decode prog_27_method_7_code 23 = .ok (.aload_n 1, 1) := by decide +kernel
theorem d11_24 : decode prog_27_method_7_code 24 = .ok (.iload_n 3, 1) := by decide +kernel
theorem d11_25 : decode prog_27_method_7_code 25 = .ok (.iaload, 1) := by decide +kernel
theorem d11_26 : decode prog_27_method_7_code 26 = .ok (.iload_n 3, 1) := by decide +kernel
theorem d11_32 : decode prog_27_method_7_code 32 = .ok (.invokespecial 110, 3) := by decide +kernel
theorem d11_35 : decode prog_27_method_7_code 35 = .ok (.athrow, 1) := by decide +kernel
theorem d11_36 : decode prog_27_method_7_code 36 = .ok (.aload_n 2, 1) := by decide +kernel
theorem d11_37 : decode prog_27_method_7_code 37 = .ok (.iload_n 3, 1) := by decide +kernel
theorem d11_38 : decode prog_27_method_7_code 38 = .ok (.aload_n 0, 1) := by decide +kernel
theorem d11_39 : decode prog_27_method_7_code 39 = .ok (.getfield 44, 3) := by decide +kernel
theorem d11_42 : decode prog_27_method_7_code 42 = .ok (.getfield 57, 3) := by decide +kernel
theorem d11_45 : decode prog_27_method_7_code 45 = .ok (.iload_n 3, 1) := by decide +kernel
theorem d11_46 : decode prog_27_method_7_code 46 = .ok (.iaload, 1) := by decide +kernel
theorem d11_47 : decode prog_27_method_7_code 47 = .ok (.aload_n 1, 1) := by decide +kernel
theorem d11_48 : decode prog_27_method_7_code 48 = .ok (.iload_n 3, 1) := by decide +kernel
theorem d11_49 : decode prog_27_method_7_code 49 = .ok (.iaload, 1) := by decide +kernel
theorem d11_50 : decode prog_27_method_7_code 50 = .ok (.invokestatic 27, 3) := by decide +kernel
theorem d11_53 : decode prog_27_method_7_code 53 = .ok (.invokestatic 21, 3) := by decide +kernel
theorem d11_56 : decode prog_27_method_7_code 56 = .ok (.iastore, 1) := by decide +kernel
theorem d11_57 : decode prog_27_method_7_code 57 = .ok (.iinc 3 1, 3) := by decide +kernel
theorem d11_60 : decode prog_27_method_7_code 60 = .ok (.goto (-53), 3) := by decide +kernel
theorem d11_63 : decode prog_27_method_7_code 63 = .ok (.new 15, 3) := by decide +kernel
theorem d11_66 : decode prog_27_method_7_code 66 = .ok (.dup, 1) := by decide +kernel
theorem d11_67 : decode prog_27_method_7_code 67 = .ok (.aload_n 2, 1) := by decide +kernel
theorem d11_68 : decode prog_27_method_7_code 68 = .ok (.aload_n 0, 1) := by decide +kernel
theorem d11_69 : decode prog_27_method_7_code 69 = .ok (.getfield 34, 3) := by decide +kernel
theorem d11_72 : decode prog_27_method_7_code 72 = .ok (.invokespecial 41, 3) := by decide +kernel
theorem d11_75 : decode prog_27_method_7_code 75 = .ok (.astore_n 3, 1) := by decide +kernel
theorem d11_76 : decode prog_27_method_7_code 76 = .ok (.aload_n 0, 1) := by decide +kernel
theorem d11_77 : decode prog_27_method_7_code 77 = .ok (.getfield 54, 3) := by decide +kernel
theorem d11_80 : decode prog_27_method_7_code 80 = .ok (.aload_n 0, 1) := by decide +kernel
theorem d11_81 : decode prog_27_method_7_code 81 = .ok (.getfield 38, 3) := by decide +kernel
theorem d11_84 : decode prog_27_method_7_code 84 = .ok (.iand, 1) := by decide +kernel
theorem d11_85 : decode prog_27_method_7_code 85 = .ok (.istore 4, 2) := by decide +kernel
theorem d11_87 : decode prog_27_method_7_code 87 = .ok (.iload 4, 2) := by decide +kernel
theorem d11_89 : decode prog_27_method_7_code 89 = .ok (.ifCond .le 104, 3) := by decide +kernel
theorem d11_92 : decode prog_27_method_7_code 92 = .ok (.aload_n 0, 1) := by decide +kernel
theorem d11_93 : decode prog_27_method_7_code 93 = .ok (.getfield 54, 3) := by decide +kernel
theorem d11_96 : decode prog_27_method_7_code 96 = .ok (.aload_n 0, 1) := by decide +kernel
theorem d11_97 : decode prog_27_method_7_code 97 = .ok (.getfield 34, 3) := by decide +kernel
theorem d11_100 : decode prog_27_method_7_code 100 = .ok (.iushr, 1) := by decide +kernel
theorem d11_101 : decode prog_27_method_7_code 101 = .ok (.istore 5, 2) := by decide +kernel
theorem d11_103 : decode prog_27_method_7_code 103 = .ok (.aload_n 3, 1) := by decide +kernel
theorem d11_104 : decode prog_27_method_7_code 104 = .ok (.invokevirtual 89, 3) := by decide +kernel
theorem d11_107 : decode prog_27_method_7_code 107 = .ok (.astore 6, 2) := by decide +kernel
theorem d11_109 : decode prog_27_method_7_code 109 = .ok (.aload_n 2, 1) := by decide +kernel
theorem d11_110 : decode prog_27_method_7_code 110 = .ok (.arraylength, 1) := by decide +kernel
theorem d11_111 : decode prog_27_method_7_code 111 = .ok (.newarray .int, 2) := by decide +kernel
theorem d11_113 : decode prog_27_method_7_code 113 = .ok (.astore 7, 2) := by decide +kernel
theorem d11_115 : decode prog_27_method_7_code 115 = .ok (.aload_n 3, 1) := by decide +kernel
theorem d11_116 : decode prog_27_method_7_code 116 = .ok (.getfield 48, 3) := by decide +kernel
theorem d11_119 : decode prog_27_method_7_code 119 = .ok (.newarray .long, 2) := by decide +kernel
theorem d11_121 : decode prog_27_method_7_code 121 = .ok (.astore 8, 2) := by decide +kernel
theorem d11_123 : decode prog_27_method_7_code 123 = .ok (.iconst 0, 1) := by decide +kernel
theorem d11_124 : decode prog_27_method_7_code 124 = .ok (.istore 9, 2) := by decide +kernel
theorem d11_126 : decode prog_27_method_7_code 126 = .ok (.iload 9, 2) := by decide +kernel
theorem d11_128 : decode prog_27_method_7_code 128 = .ok (.iload 4, 2) := by decide +kernel
theorem d11_130 : decode prog_27_method_7_code 130 = .ok (.if_icmp .ge 46, 3) := by decide +kernel
theorem d11_133 : decode prog_27_method_7_code 133 = .ok (.aload_n 0, 1) := by decide +kernel
theorem d11_134 : decode prog_27_method_7_code 134 = .ok (.getfield 44, 3) := by decide +kernel
theorem d11_137 : decode prog_27_method_7_code 137 = .ok (.aload_n 0, 1) := by decide +kernel
theorem d11_138 : decode prog_27_method_7_code 138 = .ok (.getfield 9, 3) := by decide +kernel
theorem d11_141 : decode prog_27_method_7_code 141 = .ok (.iload 5, 2) := by decide +kernel
theorem d11_143 : decode prog_27_method_7_code 143 = .ok (.aaload, 1) := by decide +kernel
theorem d11_144 : decode prog_27_method_7_code 144 = .ok (.iload 9, 2) := by decide +kernel
theorem d11_146 : decode prog_27_method_7_code 146 = .ok (.aload 7, 2) := by decide +kernel
theorem d11_148 : decode prog_27_method_7_code 148 = .ok (.invokevirtual 97, 3) := by decide +kernel
theorem d11_151 : decode prog_27_method_7_code 151 = .ok (.aload_n 3, 1) := by decide +kernel
theorem d11_152 : decode prog_27_method_7_code 152 = .ok (.aload 7, 2) := by decide +kernel
theorem d11_154 : decode prog_27_method_7_code 154 = .ok (.aload 8, 2) := by decide +kernel
theorem d11_156 : decode prog_27_method_7_code 156 = .ok (.invokevirtual 73, 3) := by decide +kernel
theorem d11_159 : decode prog_27_method_7_code 159 = .ok (.pop, 1) := by decide +kernel
theorem d11_160 : decode prog_27_method_7_code 160 = .ok (.aload_n 3, 1) := by decide +kernel
theorem d11_161 : decode prog_27_method_7_code 161 = .ok (.aload 6, 2) := by decide +kernel
theorem d11_163 : decode prog_27_method_7_code 163 = .ok (.iload 9, 2) := by decide +kernel
theorem d11_165 : decode prog_27_method_7_code 165 = .ok (.aload 8, 2) := by decide +kernel
theorem d11_167 : decode prog_27_method_7_code 167 = .ok (.invokevirtual 93, 3) := by decide +kernel
theorem d11_170 : decode prog_27_method_7_code 170 = .ok (.iinc 9 1, 3) := by decide +kernel
theorem d11_173 : decode prog_27_method_7_code 173 = .ok (.goto (-47), 3) := by decide +kernel
theorem d11_176 : decode prog_27_method_7_code 176 = .ok (.aload_n 0, 1) := by decide +kernel
theorem d11_177 : decode prog_27_method_7_code 177 = .ok (.getfield 9, 3) := by decide +kernel
theorem d11_180 : decode prog_27_method_7_code 180 = .ok (.iload 5, 2) := by decide +kernel
theorem d11_182 : decode prog_27_method_7_code 182 = .ok (.aload 6, 2) := by decide +kernel
theorem d11_184 : decode prog_27_method_7_code 184 = .ok (.aastore, 1) := by decide +kernel
theorem d11_185 : decode prog_27_method_7_code 185 = .ok (.aload_n 0, 1) := by decide +kernel
theorem d11_186 : decode prog_27_method_7_code 186 = .ok (.getfield 17, 3) := by decide +kernel
theorem d11_189 : decode prog_27_method_7_code 189 = .ok (.iload 5, 2) := by decide +kernel
theorem d11_191 : decode prog_27_method_7_code 191 = .ok (.aload_n 3, 1) := by decide +kernel
theorem d11_192 : decode prog_27_method_7_code 192 = .ok (.aastore, 1) := by decide +kernel
theorem d11_193 : decode prog_27_method_7_code 193 = .ok (.aload_n 0, 1) := by decide +kernel
theorem d11_194 : decode prog_27_method_7_code 194 = .ok (.aload_n 3, 1) := by decide +kernel
theorem d11_195 : decode prog_27_method_7_code 195 = .ok (.putfield 44, 3) := by decide +kernel
theorem d11_198 : decode prog_27_method_7_code 198 = .ok (.aload_n 0, 1) := by decide +kernel
theorem d11_199 : decode prog_27_method_7_code 199 = .ok (.aload_n 3, 1) := by decide +kernel
theorem d11_200 : decode prog_27_method_7_code 200 = .ok (.getfield 48, 3) := by decide +kernel
theorem d11_203 : decode prog_27_method_7_code 203 = .ok (.newarray .long, 2) := by decide +kernel
theorem d11_205 : decode prog_27_method_7_code 205 = .ok (.putfield 51, 3) := by decide +kernel
theorem d11_208 : decode prog_27_method_7_code 208 = .ok (.return_, 1) := by decide +kernel
theorem pn_11 : plainName "com/example/traza/traza/PackedRows" = true := by first | (simp [plainName, overriddenIn]; done) | decide +kernel
set_option maxRecDepth 65536 in
set_option maxHeartbeats 40000000 in
theorem rm_wid0 (l : Launch) (Z : State) (a0 : Array Value) (hw : ∀ d ∈ tables_1, d.before a0 Z = true) (ws : List Jvm.Cond) (aP aV : Addr) (kV : ClassId) (p0 p1 p2 : Int32) (aL : Addr) (aw : Addr) (aK : Addr) (aY : Addr) (aB : Addr) (aC : Addr) (kw : ClassId) (kK : ClassId) (kY : ClassId) (w0 : Int32) (w1 : Int32) (w2 : Int32) (rb : Int32) (wd : Int32) (cw : Int32) (b0 : Nat) (b1 : Nat) (b2 : Nat) (f : Nat → Int64) (g : Nat → Int64) (xK : Value) (xY : Value) (h0 : Heap) (n0 : Nat) (O0 : Old Z n0 h0) (HP : PR Z h0 aP (0 : Int32) [] aL aw aK aY aB aC kw kK kY w0 w1 w2 rb wd cw b0 b1 b2 f g xK xY) (gP : n0 ≤ aP) (vV : Arv Z h0 aV kV .int (3 : Int32) [(.int p0), (.int p1), (.int p2)] (.int (0 : Int32))) (hp0 : ¬ p0 < 0) (hp1 : ¬ p1 < 0) (hp2 : ¬ p2 < 0) :
    Ctr l (⟨"com/example/traza/traza/PackedRows", "widen", "([I)V"⟩ : MethodName) prog_27_method_7_code 10 none ws ({ frames := 2, cells := 3, slots := 9, locals := 35 } : Room) #[(.ref aP), (.ref aV)] Z h0 (fun v h L => v = none ∧ Fr n0 L ∧ Low aP h0 h ∧ Arv Z h aV kV .int (3 : Int32) [(.int p0), (.int p1), (.int p2)] (.int (0 : Int32)) ∧ ∃ (aL' : Addr) (aw' : Addr) (aK' : Addr) (aY' : Addr) (aB' : Addr) (aC' : Addr) (kw' : ClassId) (kK' : ClassId) (kY' : ClassId) (w0' : Int32) (w1' : Int32) (w2' : Int32) (rb' : Int32) (wd' : Int32) (cw' : Int32) (b0' : Nat) (b1' : Nat) (b2' : Nat) (f' : Nat → Int64) (g' : Nat → Int64) (xK' : Value) (xY' : Value), PR Z h aP (0 : Int32) [] aL' aw' aK' aY' aB' aC' kw' kK' kY' w0' w1' w2' rb' wd' cw' b0' b1' b2' f' g' xK' xY' ∧ own_fits b0' b1' b2' (p0, p1, p2)) := by
  have ef : ∀ m : MethodId, entryFrame m #[(.ref aP), (.ref aV)] 10 = mkF m 0 #[.val (.ref aP), .val (.ref aV), .unset, .unset, .unset, .unset, .unset, .unset, .unset, .unset] [] := fun m => by first | (simp [entryFrame, mkF, argsToLocals, Value.category]; done) | rfl
  refine Ctr.of (plainFor_of_name pn_11) ?_
  intro p e s m below meth c s₁ hx hZ hby hml hown0 hnm hret hlk X0 e0
  have hown : s.vm.findClass "com/example/traza/traza/PackedRows" = some m.cls := hown0
  have N0 := Fr.nil n0
  refine Go.st (fun t k => castTop (ef m) k) ?_
  obtain ⟨r_eP, r_f_chunkShift, r_f_chunkMask, r_f_chunks, r_f_layouts, r_f_layout, r_f_bits, r_f_size, r_eL, r_l_widths, r_l_rowBits, r_l_words, r_l_chunkWords, r_vw, r_vK, r_vY, r_oK, r_oY, r_vB, r_hW, r_pL, r_pw, r_pK, r_pY, r_pB, r_hF, r_full, r_none⟩ := HP
  obtain ⟨rfl, rfl⟩ := r_none rfl
  obtain ⟨hw0, hw1, hw2, hb0, hb1, hb2, hrb, hwd, hcw⟩ := id r_hW
  show Go p e below _ (s₁.setTop (mkF m 0 #[.val (.ref aP), .val (.ref aV), .unset, .unset, .unset, .unset, .unset, .unset, .unset, .unset] []))
  refine Go.st (fun _ => XS.aloadN X0.here hx rfl (hb hby d11_0) rfl rfl) ?_
  show Go p e below _ (s₁.setTop (mkF m 1 #[.val (.ref aP), .val (.ref aV), .unset, .unset, .unset, .unset, .unset, .unset, .unset, .unset] [(.ref aV)]))
  obtain ⟨cl1, Ar1, qk1, Sz1, Nn1, Ha1, Ga1⟩ := id vV
  refine Go.st (fun _ => X0.arraylength hx (by rw [e0]; exact Ar1.1) (State.isArrayOf_alike hZ.alike Ar1.2.1) (g := (mkF m 1 #[.val (.ref aP), .val (.ref aV), .unset, .unset, .unset, .unset, .unset, .unset, .unset, .unset] [(.ref aV)])) rfl rfl (hb hby d11_1) _) ?_
  rw [len_of Sz1 Nn1]
  show Go p e below _ (s₁.setTop (mkF m 2 #[.val (.ref aP), .val (.ref aV), .unset, .unset, .unset, .unset, .unset, .unset, .unset, .unset] [(.int (3 : Int32))]))
  obtain ⟨T2, h2, k2, X2, e2, E2, A2, st2⟩ := newP X0 hx hZ (ww hw 1 rfl) e0 (g := (mkF m 2 #[.val (.ref aP), .val (.ref aV), .unset, .unset, .unset, .unset, .unset, .unset, .unset, .unset] [(.int (3 : Int32))])) rfl (hb hby d11_2) rfl (by decide) (cap := 3) (by decide) (by decide) (by decide) (by decide)
  obtain ⟨ad2, g2⟩ : ∃ z, z = h0.size := ⟨_, rfl⟩
  rw [← g2] at A2 st2
  refine Go.st st2 ?_
  have gn2 : n0 ≤ ad2 := oldGe O0 g2
  have ne3 : aV ≠ ad2 := Nat.ne_of_lt (Nat.lt_of_lt_of_le vV.lt (Nat.le_of_eq g2.symm))
  have lne4 : aP < ad2 := (Nat.lt_of_lt_of_le r_eP.lt (Nat.le_of_eq g2.symm))
  have ne4 : aP ≠ ad2 := Nat.ne_of_lt lne4
  have ne5 : aL ≠ ad2 := Nat.ne_of_lt (Nat.lt_of_lt_of_le r_eL.lt (Nat.le_of_eq g2.symm))
  have ne6 : aw ≠ ad2 := Nat.ne_of_lt (Nat.lt_of_lt_of_le r_vw.lt (Nat.le_of_eq g2.symm))
  have ne7 : aK ≠ ad2 := Nat.ne_of_lt (Nat.lt_of_lt_of_le r_vK.lt (Nat.le_of_eq g2.symm))
  have ne8 : aY ≠ ad2 := Nat.ne_of_lt (Nat.lt_of_lt_of_le r_vY.lt (Nat.le_of_eq g2.symm))
  have ne9 : aB ≠ ad2 := Nat.ne_of_lt (Nat.lt_of_lt_of_le (LAr_lt r_vB) (Nat.le_of_eq g2.symm))
  have O10 := O0.ext E2
  have V_11 := vV.ext E2
  have Y12 := Low_ext (Low_refl (P := aP) (h := h0)) E2
  have E_13 := r_eP.ext E2
  have F14 := r_f_chunkShift.ext E2
  have F15 := r_f_chunkMask.ext E2
  have F16 := r_f_chunks.ext E2
  have F17 := r_f_layouts.ext E2
  have F18 := r_f_layout.ext E2
  have F19 := r_f_bits.ext E2
  have F20 := r_f_size.ext E2
  have E_21 := r_eL.ext E2
  have F22 := r_l_widths.ext E2
  have F23 := r_l_rowBits.ext E2
  have F24 := r_l_words.ext E2
  have F25 := r_l_chunkWords.ext E2
  have V_26 := r_vw.ext E2
  have V_27 := r_vK.ext E2
  have V_28 := r_vY.ext E2
  have VL29 := LAr_ext r_vB E2
  have V_30 : Arv Z h2 ad2 k2 .int (3 : Int32) [(.int (0 : Int32)), (.int (0 : Int32)), (.int (0 : Int32))] (.int (0 : Int32)) := (Arv.new A2 (by decide)).pad (pad_rep [] (.int (0 : Int32)) 3)
  refine Go.st (fun _ => XS.astoreN X2.here hx rfl (hb hby d11_4) rfl rfl (l' := #[.val (.ref aP), .val (.ref aV), .val (.ref ad2), .unset, .unset, .unset, .unset, .unset, .unset, .unset]) rfl) ?_
  refine Go.st (fun _ => XS.iconst X2.here hx rfl (hb hby d11_5)) ?_
  refine Go.st (fun _ => XS.istoreN X2.here hx rfl (hb hby d11_6) rfl (l' := #[.val (.ref aP), .val (.ref aV), .val (.ref ad2), .val (.int (0 : Int32)), .unset, .unset, .unset, .unset, .unset, .unset]) rfl) ?_
  show Go p e below _ (T2.setTop (mkF m 7 #[.val (.ref aP), .val (.ref aV), .val (.ref ad2), .val (.int (0 : Int32)), .unset, .unset, .unset, .unset, .unset, .unset] []))
  refine Go.st (fun _ => XS.iloadN X2.here hx rfl (hb hby d11_7) rfl) ?_
  refine Go.st (fun _ => XS.aloadN X2.here hx rfl (hb hby d11_8) rfl rfl) ?_
  show Go p e below _ (T2.setTop (mkF m 9 #[.val (.ref aP), .val (.ref aV), .val (.ref ad2), .val (.int (0 : Int32)), .unset, .unset, .unset, .unset, .unset, .unset] [(.ref aV), (.int (0 : Int32))]))
  obtain ⟨cl31, Ar31, qk31, Sz31, Nn31, Ha31, Ga31⟩ := id V_11
  refine Go.st (fun _ => X2.arraylength hx (by rw [e2]; exact Ar31.1) (State.isArrayOf_alike hZ.alike Ar31.2.1) (g := (mkF m 9 #[.val (.ref aP), .val (.ref aV), .val (.ref ad2), .val (.int (0 : Int32)), .unset, .unset, .unset, .unset, .unset, .unset] [(.ref aV), (.int (0 : Int32))])) rfl rfl (hb hby d11_9) _) ?_
  rw [len_of Sz31 Nn31]
  show Go p e below _ (T2.setTop (mkF m 10 #[.val (.ref aP), .val (.ref aV), .val (.ref ad2), .val (.int (0 : Int32)), .unset, .unset, .unset, .unset, .unset, .unset] [(.int (3 : Int32)), (.int (0 : Int32))]))
  refine Go.st (fun _ => XS.icmpNo X2.here hx rfl (hb hby d11_10) rfl (tlt (by decide : (0 : Int32) < (3 : Int32))).2.1) ?_
  refine Go.st (fun _ => XS.aloadN X2.here hx rfl (hb hby d11_13) rfl rfl) ?_
  refine Go.st (fun _ => XS.iloadN X2.here hx rfl (hb hby d11_14) rfl) ?_
  obtain ⟨cl32, Ar32, qk32, Sz32, Nn32, Ha32, Ga32⟩ := id V_11
  have hin32 : ¬ ((0 : Int32) < 0 ∨ cl32.slots.size ≤ ((0 : Int32) : Int32).toNatClampNeg) := inb_of Sz32 ⟨by decide, by decide⟩
  refine Go.st (fun _ => X2.iaload hx (j := (0 : Int32)) (v := (.int p0)) (by rw [e2]; exact Ar32.1) (State.isArrayOf_alike hZ.alike Ar32.2.1) Ar32.2.2 hin32 (Has.at Ha32 hin32 rfl) (g := (mkF m 15 #[.val (.ref aP), .val (.ref aV), .val (.ref ad2), .val (.int (0 : Int32)), .unset, .unset, .unset, .unset, .unset, .unset] [(.int (0 : Int32)), (.ref aV)])) rfl rfl (hb hby d11_15) _) ?_
  show Go p e below _ (T2.setTop (mkF m 16 #[.val (.ref aP), .val (.ref aV), .val (.ref ad2), .val (.int (0 : Int32)), .unset, .unset, .unset, .unset, .unset, .unset] [(.int p0)]))
  refine Go.st (fun _ => XS.ifYes X2.here hx rfl (pc0 := 16) (pc' := 36) rfl (hb hby d11_16) rfl ((if0 _ _).trans (flt hp0).2.1) (by decide) (by decide)) ?_
  refine Go.st (fun _ => XS.aloadN X2.here hx rfl (hb hby d11_36) rfl rfl) ?_
  refine Go.st (fun _ => XS.iloadN X2.here hx rfl (hb hby d11_37) rfl) ?_
  refine Go.st (fun _ => XS.aloadN X2.here hx rfl (hb hby d11_38) rfl rfl) ?_
  show Go p e below _ (T2.setTop (mkF m 39 #[.val (.ref aP), .val (.ref aV), .val (.ref ad2), .val (.int (0 : Int32)), .unset, .unset, .unset, .unset, .unset, .unset] [(.ref aP), (.int (0 : Int32)), (.ref ad2)]))
  obtain ⟨T33, X33, e33, st33⟩ := getF X2 hx hZ hown (host := "") (Or.inl (ww hw 57 rfl)) Via.refl e2 F18 (g := (mkF m 39 #[.val (.ref aP), .val (.ref aV), .val (.ref ad2), .val (.int (0 : Int32)), .unset, .unset, .unset, .unset, .unset, .unset] [(.ref aP), (.int (0 : Int32)), (.ref ad2)])) rfl rfl (hb hby d11_39)
  refine Go.st st33 ?_
  obtain ⟨T34, X34, e34, st34⟩ := getFR X33 hx hZ hown (ww hw 80 rfl) e33 F22 (g := (mkF m 42 #[.val (.ref aP), .val (.ref aV), .val (.ref ad2), .val (.int (0 : Int32)), .unset, .unset, .unset, .unset, .unset, .unset] [(.ref aL), (.int (0 : Int32)), (.ref ad2)])) rfl rfl (hb hby d11_42)
  refine Go.st st34 ?_
  refine Go.st (fun _ => XS.iloadN X34.here hx rfl (hb hby d11_45) rfl) ?_
  obtain ⟨cl35, Ar35, qk35, Sz35, Nn35, Ha35, Ga35⟩ := id V_26
  have hin35 : ¬ ((0 : Int32) < 0 ∨ cl35.slots.size ≤ ((0 : Int32) : Int32).toNatClampNeg) := inb_of Sz35 ⟨by decide, by decide⟩
  refine Go.st (fun _ => X34.iaload hx (j := (0 : Int32)) (v := (.int w0)) (by rw [e34]; exact Ar35.1) (State.isArrayOf_alike hZ.alike Ar35.2.1) Ar35.2.2 hin35 (Has.at Ha35 hin35 rfl) (g := (mkF m 46 #[.val (.ref aP), .val (.ref aV), .val (.ref ad2), .val (.int (0 : Int32)), .unset, .unset, .unset, .unset, .unset, .unset] [(.int (0 : Int32)), (.ref aw), (.int (0 : Int32)), (.ref ad2)])) rfl rfl (hb hby d11_46) _) ?_
  show Go p e below _ (T34.setTop (mkF m 47 #[.val (.ref aP), .val (.ref aV), .val (.ref ad2), .val (.int (0 : Int32)), .unset, .unset, .unset, .unset, .unset, .unset] [(.int w0), (.int (0 : Int32)), (.ref ad2)]))
  refine Go.st (fun _ => XS.aloadN X34.here hx rfl (hb hby d11_47) rfl rfl) ?_
  refine Go.st (fun _ => XS.iloadN X34.here hx rfl (hb hby d11_48) rfl) ?_
  obtain ⟨cl36, Ar36, qk36, Sz36, Nn36, Ha36, Ga36⟩ := id V_11
  have hin36 : ¬ ((0 : Int32) < 0 ∨ cl36.slots.size ≤ ((0 : Int32) : Int32).toNatClampNeg) := inb_of Sz36 ⟨by decide, by decide⟩
  refine Go.st (fun _ => X34.iaload hx (j := (0 : Int32)) (v := (.int p0)) (by rw [e34]; exact Ar36.1) (State.isArrayOf_alike hZ.alike Ar36.2.1) Ar36.2.2 hin36 (Has.at Ha36 hin36 rfl) (g := (mkF m 49 #[.val (.ref aP), .val (.ref aV), .val (.ref ad2), .val (.int (0 : Int32)), .unset, .unset, .unset, .unset, .unset, .unset] [(.int (0 : Int32)), (.ref aV), (.int w0), (.int (0 : Int32)), (.ref ad2)])) rfl rfl (hb hby d11_49) _) ?_
  refine goCallS X34 hx hZ (y := (⟨"com/example/traza/traza/PackedRows", "bitsFor", "(I)I"⟩ : MethodName)) hown (ww hw 23 rfl) (ww hw 24 rfl) (ww hw 4 rfl) (ww hw 25 rfl) (by decide) (argsL := [(.int p0)]) (rest := [(.int w0), (.int (0 : Int32)), (.ref ad2)]) e34 (rm_bf l Z a0 hw [] p0 h2 n0 O10) 3 (by decide) (by decide) (by decide) (by decide) (mkF m 50 #[.val (.ref aP), .val (.ref aV), .val (.ref ad2), .val (.int (0 : Int32)), .unset, .unset, .unset, .unset, .unset, .unset] [(.int p0), (.int w0), (.int (0 : Int32)), (.ref ad2)]) rfl (by rw [hml]; rfl) (lenOf pd_0 rfl) rfl (hb hby d11_50) (Nat.le_of_eq rfl) ?_
  intro v37 T37 L37 X37 hQ37
  obtain ⟨⟨z37, rfl, hB37⟩, M37, e37⟩ := hQ37
  have N37 := Fr.app N0 M37
  show Go p e below _ (T37.setTop (mkF m 53 #[.val (.ref aP), .val (.ref aV), .val (.ref ad2), .val (.int (0 : Int32)), .unset, .unset, .unset, .unset, .unset, .unset] [(.int z37), (.int w0), (.int (0 : Int32)), (.ref ad2)]))
  refine goCallS X37 hx hZ (y := (⟨"java/lang/Math", "max", "(II)I"⟩ : MethodName)) hown (ww hw 19 rfl) (ww hw 20 rfl) (ww hw 21 rfl) (ww hw 22 rfl) (by decide) (argsL := [(.int w0), (.int z37)]) (rest := [(.int (0 : Int32)), (.ref ad2)]) e37 (rm_max l Z a0 hw [] w0 z37 h2 n0 O10) 2 (by decide) (by decide) (by decide) (by decide) (mkF m 53 #[.val (.ref aP), .val (.ref aV), .val (.ref ad2), .val (.int (0 : Int32)), .unset, .unset, .unset, .unset, .unset, .unset] [(.int z37), (.int w0), (.int (0 : Int32)), (.ref ad2)]) rfl (by rw [hml]; rfl) (lenOf pd_2 rfl) rfl (hb hby d11_53) (Nat.le_of_eq rfl) ?_
  intro v38 T38 L38 X38 hQ38
  obtain ⟨⟨m38, rfl, em38⟩, M38, e38⟩ := hQ38
  have N38 := Fr.app N37 M38
  obtain ⟨e0, he0, hl0, h30, hf0⟩ := own_mx hw0 hb0 hB37 hp0 em38
  show Go p e below _ (T38.setTop (mkF m 56 #[.val (.ref aP), .val (.ref aV), .val (.ref ad2), .val (.int (0 : Int32)), .unset, .unset, .unset, .unset, .unset, .unset] [(.int m38), (.int (0 : Int32)), (.ref ad2)]))
  obtain ⟨cl39, Ar39, qk39, Sz39, Nn39, Ha39, Ga39⟩ := id V_30
  have hin39 : ¬ ((0 : Int32) < 0 ∨ cl39.slots.size ≤ ((0 : Int32) : Int32).toNatClampNeg) := inb_of Sz39 ⟨by decide, by decide⟩
  obtain ⟨T39, h39, X39, e39, W39, st39⟩ := stI X38 hx hZ e38 Ar39 (j := (0 : Int32)) hin39 (g := (mkF m 56 #[.val (.ref aP), .val (.ref aV), .val (.ref ad2), .val (.int (0 : Int32)), .unset, .unset, .unset, .unset, .unset, .unset] [(.int m38), (.int (0 : Int32)), (.ref ad2)])) rfl rfl (hb hby d11_56)
  refine Go.st st39 ?_
  have O40 := O10.wr W39 gn2
  have V_41 := V_11.other W39 ne3
  have Y42 := Low_wr Y12 W39 (Nat.le_of_lt lne4)
  have E_43 := E_13.wr W39
  have F44 := F14.other W39 (Or.inl ne4)
  have F45 := F15.other W39 (Or.inl ne4)
  have F46 := F16.other W39 (Or.inl ne4)
  have F47 := F17.other W39 (Or.inl ne4)
  have F48 := F18.other W39 (Or.inl ne4)
  have F49 := F19.other W39 (Or.inl ne4)
  have F50 := F20.other W39 (Or.inl ne4)
  have E_51 := E_21.wr W39
  have F52 := F22.other W39 (Or.inl ne5)
  have F53 := F23.other W39 (Or.inl ne5)
  have F54 := F24.other W39 (Or.inl ne5)
  have F55 := F25.other W39 (Or.inl ne5)
  have V_56 := V_26.other W39 ne6
  have V_57 := V_27.other W39 ne7
  have V_58 := V_28.other W39 ne8
  have VL59 := LAr_other VL29 W39 ne9
  have V_60 : Arv Z h39 ad2 k2 .int (3 : Int32) [(.int m38), (.int (0 : Int32)), (.int (0 : Int32))] (.int (0 : Int32)) := Arv.set Ar39 qk39 Sz39 Nn39 Ha39 Ga39 rfl W39 0 rfl (Nat.le_of_ble_eq_true rfl)
  have N39 := Fr.snoc X39 N38 gn2
  refine Go.st (fun _ => XS.iinc X39.here hx rfl (hb hby d11_57) rfl (l' := #[.val (.ref aP), .val (.ref aV), .val (.ref ad2), .val (.int (1 : Int32)), .unset, .unset, .unset, .unset, .unset, .unset]) rfl) ?_
  refine Go.st (fun _ => XS.goto X39.here hx rfl (pc0 := 60) (pc' := 7) rfl (hb hby d11_60) (by decide) (by decide)) ?_
  refine Go.st (fun _ => XS.iloadN X39.here hx rfl (hb hby d11_7) rfl) ?_
  show Go p e below _ (T39.setTop (mkF m 8 #[.val (.ref aP), .val (.ref aV), .val (.ref ad2), .val (.int (1 : Int32)), .unset, .unset, .unset, .unset, .unset, .unset] [(.int (1 : Int32))]))
  refine Go.st (fun _ => XS.aloadN X39.here hx rfl (hb hby d11_8) rfl rfl) ?_
  show Go p e below _ (T39.setTop (mkF m 9 #[.val (.ref aP), .val (.ref aV), .val (.ref ad2), .val (.int (1 : Int32)), .unset, .unset, .unset, .unset, .unset, .unset] [(.ref aV), (.int (1 : Int32))]))
  obtain ⟨cl61, Ar61, qk61, Sz61, Nn61, Ha61, Ga61⟩ := id V_41
  refine Go.st (fun _ => X39.arraylength hx (by rw [e39]; exact Ar61.1) (State.isArrayOf_alike hZ.alike Ar61.2.1) (g := (mkF m 9 #[.val (.ref aP), .val (.ref aV), .val (.ref ad2), .val (.int (1 : Int32)), .unset, .unset, .unset, .unset, .unset, .unset] [(.ref aV), (.int (1 : Int32))])) rfl rfl (hb hby d11_9) _) ?_
  rw [len_of Sz61 Nn61]
  show Go p e below _ (T39.setTop (mkF m 10 #[.val (.ref aP), .val (.ref aV), .val (.ref ad2), .val (.int (1 : Int32)), .unset, .unset, .unset, .unset, .unset, .unset] [(.int (3 : Int32)), (.int (1 : Int32))]))
  refine Go.st (fun _ => XS.icmpNo X39.here hx rfl (hb hby d11_10) rfl (tlt (by decide : (1 : Int32) < (3 : Int32))).2.1) ?_
  refine Go.st (fun _ => XS.aloadN X39.here hx rfl (hb hby d11_13) rfl rfl) ?_
  refine Go.st (fun _ => XS.iloadN X39.here hx rfl (hb hby d11_14) rfl) ?_
  obtain ⟨cl62, Ar62, qk62, Sz62, Nn62, Ha62, Ga62⟩ := id V_41
  have hin62 : ¬ ((1 : Int32) < 0 ∨ cl62.slots.size ≤ ((1 : Int32) : Int32).toNatClampNeg) := inb_of Sz62 ⟨by decide, by decide⟩
  refine Go.st (fun _ => X39.iaload hx (j := (1 : Int32)) (v := (.int p1)) (by rw [e39]; exact Ar62.1) (State.isArrayOf_alike hZ.alike Ar62.2.1) Ar62.2.2 hin62 (Has.at Ha62 hin62 rfl) (g := (mkF m 15 #[.val (.ref aP), .val (.ref aV), .val (.ref ad2), .val (.int (1 : Int32)), .unset, .unset, .unset, .unset, .unset, .unset] [(.int (1 : Int32)), (.ref aV)])) rfl rfl (hb hby d11_15) _) ?_
  show Go p e below _ (T39.setTop (mkF m 16 #[.val (.ref aP), .val (.ref aV), .val (.ref ad2), .val (.int (1 : Int32)), .unset, .unset, .unset, .unset, .unset, .unset] [(.int p1)]))
  refine Go.st (fun _ => XS.ifYes X39.here hx rfl (pc0 := 16) (pc' := 36) rfl (hb hby d11_16) rfl ((if0 _ _).trans (flt hp1).2.1) (by decide) (by decide)) ?_
  refine Go.st (fun _ => XS.aloadN X39.here hx rfl (hb hby d11_36) rfl rfl) ?_
  refine Go.st (fun _ => XS.iloadN X39.here hx rfl (hb hby d11_37) rfl) ?_
  refine Go.st (fun _ => XS.aloadN X39.here hx rfl (hb hby d11_38) rfl rfl) ?_
  show Go p e below _ (T39.setTop (mkF m 39 #[.val (.ref aP), .val (.ref aV), .val (.ref ad2), .val (.int (1 : Int32)), .unset, .unset, .unset, .unset, .unset, .unset] [(.ref aP), (.int (1 : Int32)), (.ref ad2)]))
  obtain ⟨T63, X63, e63, st63⟩ := getF X39 hx hZ hown (host := "") (Or.inl (ww hw 57 rfl)) Via.refl e39 F48 (g := (mkF m 39 #[.val (.ref aP), .val (.ref aV), .val (.ref ad2), .val (.int (1 : Int32)), .unset, .unset, .unset, .unset, .unset, .unset] [(.ref aP), (.int (1 : Int32)), (.ref ad2)])) rfl rfl (hb hby d11_39)
  refine Go.st st63 ?_
  obtain ⟨T64, X64, e64, st64⟩ := getFR X63 hx hZ hown (ww hw 80 rfl) e63 F52 (g := (mkF m 42 #[.val (.ref aP), .val (.ref aV), .val (.ref ad2), .val (.int (1 : Int32)), .unset, .unset, .unset, .unset, .unset, .unset] [(.ref aL), (.int (1 : Int32)), (.ref ad2)])) rfl rfl (hb hby d11_42)
  refine Go.st st64 ?_
  refine Go.st (fun _ => XS.iloadN X64.here hx rfl (hb hby d11_45) rfl) ?_
  obtain ⟨cl65, Ar65, qk65, Sz65, Nn65, Ha65, Ga65⟩ := id V_56
  have hin65 : ¬ ((1 : Int32) < 0 ∨ cl65.slots.size ≤ ((1 : Int32) : Int32).toNatClampNeg) := inb_of Sz65 ⟨by decide, by decide⟩
  refine Go.st (fun _ => X64.iaload hx (j := (1 : Int32)) (v := (.int w1)) (by rw [e64]; exact Ar65.1) (State.isArrayOf_alike hZ.alike Ar65.2.1) Ar65.2.2 hin65 (Has.at Ha65 hin65 rfl) (g := (mkF m 46 #[.val (.ref aP), .val (.ref aV), .val (.ref ad2), .val (.int (1 : Int32)), .unset, .unset, .unset, .unset, .unset, .unset] [(.int (1 : Int32)), (.ref aw), (.int (1 : Int32)), (.ref ad2)])) rfl rfl (hb hby d11_46) _) ?_
  show Go p e below _ (T64.setTop (mkF m 47 #[.val (.ref aP), .val (.ref aV), .val (.ref ad2), .val (.int (1 : Int32)), .unset, .unset, .unset, .unset, .unset, .unset] [(.int w1), (.int (1 : Int32)), (.ref ad2)]))
  refine Go.st (fun _ => XS.aloadN X64.here hx rfl (hb hby d11_47) rfl rfl) ?_
  refine Go.st (fun _ => XS.iloadN X64.here hx rfl (hb hby d11_48) rfl) ?_
  obtain ⟨cl66, Ar66, qk66, Sz66, Nn66, Ha66, Ga66⟩ := id V_41
  have hin66 : ¬ ((1 : Int32) < 0 ∨ cl66.slots.size ≤ ((1 : Int32) : Int32).toNatClampNeg) := inb_of Sz66 ⟨by decide, by decide⟩
  refine Go.st (fun _ => X64.iaload hx (j := (1 : Int32)) (v := (.int p1)) (by rw [e64]; exact Ar66.1) (State.isArrayOf_alike hZ.alike Ar66.2.1) Ar66.2.2 hin66 (Has.at Ha66 hin66 rfl) (g := (mkF m 49 #[.val (.ref aP), .val (.ref aV), .val (.ref ad2), .val (.int (1 : Int32)), .unset, .unset, .unset, .unset, .unset, .unset] [(.int (1 : Int32)), (.ref aV), (.int w1), (.int (1 : Int32)), (.ref ad2)])) rfl rfl (hb hby d11_49) _) ?_
  refine goCallS X64 hx hZ (y := (⟨"com/example/traza/traza/PackedRows", "bitsFor", "(I)I"⟩ : MethodName)) hown (ww hw 23 rfl) (ww hw 24 rfl) (ww hw 4 rfl) (ww hw 25 rfl) (by decide) (argsL := [(.int p1)]) (rest := [(.int w1), (.int (1 : Int32)), (.ref ad2)]) e64 (rm_bf l Z a0 hw [] p1 h39 n0 O40) 3 (by decide) (by decide) (by decide) (by decide) (mkF m 50 #[.val (.ref aP), .val (.ref aV), .val (.ref ad2), .val (.int (1 : Int32)), .unset, .unset, .unset, .unset, .unset, .unset] [(.int p1), (.int w1), (.int (1 : Int32)), (.ref ad2)]) rfl (by rw [hml]; rfl) (lenOf pd_0 rfl) rfl (hb hby d11_50) (Nat.le_of_eq rfl) ?_
  intro v67 T67 L67 X67 hQ67
  obtain ⟨⟨z67, rfl, hB67⟩, M67, e67⟩ := hQ67
  have N67 := Fr.app N39 M67
  show Go p e below _ (T67.setTop (mkF m 53 #[.val (.ref aP), .val (.ref aV), .val (.ref ad2), .val (.int (1 : Int32)), .unset, .unset, .unset, .unset, .unset, .unset] [(.int z67), (.int w1), (.int (1 : Int32)), (.ref ad2)]))
  refine goCallS X67 hx hZ (y := (⟨"java/lang/Math", "max", "(II)I"⟩ : MethodName)) hown (ww hw 19 rfl) (ww hw 20 rfl) (ww hw 21 rfl) (ww hw 22 rfl) (by decide) (argsL := [(.int w1), (.int z67)]) (rest := [(.int (1 : Int32)), (.ref ad2)]) e67 (rm_max l Z a0 hw [] w1 z67 h39 n0 O40) 2 (by decide) (by decide) (by decide) (by decide) (mkF m 53 #[.val (.ref aP), .val (.ref aV), .val (.ref ad2), .val (.int (1 : Int32)), .unset, .unset, .unset, .unset, .unset, .unset] [(.int z67), (.int w1), (.int (1 : Int32)), (.ref ad2)]) rfl (by rw [hml]; rfl) (lenOf pd_2 rfl) rfl (hb hby d11_53) (Nat.le_of_eq rfl) ?_
  intro v68 T68 L68 X68 hQ68
  obtain ⟨⟨m68, rfl, em68⟩, M68, e68⟩ := hQ68
  have N68 := Fr.app N67 M68
  obtain ⟨e1, he1, hl1, h31, hf1⟩ := own_mx hw1 hb1 hB67 hp1 em68
  show Go p e below _ (T68.setTop (mkF m 56 #[.val (.ref aP), .val (.ref aV), .val (.ref ad2), .val (.int (1 : Int32)), .unset, .unset, .unset, .unset, .unset, .unset] [(.int m68), (.int (1 : Int32)), (.ref ad2)]))
  obtain ⟨cl69, Ar69, qk69, Sz69, Nn69, Ha69, Ga69⟩ := id V_60
  have hin69 : ¬ ((1 : Int32) < 0 ∨ cl69.slots.size ≤ ((1 : Int32) : Int32).toNatClampNeg) := inb_of Sz69 ⟨by decide, by decide⟩
  obtain ⟨T69, h69, X69, e69, W69, st69⟩ := stI X68 hx hZ e68 Ar69 (j := (1 : Int32)) hin69 (g := (mkF m 56 #[.val (.ref aP), .val (.ref aV), .val (.ref ad2), .val (.int (1 : Int32)), .unset, .unset, .unset, .unset, .unset, .unset] [(.int m68), (.int (1 : Int32)), (.ref ad2)])) rfl rfl (hb hby d11_56)
  refine Go.st st69 ?_
  have O70 := O40.wr W69 gn2
  have V_71 := V_41.other W69 ne3
  have Y72 := Low_wr Y42 W69 (Nat.le_of_lt lne4)
  have E_73 := E_43.wr W69
  have F74 := F44.other W69 (Or.inl ne4)
  have F75 := F45.other W69 (Or.inl ne4)
  have F76 := F46.other W69 (Or.inl ne4)
  have F77 := F47.other W69 (Or.inl ne4)
  have F78 := F48.other W69 (Or.inl ne4)
  have F79 := F49.other W69 (Or.inl ne4)
  have F80 := F50.other W69 (Or.inl ne4)
  have E_81 := E_51.wr W69
  have F82 := F52.other W69 (Or.inl ne5)
  have F83 := F53.other W69 (Or.inl ne5)
  have F84 := F54.other W69 (Or.inl ne5)
  have F85 := F55.other W69 (Or.inl ne5)
  have V_86 := V_56.other W69 ne6
  have V_87 := V_57.other W69 ne7
  have V_88 := V_58.other W69 ne8
  have VL89 := LAr_other VL59 W69 ne9
  have V_90 : Arv Z h69 ad2 k2 .int (3 : Int32) [(.int m38), (.int m68), (.int (0 : Int32))] (.int (0 : Int32)) := Arv.set Ar69 qk69 Sz69 Nn69 Ha69 Ga69 rfl W69 1 rfl (Nat.le_of_ble_eq_true rfl)
  have N69 := Fr.snoc X69 N68 gn2
  refine Go.st (fun _ => XS.iinc X69.here hx rfl (hb hby d11_57) rfl (l' := #[.val (.ref aP), .val (.ref aV), .val (.ref ad2), .val (.int (2 : Int32)), .unset, .unset, .unset, .unset, .unset, .unset]) rfl) ?_
  refine Go.st (fun _ => XS.goto X69.here hx rfl (pc0 := 60) (pc' := 7) rfl (hb hby d11_60) (by decide) (by decide)) ?_
  refine Go.st (fun _ => XS.iloadN X69.here hx rfl (hb hby d11_7) rfl) ?_
  show Go p e below _ (T69.setTop (mkF m 8 #[.val (.ref aP), .val (.ref aV), .val (.ref ad2), .val (.int (2 : Int32)), .unset, .unset, .unset, .unset, .unset, .unset] [(.int (2 : Int32))]))
  refine Go.st (fun _ => XS.aloadN X69.here hx rfl (hb hby d11_8) rfl rfl) ?_
  show Go p e below _ (T69.setTop (mkF m 9 #[.val (.ref aP), .val (.ref aV), .val (.ref ad2), .val (.int (2 : Int32)), .unset, .unset, .unset, .unset, .unset, .unset] [(.ref aV), (.int (2 : Int32))]))
  obtain ⟨cl91, Ar91, qk91, Sz91, Nn91, Ha91, Ga91⟩ := id V_71
  refine Go.st (fun _ => X69.arraylength hx (by rw [e69]; exact Ar91.1) (State.isArrayOf_alike hZ.alike Ar91.2.1) (g := (mkF m 9 #[.val (.ref aP), .val (.ref aV), .val (.ref ad2), .val (.int (2 : Int32)), .unset, .unset, .unset, .unset, .unset, .unset] [(.ref aV), (.int (2 : Int32))])) rfl rfl (hb hby d11_9) _) ?_
  rw [len_of Sz91 Nn91]
  show Go p e below _ (T69.setTop (mkF m 10 #[.val (.ref aP), .val (.ref aV), .val (.ref ad2), .val (.int (2 : Int32)), .unset, .unset, .unset, .unset, .unset, .unset] [(.int (3 : Int32)), (.int (2 : Int32))]))
  refine Go.st (fun _ => XS.icmpNo X69.here hx rfl (hb hby d11_10) rfl (tlt (by decide : (2 : Int32) < (3 : Int32))).2.1) ?_
  refine Go.st (fun _ => XS.aloadN X69.here hx rfl (hb hby d11_13) rfl rfl) ?_
  refine Go.st (fun _ => XS.iloadN X69.here hx rfl (hb hby d11_14) rfl) ?_
  obtain ⟨cl92, Ar92, qk92, Sz92, Nn92, Ha92, Ga92⟩ := id V_71
  have hin92 : ¬ ((2 : Int32) < 0 ∨ cl92.slots.size ≤ ((2 : Int32) : Int32).toNatClampNeg) := inb_of Sz92 ⟨by decide, by decide⟩
  refine Go.st (fun _ => X69.iaload hx (j := (2 : Int32)) (v := (.int p2)) (by rw [e69]; exact Ar92.1) (State.isArrayOf_alike hZ.alike Ar92.2.1) Ar92.2.2 hin92 (Has.at Ha92 hin92 rfl) (g := (mkF m 15 #[.val (.ref aP), .val (.ref aV), .val (.ref ad2), .val (.int (2 : Int32)), .unset, .unset, .unset, .unset, .unset, .unset] [(.int (2 : Int32)), (.ref aV)])) rfl rfl (hb hby d11_15) _) ?_
  show Go p e below _ (T69.setTop (mkF m 16 #[.val (.ref aP), .val (.ref aV), .val (.ref ad2), .val (.int (2 : Int32)), .unset, .unset, .unset, .unset, .unset, .unset] [(.int p2)]))
  refine Go.st (fun _ => XS.ifYes X69.here hx rfl (pc0 := 16) (pc' := 36) rfl (hb hby d11_16) rfl ((if0 _ _).trans (flt hp2).2.1) (by decide) (by decide)) ?_
  refine Go.st (fun _ => XS.aloadN X69.here hx rfl (hb hby d11_36) rfl rfl) ?_
  refine Go.st (fun _ => XS.iloadN X69.here hx rfl (hb hby d11_37) rfl) ?_
  refine Go.st (fun _ => XS.aloadN X69.here hx rfl (hb hby d11_38) rfl rfl) ?_
  show Go p e below _ (T69.setTop (mkF m 39 #[.val (.ref aP), .val (.ref aV), .val (.ref ad2), .val (.int (2 : Int32)), .unset, .unset, .unset, .unset, .unset, .unset] [(.ref aP), (.int (2 : Int32)), (.ref ad2)]))
  obtain ⟨T93, X93, e93, st93⟩ := getF X69 hx hZ hown (host := "") (Or.inl (ww hw 57 rfl)) Via.refl e69 F78 (g := (mkF m 39 #[.val (.ref aP), .val (.ref aV), .val (.ref ad2), .val (.int (2 : Int32)), .unset, .unset, .unset, .unset, .unset, .unset] [(.ref aP), (.int (2 : Int32)), (.ref ad2)])) rfl rfl (hb hby d11_39)
  refine Go.st st93 ?_
  obtain ⟨T94, X94, e94, st94⟩ := getFR X93 hx hZ hown (ww hw 80 rfl) e93 F82 (g := (mkF m 42 #[.val (.ref aP), .val (.ref aV), .val (.ref ad2), .val (.int (2 : Int32)), .unset, .unset, .unset, .unset, .unset, .unset] [(.ref aL), (.int (2 : Int32)), (.ref ad2)])) rfl rfl (hb hby d11_42)
  refine Go.st st94 ?_
  refine Go.st (fun _ => XS.iloadN X94.here hx rfl (hb hby d11_45) rfl) ?_
  obtain ⟨cl95, Ar95, qk95, Sz95, Nn95, Ha95, Ga95⟩ := id V_86
  have hin95 : ¬ ((2 : Int32) < 0 ∨ cl95.slots.size ≤ ((2 : Int32) : Int32).toNatClampNeg) := inb_of Sz95 ⟨by decide, by decide⟩
  refine Go.st (fun _ => X94.iaload hx (j := (2 : Int32)) (v := (.int w2)) (by rw [e94]; exact Ar95.1) (State.isArrayOf_alike hZ.alike Ar95.2.1) Ar95.2.2 hin95 (Has.at Ha95 hin95 rfl) (g := (mkF m 46 #[.val (.ref aP), .val (.ref aV), .val (.ref ad2), .val (.int (2 : Int32)), .unset, .unset, .unset, .unset, .unset, .unset] [(.int (2 : Int32)), (.ref aw), (.int (2 : Int32)), (.ref ad2)])) rfl rfl (hb hby d11_46) _) ?_
  show Go p e below _ (T94.setTop (mkF m 47 #[.val (.ref aP), .val (.ref aV), .val (.ref ad2), .val (.int (2 : Int32)), .unset, .unset, .unset, .unset, .unset, .unset] [(.int w2), (.int (2 : Int32)), (.ref ad2)]))
  refine Go.st (fun _ => XS.aloadN X94.here hx rfl (hb hby d11_47) rfl rfl) ?_
  refine Go.st (fun _ => XS.iloadN X94.here hx rfl (hb hby d11_48) rfl) ?_
  obtain ⟨cl96, Ar96, qk96, Sz96, Nn96, Ha96, Ga96⟩ := id V_71
  have hin96 : ¬ ((2 : Int32) < 0 ∨ cl96.slots.size ≤ ((2 : Int32) : Int32).toNatClampNeg) := inb_of Sz96 ⟨by decide, by decide⟩
  refine Go.st (fun _ => X94.iaload hx (j := (2 : Int32)) (v := (.int p2)) (by rw [e94]; exact Ar96.1) (State.isArrayOf_alike hZ.alike Ar96.2.1) Ar96.2.2 hin96 (Has.at Ha96 hin96 rfl) (g := (mkF m 49 #[.val (.ref aP), .val (.ref aV), .val (.ref ad2), .val (.int (2 : Int32)), .unset, .unset, .unset, .unset, .unset, .unset] [(.int (2 : Int32)), (.ref aV), (.int w2), (.int (2 : Int32)), (.ref ad2)])) rfl rfl (hb hby d11_49) _) ?_
  refine goCallS X94 hx hZ (y := (⟨"com/example/traza/traza/PackedRows", "bitsFor", "(I)I"⟩ : MethodName)) hown (ww hw 23 rfl) (ww hw 24 rfl) (ww hw 4 rfl) (ww hw 25 rfl) (by decide) (argsL := [(.int p2)]) (rest := [(.int w2), (.int (2 : Int32)), (.ref ad2)]) e94 (rm_bf l Z a0 hw [] p2 h69 n0 O70) 3 (by decide) (by decide) (by decide) (by decide) (mkF m 50 #[.val (.ref aP), .val (.ref aV), .val (.ref ad2), .val (.int (2 : Int32)), .unset, .unset, .unset, .unset, .unset, .unset] [(.int p2), (.int w2), (.int (2 : Int32)), (.ref ad2)]) rfl (by rw [hml]; rfl) (lenOf pd_0 rfl) rfl (hb hby d11_50) (Nat.le_of_eq rfl) ?_
  intro v97 T97 L97 X97 hQ97
  obtain ⟨⟨z97, rfl, hB97⟩, M97, e97⟩ := hQ97
  have N97 := Fr.app N69 M97
  show Go p e below _ (T97.setTop (mkF m 53 #[.val (.ref aP), .val (.ref aV), .val (.ref ad2), .val (.int (2 : Int32)), .unset, .unset, .unset, .unset, .unset, .unset] [(.int z97), (.int w2), (.int (2 : Int32)), (.ref ad2)]))
  refine goCallS X97 hx hZ (y := (⟨"java/lang/Math", "max", "(II)I"⟩ : MethodName)) hown (ww hw 19 rfl) (ww hw 20 rfl) (ww hw 21 rfl) (ww hw 22 rfl) (by decide) (argsL := [(.int w2), (.int z97)]) (rest := [(.int (2 : Int32)), (.ref ad2)]) e97 (rm_max l Z a0 hw [] w2 z97 h69 n0 O70) 2 (by decide) (by decide) (by decide) (by decide) (mkF m 53 #[.val (.ref aP), .val (.ref aV), .val (.ref ad2), .val (.int (2 : Int32)), .unset, .unset, .unset, .unset, .unset, .unset] [(.int z97), (.int w2), (.int (2 : Int32)), (.ref ad2)]) rfl (by rw [hml]; rfl) (lenOf pd_2 rfl) rfl (hb hby d11_53) (Nat.le_of_eq rfl) ?_
  intro v98 T98 L98 X98 hQ98
  obtain ⟨⟨m98, rfl, em98⟩, M98, e98⟩ := hQ98
  have N98 := Fr.app N97 M98
  obtain ⟨e2, he2, hl2, h32, hf2⟩ := own_mx hw2 hb2 hB97 hp2 em98
  show Go p e below _ (T98.setTop (mkF m 56 #[.val (.ref aP), .val (.ref aV), .val (.ref ad2), .val (.int (2 : Int32)), .unset, .unset, .unset, .unset, .unset, .unset] [(.int m98), (.int (2 : Int32)), (.ref ad2)]))
  obtain ⟨cl99, Ar99, qk99, Sz99, Nn99, Ha99, Ga99⟩ := id V_90
  have hin99 : ¬ ((2 : Int32) < 0 ∨ cl99.slots.size ≤ ((2 : Int32) : Int32).toNatClampNeg) := inb_of Sz99 ⟨by decide, by decide⟩
  obtain ⟨T99, h99, X99, e99, W99, st99⟩ := stI X98 hx hZ e98 Ar99 (j := (2 : Int32)) hin99 (g := (mkF m 56 #[.val (.ref aP), .val (.ref aV), .val (.ref ad2), .val (.int (2 : Int32)), .unset, .unset, .unset, .unset, .unset, .unset] [(.int m98), (.int (2 : Int32)), (.ref ad2)])) rfl rfl (hb hby d11_56)
  refine Go.st st99 ?_
  have O100 := O70.wr W99 gn2
  have V_101 := V_71.other W99 ne3
  have Y102 := Low_wr Y72 W99 (Nat.le_of_lt lne4)
  have E_103 := E_73.wr W99
  have F104 := F74.other W99 (Or.inl ne4)
  have F105 := F75.other W99 (Or.inl ne4)
  have F106 := F76.other W99 (Or.inl ne4)
  have F107 := F77.other W99 (Or.inl ne4)
  have F108 := F78.other W99 (Or.inl ne4)
  have F109 := F79.other W99 (Or.inl ne4)
  have F110 := F80.other W99 (Or.inl ne4)
  have E_111 := E_81.wr W99
  have F112 := F82.other W99 (Or.inl ne5)
  have F113 := F83.other W99 (Or.inl ne5)
  have F114 := F84.other W99 (Or.inl ne5)
  have F115 := F85.other W99 (Or.inl ne5)
  have V_116 := V_86.other W99 ne6
  have V_117 := V_87.other W99 ne7
  have V_118 := V_88.other W99 ne8
  have VL119 := LAr_other VL89 W99 ne9
  have V_120 : Arv Z h99 ad2 k2 .int (3 : Int32) [(.int m38), (.int m68), (.int m98)] (.int (0 : Int32)) := Arv.set Ar99 qk99 Sz99 Nn99 Ha99 Ga99 rfl W99 2 rfl (Nat.le_of_ble_eq_true rfl)
  have N99 := Fr.snoc X99 N98 gn2
  refine Go.st (fun _ => XS.iinc X99.here hx rfl (hb hby d11_57) rfl (l' := #[.val (.ref aP), .val (.ref aV), .val (.ref ad2), .val (.int (3 : Int32)), .unset, .unset, .unset, .unset, .unset, .unset]) rfl) ?_
  refine Go.st (fun _ => XS.goto X99.here hx rfl (pc0 := 60) (pc' := 7) rfl (hb hby d11_60) (by decide) (by decide)) ?_
  refine Go.st (fun _ => XS.iloadN X99.here hx rfl (hb hby d11_7) rfl) ?_
  show Go p e below _ (T99.setTop (mkF m 8 #[.val (.ref aP), .val (.ref aV), .val (.ref ad2), .val (.int (3 : Int32)), .unset, .unset, .unset, .unset, .unset, .unset] [(.int (3 : Int32))]))
  refine Go.st (fun _ => XS.aloadN X99.here hx rfl (hb hby d11_8) rfl rfl) ?_
  show Go p e below _ (T99.setTop (mkF m 9 #[.val (.ref aP), .val (.ref aV), .val (.ref ad2), .val (.int (3 : Int32)), .unset, .unset, .unset, .unset, .unset, .unset] [(.ref aV), (.int (3 : Int32))]))
  obtain ⟨cl121, Ar121, qk121, Sz121, Nn121, Ha121, Ga121⟩ := id V_101
  refine Go.st (fun _ => X99.arraylength hx (by rw [e99]; exact Ar121.1) (State.isArrayOf_alike hZ.alike Ar121.2.1) (g := (mkF m 9 #[.val (.ref aP), .val (.ref aV), .val (.ref ad2), .val (.int (3 : Int32)), .unset, .unset, .unset, .unset, .unset, .unset] [(.ref aV), (.int (3 : Int32))])) rfl rfl (hb hby d11_9) _) ?_
  rw [len_of Sz121 Nn121]
  show Go p e below _ (T99.setTop (mkF m 10 #[.val (.ref aP), .val (.ref aV), .val (.ref ad2), .val (.int (3 : Int32)), .unset, .unset, .unset, .unset, .unset, .unset] [(.int (3 : Int32)), (.int (3 : Int32))]))
  refine Go.st (fun _ => XS.icmpYes X99.here hx rfl (pc0 := 10) (pc' := 63) rfl (hb hby d11_10) rfl (flt (by decide : ¬ ((3 : Int32) < (3 : Int32)))).2.1 (by decide) (by decide)) ?_
  obtain ⟨T122, h122, X122, e122, E122, A122, D122, U122, st122⟩ := newO X99 hx hZ hown (ww hw 15 rfl) (ww hw 38 rfl) (ww hw 39 rfl) e99 (g := (mkF m 63 #[.val (.ref aP), .val (.ref aV), .val (.ref ad2), .val (.int (3 : Int32)), .unset, .unset, .unset, .unset, .unset, .unset] [])) rfl (hb hby d11_63) (by decide) (by decide)
  obtain ⟨ad122, g122⟩ : ∃ z, z = h99.size := ⟨_, rfl⟩
  rw [← g122] at A122 D122 U122 st122
  refine Go.st st122 ?_
  have gn122 : n0 ≤ ad122 := oldGe O100 g122
  have ne123 : aV ≠ ad122 := Nat.ne_of_lt (Nat.lt_of_lt_of_le V_101.lt (Nat.le_of_eq g122.symm))
  have lne124 : aP < ad122 := (Nat.lt_of_lt_of_le E_103.lt (Nat.le_of_eq g122.symm))
  have ne124 : aP ≠ ad122 := Nat.ne_of_lt lne124
  have ne125 : aL ≠ ad122 := Nat.ne_of_lt (Nat.lt_of_lt_of_le E_111.lt (Nat.le_of_eq g122.symm))
  have ne126 : aw ≠ ad122 := Nat.ne_of_lt (Nat.lt_of_lt_of_le V_116.lt (Nat.le_of_eq g122.symm))
  have ne127 : aK ≠ ad122 := Nat.ne_of_lt (Nat.lt_of_lt_of_le V_117.lt (Nat.le_of_eq g122.symm))
  have ne128 : aY ≠ ad122 := Nat.ne_of_lt (Nat.lt_of_lt_of_le V_118.lt (Nat.le_of_eq g122.symm))
  have ne129 : aB ≠ ad122 := Nat.ne_of_lt (Nat.lt_of_lt_of_le (LAr_lt VL119) (Nat.le_of_eq g122.symm))
  have ne130 : ad2 ≠ ad122 := Nat.ne_of_lt (Nat.lt_of_lt_of_le V_120.lt (Nat.le_of_eq g122.symm))
  have O131 := O100.ext E122
  have V_132 := V_101.ext E122
  have Y133 := Low_ext Y102 E122
  have E_134 := E_103.ext E122
  have F135 := F104.ext E122
  have F136 := F105.ext E122
  have F137 := F106.ext E122
  have F138 := F107.ext E122
  have F139 := F108.ext E122
  have F140 := F109.ext E122
  have F141 := F110.ext E122
  have E_142 := E_111.ext E122
  have F143 := F112.ext E122
  have F144 := F113.ext E122
  have F145 := F114.ext E122
  have F146 := F115.ext E122
  have V_147 := V_116.ext E122
  have V_148 := V_117.ext E122
  have V_149 := V_118.ext E122
  have VL150 := LAr_ext VL119 E122
  have V_151 := V_120.ext E122
  have F152 : Fld Z h122 ad122 "com/example/traza/traza/PackedRows$Layout" "widths" "[I" .null := D122 (Or.inr (ww hw 46 rfl)) (ty := (.array .int)) (by decide)
  have F153 : Fld Z h122 ad122 "com/example/traza/traza/PackedRows$Layout" "rowBits" "I" (.int (0 : Int32)) := D122 (Or.inr (ww hw 48 rfl)) (ty := .int) (by decide)
  have F154 : Fld Z h122 ad122 "com/example/traza/traza/PackedRows$Layout" "words" "I" (.int (0 : Int32)) := D122 (Or.inr (ww hw 54 rfl)) (ty := .int) (by decide)
  have F155 : Fld Z h122 ad122 "com/example/traza/traza/PackedRows$Layout" "chunkWords" "I" (.int (0 : Int32)) := D122 (Or.inr (ww hw 56 rfl)) (ty := .int) (by decide)
  refine Go.st (fun _ => XS.dup X122.here hx rfl (hb hby d11_66) rfl rfl) ?_
  refine Go.st (fun _ => XS.aloadN X122.here hx rfl (hb hby d11_67) rfl rfl) ?_
  show Go p e below _ (T122.setTop (mkF m 68 #[.val (.ref aP), .val (.ref aV), .val (.ref ad2), .val (.int (3 : Int32)), .unset, .unset, .unset, .unset, .unset, .unset] [(.ref ad2), (.ref ad122), (.ref ad122)]))
  refine Go.st (fun _ => XS.aloadN X122.here hx rfl (hb hby d11_68) rfl rfl) ?_
  obtain ⟨T156, X156, e156, st156⟩ := getF X122 hx hZ hown (host := "") (Or.inl (ww hw 34 rfl)) Via.refl e122 F135 (g := (mkF m 69 #[.val (.ref aP), .val (.ref aV), .val (.ref ad2), .val (.int (3 : Int32)), .unset, .unset, .unset, .unset, .unset, .unset] [(.ref aP), (.ref ad2), (.ref ad122), (.ref ad122)])) rfl rfl (hb hby d11_69)
  refine Go.st st156 ?_
  refine goInit X156 hx hZ (y := (⟨"com/example/traza/traza/PackedRows$Layout", "<init>", "([II)V"⟩ : MethodName)) rfl hown (ww hw 40 rfl) (ww hw 41 rfl) (ww hw 39 rfl) (ww hw 42 rfl) (by decide) (a := ad122) (argsL := [(.ref ad2), (.int (12 : Int32))]) (rest := [(.ref ad122)]) e156 (rm_LI l Z a0 hw [] ad122 ad2 k2 m38 m68 m98 e0 e1 e2 h122 n0 O131 A122 F152 F153 F154 F155 gn122 V_151 he0 he1 he2 h30 h31 h32) 1 (by decide) (by decide) (by decide) (by decide) (mkF m 72 #[.val (.ref aP), .val (.ref aV), .val (.ref ad2), .val (.int (3 : Int32)), .unset, .unset, .unset, .unset, .unset, .unset] [(.int (12 : Int32)), (.ref ad2), (.ref ad122), (.ref ad122)]) rfl (by rw [hml]; rfl) (lenOf pd_4 rfl) rfl (hb hby d11_72) (Nat.le_of_eq rfl) ?_
  intro v157 T157 L157 X157 hQ157
  obtain ⟨rfl, M157, K157, rb157, wd157, cw157, hW157, Ga157, Gb157, Gc157, Gd157⟩ := hQ157
  have N157 := Fr.app N99 M157
  have O158 := O131.keep K157 (allS gn122 all0)
  have V_159 := V_132.keep K157 (ninS ne123 nin0)
  have Y160 := Low_keep Y133 K157 (allS (Nat.le_of_lt lne124) all0)
  have E_161 := E_134.keep K157
  have F162 := F135.keep K157 (ninS ne124 nin0)
  have F163 := F136.keep K157 (ninS ne124 nin0)
  have F164 := F137.keep K157 (ninS ne124 nin0)
  have F165 := F138.keep K157 (ninS ne124 nin0)
  have F166 := F139.keep K157 (ninS ne124 nin0)
  have F167 := F140.keep K157 (ninS ne124 nin0)
  have F168 := F141.keep K157 (ninS ne124 nin0)
  have E_169 := E_142.keep K157
  have F170 := F143.keep K157 (ninS ne125 nin0)
  have F171 := F144.keep K157 (ninS ne125 nin0)
  have F172 := F145.keep K157 (ninS ne125 nin0)
  have F173 := F146.keep K157 (ninS ne125 nin0)
  have V_174 := V_147.keep K157 (ninS ne126 nin0)
  have V_175 := V_148.keep K157 (ninS ne127 nin0)
  have V_176 := V_149.keep K157 (ninS ne128 nin0)
  have VL177 := LAr_keep VL150 K157 (ninS ne129 nin0)
  have V_178 := V_151.keep K157 (ninS ne130 nin0)
  have E_179 := A122.keep K157
  have hle2 : ((e0 + e1 + e2 + 63) / 64) ≤ 2 := by omega
  show Go p e below _ (T157.setTop (mkF m 75 #[.val (.ref aP), .val (.ref aV), .val (.ref ad2), .val (.int (3 : Int32)), .unset, .unset, .unset, .unset, .unset, .unset] [(.ref ad122)]))
  refine Go.st (fun _ => XS.astoreN X157.here hx rfl (hb hby d11_75) rfl rfl (l' := #[.val (.ref aP), .val (.ref aV), .val (.ref ad2), .val (.ref ad122), .unset, .unset, .unset, .unset, .unset, .unset]) rfl) ?_
  refine Go.st (fun _ => XS.aloadN X157.here hx rfl (hb hby d11_76) rfl rfl) ?_
  obtain ⟨T180, X180, e180, st180⟩ := getF X157 hx hZ hown (host := "") (Or.inl (ww hw 68 rfl)) Via.refl rfl F168 (g := (mkF m 77 #[.val (.ref aP), .val (.ref aV), .val (.ref ad2), .val (.ref ad122), .unset, .unset, .unset, .unset, .unset, .unset] [(.ref aP)])) rfl rfl (hb hby d11_77)
  refine Go.st st180 ?_
  refine Go.st (fun _ => XS.aloadN X180.here hx rfl (hb hby d11_80) rfl rfl) ?_
  show Go p e below _ (T180.setTop (mkF m 81 #[.val (.ref aP), .val (.ref aV), .val (.ref ad2), .val (.ref ad122), .unset, .unset, .unset, .unset, .unset, .unset] [(.ref aP), (.int (0 : Int32))]))
  obtain ⟨T181, X181, e181, st181⟩ := getF X180 hx hZ hown (host := "") (Or.inl (ww hw 36 rfl)) Via.refl e180 F163 (g := (mkF m 81 #[.val (.ref aP), .val (.ref aV), .val (.ref ad2), .val (.ref ad122), .unset, .unset, .unset, .unset, .unset, .unset] [(.ref aP), (.int (0 : Int32))])) rfl rfl (hb hby d11_81)
  refine Go.st st181 ?_
  refine Go.st (fun _ => XS.iand X181.here hx rfl (hb hby d11_84) rfl) ?_
  refine Go.st (fun _ => XS.istore X181.here hx rfl (hb hby d11_85) rfl (l' := #[.val (.ref aP), .val (.ref aV), .val (.ref ad2), .val (.ref ad122), .val (.int (0 : Int32)), .unset, .unset, .unset, .unset, .unset]) rfl) ?_
  refine Go.st (fun _ => XS.iload X181.here hx rfl (hb hby d11_87) rfl) ?_
  show Go p e below _ (T181.setTop (mkF m 89 #[.val (.ref aP), .val (.ref aV), .val (.ref ad2), .val (.ref ad122), .val (.int (0 : Int32)), .unset, .unset, .unset, .unset, .unset] [(.int (0 : Int32))]))
  refine Go.st (fun _ => XS.ifYes X181.here hx rfl (pc0 := 89) (pc' := 193) rfl (hb hby d11_89) rfl ((if0 _ _).trans (flt (by decide : ¬ ((0 : Int32) < (0 : Int32)))).2.2.2) (by decide) (by decide)) ?_
  refine Go.st (fun _ => XS.aloadN X181.here hx rfl (hb hby d11_193) rfl rfl) ?_
  refine Go.st (fun _ => XS.aloadN X181.here hx rfl (hb hby d11_194) rfl rfl) ?_
  obtain ⟨T182, h182, X182, e182, W182, st182⟩ := putF X181 hx hZ hown (host := "") (Or.inl (ww hw 57 rfl)) Via.refl e181 F166 E_161 (Or.inl (ww hw 58 rfl)) (ww hw 3 rfl) (ty := (.object "com/example/traza/traza/PackedRows$Layout")) (by decide) rfl rfl (g := (mkF m 195 #[.val (.ref aP), .val (.ref aV), .val (.ref ad2), .val (.ref ad122), .val (.int (0 : Int32)), .unset, .unset, .unset, .unset, .unset] [(.ref ad122), (.ref aP)])) rfl rfl (hb hby d11_195)
  refine Go.st st182 ?_
  have O183 := O158.wr W182 gP
  have V_184 := V_159.other W182 (Ne.symm (Exa.neArv E_161 V_159 (ww hw 3 rfl)))
  have Y185 := Low_wr Y160 W182 (Nat.le_refl _)
  have E_186 := E_161.wr W182
  have F187 := F162.other W182 (Or.inr (slot_ne (Or.inr (ww hw 35 rfl)) (Or.inl (ww hw 58 rfl)) (by decide) (t := .int) (t' := (.object "com/example/traza/traza/PackedRows$Layout")) (by decide) (by decide)))
  have F188 := F163.other W182 (Or.inr (slot_ne (Or.inr (ww hw 37 rfl)) (Or.inl (ww hw 58 rfl)) (by decide) (t := .int) (t' := (.object "com/example/traza/traza/PackedRows$Layout")) (by decide) (by decide)))
  have F189 := F164.other W182 (Or.inr (slot_ne (Or.inl (ww hw 14 rfl)) (Or.inl (ww hw 58 rfl)) (by decide) (t := (.array (.array .long))) (t' := (.object "com/example/traza/traza/PackedRows$Layout")) (by decide) (by decide)))
  have F190 := F165.other W182 (Or.inr (slot_ne (Or.inl (ww hw 18 rfl)) (Or.inl (ww hw 58 rfl)) (by decide) (t := (.array (.object "com/example/traza/traza/PackedRows$Layout"))) (t' := (.object "com/example/traza/traza/PackedRows$Layout")) (by decide) (by decide)))
  have F191 := F167.other W182 (Or.inr (slot_ne (Or.inl (ww hw 62 rfl)) (Or.inl (ww hw 58 rfl)) (by decide) (t := (.array .long)) (t' := (.object "com/example/traza/traza/PackedRows$Layout")) (by decide) (by decide)))
  have F192 := F168.other W182 (Or.inr (slot_ne (Or.inl (ww hw 69 rfl)) (Or.inl (ww hw 58 rfl)) (by decide) (t := .int) (t' := (.object "com/example/traza/traza/PackedRows$Layout")) (by decide) (by decide)))
  have E_193 := E_169.wr W182
  have F194 := F170.other W182 (Or.inl (Exa.ne E_169 E_161 (by decide)))
  have F195 := F171.other W182 (Or.inl (Exa.ne E_169 E_161 (by decide)))
  have F196 := F172.other W182 (Or.inl (Exa.ne E_169 E_161 (by decide)))
  have F197 := F173.other W182 (Or.inl (Exa.ne E_169 E_161 (by decide)))
  have V_198 := V_174.other W182 (Ne.symm (Exa.neArv E_161 V_174 (ww hw 3 rfl)))
  have V_199 := V_175.other W182 (Ne.symm (Exa.neArv E_161 V_175 (ww hw 3 rfl)))
  have V_200 := V_176.other W182 (Ne.symm (Exa.neArv E_161 V_176 (ww hw 3 rfl)))
  have VL201 := LAr_other VL177 W182 (LAr_exa VL177 E_161 (ww hw 3 rfl))
  have V_202 := V_178.other W182 (Ne.symm ne4)
  have E_203 := E_179.wr W182
  have F204 := Ga157.other W182 (Or.inl (Ne.symm ne124))
  have F205 := Gb157.other W182 (Or.inl (Ne.symm ne124))
  have F206 := Gc157.other W182 (Or.inl (Ne.symm ne124))
  have F207 := Gd157.other W182 (Or.inl (Ne.symm ne124))
  have F208 : Fld Z h182 aP "com/example/traza/traza/PackedRows" "layout" "Lcom/example/traza/traza/PackedRows$Layout;" (.ref ad122) := F166.same W182
  have N182 := Fr.snoc X182 N157 gP
  show Go p e below _ (T182.setTop (mkF m 198 #[.val (.ref aP), .val (.ref aV), .val (.ref ad2), .val (.ref ad122), .val (.int (0 : Int32)), .unset, .unset, .unset, .unset, .unset] []))
  refine Go.st (fun _ => XS.aloadN X182.here hx rfl (hb hby d11_198) rfl rfl) ?_
  refine Go.st (fun _ => XS.aloadN X182.here hx rfl (hb hby d11_199) rfl rfl) ?_
  obtain ⟨T209, X209, e209, st209⟩ := getFR X182 hx hZ hown (ww hw 59 rfl) e182 F206 (g := (mkF m 200 #[.val (.ref aP), .val (.ref aV), .val (.ref ad2), .val (.ref ad122), .val (.int (0 : Int32)), .unset, .unset, .unset, .unset, .unset] [(.ref ad122), (.ref aP)])) rfl rfl (hb hby d11_200)
  refine Go.st st209 ?_
  obtain ⟨T210, h210, k210, X210, e210, E210, A210, B210, st210⟩ := newPE X209 hx hZ (ww hw 60 rfl) e209 (g := (mkF m 203 #[.val (.ref aP), .val (.ref aV), .val (.ref ad2), .val (.ref ad122), .val (.int (0 : Int32)), .unset, .unset, .unset, .unset, .unset] [(.int wd157), (.ref aP)])) rfl (hb hby d11_203) rfl (len_cap hW157.2.2.2.2.2.2.2.1 hle2).1 (cap := 2) (len_cap hW157.2.2.2.2.2.2.2.1 hle2).2 (by decide) (by decide) (by decide) (ad := "[J") rfl
  obtain ⟨ad210, g210⟩ : ∃ z, z = h182.size := ⟨_, rfl⟩
  rw [← g210] at A210 B210 st210
  refine Go.st st210 ?_
  have gn210 : n0 ≤ ad210 := oldGe O183 g210
  have ne211 : aV ≠ ad210 := Nat.ne_of_lt (Nat.lt_of_lt_of_le V_184.lt (Nat.le_of_eq g210.symm))
  have lne212 : aP < ad210 := (Nat.lt_of_lt_of_le E_186.lt (Nat.le_of_eq g210.symm))
  have ne212 : aP ≠ ad210 := Nat.ne_of_lt lne212
  have ne213 : aL ≠ ad210 := Nat.ne_of_lt (Nat.lt_of_lt_of_le E_193.lt (Nat.le_of_eq g210.symm))
  have ne214 : aw ≠ ad210 := Nat.ne_of_lt (Nat.lt_of_lt_of_le V_198.lt (Nat.le_of_eq g210.symm))
  have ne215 : aK ≠ ad210 := Nat.ne_of_lt (Nat.lt_of_lt_of_le V_199.lt (Nat.le_of_eq g210.symm))
  have ne216 : aY ≠ ad210 := Nat.ne_of_lt (Nat.lt_of_lt_of_le V_200.lt (Nat.le_of_eq g210.symm))
  have ne217 : aB ≠ ad210 := Nat.ne_of_lt (Nat.lt_of_lt_of_le (LAr_lt VL201) (Nat.le_of_eq g210.symm))
  have ne218 : ad2 ≠ ad210 := Nat.ne_of_lt (Nat.lt_of_lt_of_le V_202.lt (Nat.le_of_eq g210.symm))
  have ne219 : ad122 ≠ ad210 := Nat.ne_of_lt (Nat.lt_of_lt_of_le E_203.lt (Nat.le_of_eq g210.symm))
  have O220 := O183.ext E210
  have V_221 := V_184.ext E210
  have Y222 := Low_ext Y185 E210
  have E_223 := E_186.ext E210
  have F224 := F187.ext E210
  have F225 := F188.ext E210
  have F226 := F189.ext E210
  have F227 := F190.ext E210
  have F228 := F191.ext E210
  have F229 := F192.ext E210
  have E_230 := E_193.ext E210
  have F231 := F194.ext E210
  have F232 := F195.ext E210
  have F233 := F196.ext E210
  have F234 := F197.ext E210
  have V_235 := V_198.ext E210
  have V_236 := V_199.ext E210
  have V_237 := V_200.ext E210
  have VL238 := LAr_ext VL201 E210
  have V_239 := V_202.ext E210
  have E_240 := E_203.ext E210
  have F241 := F204.ext E210
  have F242 := F205.ext E210
  have F243 := F206.ext E210
  have F244 := F207.ext E210
  have F245 := F208.ext E210
  have VL246 : LAr Z h210 ad210 ((e0 + e1 + e2 + 63) / 64) (fun _ => (0 : Int64)) := LAr_new A210 hW157.2.2.2.2.2.2.2.1
  show Go p e below _ (T210.setTop (mkF m 205 #[.val (.ref aP), .val (.ref aV), .val (.ref ad2), .val (.ref ad122), .val (.int (0 : Int32)), .unset, .unset, .unset, .unset, .unset] [(.ref ad210), (.ref aP)]))
  obtain ⟨T247, h247, X247, e247, W247, st247⟩ := putF X210 hx hZ hown (host := "") (Or.inl (ww hw 61 rfl)) Via.refl e210 F228 E_223 (Or.inl (ww hw 62 rfl)) (ww hw 3 rfl) (ty := (.array .long)) (by decide) rfl rfl (g := (mkF m 205 #[.val (.ref aP), .val (.ref aV), .val (.ref ad2), .val (.ref ad122), .val (.int (0 : Int32)), .unset, .unset, .unset, .unset, .unset] [(.ref ad210), (.ref aP)])) rfl rfl (hb hby d11_205)
  refine Go.st st247 ?_
  have O248 := O220.wr W247 gP
  have V_249 := V_221.other W247 (Ne.symm (Exa.neArv E_223 V_221 (ww hw 3 rfl)))
  have Y250 := Low_wr Y222 W247 (Nat.le_refl _)
  have E_251 := E_223.wr W247
  have F252 := F224.other W247 (Or.inr (slot_ne (Or.inr (ww hw 35 rfl)) (Or.inl (ww hw 62 rfl)) (by decide) (t := .int) (t' := (.array .long)) (by decide) (by decide)))
  have F253 := F225.other W247 (Or.inr (slot_ne (Or.inr (ww hw 37 rfl)) (Or.inl (ww hw 62 rfl)) (by decide) (t := .int) (t' := (.array .long)) (by decide) (by decide)))
  have F254 := F226.other W247 (Or.inr (slot_ne (Or.inl (ww hw 14 rfl)) (Or.inl (ww hw 62 rfl)) (by decide) (t := (.array (.array .long))) (t' := (.array .long)) (by decide) (by decide)))
  have F255 := F227.other W247 (Or.inr (slot_ne (Or.inl (ww hw 18 rfl)) (Or.inl (ww hw 62 rfl)) (by decide) (t := (.array (.object "com/example/traza/traza/PackedRows$Layout"))) (t' := (.array .long)) (by decide) (by decide)))
  have F256 := F229.other W247 (Or.inr (slot_ne (Or.inl (ww hw 69 rfl)) (Or.inl (ww hw 62 rfl)) (by decide) (t := .int) (t' := (.array .long)) (by decide) (by decide)))
  have E_257 := E_230.wr W247
  have F258 := F231.other W247 (Or.inl (Exa.ne E_230 E_223 (by decide)))
  have F259 := F232.other W247 (Or.inl (Exa.ne E_230 E_223 (by decide)))
  have F260 := F233.other W247 (Or.inl (Exa.ne E_230 E_223 (by decide)))
  have F261 := F234.other W247 (Or.inl (Exa.ne E_230 E_223 (by decide)))
  have V_262 := V_235.other W247 (Ne.symm (Exa.neArv E_223 V_235 (ww hw 3 rfl)))
  have V_263 := V_236.other W247 (Ne.symm (Exa.neArv E_223 V_236 (ww hw 3 rfl)))
  have V_264 := V_237.other W247 (Ne.symm (Exa.neArv E_223 V_237 (ww hw 3 rfl)))
  have VL265 := LAr_other VL238 W247 (LAr_exa VL238 E_223 (ww hw 3 rfl))
  have V_266 := V_239.other W247 (Ne.symm ne4)
  have E_267 := E_240.wr W247
  have F268 := F241.other W247 (Or.inl (Ne.symm ne124))
  have F269 := F242.other W247 (Or.inl (Ne.symm ne124))
  have F270 := F243.other W247 (Or.inl (Ne.symm ne124))
  have F271 := F244.other W247 (Or.inl (Ne.symm ne124))
  have F272 := F245.other W247 (Or.inr (slot_ne (Or.inl (ww hw 58 rfl)) (Or.inl (ww hw 62 rfl)) (by decide) (t := (.object "com/example/traza/traza/PackedRows$Layout")) (t' := (.array .long)) (by decide) (by decide)))
  have VL273 := LAr_other VL246 W247 (Ne.symm ne212)
  have E_274 := B210.wr W247
  have F275 : Fld Z h247 aP "com/example/traza/traza/PackedRows" "bits" "[J" (.ref ad210) := F228.same W247
  have N247 := Fr.snoc X247 N182 gP
  show Go p e below _ (T247.setTop (mkF m 208 #[.val (.ref aP), .val (.ref aV), .val (.ref ad2), .val (.ref ad122), .val (.int (0 : Int32)), .unset, .unset, .unset, .unset, .unset] []))
  exact goRetV X247 hx hlk hret e247 (hb hby d11_208) (by decide) (by decide) ⟨rfl, N247, Y250, V_249, ad122, ad2, aK, aY, ad210, aP, k2, kK, kY, m38, m68, m98, rb157, wd157, cw157, e0, e1, e2, (fun _ => (0 : Int64)), (fun _ => (0 : Int64)), .null, .null, ⟨E_251, F252, F253, F254, F255, F272, F275, F256, E_267, F268, F269, F270, F271, V_266, V_263, V_264, r_oK, r_oY, VL273, hW157, (Nat.le_of_lt lne124), (Nat.le_of_lt lne4), r_pK, r_pY, (Nat.le_of_lt lne212), (fun v hv => by simp at hv), (fun q => absurd rfl q), (fun _ => ⟨rfl, rfl⟩)⟩, ⟨hf0, hf1, hf2⟩⟩
theorem d9_0 : decode prog_27_method_4_code 0 = .ok (.aload_n 0, 1) := by decide +kernel
theorem d9_1 : decode prog_27_method_4_code 1 = .ok (.getfield 54, 3) := by decide +kernel
theorem d9_4 : decode prog_27_method_4_code 4 = .ok (.ldc 63, 2) := by decide +kernel
theorem d9_6 : decode prog_27_method_4_code 6 = .ok (.if_icmp .ne 20, 3) := by decide +kernel
theorem d9_9 : decode prog_27_method_4_code 9 = .ok (.new 64, 3) := by decide +kernel
theorem d9_12 : decode prog_27_method_4_code 12 = .ok (.dup, 1) := by decide +kernel
theorem d9_13 : decode prog_27_method_4_code 13 = .ok (.aload_n 0, 1) := by decide +kernel
theorem d9_14 : decode prog_27_method_4_code 14 = .ok (.getfield 54, 3) := by decide +kernel
theorem d9_22 : decode prog_27_method_4_code 22 = .ok (.invokespecial 70, 3) := by decide +kernel
theorem d9_25 : decode prog_27_method_4_code 25 = .ok (.athrow, 1) := by decide +kernel
theorem d9_26 : decode prog_27_method_4_code 26 = .ok (.aload_n 0, 1) := by decide +kernel
theorem d9_27 : decode prog_27_method_4_code 27 = .ok (.getfield 44, 3) := by decide +kernel
theorem d9_30 : decode prog_27_method_4_code 30 = .ok (.aload_n 1, 1) := by decide +kernel
theorem d9_31 : decode prog_27_method_4_code 31 = .ok (.aload_n 0, 1) := by decide +kernel
theorem d9_32 : decode prog_27_method_4_code 32 = .ok (.getfield 51, 3) := by decide +kernel
theorem d9_35 : decode prog_27_method_4_code 35 = .ok (.invokevirtual 73, 3) := by decide +kernel
theorem d9_38 : decode prog_27_method_4_code 38 = .ok (.ifCond .ne 21, 3) := by decide +kernel
theorem d9_41 : decode prog_27_method_4_code 41 = .ok (.aload_n 0, 1) := by decide +kernel
theorem d9_42 : decode prog_27_method_4_code 42 = .ok (.aload_n 1, 1) := by decide +kernel
theorem d9_43 : decode prog_27_method_4_code 43 = .ok (.invokevirtual 77, 3) := by decide +kernel
theorem d9_46 : decode prog_27_method_4_code 46 = .ok (.aload_n 0, 1) := by decide +kernel
theorem d9_47 : decode prog_27_method_4_code 47 = .ok (.getfield 44, 3) := by decide +kernel
theorem d9_50 : decode prog_27_method_4_code 50 = .ok (.aload_n 1, 1) := by decide +kernel
theorem d9_51 : decode prog_27_method_4_code 51 = .ok (.aload_n 0, 1) := by decide +kernel
theorem d9_52 : decode prog_27_method_4_code 52 = .ok (.getfield 51, 3) := by decide +kernel
theorem d9_55 : decode prog_27_method_4_code 55 = .ok (.invokevirtual 73, 3) := by decide +kernel
theorem d9_58 : decode prog_27_method_4_code 58 = .ok (.pop, 1) := by decide +kernel
theorem d9_59 : decode prog_27_method_4_code 59 = .ok (.aload_n 0, 1) := by decide +kernel
theorem d9_60 : decode prog_27_method_4_code 60 = .ok (.getfield 54, 3) := by decide +kernel
theorem d9_63 : decode prog_27_method_4_code 63 = .ok (.aload_n 0, 1) := by decide +kernel
theorem d9_64 : decode prog_27_method_4_code 64 = .ok (.getfield 34, 3) := by decide +kernel
theorem d9_67 : decode prog_27_method_4_code 67 = .ok (.iushr, 1) := by decide +kernel
theorem d9_68 : decode prog_27_method_4_code 68 = .ok (.istore_n 2, 1) := by decide +kernel
theorem d9_69 : decode prog_27_method_4_code 69 = .ok (.aload_n 0, 1) := by decide +kernel
theorem d9_70 : decode prog_27_method_4_code 70 = .ok (.getfield 54, 3) := by decide +kernel
theorem d9_73 : decode prog_27_method_4_code 73 = .ok (.aload_n 0, 1) := by decide +kernel
theorem d9_74 : decode prog_27_method_4_code 74 = .ok (.getfield 38, 3) := by decide +kernel
theorem d9_77 : decode prog_27_method_4_code 77 = .ok (.iand, 1) := by decide +kernel
theorem d9_78 : decode prog_27_method_4_code 78 = .ok (.ifCond .ne 77, 3) := by decide +kernel
theorem d9_81 : decode prog_27_method_4_code 81 = .ok (.iload_n 2, 1) := by decide +kernel
theorem d9_82 : decode prog_27_method_4_code 82 = .ok (.aload_n 0, 1) := by decide +kernel
theorem d9_83 : decode prog_27_method_4_code 83 = .ok (.getfield 9, 3) := by decide +kernel
theorem d9_86 : decode prog_27_method_4_code 86 = .ok (.arraylength, 1) := by decide +kernel
theorem d9_87 : decode prog_27_method_4_code 87 = .ok (.if_icmp .ne 45, 3) := by decide +kernel
theorem d9_90 : decode prog_27_method_4_code 90 = .ok (.aload_n 0, 1) := by decide +kernel
theorem d9_91 : decode prog_27_method_4_code 91 = .ok (.aload_n 0, 1) := by decide +kernel
theorem d9_92 : decode prog_27_method_4_code 92 = .ok (.getfield 9, 3) := by decide +kernel
theorem d9_95 : decode prog_27_method_4_code 95 = .ok (.aload_n 0, 1) := by decide +kernel
theorem d9_96 : decode prog_27_method_4_code 96 = .ok (.getfield 9, 3) := by decide +kernel
theorem d9_99 : decode prog_27_method_4_code 99 = .ok (.arraylength, 1) := by decide +kernel
theorem d9_100 : decode prog_27_method_4_code 100 = .ok (.iconst 2, 1) := by decide +kernel
theorem d9_101 : decode prog_27_method_4_code 101 = .ok (.imul, 1) := by decide +kernel
theorem d9_102 : decode prog_27_method_4_code 102 = .ok (.invokestatic 81, 3) := by decide +kernel
theorem d9_105 : decode prog_27_method_4_code 105 = .ok (.checkcast 87, 3) := by decide +kernel
theorem d9_108 : decode prog_27_method_4_code 108 = .ok (.putfield 9, 3) := by decide +kernel
theorem d9_111 : decode prog_27_method_4_code 111 = .ok (.aload_n 0, 1) := by decide +kernel
theorem d9_112 : decode prog_27_method_4_code 112 = .ok (.aload_n 0, 1) := by decide +kernel
theorem d9_113 : decode prog_27_method_4_code 113 = .ok (.getfield 17, 3) := by decide +kernel
theorem d9_116 : decode prog_27_method_4_code 116 = .ok (.aload_n 0, 1) := by decide +kernel
theorem d9_117 : decode prog_27_method_4_code 117 = .ok (.getfield 17, 3) := by decide +kernel
theorem d9_120 : decode prog_27_method_4_code 120 = .ok (.arraylength, 1) := by decide +kernel
theorem d9_121 : decode prog_27_method_4_code 121 = .ok (.iconst 2, 1) := by decide +kernel
theorem d9_122 : decode prog_27_method_4_code 122 = .ok (.imul, 1) := by decide +kernel
theorem d9_123 : decode prog_27_method_4_code 123 = .ok (.invokestatic 81, 3) := by decide +kernel
theorem d9_126 : decode prog_27_method_4_code 126 = .ok (.checkcast 88, 3) := by decide +kernel
theorem d9_129 : decode prog_27_method_4_code 129 = .ok (.putfield 17, 3) := by decide +kernel
theorem d9_132 : decode prog_27_method_4_code 132 = .ok (.aload_n 0, 1) := by decide +kernel
theorem d9_133 : decode prog_27_method_4_code 133 = .ok (.getfield 9, 3) := by decide +kernel
theorem d9_136 : decode prog_27_method_4_code 136 = .ok (.iload_n 2, 1) := by decide +kernel
theorem d9_137 : decode prog_27_method_4_code 137 = .ok (.aload_n 0, 1) := by decide +kernel
theorem d9_138 : decode prog_27_method_4_code 138 = .ok (.getfield 44, 3) := by decide +kernel
theorem d9_141 : decode prog_27_method_4_code 141 = .ok (.invokevirtual 89, 3) := by decide +kernel
theorem d9_144 : decode prog_27_method_4_code 144 = .ok (.aastore, 1) := by decide +kernel
theorem d9_145 : decode prog_27_method_4_code 145 = .ok (.aload_n 0, 1) := by decide +kernel
theorem d9_146 : decode prog_27_method_4_code 146 = .ok (.getfield 17, 3) := by decide +kernel
theorem d9_149 : decode prog_27_method_4_code 149 = .ok (.iload_n 2, 1) := by decide +kernel
theorem d9_150 : decode prog_27_method_4_code 150 = .ok (.aload_n 0, 1) := by decide +kernel
theorem d9_151 : decode prog_27_method_4_code 151 = .ok (.getfield 44, 3) := by decide +kernel
theorem d9_154 : decode prog_27_method_4_code 154 = .ok (.aastore, 1) := by decide +kernel
theorem d9_155 : decode prog_27_method_4_code 155 = .ok (.aload_n 0, 1) := by decide +kernel
theorem d9_156 : decode prog_27_method_4_code 156 = .ok (.getfield 44, 3) := by decide +kernel
theorem d9_159 : decode prog_27_method_4_code 159 = .ok (.aload_n 0, 1) := by decide +kernel
theorem d9_160 : decode prog_27_method_4_code 160 = .ok (.getfield 9, 3) := by decide +kernel
theorem d9_163 : decode prog_27_method_4_code 163 = .ok (.iload_n 2, 1) := by decide +kernel
theorem d9_164 : decode prog_27_method_4_code 164 = .ok (.aaload, 1) := by decide +kernel
theorem d9_165 : decode prog_27_method_4_code 165 = .ok (.aload_n 0, 1) := by decide +kernel
theorem d9_166 : decode prog_27_method_4_code 166 = .ok (.getfield 54, 3) := by decide +kernel
theorem d9_169 : decode prog_27_method_4_code 169 = .ok (.aload_n 0, 1) := by decide +kernel
theorem d9_170 : decode prog_27_method_4_code 170 = .ok (.getfield 38, 3) := by decide +kernel
theorem d9_173 : decode prog_27_method_4_code 173 = .ok (.iand, 1) := by decide +kernel
theorem d9_174 : decode prog_27_method_4_code 174 = .ok (.aload_n 0, 1) := by decide +kernel
theorem d9_175 : decode prog_27_method_4_code 175 = .ok (.getfield 51, 3) := by decide +kernel
theorem d9_178 : decode prog_27_method_4_code 178 = .ok (.invokevirtual 93, 3) := by decide +kernel
theorem d9_181 : decode prog_27_method_4_code 181 = .ok (.aload_n 0, 1) := by decide +kernel
theorem d9_182 : decode prog_27_method_4_code 182 = .ok (.dup, 1) := by decide +kernel
theorem d9_183 : decode prog_27_method_4_code 183 = .ok (.getfield 54, 3) := by decide +kernel
theorem d9_186 : decode prog_27_method_4_code 186 = .ok (.dup_x1, 1) := by decide +kernel
theorem d9_187 : decode prog_27_method_4_code 187 = .ok (.iconst 1, 1) := by decide +kernel
theorem d9_188 : decode prog_27_method_4_code 188 = .ok (.iadd, 1) := by decide +kernel
theorem d9_189 : decode prog_27_method_4_code 189 = .ok (.putfield 54, 3) := by decide +kernel
theorem d9_192 : decode prog_27_method_4_code 192 = .ok (.ireturn, 1) := by decide +kernel
theorem pn_9 : plainName "com/example/traza/traza/PackedRows" = true := by first | (simp [plainName, overriddenIn]; done) | decide +kernel
set_option maxRecDepth 65536 in
set_option maxHeartbeats 40000000 in
theorem rm_add0 (l : Launch) (Z : State) (a0 : Array Value) (hw : ∀ d ∈ tables_1, d.before a0 Z = true) (ws : List Jvm.Cond) (aP aV : Addr) (kV : ClassId) (p0 p1 p2 : Int32) (aL : Addr) (aw : Addr) (aK : Addr) (aY : Addr) (aB : Addr) (aC : Addr) (kw : ClassId) (kK : ClassId) (kY : ClassId) (w0 : Int32) (w1 : Int32) (w2 : Int32) (rb : Int32) (wd : Int32) (cw : Int32) (b0 : Nat) (b1 : Nat) (b2 : Nat) (f : Nat → Int64) (g : Nat → Int64) (xK : Value) (xY : Value) (h0 : Heap) (n0 : Nat) (O0 : Old Z n0 h0) (HP : PR Z h0 aP (0 : Int32) [] aL aw aK aY aB aC kw kK kY w0 w1 w2 rb wd cw b0 b1 b2 f g xK xY) (gP : n0 ≤ aP) (vV : Arv Z h0 aV kV .int (3 : Int32) [(.int p0), (.int p1), (.int p2)] (.int (0 : Int32))) (hp0 : ¬ p0 < 0) (hp1 : ¬ p1 < 0) (hp2 : ¬ p2 < 0) :
    Ctr l (⟨"com/example/traza/traza/PackedRows", "add", "([I)I"⟩ : MethodName) prog_27_method_4_code 3 (some .int) ws ({ frames := 3, cells := 4, slots := 5961, locals := 56 } : Room) #[(.ref aP), (.ref aV)] Z h0 (fun v h L => v = some (.int (0 : Int32)) ∧ Fr n0 L ∧ Low aP h0 h ∧ ∃ (aL' : Addr) (aw' : Addr) (aK' : Addr) (aY' : Addr) (aB' : Addr) (aC' : Addr) (kw' : ClassId) (kK' : ClassId) (kY' : ClassId) (w0' : Int32) (w1' : Int32) (w2' : Int32) (rb' : Int32) (wd' : Int32) (cw' : Int32) (b0' : Nat) (b1' : Nat) (b2' : Nat) (f' : Nat → Int64) (g' : Nat → Int64) (xK' : Value) (xY' : Value), PR Z h aP (1 : Int32) [(p0, p1, p2)] aL' aw' aK' aY' aB' aC' kw' kK' kY' w0' w1' w2' rb' wd' cw' b0' b1' b2' f' g' xK' xY') := by
  have ef : ∀ m : MethodId, entryFrame m #[(.ref aP), (.ref aV)] 3 = mkF m 0 #[.val (.ref aP), .val (.ref aV), .unset] [] := fun m => by first | (simp [entryFrame, mkF, argsToLocals, Value.category]; done) | rfl
  refine Ctr.of (plainFor_of_name pn_9) ?_
  intro p e s m below meth c s₁ hx hZ hby hml hown0 hnm hret hlk X0 e0
  have hown : s.vm.findClass "com/example/traza/traza/PackedRows" = some m.cls := hown0
  have N0 := Fr.nil n0
  refine Go.st (fun t k => castTop (ef m) k) ?_
  obtain ⟨r_eP, r_f_chunkShift, r_f_chunkMask, r_f_chunks, r_f_layouts, r_f_layout, r_f_bits, r_f_size, r_eL, r_l_widths, r_l_rowBits, r_l_words, r_l_chunkWords, r_vw, r_vK, r_vY, r_oK, r_oY, r_vB, r_hW, r_pL, r_pw, r_pK, r_pY, r_pB, r_hF, r_full, r_none⟩ := HP
  obtain ⟨rfl, rfl⟩ := r_none rfl
  show Go p e below _ (s₁.setTop (mkF m 0 #[.val (.ref aP), .val (.ref aV), .unset] []))
  refine Go.st (fun _ => XS.aloadN X0.here hx rfl (hb hby d9_0) rfl rfl) ?_
  obtain ⟨T1, X1, e1, st1⟩ := getF X0 hx hZ hown (host := "") (Or.inl (ww hw 68 rfl)) Via.refl e0 r_f_size (g := (mkF m 1 #[.val (.ref aP), .val (.ref aV), .unset] [(.ref aP)])) rfl rfl (hb hby d9_1)
  refine Go.st st1 ?_
  refine Go.st (fun _ => X1.ldcInt hx hown (mvT hZ (ww hw 70 rfl)) (g := (mkF m 4 #[.val (.ref aP), .val (.ref aV), .unset] [(.int (0 : Int32))])) rfl (hb hby d9_4) _) ?_
  refine Go.st (fun _ => XS.icmpYes X1.here hx rfl (pc0 := 6) (pc' := 26) rfl (hb hby d9_6) rfl (feq (by decide : ¬ ((0 : Int32) = (2147483647 : Int32)))).2 (by decide) (by decide)) ?_
  show Go p e below _ (T1.setTop (mkF m 26 #[.val (.ref aP), .val (.ref aV), .unset] []))
  refine Go.st (fun _ => XS.aloadN X1.here hx rfl (hb hby d9_26) rfl rfl) ?_
  obtain ⟨T2, X2, e2, st2⟩ := getF X1 hx hZ hown (host := "") (Or.inl (ww hw 57 rfl)) Via.refl e1 r_f_layout (g := (mkF m 27 #[.val (.ref aP), .val (.ref aV), .unset] [(.ref aP)])) rfl rfl (hb hby d9_27)
  refine Go.st st2 ?_
  refine Go.st (fun _ => XS.aloadN X2.here hx rfl (hb hby d9_30) rfl rfl) ?_
  refine Go.st (fun _ => XS.aloadN X2.here hx rfl (hb hby d9_31) rfl rfl) ?_
  show Go p e below _ (T2.setTop (mkF m 32 #[.val (.ref aP), .val (.ref aV), .unset] [(.ref aP), (.ref aV), (.ref aL)]))
  obtain ⟨T3, X3, e3, st3⟩ := getF X2 hx hZ hown (host := "") (Or.inl (ww hw 61 rfl)) Via.refl e2 r_f_bits (g := (mkF m 32 #[.val (.ref aP), .val (.ref aV), .unset] [(.ref aP), (.ref aV), (.ref aL)])) rfl rfl (hb hby d9_32)
  refine Go.st st3 ?_
  refine goVirt X3 hx hZ (y := (⟨"com/example/traza/traza/PackedRows$Layout", "encode", "([I[J)Z"⟩ : MethodName)) (z := (⟨"com/example/traza/traza/PackedRows$Layout", "encode", "([I[J)Z"⟩ : MethodName)) hown (ww hw 71 rfl) (ww hw 72 rfl) (notFace_of_selects (args := #[]) (mvT hZ (ww hw 74 rfl))) (ww hw 74 rfl) (ww hw 73 rfl) (ww hw 39 rfl) (ww hw 75 rfl) (by decide) (a := aL) (argsL := [(.ref aV), (.ref aB)]) (rest := []) e3 r_eL (rm_enc l Z a0 hw [] aL aw aV aB kw kV w0 w1 w2 rb wd cw p0 p1 p2 b0 b1 b2 g h0 n0 O0 r_eL r_l_widths r_vw vV r_vB (Nat.le_trans gP r_pB) r_hW hp0 hp1 hp2) 0 (by decide) (by decide) (by decide) (by decide) (mkF m 35 #[.val (.ref aP), .val (.ref aV), .unset] [(.ref aB), (.ref aV), (.ref aL)]) rfl (by rw [hml]; rfl) (lenOf pd_5 rfl) rfl (hb hby d9_35) (Nat.le_of_eq rfl) ?_
  intro v4 T4 L4 X4 hQ4
  obtain ⟨t4, rfl, M4, K4, g4, VB4, hE4⟩ := hQ4
  have N4 := Fr.app N0 M4
  have O5 := O0.keep K4 (allS (Nat.le_trans gP r_pB) all0)
  have V_6 := vV.keep K4 (ninS (Ne.symm (LAr_arv r_vB vV (fun q => nomatch q))) nin0)
  have Y7 := Low_keep (Low_refl (P := aP) (h := h0)) K4 (allS r_pB all0)
  have E_8 := r_eP.keep K4
  have F9 := r_f_chunkShift.keep K4 (ninS (Ne.symm (LAr_exa r_vB r_eP (ww hw 3 rfl))) nin0)
  have F10 := r_f_chunkMask.keep K4 (ninS (Ne.symm (LAr_exa r_vB r_eP (ww hw 3 rfl))) nin0)
  have F11 := r_f_chunks.keep K4 (ninS (Ne.symm (LAr_exa r_vB r_eP (ww hw 3 rfl))) nin0)
  have F12 := r_f_layouts.keep K4 (ninS (Ne.symm (LAr_exa r_vB r_eP (ww hw 3 rfl))) nin0)
  have F13 := r_f_layout.keep K4 (ninS (Ne.symm (LAr_exa r_vB r_eP (ww hw 3 rfl))) nin0)
  have F14 := r_f_bits.keep K4 (ninS (Ne.symm (LAr_exa r_vB r_eP (ww hw 3 rfl))) nin0)
  have F15 := r_f_size.keep K4 (ninS (Ne.symm (LAr_exa r_vB r_eP (ww hw 3 rfl))) nin0)
  have E_16 := r_eL.keep K4
  have F17 := r_l_widths.keep K4 (ninS (Ne.symm (LAr_exa r_vB r_eL (ww hw 38 rfl))) nin0)
  have F18 := r_l_rowBits.keep K4 (ninS (Ne.symm (LAr_exa r_vB r_eL (ww hw 38 rfl))) nin0)
  have F19 := r_l_words.keep K4 (ninS (Ne.symm (LAr_exa r_vB r_eL (ww hw 38 rfl))) nin0)
  have F20 := r_l_chunkWords.keep K4 (ninS (Ne.symm (LAr_exa r_vB r_eL (ww hw 38 rfl))) nin0)
  have V_21 := r_vw.keep K4 (ninS (Ne.symm (LAr_arv r_vB r_vw (fun q => nomatch q))) nin0)
  have V_22 := r_vK.keep K4 (ninS (Ne.symm (LAr_arv r_vB r_vK (fun q => nomatch q))) nin0)
  have V_23 := r_vY.keep K4 (ninS (Ne.symm (LAr_arv r_vB r_vY (fun q => nomatch q))) nin0)
  show Go p e below _ (T4.setTop (mkF m 38 #[.val (.ref aP), .val (.ref aV), .unset] [(.int t4)]))
  by_cases hc24 : t4 = (0 : Int32)
  · refine Go.st (fun _ => XS.ifNo X4.here hx rfl (hb hby d9_38) rfl ((if0 _ _).trans (teq hc24).2)) ?_
    refine Go.st (fun _ => XS.aloadN X4.here hx rfl (hb hby d9_41) rfl rfl) ?_
    refine Go.st (fun _ => XS.aloadN X4.here hx rfl (hb hby d9_42) rfl rfl) ?_
    refine goPriv X4 hx hZ (y := (⟨"com/example/traza/traza/PackedRows", "widen", "([I)V"⟩ : MethodName)) hown (ww hw 76 rfl) (ww hw 77 rfl) (ww hw 78 rfl) (ww hw 3 rfl) (ww hw 4 rfl) (ww hw 79 rfl) (by decide) (a := aP) (argsL := [(.ref aV)]) (rest := []) rfl E_8 (rm_wid0 l Z a0 hw [] aP aV kV p0 p1 p2 aL aw aK aY aB aC kw kK kY w0 w1 w2 rb wd cw b0 b1 b2 f g4 .null .null T4.heap n0 O5 ⟨E_8, F9, F10, F11, F12, F13, F14, F15, E_16, F17, F18, F19, F20, V_21, V_22, V_23, r_oK, r_oY, VB4, r_hW, r_pL, r_pw, r_pK, r_pY, r_pB, r_hF, (fun q => absurd rfl q), (fun _ => ⟨rfl, rfl⟩)⟩ gP V_6 hp0 hp1 hp2) 0 (by decide) (by decide) (by decide) (by decide) (mkF m 43 #[.val (.ref aP), .val (.ref aV), .unset] [(.ref aV), (.ref aP)]) rfl (by rw [hml]; rfl) (lenOf pd_6 rfl) rfl (hb hby d9_43) (Nat.le_of_eq rfl) ?_
    intro v25 T25 L25 X25 hQ25
    obtain ⟨rfl, M25, ⟨ws25, K25, hws25⟩, VV25, aL_25, aw_25, aK_25, aY_25, aB_25, aC_25, kw_25, kK_25, kY_25, w0_25, w1_25, w2_25, rb_25, wd_25, cw_25, b0_25, b1_25, b2_25, f_25, g_25, xK_25, xY_25, R25, FT25⟩ := hQ25
    have N25 := Fr.app N4 M25
    have O26 := O5.keep K25 (fun x hx => Nat.le_trans gP (hws25 x hx))
    have Y27 := Low_keep Y7 K25 hws25
    have E_28 := E_8.keep K25
    have E_29 := E_16.keep K25
    obtain ⟨r_eP_25, r_f_chunkShift_25, r_f_chunkMask_25, r_f_chunks_25, r_f_layouts_25, r_f_layout_25, r_f_bits_25, r_f_size_25, r_eL_25, r_l_widths_25, r_l_rowBits_25, r_l_words_25, r_l_chunkWords_25, r_vw_25, r_vK_25, r_vY_25, r_oK_25, r_oY_25, r_vB_25, r_hW_25, r_pL_25, r_pw_25, r_pK_25, r_pY_25, r_pB_25, r_hF_25, r_full_25, r_none_25⟩ := R25
    obtain ⟨rfl, rfl⟩ := r_none_25 rfl
    show Go p e below _ (T25.setTop (mkF m 46 #[.val (.ref aP), .val (.ref aV), .unset] []))
    refine Go.st (fun _ => XS.aloadN X25.here hx rfl (hb hby d9_46) rfl rfl) ?_
    obtain ⟨T30, X30, e30, st30⟩ := getF X25 hx hZ hown (host := "") (Or.inl (ww hw 57 rfl)) Via.refl rfl r_f_layout_25 (g := (mkF m 47 #[.val (.ref aP), .val (.ref aV), .unset] [(.ref aP)])) rfl rfl (hb hby d9_47)
    refine Go.st st30 ?_
    refine Go.st (fun _ => XS.aloadN X30.here hx rfl (hb hby d9_50) rfl rfl) ?_
    refine Go.st (fun _ => XS.aloadN X30.here hx rfl (hb hby d9_51) rfl rfl) ?_
    show Go p e below _ (T30.setTop (mkF m 52 #[.val (.ref aP), .val (.ref aV), .unset] [(.ref aP), (.ref aV), (.ref aL_25)]))
    obtain ⟨T31, X31, e31, st31⟩ := getF X30 hx hZ hown (host := "") (Or.inl (ww hw 61 rfl)) Via.refl e30 r_f_bits_25 (g := (mkF m 52 #[.val (.ref aP), .val (.ref aV), .unset] [(.ref aP), (.ref aV), (.ref aL_25)])) rfl rfl (hb hby d9_52)
    refine Go.st st31 ?_
    refine goVirt X31 hx hZ (y := (⟨"com/example/traza/traza/PackedRows$Layout", "encode", "([I[J)Z"⟩ : MethodName)) (z := (⟨"com/example/traza/traza/PackedRows$Layout", "encode", "([I[J)Z"⟩ : MethodName)) hown (ww hw 71 rfl) (ww hw 72 rfl) (notFace_of_selects (args := #[]) (mvT hZ (ww hw 74 rfl))) (ww hw 74 rfl) (ww hw 73 rfl) (ww hw 39 rfl) (ww hw 75 rfl) (by decide) (a := aL_25) (argsL := [(.ref aV), (.ref aB_25)]) (rest := []) e31 r_eL_25 (rm_enc l Z a0 hw [] aL_25 aw_25 aV aB_25 kw_25 kV w0_25 w1_25 w2_25 rb_25 wd_25 cw_25 p0 p1 p2 b0_25 b1_25 b2_25 g_25 T25.heap n0 O26 r_eL_25 r_l_widths_25 r_vw_25 VV25 r_vB_25 (Nat.le_trans gP r_pB_25) r_hW_25 hp0 hp1 hp2) 0 (by decide) (by decide) (by decide) (by decide) (mkF m 55 #[.val (.ref aP), .val (.ref aV), .unset] [(.ref aB_25), (.ref aV), (.ref aL_25)]) rfl (by rw [hml]; rfl) (lenOf pd_5 rfl) rfl (hb hby d9_55) (Nat.le_of_eq rfl) ?_
    intro v32 T32 L32 X32 hQ32
    obtain ⟨t32, rfl, M32, K32, g32, VB32, hE32⟩ := hQ32
    have N32 := Fr.app N25 M32
    have O33 := O26.keep K32 (allS (Nat.le_trans gP r_pB_25) all0)
    have Y34 := Low_keep Y27 K32 (allS r_pB_25 all0)
    have V_35 := VV25.keep K32 (ninS (Ne.symm (LAr_arv r_vB_25 VV25 (fun q => nomatch q))) nin0)
    have E_36 := r_eP_25.keep K32
    have F37 := r_f_chunkShift_25.keep K32 (ninS (Ne.symm (LAr_exa r_vB_25 r_eP_25 (ww hw 3 rfl))) nin0)
    have F38 := r_f_chunkMask_25.keep K32 (ninS (Ne.symm (LAr_exa r_vB_25 r_eP_25 (ww hw 3 rfl))) nin0)
    have F39 := r_f_chunks_25.keep K32 (ninS (Ne.symm (LAr_exa r_vB_25 r_eP_25 (ww hw 3 rfl))) nin0)
    have F40 := r_f_layouts_25.keep K32 (ninS (Ne.symm (LAr_exa r_vB_25 r_eP_25 (ww hw 3 rfl))) nin0)
    have F41 := r_f_layout_25.keep K32 (ninS (Ne.symm (LAr_exa r_vB_25 r_eP_25 (ww hw 3 rfl))) nin0)
    have F42 := r_f_bits_25.keep K32 (ninS (Ne.symm (LAr_exa r_vB_25 r_eP_25 (ww hw 3 rfl))) nin0)
    have F43 := r_f_size_25.keep K32 (ninS (Ne.symm (LAr_exa r_vB_25 r_eP_25 (ww hw 3 rfl))) nin0)
    have E_44 := r_eL_25.keep K32
    have F45 := r_l_widths_25.keep K32 (ninS (Ne.symm (LAr_exa r_vB_25 r_eL_25 (ww hw 38 rfl))) nin0)
    have F46 := r_l_rowBits_25.keep K32 (ninS (Ne.symm (LAr_exa r_vB_25 r_eL_25 (ww hw 38 rfl))) nin0)
    have F47 := r_l_words_25.keep K32 (ninS (Ne.symm (LAr_exa r_vB_25 r_eL_25 (ww hw 38 rfl))) nin0)
    have F48 := r_l_chunkWords_25.keep K32 (ninS (Ne.symm (LAr_exa r_vB_25 r_eL_25 (ww hw 38 rfl))) nin0)
    have V_49 := r_vw_25.keep K32 (ninS (Ne.symm (LAr_arv r_vB_25 r_vw_25 (fun q => nomatch q))) nin0)
    have V_50 := r_vK_25.keep K32 (ninS (Ne.symm (LAr_arv r_vB_25 r_vK_25 (fun q => nomatch q))) nin0)
    have V_51 := r_vY_25.keep K32 (ninS (Ne.symm (LAr_arv r_vB_25 r_vY_25 (fun q => nomatch q))) nin0)
    have he32 := (hE32.resolve_left (fun q => q.2 FT25)).2
    show Go p e below _ (T32.setTop (mkF m 58 #[.val (.ref aP), .val (.ref aV), .unset] [(.int t32)]))
    refine Go.st (fun _ => XS.pop X32.here hx rfl (hb hby d9_58) rfl rfl) ?_
    refine Go.st (fun _ => XS.aloadN X32.here hx rfl (hb hby d9_59) rfl rfl) ?_
    obtain ⟨T52, X52, e52, st52⟩ := getF X32 hx hZ hown (host := "") (Or.inl (ww hw 68 rfl)) Via.refl rfl F43 (g := (mkF m 60 #[.val (.ref aP), .val (.ref aV), .unset] [(.ref aP)])) rfl rfl (hb hby d9_60)
    refine Go.st st52 ?_
    refine Go.st (fun _ => XS.aloadN X52.here hx rfl (hb hby d9_63) rfl rfl) ?_
    show Go p e below _ (T52.setTop (mkF m 64 #[.val (.ref aP), .val (.ref aV), .unset] [(.ref aP), (.int (0 : Int32))]))
    obtain ⟨T53, X53, e53, st53⟩ := getF X52 hx hZ hown (host := "") (Or.inl (ww hw 34 rfl)) Via.refl e52 F37 (g := (mkF m 64 #[.val (.ref aP), .val (.ref aV), .unset] [(.ref aP), (.int (0 : Int32))])) rfl rfl (hb hby d9_64)
    refine Go.st st53 ?_
    show Go p e below _ (T53.setTop (mkF m 67 #[.val (.ref aP), .val (.ref aV), .unset] [(.int (12 : Int32)), (.int (0 : Int32))]))
    refine Go.st (fun _ => XS.iushr X53.here hx rfl (hb hby d9_67) rfl) ?_
    rw [show (((0 : Int32).toUInt32 >>> ((12 : Int32) &&& 31).toUInt32).toInt32) = (0 : Int32) from by decide]
    show Go p e below _ (T53.setTop (mkF m 68 #[.val (.ref aP), .val (.ref aV), .unset] [(.int (0 : Int32))]))
    refine Go.st (fun _ => XS.istoreN X53.here hx rfl (hb hby d9_68) rfl (l' := #[.val (.ref aP), .val (.ref aV), .val (.int (0 : Int32))]) rfl) ?_
    refine Go.st (fun _ => XS.aloadN X53.here hx rfl (hb hby d9_69) rfl rfl) ?_
    obtain ⟨T54, X54, e54, st54⟩ := getF X53 hx hZ hown (host := "") (Or.inl (ww hw 68 rfl)) Via.refl e53 F43 (g := (mkF m 70 #[.val (.ref aP), .val (.ref aV), .val (.int (0 : Int32))] [(.ref aP)])) rfl rfl (hb hby d9_70)
    refine Go.st st54 ?_
    refine Go.st (fun _ => XS.aloadN X54.here hx rfl (hb hby d9_73) rfl rfl) ?_
    show Go p e below _ (T54.setTop (mkF m 74 #[.val (.ref aP), .val (.ref aV), .val (.int (0 : Int32))] [(.ref aP), (.int (0 : Int32))]))
    obtain ⟨T55, X55, e55, st55⟩ := getF X54 hx hZ hown (host := "") (Or.inl (ww hw 36 rfl)) Via.refl e54 F38 (g := (mkF m 74 #[.val (.ref aP), .val (.ref aV), .val (.int (0 : Int32))] [(.ref aP), (.int (0 : Int32))])) rfl rfl (hb hby d9_74)
    refine Go.st st55 ?_
    refine Go.st (fun _ => XS.iand X55.here hx rfl (hb hby d9_77) rfl) ?_
    refine Go.st (fun _ => XS.ifNo X55.here hx rfl (hb hby d9_78) rfl ((if0 _ _).trans (teq (by decide : (0 : Int32) = (0 : Int32))).2)) ?_
    refine Go.st (fun _ => XS.iloadN X55.here hx rfl (hb hby d9_81) rfl) ?_
    show Go p e below _ (T55.setTop (mkF m 82 #[.val (.ref aP), .val (.ref aV), .val (.int (0 : Int32))] [(.int (0 : Int32))]))
    refine Go.st (fun _ => XS.aloadN X55.here hx rfl (hb hby d9_82) rfl rfl) ?_
    obtain ⟨T56, X56, e56, st56⟩ := getF X55 hx hZ hown (host := "") (Or.inl (ww hw 13 rfl)) Via.refl e55 F39 (g := (mkF m 83 #[.val (.ref aP), .val (.ref aV), .val (.int (0 : Int32))] [(.ref aP), (.int (0 : Int32))])) rfl rfl (hb hby d9_83)
    refine Go.st st56 ?_
    show Go p e below _ (T56.setTop (mkF m 86 #[.val (.ref aP), .val (.ref aV), .val (.int (0 : Int32))] [(.ref aK_25), (.int (0 : Int32))]))
    obtain ⟨cl57, Ar57, qk57, Sz57, Nn57, Ha57, Ga57⟩ := id V_50
    refine Go.st (fun _ => X56.arraylength hx (by rw [e56]; exact Ar57.1) (State.isArrayOf_alike hZ.alike Ar57.2.1) (g := (mkF m 86 #[.val (.ref aP), .val (.ref aV), .val (.int (0 : Int32))] [(.ref aK_25), (.int (0 : Int32))])) rfl rfl (hb hby d9_86) _) ?_
    rw [len_of Sz57 Nn57]
    show Go p e below _ (T56.setTop (mkF m 87 #[.val (.ref aP), .val (.ref aV), .val (.int (0 : Int32))] [(.int (1 : Int32)), (.int (0 : Int32))]))
    refine Go.st (fun _ => XS.icmpYes X56.here hx rfl (pc0 := 87) (pc' := 132) rfl (hb hby d9_87) rfl (feq (by decide : ¬ ((0 : Int32) = (1 : Int32)))).2 (by decide) (by decide)) ?_
    refine Go.st (fun _ => XS.aloadN X56.here hx rfl (hb hby d9_132) rfl rfl) ?_
    obtain ⟨T58, X58, e58, st58⟩ := getF X56 hx hZ hown (host := "") (Or.inl (ww hw 13 rfl)) Via.refl e56 F39 (g := (mkF m 133 #[.val (.ref aP), .val (.ref aV), .val (.int (0 : Int32))] [(.ref aP)])) rfl rfl (hb hby d9_133)
    refine Go.st st58 ?_
    refine Go.st (fun _ => XS.iloadN X58.here hx rfl (hb hby d9_136) rfl) ?_
    show Go p e below _ (T58.setTop (mkF m 137 #[.val (.ref aP), .val (.ref aV), .val (.int (0 : Int32))] [(.int (0 : Int32)), (.ref aK_25)]))
    refine Go.st (fun _ => XS.aloadN X58.here hx rfl (hb hby d9_137) rfl rfl) ?_
    obtain ⟨T59, X59, e59, st59⟩ := getF X58 hx hZ hown (host := "") (Or.inl (ww hw 57 rfl)) Via.refl e58 F41 (g := (mkF m 138 #[.val (.ref aP), .val (.ref aV), .val (.int (0 : Int32))] [(.ref aP), (.int (0 : Int32)), (.ref aK_25)])) rfl rfl (hb hby d9_138)
    refine Go.st st59 ?_
    refine goVirt X59 hx hZ (y := (⟨"com/example/traza/traza/PackedRows$Layout", "newChunk", "()[J"⟩ : MethodName)) (z := (⟨"com/example/traza/traza/PackedRows$Layout", "newChunk", "()[J"⟩ : MethodName)) hown (ww hw 81 rfl) (ww hw 82 rfl) (notFace_of_selects (args := #[]) (mvT hZ (ww hw 84 rfl))) (ww hw 84 rfl) (ww hw 83 rfl) (ww hw 39 rfl) (ww hw 85 rfl) (by decide) (a := aL_25) (argsL := []) (rest := [(.int (0 : Int32)), (.ref aK_25)]) e59 E_44 (rm_nc l Z a0 hw [] aL_25 w0_25 w1_25 w2_25 rb_25 wd_25 cw_25 b0_25 b1_25 b2_25 T32.heap n0 O33 F48 r_hW_25) 2 (by decide) (by decide) (by decide) (by decide) (mkF m 141 #[.val (.ref aP), .val (.ref aV), .val (.int (0 : Int32))] [(.ref aL_25), (.int (0 : Int32)), (.ref aK_25)]) rfl (by rw [hml]; rfl) (lenOf pd_7 rfl) rfl (hb hby d9_141) (Nat.le_of_eq rfl) ?_
    intro v60 T60 L60 X60 hQ60
    obtain ⟨c60, rfl, M60, K60, sz60, EC60, VC60⟩ := hQ60
    have N60 := Fr.app N32 M60
    have O61 := O33.keep K60 all0
    have Y62 := Low_keep Y34 K60 all0
    have V_63 := V_35.keep K60 nin0
    have E_64 := E_36.keep K60
    have F65 := F37.keep K60 nin0
    have F66 := F38.keep K60 nin0
    have F67 := F39.keep K60 nin0
    have F68 := F40.keep K60 nin0
    have F69 := F41.keep K60 nin0
    have F70 := F42.keep K60 nin0
    have F71 := F43.keep K60 nin0
    have E_72 := E_44.keep K60
    have F73 := F45.keep K60 nin0
    have F74 := F46.keep K60 nin0
    have F75 := F47.keep K60 nin0
    have F76 := F48.keep K60 nin0
    have V_77 := V_49.keep K60 nin0
    have V_78 := V_50.keep K60 nin0
    have V_79 := V_51.keep K60 nin0
    have VL80 := LAr_keep VB32 K60 nin0
    have ne81 : aV ≠ c60 := Nat.ne_of_lt (Nat.lt_of_lt_of_le V_35.lt sz60)
    have ne82 : aP ≠ c60 := Nat.ne_of_lt (Nat.lt_of_lt_of_le E_36.lt sz60)
    have ne83 : aL_25 ≠ c60 := Nat.ne_of_lt (Nat.lt_of_lt_of_le E_44.lt sz60)
    have ne84 : aw_25 ≠ c60 := Nat.ne_of_lt (Nat.lt_of_lt_of_le V_49.lt sz60)
    have ne85 : aK_25 ≠ c60 := Nat.ne_of_lt (Nat.lt_of_lt_of_le V_50.lt sz60)
    have ne86 : aY_25 ≠ c60 := Nat.ne_of_lt (Nat.lt_of_lt_of_le V_51.lt sz60)
    have ne87 : aB_25 ≠ c60 := Nat.ne_of_lt (Nat.lt_of_lt_of_le (LAr_lt VB32) sz60)
    have pc60 : aP ≤ c60 := Nat.le_trans (Nat.le_of_lt E_36.lt) sz60
    show Go p e below _ (T60.setTop (mkF m 144 #[.val (.ref aP), .val (.ref aV), .val (.int (0 : Int32))] [(.ref c60), (.int (0 : Int32)), (.ref aK_25)]))
    obtain ⟨cl88, Ar88, qk88, Sz88, Nn88, Ha88, Ga88⟩ := id V_78
    have hin88 : ¬ ((0 : Int32) < 0 ∨ cl88.slots.size ≤ ((0 : Int32) : Int32).toNatClampNeg) := inb_of Sz88 ⟨by decide, by decide⟩
    obtain ⟨T88, h88, X88, e88, W88, st88⟩ := stR X60 hx hZ rfl Ar88 (j := (0 : Int32)) hin88 rfl (Sto.ofVA Ar88 qk88 r_oK_25 (Ins.self EC60)) (g := (mkF m 144 #[.val (.ref aP), .val (.ref aV), .val (.int (0 : Int32))] [(.ref c60), (.int (0 : Int32)), (.ref aK_25)])) rfl rfl (hb hby d9_144)
    refine Go.st st88 ?_
    have O89 := O61.wr W88 (Nat.le_trans gP r_pK_25)
    have Y90 := Low_wr Y62 W88 r_pK_25
    have V_91 := V_63.other W88 (arv_arv V_63 V_78 (fun q => nomatch q))
    have E_92 := E_64.wr W88
    have F93 := F65.other W88 (Or.inl (Exa.neArv E_64 V_78 (ww hw 3 rfl)))
    have F94 := F66.other W88 (Or.inl (Exa.neArv E_64 V_78 (ww hw 3 rfl)))
    have F95 := F67.other W88 (Or.inl (Exa.neArv E_64 V_78 (ww hw 3 rfl)))
    have F96 := F68.other W88 (Or.inl (Exa.neArv E_64 V_78 (ww hw 3 rfl)))
    have F97 := F69.other W88 (Or.inl (Exa.neArv E_64 V_78 (ww hw 3 rfl)))
    have F98 := F70.other W88 (Or.inl (Exa.neArv E_64 V_78 (ww hw 3 rfl)))
    have F99 := F71.other W88 (Or.inl (Exa.neArv E_64 V_78 (ww hw 3 rfl)))
    have E_100 := E_72.wr W88
    have F101 := F73.other W88 (Or.inl (Exa.neArv E_72 V_78 (ww hw 38 rfl)))
    have F102 := F74.other W88 (Or.inl (Exa.neArv E_72 V_78 (ww hw 38 rfl)))
    have F103 := F75.other W88 (Or.inl (Exa.neArv E_72 V_78 (ww hw 38 rfl)))
    have F104 := F76.other W88 (Or.inl (Exa.neArv E_72 V_78 (ww hw 38 rfl)))
    have V_105 := V_77.other W88 (arv_arv V_77 V_78 (fun q => nomatch q))
    have V_106 := V_79.other W88 (arv_arv V_79 V_78 (fun q => nomatch q))
    have VL107 := LAr_other VL80 W88 (LAr_arv VL80 V_78 (fun q => nomatch q))
    have E_108 := EC60.wr W88
    have VL109 := LAr_other VC60 W88 (Ne.symm ne85)
    have V_110 : Arv Z h88 aK_25 kK_25 (.array .long) (1 : Int32) [(.ref c60)] .null := Arv.set Ar88 qk88 Sz88 Nn88 Ha88 Ga88 rfl W88 0 rfl (Nat.le_of_ble_eq_true rfl)
    have N88 := Fr.snoc X88 N60 (Nat.le_trans gP r_pK_25)
    refine Go.st (fun _ => XS.aloadN X88.here hx rfl (hb hby d9_145) rfl rfl) ?_
    obtain ⟨T111, X111, e111, st111⟩ := getF X88 hx hZ hown (host := "") (Or.inl (ww hw 17 rfl)) Via.refl e88 F96 (g := (mkF m 146 #[.val (.ref aP), .val (.ref aV), .val (.int (0 : Int32))] [(.ref aP)])) rfl rfl (hb hby d9_146)
    refine Go.st st111 ?_
    refine Go.st (fun _ => XS.iloadN X111.here hx rfl (hb hby d9_149) rfl) ?_
    show Go p e below _ (T111.setTop (mkF m 150 #[.val (.ref aP), .val (.ref aV), .val (.int (0 : Int32))] [(.int (0 : Int32)), (.ref aY_25)]))
    refine Go.st (fun _ => XS.aloadN X111.here hx rfl (hb hby d9_150) rfl rfl) ?_
    obtain ⟨T112, X112, e112, st112⟩ := getF X111 hx hZ hown (host := "") (Or.inl (ww hw 57 rfl)) Via.refl e111 F97 (g := (mkF m 151 #[.val (.ref aP), .val (.ref aV), .val (.int (0 : Int32))] [(.ref aP), (.int (0 : Int32)), (.ref aY_25)])) rfl rfl (hb hby d9_151)
    refine Go.st st112 ?_
    obtain ⟨cl113, Ar113, qk113, Sz113, Nn113, Ha113, Ga113⟩ := id V_106
    have hin113 : ¬ ((0 : Int32) < 0 ∨ cl113.slots.size ≤ ((0 : Int32) : Int32).toNatClampNeg) := inb_of Sz113 ⟨by decide, by decide⟩
    obtain ⟨T113, h113, X113, e113, W113, st113⟩ := stR X112 hx hZ e112 Ar113 (j := (0 : Int32)) hin113 rfl (Sto.ofV Ar113 qk113 r_oY_25 (Ins.self E_100)) (g := (mkF m 154 #[.val (.ref aP), .val (.ref aV), .val (.int (0 : Int32))] [(.ref aL_25), (.int (0 : Int32)), (.ref aY_25)])) rfl rfl (hb hby d9_154)
    refine Go.st st113 ?_
    have O114 := O89.wr W113 (Nat.le_trans gP r_pY_25)
    have Y115 := Low_wr Y90 W113 r_pY_25
    have V_116 := V_91.other W113 (arv_arv V_91 V_106 (fun q => nomatch q))
    have E_117 := E_92.wr W113
    have F118 := F93.other W113 (Or.inl (Exa.neArv E_92 V_106 (ww hw 3 rfl)))
    have F119 := F94.other W113 (Or.inl (Exa.neArv E_92 V_106 (ww hw 3 rfl)))
    have F120 := F95.other W113 (Or.inl (Exa.neArv E_92 V_106 (ww hw 3 rfl)))
    have F121 := F96.other W113 (Or.inl (Exa.neArv E_92 V_106 (ww hw 3 rfl)))
    have F122 := F97.other W113 (Or.inl (Exa.neArv E_92 V_106 (ww hw 3 rfl)))
    have F123 := F98.other W113 (Or.inl (Exa.neArv E_92 V_106 (ww hw 3 rfl)))
    have F124 := F99.other W113 (Or.inl (Exa.neArv E_92 V_106 (ww hw 3 rfl)))
    have E_125 := E_100.wr W113
    have F126 := F101.other W113 (Or.inl (Exa.neArv E_100 V_106 (ww hw 38 rfl)))
    have F127 := F102.other W113 (Or.inl (Exa.neArv E_100 V_106 (ww hw 38 rfl)))
    have F128 := F103.other W113 (Or.inl (Exa.neArv E_100 V_106 (ww hw 38 rfl)))
    have F129 := F104.other W113 (Or.inl (Exa.neArv E_100 V_106 (ww hw 38 rfl)))
    have V_130 := V_105.other W113 (arv_arv V_105 V_106 (fun q => nomatch q))
    have VL131 := LAr_other VL107 W113 (LAr_arv VL107 V_106 (fun q => nomatch q))
    have E_132 := E_108.wr W113
    have VL133 := LAr_other VL109 W113 (Ne.symm ne86)
    have V_134 := V_110.other W113 (arv_arv V_110 V_106 (fun q => nomatch q))
    have V_135 : Arv Z h113 aY_25 kY_25 (.object "com/example/traza/traza/PackedRows$Layout") (1 : Int32) [(.ref aL_25)] .null := Arv.set Ar113 qk113 Sz113 Nn113 Ha113 Ga113 rfl W113 0 rfl (Nat.le_of_ble_eq_true rfl)
    have N113 := Fr.snoc X113 N88 (Nat.le_trans gP r_pY_25)
    refine Go.st (fun _ => XS.aloadN X113.here hx rfl (hb hby d9_155) rfl rfl) ?_
    show Go p e below _ (T113.setTop (mkF m 156 #[.val (.ref aP), .val (.ref aV), .val (.int (0 : Int32))] [(.ref aP)]))
    obtain ⟨T136, X136, e136, st136⟩ := getF X113 hx hZ hown (host := "") (Or.inl (ww hw 57 rfl)) Via.refl e113 F122 (g := (mkF m 156 #[.val (.ref aP), .val (.ref aV), .val (.int (0 : Int32))] [(.ref aP)])) rfl rfl (hb hby d9_156)
    refine Go.st st136 ?_
    refine Go.st (fun _ => XS.aloadN X136.here hx rfl (hb hby d9_159) rfl rfl) ?_
    obtain ⟨T137, X137, e137, st137⟩ := getF X136 hx hZ hown (host := "") (Or.inl (ww hw 13 rfl)) Via.refl e136 F120 (g := (mkF m 160 #[.val (.ref aP), .val (.ref aV), .val (.int (0 : Int32))] [(.ref aP), (.ref aL_25)])) rfl rfl (hb hby d9_160)
    refine Go.st st137 ?_
    refine Go.st (fun _ => XS.iloadN X137.here hx rfl (hb hby d9_163) rfl) ?_
    show Go p e below _ (T137.setTop (mkF m 164 #[.val (.ref aP), .val (.ref aV), .val (.int (0 : Int32))] [(.int (0 : Int32)), (.ref aK_25), (.ref aL_25)]))
    obtain ⟨cl138, Ar138, qk138, Sz138, Nn138, Ha138, Ga138⟩ := id V_134
    have hin138 : ¬ ((0 : Int32) < 0 ∨ cl138.slots.size ≤ ((0 : Int32) : Int32).toNatClampNeg) := inb_of Sz138 ⟨by decide, by decide⟩
    refine Go.st (fun _ => X137.aaload hx (j := (0 : Int32)) (v := (.ref c60)) (by rw [e137]; exact Ar138.1) (State.isArrayOf_alike hZ.alike Ar138.2.1) rfl Ar138.2.2 hin138 (Has.at Ha138 hin138 rfl) (g := (mkF m 164 #[.val (.ref aP), .val (.ref aV), .val (.int (0 : Int32))] [(.int (0 : Int32)), (.ref aK_25), (.ref aL_25)])) rfl rfl (hb hby d9_164) _) ?_
    refine Go.st (fun _ => XS.aloadN X137.here hx rfl (hb hby d9_165) rfl rfl) ?_
    obtain ⟨T139, X139, e139, st139⟩ := getF X137 hx hZ hown (host := "") (Or.inl (ww hw 68 rfl)) Via.refl e137 F124 (g := (mkF m 166 #[.val (.ref aP), .val (.ref aV), .val (.int (0 : Int32))] [(.ref aP), (.ref c60), (.ref aL_25)])) rfl rfl (hb hby d9_166)
    refine Go.st st139 ?_
    refine Go.st (fun _ => XS.aloadN X139.here hx rfl (hb hby d9_169) rfl rfl) ?_
    show Go p e below _ (T139.setTop (mkF m 170 #[.val (.ref aP), .val (.ref aV), .val (.int (0 : Int32))] [(.ref aP), (.int (0 : Int32)), (.ref c60), (.ref aL_25)]))
    obtain ⟨T140, X140, e140, st140⟩ := getF X139 hx hZ hown (host := "") (Or.inl (ww hw 36 rfl)) Via.refl e139 F119 (g := (mkF m 170 #[.val (.ref aP), .val (.ref aV), .val (.int (0 : Int32))] [(.ref aP), (.int (0 : Int32)), (.ref c60), (.ref aL_25)])) rfl rfl (hb hby d9_170)
    refine Go.st st140 ?_
    refine Go.st (fun _ => XS.iand X140.here hx rfl (hb hby d9_173) rfl) ?_
    refine Go.st (fun _ => XS.aloadN X140.here hx rfl (hb hby d9_174) rfl rfl) ?_
    obtain ⟨T141, X141, e141, st141⟩ := getF X140 hx hZ hown (host := "") (Or.inl (ww hw 61 rfl)) Via.refl e140 F123 (g := (mkF m 175 #[.val (.ref aP), .val (.ref aV), .val (.int (0 : Int32))] [(.ref aP), (.int (0 : Int32)), (.ref c60), (.ref aL_25)])) rfl rfl (hb hby d9_175)
    refine Go.st st141 ?_
    show Go p e below _ (T141.setTop (mkF m 178 #[.val (.ref aP), .val (.ref aV), .val (.int (0 : Int32))] [(.ref aB_25), (.int (0 : Int32)), (.ref c60), (.ref aL_25)]))
    refine goVirt X141 hx hZ (y := (⟨"com/example/traza/traza/PackedRows$Layout", "put", "([JI[J)V"⟩ : MethodName)) (z := (⟨"com/example/traza/traza/PackedRows$Layout", "put", "([JI[J)V"⟩ : MethodName)) hown (ww hw 88 rfl) (ww hw 89 rfl) (notFace_of_selects (args := #[]) (mvT hZ (ww hw 91 rfl))) (ww hw 91 rfl) (ww hw 90 rfl) (ww hw 39 rfl) (ww hw 92 rfl) (by decide) (a := aL_25) (argsL := [(.ref c60), (.int (0 : Int32)), (.ref aB_25)]) (rest := []) e141 E_125 (rm_put l Z a0 hw [] aL_25 c60 aB_25 (0 : Int32) 0 w0_25 w1_25 w2_25 rb_25 wd_25 cw_25 b0_25 b1_25 b2_25 (fun _ => (0 : Int64)) g32 h113 n0 O114 E_125 F127 F128 VL133 VL131 (Ne.symm ne87) (Nat.le_trans gP pc60) r_hW_25 rfl (by decide) (enc_clear he32.2)) 0 (by decide) (by decide) (by decide) (by decide) (mkF m 178 #[.val (.ref aP), .val (.ref aV), .val (.int (0 : Int32))] [(.ref aB_25), (.int (0 : Int32)), (.ref c60), (.ref aL_25)]) rfl (by rw [hml]; rfl) (lenOf pd_8 rfl) rfl (hb hby d9_178) (Nat.le_of_eq rfl) ?_
    intro v142 T142 L142 X142 hQ142
    obtain ⟨rfl, M142, K142, f142, VC142, hP142⟩ := hQ142
    have N142 := Fr.app N113 M142
    have O143 := O114.keep K142 (allS (Nat.le_trans gP pc60) all0)
    have Y144 := Low_keep Y115 K142 (allS pc60 all0)
    have V_145 := V_116.keep K142 (ninS ne81 nin0)
    have E_146 := E_117.keep K142
    have F147 := F118.keep K142 (ninS ne82 nin0)
    have F148 := F119.keep K142 (ninS ne82 nin0)
    have F149 := F120.keep K142 (ninS ne82 nin0)
    have F150 := F121.keep K142 (ninS ne82 nin0)
    have F151 := F122.keep K142 (ninS ne82 nin0)
    have F152 := F123.keep K142 (ninS ne82 nin0)
    have F153 := F124.keep K142 (ninS ne82 nin0)
    have E_154 := E_125.keep K142
    have F155 := F126.keep K142 (ninS ne83 nin0)
    have F156 := F127.keep K142 (ninS ne83 nin0)
    have F157 := F128.keep K142 (ninS ne83 nin0)
    have F158 := F129.keep K142 (ninS ne83 nin0)
    have V_159 := V_130.keep K142 (ninS ne84 nin0)
    have VL160 := LAr_keep VL131 K142 (ninS ne87 nin0)
    have E_161 := E_132.keep K142
    have V_162 := V_134.keep K142 (ninS ne85 nin0)
    have V_163 := V_135.keep K142 (ninS ne86 nin0)
    have hR164 := put_rows (rows := []) (r := 0) rfl rows_none he32.2 hP142
    show Go p e below _ (T142.setTop (mkF m 181 #[.val (.ref aP), .val (.ref aV), .val (.int (0 : Int32))] []))
    refine Go.st (fun _ => XS.aloadN X142.here hx rfl (hb hby d9_181) rfl rfl) ?_
    refine Go.st (fun _ => XS.dup X142.here hx rfl (hb hby d9_182) rfl rfl) ?_
    obtain ⟨T165, X165, e165, st165⟩ := getF X142 hx hZ hown (host := "") (Or.inl (ww hw 68 rfl)) Via.refl rfl F153 (g := (mkF m 183 #[.val (.ref aP), .val (.ref aV), .val (.int (0 : Int32))] [(.ref aP), (.ref aP)])) rfl rfl (hb hby d9_183)
    refine Go.st st165 ?_
    refine Go.st (fun _ => XS.dupX1 X165.here hx rfl (hb hby d9_186) rfl rfl rfl) ?_
    show Go p e below _ (T165.setTop (mkF m 187 #[.val (.ref aP), .val (.ref aV), .val (.int (0 : Int32))] [(.int (0 : Int32)), (.ref aP), (.int (0 : Int32))]))
    refine Go.st (fun _ => XS.iconst X165.here hx rfl (hb hby d9_187)) ?_
    refine Go.st (fun _ => XS.iadd X165.here hx rfl (hb hby d9_188) rfl) ?_
    obtain ⟨T166, h166, X166, e166, W166, st166⟩ := putF X165 hx hZ hown (host := "") (Or.inl (ww hw 68 rfl)) Via.refl e165 F153 E_146 (Or.inl (ww hw 69 rfl)) (ww hw 3 rfl) (ty := .int) (by decide) rfl rfl (g := (mkF m 189 #[.val (.ref aP), .val (.ref aV), .val (.int (0 : Int32))] [(.int (1 : Int32)), (.ref aP), (.int (0 : Int32))])) rfl rfl (hb hby d9_189)
    refine Go.st st166 ?_
    have O167 := O143.wr W166 gP
    have Y168 := Low_wr Y144 W166 (Nat.le_refl _)
    have V_169 := V_145.other W166 (Ne.symm (Exa.neArv E_146 V_145 (ww hw 3 rfl)))
    have E_170 := E_146.wr W166
    have F171 := F147.other W166 (Or.inr (slot_ne (Or.inr (ww hw 35 rfl)) (Or.inl (ww hw 69 rfl)) (by decide) (t := .int) (t' := .int) (by decide) (by decide)))
    have F172 := F148.other W166 (Or.inr (slot_ne (Or.inr (ww hw 37 rfl)) (Or.inl (ww hw 69 rfl)) (by decide) (t := .int) (t' := .int) (by decide) (by decide)))
    have F173 := F149.other W166 (Or.inr (slot_ne (Or.inl (ww hw 14 rfl)) (Or.inl (ww hw 69 rfl)) (by decide) (t := (.array (.array .long))) (t' := .int) (by decide) (by decide)))
    have F174 := F150.other W166 (Or.inr (slot_ne (Or.inl (ww hw 18 rfl)) (Or.inl (ww hw 69 rfl)) (by decide) (t := (.array (.object "com/example/traza/traza/PackedRows$Layout"))) (t' := .int) (by decide) (by decide)))
    have F175 := F151.other W166 (Or.inr (slot_ne (Or.inl (ww hw 58 rfl)) (Or.inl (ww hw 69 rfl)) (by decide) (t := (.object "com/example/traza/traza/PackedRows$Layout")) (t' := .int) (by decide) (by decide)))
    have F176 := F152.other W166 (Or.inr (slot_ne (Or.inl (ww hw 62 rfl)) (Or.inl (ww hw 69 rfl)) (by decide) (t := (.array .long)) (t' := .int) (by decide) (by decide)))
    have E_177 := E_154.wr W166
    have F178 := F155.other W166 (Or.inl (Exa.ne E_154 E_146 (by decide)))
    have F179 := F156.other W166 (Or.inl (Exa.ne E_154 E_146 (by decide)))
    have F180 := F157.other W166 (Or.inl (Exa.ne E_154 E_146 (by decide)))
    have F181 := F158.other W166 (Or.inl (Exa.ne E_154 E_146 (by decide)))
    have V_182 := V_159.other W166 (Ne.symm (Exa.neArv E_146 V_159 (ww hw 3 rfl)))
    have VL183 := LAr_other VL160 W166 (LAr_exa VL160 E_146 (ww hw 3 rfl))
    have E_184 := E_161.wr W166
    have V_185 := V_162.other W166 (Ne.symm (Exa.neArv E_146 V_162 (ww hw 3 rfl)))
    have V_186 := V_163.other W166 (Ne.symm (Exa.neArv E_146 V_163 (ww hw 3 rfl)))
    have VL187 := LAr_other VC142 W166 (Ne.symm ne82)
    have F188 : Fld Z h166 aP "com/example/traza/traza/PackedRows" "size" "I" (.int (1 : Int32)) := F153.same W166
    have N166 := Fr.snoc X166 N142 gP
    show Go p e below _ (T166.setTop (mkF m 192 #[.val (.ref aP), .val (.ref aV), .val (.int (0 : Int32))] [(.int (0 : Int32))]))
    have hFF : ∀ v ∈ [(p0, p1, p2)], own_fits b0_25 b1_25 b2_25 v := fun v hv => (List.mem_append.mp (show v ∈ [] ++ [(p0, p1, p2)] from hv)).elim (r_hF_25 v) (fun q => by cases List.mem_singleton.mp q; exact FT25)
    exact goRetI X166 hx hlk hret e166 (hb hby d9_192) (by decide) (by decide) ⟨rfl, N166, Y168, aL_25, aw_25, aK_25, aY_25, aB_25, c60, kw_25, kK_25, kY_25, w0_25, w1_25, w2_25, rb_25, wd_25, cw_25, b0_25, b1_25, b2_25, f142, g32, (.ref c60), (.ref aL_25), ⟨E_170, F171, F172, F173, F174, F175, F176, F188, E_177, F178, F179, F180, F181, V_182, V_185, V_186, r_oK_25, r_oY_25, VL183, r_hW_25, r_pL_25, r_pw_25, r_pK_25, r_pY_25, r_pB_25, hFF, (fun _ => ⟨rfl, rfl, E_184, VL187, hR164, (Ne.symm ne87), pc60⟩), (fun q => absurd q (by decide))⟩⟩
  · refine Go.st (fun _ => XS.ifYes X4.here hx rfl (pc0 := 38) (pc' := 59) rfl (hb hby d9_38) rfl ((if0 _ _).trans (feq hc24).2) (by decide) (by decide)) ?_
    have he4 := (hE4.resolve_left (fun q => hc24 q.1)).2
    show Go p e below _ (T4.setTop (mkF m 59 #[.val (.ref aP), .val (.ref aV), .unset] []))
    refine Go.st (fun _ => XS.aloadN X4.here hx rfl (hb hby d9_59) rfl rfl) ?_
    obtain ⟨T189, X189, e189, st189⟩ := getF X4 hx hZ hown (host := "") (Or.inl (ww hw 68 rfl)) Via.refl rfl F15 (g := (mkF m 60 #[.val (.ref aP), .val (.ref aV), .unset] [(.ref aP)])) rfl rfl (hb hby d9_60)
    refine Go.st st189 ?_
    refine Go.st (fun _ => XS.aloadN X189.here hx rfl (hb hby d9_63) rfl rfl) ?_
    obtain ⟨T190, X190, e190, st190⟩ := getF X189 hx hZ hown (host := "") (Or.inl (ww hw 34 rfl)) Via.refl e189 F9 (g := (mkF m 64 #[.val (.ref aP), .val (.ref aV), .unset] [(.ref aP), (.int (0 : Int32))])) rfl rfl (hb hby d9_64)
    refine Go.st st190 ?_
    show Go p e below _ (T190.setTop (mkF m 67 #[.val (.ref aP), .val (.ref aV), .unset] [(.int (12 : Int32)), (.int (0 : Int32))]))
    refine Go.st (fun _ => XS.iushr X190.here hx rfl (hb hby d9_67) rfl) ?_
    rw [show (((0 : Int32).toUInt32 >>> ((12 : Int32) &&& 31).toUInt32).toInt32) = (0 : Int32) from by decide]
    show Go p e below _ (T190.setTop (mkF m 68 #[.val (.ref aP), .val (.ref aV), .unset] [(.int (0 : Int32))]))
    refine Go.st (fun _ => XS.istoreN X190.here hx rfl (hb hby d9_68) rfl (l' := #[.val (.ref aP), .val (.ref aV), .val (.int (0 : Int32))]) rfl) ?_
    refine Go.st (fun _ => XS.aloadN X190.here hx rfl (hb hby d9_69) rfl rfl) ?_
    obtain ⟨T191, X191, e191, st191⟩ := getF X190 hx hZ hown (host := "") (Or.inl (ww hw 68 rfl)) Via.refl e190 F15 (g := (mkF m 70 #[.val (.ref aP), .val (.ref aV), .val (.int (0 : Int32))] [(.ref aP)])) rfl rfl (hb hby d9_70)
    refine Go.st st191 ?_
    refine Go.st (fun _ => XS.aloadN X191.here hx rfl (hb hby d9_73) rfl rfl) ?_
    show Go p e below _ (T191.setTop (mkF m 74 #[.val (.ref aP), .val (.ref aV), .val (.int (0 : Int32))] [(.ref aP), (.int (0 : Int32))]))
    obtain ⟨T192, X192, e192, st192⟩ := getF X191 hx hZ hown (host := "") (Or.inl (ww hw 36 rfl)) Via.refl e191 F10 (g := (mkF m 74 #[.val (.ref aP), .val (.ref aV), .val (.int (0 : Int32))] [(.ref aP), (.int (0 : Int32))])) rfl rfl (hb hby d9_74)
    refine Go.st st192 ?_
    refine Go.st (fun _ => XS.iand X192.here hx rfl (hb hby d9_77) rfl) ?_
    refine Go.st (fun _ => XS.ifNo X192.here hx rfl (hb hby d9_78) rfl ((if0 _ _).trans (teq (by decide : (0 : Int32) = (0 : Int32))).2)) ?_
    refine Go.st (fun _ => XS.iloadN X192.here hx rfl (hb hby d9_81) rfl) ?_
    show Go p e below _ (T192.setTop (mkF m 82 #[.val (.ref aP), .val (.ref aV), .val (.int (0 : Int32))] [(.int (0 : Int32))]))
    refine Go.st (fun _ => XS.aloadN X192.here hx rfl (hb hby d9_82) rfl rfl) ?_
    obtain ⟨T193, X193, e193, st193⟩ := getF X192 hx hZ hown (host := "") (Or.inl (ww hw 13 rfl)) Via.refl e192 F11 (g := (mkF m 83 #[.val (.ref aP), .val (.ref aV), .val (.int (0 : Int32))] [(.ref aP), (.int (0 : Int32))])) rfl rfl (hb hby d9_83)
    refine Go.st st193 ?_
    show Go p e below _ (T193.setTop (mkF m 86 #[.val (.ref aP), .val (.ref aV), .val (.int (0 : Int32))] [(.ref aK), (.int (0 : Int32))]))
    obtain ⟨cl194, Ar194, qk194, Sz194, Nn194, Ha194, Ga194⟩ := id V_22
    refine Go.st (fun _ => X193.arraylength hx (by rw [e193]; exact Ar194.1) (State.isArrayOf_alike hZ.alike Ar194.2.1) (g := (mkF m 86 #[.val (.ref aP), .val (.ref aV), .val (.int (0 : Int32))] [(.ref aK), (.int (0 : Int32))])) rfl rfl (hb hby d9_86) _) ?_
    rw [len_of Sz194 Nn194]
    show Go p e below _ (T193.setTop (mkF m 87 #[.val (.ref aP), .val (.ref aV), .val (.int (0 : Int32))] [(.int (1 : Int32)), (.int (0 : Int32))]))
    refine Go.st (fun _ => XS.icmpYes X193.here hx rfl (pc0 := 87) (pc' := 132) rfl (hb hby d9_87) rfl (feq (by decide : ¬ ((0 : Int32) = (1 : Int32)))).2 (by decide) (by decide)) ?_
    refine Go.st (fun _ => XS.aloadN X193.here hx rfl (hb hby d9_132) rfl rfl) ?_
    obtain ⟨T195, X195, e195, st195⟩ := getF X193 hx hZ hown (host := "") (Or.inl (ww hw 13 rfl)) Via.refl e193 F11 (g := (mkF m 133 #[.val (.ref aP), .val (.ref aV), .val (.int (0 : Int32))] [(.ref aP)])) rfl rfl (hb hby d9_133)
    refine Go.st st195 ?_
    refine Go.st (fun _ => XS.iloadN X195.here hx rfl (hb hby d9_136) rfl) ?_
    show Go p e below _ (T195.setTop (mkF m 137 #[.val (.ref aP), .val (.ref aV), .val (.int (0 : Int32))] [(.int (0 : Int32)), (.ref aK)]))
    refine Go.st (fun _ => XS.aloadN X195.here hx rfl (hb hby d9_137) rfl rfl) ?_
    obtain ⟨T196, X196, e196, st196⟩ := getF X195 hx hZ hown (host := "") (Or.inl (ww hw 57 rfl)) Via.refl e195 F13 (g := (mkF m 138 #[.val (.ref aP), .val (.ref aV), .val (.int (0 : Int32))] [(.ref aP), (.int (0 : Int32)), (.ref aK)])) rfl rfl (hb hby d9_138)
    refine Go.st st196 ?_
    refine goVirt X196 hx hZ (y := (⟨"com/example/traza/traza/PackedRows$Layout", "newChunk", "()[J"⟩ : MethodName)) (z := (⟨"com/example/traza/traza/PackedRows$Layout", "newChunk", "()[J"⟩ : MethodName)) hown (ww hw 81 rfl) (ww hw 82 rfl) (notFace_of_selects (args := #[]) (mvT hZ (ww hw 84 rfl))) (ww hw 84 rfl) (ww hw 83 rfl) (ww hw 39 rfl) (ww hw 85 rfl) (by decide) (a := aL) (argsL := []) (rest := [(.int (0 : Int32)), (.ref aK)]) e196 E_16 (rm_nc l Z a0 hw [] aL w0 w1 w2 rb wd cw b0 b1 b2 T4.heap n0 O5 F20 r_hW) 2 (by decide) (by decide) (by decide) (by decide) (mkF m 141 #[.val (.ref aP), .val (.ref aV), .val (.int (0 : Int32))] [(.ref aL), (.int (0 : Int32)), (.ref aK)]) rfl (by rw [hml]; rfl) (lenOf pd_7 rfl) rfl (hb hby d9_141) (Nat.le_of_eq rfl) ?_
    intro v197 T197 L197 X197 hQ197
    obtain ⟨c197, rfl, M197, K197, sz197, EC197, VC197⟩ := hQ197
    have N197 := Fr.app N4 M197
    have O198 := O5.keep K197 all0
    have V_199 := V_6.keep K197 nin0
    have Y200 := Low_keep Y7 K197 all0
    have E_201 := E_8.keep K197
    have F202 := F9.keep K197 nin0
    have F203 := F10.keep K197 nin0
    have F204 := F11.keep K197 nin0
    have F205 := F12.keep K197 nin0
    have F206 := F13.keep K197 nin0
    have F207 := F14.keep K197 nin0
    have F208 := F15.keep K197 nin0
    have E_209 := E_16.keep K197
    have F210 := F17.keep K197 nin0
    have F211 := F18.keep K197 nin0
    have F212 := F19.keep K197 nin0
    have F213 := F20.keep K197 nin0
    have V_214 := V_21.keep K197 nin0
    have V_215 := V_22.keep K197 nin0
    have V_216 := V_23.keep K197 nin0
    have VL217 := LAr_keep VB4 K197 nin0
    have ne218 : aV ≠ c197 := Nat.ne_of_lt (Nat.lt_of_lt_of_le V_6.lt sz197)
    have ne219 : aP ≠ c197 := Nat.ne_of_lt (Nat.lt_of_lt_of_le E_8.lt sz197)
    have ne220 : aL ≠ c197 := Nat.ne_of_lt (Nat.lt_of_lt_of_le E_16.lt sz197)
    have ne221 : aw ≠ c197 := Nat.ne_of_lt (Nat.lt_of_lt_of_le V_21.lt sz197)
    have ne222 : aK ≠ c197 := Nat.ne_of_lt (Nat.lt_of_lt_of_le V_22.lt sz197)
    have ne223 : aY ≠ c197 := Nat.ne_of_lt (Nat.lt_of_lt_of_le V_23.lt sz197)
    have ne224 : aB ≠ c197 := Nat.ne_of_lt (Nat.lt_of_lt_of_le (LAr_lt VB4) sz197)
    have pc197 : aP ≤ c197 := Nat.le_trans (Nat.le_of_lt E_8.lt) sz197
    show Go p e below _ (T197.setTop (mkF m 144 #[.val (.ref aP), .val (.ref aV), .val (.int (0 : Int32))] [(.ref c197), (.int (0 : Int32)), (.ref aK)]))
    obtain ⟨cl225, Ar225, qk225, Sz225, Nn225, Ha225, Ga225⟩ := id V_215
    have hin225 : ¬ ((0 : Int32) < 0 ∨ cl225.slots.size ≤ ((0 : Int32) : Int32).toNatClampNeg) := inb_of Sz225 ⟨by decide, by decide⟩
    obtain ⟨T225, h225, X225, e225, W225, st225⟩ := stR X197 hx hZ rfl Ar225 (j := (0 : Int32)) hin225 rfl (Sto.ofVA Ar225 qk225 r_oK (Ins.self EC197)) (g := (mkF m 144 #[.val (.ref aP), .val (.ref aV), .val (.int (0 : Int32))] [(.ref c197), (.int (0 : Int32)), (.ref aK)])) rfl rfl (hb hby d9_144)
    refine Go.st st225 ?_
    have O226 := O198.wr W225 (Nat.le_trans gP r_pK)
    have V_227 := V_199.other W225 (arv_arv V_199 V_215 (fun q => nomatch q))
    have Y228 := Low_wr Y200 W225 r_pK
    have E_229 := E_201.wr W225
    have F230 := F202.other W225 (Or.inl (Exa.neArv E_201 V_215 (ww hw 3 rfl)))
    have F231 := F203.other W225 (Or.inl (Exa.neArv E_201 V_215 (ww hw 3 rfl)))
    have F232 := F204.other W225 (Or.inl (Exa.neArv E_201 V_215 (ww hw 3 rfl)))
    have F233 := F205.other W225 (Or.inl (Exa.neArv E_201 V_215 (ww hw 3 rfl)))
    have F234 := F206.other W225 (Or.inl (Exa.neArv E_201 V_215 (ww hw 3 rfl)))
    have F235 := F207.other W225 (Or.inl (Exa.neArv E_201 V_215 (ww hw 3 rfl)))
    have F236 := F208.other W225 (Or.inl (Exa.neArv E_201 V_215 (ww hw 3 rfl)))
    have E_237 := E_209.wr W225
    have F238 := F210.other W225 (Or.inl (Exa.neArv E_209 V_215 (ww hw 38 rfl)))
    have F239 := F211.other W225 (Or.inl (Exa.neArv E_209 V_215 (ww hw 38 rfl)))
    have F240 := F212.other W225 (Or.inl (Exa.neArv E_209 V_215 (ww hw 38 rfl)))
    have F241 := F213.other W225 (Or.inl (Exa.neArv E_209 V_215 (ww hw 38 rfl)))
    have V_242 := V_214.other W225 (arv_arv V_214 V_215 (fun q => nomatch q))
    have V_243 := V_216.other W225 (arv_arv V_216 V_215 (fun q => nomatch q))
    have VL244 := LAr_other VL217 W225 (LAr_arv VL217 V_215 (fun q => nomatch q))
    have E_245 := EC197.wr W225
    have VL246 := LAr_other VC197 W225 (Ne.symm ne222)
    have V_247 : Arv Z h225 aK kK (.array .long) (1 : Int32) [(.ref c197)] .null := Arv.set Ar225 qk225 Sz225 Nn225 Ha225 Ga225 rfl W225 0 rfl (Nat.le_of_ble_eq_true rfl)
    have N225 := Fr.snoc X225 N197 (Nat.le_trans gP r_pK)
    refine Go.st (fun _ => XS.aloadN X225.here hx rfl (hb hby d9_145) rfl rfl) ?_
    obtain ⟨T248, X248, e248, st248⟩ := getF X225 hx hZ hown (host := "") (Or.inl (ww hw 17 rfl)) Via.refl e225 F233 (g := (mkF m 146 #[.val (.ref aP), .val (.ref aV), .val (.int (0 : Int32))] [(.ref aP)])) rfl rfl (hb hby d9_146)
    refine Go.st st248 ?_
    refine Go.st (fun _ => XS.iloadN X248.here hx rfl (hb hby d9_149) rfl) ?_
    show Go p e below _ (T248.setTop (mkF m 150 #[.val (.ref aP), .val (.ref aV), .val (.int (0 : Int32))] [(.int (0 : Int32)), (.ref aY)]))
    refine Go.st (fun _ => XS.aloadN X248.here hx rfl (hb hby d9_150) rfl rfl) ?_
    obtain ⟨T249, X249, e249, st249⟩ := getF X248 hx hZ hown (host := "") (Or.inl (ww hw 57 rfl)) Via.refl e248 F234 (g := (mkF m 151 #[.val (.ref aP), .val (.ref aV), .val (.int (0 : Int32))] [(.ref aP), (.int (0 : Int32)), (.ref aY)])) rfl rfl (hb hby d9_151)
    refine Go.st st249 ?_
    obtain ⟨cl250, Ar250, qk250, Sz250, Nn250, Ha250, Ga250⟩ := id V_243
    have hin250 : ¬ ((0 : Int32) < 0 ∨ cl250.slots.size ≤ ((0 : Int32) : Int32).toNatClampNeg) := inb_of Sz250 ⟨by decide, by decide⟩
    obtain ⟨T250, h250, X250, e250, W250, st250⟩ := stR X249 hx hZ e249 Ar250 (j := (0 : Int32)) hin250 rfl (Sto.ofV Ar250 qk250 r_oY (Ins.self E_237)) (g := (mkF m 154 #[.val (.ref aP), .val (.ref aV), .val (.int (0 : Int32))] [(.ref aL), (.int (0 : Int32)), (.ref aY)])) rfl rfl (hb hby d9_154)
    refine Go.st st250 ?_
    have O251 := O226.wr W250 (Nat.le_trans gP r_pY)
    have V_252 := V_227.other W250 (arv_arv V_227 V_243 (fun q => nomatch q))
    have Y253 := Low_wr Y228 W250 r_pY
    have E_254 := E_229.wr W250
    have F255 := F230.other W250 (Or.inl (Exa.neArv E_229 V_243 (ww hw 3 rfl)))
    have F256 := F231.other W250 (Or.inl (Exa.neArv E_229 V_243 (ww hw 3 rfl)))
    have F257 := F232.other W250 (Or.inl (Exa.neArv E_229 V_243 (ww hw 3 rfl)))
    have F258 := F233.other W250 (Or.inl (Exa.neArv E_229 V_243 (ww hw 3 rfl)))
    have F259 := F234.other W250 (Or.inl (Exa.neArv E_229 V_243 (ww hw 3 rfl)))
    have F260 := F235.other W250 (Or.inl (Exa.neArv E_229 V_243 (ww hw 3 rfl)))
    have F261 := F236.other W250 (Or.inl (Exa.neArv E_229 V_243 (ww hw 3 rfl)))
    have E_262 := E_237.wr W250
    have F263 := F238.other W250 (Or.inl (Exa.neArv E_237 V_243 (ww hw 38 rfl)))
    have F264 := F239.other W250 (Or.inl (Exa.neArv E_237 V_243 (ww hw 38 rfl)))
    have F265 := F240.other W250 (Or.inl (Exa.neArv E_237 V_243 (ww hw 38 rfl)))
    have F266 := F241.other W250 (Or.inl (Exa.neArv E_237 V_243 (ww hw 38 rfl)))
    have V_267 := V_242.other W250 (arv_arv V_242 V_243 (fun q => nomatch q))
    have VL268 := LAr_other VL244 W250 (LAr_arv VL244 V_243 (fun q => nomatch q))
    have E_269 := E_245.wr W250
    have VL270 := LAr_other VL246 W250 (Ne.symm ne223)
    have V_271 := V_247.other W250 (arv_arv V_247 V_243 (fun q => nomatch q))
    have V_272 : Arv Z h250 aY kY (.object "com/example/traza/traza/PackedRows$Layout") (1 : Int32) [(.ref aL)] .null := Arv.set Ar250 qk250 Sz250 Nn250 Ha250 Ga250 rfl W250 0 rfl (Nat.le_of_ble_eq_true rfl)
    have N250 := Fr.snoc X250 N225 (Nat.le_trans gP r_pY)
    refine Go.st (fun _ => XS.aloadN X250.here hx rfl (hb hby d9_155) rfl rfl) ?_
    show Go p e below _ (T250.setTop (mkF m 156 #[.val (.ref aP), .val (.ref aV), .val (.int (0 : Int32))] [(.ref aP)]))
    obtain ⟨T273, X273, e273, st273⟩ := getF X250 hx hZ hown (host := "") (Or.inl (ww hw 57 rfl)) Via.refl e250 F259 (g := (mkF m 156 #[.val (.ref aP), .val (.ref aV), .val (.int (0 : Int32))] [(.ref aP)])) rfl rfl (hb hby d9_156)
    refine Go.st st273 ?_
    refine Go.st (fun _ => XS.aloadN X273.here hx rfl (hb hby d9_159) rfl rfl) ?_
    obtain ⟨T274, X274, e274, st274⟩ := getF X273 hx hZ hown (host := "") (Or.inl (ww hw 13 rfl)) Via.refl e273 F257 (g := (mkF m 160 #[.val (.ref aP), .val (.ref aV), .val (.int (0 : Int32))] [(.ref aP), (.ref aL)])) rfl rfl (hb hby d9_160)
    refine Go.st st274 ?_
    refine Go.st (fun _ => XS.iloadN X274.here hx rfl (hb hby d9_163) rfl) ?_
    show Go p e below _ (T274.setTop (mkF m 164 #[.val (.ref aP), .val (.ref aV), .val (.int (0 : Int32))] [(.int (0 : Int32)), (.ref aK), (.ref aL)]))
    obtain ⟨cl275, Ar275, qk275, Sz275, Nn275, Ha275, Ga275⟩ := id V_271
    have hin275 : ¬ ((0 : Int32) < 0 ∨ cl275.slots.size ≤ ((0 : Int32) : Int32).toNatClampNeg) := inb_of Sz275 ⟨by decide, by decide⟩
    refine Go.st (fun _ => X274.aaload hx (j := (0 : Int32)) (v := (.ref c197)) (by rw [e274]; exact Ar275.1) (State.isArrayOf_alike hZ.alike Ar275.2.1) rfl Ar275.2.2 hin275 (Has.at Ha275 hin275 rfl) (g := (mkF m 164 #[.val (.ref aP), .val (.ref aV), .val (.int (0 : Int32))] [(.int (0 : Int32)), (.ref aK), (.ref aL)])) rfl rfl (hb hby d9_164) _) ?_
    refine Go.st (fun _ => XS.aloadN X274.here hx rfl (hb hby d9_165) rfl rfl) ?_
    obtain ⟨T276, X276, e276, st276⟩ := getF X274 hx hZ hown (host := "") (Or.inl (ww hw 68 rfl)) Via.refl e274 F261 (g := (mkF m 166 #[.val (.ref aP), .val (.ref aV), .val (.int (0 : Int32))] [(.ref aP), (.ref c197), (.ref aL)])) rfl rfl (hb hby d9_166)
    refine Go.st st276 ?_
    refine Go.st (fun _ => XS.aloadN X276.here hx rfl (hb hby d9_169) rfl rfl) ?_
    show Go p e below _ (T276.setTop (mkF m 170 #[.val (.ref aP), .val (.ref aV), .val (.int (0 : Int32))] [(.ref aP), (.int (0 : Int32)), (.ref c197), (.ref aL)]))
    obtain ⟨T277, X277, e277, st277⟩ := getF X276 hx hZ hown (host := "") (Or.inl (ww hw 36 rfl)) Via.refl e276 F256 (g := (mkF m 170 #[.val (.ref aP), .val (.ref aV), .val (.int (0 : Int32))] [(.ref aP), (.int (0 : Int32)), (.ref c197), (.ref aL)])) rfl rfl (hb hby d9_170)
    refine Go.st st277 ?_
    refine Go.st (fun _ => XS.iand X277.here hx rfl (hb hby d9_173) rfl) ?_
    refine Go.st (fun _ => XS.aloadN X277.here hx rfl (hb hby d9_174) rfl rfl) ?_
    obtain ⟨T278, X278, e278, st278⟩ := getF X277 hx hZ hown (host := "") (Or.inl (ww hw 61 rfl)) Via.refl e277 F260 (g := (mkF m 175 #[.val (.ref aP), .val (.ref aV), .val (.int (0 : Int32))] [(.ref aP), (.int (0 : Int32)), (.ref c197), (.ref aL)])) rfl rfl (hb hby d9_175)
    refine Go.st st278 ?_
    show Go p e below _ (T278.setTop (mkF m 178 #[.val (.ref aP), .val (.ref aV), .val (.int (0 : Int32))] [(.ref aB), (.int (0 : Int32)), (.ref c197), (.ref aL)]))
    refine goVirt X278 hx hZ (y := (⟨"com/example/traza/traza/PackedRows$Layout", "put", "([JI[J)V"⟩ : MethodName)) (z := (⟨"com/example/traza/traza/PackedRows$Layout", "put", "([JI[J)V"⟩ : MethodName)) hown (ww hw 88 rfl) (ww hw 89 rfl) (notFace_of_selects (args := #[]) (mvT hZ (ww hw 91 rfl))) (ww hw 91 rfl) (ww hw 90 rfl) (ww hw 39 rfl) (ww hw 92 rfl) (by decide) (a := aL) (argsL := [(.ref c197), (.int (0 : Int32)), (.ref aB)]) (rest := []) e278 E_262 (rm_put l Z a0 hw [] aL c197 aB (0 : Int32) 0 w0 w1 w2 rb wd cw b0 b1 b2 (fun _ => (0 : Int64)) g4 h250 n0 O251 E_262 F264 F265 VL270 VL268 (Ne.symm ne224) (Nat.le_trans gP pc197) r_hW rfl (by decide) (enc_clear he4.2)) 0 (by decide) (by decide) (by decide) (by decide) (mkF m 178 #[.val (.ref aP), .val (.ref aV), .val (.int (0 : Int32))] [(.ref aB), (.int (0 : Int32)), (.ref c197), (.ref aL)]) rfl (by rw [hml]; rfl) (lenOf pd_8 rfl) rfl (hb hby d9_178) (Nat.le_of_eq rfl) ?_
    intro v279 T279 L279 X279 hQ279
    obtain ⟨rfl, M279, K279, f279, VC279, hP279⟩ := hQ279
    have N279 := Fr.app N250 M279
    have O280 := O251.keep K279 (allS (Nat.le_trans gP pc197) all0)
    have V_281 := V_252.keep K279 (ninS ne218 nin0)
    have Y282 := Low_keep Y253 K279 (allS pc197 all0)
    have E_283 := E_254.keep K279
    have F284 := F255.keep K279 (ninS ne219 nin0)
    have F285 := F256.keep K279 (ninS ne219 nin0)
    have F286 := F257.keep K279 (ninS ne219 nin0)
    have F287 := F258.keep K279 (ninS ne219 nin0)
    have F288 := F259.keep K279 (ninS ne219 nin0)
    have F289 := F260.keep K279 (ninS ne219 nin0)
    have F290 := F261.keep K279 (ninS ne219 nin0)
    have E_291 := E_262.keep K279
    have F292 := F263.keep K279 (ninS ne220 nin0)
    have F293 := F264.keep K279 (ninS ne220 nin0)
    have F294 := F265.keep K279 (ninS ne220 nin0)
    have F295 := F266.keep K279 (ninS ne220 nin0)
    have V_296 := V_267.keep K279 (ninS ne221 nin0)
    have VL297 := LAr_keep VL268 K279 (ninS ne224 nin0)
    have E_298 := E_269.keep K279
    have V_299 := V_271.keep K279 (ninS ne222 nin0)
    have V_300 := V_272.keep K279 (ninS ne223 nin0)
    have hR301 := put_rows (rows := []) (r := 0) rfl rows_none he4.2 hP279
    show Go p e below _ (T279.setTop (mkF m 181 #[.val (.ref aP), .val (.ref aV), .val (.int (0 : Int32))] []))
    refine Go.st (fun _ => XS.aloadN X279.here hx rfl (hb hby d9_181) rfl rfl) ?_
    refine Go.st (fun _ => XS.dup X279.here hx rfl (hb hby d9_182) rfl rfl) ?_
    obtain ⟨T302, X302, e302, st302⟩ := getF X279 hx hZ hown (host := "") (Or.inl (ww hw 68 rfl)) Via.refl rfl F290 (g := (mkF m 183 #[.val (.ref aP), .val (.ref aV), .val (.int (0 : Int32))] [(.ref aP), (.ref aP)])) rfl rfl (hb hby d9_183)
    refine Go.st st302 ?_
    refine Go.st (fun _ => XS.dupX1 X302.here hx rfl (hb hby d9_186) rfl rfl rfl) ?_
    show Go p e below _ (T302.setTop (mkF m 187 #[.val (.ref aP), .val (.ref aV), .val (.int (0 : Int32))] [(.int (0 : Int32)), (.ref aP), (.int (0 : Int32))]))
    refine Go.st (fun _ => XS.iconst X302.here hx rfl (hb hby d9_187)) ?_
    refine Go.st (fun _ => XS.iadd X302.here hx rfl (hb hby d9_188) rfl) ?_
    obtain ⟨T303, h303, X303, e303, W303, st303⟩ := putF X302 hx hZ hown (host := "") (Or.inl (ww hw 68 rfl)) Via.refl e302 F290 E_283 (Or.inl (ww hw 69 rfl)) (ww hw 3 rfl) (ty := .int) (by decide) rfl rfl (g := (mkF m 189 #[.val (.ref aP), .val (.ref aV), .val (.int (0 : Int32))] [(.int (1 : Int32)), (.ref aP), (.int (0 : Int32))])) rfl rfl (hb hby d9_189)
    refine Go.st st303 ?_
    have O304 := O280.wr W303 gP
    have V_305 := V_281.other W303 (Ne.symm (Exa.neArv E_283 V_281 (ww hw 3 rfl)))
    have Y306 := Low_wr Y282 W303 (Nat.le_refl _)
    have E_307 := E_283.wr W303
    have F308 := F284.other W303 (Or.inr (slot_ne (Or.inr (ww hw 35 rfl)) (Or.inl (ww hw 69 rfl)) (by decide) (t := .int) (t' := .int) (by decide) (by decide)))
    have F309 := F285.other W303 (Or.inr (slot_ne (Or.inr (ww hw 37 rfl)) (Or.inl (ww hw 69 rfl)) (by decide) (t := .int) (t' := .int) (by decide) (by decide)))
    have F310 := F286.other W303 (Or.inr (slot_ne (Or.inl (ww hw 14 rfl)) (Or.inl (ww hw 69 rfl)) (by decide) (t := (.array (.array .long))) (t' := .int) (by decide) (by decide)))
    have F311 := F287.other W303 (Or.inr (slot_ne (Or.inl (ww hw 18 rfl)) (Or.inl (ww hw 69 rfl)) (by decide) (t := (.array (.object "com/example/traza/traza/PackedRows$Layout"))) (t' := .int) (by decide) (by decide)))
    have F312 := F288.other W303 (Or.inr (slot_ne (Or.inl (ww hw 58 rfl)) (Or.inl (ww hw 69 rfl)) (by decide) (t := (.object "com/example/traza/traza/PackedRows$Layout")) (t' := .int) (by decide) (by decide)))
    have F313 := F289.other W303 (Or.inr (slot_ne (Or.inl (ww hw 62 rfl)) (Or.inl (ww hw 69 rfl)) (by decide) (t := (.array .long)) (t' := .int) (by decide) (by decide)))
    have E_314 := E_291.wr W303
    have F315 := F292.other W303 (Or.inl (Exa.ne E_291 E_283 (by decide)))
    have F316 := F293.other W303 (Or.inl (Exa.ne E_291 E_283 (by decide)))
    have F317 := F294.other W303 (Or.inl (Exa.ne E_291 E_283 (by decide)))
    have F318 := F295.other W303 (Or.inl (Exa.ne E_291 E_283 (by decide)))
    have V_319 := V_296.other W303 (Ne.symm (Exa.neArv E_283 V_296 (ww hw 3 rfl)))
    have VL320 := LAr_other VL297 W303 (LAr_exa VL297 E_283 (ww hw 3 rfl))
    have E_321 := E_298.wr W303
    have V_322 := V_299.other W303 (Ne.symm (Exa.neArv E_283 V_299 (ww hw 3 rfl)))
    have V_323 := V_300.other W303 (Ne.symm (Exa.neArv E_283 V_300 (ww hw 3 rfl)))
    have VL324 := LAr_other VC279 W303 (Ne.symm ne219)
    have F325 : Fld Z h303 aP "com/example/traza/traza/PackedRows" "size" "I" (.int (1 : Int32)) := F290.same W303
    have N303 := Fr.snoc X303 N279 gP
    show Go p e below _ (T303.setTop (mkF m 192 #[.val (.ref aP), .val (.ref aV), .val (.int (0 : Int32))] [(.int (0 : Int32))]))
    have hFF : ∀ v ∈ [(p0, p1, p2)], own_fits b0 b1 b2 v := fun v hv => (List.mem_append.mp (show v ∈ [] ++ [(p0, p1, p2)] from hv)).elim (r_hF v) (fun q => by cases List.mem_singleton.mp q; exact he4.1)
    exact goRetI X303 hx hlk hret e303 (hb hby d9_192) (by decide) (by decide) ⟨rfl, N303, Y306, aL, aw, aK, aY, aB, c197, kw, kK, kY, w0, w1, w2, rb, wd, cw, b0, b1, b2, f279, g4, (.ref c197), (.ref aL), ⟨E_307, F308, F309, F310, F311, F312, F313, F325, E_314, F315, F316, F317, F318, V_319, V_322, V_323, r_oK, r_oY, VL320, r_hW, r_pL, r_pw, r_pK, r_pY, r_pB, hFF, (fun _ => ⟨rfl, rfl, E_321, VL324, hR301, (Ne.symm ne224), pc197⟩), (fun q => absurd q (by decide))⟩⟩
set_option maxRecDepth 65536 in
set_option maxHeartbeats 40000000 in
theorem rm_wid1 (l : Launch) (Z : State) (a0 : Array Value) (hw : ∀ d ∈ tables_1, d.before a0 Z = true) (ws : List Jvm.Cond) (aP aV : Addr) (kV : ClassId) (p0 p1 p2 : Int32) (v0_0 v0_1 v0_2 : Int32) (aL : Addr) (aw : Addr) (aK : Addr) (aY : Addr) (aB : Addr) (aC : Addr) (kw : ClassId) (kK : ClassId) (kY : ClassId) (w0 : Int32) (w1 : Int32) (w2 : Int32) (rb : Int32) (wd : Int32) (cw : Int32) (b0 : Nat) (b1 : Nat) (b2 : Nat) (f : Nat → Int64) (g : Nat → Int64) (xK : Value) (xY : Value) (h0 : Heap) (n0 : Nat) (O0 : Old Z n0 h0) (HP : PR Z h0 aP (1 : Int32) [(v0_0, v0_1, v0_2)] aL aw aK aY aB aC kw kK kY w0 w1 w2 rb wd cw b0 b1 b2 f g xK xY) (gP : n0 ≤ aP) (vV : Arv Z h0 aV kV .int (3 : Int32) [(.int p0), (.int p1), (.int p2)] (.int (0 : Int32))) (hp0 : ¬ p0 < 0) (hp1 : ¬ p1 < 0) (hp2 : ¬ p2 < 0) :
    Ctr l (⟨"com/example/traza/traza/PackedRows", "widen", "([I)V"⟩ : MethodName) prog_27_method_7_code 10 none ws ({ frames := 2, cells := 6, slots := 5966, locals := 39 } : Room) #[(.ref aP), (.ref aV)] Z h0 (fun v h L => v = none ∧ Fr n0 L ∧ Low aP h0 h ∧ Arv Z h aV kV .int (3 : Int32) [(.int p0), (.int p1), (.int p2)] (.int (0 : Int32)) ∧ ∃ (aL' : Addr) (aw' : Addr) (aK' : Addr) (aY' : Addr) (aB' : Addr) (aC' : Addr) (kw' : ClassId) (kK' : ClassId) (kY' : ClassId) (w0' : Int32) (w1' : Int32) (w2' : Int32) (rb' : Int32) (wd' : Int32) (cw' : Int32) (b0' : Nat) (b1' : Nat) (b2' : Nat) (f' : Nat → Int64) (g' : Nat → Int64) (xK' : Value) (xY' : Value), PR Z h aP (1 : Int32) [(v0_0, v0_1, v0_2)] aL' aw' aK' aY' aB' aC' kw' kK' kY' w0' w1' w2' rb' wd' cw' b0' b1' b2' f' g' xK' xY' ∧ own_fits b0' b1' b2' (p0, p1, p2)) := by
  have ef : ∀ m : MethodId, entryFrame m #[(.ref aP), (.ref aV)] 10 = mkF m 0 #[.val (.ref aP), .val (.ref aV), .unset, .unset, .unset, .unset, .unset, .unset, .unset, .unset] [] := fun m => by first | (simp [entryFrame, mkF, argsToLocals, Value.category]; done) | rfl
  refine Ctr.of (plainFor_of_name pn_11) ?_
  intro p e s m below meth c s₁ hx hZ hby hml hown0 hnm hret hlk X0 e0
  have hown : s.vm.findClass "com/example/traza/traza/PackedRows" = some m.cls := hown0
  have N0 := Fr.nil n0
  refine Go.st (fun t k => castTop (ef m) k) ?_
  obtain ⟨r_eP, r_f_chunkShift, r_f_chunkMask, r_f_chunks, r_f_layouts, r_f_layout, r_f_bits, r_f_size, r_eL, r_l_widths, r_l_rowBits, r_l_words, r_l_chunkWords, r_vw, r_vK, r_vY, r_oK, r_oY, r_vB, r_hW, r_pL, r_pw, r_pK, r_pY, r_pB, r_hF, r_full, r_none⟩ := HP
  obtain ⟨rfl, rfl, r_eC, r_vC, r_hR, r_ne, r_pC⟩ := r_full (by decide)
  obtain ⟨hw0, hw1, hw2, hb0, hb1, hb2, hrb, hwd, hcw⟩ := id r_hW
  show Go p e below _ (s₁.setTop (mkF m 0 #[.val (.ref aP), .val (.ref aV), .unset, .unset, .unset, .unset, .unset, .unset, .unset, .unset] []))
  refine Go.st (fun _ => XS.aloadN X0.here hx rfl (hb hby d11_0) rfl rfl) ?_
  show Go p e below _ (s₁.setTop (mkF m 1 #[.val (.ref aP), .val (.ref aV), .unset, .unset, .unset, .unset, .unset, .unset, .unset, .unset] [(.ref aV)]))
  obtain ⟨cl1, Ar1, qk1, Sz1, Nn1, Ha1, Ga1⟩ := id vV
  refine Go.st (fun _ => X0.arraylength hx (by rw [e0]; exact Ar1.1) (State.isArrayOf_alike hZ.alike Ar1.2.1) (g := (mkF m 1 #[.val (.ref aP), .val (.ref aV), .unset, .unset, .unset, .unset, .unset, .unset, .unset, .unset] [(.ref aV)])) rfl rfl (hb hby d11_1) _) ?_
  rw [len_of Sz1 Nn1]
  show Go p e below _ (s₁.setTop (mkF m 2 #[.val (.ref aP), .val (.ref aV), .unset, .unset, .unset, .unset, .unset, .unset, .unset, .unset] [(.int (3 : Int32))]))
  obtain ⟨T2, h2, k2, X2, e2, E2, A2, st2⟩ := newP X0 hx hZ (ww hw 1 rfl) e0 (g := (mkF m 2 #[.val (.ref aP), .val (.ref aV), .unset, .unset, .unset, .unset, .unset, .unset, .unset, .unset] [(.int (3 : Int32))])) rfl (hb hby d11_2) rfl (by decide) (cap := 3) (by decide) (by decide) (by decide) (by decide)
  obtain ⟨ad2, g2⟩ : ∃ z, z = h0.size := ⟨_, rfl⟩
  rw [← g2] at A2 st2
  refine Go.st st2 ?_
  have gn2 : n0 ≤ ad2 := oldGe O0 g2
  have ne3 : aV ≠ ad2 := Nat.ne_of_lt (Nat.lt_of_lt_of_le vV.lt (Nat.le_of_eq g2.symm))
  have lne4 : aP < ad2 := (Nat.lt_of_lt_of_le r_eP.lt (Nat.le_of_eq g2.symm))
  have ne4 : aP ≠ ad2 := Nat.ne_of_lt lne4
  have ne5 : aL ≠ ad2 := Nat.ne_of_lt (Nat.lt_of_lt_of_le r_eL.lt (Nat.le_of_eq g2.symm))
  have ne6 : aw ≠ ad2 := Nat.ne_of_lt (Nat.lt_of_lt_of_le r_vw.lt (Nat.le_of_eq g2.symm))
  have ne7 : aK ≠ ad2 := Nat.ne_of_lt (Nat.lt_of_lt_of_le r_vK.lt (Nat.le_of_eq g2.symm))
  have ne8 : aY ≠ ad2 := Nat.ne_of_lt (Nat.lt_of_lt_of_le r_vY.lt (Nat.le_of_eq g2.symm))
  have ne9 : aB ≠ ad2 := Nat.ne_of_lt (Nat.lt_of_lt_of_le (LAr_lt r_vB) (Nat.le_of_eq g2.symm))
  have ne10 : aC ≠ ad2 := Nat.ne_of_lt (Nat.lt_of_lt_of_le r_eC.lt (Nat.le_of_eq g2.symm))
  have O11 := O0.ext E2
  have V_12 := vV.ext E2
  have Y13 := Low_ext (Low_refl (P := aP) (h := h0)) E2
  have E_14 := r_eP.ext E2
  have F15 := r_f_chunkShift.ext E2
  have F16 := r_f_chunkMask.ext E2
  have F17 := r_f_chunks.ext E2
  have F18 := r_f_layouts.ext E2
  have F19 := r_f_layout.ext E2
  have F20 := r_f_bits.ext E2
  have F21 := r_f_size.ext E2
  have E_22 := r_eL.ext E2
  have F23 := r_l_widths.ext E2
  have F24 := r_l_rowBits.ext E2
  have F25 := r_l_words.ext E2
  have F26 := r_l_chunkWords.ext E2
  have V_27 := r_vw.ext E2
  have V_28 := r_vK.ext E2
  have V_29 := r_vY.ext E2
  have VL30 := LAr_ext r_vB E2
  have E_31 := r_eC.ext E2
  have VL32 := LAr_ext r_vC E2
  have V_33 : Arv Z h2 ad2 k2 .int (3 : Int32) [(.int (0 : Int32)), (.int (0 : Int32)), (.int (0 : Int32))] (.int (0 : Int32)) := (Arv.new A2 (by decide)).pad (pad_rep [] (.int (0 : Int32)) 3)
  refine Go.st (fun _ => XS.astoreN X2.here hx rfl (hb hby d11_4) rfl rfl (l' := #[.val (.ref aP), .val (.ref aV), .val (.ref ad2), .unset, .unset, .unset, .unset, .unset, .unset, .unset]) rfl) ?_
  refine Go.st (fun _ => XS.iconst X2.here hx rfl (hb hby d11_5)) ?_
  refine Go.st (fun _ => XS.istoreN X2.here hx rfl (hb hby d11_6) rfl (l' := #[.val (.ref aP), .val (.ref aV), .val (.ref ad2), .val (.int (0 : Int32)), .unset, .unset, .unset, .unset, .unset, .unset]) rfl) ?_
  show Go p e below _ (T2.setTop (mkF m 7 #[.val (.ref aP), .val (.ref aV), .val (.ref ad2), .val (.int (0 : Int32)), .unset, .unset, .unset, .unset, .unset, .unset] []))
  refine Go.st (fun _ => XS.iloadN X2.here hx rfl (hb hby d11_7) rfl) ?_
  refine Go.st (fun _ => XS.aloadN X2.here hx rfl (hb hby d11_8) rfl rfl) ?_
  show Go p e below _ (T2.setTop (mkF m 9 #[.val (.ref aP), .val (.ref aV), .val (.ref ad2), .val (.int (0 : Int32)), .unset, .unset, .unset, .unset, .unset, .unset] [(.ref aV), (.int (0 : Int32))]))
  obtain ⟨cl34, Ar34, qk34, Sz34, Nn34, Ha34, Ga34⟩ := id V_12
  refine Go.st (fun _ => X2.arraylength hx (by rw [e2]; exact Ar34.1) (State.isArrayOf_alike hZ.alike Ar34.2.1) (g := (mkF m 9 #[.val (.ref aP), .val (.ref aV), .val (.ref ad2), .val (.int (0 : Int32)), .unset, .unset, .unset, .unset, .unset, .unset] [(.ref aV), (.int (0 : Int32))])) rfl rfl (hb hby d11_9) _) ?_
  rw [len_of Sz34 Nn34]
  show Go p e below _ (T2.setTop (mkF m 10 #[.val (.ref aP), .val (.ref aV), .val (.ref ad2), .val (.int (0 : Int32)), .unset, .unset, .unset, .unset, .unset, .unset] [(.int (3 : Int32)), (.int (0 : Int32))]))
  refine Go.st (fun _ => XS.icmpNo X2.here hx rfl (hb hby d11_10) rfl (tlt (by decide : (0 : Int32) < (3 : Int32))).2.1) ?_
  refine Go.st (fun _ => XS.aloadN X2.here hx rfl (hb hby d11_13) rfl rfl) ?_
  refine Go.st (fun _ => XS.iloadN X2.here hx rfl (hb hby d11_14) rfl) ?_
  obtain ⟨cl35, Ar35, qk35, Sz35, Nn35, Ha35, Ga35⟩ := id V_12
  have hin35 : ¬ ((0 : Int32) < 0 ∨ cl35.slots.size ≤ ((0 : Int32) : Int32).toNatClampNeg) := inb_of Sz35 ⟨by decide, by decide⟩
  refine Go.st (fun _ => X2.iaload hx (j := (0 : Int32)) (v := (.int p0)) (by rw [e2]; exact Ar35.1) (State.isArrayOf_alike hZ.alike Ar35.2.1) Ar35.2.2 hin35 (Has.at Ha35 hin35 rfl) (g := (mkF m 15 #[.val (.ref aP), .val (.ref aV), .val (.ref ad2), .val (.int (0 : Int32)), .unset, .unset, .unset, .unset, .unset, .unset] [(.int (0 : Int32)), (.ref aV)])) rfl rfl (hb hby d11_15) _) ?_
  show Go p e below _ (T2.setTop (mkF m 16 #[.val (.ref aP), .val (.ref aV), .val (.ref ad2), .val (.int (0 : Int32)), .unset, .unset, .unset, .unset, .unset, .unset] [(.int p0)]))
  refine Go.st (fun _ => XS.ifYes X2.here hx rfl (pc0 := 16) (pc' := 36) rfl (hb hby d11_16) rfl ((if0 _ _).trans (flt hp0).2.1) (by decide) (by decide)) ?_
  refine Go.st (fun _ => XS.aloadN X2.here hx rfl (hb hby d11_36) rfl rfl) ?_
  refine Go.st (fun _ => XS.iloadN X2.here hx rfl (hb hby d11_37) rfl) ?_
  refine Go.st (fun _ => XS.aloadN X2.here hx rfl (hb hby d11_38) rfl rfl) ?_
  show Go p e below _ (T2.setTop (mkF m 39 #[.val (.ref aP), .val (.ref aV), .val (.ref ad2), .val (.int (0 : Int32)), .unset, .unset, .unset, .unset, .unset, .unset] [(.ref aP), (.int (0 : Int32)), (.ref ad2)]))
  obtain ⟨T36, X36, e36, st36⟩ := getF X2 hx hZ hown (host := "") (Or.inl (ww hw 57 rfl)) Via.refl e2 F19 (g := (mkF m 39 #[.val (.ref aP), .val (.ref aV), .val (.ref ad2), .val (.int (0 : Int32)), .unset, .unset, .unset, .unset, .unset, .unset] [(.ref aP), (.int (0 : Int32)), (.ref ad2)])) rfl rfl (hb hby d11_39)
  refine Go.st st36 ?_
  obtain ⟨T37, X37, e37, st37⟩ := getFR X36 hx hZ hown (ww hw 80 rfl) e36 F23 (g := (mkF m 42 #[.val (.ref aP), .val (.ref aV), .val (.ref ad2), .val (.int (0 : Int32)), .unset, .unset, .unset, .unset, .unset, .unset] [(.ref aL), (.int (0 : Int32)), (.ref ad2)])) rfl rfl (hb hby d11_42)
  refine Go.st st37 ?_
  refine Go.st (fun _ => XS.iloadN X37.here hx rfl (hb hby d11_45) rfl) ?_
  obtain ⟨cl38, Ar38, qk38, Sz38, Nn38, Ha38, Ga38⟩ := id V_27
  have hin38 : ¬ ((0 : Int32) < 0 ∨ cl38.slots.size ≤ ((0 : Int32) : Int32).toNatClampNeg) := inb_of Sz38 ⟨by decide, by decide⟩
  refine Go.st (fun _ => X37.iaload hx (j := (0 : Int32)) (v := (.int w0)) (by rw [e37]; exact Ar38.1) (State.isArrayOf_alike hZ.alike Ar38.2.1) Ar38.2.2 hin38 (Has.at Ha38 hin38 rfl) (g := (mkF m 46 #[.val (.ref aP), .val (.ref aV), .val (.ref ad2), .val (.int (0 : Int32)), .unset, .unset, .unset, .unset, .unset, .unset] [(.int (0 : Int32)), (.ref aw), (.int (0 : Int32)), (.ref ad2)])) rfl rfl (hb hby d11_46) _) ?_
  show Go p e below _ (T37.setTop (mkF m 47 #[.val (.ref aP), .val (.ref aV), .val (.ref ad2), .val (.int (0 : Int32)), .unset, .unset, .unset, .unset, .unset, .unset] [(.int w0), (.int (0 : Int32)), (.ref ad2)]))
  refine Go.st (fun _ => XS.aloadN X37.here hx rfl (hb hby d11_47) rfl rfl) ?_
  refine Go.st (fun _ => XS.iloadN X37.here hx rfl (hb hby d11_48) rfl) ?_
  obtain ⟨cl39, Ar39, qk39, Sz39, Nn39, Ha39, Ga39⟩ := id V_12
  have hin39 : ¬ ((0 : Int32) < 0 ∨ cl39.slots.size ≤ ((0 : Int32) : Int32).toNatClampNeg) := inb_of Sz39 ⟨by decide, by decide⟩
  refine Go.st (fun _ => X37.iaload hx (j := (0 : Int32)) (v := (.int p0)) (by rw [e37]; exact Ar39.1) (State.isArrayOf_alike hZ.alike Ar39.2.1) Ar39.2.2 hin39 (Has.at Ha39 hin39 rfl) (g := (mkF m 49 #[.val (.ref aP), .val (.ref aV), .val (.ref ad2), .val (.int (0 : Int32)), .unset, .unset, .unset, .unset, .unset, .unset] [(.int (0 : Int32)), (.ref aV), (.int w0), (.int (0 : Int32)), (.ref ad2)])) rfl rfl (hb hby d11_49) _) ?_
  refine goCallS X37 hx hZ (y := (⟨"com/example/traza/traza/PackedRows", "bitsFor", "(I)I"⟩ : MethodName)) hown (ww hw 23 rfl) (ww hw 24 rfl) (ww hw 4 rfl) (ww hw 25 rfl) (by decide) (argsL := [(.int p0)]) (rest := [(.int w0), (.int (0 : Int32)), (.ref ad2)]) e37 (rm_bf l Z a0 hw [] p0 h2 n0 O11) 3 (by decide) (by decide) (by decide) (by decide) (mkF m 50 #[.val (.ref aP), .val (.ref aV), .val (.ref ad2), .val (.int (0 : Int32)), .unset, .unset, .unset, .unset, .unset, .unset] [(.int p0), (.int w0), (.int (0 : Int32)), (.ref ad2)]) rfl (by rw [hml]; rfl) (lenOf pd_0 rfl) rfl (hb hby d11_50) (Nat.le_of_eq rfl) ?_
  intro v40 T40 L40 X40 hQ40
  obtain ⟨⟨z40, rfl, hB40⟩, M40, e40⟩ := hQ40
  have N40 := Fr.app N0 M40
  show Go p e below _ (T40.setTop (mkF m 53 #[.val (.ref aP), .val (.ref aV), .val (.ref ad2), .val (.int (0 : Int32)), .unset, .unset, .unset, .unset, .unset, .unset] [(.int z40), (.int w0), (.int (0 : Int32)), (.ref ad2)]))
  refine goCallS X40 hx hZ (y := (⟨"java/lang/Math", "max", "(II)I"⟩ : MethodName)) hown (ww hw 19 rfl) (ww hw 20 rfl) (ww hw 21 rfl) (ww hw 22 rfl) (by decide) (argsL := [(.int w0), (.int z40)]) (rest := [(.int (0 : Int32)), (.ref ad2)]) e40 (rm_max l Z a0 hw [] w0 z40 h2 n0 O11) 2 (by decide) (by decide) (by decide) (by decide) (mkF m 53 #[.val (.ref aP), .val (.ref aV), .val (.ref ad2), .val (.int (0 : Int32)), .unset, .unset, .unset, .unset, .unset, .unset] [(.int z40), (.int w0), (.int (0 : Int32)), (.ref ad2)]) rfl (by rw [hml]; rfl) (lenOf pd_2 rfl) rfl (hb hby d11_53) (Nat.le_of_eq rfl) ?_
  intro v41 T41 L41 X41 hQ41
  obtain ⟨⟨m41, rfl, em41⟩, M41, e41⟩ := hQ41
  have N41 := Fr.app N40 M41
  obtain ⟨e0, he0, hl0, h30, hf0⟩ := own_mx hw0 hb0 hB40 hp0 em41
  show Go p e below _ (T41.setTop (mkF m 56 #[.val (.ref aP), .val (.ref aV), .val (.ref ad2), .val (.int (0 : Int32)), .unset, .unset, .unset, .unset, .unset, .unset] [(.int m41), (.int (0 : Int32)), (.ref ad2)]))
  obtain ⟨cl42, Ar42, qk42, Sz42, Nn42, Ha42, Ga42⟩ := id V_33
  have hin42 : ¬ ((0 : Int32) < 0 ∨ cl42.slots.size ≤ ((0 : Int32) : Int32).toNatClampNeg) := inb_of Sz42 ⟨by decide, by decide⟩
  obtain ⟨T42, h42, X42, e42, W42, st42⟩ := stI X41 hx hZ e41 Ar42 (j := (0 : Int32)) hin42 (g := (mkF m 56 #[.val (.ref aP), .val (.ref aV), .val (.ref ad2), .val (.int (0 : Int32)), .unset, .unset, .unset, .unset, .unset, .unset] [(.int m41), (.int (0 : Int32)), (.ref ad2)])) rfl rfl (hb hby d11_56)
  refine Go.st st42 ?_
  have O43 := O11.wr W42 gn2
  have V_44 := V_12.other W42 ne3
  have Y45 := Low_wr Y13 W42 (Nat.le_of_lt lne4)
  have E_46 := E_14.wr W42
  have F47 := F15.other W42 (Or.inl ne4)
  have F48 := F16.other W42 (Or.inl ne4)
  have F49 := F17.other W42 (Or.inl ne4)
  have F50 := F18.other W42 (Or.inl ne4)
  have F51 := F19.other W42 (Or.inl ne4)
  have F52 := F20.other W42 (Or.inl ne4)
  have F53 := F21.other W42 (Or.inl ne4)
  have E_54 := E_22.wr W42
  have F55 := F23.other W42 (Or.inl ne5)
  have F56 := F24.other W42 (Or.inl ne5)
  have F57 := F25.other W42 (Or.inl ne5)
  have F58 := F26.other W42 (Or.inl ne5)
  have V_59 := V_27.other W42 ne6
  have V_60 := V_28.other W42 ne7
  have V_61 := V_29.other W42 ne8
  have VL62 := LAr_other VL30 W42 ne9
  have E_63 := E_31.wr W42
  have VL64 := LAr_other VL32 W42 ne10
  have V_65 : Arv Z h42 ad2 k2 .int (3 : Int32) [(.int m41), (.int (0 : Int32)), (.int (0 : Int32))] (.int (0 : Int32)) := Arv.set Ar42 qk42 Sz42 Nn42 Ha42 Ga42 rfl W42 0 rfl (Nat.le_of_ble_eq_true rfl)
  have N42 := Fr.snoc X42 N41 gn2
  refine Go.st (fun _ => XS.iinc X42.here hx rfl (hb hby d11_57) rfl (l' := #[.val (.ref aP), .val (.ref aV), .val (.ref ad2), .val (.int (1 : Int32)), .unset, .unset, .unset, .unset, .unset, .unset]) rfl) ?_
  refine Go.st (fun _ => XS.goto X42.here hx rfl (pc0 := 60) (pc' := 7) rfl (hb hby d11_60) (by decide) (by decide)) ?_
  refine Go.st (fun _ => XS.iloadN X42.here hx rfl (hb hby d11_7) rfl) ?_
  show Go p e below _ (T42.setTop (mkF m 8 #[.val (.ref aP), .val (.ref aV), .val (.ref ad2), .val (.int (1 : Int32)), .unset, .unset, .unset, .unset, .unset, .unset] [(.int (1 : Int32))]))
  refine Go.st (fun _ => XS.aloadN X42.here hx rfl (hb hby d11_8) rfl rfl) ?_
  show Go p e below _ (T42.setTop (mkF m 9 #[.val (.ref aP), .val (.ref aV), .val (.ref ad2), .val (.int (1 : Int32)), .unset, .unset, .unset, .unset, .unset, .unset] [(.ref aV), (.int (1 : Int32))]))
  obtain ⟨cl66, Ar66, qk66, Sz66, Nn66, Ha66, Ga66⟩ := id V_44
  refine Go.st (fun _ => X42.arraylength hx (by rw [e42]; exact Ar66.1) (State.isArrayOf_alike hZ.alike Ar66.2.1) (g := (mkF m 9 #[.val (.ref aP), .val (.ref aV), .val (.ref ad2), .val (.int (1 : Int32)), .unset, .unset, .unset, .unset, .unset, .unset] [(.ref aV), (.int (1 : Int32))])) rfl rfl (hb hby d11_9) _) ?_
  rw [len_of Sz66 Nn66]
  show Go p e below _ (T42.setTop (mkF m 10 #[.val (.ref aP), .val (.ref aV), .val (.ref ad2), .val (.int (1 : Int32)), .unset, .unset, .unset, .unset, .unset, .unset] [(.int (3 : Int32)), (.int (1 : Int32))]))
  refine Go.st (fun _ => XS.icmpNo X42.here hx rfl (hb hby d11_10) rfl (tlt (by decide : (1 : Int32) < (3 : Int32))).2.1) ?_
  refine Go.st (fun _ => XS.aloadN X42.here hx rfl (hb hby d11_13) rfl rfl) ?_
  refine Go.st (fun _ => XS.iloadN X42.here hx rfl (hb hby d11_14) rfl) ?_
  obtain ⟨cl67, Ar67, qk67, Sz67, Nn67, Ha67, Ga67⟩ := id V_44
  have hin67 : ¬ ((1 : Int32) < 0 ∨ cl67.slots.size ≤ ((1 : Int32) : Int32).toNatClampNeg) := inb_of Sz67 ⟨by decide, by decide⟩
  refine Go.st (fun _ => X42.iaload hx (j := (1 : Int32)) (v := (.int p1)) (by rw [e42]; exact Ar67.1) (State.isArrayOf_alike hZ.alike Ar67.2.1) Ar67.2.2 hin67 (Has.at Ha67 hin67 rfl) (g := (mkF m 15 #[.val (.ref aP), .val (.ref aV), .val (.ref ad2), .val (.int (1 : Int32)), .unset, .unset, .unset, .unset, .unset, .unset] [(.int (1 : Int32)), (.ref aV)])) rfl rfl (hb hby d11_15) _) ?_
  show Go p e below _ (T42.setTop (mkF m 16 #[.val (.ref aP), .val (.ref aV), .val (.ref ad2), .val (.int (1 : Int32)), .unset, .unset, .unset, .unset, .unset, .unset] [(.int p1)]))
  refine Go.st (fun _ => XS.ifYes X42.here hx rfl (pc0 := 16) (pc' := 36) rfl (hb hby d11_16) rfl ((if0 _ _).trans (flt hp1).2.1) (by decide) (by decide)) ?_
  refine Go.st (fun _ => XS.aloadN X42.here hx rfl (hb hby d11_36) rfl rfl) ?_
  refine Go.st (fun _ => XS.iloadN X42.here hx rfl (hb hby d11_37) rfl) ?_
  refine Go.st (fun _ => XS.aloadN X42.here hx rfl (hb hby d11_38) rfl rfl) ?_
  show Go p e below _ (T42.setTop (mkF m 39 #[.val (.ref aP), .val (.ref aV), .val (.ref ad2), .val (.int (1 : Int32)), .unset, .unset, .unset, .unset, .unset, .unset] [(.ref aP), (.int (1 : Int32)), (.ref ad2)]))
  obtain ⟨T68, X68, e68, st68⟩ := getF X42 hx hZ hown (host := "") (Or.inl (ww hw 57 rfl)) Via.refl e42 F51 (g := (mkF m 39 #[.val (.ref aP), .val (.ref aV), .val (.ref ad2), .val (.int (1 : Int32)), .unset, .unset, .unset, .unset, .unset, .unset] [(.ref aP), (.int (1 : Int32)), (.ref ad2)])) rfl rfl (hb hby d11_39)
  refine Go.st st68 ?_
  obtain ⟨T69, X69, e69, st69⟩ := getFR X68 hx hZ hown (ww hw 80 rfl) e68 F55 (g := (mkF m 42 #[.val (.ref aP), .val (.ref aV), .val (.ref ad2), .val (.int (1 : Int32)), .unset, .unset, .unset, .unset, .unset, .unset] [(.ref aL), (.int (1 : Int32)), (.ref ad2)])) rfl rfl (hb hby d11_42)
  refine Go.st st69 ?_
  refine Go.st (fun _ => XS.iloadN X69.here hx rfl (hb hby d11_45) rfl) ?_
  obtain ⟨cl70, Ar70, qk70, Sz70, Nn70, Ha70, Ga70⟩ := id V_59
  have hin70 : ¬ ((1 : Int32) < 0 ∨ cl70.slots.size ≤ ((1 : Int32) : Int32).toNatClampNeg) := inb_of Sz70 ⟨by decide, by decide⟩
  refine Go.st (fun _ => X69.iaload hx (j := (1 : Int32)) (v := (.int w1)) (by rw [e69]; exact Ar70.1) (State.isArrayOf_alike hZ.alike Ar70.2.1) Ar70.2.2 hin70 (Has.at Ha70 hin70 rfl) (g := (mkF m 46 #[.val (.ref aP), .val (.ref aV), .val (.ref ad2), .val (.int (1 : Int32)), .unset, .unset, .unset, .unset, .unset, .unset] [(.int (1 : Int32)), (.ref aw), (.int (1 : Int32)), (.ref ad2)])) rfl rfl (hb hby d11_46) _) ?_
  show Go p e below _ (T69.setTop (mkF m 47 #[.val (.ref aP), .val (.ref aV), .val (.ref ad2), .val (.int (1 : Int32)), .unset, .unset, .unset, .unset, .unset, .unset] [(.int w1), (.int (1 : Int32)), (.ref ad2)]))
  refine Go.st (fun _ => XS.aloadN X69.here hx rfl (hb hby d11_47) rfl rfl) ?_
  refine Go.st (fun _ => XS.iloadN X69.here hx rfl (hb hby d11_48) rfl) ?_
  obtain ⟨cl71, Ar71, qk71, Sz71, Nn71, Ha71, Ga71⟩ := id V_44
  have hin71 : ¬ ((1 : Int32) < 0 ∨ cl71.slots.size ≤ ((1 : Int32) : Int32).toNatClampNeg) := inb_of Sz71 ⟨by decide, by decide⟩
  refine Go.st (fun _ => X69.iaload hx (j := (1 : Int32)) (v := (.int p1)) (by rw [e69]; exact Ar71.1) (State.isArrayOf_alike hZ.alike Ar71.2.1) Ar71.2.2 hin71 (Has.at Ha71 hin71 rfl) (g := (mkF m 49 #[.val (.ref aP), .val (.ref aV), .val (.ref ad2), .val (.int (1 : Int32)), .unset, .unset, .unset, .unset, .unset, .unset] [(.int (1 : Int32)), (.ref aV), (.int w1), (.int (1 : Int32)), (.ref ad2)])) rfl rfl (hb hby d11_49) _) ?_
  refine goCallS X69 hx hZ (y := (⟨"com/example/traza/traza/PackedRows", "bitsFor", "(I)I"⟩ : MethodName)) hown (ww hw 23 rfl) (ww hw 24 rfl) (ww hw 4 rfl) (ww hw 25 rfl) (by decide) (argsL := [(.int p1)]) (rest := [(.int w1), (.int (1 : Int32)), (.ref ad2)]) e69 (rm_bf l Z a0 hw [] p1 h42 n0 O43) 3 (by decide) (by decide) (by decide) (by decide) (mkF m 50 #[.val (.ref aP), .val (.ref aV), .val (.ref ad2), .val (.int (1 : Int32)), .unset, .unset, .unset, .unset, .unset, .unset] [(.int p1), (.int w1), (.int (1 : Int32)), (.ref ad2)]) rfl (by rw [hml]; rfl) (lenOf pd_0 rfl) rfl (hb hby d11_50) (Nat.le_of_eq rfl) ?_
  intro v72 T72 L72 X72 hQ72
  obtain ⟨⟨z72, rfl, hB72⟩, M72, e72⟩ := hQ72
  have N72 := Fr.app N42 M72
  show Go p e below _ (T72.setTop (mkF m 53 #[.val (.ref aP), .val (.ref aV), .val (.ref ad2), .val (.int (1 : Int32)), .unset, .unset, .unset, .unset, .unset, .unset] [(.int z72), (.int w1), (.int (1 : Int32)), (.ref ad2)]))
  refine goCallS X72 hx hZ (y := (⟨"java/lang/Math", "max", "(II)I"⟩ : MethodName)) hown (ww hw 19 rfl) (ww hw 20 rfl) (ww hw 21 rfl) (ww hw 22 rfl) (by decide) (argsL := [(.int w1), (.int z72)]) (rest := [(.int (1 : Int32)), (.ref ad2)]) e72 (rm_max l Z a0 hw [] w1 z72 h42 n0 O43) 2 (by decide) (by decide) (by decide) (by decide) (mkF m 53 #[.val (.ref aP), .val (.ref aV), .val (.ref ad2), .val (.int (1 : Int32)), .unset, .unset, .unset, .unset, .unset, .unset] [(.int z72), (.int w1), (.int (1 : Int32)), (.ref ad2)]) rfl (by rw [hml]; rfl) (lenOf pd_2 rfl) rfl (hb hby d11_53) (Nat.le_of_eq rfl) ?_
  intro v73 T73 L73 X73 hQ73
  obtain ⟨⟨m73, rfl, em73⟩, M73, e73⟩ := hQ73
  have N73 := Fr.app N72 M73
  obtain ⟨e1, he1, hl1, h31, hf1⟩ := own_mx hw1 hb1 hB72 hp1 em73
  show Go p e below _ (T73.setTop (mkF m 56 #[.val (.ref aP), .val (.ref aV), .val (.ref ad2), .val (.int (1 : Int32)), .unset, .unset, .unset, .unset, .unset, .unset] [(.int m73), (.int (1 : Int32)), (.ref ad2)]))
  obtain ⟨cl74, Ar74, qk74, Sz74, Nn74, Ha74, Ga74⟩ := id V_65
  have hin74 : ¬ ((1 : Int32) < 0 ∨ cl74.slots.size ≤ ((1 : Int32) : Int32).toNatClampNeg) := inb_of Sz74 ⟨by decide, by decide⟩
  obtain ⟨T74, h74, X74, e74, W74, st74⟩ := stI X73 hx hZ e73 Ar74 (j := (1 : Int32)) hin74 (g := (mkF m 56 #[.val (.ref aP), .val (.ref aV), .val (.ref ad2), .val (.int (1 : Int32)), .unset, .unset, .unset, .unset, .unset, .unset] [(.int m73), (.int (1 : Int32)), (.ref ad2)])) rfl rfl (hb hby d11_56)
  refine Go.st st74 ?_
  have O75 := O43.wr W74 gn2
  have V_76 := V_44.other W74 ne3
  have Y77 := Low_wr Y45 W74 (Nat.le_of_lt lne4)
  have E_78 := E_46.wr W74
  have F79 := F47.other W74 (Or.inl ne4)
  have F80 := F48.other W74 (Or.inl ne4)
  have F81 := F49.other W74 (Or.inl ne4)
  have F82 := F50.other W74 (Or.inl ne4)
  have F83 := F51.other W74 (Or.inl ne4)
  have F84 := F52.other W74 (Or.inl ne4)
  have F85 := F53.other W74 (Or.inl ne4)
  have E_86 := E_54.wr W74
  have F87 := F55.other W74 (Or.inl ne5)
  have F88 := F56.other W74 (Or.inl ne5)
  have F89 := F57.other W74 (Or.inl ne5)
  have F90 := F58.other W74 (Or.inl ne5)
  have V_91 := V_59.other W74 ne6
  have V_92 := V_60.other W74 ne7
  have V_93 := V_61.other W74 ne8
  have VL94 := LAr_other VL62 W74 ne9
  have E_95 := E_63.wr W74
  have VL96 := LAr_other VL64 W74 ne10
  have V_97 : Arv Z h74 ad2 k2 .int (3 : Int32) [(.int m41), (.int m73), (.int (0 : Int32))] (.int (0 : Int32)) := Arv.set Ar74 qk74 Sz74 Nn74 Ha74 Ga74 rfl W74 1 rfl (Nat.le_of_ble_eq_true rfl)
  have N74 := Fr.snoc X74 N73 gn2
  refine Go.st (fun _ => XS.iinc X74.here hx rfl (hb hby d11_57) rfl (l' := #[.val (.ref aP), .val (.ref aV), .val (.ref ad2), .val (.int (2 : Int32)), .unset, .unset, .unset, .unset, .unset, .unset]) rfl) ?_
  refine Go.st (fun _ => XS.goto X74.here hx rfl (pc0 := 60) (pc' := 7) rfl (hb hby d11_60) (by decide) (by decide)) ?_
  refine Go.st (fun _ => XS.iloadN X74.here hx rfl (hb hby d11_7) rfl) ?_
  show Go p e below _ (T74.setTop (mkF m 8 #[.val (.ref aP), .val (.ref aV), .val (.ref ad2), .val (.int (2 : Int32)), .unset, .unset, .unset, .unset, .unset, .unset] [(.int (2 : Int32))]))
  refine Go.st (fun _ => XS.aloadN X74.here hx rfl (hb hby d11_8) rfl rfl) ?_
  show Go p e below _ (T74.setTop (mkF m 9 #[.val (.ref aP), .val (.ref aV), .val (.ref ad2), .val (.int (2 : Int32)), .unset, .unset, .unset, .unset, .unset, .unset] [(.ref aV), (.int (2 : Int32))]))
  obtain ⟨cl98, Ar98, qk98, Sz98, Nn98, Ha98, Ga98⟩ := id V_76
  refine Go.st (fun _ => X74.arraylength hx (by rw [e74]; exact Ar98.1) (State.isArrayOf_alike hZ.alike Ar98.2.1) (g := (mkF m 9 #[.val (.ref aP), .val (.ref aV), .val (.ref ad2), .val (.int (2 : Int32)), .unset, .unset, .unset, .unset, .unset, .unset] [(.ref aV), (.int (2 : Int32))])) rfl rfl (hb hby d11_9) _) ?_
  rw [len_of Sz98 Nn98]
  show Go p e below _ (T74.setTop (mkF m 10 #[.val (.ref aP), .val (.ref aV), .val (.ref ad2), .val (.int (2 : Int32)), .unset, .unset, .unset, .unset, .unset, .unset] [(.int (3 : Int32)), (.int (2 : Int32))]))
  refine Go.st (fun _ => XS.icmpNo X74.here hx rfl (hb hby d11_10) rfl (tlt (by decide : (2 : Int32) < (3 : Int32))).2.1) ?_
  refine Go.st (fun _ => XS.aloadN X74.here hx rfl (hb hby d11_13) rfl rfl) ?_
  refine Go.st (fun _ => XS.iloadN X74.here hx rfl (hb hby d11_14) rfl) ?_
  obtain ⟨cl99, Ar99, qk99, Sz99, Nn99, Ha99, Ga99⟩ := id V_76
  have hin99 : ¬ ((2 : Int32) < 0 ∨ cl99.slots.size ≤ ((2 : Int32) : Int32).toNatClampNeg) := inb_of Sz99 ⟨by decide, by decide⟩
  refine Go.st (fun _ => X74.iaload hx (j := (2 : Int32)) (v := (.int p2)) (by rw [e74]; exact Ar99.1) (State.isArrayOf_alike hZ.alike Ar99.2.1) Ar99.2.2 hin99 (Has.at Ha99 hin99 rfl) (g := (mkF m 15 #[.val (.ref aP), .val (.ref aV), .val (.ref ad2), .val (.int (2 : Int32)), .unset, .unset, .unset, .unset, .unset, .unset] [(.int (2 : Int32)), (.ref aV)])) rfl rfl (hb hby d11_15) _) ?_
  show Go p e below _ (T74.setTop (mkF m 16 #[.val (.ref aP), .val (.ref aV), .val (.ref ad2), .val (.int (2 : Int32)), .unset, .unset, .unset, .unset, .unset, .unset] [(.int p2)]))
  refine Go.st (fun _ => XS.ifYes X74.here hx rfl (pc0 := 16) (pc' := 36) rfl (hb hby d11_16) rfl ((if0 _ _).trans (flt hp2).2.1) (by decide) (by decide)) ?_
  refine Go.st (fun _ => XS.aloadN X74.here hx rfl (hb hby d11_36) rfl rfl) ?_
  refine Go.st (fun _ => XS.iloadN X74.here hx rfl (hb hby d11_37) rfl) ?_
  refine Go.st (fun _ => XS.aloadN X74.here hx rfl (hb hby d11_38) rfl rfl) ?_
  show Go p e below _ (T74.setTop (mkF m 39 #[.val (.ref aP), .val (.ref aV), .val (.ref ad2), .val (.int (2 : Int32)), .unset, .unset, .unset, .unset, .unset, .unset] [(.ref aP), (.int (2 : Int32)), (.ref ad2)]))
  obtain ⟨T100, X100, e100, st100⟩ := getF X74 hx hZ hown (host := "") (Or.inl (ww hw 57 rfl)) Via.refl e74 F83 (g := (mkF m 39 #[.val (.ref aP), .val (.ref aV), .val (.ref ad2), .val (.int (2 : Int32)), .unset, .unset, .unset, .unset, .unset, .unset] [(.ref aP), (.int (2 : Int32)), (.ref ad2)])) rfl rfl (hb hby d11_39)
  refine Go.st st100 ?_
  obtain ⟨T101, X101, e101, st101⟩ := getFR X100 hx hZ hown (ww hw 80 rfl) e100 F87 (g := (mkF m 42 #[.val (.ref aP), .val (.ref aV), .val (.ref ad2), .val (.int (2 : Int32)), .unset, .unset, .unset, .unset, .unset, .unset] [(.ref aL), (.int (2 : Int32)), (.ref ad2)])) rfl rfl (hb hby d11_42)
  refine Go.st st101 ?_
  refine Go.st (fun _ => XS.iloadN X101.here hx rfl (hb hby d11_45) rfl) ?_
  obtain ⟨cl102, Ar102, qk102, Sz102, Nn102, Ha102, Ga102⟩ := id V_91
  have hin102 : ¬ ((2 : Int32) < 0 ∨ cl102.slots.size ≤ ((2 : Int32) : Int32).toNatClampNeg) := inb_of Sz102 ⟨by decide, by decide⟩
  refine Go.st (fun _ => X101.iaload hx (j := (2 : Int32)) (v := (.int w2)) (by rw [e101]; exact Ar102.1) (State.isArrayOf_alike hZ.alike Ar102.2.1) Ar102.2.2 hin102 (Has.at Ha102 hin102 rfl) (g := (mkF m 46 #[.val (.ref aP), .val (.ref aV), .val (.ref ad2), .val (.int (2 : Int32)), .unset, .unset, .unset, .unset, .unset, .unset] [(.int (2 : Int32)), (.ref aw), (.int (2 : Int32)), (.ref ad2)])) rfl rfl (hb hby d11_46) _) ?_
  show Go p e below _ (T101.setTop (mkF m 47 #[.val (.ref aP), .val (.ref aV), .val (.ref ad2), .val (.int (2 : Int32)), .unset, .unset, .unset, .unset, .unset, .unset] [(.int w2), (.int (2 : Int32)), (.ref ad2)]))
  refine Go.st (fun _ => XS.aloadN X101.here hx rfl (hb hby d11_47) rfl rfl) ?_
  refine Go.st (fun _ => XS.iloadN X101.here hx rfl (hb hby d11_48) rfl) ?_
  obtain ⟨cl103, Ar103, qk103, Sz103, Nn103, Ha103, Ga103⟩ := id V_76
  have hin103 : ¬ ((2 : Int32) < 0 ∨ cl103.slots.size ≤ ((2 : Int32) : Int32).toNatClampNeg) := inb_of Sz103 ⟨by decide, by decide⟩
  refine Go.st (fun _ => X101.iaload hx (j := (2 : Int32)) (v := (.int p2)) (by rw [e101]; exact Ar103.1) (State.isArrayOf_alike hZ.alike Ar103.2.1) Ar103.2.2 hin103 (Has.at Ha103 hin103 rfl) (g := (mkF m 49 #[.val (.ref aP), .val (.ref aV), .val (.ref ad2), .val (.int (2 : Int32)), .unset, .unset, .unset, .unset, .unset, .unset] [(.int (2 : Int32)), (.ref aV), (.int w2), (.int (2 : Int32)), (.ref ad2)])) rfl rfl (hb hby d11_49) _) ?_
  refine goCallS X101 hx hZ (y := (⟨"com/example/traza/traza/PackedRows", "bitsFor", "(I)I"⟩ : MethodName)) hown (ww hw 23 rfl) (ww hw 24 rfl) (ww hw 4 rfl) (ww hw 25 rfl) (by decide) (argsL := [(.int p2)]) (rest := [(.int w2), (.int (2 : Int32)), (.ref ad2)]) e101 (rm_bf l Z a0 hw [] p2 h74 n0 O75) 3 (by decide) (by decide) (by decide) (by decide) (mkF m 50 #[.val (.ref aP), .val (.ref aV), .val (.ref ad2), .val (.int (2 : Int32)), .unset, .unset, .unset, .unset, .unset, .unset] [(.int p2), (.int w2), (.int (2 : Int32)), (.ref ad2)]) rfl (by rw [hml]; rfl) (lenOf pd_0 rfl) rfl (hb hby d11_50) (Nat.le_of_eq rfl) ?_
  intro v104 T104 L104 X104 hQ104
  obtain ⟨⟨z104, rfl, hB104⟩, M104, e104⟩ := hQ104
  have N104 := Fr.app N74 M104
  show Go p e below _ (T104.setTop (mkF m 53 #[.val (.ref aP), .val (.ref aV), .val (.ref ad2), .val (.int (2 : Int32)), .unset, .unset, .unset, .unset, .unset, .unset] [(.int z104), (.int w2), (.int (2 : Int32)), (.ref ad2)]))
  refine goCallS X104 hx hZ (y := (⟨"java/lang/Math", "max", "(II)I"⟩ : MethodName)) hown (ww hw 19 rfl) (ww hw 20 rfl) (ww hw 21 rfl) (ww hw 22 rfl) (by decide) (argsL := [(.int w2), (.int z104)]) (rest := [(.int (2 : Int32)), (.ref ad2)]) e104 (rm_max l Z a0 hw [] w2 z104 h74 n0 O75) 2 (by decide) (by decide) (by decide) (by decide) (mkF m 53 #[.val (.ref aP), .val (.ref aV), .val (.ref ad2), .val (.int (2 : Int32)), .unset, .unset, .unset, .unset, .unset, .unset] [(.int z104), (.int w2), (.int (2 : Int32)), (.ref ad2)]) rfl (by rw [hml]; rfl) (lenOf pd_2 rfl) rfl (hb hby d11_53) (Nat.le_of_eq rfl) ?_
  intro v105 T105 L105 X105 hQ105
  obtain ⟨⟨m105, rfl, em105⟩, M105, e105⟩ := hQ105
  have N105 := Fr.app N104 M105
  obtain ⟨e2, he2, hl2, h32, hf2⟩ := own_mx hw2 hb2 hB104 hp2 em105
  show Go p e below _ (T105.setTop (mkF m 56 #[.val (.ref aP), .val (.ref aV), .val (.ref ad2), .val (.int (2 : Int32)), .unset, .unset, .unset, .unset, .unset, .unset] [(.int m105), (.int (2 : Int32)), (.ref ad2)]))
  obtain ⟨cl106, Ar106, qk106, Sz106, Nn106, Ha106, Ga106⟩ := id V_97
  have hin106 : ¬ ((2 : Int32) < 0 ∨ cl106.slots.size ≤ ((2 : Int32) : Int32).toNatClampNeg) := inb_of Sz106 ⟨by decide, by decide⟩
  obtain ⟨T106, h106, X106, e106, W106, st106⟩ := stI X105 hx hZ e105 Ar106 (j := (2 : Int32)) hin106 (g := (mkF m 56 #[.val (.ref aP), .val (.ref aV), .val (.ref ad2), .val (.int (2 : Int32)), .unset, .unset, .unset, .unset, .unset, .unset] [(.int m105), (.int (2 : Int32)), (.ref ad2)])) rfl rfl (hb hby d11_56)
  refine Go.st st106 ?_
  have O107 := O75.wr W106 gn2
  have V_108 := V_76.other W106 ne3
  have Y109 := Low_wr Y77 W106 (Nat.le_of_lt lne4)
  have E_110 := E_78.wr W106
  have F111 := F79.other W106 (Or.inl ne4)
  have F112 := F80.other W106 (Or.inl ne4)
  have F113 := F81.other W106 (Or.inl ne4)
  have F114 := F82.other W106 (Or.inl ne4)
  have F115 := F83.other W106 (Or.inl ne4)
  have F116 := F84.other W106 (Or.inl ne4)
  have F117 := F85.other W106 (Or.inl ne4)
  have E_118 := E_86.wr W106
  have F119 := F87.other W106 (Or.inl ne5)
  have F120 := F88.other W106 (Or.inl ne5)
  have F121 := F89.other W106 (Or.inl ne5)
  have F122 := F90.other W106 (Or.inl ne5)
  have V_123 := V_91.other W106 ne6
  have V_124 := V_92.other W106 ne7
  have V_125 := V_93.other W106 ne8
  have VL126 := LAr_other VL94 W106 ne9
  have E_127 := E_95.wr W106
  have VL128 := LAr_other VL96 W106 ne10
  have V_129 : Arv Z h106 ad2 k2 .int (3 : Int32) [(.int m41), (.int m73), (.int m105)] (.int (0 : Int32)) := Arv.set Ar106 qk106 Sz106 Nn106 Ha106 Ga106 rfl W106 2 rfl (Nat.le_of_ble_eq_true rfl)
  have N106 := Fr.snoc X106 N105 gn2
  refine Go.st (fun _ => XS.iinc X106.here hx rfl (hb hby d11_57) rfl (l' := #[.val (.ref aP), .val (.ref aV), .val (.ref ad2), .val (.int (3 : Int32)), .unset, .unset, .unset, .unset, .unset, .unset]) rfl) ?_
  refine Go.st (fun _ => XS.goto X106.here hx rfl (pc0 := 60) (pc' := 7) rfl (hb hby d11_60) (by decide) (by decide)) ?_
  refine Go.st (fun _ => XS.iloadN X106.here hx rfl (hb hby d11_7) rfl) ?_
  show Go p e below _ (T106.setTop (mkF m 8 #[.val (.ref aP), .val (.ref aV), .val (.ref ad2), .val (.int (3 : Int32)), .unset, .unset, .unset, .unset, .unset, .unset] [(.int (3 : Int32))]))
  refine Go.st (fun _ => XS.aloadN X106.here hx rfl (hb hby d11_8) rfl rfl) ?_
  show Go p e below _ (T106.setTop (mkF m 9 #[.val (.ref aP), .val (.ref aV), .val (.ref ad2), .val (.int (3 : Int32)), .unset, .unset, .unset, .unset, .unset, .unset] [(.ref aV), (.int (3 : Int32))]))
  obtain ⟨cl130, Ar130, qk130, Sz130, Nn130, Ha130, Ga130⟩ := id V_108
  refine Go.st (fun _ => X106.arraylength hx (by rw [e106]; exact Ar130.1) (State.isArrayOf_alike hZ.alike Ar130.2.1) (g := (mkF m 9 #[.val (.ref aP), .val (.ref aV), .val (.ref ad2), .val (.int (3 : Int32)), .unset, .unset, .unset, .unset, .unset, .unset] [(.ref aV), (.int (3 : Int32))])) rfl rfl (hb hby d11_9) _) ?_
  rw [len_of Sz130 Nn130]
  show Go p e below _ (T106.setTop (mkF m 10 #[.val (.ref aP), .val (.ref aV), .val (.ref ad2), .val (.int (3 : Int32)), .unset, .unset, .unset, .unset, .unset, .unset] [(.int (3 : Int32)), (.int (3 : Int32))]))
  refine Go.st (fun _ => XS.icmpYes X106.here hx rfl (pc0 := 10) (pc' := 63) rfl (hb hby d11_10) rfl (flt (by decide : ¬ ((3 : Int32) < (3 : Int32)))).2.1 (by decide) (by decide)) ?_
  obtain ⟨T131, h131, X131, e131, E131, A131, D131, U131, st131⟩ := newO X106 hx hZ hown (ww hw 15 rfl) (ww hw 38 rfl) (ww hw 39 rfl) e106 (g := (mkF m 63 #[.val (.ref aP), .val (.ref aV), .val (.ref ad2), .val (.int (3 : Int32)), .unset, .unset, .unset, .unset, .unset, .unset] [])) rfl (hb hby d11_63) (by decide) (by decide)
  obtain ⟨ad131, g131⟩ : ∃ z, z = h106.size := ⟨_, rfl⟩
  rw [← g131] at A131 D131 U131 st131
  refine Go.st st131 ?_
  have gn131 : n0 ≤ ad131 := oldGe O107 g131
  have ne132 : aV ≠ ad131 := Nat.ne_of_lt (Nat.lt_of_lt_of_le V_108.lt (Nat.le_of_eq g131.symm))
  have lne133 : aP < ad131 := (Nat.lt_of_lt_of_le E_110.lt (Nat.le_of_eq g131.symm))
  have ne133 : aP ≠ ad131 := Nat.ne_of_lt lne133
  have ne134 : aL ≠ ad131 := Nat.ne_of_lt (Nat.lt_of_lt_of_le E_118.lt (Nat.le_of_eq g131.symm))
  have ne135 : aw ≠ ad131 := Nat.ne_of_lt (Nat.lt_of_lt_of_le V_123.lt (Nat.le_of_eq g131.symm))
  have ne136 : aK ≠ ad131 := Nat.ne_of_lt (Nat.lt_of_lt_of_le V_124.lt (Nat.le_of_eq g131.symm))
  have ne137 : aY ≠ ad131 := Nat.ne_of_lt (Nat.lt_of_lt_of_le V_125.lt (Nat.le_of_eq g131.symm))
  have ne138 : aB ≠ ad131 := Nat.ne_of_lt (Nat.lt_of_lt_of_le (LAr_lt VL126) (Nat.le_of_eq g131.symm))
  have ne139 : aC ≠ ad131 := Nat.ne_of_lt (Nat.lt_of_lt_of_le E_127.lt (Nat.le_of_eq g131.symm))
  have ne140 : ad2 ≠ ad131 := Nat.ne_of_lt (Nat.lt_of_lt_of_le V_129.lt (Nat.le_of_eq g131.symm))
  have O141 := O107.ext E131
  have V_142 := V_108.ext E131
  have Y143 := Low_ext Y109 E131
  have E_144 := E_110.ext E131
  have F145 := F111.ext E131
  have F146 := F112.ext E131
  have F147 := F113.ext E131
  have F148 := F114.ext E131
  have F149 := F115.ext E131
  have F150 := F116.ext E131
  have F151 := F117.ext E131
  have E_152 := E_118.ext E131
  have F153 := F119.ext E131
  have F154 := F120.ext E131
  have F155 := F121.ext E131
  have F156 := F122.ext E131
  have V_157 := V_123.ext E131
  have V_158 := V_124.ext E131
  have V_159 := V_125.ext E131
  have VL160 := LAr_ext VL126 E131
  have E_161 := E_127.ext E131
  have VL162 := LAr_ext VL128 E131
  have V_163 := V_129.ext E131
  have F164 : Fld Z h131 ad131 "com/example/traza/traza/PackedRows$Layout" "widths" "[I" .null := D131 (Or.inr (ww hw 46 rfl)) (ty := (.array .int)) (by decide)
  have F165 : Fld Z h131 ad131 "com/example/traza/traza/PackedRows$Layout" "rowBits" "I" (.int (0 : Int32)) := D131 (Or.inr (ww hw 48 rfl)) (ty := .int) (by decide)
  have F166 : Fld Z h131 ad131 "com/example/traza/traza/PackedRows$Layout" "words" "I" (.int (0 : Int32)) := D131 (Or.inr (ww hw 54 rfl)) (ty := .int) (by decide)
  have F167 : Fld Z h131 ad131 "com/example/traza/traza/PackedRows$Layout" "chunkWords" "I" (.int (0 : Int32)) := D131 (Or.inr (ww hw 56 rfl)) (ty := .int) (by decide)
  refine Go.st (fun _ => XS.dup X131.here hx rfl (hb hby d11_66) rfl rfl) ?_
  refine Go.st (fun _ => XS.aloadN X131.here hx rfl (hb hby d11_67) rfl rfl) ?_
  show Go p e below _ (T131.setTop (mkF m 68 #[.val (.ref aP), .val (.ref aV), .val (.ref ad2), .val (.int (3 : Int32)), .unset, .unset, .unset, .unset, .unset, .unset] [(.ref ad2), (.ref ad131), (.ref ad131)]))
  refine Go.st (fun _ => XS.aloadN X131.here hx rfl (hb hby d11_68) rfl rfl) ?_
  obtain ⟨T168, X168, e168, st168⟩ := getF X131 hx hZ hown (host := "") (Or.inl (ww hw 34 rfl)) Via.refl e131 F145 (g := (mkF m 69 #[.val (.ref aP), .val (.ref aV), .val (.ref ad2), .val (.int (3 : Int32)), .unset, .unset, .unset, .unset, .unset, .unset] [(.ref aP), (.ref ad2), (.ref ad131), (.ref ad131)])) rfl rfl (hb hby d11_69)
  refine Go.st st168 ?_
  refine goInit X168 hx hZ (y := (⟨"com/example/traza/traza/PackedRows$Layout", "<init>", "([II)V"⟩ : MethodName)) rfl hown (ww hw 40 rfl) (ww hw 41 rfl) (ww hw 39 rfl) (ww hw 42 rfl) (by decide) (a := ad131) (argsL := [(.ref ad2), (.int (12 : Int32))]) (rest := [(.ref ad131)]) e168 (rm_LI l Z a0 hw [] ad131 ad2 k2 m41 m73 m105 e0 e1 e2 h131 n0 O141 A131 F164 F165 F166 F167 gn131 V_163 he0 he1 he2 h30 h31 h32) 1 (by decide) (by decide) (by decide) (by decide) (mkF m 72 #[.val (.ref aP), .val (.ref aV), .val (.ref ad2), .val (.int (3 : Int32)), .unset, .unset, .unset, .unset, .unset, .unset] [(.int (12 : Int32)), (.ref ad2), (.ref ad131), (.ref ad131)]) rfl (by rw [hml]; rfl) (lenOf pd_4 rfl) rfl (hb hby d11_72) (Nat.le_of_eq rfl) ?_
  intro v169 T169 L169 X169 hQ169
  obtain ⟨rfl, M169, K169, rb169, wd169, cw169, hW169, Ga169, Gb169, Gc169, Gd169⟩ := hQ169
  have N169 := Fr.app N106 M169
  have O170 := O141.keep K169 (allS gn131 all0)
  have V_171 := V_142.keep K169 (ninS ne132 nin0)
  have Y172 := Low_keep Y143 K169 (allS (Nat.le_of_lt lne133) all0)
  have E_173 := E_144.keep K169
  have F174 := F145.keep K169 (ninS ne133 nin0)
  have F175 := F146.keep K169 (ninS ne133 nin0)
  have F176 := F147.keep K169 (ninS ne133 nin0)
  have F177 := F148.keep K169 (ninS ne133 nin0)
  have F178 := F149.keep K169 (ninS ne133 nin0)
  have F179 := F150.keep K169 (ninS ne133 nin0)
  have F180 := F151.keep K169 (ninS ne133 nin0)
  have E_181 := E_152.keep K169
  have F182 := F153.keep K169 (ninS ne134 nin0)
  have F183 := F154.keep K169 (ninS ne134 nin0)
  have F184 := F155.keep K169 (ninS ne134 nin0)
  have F185 := F156.keep K169 (ninS ne134 nin0)
  have V_186 := V_157.keep K169 (ninS ne135 nin0)
  have V_187 := V_158.keep K169 (ninS ne136 nin0)
  have V_188 := V_159.keep K169 (ninS ne137 nin0)
  have VL189 := LAr_keep VL160 K169 (ninS ne138 nin0)
  have E_190 := E_161.keep K169
  have VL191 := LAr_keep VL162 K169 (ninS ne139 nin0)
  have V_192 := V_163.keep K169 (ninS ne140 nin0)
  have E_193 := A131.keep K169
  have hle2 : ((e0 + e1 + e2 + 63) / 64) ≤ 2 := by omega
  show Go p e below _ (T169.setTop (mkF m 75 #[.val (.ref aP), .val (.ref aV), .val (.ref ad2), .val (.int (3 : Int32)), .unset, .unset, .unset, .unset, .unset, .unset] [(.ref ad131)]))
  refine Go.st (fun _ => XS.astoreN X169.here hx rfl (hb hby d11_75) rfl rfl (l' := #[.val (.ref aP), .val (.ref aV), .val (.ref ad2), .val (.ref ad131), .unset, .unset, .unset, .unset, .unset, .unset]) rfl) ?_
  refine Go.st (fun _ => XS.aloadN X169.here hx rfl (hb hby d11_76) rfl rfl) ?_
  obtain ⟨T194, X194, e194, st194⟩ := getF X169 hx hZ hown (host := "") (Or.inl (ww hw 68 rfl)) Via.refl rfl F180 (g := (mkF m 77 #[.val (.ref aP), .val (.ref aV), .val (.ref ad2), .val (.ref ad131), .unset, .unset, .unset, .unset, .unset, .unset] [(.ref aP)])) rfl rfl (hb hby d11_77)
  refine Go.st st194 ?_
  refine Go.st (fun _ => XS.aloadN X194.here hx rfl (hb hby d11_80) rfl rfl) ?_
  show Go p e below _ (T194.setTop (mkF m 81 #[.val (.ref aP), .val (.ref aV), .val (.ref ad2), .val (.ref ad131), .unset, .unset, .unset, .unset, .unset, .unset] [(.ref aP), (.int (1 : Int32))]))
  obtain ⟨T195, X195, e195, st195⟩ := getF X194 hx hZ hown (host := "") (Or.inl (ww hw 36 rfl)) Via.refl e194 F175 (g := (mkF m 81 #[.val (.ref aP), .val (.ref aV), .val (.ref ad2), .val (.ref ad131), .unset, .unset, .unset, .unset, .unset, .unset] [(.ref aP), (.int (1 : Int32))])) rfl rfl (hb hby d11_81)
  refine Go.st st195 ?_
  refine Go.st (fun _ => XS.iand X195.here hx rfl (hb hby d11_84) rfl) ?_
  refine Go.st (fun _ => XS.istore X195.here hx rfl (hb hby d11_85) rfl (l' := #[.val (.ref aP), .val (.ref aV), .val (.ref ad2), .val (.ref ad131), .val (.int (1 : Int32)), .unset, .unset, .unset, .unset, .unset]) rfl) ?_
  refine Go.st (fun _ => XS.iload X195.here hx rfl (hb hby d11_87) rfl) ?_
  show Go p e below _ (T195.setTop (mkF m 89 #[.val (.ref aP), .val (.ref aV), .val (.ref ad2), .val (.ref ad131), .val (.int (1 : Int32)), .unset, .unset, .unset, .unset, .unset] [(.int (1 : Int32))]))
  refine Go.st (fun _ => XS.ifNo X195.here hx rfl (hb hby d11_89) rfl ((if0 _ _).trans (tlt (by decide : (0 : Int32) < (1 : Int32))).2.2.2)) ?_
  refine Go.st (fun _ => XS.aloadN X195.here hx rfl (hb hby d11_92) rfl rfl) ?_
  obtain ⟨T196, X196, e196, st196⟩ := getF X195 hx hZ hown (host := "") (Or.inl (ww hw 68 rfl)) Via.refl e195 F180 (g := (mkF m 93 #[.val (.ref aP), .val (.ref aV), .val (.ref ad2), .val (.ref ad131), .val (.int (1 : Int32)), .unset, .unset, .unset, .unset, .unset] [(.ref aP)])) rfl rfl (hb hby d11_93)
  refine Go.st st196 ?_
  refine Go.st (fun _ => XS.aloadN X196.here hx rfl (hb hby d11_96) rfl rfl) ?_
  show Go p e below _ (T196.setTop (mkF m 97 #[.val (.ref aP), .val (.ref aV), .val (.ref ad2), .val (.ref ad131), .val (.int (1 : Int32)), .unset, .unset, .unset, .unset, .unset] [(.ref aP), (.int (1 : Int32))]))
  obtain ⟨T197, X197, e197, st197⟩ := getF X196 hx hZ hown (host := "") (Or.inl (ww hw 34 rfl)) Via.refl e196 F174 (g := (mkF m 97 #[.val (.ref aP), .val (.ref aV), .val (.ref ad2), .val (.ref ad131), .val (.int (1 : Int32)), .unset, .unset, .unset, .unset, .unset] [(.ref aP), (.int (1 : Int32))])) rfl rfl (hb hby d11_97)
  refine Go.st st197 ?_
  show Go p e below _ (T197.setTop (mkF m 100 #[.val (.ref aP), .val (.ref aV), .val (.ref ad2), .val (.ref ad131), .val (.int (1 : Int32)), .unset, .unset, .unset, .unset, .unset] [(.int (12 : Int32)), (.int (1 : Int32))]))
  refine Go.st (fun _ => XS.iushr X197.here hx rfl (hb hby d11_100) rfl) ?_
  rw [show (((1 : Int32).toUInt32 >>> ((12 : Int32) &&& 31).toUInt32).toInt32) = (0 : Int32) from by decide]
  show Go p e below _ (T197.setTop (mkF m 101 #[.val (.ref aP), .val (.ref aV), .val (.ref ad2), .val (.ref ad131), .val (.int (1 : Int32)), .unset, .unset, .unset, .unset, .unset] [(.int (0 : Int32))]))
  refine Go.st (fun _ => XS.istore X197.here hx rfl (hb hby d11_101) rfl (l' := #[.val (.ref aP), .val (.ref aV), .val (.ref ad2), .val (.ref ad131), .val (.int (1 : Int32)), .val (.int (0 : Int32)), .unset, .unset, .unset, .unset]) rfl) ?_
  refine Go.st (fun _ => XS.aloadN X197.here hx rfl (hb hby d11_103) rfl rfl) ?_
  refine goVirt X197 hx hZ (y := (⟨"com/example/traza/traza/PackedRows$Layout", "newChunk", "()[J"⟩ : MethodName)) (z := (⟨"com/example/traza/traza/PackedRows$Layout", "newChunk", "()[J"⟩ : MethodName)) hown (ww hw 81 rfl) (ww hw 82 rfl) (notFace_of_selects (args := #[]) (mvT hZ (ww hw 84 rfl))) (ww hw 84 rfl) (ww hw 83 rfl) (ww hw 39 rfl) (ww hw 85 rfl) (by decide) (a := ad131) (argsL := []) (rest := []) e197 E_193 (rm_nc l Z a0 hw [] ad131 m41 m73 m105 rb169 wd169 cw169 e0 e1 e2 T169.heap n0 O170 Gd169 hW169) 0 (by decide) (by decide) (by decide) (by decide) (mkF m 104 #[.val (.ref aP), .val (.ref aV), .val (.ref ad2), .val (.ref ad131), .val (.int (1 : Int32)), .val (.int (0 : Int32)), .unset, .unset, .unset, .unset] [(.ref ad131)]) rfl (by rw [hml]; rfl) (lenOf pd_7 rfl) rfl (hb hby d11_104) (Nat.le_of_eq rfl) ?_
  intro v198 T198 L198 X198 hQ198
  obtain ⟨c198, rfl, M198, K198, sz198, EC198, VC198⟩ := hQ198
  have N198 := Fr.app N169 M198
  have O199 := O170.keep K198 all0
  have V_200 := V_171.keep K198 nin0
  have Y201 := Low_keep Y172 K198 all0
  have E_202 := E_173.keep K198
  have F203 := F174.keep K198 nin0
  have F204 := F175.keep K198 nin0
  have F205 := F176.keep K198 nin0
  have F206 := F177.keep K198 nin0
  have F207 := F178.keep K198 nin0
  have F208 := F179.keep K198 nin0
  have F209 := F180.keep K198 nin0
  have E_210 := E_181.keep K198
  have F211 := F182.keep K198 nin0
  have F212 := F183.keep K198 nin0
  have F213 := F184.keep K198 nin0
  have F214 := F185.keep K198 nin0
  have V_215 := V_186.keep K198 nin0
  have V_216 := V_187.keep K198 nin0
  have V_217 := V_188.keep K198 nin0
  have VL218 := LAr_keep VL189 K198 nin0
  have E_219 := E_190.keep K198
  have VL220 := LAr_keep VL191 K198 nin0
  have V_221 := V_192.keep K198 nin0
  have E_222 := E_193.keep K198
  have F223 := Ga169.keep K198 nin0
  have F224 := Gb169.keep K198 nin0
  have F225 := Gc169.keep K198 nin0
  have F226 := Gd169.keep K198 nin0
  have ne227 : aV ≠ c198 := Nat.ne_of_lt (Nat.lt_of_lt_of_le V_171.lt sz198)
  have ne228 : aP ≠ c198 := Nat.ne_of_lt (Nat.lt_of_lt_of_le E_173.lt sz198)
  have ne229 : aL ≠ c198 := Nat.ne_of_lt (Nat.lt_of_lt_of_le E_181.lt sz198)
  have ne230 : aw ≠ c198 := Nat.ne_of_lt (Nat.lt_of_lt_of_le V_186.lt sz198)
  have ne231 : aK ≠ c198 := Nat.ne_of_lt (Nat.lt_of_lt_of_le V_187.lt sz198)
  have ne232 : aY ≠ c198 := Nat.ne_of_lt (Nat.lt_of_lt_of_le V_188.lt sz198)
  have ne233 : aB ≠ c198 := Nat.ne_of_lt (Nat.lt_of_lt_of_le (LAr_lt VL189) sz198)
  have ne234 : aC ≠ c198 := Nat.ne_of_lt (Nat.lt_of_lt_of_le E_190.lt sz198)
  have ne235 : ad2 ≠ c198 := Nat.ne_of_lt (Nat.lt_of_lt_of_le V_192.lt sz198)
  have ne236 : ad131 ≠ c198 := Nat.ne_of_lt (Nat.lt_of_lt_of_le E_193.lt sz198)
  have pc198 : aP ≤ c198 := Nat.le_trans (Nat.le_of_lt E_173.lt) sz198
  show Go p e below _ (T198.setTop (mkF m 107 #[.val (.ref aP), .val (.ref aV), .val (.ref ad2), .val (.ref ad131), .val (.int (1 : Int32)), .val (.int (0 : Int32)), .unset, .unset, .unset, .unset] [(.ref c198)]))
  refine Go.st (fun _ => XS.astore X198.here hx rfl (hb hby d11_107) rfl rfl (l' := #[.val (.ref aP), .val (.ref aV), .val (.ref ad2), .val (.ref ad131), .val (.int (1 : Int32)), .val (.int (0 : Int32)), .val (.ref c198), .unset, .unset, .unset]) rfl) ?_
  refine Go.st (fun _ => XS.aloadN X198.here hx rfl (hb hby d11_109) rfl rfl) ?_
  show Go p e below _ (T198.setTop (mkF m 110 #[.val (.ref aP), .val (.ref aV), .val (.ref ad2), .val (.ref ad131), .val (.int (1 : Int32)), .val (.int (0 : Int32)), .val (.ref c198), .unset, .unset, .unset] [(.ref ad2)]))
  obtain ⟨cl237, Ar237, qk237, Sz237, Nn237, Ha237, Ga237⟩ := id V_221
  refine Go.st (fun _ => X198.arraylength hx Ar237.1 (State.isArrayOf_alike hZ.alike Ar237.2.1) (g := (mkF m 110 #[.val (.ref aP), .val (.ref aV), .val (.ref ad2), .val (.ref ad131), .val (.int (1 : Int32)), .val (.int (0 : Int32)), .val (.ref c198), .unset, .unset, .unset] [(.ref ad2)])) rfl rfl (hb hby d11_110) _) ?_
  rw [len_of Sz237 Nn237]
  show Go p e below _ (T198.setTop (mkF m 111 #[.val (.ref aP), .val (.ref aV), .val (.ref ad2), .val (.ref ad131), .val (.int (1 : Int32)), .val (.int (0 : Int32)), .val (.ref c198), .unset, .unset, .unset] [(.int (3 : Int32))]))
  obtain ⟨T238, h238, k238, X238, e238, E238, A238, st238⟩ := newP X198 hx hZ (ww hw 1 rfl) rfl (g := (mkF m 111 #[.val (.ref aP), .val (.ref aV), .val (.ref ad2), .val (.ref ad131), .val (.int (1 : Int32)), .val (.int (0 : Int32)), .val (.ref c198), .unset, .unset, .unset] [(.int (3 : Int32))])) rfl (hb hby d11_111) rfl (by decide) (cap := 3) (by decide) (by decide) (by decide) (by decide)
  obtain ⟨ad238, g238⟩ : ∃ z, z = T198.heap.size := ⟨_, rfl⟩
  rw [← g238] at A238 st238
  refine Go.st st238 ?_
  have gn238 : n0 ≤ ad238 := oldGe O199 g238
  have ne239 : aV ≠ ad238 := Nat.ne_of_lt (Nat.lt_of_lt_of_le V_200.lt (Nat.le_of_eq g238.symm))
  have lne240 : aP < ad238 := (Nat.lt_of_lt_of_le E_202.lt (Nat.le_of_eq g238.symm))
  have ne240 : aP ≠ ad238 := Nat.ne_of_lt lne240
  have ne241 : aL ≠ ad238 := Nat.ne_of_lt (Nat.lt_of_lt_of_le E_210.lt (Nat.le_of_eq g238.symm))
  have ne242 : aw ≠ ad238 := Nat.ne_of_lt (Nat.lt_of_lt_of_le V_215.lt (Nat.le_of_eq g238.symm))
  have ne243 : aK ≠ ad238 := Nat.ne_of_lt (Nat.lt_of_lt_of_le V_216.lt (Nat.le_of_eq g238.symm))
  have ne244 : aY ≠ ad238 := Nat.ne_of_lt (Nat.lt_of_lt_of_le V_217.lt (Nat.le_of_eq g238.symm))
  have ne245 : aB ≠ ad238 := Nat.ne_of_lt (Nat.lt_of_lt_of_le (LAr_lt VL218) (Nat.le_of_eq g238.symm))
  have ne246 : aC ≠ ad238 := Nat.ne_of_lt (Nat.lt_of_lt_of_le E_219.lt (Nat.le_of_eq g238.symm))
  have ne247 : ad2 ≠ ad238 := Nat.ne_of_lt (Nat.lt_of_lt_of_le V_221.lt (Nat.le_of_eq g238.symm))
  have ne248 : ad131 ≠ ad238 := Nat.ne_of_lt (Nat.lt_of_lt_of_le E_222.lt (Nat.le_of_eq g238.symm))
  have ne249 : c198 ≠ ad238 := Nat.ne_of_lt (Nat.lt_of_lt_of_le EC198.lt (Nat.le_of_eq g238.symm))
  have O250 := O199.ext E238
  have V_251 := V_200.ext E238
  have Y252 := Low_ext Y201 E238
  have E_253 := E_202.ext E238
  have F254 := F203.ext E238
  have F255 := F204.ext E238
  have F256 := F205.ext E238
  have F257 := F206.ext E238
  have F258 := F207.ext E238
  have F259 := F208.ext E238
  have F260 := F209.ext E238
  have E_261 := E_210.ext E238
  have F262 := F211.ext E238
  have F263 := F212.ext E238
  have F264 := F213.ext E238
  have F265 := F214.ext E238
  have V_266 := V_215.ext E238
  have V_267 := V_216.ext E238
  have V_268 := V_217.ext E238
  have VL269 := LAr_ext VL218 E238
  have E_270 := E_219.ext E238
  have VL271 := LAr_ext VL220 E238
  have V_272 := V_221.ext E238
  have E_273 := E_222.ext E238
  have F274 := F223.ext E238
  have F275 := F224.ext E238
  have F276 := F225.ext E238
  have F277 := F226.ext E238
  have E_278 := EC198.ext E238
  have VL279 := LAr_ext VC198 E238
  have V_280 : Arv Z h238 ad238 k238 .int (3 : Int32) [(.int (0 : Int32)), (.int (0 : Int32)), (.int (0 : Int32))] (.int (0 : Int32)) := (Arv.new A238 (by decide)).pad (pad_rep [] (.int (0 : Int32)) 3)
  refine Go.st (fun _ => XS.astore X238.here hx rfl (hb hby d11_113) rfl rfl (l' := #[.val (.ref aP), .val (.ref aV), .val (.ref ad2), .val (.ref ad131), .val (.int (1 : Int32)), .val (.int (0 : Int32)), .val (.ref c198), .val (.ref ad238), .unset, .unset]) rfl) ?_
  refine Go.st (fun _ => XS.aloadN X238.here hx rfl (hb hby d11_115) rfl rfl) ?_
  obtain ⟨T281, X281, e281, st281⟩ := getFR X238 hx hZ hown (ww hw 59 rfl) e238 F276 (g := (mkF m 116 #[.val (.ref aP), .val (.ref aV), .val (.ref ad2), .val (.ref ad131), .val (.int (1 : Int32)), .val (.int (0 : Int32)), .val (.ref c198), .val (.ref ad238), .unset, .unset] [(.ref ad131)])) rfl rfl (hb hby d11_116)
  refine Go.st st281 ?_
  show Go p e below _ (T281.setTop (mkF m 119 #[.val (.ref aP), .val (.ref aV), .val (.ref ad2), .val (.ref ad131), .val (.int (1 : Int32)), .val (.int (0 : Int32)), .val (.ref c198), .val (.ref ad238), .unset, .unset] [(.int wd169)]))
  obtain ⟨T282, h282, k282, X282, e282, E282, A282, B282, st282⟩ := newPE X281 hx hZ (ww hw 60 rfl) e281 (g := (mkF m 119 #[.val (.ref aP), .val (.ref aV), .val (.ref ad2), .val (.ref ad131), .val (.int (1 : Int32)), .val (.int (0 : Int32)), .val (.ref c198), .val (.ref ad238), .unset, .unset] [(.int wd169)])) rfl (hb hby d11_119) rfl (len_cap hW169.2.2.2.2.2.2.2.1 hle2).1 (cap := 2) (len_cap hW169.2.2.2.2.2.2.2.1 hle2).2 (by decide) (by decide) (by decide) (ad := "[J") rfl
  obtain ⟨ad282, g282⟩ : ∃ z, z = h238.size := ⟨_, rfl⟩
  rw [← g282] at A282 B282 st282
  refine Go.st st282 ?_
  have gn282 : n0 ≤ ad282 := oldGe O250 g282
  have ne283 : aV ≠ ad282 := Nat.ne_of_lt (Nat.lt_of_lt_of_le V_251.lt (Nat.le_of_eq g282.symm))
  have lne284 : aP < ad282 := (Nat.lt_of_lt_of_le E_253.lt (Nat.le_of_eq g282.symm))
  have ne284 : aP ≠ ad282 := Nat.ne_of_lt lne284
  have ne285 : aL ≠ ad282 := Nat.ne_of_lt (Nat.lt_of_lt_of_le E_261.lt (Nat.le_of_eq g282.symm))
  have ne286 : aw ≠ ad282 := Nat.ne_of_lt (Nat.lt_of_lt_of_le V_266.lt (Nat.le_of_eq g282.symm))
  have ne287 : aK ≠ ad282 := Nat.ne_of_lt (Nat.lt_of_lt_of_le V_267.lt (Nat.le_of_eq g282.symm))
  have ne288 : aY ≠ ad282 := Nat.ne_of_lt (Nat.lt_of_lt_of_le V_268.lt (Nat.le_of_eq g282.symm))
  have ne289 : aB ≠ ad282 := Nat.ne_of_lt (Nat.lt_of_lt_of_le (LAr_lt VL269) (Nat.le_of_eq g282.symm))
  have ne290 : aC ≠ ad282 := Nat.ne_of_lt (Nat.lt_of_lt_of_le E_270.lt (Nat.le_of_eq g282.symm))
  have ne291 : ad2 ≠ ad282 := Nat.ne_of_lt (Nat.lt_of_lt_of_le V_272.lt (Nat.le_of_eq g282.symm))
  have ne292 : ad131 ≠ ad282 := Nat.ne_of_lt (Nat.lt_of_lt_of_le E_273.lt (Nat.le_of_eq g282.symm))
  have ne293 : c198 ≠ ad282 := Nat.ne_of_lt (Nat.lt_of_lt_of_le E_278.lt (Nat.le_of_eq g282.symm))
  have ne294 : ad238 ≠ ad282 := Nat.ne_of_lt (Nat.lt_of_lt_of_le V_280.lt (Nat.le_of_eq g282.symm))
  have O295 := O250.ext E282
  have V_296 := V_251.ext E282
  have Y297 := Low_ext Y252 E282
  have E_298 := E_253.ext E282
  have F299 := F254.ext E282
  have F300 := F255.ext E282
  have F301 := F256.ext E282
  have F302 := F257.ext E282
  have F303 := F258.ext E282
  have F304 := F259.ext E282
  have F305 := F260.ext E282
  have E_306 := E_261.ext E282
  have F307 := F262.ext E282
  have F308 := F263.ext E282
  have F309 := F264.ext E282
  have F310 := F265.ext E282
  have V_311 := V_266.ext E282
  have V_312 := V_267.ext E282
  have V_313 := V_268.ext E282
  have VL314 := LAr_ext VL269 E282
  have E_315 := E_270.ext E282
  have VL316 := LAr_ext VL271 E282
  have V_317 := V_272.ext E282
  have E_318 := E_273.ext E282
  have F319 := F274.ext E282
  have F320 := F275.ext E282
  have F321 := F276.ext E282
  have F322 := F277.ext E282
  have E_323 := E_278.ext E282
  have VL324 := LAr_ext VL279 E282
  have V_325 := V_280.ext E282
  have VL326 : LAr Z h282 ad282 ((e0 + e1 + e2 + 63) / 64) (fun _ => (0 : Int64)) := LAr_new A282 hW169.2.2.2.2.2.2.2.1
  refine Go.st (fun _ => XS.astore X282.here hx rfl (hb hby d11_121) rfl rfl (l' := #[.val (.ref aP), .val (.ref aV), .val (.ref ad2), .val (.ref ad131), .val (.int (1 : Int32)), .val (.int (0 : Int32)), .val (.ref c198), .val (.ref ad238), .val (.ref ad282), .unset]) rfl) ?_
  refine Go.st (fun _ => XS.iconst X282.here hx rfl (hb hby d11_123)) ?_
  refine Go.st (fun _ => XS.istore X282.here hx rfl (hb hby d11_124) rfl (l' := #[.val (.ref aP), .val (.ref aV), .val (.ref ad2), .val (.ref ad131), .val (.int (1 : Int32)), .val (.int (0 : Int32)), .val (.ref c198), .val (.ref ad238), .val (.ref ad282), .val (.int (0 : Int32))]) rfl) ?_
  show Go p e below _ (T282.setTop (mkF m 126 #[.val (.ref aP), .val (.ref aV), .val (.ref ad2), .val (.ref ad131), .val (.int (1 : Int32)), .val (.int (0 : Int32)), .val (.ref c198), .val (.ref ad238), .val (.ref ad282), .val (.int (0 : Int32))] []))
  refine Go.st (fun _ => XS.iload X282.here hx rfl (hb hby d11_126) rfl) ?_
  refine Go.st (fun _ => XS.iload X282.here hx rfl (hb hby d11_128) rfl) ?_
  refine Go.st (fun _ => XS.icmpNo X282.here hx rfl (hb hby d11_130) rfl (tlt (by decide : (0 : Int32) < (1 : Int32))).2.1) ?_
  refine Go.st (fun _ => XS.aloadN X282.here hx rfl (hb hby d11_133) rfl rfl) ?_
  show Go p e below _ (T282.setTop (mkF m 134 #[.val (.ref aP), .val (.ref aV), .val (.ref ad2), .val (.ref ad131), .val (.int (1 : Int32)), .val (.int (0 : Int32)), .val (.ref c198), .val (.ref ad238), .val (.ref ad282), .val (.int (0 : Int32))] [(.ref aP)]))
  obtain ⟨T327, X327, e327, st327⟩ := getF X282 hx hZ hown (host := "") (Or.inl (ww hw 57 rfl)) Via.refl e282 F303 (g := (mkF m 134 #[.val (.ref aP), .val (.ref aV), .val (.ref ad2), .val (.ref ad131), .val (.int (1 : Int32)), .val (.int (0 : Int32)), .val (.ref c198), .val (.ref ad238), .val (.ref ad282), .val (.int (0 : Int32))] [(.ref aP)])) rfl rfl (hb hby d11_134)
  refine Go.st st327 ?_
  refine Go.st (fun _ => XS.aloadN X327.here hx rfl (hb hby d11_137) rfl rfl) ?_
  obtain ⟨T328, X328, e328, st328⟩ := getF X327 hx hZ hown (host := "") (Or.inl (ww hw 13 rfl)) Via.refl e327 F301 (g := (mkF m 138 #[.val (.ref aP), .val (.ref aV), .val (.ref ad2), .val (.ref ad131), .val (.int (1 : Int32)), .val (.int (0 : Int32)), .val (.ref c198), .val (.ref ad238), .val (.ref ad282), .val (.int (0 : Int32))] [(.ref aP), (.ref aL)])) rfl rfl (hb hby d11_138)
  refine Go.st st328 ?_
  refine Go.st (fun _ => XS.iload X328.here hx rfl (hb hby d11_141) rfl) ?_
  show Go p e below _ (T328.setTop (mkF m 143 #[.val (.ref aP), .val (.ref aV), .val (.ref ad2), .val (.ref ad131), .val (.int (1 : Int32)), .val (.int (0 : Int32)), .val (.ref c198), .val (.ref ad238), .val (.ref ad282), .val (.int (0 : Int32))] [(.int (0 : Int32)), (.ref aK), (.ref aL)]))
  obtain ⟨cl329, Ar329, qk329, Sz329, Nn329, Ha329, Ga329⟩ := id V_312
  have hin329 : ¬ ((0 : Int32) < 0 ∨ cl329.slots.size ≤ ((0 : Int32) : Int32).toNatClampNeg) := inb_of Sz329 ⟨by decide, by decide⟩
  refine Go.st (fun _ => X328.aaload hx (j := (0 : Int32)) (v := (.ref aC)) (by rw [e328]; exact Ar329.1) (State.isArrayOf_alike hZ.alike Ar329.2.1) rfl Ar329.2.2 hin329 (Has.at Ha329 hin329 rfl) (g := (mkF m 143 #[.val (.ref aP), .val (.ref aV), .val (.ref ad2), .val (.ref ad131), .val (.int (1 : Int32)), .val (.int (0 : Int32)), .val (.ref c198), .val (.ref ad238), .val (.ref ad282), .val (.int (0 : Int32))] [(.int (0 : Int32)), (.ref aK), (.ref aL)])) rfl rfl (hb hby d11_143) _) ?_
  refine Go.st (fun _ => XS.iload X328.here hx rfl (hb hby d11_144) rfl) ?_
  refine Go.st (fun _ => XS.aload X328.here hx rfl (hb hby d11_146) rfl rfl) ?_
  refine goVirt X328 hx hZ (y := (⟨"com/example/traza/traza/PackedRows$Layout", "read", "([JI[I)V"⟩ : MethodName)) (z := (⟨"com/example/traza/traza/PackedRows$Layout", "read", "([JI[I)V"⟩ : MethodName)) hown (ww hw 100 rfl) (ww hw 101 rfl) (notFace_of_selects (args := #[]) (mvT hZ (ww hw 103 rfl))) (ww hw 103 rfl) (ww hw 102 rfl) (ww hw 39 rfl) (ww hw 104 rfl) (by decide) (a := aL) (argsL := [(.ref aC), (.int (0 : Int32)), (.ref ad238)]) (rest := []) e328 E_306 (rm_read l Z a0 hw [] aL aw aC ad238 kw k238 (0 : Int32) 0 (0 : Int32) (0 : Int32) (0 : Int32) w0 w1 w2 rb wd cw b0 b1 b2 f h282 n0 O295 E_306 F307 F308 V_311 VL316 V_325 ne242 gn238 r_hW rfl (by decide)) 0 (by decide) (by decide) (by decide) (by decide) (mkF m 148 #[.val (.ref aP), .val (.ref aV), .val (.ref ad2), .val (.ref ad131), .val (.int (1 : Int32)), .val (.int (0 : Int32)), .val (.ref c198), .val (.ref ad238), .val (.ref ad282), .val (.int (0 : Int32))] [(.ref ad238), (.int (0 : Int32)), (.ref aC), (.ref aL)]) rfl (by rw [hml]; rfl) (lenOf pd_9 rfl) rfl (hb hby d11_148) (Nat.le_of_eq rfl) ?_
  intro v330 T330 L330 X330 hQ330
  obtain ⟨rfl, M330, K330, za330, zb330, zc330, VR330, ha330, hb330, hc330⟩ := hQ330
  have N330 := Fr.app N198 M330
  have O331 := O295.keep K330 (allS gn238 all0)
  have V_332 := V_296.keep K330 (ninS ne239 nin0)
  have Y333 := Low_keep Y297 K330 (allS (Nat.le_of_lt lne240) all0)
  have E_334 := E_298.keep K330
  have F335 := F299.keep K330 (ninS ne240 nin0)
  have F336 := F300.keep K330 (ninS ne240 nin0)
  have F337 := F301.keep K330 (ninS ne240 nin0)
  have F338 := F302.keep K330 (ninS ne240 nin0)
  have F339 := F303.keep K330 (ninS ne240 nin0)
  have F340 := F304.keep K330 (ninS ne240 nin0)
  have F341 := F305.keep K330 (ninS ne240 nin0)
  have E_342 := E_306.keep K330
  have F343 := F307.keep K330 (ninS ne241 nin0)
  have F344 := F308.keep K330 (ninS ne241 nin0)
  have F345 := F309.keep K330 (ninS ne241 nin0)
  have F346 := F310.keep K330 (ninS ne241 nin0)
  have V_347 := V_311.keep K330 (ninS ne242 nin0)
  have V_348 := V_312.keep K330 (ninS ne243 nin0)
  have V_349 := V_313.keep K330 (ninS ne244 nin0)
  have VL350 := LAr_keep VL314 K330 (ninS ne245 nin0)
  have E_351 := E_315.keep K330
  have VL352 := LAr_keep VL316 K330 (ninS ne246 nin0)
  have V_353 := V_317.keep K330 (ninS ne247 nin0)
  have E_354 := E_318.keep K330
  have F355 := F319.keep K330 (ninS ne248 nin0)
  have F356 := F320.keep K330 (ninS ne248 nin0)
  have F357 := F321.keep K330 (ninS ne248 nin0)
  have F358 := F322.keep K330 (ninS ne248 nin0)
  have E_359 := E_323.keep K330
  have VL360 := LAr_keep VL324 K330 (ninS ne249 nin0)
  have VL361 := LAr_keep VL326 K330 (ninS (Ne.symm ne294) nin0)
  have E_362 := B282.keep K330
  have fr330 : own_fits b0 b1 b2 (v0_0, v0_1, v0_2) := r_hF _ (List.mem_of_getElem? (i := 0) rfl)
  have rd330 := rows_read r_hR (r := 0) (v := (v0_0, v0_1, v0_2)) rfl fr330
  obtain rfl : v0_0 = za330 := fld_uniq rd330.1 ha330
  obtain rfl : v0_1 = zb330 := fld_uniq rd330.2.1 hb330
  obtain rfl : v0_2 = zc330 := fld_uniq rd330.2.2 hc330
  show Go p e below _ (T330.setTop (mkF m 151 #[.val (.ref aP), .val (.ref aV), .val (.ref ad2), .val (.ref ad131), .val (.int (1 : Int32)), .val (.int (0 : Int32)), .val (.ref c198), .val (.ref ad238), .val (.ref ad282), .val (.int (0 : Int32))] []))
  refine Go.st (fun _ => XS.aloadN X330.here hx rfl (hb hby d11_151) rfl rfl) ?_
  refine Go.st (fun _ => XS.aload X330.here hx rfl (hb hby d11_152) rfl rfl) ?_
  refine Go.st (fun _ => XS.aload X330.here hx rfl (hb hby d11_154) rfl rfl) ?_
  have fu330 := fits_up fr330 hl0 hl1 hl2
  refine goVirt X330 hx hZ (y := (⟨"com/example/traza/traza/PackedRows$Layout", "encode", "([I[J)Z"⟩ : MethodName)) (z := (⟨"com/example/traza/traza/PackedRows$Layout", "encode", "([I[J)Z"⟩ : MethodName)) hown (ww hw 71 rfl) (ww hw 72 rfl) (notFace_of_selects (args := #[]) (mvT hZ (ww hw 74 rfl))) (ww hw 74 rfl) (ww hw 73 rfl) (ww hw 39 rfl) (ww hw 75 rfl) (by decide) (a := ad131) (argsL := [(.ref ad238), (.ref ad282)]) (rest := []) rfl E_354 (rm_enc l Z a0 hw [] ad131 ad2 ad238 ad282 k2 k238 m41 m73 m105 rb169 wd169 cw169 v0_0 v0_1 v0_2 e0 e1 e2 (fun _ => (0 : Int64)) T330.heap n0 O331 E_354 F355 V_353 VR330 VL361 gn282 hW169 (fit_pos fu330.1 h30) (fit_pos fu330.2.1 h31) (fit_pos fu330.2.2 h32)) 0 (by decide) (by decide) (by decide) (by decide) (mkF m 156 #[.val (.ref aP), .val (.ref aV), .val (.ref ad2), .val (.ref ad131), .val (.int (1 : Int32)), .val (.int (0 : Int32)), .val (.ref c198), .val (.ref ad238), .val (.ref ad282), .val (.int (0 : Int32))] [(.ref ad282), (.ref ad238), (.ref ad131)]) rfl (by rw [hml]; rfl) (lenOf pd_5 rfl) rfl (hb hby d11_156) (Nat.le_of_eq rfl) ?_
  intro v363 T363 L363 X363 hQ363
  obtain ⟨t363, rfl, M363, K363, g363, VB363, hE363⟩ := hQ363
  have N363 := Fr.app N330 M363
  have O364 := O331.keep K363 (allS gn282 all0)
  have V_365 := V_332.keep K363 (ninS ne283 nin0)
  have Y366 := Low_keep Y333 K363 (allS (Nat.le_of_lt lne284) all0)
  have E_367 := E_334.keep K363
  have F368 := F335.keep K363 (ninS ne284 nin0)
  have F369 := F336.keep K363 (ninS ne284 nin0)
  have F370 := F337.keep K363 (ninS ne284 nin0)
  have F371 := F338.keep K363 (ninS ne284 nin0)
  have F372 := F339.keep K363 (ninS ne284 nin0)
  have F373 := F340.keep K363 (ninS ne284 nin0)
  have F374 := F341.keep K363 (ninS ne284 nin0)
  have E_375 := E_342.keep K363
  have F376 := F343.keep K363 (ninS ne285 nin0)
  have F377 := F344.keep K363 (ninS ne285 nin0)
  have F378 := F345.keep K363 (ninS ne285 nin0)
  have F379 := F346.keep K363 (ninS ne285 nin0)
  have V_380 := V_347.keep K363 (ninS ne286 nin0)
  have V_381 := V_348.keep K363 (ninS ne287 nin0)
  have V_382 := V_349.keep K363 (ninS ne288 nin0)
  have VL383 := LAr_keep VL350 K363 (ninS ne289 nin0)
  have E_384 := E_351.keep K363
  have VL385 := LAr_keep VL352 K363 (ninS ne290 nin0)
  have V_386 := V_353.keep K363 (ninS ne291 nin0)
  have E_387 := E_354.keep K363
  have F388 := F355.keep K363 (ninS ne292 nin0)
  have F389 := F356.keep K363 (ninS ne292 nin0)
  have F390 := F357.keep K363 (ninS ne292 nin0)
  have F391 := F358.keep K363 (ninS ne292 nin0)
  have E_392 := E_359.keep K363
  have VL393 := LAr_keep VL360 K363 (ninS ne293 nin0)
  have E_394 := E_362.keep K363
  have V_395 := VR330.keep K363 (ninS ne294 nin0)
  have he363 := (hE363.resolve_left (fun q => q.2 fu330)).2.2
  show Go p e below _ (T363.setTop (mkF m 159 #[.val (.ref aP), .val (.ref aV), .val (.ref ad2), .val (.ref ad131), .val (.int (1 : Int32)), .val (.int (0 : Int32)), .val (.ref c198), .val (.ref ad238), .val (.ref ad282), .val (.int (0 : Int32))] [(.int t363)]))
  refine Go.st (fun _ => XS.pop X363.here hx rfl (hb hby d11_159) rfl rfl) ?_
  refine Go.st (fun _ => XS.aloadN X363.here hx rfl (hb hby d11_160) rfl rfl) ?_
  refine Go.st (fun _ => XS.aload X363.here hx rfl (hb hby d11_161) rfl rfl) ?_
  refine Go.st (fun _ => XS.iload X363.here hx rfl (hb hby d11_163) rfl) ?_
  show Go p e below _ (T363.setTop (mkF m 165 #[.val (.ref aP), .val (.ref aV), .val (.ref ad2), .val (.ref ad131), .val (.int (1 : Int32)), .val (.int (0 : Int32)), .val (.ref c198), .val (.ref ad238), .val (.ref ad282), .val (.int (0 : Int32))] [(.int (0 : Int32)), (.ref c198), (.ref ad131)]))
  refine Go.st (fun _ => XS.aload X363.here hx rfl (hb hby d11_165) rfl rfl) ?_
  refine goVirt X363 hx hZ (y := (⟨"com/example/traza/traza/PackedRows$Layout", "put", "([JI[J)V"⟩ : MethodName)) (z := (⟨"com/example/traza/traza/PackedRows$Layout", "put", "([JI[J)V"⟩ : MethodName)) hown (ww hw 88 rfl) (ww hw 89 rfl) (notFace_of_selects (args := #[]) (mvT hZ (ww hw 91 rfl))) (ww hw 91 rfl) (ww hw 90 rfl) (ww hw 39 rfl) (ww hw 92 rfl) (by decide) (a := ad131) (argsL := [(.ref c198), (.int (0 : Int32)), (.ref ad282)]) (rest := []) rfl E_387 (rm_put l Z a0 hw [] ad131 c198 ad282 (0 : Int32) 0 m41 m73 m105 rb169 wd169 cw169 e0 e1 e2 (fun _ => (0 : Int64)) g363 T363.heap n0 O364 E_387 F389 F390 VL393 VB363 ne293 (Nat.le_trans gP pc198) hW169 rfl (by decide) (enc_clear he363)) 0 (by decide) (by decide) (by decide) (by decide) (mkF m 167 #[.val (.ref aP), .val (.ref aV), .val (.ref ad2), .val (.ref ad131), .val (.int (1 : Int32)), .val (.int (0 : Int32)), .val (.ref c198), .val (.ref ad238), .val (.ref ad282), .val (.int (0 : Int32))] [(.ref ad282), (.int (0 : Int32)), (.ref c198), (.ref ad131)]) rfl (by rw [hml]; rfl) (lenOf pd_8 rfl) rfl (hb hby d11_167) (Nat.le_of_eq rfl) ?_
  intro v396 T396 L396 X396 hQ396
  obtain ⟨rfl, M396, K396, f396, VC396, hP396⟩ := hQ396
  have N396 := Fr.app N363 M396
  have O397 := O364.keep K396 (allS (Nat.le_trans gP pc198) all0)
  have V_398 := V_365.keep K396 (ninS ne227 nin0)
  have Y399 := Low_keep Y366 K396 (allS pc198 all0)
  have E_400 := E_367.keep K396
  have F401 := F368.keep K396 (ninS ne228 nin0)
  have F402 := F369.keep K396 (ninS ne228 nin0)
  have F403 := F370.keep K396 (ninS ne228 nin0)
  have F404 := F371.keep K396 (ninS ne228 nin0)
  have F405 := F372.keep K396 (ninS ne228 nin0)
  have F406 := F373.keep K396 (ninS ne228 nin0)
  have F407 := F374.keep K396 (ninS ne228 nin0)
  have E_408 := E_375.keep K396
  have F409 := F376.keep K396 (ninS ne229 nin0)
  have F410 := F377.keep K396 (ninS ne229 nin0)
  have F411 := F378.keep K396 (ninS ne229 nin0)
  have F412 := F379.keep K396 (ninS ne229 nin0)
  have V_413 := V_380.keep K396 (ninS ne230 nin0)
  have V_414 := V_381.keep K396 (ninS ne231 nin0)
  have V_415 := V_382.keep K396 (ninS ne232 nin0)
  have VL416 := LAr_keep VL383 K396 (ninS ne233 nin0)
  have E_417 := E_384.keep K396
  have VL418 := LAr_keep VL385 K396 (ninS ne234 nin0)
  have V_419 := V_386.keep K396 (ninS ne235 nin0)
  have E_420 := E_387.keep K396
  have F421 := F388.keep K396 (ninS ne236 nin0)
  have F422 := F389.keep K396 (ninS ne236 nin0)
  have F423 := F390.keep K396 (ninS ne236 nin0)
  have F424 := F391.keep K396 (ninS ne236 nin0)
  have E_425 := E_392.keep K396
  have E_426 := E_394.keep K396
  have V_427 := V_395.keep K396 (ninS (Ne.symm ne249) nin0)
  have VL428 := LAr_keep VB363 K396 (ninS (Ne.symm ne293) nin0)
  have hR429 := put_rows (rows := []) (r := 0) rfl rows_none he363 hP396
  show Go p e below _ (T396.setTop (mkF m 170 #[.val (.ref aP), .val (.ref aV), .val (.ref ad2), .val (.ref ad131), .val (.int (1 : Int32)), .val (.int (0 : Int32)), .val (.ref c198), .val (.ref ad238), .val (.ref ad282), .val (.int (0 : Int32))] []))
  refine Go.st (fun _ => XS.iinc X396.here hx rfl (hb hby d11_170) rfl (l' := #[.val (.ref aP), .val (.ref aV), .val (.ref ad2), .val (.ref ad131), .val (.int (1 : Int32)), .val (.int (0 : Int32)), .val (.ref c198), .val (.ref ad238), .val (.ref ad282), .val (.int (1 : Int32))]) rfl) ?_
  refine Go.st (fun _ => XS.goto X396.here hx rfl (pc0 := 173) (pc' := 126) rfl (hb hby d11_173) (by decide) (by decide)) ?_
  refine Go.st (fun _ => XS.iload X396.here hx rfl (hb hby d11_126) rfl) ?_
  refine Go.st (fun _ => XS.iload X396.here hx rfl (hb hby d11_128) rfl) ?_
  show Go p e below _ (T396.setTop (mkF m 130 #[.val (.ref aP), .val (.ref aV), .val (.ref ad2), .val (.ref ad131), .val (.int (1 : Int32)), .val (.int (0 : Int32)), .val (.ref c198), .val (.ref ad238), .val (.ref ad282), .val (.int (1 : Int32))] [(.int (1 : Int32)), (.int (1 : Int32))]))
  refine Go.st (fun _ => XS.icmpYes X396.here hx rfl (pc0 := 130) (pc' := 176) rfl (hb hby d11_130) rfl (flt (by decide : ¬ ((1 : Int32) < (1 : Int32)))).2.1 (by decide) (by decide)) ?_
  refine Go.st (fun _ => XS.aloadN X396.here hx rfl (hb hby d11_176) rfl rfl) ?_
  obtain ⟨T430, X430, e430, st430⟩ := getF X396 hx hZ hown (host := "") (Or.inl (ww hw 13 rfl)) Via.refl rfl F403 (g := (mkF m 177 #[.val (.ref aP), .val (.ref aV), .val (.ref ad2), .val (.ref ad131), .val (.int (1 : Int32)), .val (.int (0 : Int32)), .val (.ref c198), .val (.ref ad238), .val (.ref ad282), .val (.int (1 : Int32))] [(.ref aP)])) rfl rfl (hb hby d11_177)
  refine Go.st st430 ?_
  refine Go.st (fun _ => XS.iload X430.here hx rfl (hb hby d11_180) rfl) ?_
  show Go p e below _ (T430.setTop (mkF m 182 #[.val (.ref aP), .val (.ref aV), .val (.ref ad2), .val (.ref ad131), .val (.int (1 : Int32)), .val (.int (0 : Int32)), .val (.ref c198), .val (.ref ad238), .val (.ref ad282), .val (.int (1 : Int32))] [(.int (0 : Int32)), (.ref aK)]))
  refine Go.st (fun _ => XS.aload X430.here hx rfl (hb hby d11_182) rfl rfl) ?_
  obtain ⟨cl431, Ar431, qk431, Sz431, Nn431, Ha431, Ga431⟩ := id V_414
  have hin431 : ¬ ((0 : Int32) < 0 ∨ cl431.slots.size ≤ ((0 : Int32) : Int32).toNatClampNeg) := inb_of Sz431 ⟨by decide, by decide⟩
  obtain ⟨T431, h431, X431, e431, W431, st431⟩ := stR X430 hx hZ e430 Ar431 (j := (0 : Int32)) hin431 rfl (Sto.ofVA Ar431 qk431 r_oK (Ins.self E_425)) (g := (mkF m 184 #[.val (.ref aP), .val (.ref aV), .val (.ref ad2), .val (.ref ad131), .val (.int (1 : Int32)), .val (.int (0 : Int32)), .val (.ref c198), .val (.ref ad238), .val (.ref ad282), .val (.int (1 : Int32))] [(.ref c198), (.int (0 : Int32)), (.ref aK)])) rfl rfl (hb hby d11_184)
  refine Go.st st431 ?_
  have O432 := O397.wr W431 (Nat.le_trans gP r_pK)
  have V_433 := V_398.other W431 (arv_arv V_398 V_414 (fun q => nomatch q))
  have Y434 := Low_wr Y399 W431 r_pK
  have E_435 := E_400.wr W431
  have F436 := F401.other W431 (Or.inl (Exa.neArv E_400 V_414 (ww hw 3 rfl)))
  have F437 := F402.other W431 (Or.inl (Exa.neArv E_400 V_414 (ww hw 3 rfl)))
  have F438 := F403.other W431 (Or.inl (Exa.neArv E_400 V_414 (ww hw 3 rfl)))
  have F439 := F404.other W431 (Or.inl (Exa.neArv E_400 V_414 (ww hw 3 rfl)))
  have F440 := F405.other W431 (Or.inl (Exa.neArv E_400 V_414 (ww hw 3 rfl)))
  have F441 := F406.other W431 (Or.inl (Exa.neArv E_400 V_414 (ww hw 3 rfl)))
  have F442 := F407.other W431 (Or.inl (Exa.neArv E_400 V_414 (ww hw 3 rfl)))
  have E_443 := E_408.wr W431
  have F444 := F409.other W431 (Or.inl (Exa.neArv E_408 V_414 (ww hw 38 rfl)))
  have F445 := F410.other W431 (Or.inl (Exa.neArv E_408 V_414 (ww hw 38 rfl)))
  have F446 := F411.other W431 (Or.inl (Exa.neArv E_408 V_414 (ww hw 38 rfl)))
  have F447 := F412.other W431 (Or.inl (Exa.neArv E_408 V_414 (ww hw 38 rfl)))
  have V_448 := V_413.other W431 (arv_arv V_413 V_414 (fun q => nomatch q))
  have V_449 := V_415.other W431 (arv_arv V_415 V_414 (fun q => nomatch q))
  have VL450 := LAr_other VL416 W431 (LAr_arv VL416 V_414 (fun q => nomatch q))
  have E_451 := E_417.wr W431
  have VL452 := LAr_other VL418 W431 (LAr_arv VL418 V_414 (fun q => nomatch q))
  have V_453 := V_419.other W431 (Ne.symm ne7)
  have E_454 := E_420.wr W431
  have F455 := F421.other W431 (Or.inl (Ne.symm ne136))
  have F456 := F422.other W431 (Or.inl (Ne.symm ne136))
  have F457 := F423.other W431 (Or.inl (Ne.symm ne136))
  have F458 := F424.other W431 (Or.inl (Ne.symm ne136))
  have E_459 := E_425.wr W431
  have E_460 := E_426.wr W431
  have V_461 := V_427.other W431 (Ne.symm ne243)
  have VL462 := LAr_other VL428 W431 (Ne.symm ne287)
  have VL463 := LAr_other VC396 W431 (Ne.symm ne231)
  have V_464 : Arv Z h431 aK kK (.array .long) (1 : Int32) [(.ref c198)] .null := Arv.set Ar431 qk431 Sz431 Nn431 Ha431 Ga431 rfl W431 0 rfl (Nat.le_of_ble_eq_true rfl)
  have N431 := Fr.snoc X431 N396 (Nat.le_trans gP r_pK)
  refine Go.st (fun _ => XS.aloadN X431.here hx rfl (hb hby d11_185) rfl rfl) ?_
  obtain ⟨T465, X465, e465, st465⟩ := getF X431 hx hZ hown (host := "") (Or.inl (ww hw 17 rfl)) Via.refl e431 F439 (g := (mkF m 186 #[.val (.ref aP), .val (.ref aV), .val (.ref ad2), .val (.ref ad131), .val (.int (1 : Int32)), .val (.int (0 : Int32)), .val (.ref c198), .val (.ref ad238), .val (.ref ad282), .val (.int (1 : Int32))] [(.ref aP)])) rfl rfl (hb hby d11_186)
  refine Go.st st465 ?_
  show Go p e below _ (T465.setTop (mkF m 189 #[.val (.ref aP), .val (.ref aV), .val (.ref ad2), .val (.ref ad131), .val (.int (1 : Int32)), .val (.int (0 : Int32)), .val (.ref c198), .val (.ref ad238), .val (.ref ad282), .val (.int (1 : Int32))] [(.ref aY)]))
  refine Go.st (fun _ => XS.iload X465.here hx rfl (hb hby d11_189) rfl) ?_
  refine Go.st (fun _ => XS.aloadN X465.here hx rfl (hb hby d11_191) rfl rfl) ?_
  obtain ⟨cl466, Ar466, qk466, Sz466, Nn466, Ha466, Ga466⟩ := id V_449
  have hin466 : ¬ ((0 : Int32) < 0 ∨ cl466.slots.size ≤ ((0 : Int32) : Int32).toNatClampNeg) := inb_of Sz466 ⟨by decide, by decide⟩
  obtain ⟨T466, h466, X466, e466, W466, st466⟩ := stR X465 hx hZ e465 Ar466 (j := (0 : Int32)) hin466 rfl (Sto.ofV Ar466 qk466 r_oY (Ins.self E_454)) (g := (mkF m 192 #[.val (.ref aP), .val (.ref aV), .val (.ref ad2), .val (.ref ad131), .val (.int (1 : Int32)), .val (.int (0 : Int32)), .val (.ref c198), .val (.ref ad238), .val (.ref ad282), .val (.int (1 : Int32))] [(.ref ad131), (.int (0 : Int32)), (.ref aY)])) rfl rfl (hb hby d11_192)
  refine Go.st st466 ?_
  have O467 := O432.wr W466 (Nat.le_trans gP r_pY)
  have V_468 := V_433.other W466 (arv_arv V_433 V_449 (fun q => nomatch q))
  have Y469 := Low_wr Y434 W466 r_pY
  have E_470 := E_435.wr W466
  have F471 := F436.other W466 (Or.inl (Exa.neArv E_435 V_449 (ww hw 3 rfl)))
  have F472 := F437.other W466 (Or.inl (Exa.neArv E_435 V_449 (ww hw 3 rfl)))
  have F473 := F438.other W466 (Or.inl (Exa.neArv E_435 V_449 (ww hw 3 rfl)))
  have F474 := F439.other W466 (Or.inl (Exa.neArv E_435 V_449 (ww hw 3 rfl)))
  have F475 := F440.other W466 (Or.inl (Exa.neArv E_435 V_449 (ww hw 3 rfl)))
  have F476 := F441.other W466 (Or.inl (Exa.neArv E_435 V_449 (ww hw 3 rfl)))
  have F477 := F442.other W466 (Or.inl (Exa.neArv E_435 V_449 (ww hw 3 rfl)))
  have E_478 := E_443.wr W466
  have F479 := F444.other W466 (Or.inl (Exa.neArv E_443 V_449 (ww hw 38 rfl)))
  have F480 := F445.other W466 (Or.inl (Exa.neArv E_443 V_449 (ww hw 38 rfl)))
  have F481 := F446.other W466 (Or.inl (Exa.neArv E_443 V_449 (ww hw 38 rfl)))
  have F482 := F447.other W466 (Or.inl (Exa.neArv E_443 V_449 (ww hw 38 rfl)))
  have V_483 := V_448.other W466 (arv_arv V_448 V_449 (fun q => nomatch q))
  have VL484 := LAr_other VL450 W466 (LAr_arv VL450 V_449 (fun q => nomatch q))
  have E_485 := E_451.wr W466
  have VL486 := LAr_other VL452 W466 (LAr_arv VL452 V_449 (fun q => nomatch q))
  have V_487 := V_453.other W466 (Ne.symm ne8)
  have E_488 := E_454.wr W466
  have F489 := F455.other W466 (Or.inl (Ne.symm ne137))
  have F490 := F456.other W466 (Or.inl (Ne.symm ne137))
  have F491 := F457.other W466 (Or.inl (Ne.symm ne137))
  have F492 := F458.other W466 (Or.inl (Ne.symm ne137))
  have E_493 := E_459.wr W466
  have E_494 := E_460.wr W466
  have V_495 := V_461.other W466 (Ne.symm ne244)
  have VL496 := LAr_other VL462 W466 (Ne.symm ne288)
  have VL497 := LAr_other VL463 W466 (Ne.symm ne232)
  have V_498 := V_464.other W466 (arv_arv V_464 V_449 (fun q => nomatch q))
  have V_499 : Arv Z h466 aY kY (.object "com/example/traza/traza/PackedRows$Layout") (1 : Int32) [(.ref ad131)] .null := Arv.set Ar466 qk466 Sz466 Nn466 Ha466 Ga466 rfl W466 0 rfl (Nat.le_of_ble_eq_true rfl)
  have N466 := Fr.snoc X466 N431 (Nat.le_trans gP r_pY)
  refine Go.st (fun _ => XS.aloadN X466.here hx rfl (hb hby d11_193) rfl rfl) ?_
  show Go p e below _ (T466.setTop (mkF m 194 #[.val (.ref aP), .val (.ref aV), .val (.ref ad2), .val (.ref ad131), .val (.int (1 : Int32)), .val (.int (0 : Int32)), .val (.ref c198), .val (.ref ad238), .val (.ref ad282), .val (.int (1 : Int32))] [(.ref aP)]))
  refine Go.st (fun _ => XS.aloadN X466.here hx rfl (hb hby d11_194) rfl rfl) ?_
  obtain ⟨T500, h500, X500, e500, W500, st500⟩ := putF X466 hx hZ hown (host := "") (Or.inl (ww hw 57 rfl)) Via.refl e466 F475 E_470 (Or.inl (ww hw 58 rfl)) (ww hw 3 rfl) (ty := (.object "com/example/traza/traza/PackedRows$Layout")) (by decide) rfl rfl (g := (mkF m 195 #[.val (.ref aP), .val (.ref aV), .val (.ref ad2), .val (.ref ad131), .val (.int (1 : Int32)), .val (.int (0 : Int32)), .val (.ref c198), .val (.ref ad238), .val (.ref ad282), .val (.int (1 : Int32))] [(.ref ad131), (.ref aP)])) rfl rfl (hb hby d11_195)
  refine Go.st st500 ?_
  have O501 := O467.wr W500 gP
  have V_502 := V_468.other W500 (Ne.symm (Exa.neArv E_470 V_468 (ww hw 3 rfl)))
  have Y503 := Low_wr Y469 W500 (Nat.le_refl _)
  have E_504 := E_470.wr W500
  have F505 := F471.other W500 (Or.inr (slot_ne (Or.inr (ww hw 35 rfl)) (Or.inl (ww hw 58 rfl)) (by decide) (t := .int) (t' := (.object "com/example/traza/traza/PackedRows$Layout")) (by decide) (by decide)))
  have F506 := F472.other W500 (Or.inr (slot_ne (Or.inr (ww hw 37 rfl)) (Or.inl (ww hw 58 rfl)) (by decide) (t := .int) (t' := (.object "com/example/traza/traza/PackedRows$Layout")) (by decide) (by decide)))
  have F507 := F473.other W500 (Or.inr (slot_ne (Or.inl (ww hw 14 rfl)) (Or.inl (ww hw 58 rfl)) (by decide) (t := (.array (.array .long))) (t' := (.object "com/example/traza/traza/PackedRows$Layout")) (by decide) (by decide)))
  have F508 := F474.other W500 (Or.inr (slot_ne (Or.inl (ww hw 18 rfl)) (Or.inl (ww hw 58 rfl)) (by decide) (t := (.array (.object "com/example/traza/traza/PackedRows$Layout"))) (t' := (.object "com/example/traza/traza/PackedRows$Layout")) (by decide) (by decide)))
  have F509 := F476.other W500 (Or.inr (slot_ne (Or.inl (ww hw 62 rfl)) (Or.inl (ww hw 58 rfl)) (by decide) (t := (.array .long)) (t' := (.object "com/example/traza/traza/PackedRows$Layout")) (by decide) (by decide)))
  have F510 := F477.other W500 (Or.inr (slot_ne (Or.inl (ww hw 69 rfl)) (Or.inl (ww hw 58 rfl)) (by decide) (t := .int) (t' := (.object "com/example/traza/traza/PackedRows$Layout")) (by decide) (by decide)))
  have E_511 := E_478.wr W500
  have F512 := F479.other W500 (Or.inl (Exa.ne E_478 E_470 (by decide)))
  have F513 := F480.other W500 (Or.inl (Exa.ne E_478 E_470 (by decide)))
  have F514 := F481.other W500 (Or.inl (Exa.ne E_478 E_470 (by decide)))
  have F515 := F482.other W500 (Or.inl (Exa.ne E_478 E_470 (by decide)))
  have V_516 := V_483.other W500 (Ne.symm (Exa.neArv E_470 V_483 (ww hw 3 rfl)))
  have VL517 := LAr_other VL484 W500 (LAr_exa VL484 E_470 (ww hw 3 rfl))
  have E_518 := E_485.wr W500
  have VL519 := LAr_other VL486 W500 (LAr_exa VL486 E_470 (ww hw 3 rfl))
  have V_520 := V_487.other W500 (Ne.symm ne4)
  have E_521 := E_488.wr W500
  have F522 := F489.other W500 (Or.inl (Ne.symm ne133))
  have F523 := F490.other W500 (Or.inl (Ne.symm ne133))
  have F524 := F491.other W500 (Or.inl (Ne.symm ne133))
  have F525 := F492.other W500 (Or.inl (Ne.symm ne133))
  have E_526 := E_493.wr W500
  have E_527 := E_494.wr W500
  have V_528 := V_495.other W500 (Ne.symm ne240)
  have VL529 := LAr_other VL496 W500 (Ne.symm ne284)
  have VL530 := LAr_other VL497 W500 (Ne.symm ne228)
  have V_531 := V_498.other W500 (Ne.symm (Exa.neArv E_470 V_498 (ww hw 3 rfl)))
  have V_532 := V_499.other W500 (Ne.symm (Exa.neArv E_470 V_499 (ww hw 3 rfl)))
  have F533 : Fld Z h500 aP "com/example/traza/traza/PackedRows" "layout" "Lcom/example/traza/traza/PackedRows$Layout;" (.ref ad131) := F475.same W500
  have N500 := Fr.snoc X500 N466 gP
  refine Go.st (fun _ => XS.aloadN X500.here hx rfl (hb hby d11_198) rfl rfl) ?_
  refine Go.st (fun _ => XS.aloadN X500.here hx rfl (hb hby d11_199) rfl rfl) ?_
  show Go p e below _ (T500.setTop (mkF m 200 #[.val (.ref aP), .val (.ref aV), .val (.ref ad2), .val (.ref ad131), .val (.int (1 : Int32)), .val (.int (0 : Int32)), .val (.ref c198), .val (.ref ad238), .val (.ref ad282), .val (.int (1 : Int32))] [(.ref ad131), (.ref aP)]))
  obtain ⟨T534, X534, e534, st534⟩ := getFR X500 hx hZ hown (ww hw 59 rfl) e500 F524 (g := (mkF m 200 #[.val (.ref aP), .val (.ref aV), .val (.ref ad2), .val (.ref ad131), .val (.int (1 : Int32)), .val (.int (0 : Int32)), .val (.ref c198), .val (.ref ad238), .val (.ref ad282), .val (.int (1 : Int32))] [(.ref ad131), (.ref aP)])) rfl rfl (hb hby d11_200)
  refine Go.st st534 ?_
  obtain ⟨T535, h535, k535, X535, e535, E535, A535, B535, st535⟩ := newPE X534 hx hZ (ww hw 60 rfl) e534 (g := (mkF m 203 #[.val (.ref aP), .val (.ref aV), .val (.ref ad2), .val (.ref ad131), .val (.int (1 : Int32)), .val (.int (0 : Int32)), .val (.ref c198), .val (.ref ad238), .val (.ref ad282), .val (.int (1 : Int32))] [(.int wd169), (.ref aP)])) rfl (hb hby d11_203) rfl (len_cap hW169.2.2.2.2.2.2.2.1 hle2).1 (cap := 2) (len_cap hW169.2.2.2.2.2.2.2.1 hle2).2 (by decide) (by decide) (by decide) (ad := "[J") rfl
  obtain ⟨ad535, g535⟩ : ∃ z, z = h500.size := ⟨_, rfl⟩
  rw [← g535] at A535 B535 st535
  refine Go.st st535 ?_
  have gn535 : n0 ≤ ad535 := oldGe O501 g535
  have ne536 : aV ≠ ad535 := Nat.ne_of_lt (Nat.lt_of_lt_of_le V_502.lt (Nat.le_of_eq g535.symm))
  have lne537 : aP < ad535 := (Nat.lt_of_lt_of_le E_504.lt (Nat.le_of_eq g535.symm))
  have ne537 : aP ≠ ad535 := Nat.ne_of_lt lne537
  have ne538 : aL ≠ ad535 := Nat.ne_of_lt (Nat.lt_of_lt_of_le E_511.lt (Nat.le_of_eq g535.symm))
  have ne539 : aw ≠ ad535 := Nat.ne_of_lt (Nat.lt_of_lt_of_le V_516.lt (Nat.le_of_eq g535.symm))
  have ne540 : aB ≠ ad535 := Nat.ne_of_lt (Nat.lt_of_lt_of_le (LAr_lt VL517) (Nat.le_of_eq g535.symm))
  have ne541 : aC ≠ ad535 := Nat.ne_of_lt (Nat.lt_of_lt_of_le E_518.lt (Nat.le_of_eq g535.symm))
  have ne542 : ad2 ≠ ad535 := Nat.ne_of_lt (Nat.lt_of_lt_of_le V_520.lt (Nat.le_of_eq g535.symm))
  have ne543 : ad131 ≠ ad535 := Nat.ne_of_lt (Nat.lt_of_lt_of_le E_521.lt (Nat.le_of_eq g535.symm))
  have ne544 : c198 ≠ ad535 := Nat.ne_of_lt (Nat.lt_of_lt_of_le E_526.lt (Nat.le_of_eq g535.symm))
  have ne545 : ad282 ≠ ad535 := Nat.ne_of_lt (Nat.lt_of_lt_of_le E_527.lt (Nat.le_of_eq g535.symm))
  have ne546 : ad238 ≠ ad535 := Nat.ne_of_lt (Nat.lt_of_lt_of_le V_528.lt (Nat.le_of_eq g535.symm))
  have ne547 : aK ≠ ad535 := Nat.ne_of_lt (Nat.lt_of_lt_of_le V_531.lt (Nat.le_of_eq g535.symm))
  have ne548 : aY ≠ ad535 := Nat.ne_of_lt (Nat.lt_of_lt_of_le V_532.lt (Nat.le_of_eq g535.symm))
  have O549 := O501.ext E535
  have V_550 := V_502.ext E535
  have Y551 := Low_ext Y503 E535
  have E_552 := E_504.ext E535
  have F553 := F505.ext E535
  have F554 := F506.ext E535
  have F555 := F507.ext E535
  have F556 := F508.ext E535
  have F557 := F509.ext E535
  have F558 := F510.ext E535
  have E_559 := E_511.ext E535
  have F560 := F512.ext E535
  have F561 := F513.ext E535
  have F562 := F514.ext E535
  have F563 := F515.ext E535
  have V_564 := V_516.ext E535
  have VL565 := LAr_ext VL517 E535
  have E_566 := E_518.ext E535
  have VL567 := LAr_ext VL519 E535
  have V_568 := V_520.ext E535
  have E_569 := E_521.ext E535
  have F570 := F522.ext E535
  have F571 := F523.ext E535
  have F572 := F524.ext E535
  have F573 := F525.ext E535
  have E_574 := E_526.ext E535
  have E_575 := E_527.ext E535
  have V_576 := V_528.ext E535
  have VL577 := LAr_ext VL529 E535
  have VL578 := LAr_ext VL530 E535
  have V_579 := V_531.ext E535
  have V_580 := V_532.ext E535
  have F581 := F533.ext E535
  have VL582 : LAr Z h535 ad535 ((e0 + e1 + e2 + 63) / 64) (fun _ => (0 : Int64)) := LAr_new A535 hW169.2.2.2.2.2.2.2.1
  obtain ⟨T583, h583, X583, e583, W583, st583⟩ := putF X535 hx hZ hown (host := "") (Or.inl (ww hw 61 rfl)) Via.refl e535 F557 E_552 (Or.inl (ww hw 62 rfl)) (ww hw 3 rfl) (ty := (.array .long)) (by decide) rfl rfl (g := (mkF m 205 #[.val (.ref aP), .val (.ref aV), .val (.ref ad2), .val (.ref ad131), .val (.int (1 : Int32)), .val (.int (0 : Int32)), .val (.ref c198), .val (.ref ad238), .val (.ref ad282), .val (.int (1 : Int32))] [(.ref ad535), (.ref aP)])) rfl rfl (hb hby d11_205)
  refine Go.st st583 ?_
  have O584 := O549.wr W583 gP
  have V_585 := V_550.other W583 (Ne.symm (Exa.neArv E_552 V_550 (ww hw 3 rfl)))
  have Y586 := Low_wr Y551 W583 (Nat.le_refl _)
  have E_587 := E_552.wr W583
  have F588 := F553.other W583 (Or.inr (slot_ne (Or.inr (ww hw 35 rfl)) (Or.inl (ww hw 62 rfl)) (by decide) (t := .int) (t' := (.array .long)) (by decide) (by decide)))
  have F589 := F554.other W583 (Or.inr (slot_ne (Or.inr (ww hw 37 rfl)) (Or.inl (ww hw 62 rfl)) (by decide) (t := .int) (t' := (.array .long)) (by decide) (by decide)))
  have F590 := F555.other W583 (Or.inr (slot_ne (Or.inl (ww hw 14 rfl)) (Or.inl (ww hw 62 rfl)) (by decide) (t := (.array (.array .long))) (t' := (.array .long)) (by decide) (by decide)))
  have F591 := F556.other W583 (Or.inr (slot_ne (Or.inl (ww hw 18 rfl)) (Or.inl (ww hw 62 rfl)) (by decide) (t := (.array (.object "com/example/traza/traza/PackedRows$Layout"))) (t' := (.array .long)) (by decide) (by decide)))
  have F592 := F558.other W583 (Or.inr (slot_ne (Or.inl (ww hw 69 rfl)) (Or.inl (ww hw 62 rfl)) (by decide) (t := .int) (t' := (.array .long)) (by decide) (by decide)))
  have E_593 := E_559.wr W583
  have F594 := F560.other W583 (Or.inl (Exa.ne E_559 E_552 (by decide)))
  have F595 := F561.other W583 (Or.inl (Exa.ne E_559 E_552 (by decide)))
  have F596 := F562.other W583 (Or.inl (Exa.ne E_559 E_552 (by decide)))
  have F597 := F563.other W583 (Or.inl (Exa.ne E_559 E_552 (by decide)))
  have V_598 := V_564.other W583 (Ne.symm (Exa.neArv E_552 V_564 (ww hw 3 rfl)))
  have VL599 := LAr_other VL565 W583 (LAr_exa VL565 E_552 (ww hw 3 rfl))
  have E_600 := E_566.wr W583
  have VL601 := LAr_other VL567 W583 (LAr_exa VL567 E_552 (ww hw 3 rfl))
  have V_602 := V_568.other W583 (Ne.symm ne4)
  have E_603 := E_569.wr W583
  have F604 := F570.other W583 (Or.inl (Ne.symm ne133))
  have F605 := F571.other W583 (Or.inl (Ne.symm ne133))
  have F606 := F572.other W583 (Or.inl (Ne.symm ne133))
  have F607 := F573.other W583 (Or.inl (Ne.symm ne133))
  have E_608 := E_574.wr W583
  have E_609 := E_575.wr W583
  have V_610 := V_576.other W583 (Ne.symm ne240)
  have VL611 := LAr_other VL577 W583 (Ne.symm ne284)
  have VL612 := LAr_other VL578 W583 (Ne.symm ne228)
  have V_613 := V_579.other W583 (Ne.symm (Exa.neArv E_552 V_579 (ww hw 3 rfl)))
  have V_614 := V_580.other W583 (Ne.symm (Exa.neArv E_552 V_580 (ww hw 3 rfl)))
  have F615 := F581.other W583 (Or.inr (slot_ne (Or.inl (ww hw 58 rfl)) (Or.inl (ww hw 62 rfl)) (by decide) (t := (.object "com/example/traza/traza/PackedRows$Layout")) (t' := (.array .long)) (by decide) (by decide)))
  have VL616 := LAr_other VL582 W583 (Ne.symm ne537)
  have E_617 := B535.wr W583
  have F618 : Fld Z h583 aP "com/example/traza/traza/PackedRows" "bits" "[J" (.ref ad535) := F557.same W583
  have N583 := Fr.snoc X583 N500 gP
  show Go p e below _ (T583.setTop (mkF m 208 #[.val (.ref aP), .val (.ref aV), .val (.ref ad2), .val (.ref ad131), .val (.int (1 : Int32)), .val (.int (0 : Int32)), .val (.ref c198), .val (.ref ad238), .val (.ref ad282), .val (.int (1 : Int32))] []))
  have hFF : ∀ v ∈ [(v0_0, v0_1, v0_2)], own_fits e0 e1 e2 v := fun v hv => fits_up (r_hF v hv) hl0 hl1 hl2
  exact goRetV X583 hx hlk hret e583 (hb hby d11_208) (by decide) (by decide) ⟨rfl, N583, Y586, V_585, ad131, ad2, aK, aY, ad535, c198, k2, kK, kY, m41, m73, m105, rb169, wd169, cw169, e0, e1, e2, f396, (fun _ => (0 : Int64)), (.ref c198), (.ref ad131), ⟨E_587, F588, F589, F590, F591, F615, F618, F592, E_603, F604, F605, F606, F607, V_602, V_613, V_614, r_oK, r_oY, VL616, hW169, (Nat.le_of_lt lne133), (Nat.le_of_lt lne4), r_pK, r_pY, (Nat.le_of_lt lne537), hFF, (fun _ => ⟨rfl, rfl, E_608, VL612, hR429, ne544, pc198⟩), (fun q => absurd q (by decide))⟩, ⟨hf0, hf1, hf2⟩⟩
set_option maxRecDepth 65536 in
set_option maxHeartbeats 40000000 in
theorem rm_add1 (l : Launch) (Z : State) (a0 : Array Value) (hw : ∀ d ∈ tables_1, d.before a0 Z = true) (ws : List Jvm.Cond) (aP aV : Addr) (kV : ClassId) (p0 p1 p2 : Int32) (v0_0 v0_1 v0_2 : Int32) (aL : Addr) (aw : Addr) (aK : Addr) (aY : Addr) (aB : Addr) (aC : Addr) (kw : ClassId) (kK : ClassId) (kY : ClassId) (w0 : Int32) (w1 : Int32) (w2 : Int32) (rb : Int32) (wd : Int32) (cw : Int32) (b0 : Nat) (b1 : Nat) (b2 : Nat) (f : Nat → Int64) (g : Nat → Int64) (xK : Value) (xY : Value) (h0 : Heap) (n0 : Nat) (O0 : Old Z n0 h0) (HP : PR Z h0 aP (1 : Int32) [(v0_0, v0_1, v0_2)] aL aw aK aY aB aC kw kK kY w0 w1 w2 rb wd cw b0 b1 b2 f g xK xY) (gP : n0 ≤ aP) (vV : Arv Z h0 aV kV .int (3 : Int32) [(.int p0), (.int p1), (.int p2)] (.int (0 : Int32))) (hp0 : ¬ p0 < 0) (hp1 : ¬ p1 < 0) (hp2 : ¬ p2 < 0) :
    Ctr l (⟨"com/example/traza/traza/PackedRows", "add", "([I)I"⟩ : MethodName) prog_27_method_4_code 3 (some .int) ws ({ frames := 3, cells := 6, slots := 5966, locals := 60 } : Room) #[(.ref aP), (.ref aV)] Z h0 (fun v h L => v = some (.int (1 : Int32)) ∧ Fr n0 L ∧ Low aP h0 h ∧ ∃ (aL' : Addr) (aw' : Addr) (aK' : Addr) (aY' : Addr) (aB' : Addr) (aC' : Addr) (kw' : ClassId) (kK' : ClassId) (kY' : ClassId) (w0' : Int32) (w1' : Int32) (w2' : Int32) (rb' : Int32) (wd' : Int32) (cw' : Int32) (b0' : Nat) (b1' : Nat) (b2' : Nat) (f' : Nat → Int64) (g' : Nat → Int64) (xK' : Value) (xY' : Value), PR Z h aP (2 : Int32) [(v0_0, v0_1, v0_2), (p0, p1, p2)] aL' aw' aK' aY' aB' aC' kw' kK' kY' w0' w1' w2' rb' wd' cw' b0' b1' b2' f' g' xK' xY') := by
  have ef : ∀ m : MethodId, entryFrame m #[(.ref aP), (.ref aV)] 3 = mkF m 0 #[.val (.ref aP), .val (.ref aV), .unset] [] := fun m => by first | (simp [entryFrame, mkF, argsToLocals, Value.category]; done) | rfl
  refine Ctr.of (plainFor_of_name pn_9) ?_
  intro p e s m below meth c s₁ hx hZ hby hml hown0 hnm hret hlk X0 e0
  have hown : s.vm.findClass "com/example/traza/traza/PackedRows" = some m.cls := hown0
  have N0 := Fr.nil n0
  refine Go.st (fun t k => castTop (ef m) k) ?_
  obtain ⟨r_eP, r_f_chunkShift, r_f_chunkMask, r_f_chunks, r_f_layouts, r_f_layout, r_f_bits, r_f_size, r_eL, r_l_widths, r_l_rowBits, r_l_words, r_l_chunkWords, r_vw, r_vK, r_vY, r_oK, r_oY, r_vB, r_hW, r_pL, r_pw, r_pK, r_pY, r_pB, r_hF, r_full, r_none⟩ := HP
  obtain ⟨rfl, rfl, r_eC, r_vC, r_hR, r_ne, r_pC⟩ := r_full (by decide)
  show Go p e below _ (s₁.setTop (mkF m 0 #[.val (.ref aP), .val (.ref aV), .unset] []))
  refine Go.st (fun _ => XS.aloadN X0.here hx rfl (hb hby d9_0) rfl rfl) ?_
  obtain ⟨T1, X1, e1, st1⟩ := getF X0 hx hZ hown (host := "") (Or.inl (ww hw 68 rfl)) Via.refl e0 r_f_size (g := (mkF m 1 #[.val (.ref aP), .val (.ref aV), .unset] [(.ref aP)])) rfl rfl (hb hby d9_1)
  refine Go.st st1 ?_
  refine Go.st (fun _ => X1.ldcInt hx hown (mvT hZ (ww hw 70 rfl)) (g := (mkF m 4 #[.val (.ref aP), .val (.ref aV), .unset] [(.int (1 : Int32))])) rfl (hb hby d9_4) _) ?_
  refine Go.st (fun _ => XS.icmpYes X1.here hx rfl (pc0 := 6) (pc' := 26) rfl (hb hby d9_6) rfl (feq (by decide : ¬ ((1 : Int32) = (2147483647 : Int32)))).2 (by decide) (by decide)) ?_
  show Go p e below _ (T1.setTop (mkF m 26 #[.val (.ref aP), .val (.ref aV), .unset] []))
  refine Go.st (fun _ => XS.aloadN X1.here hx rfl (hb hby d9_26) rfl rfl) ?_
  obtain ⟨T2, X2, e2, st2⟩ := getF X1 hx hZ hown (host := "") (Or.inl (ww hw 57 rfl)) Via.refl e1 r_f_layout (g := (mkF m 27 #[.val (.ref aP), .val (.ref aV), .unset] [(.ref aP)])) rfl rfl (hb hby d9_27)
  refine Go.st st2 ?_
  refine Go.st (fun _ => XS.aloadN X2.here hx rfl (hb hby d9_30) rfl rfl) ?_
  refine Go.st (fun _ => XS.aloadN X2.here hx rfl (hb hby d9_31) rfl rfl) ?_
  show Go p e below _ (T2.setTop (mkF m 32 #[.val (.ref aP), .val (.ref aV), .unset] [(.ref aP), (.ref aV), (.ref aL)]))
  obtain ⟨T3, X3, e3, st3⟩ := getF X2 hx hZ hown (host := "") (Or.inl (ww hw 61 rfl)) Via.refl e2 r_f_bits (g := (mkF m 32 #[.val (.ref aP), .val (.ref aV), .unset] [(.ref aP), (.ref aV), (.ref aL)])) rfl rfl (hb hby d9_32)
  refine Go.st st3 ?_
  refine goVirt X3 hx hZ (y := (⟨"com/example/traza/traza/PackedRows$Layout", "encode", "([I[J)Z"⟩ : MethodName)) (z := (⟨"com/example/traza/traza/PackedRows$Layout", "encode", "([I[J)Z"⟩ : MethodName)) hown (ww hw 71 rfl) (ww hw 72 rfl) (notFace_of_selects (args := #[]) (mvT hZ (ww hw 74 rfl))) (ww hw 74 rfl) (ww hw 73 rfl) (ww hw 39 rfl) (ww hw 75 rfl) (by decide) (a := aL) (argsL := [(.ref aV), (.ref aB)]) (rest := []) e3 r_eL (rm_enc l Z a0 hw [] aL aw aV aB kw kV w0 w1 w2 rb wd cw p0 p1 p2 b0 b1 b2 g h0 n0 O0 r_eL r_l_widths r_vw vV r_vB (Nat.le_trans gP r_pB) r_hW hp0 hp1 hp2) 0 (by decide) (by decide) (by decide) (by decide) (mkF m 35 #[.val (.ref aP), .val (.ref aV), .unset] [(.ref aB), (.ref aV), (.ref aL)]) rfl (by rw [hml]; rfl) (lenOf pd_5 rfl) rfl (hb hby d9_35) (Nat.le_of_eq rfl) ?_
  intro v4 T4 L4 X4 hQ4
  obtain ⟨t4, rfl, M4, K4, g4, VB4, hE4⟩ := hQ4
  have N4 := Fr.app N0 M4
  have O5 := O0.keep K4 (allS (Nat.le_trans gP r_pB) all0)
  have V_6 := vV.keep K4 (ninS (Ne.symm (LAr_arv r_vB vV (fun q => nomatch q))) nin0)
  have Y7 := Low_keep (Low_refl (P := aP) (h := h0)) K4 (allS r_pB all0)
  have E_8 := r_eP.keep K4
  have F9 := r_f_chunkShift.keep K4 (ninS (Ne.symm (LAr_exa r_vB r_eP (ww hw 3 rfl))) nin0)
  have F10 := r_f_chunkMask.keep K4 (ninS (Ne.symm (LAr_exa r_vB r_eP (ww hw 3 rfl))) nin0)
  have F11 := r_f_chunks.keep K4 (ninS (Ne.symm (LAr_exa r_vB r_eP (ww hw 3 rfl))) nin0)
  have F12 := r_f_layouts.keep K4 (ninS (Ne.symm (LAr_exa r_vB r_eP (ww hw 3 rfl))) nin0)
  have F13 := r_f_layout.keep K4 (ninS (Ne.symm (LAr_exa r_vB r_eP (ww hw 3 rfl))) nin0)
  have F14 := r_f_bits.keep K4 (ninS (Ne.symm (LAr_exa r_vB r_eP (ww hw 3 rfl))) nin0)
  have F15 := r_f_size.keep K4 (ninS (Ne.symm (LAr_exa r_vB r_eP (ww hw 3 rfl))) nin0)
  have E_16 := r_eL.keep K4
  have F17 := r_l_widths.keep K4 (ninS (Ne.symm (LAr_exa r_vB r_eL (ww hw 38 rfl))) nin0)
  have F18 := r_l_rowBits.keep K4 (ninS (Ne.symm (LAr_exa r_vB r_eL (ww hw 38 rfl))) nin0)
  have F19 := r_l_words.keep K4 (ninS (Ne.symm (LAr_exa r_vB r_eL (ww hw 38 rfl))) nin0)
  have F20 := r_l_chunkWords.keep K4 (ninS (Ne.symm (LAr_exa r_vB r_eL (ww hw 38 rfl))) nin0)
  have V_21 := r_vw.keep K4 (ninS (Ne.symm (LAr_arv r_vB r_vw (fun q => nomatch q))) nin0)
  have V_22 := r_vK.keep K4 (ninS (Ne.symm (LAr_arv r_vB r_vK (fun q => nomatch q))) nin0)
  have V_23 := r_vY.keep K4 (ninS (Ne.symm (LAr_arv r_vB r_vY (fun q => nomatch q))) nin0)
  have E_24 := r_eC.keep K4
  have VL25 := LAr_keep r_vC K4 (ninS r_ne nin0)
  show Go p e below _ (T4.setTop (mkF m 38 #[.val (.ref aP), .val (.ref aV), .unset] [(.int t4)]))
  by_cases hc26 : t4 = (0 : Int32)
  · refine Go.st (fun _ => XS.ifNo X4.here hx rfl (hb hby d9_38) rfl ((if0 _ _).trans (teq hc26).2)) ?_
    refine Go.st (fun _ => XS.aloadN X4.here hx rfl (hb hby d9_41) rfl rfl) ?_
    refine Go.st (fun _ => XS.aloadN X4.here hx rfl (hb hby d9_42) rfl rfl) ?_
    refine goPriv X4 hx hZ (y := (⟨"com/example/traza/traza/PackedRows", "widen", "([I)V"⟩ : MethodName)) hown (ww hw 76 rfl) (ww hw 77 rfl) (ww hw 78 rfl) (ww hw 3 rfl) (ww hw 4 rfl) (ww hw 79 rfl) (by decide) (a := aP) (argsL := [(.ref aV)]) (rest := []) rfl E_8 (rm_wid1 l Z a0 hw [] aP aV kV p0 p1 p2 v0_0 v0_1 v0_2 aL aw aK aY aB aC kw kK kY w0 w1 w2 rb wd cw b0 b1 b2 f g4 (.ref aC) (.ref aL) T4.heap n0 O5 ⟨E_8, F9, F10, F11, F12, F13, F14, F15, E_16, F17, F18, F19, F20, V_21, V_22, V_23, r_oK, r_oY, VB4, r_hW, r_pL, r_pw, r_pK, r_pY, r_pB, r_hF, (fun _ => ⟨rfl, rfl, E_24, VL25, r_hR, r_ne, r_pC⟩), (fun q => absurd q (by decide))⟩ gP V_6 hp0 hp1 hp2) 0 (by decide) (by decide) (by decide) (by decide) (mkF m 43 #[.val (.ref aP), .val (.ref aV), .unset] [(.ref aV), (.ref aP)]) rfl (by rw [hml]; rfl) (lenOf pd_6 rfl) rfl (hb hby d9_43) (Nat.le_of_eq rfl) ?_
    intro v27 T27 L27 X27 hQ27
    obtain ⟨rfl, M27, ⟨ws27, K27, hws27⟩, VV27, aL_27, aw_27, aK_27, aY_27, aB_27, aC_27, kw_27, kK_27, kY_27, w0_27, w1_27, w2_27, rb_27, wd_27, cw_27, b0_27, b1_27, b2_27, f_27, g_27, xK_27, xY_27, R27, FT27⟩ := hQ27
    have N27 := Fr.app N4 M27
    have O28 := O5.keep K27 (fun x hx => Nat.le_trans gP (hws27 x hx))
    have Y29 := Low_keep Y7 K27 hws27
    have E_30 := E_8.keep K27
    have E_31 := E_16.keep K27
    have E_32 := E_24.keep K27
    obtain ⟨r_eP_27, r_f_chunkShift_27, r_f_chunkMask_27, r_f_chunks_27, r_f_layouts_27, r_f_layout_27, r_f_bits_27, r_f_size_27, r_eL_27, r_l_widths_27, r_l_rowBits_27, r_l_words_27, r_l_chunkWords_27, r_vw_27, r_vK_27, r_vY_27, r_oK_27, r_oY_27, r_vB_27, r_hW_27, r_pL_27, r_pw_27, r_pK_27, r_pY_27, r_pB_27, r_hF_27, r_full_27, r_none_27⟩ := R27
    obtain ⟨rfl, rfl, r_eC_27, r_vC_27, r_hR_27, r_ne_27, r_pC_27⟩ := r_full_27 (by decide)
    show Go p e below _ (T27.setTop (mkF m 46 #[.val (.ref aP), .val (.ref aV), .unset] []))
    refine Go.st (fun _ => XS.aloadN X27.here hx rfl (hb hby d9_46) rfl rfl) ?_
    obtain ⟨T33, X33, e33, st33⟩ := getF X27 hx hZ hown (host := "") (Or.inl (ww hw 57 rfl)) Via.refl rfl r_f_layout_27 (g := (mkF m 47 #[.val (.ref aP), .val (.ref aV), .unset] [(.ref aP)])) rfl rfl (hb hby d9_47)
    refine Go.st st33 ?_
    refine Go.st (fun _ => XS.aloadN X33.here hx rfl (hb hby d9_50) rfl rfl) ?_
    refine Go.st (fun _ => XS.aloadN X33.here hx rfl (hb hby d9_51) rfl rfl) ?_
    show Go p e below _ (T33.setTop (mkF m 52 #[.val (.ref aP), .val (.ref aV), .unset] [(.ref aP), (.ref aV), (.ref aL_27)]))
    obtain ⟨T34, X34, e34, st34⟩ := getF X33 hx hZ hown (host := "") (Or.inl (ww hw 61 rfl)) Via.refl e33 r_f_bits_27 (g := (mkF m 52 #[.val (.ref aP), .val (.ref aV), .unset] [(.ref aP), (.ref aV), (.ref aL_27)])) rfl rfl (hb hby d9_52)
    refine Go.st st34 ?_
    refine goVirt X34 hx hZ (y := (⟨"com/example/traza/traza/PackedRows$Layout", "encode", "([I[J)Z"⟩ : MethodName)) (z := (⟨"com/example/traza/traza/PackedRows$Layout", "encode", "([I[J)Z"⟩ : MethodName)) hown (ww hw 71 rfl) (ww hw 72 rfl) (notFace_of_selects (args := #[]) (mvT hZ (ww hw 74 rfl))) (ww hw 74 rfl) (ww hw 73 rfl) (ww hw 39 rfl) (ww hw 75 rfl) (by decide) (a := aL_27) (argsL := [(.ref aV), (.ref aB_27)]) (rest := []) e34 r_eL_27 (rm_enc l Z a0 hw [] aL_27 aw_27 aV aB_27 kw_27 kV w0_27 w1_27 w2_27 rb_27 wd_27 cw_27 p0 p1 p2 b0_27 b1_27 b2_27 g_27 T27.heap n0 O28 r_eL_27 r_l_widths_27 r_vw_27 VV27 r_vB_27 (Nat.le_trans gP r_pB_27) r_hW_27 hp0 hp1 hp2) 0 (by decide) (by decide) (by decide) (by decide) (mkF m 55 #[.val (.ref aP), .val (.ref aV), .unset] [(.ref aB_27), (.ref aV), (.ref aL_27)]) rfl (by rw [hml]; rfl) (lenOf pd_5 rfl) rfl (hb hby d9_55) (Nat.le_of_eq rfl) ?_
    intro v35 T35 L35 X35 hQ35
    obtain ⟨t35, rfl, M35, K35, g35, VB35, hE35⟩ := hQ35
    have N35 := Fr.app N27 M35
    have O36 := O28.keep K35 (allS (Nat.le_trans gP r_pB_27) all0)
    have Y37 := Low_keep Y29 K35 (allS r_pB_27 all0)
    have V_38 := VV27.keep K35 (ninS (Ne.symm (LAr_arv r_vB_27 VV27 (fun q => nomatch q))) nin0)
    have E_39 := r_eP_27.keep K35
    have F40 := r_f_chunkShift_27.keep K35 (ninS (Ne.symm (LAr_exa r_vB_27 r_eP_27 (ww hw 3 rfl))) nin0)
    have F41 := r_f_chunkMask_27.keep K35 (ninS (Ne.symm (LAr_exa r_vB_27 r_eP_27 (ww hw 3 rfl))) nin0)
    have F42 := r_f_chunks_27.keep K35 (ninS (Ne.symm (LAr_exa r_vB_27 r_eP_27 (ww hw 3 rfl))) nin0)
    have F43 := r_f_layouts_27.keep K35 (ninS (Ne.symm (LAr_exa r_vB_27 r_eP_27 (ww hw 3 rfl))) nin0)
    have F44 := r_f_layout_27.keep K35 (ninS (Ne.symm (LAr_exa r_vB_27 r_eP_27 (ww hw 3 rfl))) nin0)
    have F45 := r_f_bits_27.keep K35 (ninS (Ne.symm (LAr_exa r_vB_27 r_eP_27 (ww hw 3 rfl))) nin0)
    have F46 := r_f_size_27.keep K35 (ninS (Ne.symm (LAr_exa r_vB_27 r_eP_27 (ww hw 3 rfl))) nin0)
    have E_47 := r_eL_27.keep K35
    have F48 := r_l_widths_27.keep K35 (ninS (Ne.symm (LAr_exa r_vB_27 r_eL_27 (ww hw 38 rfl))) nin0)
    have F49 := r_l_rowBits_27.keep K35 (ninS (Ne.symm (LAr_exa r_vB_27 r_eL_27 (ww hw 38 rfl))) nin0)
    have F50 := r_l_words_27.keep K35 (ninS (Ne.symm (LAr_exa r_vB_27 r_eL_27 (ww hw 38 rfl))) nin0)
    have F51 := r_l_chunkWords_27.keep K35 (ninS (Ne.symm (LAr_exa r_vB_27 r_eL_27 (ww hw 38 rfl))) nin0)
    have V_52 := r_vw_27.keep K35 (ninS (Ne.symm (LAr_arv r_vB_27 r_vw_27 (fun q => nomatch q))) nin0)
    have V_53 := r_vK_27.keep K35 (ninS (Ne.symm (LAr_arv r_vB_27 r_vK_27 (fun q => nomatch q))) nin0)
    have V_54 := r_vY_27.keep K35 (ninS (Ne.symm (LAr_arv r_vB_27 r_vY_27 (fun q => nomatch q))) nin0)
    have E_55 := r_eC_27.keep K35
    have VL56 := LAr_keep r_vC_27 K35 (ninS r_ne_27 nin0)
    have he35 := (hE35.resolve_left (fun q => q.2 FT27)).2
    show Go p e below _ (T35.setTop (mkF m 58 #[.val (.ref aP), .val (.ref aV), .unset] [(.int t35)]))
    refine Go.st (fun _ => XS.pop X35.here hx rfl (hb hby d9_58) rfl rfl) ?_
    refine Go.st (fun _ => XS.aloadN X35.here hx rfl (hb hby d9_59) rfl rfl) ?_
    obtain ⟨T57, X57, e57, st57⟩ := getF X35 hx hZ hown (host := "") (Or.inl (ww hw 68 rfl)) Via.refl rfl F46 (g := (mkF m 60 #[.val (.ref aP), .val (.ref aV), .unset] [(.ref aP)])) rfl rfl (hb hby d9_60)
    refine Go.st st57 ?_
    refine Go.st (fun _ => XS.aloadN X57.here hx rfl (hb hby d9_63) rfl rfl) ?_
    show Go p e below _ (T57.setTop (mkF m 64 #[.val (.ref aP), .val (.ref aV), .unset] [(.ref aP), (.int (1 : Int32))]))
    obtain ⟨T58, X58, e58, st58⟩ := getF X57 hx hZ hown (host := "") (Or.inl (ww hw 34 rfl)) Via.refl e57 F40 (g := (mkF m 64 #[.val (.ref aP), .val (.ref aV), .unset] [(.ref aP), (.int (1 : Int32))])) rfl rfl (hb hby d9_64)
    refine Go.st st58 ?_
    show Go p e below _ (T58.setTop (mkF m 67 #[.val (.ref aP), .val (.ref aV), .unset] [(.int (12 : Int32)), (.int (1 : Int32))]))
    refine Go.st (fun _ => XS.iushr X58.here hx rfl (hb hby d9_67) rfl) ?_
    rw [show (((1 : Int32).toUInt32 >>> ((12 : Int32) &&& 31).toUInt32).toInt32) = (0 : Int32) from by decide]
    show Go p e below _ (T58.setTop (mkF m 68 #[.val (.ref aP), .val (.ref aV), .unset] [(.int (0 : Int32))]))
    refine Go.st (fun _ => XS.istoreN X58.here hx rfl (hb hby d9_68) rfl (l' := #[.val (.ref aP), .val (.ref aV), .val (.int (0 : Int32))]) rfl) ?_
    refine Go.st (fun _ => XS.aloadN X58.here hx rfl (hb hby d9_69) rfl rfl) ?_
    obtain ⟨T59, X59, e59, st59⟩ := getF X58 hx hZ hown (host := "") (Or.inl (ww hw 68 rfl)) Via.refl e58 F46 (g := (mkF m 70 #[.val (.ref aP), .val (.ref aV), .val (.int (0 : Int32))] [(.ref aP)])) rfl rfl (hb hby d9_70)
    refine Go.st st59 ?_
    refine Go.st (fun _ => XS.aloadN X59.here hx rfl (hb hby d9_73) rfl rfl) ?_
    show Go p e below _ (T59.setTop (mkF m 74 #[.val (.ref aP), .val (.ref aV), .val (.int (0 : Int32))] [(.ref aP), (.int (1 : Int32))]))
    obtain ⟨T60, X60, e60, st60⟩ := getF X59 hx hZ hown (host := "") (Or.inl (ww hw 36 rfl)) Via.refl e59 F41 (g := (mkF m 74 #[.val (.ref aP), .val (.ref aV), .val (.int (0 : Int32))] [(.ref aP), (.int (1 : Int32))])) rfl rfl (hb hby d9_74)
    refine Go.st st60 ?_
    refine Go.st (fun _ => XS.iand X60.here hx rfl (hb hby d9_77) rfl) ?_
    refine Go.st (fun _ => XS.ifYes X60.here hx rfl (pc0 := 78) (pc' := 155) rfl (hb hby d9_78) rfl ((if0 _ _).trans (feq (by decide : ¬ ((1 : Int32) = (0 : Int32)))).2) (by decide) (by decide)) ?_
    refine Go.st (fun _ => XS.aloadN X60.here hx rfl (hb hby d9_155) rfl rfl) ?_
    show Go p e below _ (T60.setTop (mkF m 156 #[.val (.ref aP), .val (.ref aV), .val (.int (0 : Int32))] [(.ref aP)]))
    obtain ⟨T61, X61, e61, st61⟩ := getF X60 hx hZ hown (host := "") (Or.inl (ww hw 57 rfl)) Via.refl e60 F44 (g := (mkF m 156 #[.val (.ref aP), .val (.ref aV), .val (.int (0 : Int32))] [(.ref aP)])) rfl rfl (hb hby d9_156)
    refine Go.st st61 ?_
    refine Go.st (fun _ => XS.aloadN X61.here hx rfl (hb hby d9_159) rfl rfl) ?_
    obtain ⟨T62, X62, e62, st62⟩ := getF X61 hx hZ hown (host := "") (Or.inl (ww hw 13 rfl)) Via.refl e61 F42 (g := (mkF m 160 #[.val (.ref aP), .val (.ref aV), .val (.int (0 : Int32))] [(.ref aP), (.ref aL_27)])) rfl rfl (hb hby d9_160)
    refine Go.st st62 ?_
    refine Go.st (fun _ => XS.iloadN X62.here hx rfl (hb hby d9_163) rfl) ?_
    show Go p e below _ (T62.setTop (mkF m 164 #[.val (.ref aP), .val (.ref aV), .val (.int (0 : Int32))] [(.int (0 : Int32)), (.ref aK_27), (.ref aL_27)]))
    obtain ⟨cl63, Ar63, qk63, Sz63, Nn63, Ha63, Ga63⟩ := id V_53
    have hin63 : ¬ ((0 : Int32) < 0 ∨ cl63.slots.size ≤ ((0 : Int32) : Int32).toNatClampNeg) := inb_of Sz63 ⟨by decide, by decide⟩
    refine Go.st (fun _ => X62.aaload hx (j := (0 : Int32)) (v := (.ref aC_27)) (by rw [e62]; exact Ar63.1) (State.isArrayOf_alike hZ.alike Ar63.2.1) rfl Ar63.2.2 hin63 (Has.at Ha63 hin63 rfl) (g := (mkF m 164 #[.val (.ref aP), .val (.ref aV), .val (.int (0 : Int32))] [(.int (0 : Int32)), (.ref aK_27), (.ref aL_27)])) rfl rfl (hb hby d9_164) _) ?_
    refine Go.st (fun _ => XS.aloadN X62.here hx rfl (hb hby d9_165) rfl rfl) ?_
    obtain ⟨T64, X64, e64, st64⟩ := getF X62 hx hZ hown (host := "") (Or.inl (ww hw 68 rfl)) Via.refl e62 F46 (g := (mkF m 166 #[.val (.ref aP), .val (.ref aV), .val (.int (0 : Int32))] [(.ref aP), (.ref aC_27), (.ref aL_27)])) rfl rfl (hb hby d9_166)
    refine Go.st st64 ?_
    refine Go.st (fun _ => XS.aloadN X64.here hx rfl (hb hby d9_169) rfl rfl) ?_
    show Go p e below _ (T64.setTop (mkF m 170 #[.val (.ref aP), .val (.ref aV), .val (.int (0 : Int32))] [(.ref aP), (.int (1 : Int32)), (.ref aC_27), (.ref aL_27)]))
    obtain ⟨T65, X65, e65, st65⟩ := getF X64 hx hZ hown (host := "") (Or.inl (ww hw 36 rfl)) Via.refl e64 F41 (g := (mkF m 170 #[.val (.ref aP), .val (.ref aV), .val (.int (0 : Int32))] [(.ref aP), (.int (1 : Int32)), (.ref aC_27), (.ref aL_27)])) rfl rfl (hb hby d9_170)
    refine Go.st st65 ?_
    refine Go.st (fun _ => XS.iand X65.here hx rfl (hb hby d9_173) rfl) ?_
    refine Go.st (fun _ => XS.aloadN X65.here hx rfl (hb hby d9_174) rfl rfl) ?_
    obtain ⟨T66, X66, e66, st66⟩ := getF X65 hx hZ hown (host := "") (Or.inl (ww hw 61 rfl)) Via.refl e65 F45 (g := (mkF m 175 #[.val (.ref aP), .val (.ref aV), .val (.int (0 : Int32))] [(.ref aP), (.int (1 : Int32)), (.ref aC_27), (.ref aL_27)])) rfl rfl (hb hby d9_175)
    refine Go.st st66 ?_
    show Go p e below _ (T66.setTop (mkF m 178 #[.val (.ref aP), .val (.ref aV), .val (.int (0 : Int32))] [(.ref aB_27), (.int (1 : Int32)), (.ref aC_27), (.ref aL_27)]))
    refine goVirt X66 hx hZ (y := (⟨"com/example/traza/traza/PackedRows$Layout", "put", "([JI[J)V"⟩ : MethodName)) (z := (⟨"com/example/traza/traza/PackedRows$Layout", "put", "([JI[J)V"⟩ : MethodName)) hown (ww hw 88 rfl) (ww hw 89 rfl) (notFace_of_selects (args := #[]) (mvT hZ (ww hw 91 rfl))) (ww hw 91 rfl) (ww hw 90 rfl) (ww hw 39 rfl) (ww hw 92 rfl) (by decide) (a := aL_27) (argsL := [(.ref aC_27), (.int (1 : Int32)), (.ref aB_27)]) (rest := []) e66 E_47 (rm_put l Z a0 hw [] aL_27 aC_27 aB_27 (1 : Int32) 1 w0_27 w1_27 w2_27 rb_27 wd_27 cw_27 b0_27 b1_27 b2_27 f_27 g35 T35.heap n0 O36 E_47 F49 F50 VL56 VB35 r_ne_27 (Nat.le_trans gP r_pC_27) r_hW_27 rfl (by decide) (enc_clear he35.2)) 0 (by decide) (by decide) (by decide) (by decide) (mkF m 178 #[.val (.ref aP), .val (.ref aV), .val (.int (0 : Int32))] [(.ref aB_27), (.int (1 : Int32)), (.ref aC_27), (.ref aL_27)]) rfl (by rw [hml]; rfl) (lenOf pd_8 rfl) rfl (hb hby d9_178) (Nat.le_of_eq rfl) ?_
    intro v67 T67 L67 X67 hQ67
    obtain ⟨rfl, M67, K67, f67, VC67, hP67⟩ := hQ67
    have N67 := Fr.app N35 M67
    have O68 := O36.keep K67 (allS (Nat.le_trans gP r_pC_27) all0)
    have Y69 := Low_keep Y37 K67 (allS r_pC_27 all0)
    have V_70 := V_38.keep K67 (ninS (Ne.symm (LAr_arv VL56 V_38 (fun q => nomatch q))) nin0)
    have E_71 := E_39.keep K67
    have F72 := F40.keep K67 (ninS (Ne.symm (LAr_exa VL56 E_39 (ww hw 3 rfl))) nin0)
    have F73 := F41.keep K67 (ninS (Ne.symm (LAr_exa VL56 E_39 (ww hw 3 rfl))) nin0)
    have F74 := F42.keep K67 (ninS (Ne.symm (LAr_exa VL56 E_39 (ww hw 3 rfl))) nin0)
    have F75 := F43.keep K67 (ninS (Ne.symm (LAr_exa VL56 E_39 (ww hw 3 rfl))) nin0)
    have F76 := F44.keep K67 (ninS (Ne.symm (LAr_exa VL56 E_39 (ww hw 3 rfl))) nin0)
    have F77 := F45.keep K67 (ninS (Ne.symm (LAr_exa VL56 E_39 (ww hw 3 rfl))) nin0)
    have F78 := F46.keep K67 (ninS (Ne.symm (LAr_exa VL56 E_39 (ww hw 3 rfl))) nin0)
    have E_79 := E_47.keep K67
    have F80 := F48.keep K67 (ninS (Ne.symm (LAr_exa VL56 E_47 (ww hw 38 rfl))) nin0)
    have F81 := F49.keep K67 (ninS (Ne.symm (LAr_exa VL56 E_47 (ww hw 38 rfl))) nin0)
    have F82 := F50.keep K67 (ninS (Ne.symm (LAr_exa VL56 E_47 (ww hw 38 rfl))) nin0)
    have F83 := F51.keep K67 (ninS (Ne.symm (LAr_exa VL56 E_47 (ww hw 38 rfl))) nin0)
    have V_84 := V_52.keep K67 (ninS (Ne.symm (LAr_arv VL56 V_52 (fun q => nomatch q))) nin0)
    have V_85 := V_53.keep K67 (ninS (Ne.symm (LAr_arv VL56 V_53 (fun q => nomatch q))) nin0)
    have V_86 := V_54.keep K67 (ninS (Ne.symm (LAr_arv VL56 V_54 (fun q => nomatch q))) nin0)
    have E_87 := E_55.keep K67
    have VL88 := LAr_keep VB35 K67 (ninS (Ne.symm r_ne_27) nin0)
    have hR89 := put_rows (rows := [(v0_0, v0_1, v0_2)]) (r := 1) rfl r_hR_27 he35.2 hP67
    show Go p e below _ (T67.setTop (mkF m 181 #[.val (.ref aP), .val (.ref aV), .val (.int (0 : Int32))] []))
    refine Go.st (fun _ => XS.aloadN X67.here hx rfl (hb hby d9_181) rfl rfl) ?_
    refine Go.st (fun _ => XS.dup X67.here hx rfl (hb hby d9_182) rfl rfl) ?_
    obtain ⟨T90, X90, e90, st90⟩ := getF X67 hx hZ hown (host := "") (Or.inl (ww hw 68 rfl)) Via.refl rfl F78 (g := (mkF m 183 #[.val (.ref aP), .val (.ref aV), .val (.int (0 : Int32))] [(.ref aP), (.ref aP)])) rfl rfl (hb hby d9_183)
    refine Go.st st90 ?_
    refine Go.st (fun _ => XS.dupX1 X90.here hx rfl (hb hby d9_186) rfl rfl rfl) ?_
    show Go p e below _ (T90.setTop (mkF m 187 #[.val (.ref aP), .val (.ref aV), .val (.int (0 : Int32))] [(.int (1 : Int32)), (.ref aP), (.int (1 : Int32))]))
    refine Go.st (fun _ => XS.iconst X90.here hx rfl (hb hby d9_187)) ?_
    refine Go.st (fun _ => XS.iadd X90.here hx rfl (hb hby d9_188) rfl) ?_
    obtain ⟨T91, h91, X91, e91, W91, st91⟩ := putF X90 hx hZ hown (host := "") (Or.inl (ww hw 68 rfl)) Via.refl e90 F78 E_71 (Or.inl (ww hw 69 rfl)) (ww hw 3 rfl) (ty := .int) (by decide) rfl rfl (g := (mkF m 189 #[.val (.ref aP), .val (.ref aV), .val (.int (0 : Int32))] [(.int (2 : Int32)), (.ref aP), (.int (1 : Int32))])) rfl rfl (hb hby d9_189)
    refine Go.st st91 ?_
    have O92 := O68.wr W91 gP
    have Y93 := Low_wr Y69 W91 (Nat.le_refl _)
    have V_94 := V_70.other W91 (Ne.symm (Exa.neArv E_71 V_70 (ww hw 3 rfl)))
    have E_95 := E_71.wr W91
    have F96 := F72.other W91 (Or.inr (slot_ne (Or.inr (ww hw 35 rfl)) (Or.inl (ww hw 69 rfl)) (by decide) (t := .int) (t' := .int) (by decide) (by decide)))
    have F97 := F73.other W91 (Or.inr (slot_ne (Or.inr (ww hw 37 rfl)) (Or.inl (ww hw 69 rfl)) (by decide) (t := .int) (t' := .int) (by decide) (by decide)))
    have F98 := F74.other W91 (Or.inr (slot_ne (Or.inl (ww hw 14 rfl)) (Or.inl (ww hw 69 rfl)) (by decide) (t := (.array (.array .long))) (t' := .int) (by decide) (by decide)))
    have F99 := F75.other W91 (Or.inr (slot_ne (Or.inl (ww hw 18 rfl)) (Or.inl (ww hw 69 rfl)) (by decide) (t := (.array (.object "com/example/traza/traza/PackedRows$Layout"))) (t' := .int) (by decide) (by decide)))
    have F100 := F76.other W91 (Or.inr (slot_ne (Or.inl (ww hw 58 rfl)) (Or.inl (ww hw 69 rfl)) (by decide) (t := (.object "com/example/traza/traza/PackedRows$Layout")) (t' := .int) (by decide) (by decide)))
    have F101 := F77.other W91 (Or.inr (slot_ne (Or.inl (ww hw 62 rfl)) (Or.inl (ww hw 69 rfl)) (by decide) (t := (.array .long)) (t' := .int) (by decide) (by decide)))
    have E_102 := E_79.wr W91
    have F103 := F80.other W91 (Or.inl (Exa.ne E_79 E_71 (by decide)))
    have F104 := F81.other W91 (Or.inl (Exa.ne E_79 E_71 (by decide)))
    have F105 := F82.other W91 (Or.inl (Exa.ne E_79 E_71 (by decide)))
    have F106 := F83.other W91 (Or.inl (Exa.ne E_79 E_71 (by decide)))
    have V_107 := V_84.other W91 (Ne.symm (Exa.neArv E_71 V_84 (ww hw 3 rfl)))
    have V_108 := V_85.other W91 (Ne.symm (Exa.neArv E_71 V_85 (ww hw 3 rfl)))
    have V_109 := V_86.other W91 (Ne.symm (Exa.neArv E_71 V_86 (ww hw 3 rfl)))
    have E_110 := E_87.wr W91
    have VL111 := LAr_other VL88 W91 (LAr_exa VL88 E_71 (ww hw 3 rfl))
    have VL112 := LAr_other VC67 W91 (LAr_exa VC67 E_71 (ww hw 3 rfl))
    have F113 : Fld Z h91 aP "com/example/traza/traza/PackedRows" "size" "I" (.int (2 : Int32)) := F78.same W91
    have N91 := Fr.snoc X91 N67 gP
    show Go p e below _ (T91.setTop (mkF m 192 #[.val (.ref aP), .val (.ref aV), .val (.int (0 : Int32))] [(.int (1 : Int32))]))
    have hFF : ∀ v ∈ [(v0_0, v0_1, v0_2), (p0, p1, p2)], own_fits b0_27 b1_27 b2_27 v := fun v hv => (List.mem_append.mp (show v ∈ [(v0_0, v0_1, v0_2)] ++ [(p0, p1, p2)] from hv)).elim (r_hF_27 v) (fun q => by cases List.mem_singleton.mp q; exact FT27)
    exact goRetI X91 hx hlk hret e91 (hb hby d9_192) (by decide) (by decide) ⟨rfl, N91, Y93, aL_27, aw_27, aK_27, aY_27, aB_27, aC_27, kw_27, kK_27, kY_27, w0_27, w1_27, w2_27, rb_27, wd_27, cw_27, b0_27, b1_27, b2_27, f67, g35, (.ref aC_27), (.ref aL_27), ⟨E_95, F96, F97, F98, F99, F100, F101, F113, E_102, F103, F104, F105, F106, V_107, V_108, V_109, r_oK_27, r_oY_27, VL111, r_hW_27, r_pL_27, r_pw_27, r_pK_27, r_pY_27, r_pB_27, hFF, (fun _ => ⟨rfl, rfl, E_110, VL112, hR89, r_ne_27, r_pC_27⟩), (fun q => absurd q (by decide))⟩⟩
  · refine Go.st (fun _ => XS.ifYes X4.here hx rfl (pc0 := 38) (pc' := 59) rfl (hb hby d9_38) rfl ((if0 _ _).trans (feq hc26).2) (by decide) (by decide)) ?_
    have he4 := (hE4.resolve_left (fun q => hc26 q.1)).2
    show Go p e below _ (T4.setTop (mkF m 59 #[.val (.ref aP), .val (.ref aV), .unset] []))
    refine Go.st (fun _ => XS.aloadN X4.here hx rfl (hb hby d9_59) rfl rfl) ?_
    obtain ⟨T114, X114, e114, st114⟩ := getF X4 hx hZ hown (host := "") (Or.inl (ww hw 68 rfl)) Via.refl rfl F15 (g := (mkF m 60 #[.val (.ref aP), .val (.ref aV), .unset] [(.ref aP)])) rfl rfl (hb hby d9_60)
    refine Go.st st114 ?_
    refine Go.st (fun _ => XS.aloadN X114.here hx rfl (hb hby d9_63) rfl rfl) ?_
    obtain ⟨T115, X115, e115, st115⟩ := getF X114 hx hZ hown (host := "") (Or.inl (ww hw 34 rfl)) Via.refl e114 F9 (g := (mkF m 64 #[.val (.ref aP), .val (.ref aV), .unset] [(.ref aP), (.int (1 : Int32))])) rfl rfl (hb hby d9_64)
    refine Go.st st115 ?_
    show Go p e below _ (T115.setTop (mkF m 67 #[.val (.ref aP), .val (.ref aV), .unset] [(.int (12 : Int32)), (.int (1 : Int32))]))
    refine Go.st (fun _ => XS.iushr X115.here hx rfl (hb hby d9_67) rfl) ?_
    rw [show (((1 : Int32).toUInt32 >>> ((12 : Int32) &&& 31).toUInt32).toInt32) = (0 : Int32) from by decide]
    show Go p e below _ (T115.setTop (mkF m 68 #[.val (.ref aP), .val (.ref aV), .unset] [(.int (0 : Int32))]))
    refine Go.st (fun _ => XS.istoreN X115.here hx rfl (hb hby d9_68) rfl (l' := #[.val (.ref aP), .val (.ref aV), .val (.int (0 : Int32))]) rfl) ?_
    refine Go.st (fun _ => XS.aloadN X115.here hx rfl (hb hby d9_69) rfl rfl) ?_
    obtain ⟨T116, X116, e116, st116⟩ := getF X115 hx hZ hown (host := "") (Or.inl (ww hw 68 rfl)) Via.refl e115 F15 (g := (mkF m 70 #[.val (.ref aP), .val (.ref aV), .val (.int (0 : Int32))] [(.ref aP)])) rfl rfl (hb hby d9_70)
    refine Go.st st116 ?_
    refine Go.st (fun _ => XS.aloadN X116.here hx rfl (hb hby d9_73) rfl rfl) ?_
    show Go p e below _ (T116.setTop (mkF m 74 #[.val (.ref aP), .val (.ref aV), .val (.int (0 : Int32))] [(.ref aP), (.int (1 : Int32))]))
    obtain ⟨T117, X117, e117, st117⟩ := getF X116 hx hZ hown (host := "") (Or.inl (ww hw 36 rfl)) Via.refl e116 F10 (g := (mkF m 74 #[.val (.ref aP), .val (.ref aV), .val (.int (0 : Int32))] [(.ref aP), (.int (1 : Int32))])) rfl rfl (hb hby d9_74)
    refine Go.st st117 ?_
    refine Go.st (fun _ => XS.iand X117.here hx rfl (hb hby d9_77) rfl) ?_
    refine Go.st (fun _ => XS.ifYes X117.here hx rfl (pc0 := 78) (pc' := 155) rfl (hb hby d9_78) rfl ((if0 _ _).trans (feq (by decide : ¬ ((1 : Int32) = (0 : Int32)))).2) (by decide) (by decide)) ?_
    refine Go.st (fun _ => XS.aloadN X117.here hx rfl (hb hby d9_155) rfl rfl) ?_
    show Go p e below _ (T117.setTop (mkF m 156 #[.val (.ref aP), .val (.ref aV), .val (.int (0 : Int32))] [(.ref aP)]))
    obtain ⟨T118, X118, e118, st118⟩ := getF X117 hx hZ hown (host := "") (Or.inl (ww hw 57 rfl)) Via.refl e117 F13 (g := (mkF m 156 #[.val (.ref aP), .val (.ref aV), .val (.int (0 : Int32))] [(.ref aP)])) rfl rfl (hb hby d9_156)
    refine Go.st st118 ?_
    refine Go.st (fun _ => XS.aloadN X118.here hx rfl (hb hby d9_159) rfl rfl) ?_
    obtain ⟨T119, X119, e119, st119⟩ := getF X118 hx hZ hown (host := "") (Or.inl (ww hw 13 rfl)) Via.refl e118 F11 (g := (mkF m 160 #[.val (.ref aP), .val (.ref aV), .val (.int (0 : Int32))] [(.ref aP), (.ref aL)])) rfl rfl (hb hby d9_160)
    refine Go.st st119 ?_
    refine Go.st (fun _ => XS.iloadN X119.here hx rfl (hb hby d9_163) rfl) ?_
    show Go p e below _ (T119.setTop (mkF m 164 #[.val (.ref aP), .val (.ref aV), .val (.int (0 : Int32))] [(.int (0 : Int32)), (.ref aK), (.ref aL)]))
    obtain ⟨cl120, Ar120, qk120, Sz120, Nn120, Ha120, Ga120⟩ := id V_22
    have hin120 : ¬ ((0 : Int32) < 0 ∨ cl120.slots.size ≤ ((0 : Int32) : Int32).toNatClampNeg) := inb_of Sz120 ⟨by decide, by decide⟩
    refine Go.st (fun _ => X119.aaload hx (j := (0 : Int32)) (v := (.ref aC)) (by rw [e119]; exact Ar120.1) (State.isArrayOf_alike hZ.alike Ar120.2.1) rfl Ar120.2.2 hin120 (Has.at Ha120 hin120 rfl) (g := (mkF m 164 #[.val (.ref aP), .val (.ref aV), .val (.int (0 : Int32))] [(.int (0 : Int32)), (.ref aK), (.ref aL)])) rfl rfl (hb hby d9_164) _) ?_
    refine Go.st (fun _ => XS.aloadN X119.here hx rfl (hb hby d9_165) rfl rfl) ?_
    obtain ⟨T121, X121, e121, st121⟩ := getF X119 hx hZ hown (host := "") (Or.inl (ww hw 68 rfl)) Via.refl e119 F15 (g := (mkF m 166 #[.val (.ref aP), .val (.ref aV), .val (.int (0 : Int32))] [(.ref aP), (.ref aC), (.ref aL)])) rfl rfl (hb hby d9_166)
    refine Go.st st121 ?_
    refine Go.st (fun _ => XS.aloadN X121.here hx rfl (hb hby d9_169) rfl rfl) ?_
    show Go p e below _ (T121.setTop (mkF m 170 #[.val (.ref aP), .val (.ref aV), .val (.int (0 : Int32))] [(.ref aP), (.int (1 : Int32)), (.ref aC), (.ref aL)]))
    obtain ⟨T122, X122, e122, st122⟩ := getF X121 hx hZ hown (host := "") (Or.inl (ww hw 36 rfl)) Via.refl e121 F10 (g := (mkF m 170 #[.val (.ref aP), .val (.ref aV), .val (.int (0 : Int32))] [(.ref aP), (.int (1 : Int32)), (.ref aC), (.ref aL)])) rfl rfl (hb hby d9_170)
    refine Go.st st122 ?_
    refine Go.st (fun _ => XS.iand X122.here hx rfl (hb hby d9_173) rfl) ?_
    refine Go.st (fun _ => XS.aloadN X122.here hx rfl (hb hby d9_174) rfl rfl) ?_
    obtain ⟨T123, X123, e123, st123⟩ := getF X122 hx hZ hown (host := "") (Or.inl (ww hw 61 rfl)) Via.refl e122 F14 (g := (mkF m 175 #[.val (.ref aP), .val (.ref aV), .val (.int (0 : Int32))] [(.ref aP), (.int (1 : Int32)), (.ref aC), (.ref aL)])) rfl rfl (hb hby d9_175)
    refine Go.st st123 ?_
    show Go p e below _ (T123.setTop (mkF m 178 #[.val (.ref aP), .val (.ref aV), .val (.int (0 : Int32))] [(.ref aB), (.int (1 : Int32)), (.ref aC), (.ref aL)]))
    refine goVirt X123 hx hZ (y := (⟨"com/example/traza/traza/PackedRows$Layout", "put", "([JI[J)V"⟩ : MethodName)) (z := (⟨"com/example/traza/traza/PackedRows$Layout", "put", "([JI[J)V"⟩ : MethodName)) hown (ww hw 88 rfl) (ww hw 89 rfl) (notFace_of_selects (args := #[]) (mvT hZ (ww hw 91 rfl))) (ww hw 91 rfl) (ww hw 90 rfl) (ww hw 39 rfl) (ww hw 92 rfl) (by decide) (a := aL) (argsL := [(.ref aC), (.int (1 : Int32)), (.ref aB)]) (rest := []) e123 E_16 (rm_put l Z a0 hw [] aL aC aB (1 : Int32) 1 w0 w1 w2 rb wd cw b0 b1 b2 f g4 T4.heap n0 O5 E_16 F18 F19 VL25 VB4 r_ne (Nat.le_trans gP r_pC) r_hW rfl (by decide) (enc_clear he4.2)) 0 (by decide) (by decide) (by decide) (by decide) (mkF m 178 #[.val (.ref aP), .val (.ref aV), .val (.int (0 : Int32))] [(.ref aB), (.int (1 : Int32)), (.ref aC), (.ref aL)]) rfl (by rw [hml]; rfl) (lenOf pd_8 rfl) rfl (hb hby d9_178) (Nat.le_of_eq rfl) ?_
    intro v124 T124 L124 X124 hQ124
    obtain ⟨rfl, M124, K124, f124, VC124, hP124⟩ := hQ124
    have N124 := Fr.app N4 M124
    have O125 := O5.keep K124 (allS (Nat.le_trans gP r_pC) all0)
    have V_126 := V_6.keep K124 (ninS (Ne.symm (LAr_arv VL25 V_6 (fun q => nomatch q))) nin0)
    have Y127 := Low_keep Y7 K124 (allS r_pC all0)
    have E_128 := E_8.keep K124
    have F129 := F9.keep K124 (ninS (Ne.symm (LAr_exa VL25 E_8 (ww hw 3 rfl))) nin0)
    have F130 := F10.keep K124 (ninS (Ne.symm (LAr_exa VL25 E_8 (ww hw 3 rfl))) nin0)
    have F131 := F11.keep K124 (ninS (Ne.symm (LAr_exa VL25 E_8 (ww hw 3 rfl))) nin0)
    have F132 := F12.keep K124 (ninS (Ne.symm (LAr_exa VL25 E_8 (ww hw 3 rfl))) nin0)
    have F133 := F13.keep K124 (ninS (Ne.symm (LAr_exa VL25 E_8 (ww hw 3 rfl))) nin0)
    have F134 := F14.keep K124 (ninS (Ne.symm (LAr_exa VL25 E_8 (ww hw 3 rfl))) nin0)
    have F135 := F15.keep K124 (ninS (Ne.symm (LAr_exa VL25 E_8 (ww hw 3 rfl))) nin0)
    have E_136 := E_16.keep K124
    have F137 := F17.keep K124 (ninS (Ne.symm (LAr_exa VL25 E_16 (ww hw 38 rfl))) nin0)
    have F138 := F18.keep K124 (ninS (Ne.symm (LAr_exa VL25 E_16 (ww hw 38 rfl))) nin0)
    have F139 := F19.keep K124 (ninS (Ne.symm (LAr_exa VL25 E_16 (ww hw 38 rfl))) nin0)
    have F140 := F20.keep K124 (ninS (Ne.symm (LAr_exa VL25 E_16 (ww hw 38 rfl))) nin0)
    have V_141 := V_21.keep K124 (ninS (Ne.symm (LAr_arv VL25 V_21 (fun q => nomatch q))) nin0)
    have V_142 := V_22.keep K124 (ninS (Ne.symm (LAr_arv VL25 V_22 (fun q => nomatch q))) nin0)
    have V_143 := V_23.keep K124 (ninS (Ne.symm (LAr_arv VL25 V_23 (fun q => nomatch q))) nin0)
    have E_144 := E_24.keep K124
    have VL145 := LAr_keep VB4 K124 (ninS (Ne.symm r_ne) nin0)
    have hR146 := put_rows (rows := [(v0_0, v0_1, v0_2)]) (r := 1) rfl r_hR he4.2 hP124
    show Go p e below _ (T124.setTop (mkF m 181 #[.val (.ref aP), .val (.ref aV), .val (.int (0 : Int32))] []))
    refine Go.st (fun _ => XS.aloadN X124.here hx rfl (hb hby d9_181) rfl rfl) ?_
    refine Go.st (fun _ => XS.dup X124.here hx rfl (hb hby d9_182) rfl rfl) ?_
    obtain ⟨T147, X147, e147, st147⟩ := getF X124 hx hZ hown (host := "") (Or.inl (ww hw 68 rfl)) Via.refl rfl F135 (g := (mkF m 183 #[.val (.ref aP), .val (.ref aV), .val (.int (0 : Int32))] [(.ref aP), (.ref aP)])) rfl rfl (hb hby d9_183)
    refine Go.st st147 ?_
    refine Go.st (fun _ => XS.dupX1 X147.here hx rfl (hb hby d9_186) rfl rfl rfl) ?_
    show Go p e below _ (T147.setTop (mkF m 187 #[.val (.ref aP), .val (.ref aV), .val (.int (0 : Int32))] [(.int (1 : Int32)), (.ref aP), (.int (1 : Int32))]))
    refine Go.st (fun _ => XS.iconst X147.here hx rfl (hb hby d9_187)) ?_
    refine Go.st (fun _ => XS.iadd X147.here hx rfl (hb hby d9_188) rfl) ?_
    obtain ⟨T148, h148, X148, e148, W148, st148⟩ := putF X147 hx hZ hown (host := "") (Or.inl (ww hw 68 rfl)) Via.refl e147 F135 E_128 (Or.inl (ww hw 69 rfl)) (ww hw 3 rfl) (ty := .int) (by decide) rfl rfl (g := (mkF m 189 #[.val (.ref aP), .val (.ref aV), .val (.int (0 : Int32))] [(.int (2 : Int32)), (.ref aP), (.int (1 : Int32))])) rfl rfl (hb hby d9_189)
    refine Go.st st148 ?_
    have O149 := O125.wr W148 gP
    have V_150 := V_126.other W148 (Ne.symm (Exa.neArv E_128 V_126 (ww hw 3 rfl)))
    have Y151 := Low_wr Y127 W148 (Nat.le_refl _)
    have E_152 := E_128.wr W148
    have F153 := F129.other W148 (Or.inr (slot_ne (Or.inr (ww hw 35 rfl)) (Or.inl (ww hw 69 rfl)) (by decide) (t := .int) (t' := .int) (by decide) (by decide)))
    have F154 := F130.other W148 (Or.inr (slot_ne (Or.inr (ww hw 37 rfl)) (Or.inl (ww hw 69 rfl)) (by decide) (t := .int) (t' := .int) (by decide) (by decide)))
    have F155 := F131.other W148 (Or.inr (slot_ne (Or.inl (ww hw 14 rfl)) (Or.inl (ww hw 69 rfl)) (by decide) (t := (.array (.array .long))) (t' := .int) (by decide) (by decide)))
    have F156 := F132.other W148 (Or.inr (slot_ne (Or.inl (ww hw 18 rfl)) (Or.inl (ww hw 69 rfl)) (by decide) (t := (.array (.object "com/example/traza/traza/PackedRows$Layout"))) (t' := .int) (by decide) (by decide)))
    have F157 := F133.other W148 (Or.inr (slot_ne (Or.inl (ww hw 58 rfl)) (Or.inl (ww hw 69 rfl)) (by decide) (t := (.object "com/example/traza/traza/PackedRows$Layout")) (t' := .int) (by decide) (by decide)))
    have F158 := F134.other W148 (Or.inr (slot_ne (Or.inl (ww hw 62 rfl)) (Or.inl (ww hw 69 rfl)) (by decide) (t := (.array .long)) (t' := .int) (by decide) (by decide)))
    have E_159 := E_136.wr W148
    have F160 := F137.other W148 (Or.inl (Exa.ne E_136 E_128 (by decide)))
    have F161 := F138.other W148 (Or.inl (Exa.ne E_136 E_128 (by decide)))
    have F162 := F139.other W148 (Or.inl (Exa.ne E_136 E_128 (by decide)))
    have F163 := F140.other W148 (Or.inl (Exa.ne E_136 E_128 (by decide)))
    have V_164 := V_141.other W148 (Ne.symm (Exa.neArv E_128 V_141 (ww hw 3 rfl)))
    have V_165 := V_142.other W148 (Ne.symm (Exa.neArv E_128 V_142 (ww hw 3 rfl)))
    have V_166 := V_143.other W148 (Ne.symm (Exa.neArv E_128 V_143 (ww hw 3 rfl)))
    have E_167 := E_144.wr W148
    have VL168 := LAr_other VL145 W148 (LAr_exa VL145 E_128 (ww hw 3 rfl))
    have VL169 := LAr_other VC124 W148 (LAr_exa VC124 E_128 (ww hw 3 rfl))
    have F170 : Fld Z h148 aP "com/example/traza/traza/PackedRows" "size" "I" (.int (2 : Int32)) := F135.same W148
    have N148 := Fr.snoc X148 N124 gP
    show Go p e below _ (T148.setTop (mkF m 192 #[.val (.ref aP), .val (.ref aV), .val (.int (0 : Int32))] [(.int (1 : Int32))]))
    have hFF : ∀ v ∈ [(v0_0, v0_1, v0_2), (p0, p1, p2)], own_fits b0 b1 b2 v := fun v hv => (List.mem_append.mp (show v ∈ [(v0_0, v0_1, v0_2)] ++ [(p0, p1, p2)] from hv)).elim (r_hF v) (fun q => by cases List.mem_singleton.mp q; exact he4.1)
    exact goRetI X148 hx hlk hret e148 (hb hby d9_192) (by decide) (by decide) ⟨rfl, N148, Y151, aL, aw, aK, aY, aB, aC, kw, kK, kY, w0, w1, w2, rb, wd, cw, b0, b1, b2, f124, g4, (.ref aC), (.ref aL), ⟨E_152, F153, F154, F155, F156, F157, F158, F170, E_159, F160, F161, F162, F163, V_164, V_165, V_166, r_oK, r_oY, VL168, r_hW, r_pL, r_pw, r_pK, r_pY, r_pB, hFF, (fun _ => ⟨rfl, rfl, E_167, VL169, hR146, r_ne, r_pC⟩), (fun q => absurd q (by decide))⟩⟩
set_option maxRecDepth 65536 in
set_option maxHeartbeats 40000000 in
theorem rm_wid2 (l : Launch) (Z : State) (a0 : Array Value) (hw : ∀ d ∈ tables_1, d.before a0 Z = true) (ws : List Jvm.Cond) (aP aV : Addr) (kV : ClassId) (p0 p1 p2 : Int32) (v0_0 v0_1 v0_2 : Int32) (v1_0 v1_1 v1_2 : Int32) (aL : Addr) (aw : Addr) (aK : Addr) (aY : Addr) (aB : Addr) (aC : Addr) (kw : ClassId) (kK : ClassId) (kY : ClassId) (w0 : Int32) (w1 : Int32) (w2 : Int32) (rb : Int32) (wd : Int32) (cw : Int32) (b0 : Nat) (b1 : Nat) (b2 : Nat) (f : Nat → Int64) (g : Nat → Int64) (xK : Value) (xY : Value) (h0 : Heap) (n0 : Nat) (O0 : Old Z n0 h0) (HP : PR Z h0 aP (2 : Int32) [(v0_0, v0_1, v0_2), (v1_0, v1_1, v1_2)] aL aw aK aY aB aC kw kK kY w0 w1 w2 rb wd cw b0 b1 b2 f g xK xY) (gP : n0 ≤ aP) (vV : Arv Z h0 aV kV .int (3 : Int32) [(.int p0), (.int p1), (.int p2)] (.int (0 : Int32))) (hp0 : ¬ p0 < 0) (hp1 : ¬ p1 < 0) (hp2 : ¬ p2 < 0) :
    Ctr l (⟨"com/example/traza/traza/PackedRows", "widen", "([I)V"⟩ : MethodName) prog_27_method_7_code 10 none ws ({ frames := 2, cells := 6, slots := 5966, locals := 39 } : Room) #[(.ref aP), (.ref aV)] Z h0 (fun v h L => v = none ∧ Fr n0 L ∧ Low aP h0 h ∧ Arv Z h aV kV .int (3 : Int32) [(.int p0), (.int p1), (.int p2)] (.int (0 : Int32)) ∧ ∃ (aL' : Addr) (aw' : Addr) (aK' : Addr) (aY' : Addr) (aB' : Addr) (aC' : Addr) (kw' : ClassId) (kK' : ClassId) (kY' : ClassId) (w0' : Int32) (w1' : Int32) (w2' : Int32) (rb' : Int32) (wd' : Int32) (cw' : Int32) (b0' : Nat) (b1' : Nat) (b2' : Nat) (f' : Nat → Int64) (g' : Nat → Int64) (xK' : Value) (xY' : Value), PR Z h aP (2 : Int32) [(v0_0, v0_1, v0_2), (v1_0, v1_1, v1_2)] aL' aw' aK' aY' aB' aC' kw' kK' kY' w0' w1' w2' rb' wd' cw' b0' b1' b2' f' g' xK' xY' ∧ own_fits b0' b1' b2' (p0, p1, p2)) := by
  have ef : ∀ m : MethodId, entryFrame m #[(.ref aP), (.ref aV)] 10 = mkF m 0 #[.val (.ref aP), .val (.ref aV), .unset, .unset, .unset, .unset, .unset, .unset, .unset, .unset] [] := fun m => by first | (simp [entryFrame, mkF, argsToLocals, Value.category]; done) | rfl
  refine Ctr.of (plainFor_of_name pn_11) ?_
  intro p e s m below meth c s₁ hx hZ hby hml hown0 hnm hret hlk X0 e0
  have hown : s.vm.findClass "com/example/traza/traza/PackedRows" = some m.cls := hown0
  have N0 := Fr.nil n0
  refine Go.st (fun t k => castTop (ef m) k) ?_
  obtain ⟨r_eP, r_f_chunkShift, r_f_chunkMask, r_f_chunks, r_f_layouts, r_f_layout, r_f_bits, r_f_size, r_eL, r_l_widths, r_l_rowBits, r_l_words, r_l_chunkWords, r_vw, r_vK, r_vY, r_oK, r_oY, r_vB, r_hW, r_pL, r_pw, r_pK, r_pY, r_pB, r_hF, r_full, r_none⟩ := HP
  obtain ⟨rfl, rfl, r_eC, r_vC, r_hR, r_ne, r_pC⟩ := r_full (by decide)
  obtain ⟨hw0, hw1, hw2, hb0, hb1, hb2, hrb, hwd, hcw⟩ := id r_hW
  show Go p e below _ (s₁.setTop (mkF m 0 #[.val (.ref aP), .val (.ref aV), .unset, .unset, .unset, .unset, .unset, .unset, .unset, .unset] []))
  refine Go.st (fun _ => XS.aloadN X0.here hx rfl (hb hby d11_0) rfl rfl) ?_
  show Go p e below _ (s₁.setTop (mkF m 1 #[.val (.ref aP), .val (.ref aV), .unset, .unset, .unset, .unset, .unset, .unset, .unset, .unset] [(.ref aV)]))
  obtain ⟨cl1, Ar1, qk1, Sz1, Nn1, Ha1, Ga1⟩ := id vV
  refine Go.st (fun _ => X0.arraylength hx (by rw [e0]; exact Ar1.1) (State.isArrayOf_alike hZ.alike Ar1.2.1) (g := (mkF m 1 #[.val (.ref aP), .val (.ref aV), .unset, .unset, .unset, .unset, .unset, .unset, .unset, .unset] [(.ref aV)])) rfl rfl (hb hby d11_1) _) ?_
  rw [len_of Sz1 Nn1]
  show Go p e below _ (s₁.setTop (mkF m 2 #[.val (.ref aP), .val (.ref aV), .unset, .unset, .unset, .unset, .unset, .unset, .unset, .unset] [(.int (3 : Int32))]))
  obtain ⟨T2, h2, k2, X2, e2, E2, A2, st2⟩ := newP X0 hx hZ (ww hw 1 rfl) e0 (g := (mkF m 2 #[.val (.ref aP), .val (.ref aV), .unset, .unset, .unset, .unset, .unset, .unset, .unset, .unset] [(.int (3 : Int32))])) rfl (hb hby d11_2) rfl (by decide) (cap := 3) (by decide) (by decide) (by decide) (by decide)
  obtain ⟨ad2, g2⟩ : ∃ z, z = h0.size := ⟨_, rfl⟩
  rw [← g2] at A2 st2
  refine Go.st st2 ?_
  have gn2 : n0 ≤ ad2 := oldGe O0 g2
  have ne3 : aV ≠ ad2 := Nat.ne_of_lt (Nat.lt_of_lt_of_le vV.lt (Nat.le_of_eq g2.symm))
  have lne4 : aP < ad2 := (Nat.lt_of_lt_of_le r_eP.lt (Nat.le_of_eq g2.symm))
  have ne4 : aP ≠ ad2 := Nat.ne_of_lt lne4
  have ne5 : aL ≠ ad2 := Nat.ne_of_lt (Nat.lt_of_lt_of_le r_eL.lt (Nat.le_of_eq g2.symm))
  have ne6 : aw ≠ ad2 := Nat.ne_of_lt (Nat.lt_of_lt_of_le r_vw.lt (Nat.le_of_eq g2.symm))
  have ne7 : aK ≠ ad2 := Nat.ne_of_lt (Nat.lt_of_lt_of_le r_vK.lt (Nat.le_of_eq g2.symm))
  have ne8 : aY ≠ ad2 := Nat.ne_of_lt (Nat.lt_of_lt_of_le r_vY.lt (Nat.le_of_eq g2.symm))
  have ne9 : aB ≠ ad2 := Nat.ne_of_lt (Nat.lt_of_lt_of_le (LAr_lt r_vB) (Nat.le_of_eq g2.symm))
  have ne10 : aC ≠ ad2 := Nat.ne_of_lt (Nat.lt_of_lt_of_le r_eC.lt (Nat.le_of_eq g2.symm))
  have O11 := O0.ext E2
  have V_12 := vV.ext E2
  have Y13 := Low_ext (Low_refl (P := aP) (h := h0)) E2
  have E_14 := r_eP.ext E2
  have F15 := r_f_chunkShift.ext E2
  have F16 := r_f_chunkMask.ext E2
  have F17 := r_f_chunks.ext E2
  have F18 := r_f_layouts.ext E2
  have F19 := r_f_layout.ext E2
  have F20 := r_f_bits.ext E2
  have F21 := r_f_size.ext E2
  have E_22 := r_eL.ext E2
  have F23 := r_l_widths.ext E2
  have F24 := r_l_rowBits.ext E2
  have F25 := r_l_words.ext E2
  have F26 := r_l_chunkWords.ext E2
  have V_27 := r_vw.ext E2
  have V_28 := r_vK.ext E2
  have V_29 := r_vY.ext E2
  have VL30 := LAr_ext r_vB E2
  have E_31 := r_eC.ext E2
  have VL32 := LAr_ext r_vC E2
  have V_33 : Arv Z h2 ad2 k2 .int (3 : Int32) [(.int (0 : Int32)), (.int (0 : Int32)), (.int (0 : Int32))] (.int (0 : Int32)) := (Arv.new A2 (by decide)).pad (pad_rep [] (.int (0 : Int32)) 3)
  refine Go.st (fun _ => XS.astoreN X2.here hx rfl (hb hby d11_4) rfl rfl (l' := #[.val (.ref aP), .val (.ref aV), .val (.ref ad2), .unset, .unset, .unset, .unset, .unset, .unset, .unset]) rfl) ?_
  refine Go.st (fun _ => XS.iconst X2.here hx rfl (hb hby d11_5)) ?_
  refine Go.st (fun _ => XS.istoreN X2.here hx rfl (hb hby d11_6) rfl (l' := #[.val (.ref aP), .val (.ref aV), .val (.ref ad2), .val (.int (0 : Int32)), .unset, .unset, .unset, .unset, .unset, .unset]) rfl) ?_
  show Go p e below _ (T2.setTop (mkF m 7 #[.val (.ref aP), .val (.ref aV), .val (.ref ad2), .val (.int (0 : Int32)), .unset, .unset, .unset, .unset, .unset, .unset] []))
  refine Go.st (fun _ => XS.iloadN X2.here hx rfl (hb hby d11_7) rfl) ?_
  refine Go.st (fun _ => XS.aloadN X2.here hx rfl (hb hby d11_8) rfl rfl) ?_
  show Go p e below _ (T2.setTop (mkF m 9 #[.val (.ref aP), .val (.ref aV), .val (.ref ad2), .val (.int (0 : Int32)), .unset, .unset, .unset, .unset, .unset, .unset] [(.ref aV), (.int (0 : Int32))]))
  obtain ⟨cl34, Ar34, qk34, Sz34, Nn34, Ha34, Ga34⟩ := id V_12
  refine Go.st (fun _ => X2.arraylength hx (by rw [e2]; exact Ar34.1) (State.isArrayOf_alike hZ.alike Ar34.2.1) (g := (mkF m 9 #[.val (.ref aP), .val (.ref aV), .val (.ref ad2), .val (.int (0 : Int32)), .unset, .unset, .unset, .unset, .unset, .unset] [(.ref aV), (.int (0 : Int32))])) rfl rfl (hb hby d11_9) _) ?_
  rw [len_of Sz34 Nn34]
  show Go p e below _ (T2.setTop (mkF m 10 #[.val (.ref aP), .val (.ref aV), .val (.ref ad2), .val (.int (0 : Int32)), .unset, .unset, .unset, .unset, .unset, .unset] [(.int (3 : Int32)), (.int (0 : Int32))]))
  refine Go.st (fun _ => XS.icmpNo X2.here hx rfl (hb hby d11_10) rfl (tlt (by decide : (0 : Int32) < (3 : Int32))).2.1) ?_
  refine Go.st (fun _ => XS.aloadN X2.here hx rfl (hb hby d11_13) rfl rfl) ?_
  refine Go.st (fun _ => XS.iloadN X2.here hx rfl (hb hby d11_14) rfl) ?_
  obtain ⟨cl35, Ar35, qk35, Sz35, Nn35, Ha35, Ga35⟩ := id V_12
  have hin35 : ¬ ((0 : Int32) < 0 ∨ cl35.slots.size ≤ ((0 : Int32) : Int32).toNatClampNeg) := inb_of Sz35 ⟨by decide, by decide⟩
  refine Go.st (fun _ => X2.iaload hx (j := (0 : Int32)) (v := (.int p0)) (by rw [e2]; exact Ar35.1) (State.isArrayOf_alike hZ.alike Ar35.2.1) Ar35.2.2 hin35 (Has.at Ha35 hin35 rfl) (g := (mkF m 15 #[.val (.ref aP), .val (.ref aV), .val (.ref ad2), .val (.int (0 : Int32)), .unset, .unset, .unset, .unset, .unset, .unset] [(.int (0 : Int32)), (.ref aV)])) rfl rfl (hb hby d11_15) _) ?_
  show Go p e below _ (T2.setTop (mkF m 16 #[.val (.ref aP), .val (.ref aV), .val (.ref ad2), .val (.int (0 : Int32)), .unset, .unset, .unset, .unset, .unset, .unset] [(.int p0)]))
  refine Go.st (fun _ => XS.ifYes X2.here hx rfl (pc0 := 16) (pc' := 36) rfl (hb hby d11_16) rfl ((if0 _ _).trans (flt hp0).2.1) (by decide) (by decide)) ?_
  refine Go.st (fun _ => XS.aloadN X2.here hx rfl (hb hby d11_36) rfl rfl) ?_
  refine Go.st (fun _ => XS.iloadN X2.here hx rfl (hb hby d11_37) rfl) ?_
  refine Go.st (fun _ => XS.aloadN X2.here hx rfl (hb hby d11_38) rfl rfl) ?_
  show Go p e below _ (T2.setTop (mkF m 39 #[.val (.ref aP), .val (.ref aV), .val (.ref ad2), .val (.int (0 : Int32)), .unset, .unset, .unset, .unset, .unset, .unset] [(.ref aP), (.int (0 : Int32)), (.ref ad2)]))
  obtain ⟨T36, X36, e36, st36⟩ := getF X2 hx hZ hown (host := "") (Or.inl (ww hw 57 rfl)) Via.refl e2 F19 (g := (mkF m 39 #[.val (.ref aP), .val (.ref aV), .val (.ref ad2), .val (.int (0 : Int32)), .unset, .unset, .unset, .unset, .unset, .unset] [(.ref aP), (.int (0 : Int32)), (.ref ad2)])) rfl rfl (hb hby d11_39)
  refine Go.st st36 ?_
  obtain ⟨T37, X37, e37, st37⟩ := getFR X36 hx hZ hown (ww hw 80 rfl) e36 F23 (g := (mkF m 42 #[.val (.ref aP), .val (.ref aV), .val (.ref ad2), .val (.int (0 : Int32)), .unset, .unset, .unset, .unset, .unset, .unset] [(.ref aL), (.int (0 : Int32)), (.ref ad2)])) rfl rfl (hb hby d11_42)
  refine Go.st st37 ?_
  refine Go.st (fun _ => XS.iloadN X37.here hx rfl (hb hby d11_45) rfl) ?_
  obtain ⟨cl38, Ar38, qk38, Sz38, Nn38, Ha38, Ga38⟩ := id V_27
  have hin38 : ¬ ((0 : Int32) < 0 ∨ cl38.slots.size ≤ ((0 : Int32) : Int32).toNatClampNeg) := inb_of Sz38 ⟨by decide, by decide⟩
  refine Go.st (fun _ => X37.iaload hx (j := (0 : Int32)) (v := (.int w0)) (by rw [e37]; exact Ar38.1) (State.isArrayOf_alike hZ.alike Ar38.2.1) Ar38.2.2 hin38 (Has.at Ha38 hin38 rfl) (g := (mkF m 46 #[.val (.ref aP), .val (.ref aV), .val (.ref ad2), .val (.int (0 : Int32)), .unset, .unset, .unset, .unset, .unset, .unset] [(.int (0 : Int32)), (.ref aw), (.int (0 : Int32)), (.ref ad2)])) rfl rfl (hb hby d11_46) _) ?_
  show Go p e below _ (T37.setTop (mkF m 47 #[.val (.ref aP), .val (.ref aV), .val (.ref ad2), .val (.int (0 : Int32)), .unset, .unset, .unset, .unset, .unset, .unset] [(.int w0), (.int (0 : Int32)), (.ref ad2)]))
  refine Go.st (fun _ => XS.aloadN X37.here hx rfl (hb hby d11_47) rfl rfl) ?_
  refine Go.st (fun _ => XS.iloadN X37.here hx rfl (hb hby d11_48) rfl) ?_
  obtain ⟨cl39, Ar39, qk39, Sz39, Nn39, Ha39, Ga39⟩ := id V_12
  have hin39 : ¬ ((0 : Int32) < 0 ∨ cl39.slots.size ≤ ((0 : Int32) : Int32).toNatClampNeg) := inb_of Sz39 ⟨by decide, by decide⟩
  refine Go.st (fun _ => X37.iaload hx (j := (0 : Int32)) (v := (.int p0)) (by rw [e37]; exact Ar39.1) (State.isArrayOf_alike hZ.alike Ar39.2.1) Ar39.2.2 hin39 (Has.at Ha39 hin39 rfl) (g := (mkF m 49 #[.val (.ref aP), .val (.ref aV), .val (.ref ad2), .val (.int (0 : Int32)), .unset, .unset, .unset, .unset, .unset, .unset] [(.int (0 : Int32)), (.ref aV), (.int w0), (.int (0 : Int32)), (.ref ad2)])) rfl rfl (hb hby d11_49) _) ?_
  refine goCallS X37 hx hZ (y := (⟨"com/example/traza/traza/PackedRows", "bitsFor", "(I)I"⟩ : MethodName)) hown (ww hw 23 rfl) (ww hw 24 rfl) (ww hw 4 rfl) (ww hw 25 rfl) (by decide) (argsL := [(.int p0)]) (rest := [(.int w0), (.int (0 : Int32)), (.ref ad2)]) e37 (rm_bf l Z a0 hw [] p0 h2 n0 O11) 3 (by decide) (by decide) (by decide) (by decide) (mkF m 50 #[.val (.ref aP), .val (.ref aV), .val (.ref ad2), .val (.int (0 : Int32)), .unset, .unset, .unset, .unset, .unset, .unset] [(.int p0), (.int w0), (.int (0 : Int32)), (.ref ad2)]) rfl (by rw [hml]; rfl) (lenOf pd_0 rfl) rfl (hb hby d11_50) (Nat.le_of_eq rfl) ?_
  intro v40 T40 L40 X40 hQ40
  obtain ⟨⟨z40, rfl, hB40⟩, M40, e40⟩ := hQ40
  have N40 := Fr.app N0 M40
  show Go p e below _ (T40.setTop (mkF m 53 #[.val (.ref aP), .val (.ref aV), .val (.ref ad2), .val (.int (0 : Int32)), .unset, .unset, .unset, .unset, .unset, .unset] [(.int z40), (.int w0), (.int (0 : Int32)), (.ref ad2)]))
  refine goCallS X40 hx hZ (y := (⟨"java/lang/Math", "max", "(II)I"⟩ : MethodName)) hown (ww hw 19 rfl) (ww hw 20 rfl) (ww hw 21 rfl) (ww hw 22 rfl) (by decide) (argsL := [(.int w0), (.int z40)]) (rest := [(.int (0 : Int32)), (.ref ad2)]) e40 (rm_max l Z a0 hw [] w0 z40 h2 n0 O11) 2 (by decide) (by decide) (by decide) (by decide) (mkF m 53 #[.val (.ref aP), .val (.ref aV), .val (.ref ad2), .val (.int (0 : Int32)), .unset, .unset, .unset, .unset, .unset, .unset] [(.int z40), (.int w0), (.int (0 : Int32)), (.ref ad2)]) rfl (by rw [hml]; rfl) (lenOf pd_2 rfl) rfl (hb hby d11_53) (Nat.le_of_eq rfl) ?_
  intro v41 T41 L41 X41 hQ41
  obtain ⟨⟨m41, rfl, em41⟩, M41, e41⟩ := hQ41
  have N41 := Fr.app N40 M41
  obtain ⟨e0, he0, hl0, h30, hf0⟩ := own_mx hw0 hb0 hB40 hp0 em41
  show Go p e below _ (T41.setTop (mkF m 56 #[.val (.ref aP), .val (.ref aV), .val (.ref ad2), .val (.int (0 : Int32)), .unset, .unset, .unset, .unset, .unset, .unset] [(.int m41), (.int (0 : Int32)), (.ref ad2)]))
  obtain ⟨cl42, Ar42, qk42, Sz42, Nn42, Ha42, Ga42⟩ := id V_33
  have hin42 : ¬ ((0 : Int32) < 0 ∨ cl42.slots.size ≤ ((0 : Int32) : Int32).toNatClampNeg) := inb_of Sz42 ⟨by decide, by decide⟩
  obtain ⟨T42, h42, X42, e42, W42, st42⟩ := stI X41 hx hZ e41 Ar42 (j := (0 : Int32)) hin42 (g := (mkF m 56 #[.val (.ref aP), .val (.ref aV), .val (.ref ad2), .val (.int (0 : Int32)), .unset, .unset, .unset, .unset, .unset, .unset] [(.int m41), (.int (0 : Int32)), (.ref ad2)])) rfl rfl (hb hby d11_56)
  refine Go.st st42 ?_
  have O43 := O11.wr W42 gn2
  have V_44 := V_12.other W42 ne3
  have Y45 := Low_wr Y13 W42 (Nat.le_of_lt lne4)
  have E_46 := E_14.wr W42
  have F47 := F15.other W42 (Or.inl ne4)
  have F48 := F16.other W42 (Or.inl ne4)
  have F49 := F17.other W42 (Or.inl ne4)
  have F50 := F18.other W42 (Or.inl ne4)
  have F51 := F19.other W42 (Or.inl ne4)
  have F52 := F20.other W42 (Or.inl ne4)
  have F53 := F21.other W42 (Or.inl ne4)
  have E_54 := E_22.wr W42
  have F55 := F23.other W42 (Or.inl ne5)
  have F56 := F24.other W42 (Or.inl ne5)
  have F57 := F25.other W42 (Or.inl ne5)
  have F58 := F26.other W42 (Or.inl ne5)
  have V_59 := V_27.other W42 ne6
  have V_60 := V_28.other W42 ne7
  have V_61 := V_29.other W42 ne8
  have VL62 := LAr_other VL30 W42 ne9
  have E_63 := E_31.wr W42
  have VL64 := LAr_other VL32 W42 ne10
  have V_65 : Arv Z h42 ad2 k2 .int (3 : Int32) [(.int m41), (.int (0 : Int32)), (.int (0 : Int32))] (.int (0 : Int32)) := Arv.set Ar42 qk42 Sz42 Nn42 Ha42 Ga42 rfl W42 0 rfl (Nat.le_of_ble_eq_true rfl)
  have N42 := Fr.snoc X42 N41 gn2
  refine Go.st (fun _ => XS.iinc X42.here hx rfl (hb hby d11_57) rfl (l' := #[.val (.ref aP), .val (.ref aV), .val (.ref ad2), .val (.int (1 : Int32)), .unset, .unset, .unset, .unset, .unset, .unset]) rfl) ?_
  refine Go.st (fun _ => XS.goto X42.here hx rfl (pc0 := 60) (pc' := 7) rfl (hb hby d11_60) (by decide) (by decide)) ?_
  refine Go.st (fun _ => XS.iloadN X42.here hx rfl (hb hby d11_7) rfl) ?_
  show Go p e below _ (T42.setTop (mkF m 8 #[.val (.ref aP), .val (.ref aV), .val (.ref ad2), .val (.int (1 : Int32)), .unset, .unset, .unset, .unset, .unset, .unset] [(.int (1 : Int32))]))
  refine Go.st (fun _ => XS.aloadN X42.here hx rfl (hb hby d11_8) rfl rfl) ?_
  show Go p e below _ (T42.setTop (mkF m 9 #[.val (.ref aP), .val (.ref aV), .val (.ref ad2), .val (.int (1 : Int32)), .unset, .unset, .unset, .unset, .unset, .unset] [(.ref aV), (.int (1 : Int32))]))
  obtain ⟨cl66, Ar66, qk66, Sz66, Nn66, Ha66, Ga66⟩ := id V_44
  refine Go.st (fun _ => X42.arraylength hx (by rw [e42]; exact Ar66.1) (State.isArrayOf_alike hZ.alike Ar66.2.1) (g := (mkF m 9 #[.val (.ref aP), .val (.ref aV), .val (.ref ad2), .val (.int (1 : Int32)), .unset, .unset, .unset, .unset, .unset, .unset] [(.ref aV), (.int (1 : Int32))])) rfl rfl (hb hby d11_9) _) ?_
  rw [len_of Sz66 Nn66]
  show Go p e below _ (T42.setTop (mkF m 10 #[.val (.ref aP), .val (.ref aV), .val (.ref ad2), .val (.int (1 : Int32)), .unset, .unset, .unset, .unset, .unset, .unset] [(.int (3 : Int32)), (.int (1 : Int32))]))
  refine Go.st (fun _ => XS.icmpNo X42.here hx rfl (hb hby d11_10) rfl (tlt (by decide : (1 : Int32) < (3 : Int32))).2.1) ?_
  refine Go.st (fun _ => XS.aloadN X42.here hx rfl (hb hby d11_13) rfl rfl) ?_
  refine Go.st (fun _ => XS.iloadN X42.here hx rfl (hb hby d11_14) rfl) ?_
  obtain ⟨cl67, Ar67, qk67, Sz67, Nn67, Ha67, Ga67⟩ := id V_44
  have hin67 : ¬ ((1 : Int32) < 0 ∨ cl67.slots.size ≤ ((1 : Int32) : Int32).toNatClampNeg) := inb_of Sz67 ⟨by decide, by decide⟩
  refine Go.st (fun _ => X42.iaload hx (j := (1 : Int32)) (v := (.int p1)) (by rw [e42]; exact Ar67.1) (State.isArrayOf_alike hZ.alike Ar67.2.1) Ar67.2.2 hin67 (Has.at Ha67 hin67 rfl) (g := (mkF m 15 #[.val (.ref aP), .val (.ref aV), .val (.ref ad2), .val (.int (1 : Int32)), .unset, .unset, .unset, .unset, .unset, .unset] [(.int (1 : Int32)), (.ref aV)])) rfl rfl (hb hby d11_15) _) ?_
  show Go p e below _ (T42.setTop (mkF m 16 #[.val (.ref aP), .val (.ref aV), .val (.ref ad2), .val (.int (1 : Int32)), .unset, .unset, .unset, .unset, .unset, .unset] [(.int p1)]))
  refine Go.st (fun _ => XS.ifYes X42.here hx rfl (pc0 := 16) (pc' := 36) rfl (hb hby d11_16) rfl ((if0 _ _).trans (flt hp1).2.1) (by decide) (by decide)) ?_
  refine Go.st (fun _ => XS.aloadN X42.here hx rfl (hb hby d11_36) rfl rfl) ?_
  refine Go.st (fun _ => XS.iloadN X42.here hx rfl (hb hby d11_37) rfl) ?_
  refine Go.st (fun _ => XS.aloadN X42.here hx rfl (hb hby d11_38) rfl rfl) ?_
  show Go p e below _ (T42.setTop (mkF m 39 #[.val (.ref aP), .val (.ref aV), .val (.ref ad2), .val (.int (1 : Int32)), .unset, .unset, .unset, .unset, .unset, .unset] [(.ref aP), (.int (1 : Int32)), (.ref ad2)]))
  obtain ⟨T68, X68, e68, st68⟩ := getF X42 hx hZ hown (host := "") (Or.inl (ww hw 57 rfl)) Via.refl e42 F51 (g := (mkF m 39 #[.val (.ref aP), .val (.ref aV), .val (.ref ad2), .val (.int (1 : Int32)), .unset, .unset, .unset, .unset, .unset, .unset] [(.ref aP), (.int (1 : Int32)), (.ref ad2)])) rfl rfl (hb hby d11_39)
  refine Go.st st68 ?_
  obtain ⟨T69, X69, e69, st69⟩ := getFR X68 hx hZ hown (ww hw 80 rfl) e68 F55 (g := (mkF m 42 #[.val (.ref aP), .val (.ref aV), .val (.ref ad2), .val (.int (1 : Int32)), .unset, .unset, .unset, .unset, .unset, .unset] [(.ref aL), (.int (1 : Int32)), (.ref ad2)])) rfl rfl (hb hby d11_42)
  refine Go.st st69 ?_
  refine Go.st (fun _ => XS.iloadN X69.here hx rfl (hb hby d11_45) rfl) ?_
  obtain ⟨cl70, Ar70, qk70, Sz70, Nn70, Ha70, Ga70⟩ := id V_59
  have hin70 : ¬ ((1 : Int32) < 0 ∨ cl70.slots.size ≤ ((1 : Int32) : Int32).toNatClampNeg) := inb_of Sz70 ⟨by decide, by decide⟩
  refine Go.st (fun _ => X69.iaload hx (j := (1 : Int32)) (v := (.int w1)) (by rw [e69]; exact Ar70.1) (State.isArrayOf_alike hZ.alike Ar70.2.1) Ar70.2.2 hin70 (Has.at Ha70 hin70 rfl) (g := (mkF m 46 #[.val (.ref aP), .val (.ref aV), .val (.ref ad2), .val (.int (1 : Int32)), .unset, .unset, .unset, .unset, .unset, .unset] [(.int (1 : Int32)), (.ref aw), (.int (1 : Int32)), (.ref ad2)])) rfl rfl (hb hby d11_46) _) ?_
  show Go p e below _ (T69.setTop (mkF m 47 #[.val (.ref aP), .val (.ref aV), .val (.ref ad2), .val (.int (1 : Int32)), .unset, .unset, .unset, .unset, .unset, .unset] [(.int w1), (.int (1 : Int32)), (.ref ad2)]))
  refine Go.st (fun _ => XS.aloadN X69.here hx rfl (hb hby d11_47) rfl rfl) ?_
  refine Go.st (fun _ => XS.iloadN X69.here hx rfl (hb hby d11_48) rfl) ?_
  obtain ⟨cl71, Ar71, qk71, Sz71, Nn71, Ha71, Ga71⟩ := id V_44
  have hin71 : ¬ ((1 : Int32) < 0 ∨ cl71.slots.size ≤ ((1 : Int32) : Int32).toNatClampNeg) := inb_of Sz71 ⟨by decide, by decide⟩
  refine Go.st (fun _ => X69.iaload hx (j := (1 : Int32)) (v := (.int p1)) (by rw [e69]; exact Ar71.1) (State.isArrayOf_alike hZ.alike Ar71.2.1) Ar71.2.2 hin71 (Has.at Ha71 hin71 rfl) (g := (mkF m 49 #[.val (.ref aP), .val (.ref aV), .val (.ref ad2), .val (.int (1 : Int32)), .unset, .unset, .unset, .unset, .unset, .unset] [(.int (1 : Int32)), (.ref aV), (.int w1), (.int (1 : Int32)), (.ref ad2)])) rfl rfl (hb hby d11_49) _) ?_
  refine goCallS X69 hx hZ (y := (⟨"com/example/traza/traza/PackedRows", "bitsFor", "(I)I"⟩ : MethodName)) hown (ww hw 23 rfl) (ww hw 24 rfl) (ww hw 4 rfl) (ww hw 25 rfl) (by decide) (argsL := [(.int p1)]) (rest := [(.int w1), (.int (1 : Int32)), (.ref ad2)]) e69 (rm_bf l Z a0 hw [] p1 h42 n0 O43) 3 (by decide) (by decide) (by decide) (by decide) (mkF m 50 #[.val (.ref aP), .val (.ref aV), .val (.ref ad2), .val (.int (1 : Int32)), .unset, .unset, .unset, .unset, .unset, .unset] [(.int p1), (.int w1), (.int (1 : Int32)), (.ref ad2)]) rfl (by rw [hml]; rfl) (lenOf pd_0 rfl) rfl (hb hby d11_50) (Nat.le_of_eq rfl) ?_
  intro v72 T72 L72 X72 hQ72
  obtain ⟨⟨z72, rfl, hB72⟩, M72, e72⟩ := hQ72
  have N72 := Fr.app N42 M72
  show Go p e below _ (T72.setTop (mkF m 53 #[.val (.ref aP), .val (.ref aV), .val (.ref ad2), .val (.int (1 : Int32)), .unset, .unset, .unset, .unset, .unset, .unset] [(.int z72), (.int w1), (.int (1 : Int32)), (.ref ad2)]))
  refine goCallS X72 hx hZ (y := (⟨"java/lang/Math", "max", "(II)I"⟩ : MethodName)) hown (ww hw 19 rfl) (ww hw 20 rfl) (ww hw 21 rfl) (ww hw 22 rfl) (by decide) (argsL := [(.int w1), (.int z72)]) (rest := [(.int (1 : Int32)), (.ref ad2)]) e72 (rm_max l Z a0 hw [] w1 z72 h42 n0 O43) 2 (by decide) (by decide) (by decide) (by decide) (mkF m 53 #[.val (.ref aP), .val (.ref aV), .val (.ref ad2), .val (.int (1 : Int32)), .unset, .unset, .unset, .unset, .unset, .unset] [(.int z72), (.int w1), (.int (1 : Int32)), (.ref ad2)]) rfl (by rw [hml]; rfl) (lenOf pd_2 rfl) rfl (hb hby d11_53) (Nat.le_of_eq rfl) ?_
  intro v73 T73 L73 X73 hQ73
  obtain ⟨⟨m73, rfl, em73⟩, M73, e73⟩ := hQ73
  have N73 := Fr.app N72 M73
  obtain ⟨e1, he1, hl1, h31, hf1⟩ := own_mx hw1 hb1 hB72 hp1 em73
  show Go p e below _ (T73.setTop (mkF m 56 #[.val (.ref aP), .val (.ref aV), .val (.ref ad2), .val (.int (1 : Int32)), .unset, .unset, .unset, .unset, .unset, .unset] [(.int m73), (.int (1 : Int32)), (.ref ad2)]))
  obtain ⟨cl74, Ar74, qk74, Sz74, Nn74, Ha74, Ga74⟩ := id V_65
  have hin74 : ¬ ((1 : Int32) < 0 ∨ cl74.slots.size ≤ ((1 : Int32) : Int32).toNatClampNeg) := inb_of Sz74 ⟨by decide, by decide⟩
  obtain ⟨T74, h74, X74, e74, W74, st74⟩ := stI X73 hx hZ e73 Ar74 (j := (1 : Int32)) hin74 (g := (mkF m 56 #[.val (.ref aP), .val (.ref aV), .val (.ref ad2), .val (.int (1 : Int32)), .unset, .unset, .unset, .unset, .unset, .unset] [(.int m73), (.int (1 : Int32)), (.ref ad2)])) rfl rfl (hb hby d11_56)
  refine Go.st st74 ?_
  have O75 := O43.wr W74 gn2
  have V_76 := V_44.other W74 ne3
  have Y77 := Low_wr Y45 W74 (Nat.le_of_lt lne4)
  have E_78 := E_46.wr W74
  have F79 := F47.other W74 (Or.inl ne4)
  have F80 := F48.other W74 (Or.inl ne4)
  have F81 := F49.other W74 (Or.inl ne4)
  have F82 := F50.other W74 (Or.inl ne4)
  have F83 := F51.other W74 (Or.inl ne4)
  have F84 := F52.other W74 (Or.inl ne4)
  have F85 := F53.other W74 (Or.inl ne4)
  have E_86 := E_54.wr W74
  have F87 := F55.other W74 (Or.inl ne5)
  have F88 := F56.other W74 (Or.inl ne5)
  have F89 := F57.other W74 (Or.inl ne5)
  have F90 := F58.other W74 (Or.inl ne5)
  have V_91 := V_59.other W74 ne6
  have V_92 := V_60.other W74 ne7
  have V_93 := V_61.other W74 ne8
  have VL94 := LAr_other VL62 W74 ne9
  have E_95 := E_63.wr W74
  have VL96 := LAr_other VL64 W74 ne10
  have V_97 : Arv Z h74 ad2 k2 .int (3 : Int32) [(.int m41), (.int m73), (.int (0 : Int32))] (.int (0 : Int32)) := Arv.set Ar74 qk74 Sz74 Nn74 Ha74 Ga74 rfl W74 1 rfl (Nat.le_of_ble_eq_true rfl)
  have N74 := Fr.snoc X74 N73 gn2
  refine Go.st (fun _ => XS.iinc X74.here hx rfl (hb hby d11_57) rfl (l' := #[.val (.ref aP), .val (.ref aV), .val (.ref ad2), .val (.int (2 : Int32)), .unset, .unset, .unset, .unset, .unset, .unset]) rfl) ?_
  refine Go.st (fun _ => XS.goto X74.here hx rfl (pc0 := 60) (pc' := 7) rfl (hb hby d11_60) (by decide) (by decide)) ?_
  refine Go.st (fun _ => XS.iloadN X74.here hx rfl (hb hby d11_7) rfl) ?_
  show Go p e below _ (T74.setTop (mkF m 8 #[.val (.ref aP), .val (.ref aV), .val (.ref ad2), .val (.int (2 : Int32)), .unset, .unset, .unset, .unset, .unset, .unset] [(.int (2 : Int32))]))
  refine Go.st (fun _ => XS.aloadN X74.here hx rfl (hb hby d11_8) rfl rfl) ?_
  show Go p e below _ (T74.setTop (mkF m 9 #[.val (.ref aP), .val (.ref aV), .val (.ref ad2), .val (.int (2 : Int32)), .unset, .unset, .unset, .unset, .unset, .unset] [(.ref aV), (.int (2 : Int32))]))
  obtain ⟨cl98, Ar98, qk98, Sz98, Nn98, Ha98, Ga98⟩ := id V_76
  refine Go.st (fun _ => X74.arraylength hx (by rw [e74]; exact Ar98.1) (State.isArrayOf_alike hZ.alike Ar98.2.1) (g := (mkF m 9 #[.val (.ref aP), .val (.ref aV), .val (.ref ad2), .val (.int (2 : Int32)), .unset, .unset, .unset, .unset, .unset, .unset] [(.ref aV), (.int (2 : Int32))])) rfl rfl (hb hby d11_9) _) ?_
  rw [len_of Sz98 Nn98]
  show Go p e below _ (T74.setTop (mkF m 10 #[.val (.ref aP), .val (.ref aV), .val (.ref ad2), .val (.int (2 : Int32)), .unset, .unset, .unset, .unset, .unset, .unset] [(.int (3 : Int32)), (.int (2 : Int32))]))
  refine Go.st (fun _ => XS.icmpNo X74.here hx rfl (hb hby d11_10) rfl (tlt (by decide : (2 : Int32) < (3 : Int32))).2.1) ?_
  refine Go.st (fun _ => XS.aloadN X74.here hx rfl (hb hby d11_13) rfl rfl) ?_
  refine Go.st (fun _ => XS.iloadN X74.here hx rfl (hb hby d11_14) rfl) ?_
  obtain ⟨cl99, Ar99, qk99, Sz99, Nn99, Ha99, Ga99⟩ := id V_76
  have hin99 : ¬ ((2 : Int32) < 0 ∨ cl99.slots.size ≤ ((2 : Int32) : Int32).toNatClampNeg) := inb_of Sz99 ⟨by decide, by decide⟩
  refine Go.st (fun _ => X74.iaload hx (j := (2 : Int32)) (v := (.int p2)) (by rw [e74]; exact Ar99.1) (State.isArrayOf_alike hZ.alike Ar99.2.1) Ar99.2.2 hin99 (Has.at Ha99 hin99 rfl) (g := (mkF m 15 #[.val (.ref aP), .val (.ref aV), .val (.ref ad2), .val (.int (2 : Int32)), .unset, .unset, .unset, .unset, .unset, .unset] [(.int (2 : Int32)), (.ref aV)])) rfl rfl (hb hby d11_15) _) ?_
  show Go p e below _ (T74.setTop (mkF m 16 #[.val (.ref aP), .val (.ref aV), .val (.ref ad2), .val (.int (2 : Int32)), .unset, .unset, .unset, .unset, .unset, .unset] [(.int p2)]))
  refine Go.st (fun _ => XS.ifYes X74.here hx rfl (pc0 := 16) (pc' := 36) rfl (hb hby d11_16) rfl ((if0 _ _).trans (flt hp2).2.1) (by decide) (by decide)) ?_
  refine Go.st (fun _ => XS.aloadN X74.here hx rfl (hb hby d11_36) rfl rfl) ?_
  refine Go.st (fun _ => XS.iloadN X74.here hx rfl (hb hby d11_37) rfl) ?_
  refine Go.st (fun _ => XS.aloadN X74.here hx rfl (hb hby d11_38) rfl rfl) ?_
  show Go p e below _ (T74.setTop (mkF m 39 #[.val (.ref aP), .val (.ref aV), .val (.ref ad2), .val (.int (2 : Int32)), .unset, .unset, .unset, .unset, .unset, .unset] [(.ref aP), (.int (2 : Int32)), (.ref ad2)]))
  obtain ⟨T100, X100, e100, st100⟩ := getF X74 hx hZ hown (host := "") (Or.inl (ww hw 57 rfl)) Via.refl e74 F83 (g := (mkF m 39 #[.val (.ref aP), .val (.ref aV), .val (.ref ad2), .val (.int (2 : Int32)), .unset, .unset, .unset, .unset, .unset, .unset] [(.ref aP), (.int (2 : Int32)), (.ref ad2)])) rfl rfl (hb hby d11_39)
  refine Go.st st100 ?_
  obtain ⟨T101, X101, e101, st101⟩ := getFR X100 hx hZ hown (ww hw 80 rfl) e100 F87 (g := (mkF m 42 #[.val (.ref aP), .val (.ref aV), .val (.ref ad2), .val (.int (2 : Int32)), .unset, .unset, .unset, .unset, .unset, .unset] [(.ref aL), (.int (2 : Int32)), (.ref ad2)])) rfl rfl (hb hby d11_42)
  refine Go.st st101 ?_
  refine Go.st (fun _ => XS.iloadN X101.here hx rfl (hb hby d11_45) rfl) ?_
  obtain ⟨cl102, Ar102, qk102, Sz102, Nn102, Ha102, Ga102⟩ := id V_91
  have hin102 : ¬ ((2 : Int32) < 0 ∨ cl102.slots.size ≤ ((2 : Int32) : Int32).toNatClampNeg) := inb_of Sz102 ⟨by decide, by decide⟩
  refine Go.st (fun _ => X101.iaload hx (j := (2 : Int32)) (v := (.int w2)) (by rw [e101]; exact Ar102.1) (State.isArrayOf_alike hZ.alike Ar102.2.1) Ar102.2.2 hin102 (Has.at Ha102 hin102 rfl) (g := (mkF m 46 #[.val (.ref aP), .val (.ref aV), .val (.ref ad2), .val (.int (2 : Int32)), .unset, .unset, .unset, .unset, .unset, .unset] [(.int (2 : Int32)), (.ref aw), (.int (2 : Int32)), (.ref ad2)])) rfl rfl (hb hby d11_46) _) ?_
  show Go p e below _ (T101.setTop (mkF m 47 #[.val (.ref aP), .val (.ref aV), .val (.ref ad2), .val (.int (2 : Int32)), .unset, .unset, .unset, .unset, .unset, .unset] [(.int w2), (.int (2 : Int32)), (.ref ad2)]))
  refine Go.st (fun _ => XS.aloadN X101.here hx rfl (hb hby d11_47) rfl rfl) ?_
  refine Go.st (fun _ => XS.iloadN X101.here hx rfl (hb hby d11_48) rfl) ?_
  obtain ⟨cl103, Ar103, qk103, Sz103, Nn103, Ha103, Ga103⟩ := id V_76
  have hin103 : ¬ ((2 : Int32) < 0 ∨ cl103.slots.size ≤ ((2 : Int32) : Int32).toNatClampNeg) := inb_of Sz103 ⟨by decide, by decide⟩
  refine Go.st (fun _ => X101.iaload hx (j := (2 : Int32)) (v := (.int p2)) (by rw [e101]; exact Ar103.1) (State.isArrayOf_alike hZ.alike Ar103.2.1) Ar103.2.2 hin103 (Has.at Ha103 hin103 rfl) (g := (mkF m 49 #[.val (.ref aP), .val (.ref aV), .val (.ref ad2), .val (.int (2 : Int32)), .unset, .unset, .unset, .unset, .unset, .unset] [(.int (2 : Int32)), (.ref aV), (.int w2), (.int (2 : Int32)), (.ref ad2)])) rfl rfl (hb hby d11_49) _) ?_
  refine goCallS X101 hx hZ (y := (⟨"com/example/traza/traza/PackedRows", "bitsFor", "(I)I"⟩ : MethodName)) hown (ww hw 23 rfl) (ww hw 24 rfl) (ww hw 4 rfl) (ww hw 25 rfl) (by decide) (argsL := [(.int p2)]) (rest := [(.int w2), (.int (2 : Int32)), (.ref ad2)]) e101 (rm_bf l Z a0 hw [] p2 h74 n0 O75) 3 (by decide) (by decide) (by decide) (by decide) (mkF m 50 #[.val (.ref aP), .val (.ref aV), .val (.ref ad2), .val (.int (2 : Int32)), .unset, .unset, .unset, .unset, .unset, .unset] [(.int p2), (.int w2), (.int (2 : Int32)), (.ref ad2)]) rfl (by rw [hml]; rfl) (lenOf pd_0 rfl) rfl (hb hby d11_50) (Nat.le_of_eq rfl) ?_
  intro v104 T104 L104 X104 hQ104
  obtain ⟨⟨z104, rfl, hB104⟩, M104, e104⟩ := hQ104
  have N104 := Fr.app N74 M104
  show Go p e below _ (T104.setTop (mkF m 53 #[.val (.ref aP), .val (.ref aV), .val (.ref ad2), .val (.int (2 : Int32)), .unset, .unset, .unset, .unset, .unset, .unset] [(.int z104), (.int w2), (.int (2 : Int32)), (.ref ad2)]))
  refine goCallS X104 hx hZ (y := (⟨"java/lang/Math", "max", "(II)I"⟩ : MethodName)) hown (ww hw 19 rfl) (ww hw 20 rfl) (ww hw 21 rfl) (ww hw 22 rfl) (by decide) (argsL := [(.int w2), (.int z104)]) (rest := [(.int (2 : Int32)), (.ref ad2)]) e104 (rm_max l Z a0 hw [] w2 z104 h74 n0 O75) 2 (by decide) (by decide) (by decide) (by decide) (mkF m 53 #[.val (.ref aP), .val (.ref aV), .val (.ref ad2), .val (.int (2 : Int32)), .unset, .unset, .unset, .unset, .unset, .unset] [(.int z104), (.int w2), (.int (2 : Int32)), (.ref ad2)]) rfl (by rw [hml]; rfl) (lenOf pd_2 rfl) rfl (hb hby d11_53) (Nat.le_of_eq rfl) ?_
  intro v105 T105 L105 X105 hQ105
  obtain ⟨⟨m105, rfl, em105⟩, M105, e105⟩ := hQ105
  have N105 := Fr.app N104 M105
  obtain ⟨e2, he2, hl2, h32, hf2⟩ := own_mx hw2 hb2 hB104 hp2 em105
  show Go p e below _ (T105.setTop (mkF m 56 #[.val (.ref aP), .val (.ref aV), .val (.ref ad2), .val (.int (2 : Int32)), .unset, .unset, .unset, .unset, .unset, .unset] [(.int m105), (.int (2 : Int32)), (.ref ad2)]))
  obtain ⟨cl106, Ar106, qk106, Sz106, Nn106, Ha106, Ga106⟩ := id V_97
  have hin106 : ¬ ((2 : Int32) < 0 ∨ cl106.slots.size ≤ ((2 : Int32) : Int32).toNatClampNeg) := inb_of Sz106 ⟨by decide, by decide⟩
  obtain ⟨T106, h106, X106, e106, W106, st106⟩ := stI X105 hx hZ e105 Ar106 (j := (2 : Int32)) hin106 (g := (mkF m 56 #[.val (.ref aP), .val (.ref aV), .val (.ref ad2), .val (.int (2 : Int32)), .unset, .unset, .unset, .unset, .unset, .unset] [(.int m105), (.int (2 : Int32)), (.ref ad2)])) rfl rfl (hb hby d11_56)
  refine Go.st st106 ?_
  have O107 := O75.wr W106 gn2
  have V_108 := V_76.other W106 ne3
  have Y109 := Low_wr Y77 W106 (Nat.le_of_lt lne4)
  have E_110 := E_78.wr W106
  have F111 := F79.other W106 (Or.inl ne4)
  have F112 := F80.other W106 (Or.inl ne4)
  have F113 := F81.other W106 (Or.inl ne4)
  have F114 := F82.other W106 (Or.inl ne4)
  have F115 := F83.other W106 (Or.inl ne4)
  have F116 := F84.other W106 (Or.inl ne4)
  have F117 := F85.other W106 (Or.inl ne4)
  have E_118 := E_86.wr W106
  have F119 := F87.other W106 (Or.inl ne5)
  have F120 := F88.other W106 (Or.inl ne5)
  have F121 := F89.other W106 (Or.inl ne5)
  have F122 := F90.other W106 (Or.inl ne5)
  have V_123 := V_91.other W106 ne6
  have V_124 := V_92.other W106 ne7
  have V_125 := V_93.other W106 ne8
  have VL126 := LAr_other VL94 W106 ne9
  have E_127 := E_95.wr W106
  have VL128 := LAr_other VL96 W106 ne10
  have V_129 : Arv Z h106 ad2 k2 .int (3 : Int32) [(.int m41), (.int m73), (.int m105)] (.int (0 : Int32)) := Arv.set Ar106 qk106 Sz106 Nn106 Ha106 Ga106 rfl W106 2 rfl (Nat.le_of_ble_eq_true rfl)
  have N106 := Fr.snoc X106 N105 gn2
  refine Go.st (fun _ => XS.iinc X106.here hx rfl (hb hby d11_57) rfl (l' := #[.val (.ref aP), .val (.ref aV), .val (.ref ad2), .val (.int (3 : Int32)), .unset, .unset, .unset, .unset, .unset, .unset]) rfl) ?_
  refine Go.st (fun _ => XS.goto X106.here hx rfl (pc0 := 60) (pc' := 7) rfl (hb hby d11_60) (by decide) (by decide)) ?_
  refine Go.st (fun _ => XS.iloadN X106.here hx rfl (hb hby d11_7) rfl) ?_
  show Go p e below _ (T106.setTop (mkF m 8 #[.val (.ref aP), .val (.ref aV), .val (.ref ad2), .val (.int (3 : Int32)), .unset, .unset, .unset, .unset, .unset, .unset] [(.int (3 : Int32))]))
  refine Go.st (fun _ => XS.aloadN X106.here hx rfl (hb hby d11_8) rfl rfl) ?_
  show Go p e below _ (T106.setTop (mkF m 9 #[.val (.ref aP), .val (.ref aV), .val (.ref ad2), .val (.int (3 : Int32)), .unset, .unset, .unset, .unset, .unset, .unset] [(.ref aV), (.int (3 : Int32))]))
  obtain ⟨cl130, Ar130, qk130, Sz130, Nn130, Ha130, Ga130⟩ := id V_108
  refine Go.st (fun _ => X106.arraylength hx (by rw [e106]; exact Ar130.1) (State.isArrayOf_alike hZ.alike Ar130.2.1) (g := (mkF m 9 #[.val (.ref aP), .val (.ref aV), .val (.ref ad2), .val (.int (3 : Int32)), .unset, .unset, .unset, .unset, .unset, .unset] [(.ref aV), (.int (3 : Int32))])) rfl rfl (hb hby d11_9) _) ?_
  rw [len_of Sz130 Nn130]
  show Go p e below _ (T106.setTop (mkF m 10 #[.val (.ref aP), .val (.ref aV), .val (.ref ad2), .val (.int (3 : Int32)), .unset, .unset, .unset, .unset, .unset, .unset] [(.int (3 : Int32)), (.int (3 : Int32))]))
  refine Go.st (fun _ => XS.icmpYes X106.here hx rfl (pc0 := 10) (pc' := 63) rfl (hb hby d11_10) rfl (flt (by decide : ¬ ((3 : Int32) < (3 : Int32)))).2.1 (by decide) (by decide)) ?_
  obtain ⟨T131, h131, X131, e131, E131, A131, D131, U131, st131⟩ := newO X106 hx hZ hown (ww hw 15 rfl) (ww hw 38 rfl) (ww hw 39 rfl) e106 (g := (mkF m 63 #[.val (.ref aP), .val (.ref aV), .val (.ref ad2), .val (.int (3 : Int32)), .unset, .unset, .unset, .unset, .unset, .unset] [])) rfl (hb hby d11_63) (by decide) (by decide)
  obtain ⟨ad131, g131⟩ : ∃ z, z = h106.size := ⟨_, rfl⟩
  rw [← g131] at A131 D131 U131 st131
  refine Go.st st131 ?_
  have gn131 : n0 ≤ ad131 := oldGe O107 g131
  have ne132 : aV ≠ ad131 := Nat.ne_of_lt (Nat.lt_of_lt_of_le V_108.lt (Nat.le_of_eq g131.symm))
  have lne133 : aP < ad131 := (Nat.lt_of_lt_of_le E_110.lt (Nat.le_of_eq g131.symm))
  have ne133 : aP ≠ ad131 := Nat.ne_of_lt lne133
  have ne134 : aL ≠ ad131 := Nat.ne_of_lt (Nat.lt_of_lt_of_le E_118.lt (Nat.le_of_eq g131.symm))
  have ne135 : aw ≠ ad131 := Nat.ne_of_lt (Nat.lt_of_lt_of_le V_123.lt (Nat.le_of_eq g131.symm))
  have ne136 : aK ≠ ad131 := Nat.ne_of_lt (Nat.lt_of_lt_of_le V_124.lt (Nat.le_of_eq g131.symm))
  have ne137 : aY ≠ ad131 := Nat.ne_of_lt (Nat.lt_of_lt_of_le V_125.lt (Nat.le_of_eq g131.symm))
  have ne138 : aB ≠ ad131 := Nat.ne_of_lt (Nat.lt_of_lt_of_le (LAr_lt VL126) (Nat.le_of_eq g131.symm))
  have ne139 : aC ≠ ad131 := Nat.ne_of_lt (Nat.lt_of_lt_of_le E_127.lt (Nat.le_of_eq g131.symm))
  have ne140 : ad2 ≠ ad131 := Nat.ne_of_lt (Nat.lt_of_lt_of_le V_129.lt (Nat.le_of_eq g131.symm))
  have O141 := O107.ext E131
  have V_142 := V_108.ext E131
  have Y143 := Low_ext Y109 E131
  have E_144 := E_110.ext E131
  have F145 := F111.ext E131
  have F146 := F112.ext E131
  have F147 := F113.ext E131
  have F148 := F114.ext E131
  have F149 := F115.ext E131
  have F150 := F116.ext E131
  have F151 := F117.ext E131
  have E_152 := E_118.ext E131
  have F153 := F119.ext E131
  have F154 := F120.ext E131
  have F155 := F121.ext E131
  have F156 := F122.ext E131
  have V_157 := V_123.ext E131
  have V_158 := V_124.ext E131
  have V_159 := V_125.ext E131
  have VL160 := LAr_ext VL126 E131
  have E_161 := E_127.ext E131
  have VL162 := LAr_ext VL128 E131
  have V_163 := V_129.ext E131
  have F164 : Fld Z h131 ad131 "com/example/traza/traza/PackedRows$Layout" "widths" "[I" .null := D131 (Or.inr (ww hw 46 rfl)) (ty := (.array .int)) (by decide)
  have F165 : Fld Z h131 ad131 "com/example/traza/traza/PackedRows$Layout" "rowBits" "I" (.int (0 : Int32)) := D131 (Or.inr (ww hw 48 rfl)) (ty := .int) (by decide)
  have F166 : Fld Z h131 ad131 "com/example/traza/traza/PackedRows$Layout" "words" "I" (.int (0 : Int32)) := D131 (Or.inr (ww hw 54 rfl)) (ty := .int) (by decide)
  have F167 : Fld Z h131 ad131 "com/example/traza/traza/PackedRows$Layout" "chunkWords" "I" (.int (0 : Int32)) := D131 (Or.inr (ww hw 56 rfl)) (ty := .int) (by decide)
  refine Go.st (fun _ => XS.dup X131.here hx rfl (hb hby d11_66) rfl rfl) ?_
  refine Go.st (fun _ => XS.aloadN X131.here hx rfl (hb hby d11_67) rfl rfl) ?_
  show Go p e below _ (T131.setTop (mkF m 68 #[.val (.ref aP), .val (.ref aV), .val (.ref ad2), .val (.int (3 : Int32)), .unset, .unset, .unset, .unset, .unset, .unset] [(.ref ad2), (.ref ad131), (.ref ad131)]))
  refine Go.st (fun _ => XS.aloadN X131.here hx rfl (hb hby d11_68) rfl rfl) ?_
  obtain ⟨T168, X168, e168, st168⟩ := getF X131 hx hZ hown (host := "") (Or.inl (ww hw 34 rfl)) Via.refl e131 F145 (g := (mkF m 69 #[.val (.ref aP), .val (.ref aV), .val (.ref ad2), .val (.int (3 : Int32)), .unset, .unset, .unset, .unset, .unset, .unset] [(.ref aP), (.ref ad2), (.ref ad131), (.ref ad131)])) rfl rfl (hb hby d11_69)
  refine Go.st st168 ?_
  refine goInit X168 hx hZ (y := (⟨"com/example/traza/traza/PackedRows$Layout", "<init>", "([II)V"⟩ : MethodName)) rfl hown (ww hw 40 rfl) (ww hw 41 rfl) (ww hw 39 rfl) (ww hw 42 rfl) (by decide) (a := ad131) (argsL := [(.ref ad2), (.int (12 : Int32))]) (rest := [(.ref ad131)]) e168 (rm_LI l Z a0 hw [] ad131 ad2 k2 m41 m73 m105 e0 e1 e2 h131 n0 O141 A131 F164 F165 F166 F167 gn131 V_163 he0 he1 he2 h30 h31 h32) 1 (by decide) (by decide) (by decide) (by decide) (mkF m 72 #[.val (.ref aP), .val (.ref aV), .val (.ref ad2), .val (.int (3 : Int32)), .unset, .unset, .unset, .unset, .unset, .unset] [(.int (12 : Int32)), (.ref ad2), (.ref ad131), (.ref ad131)]) rfl (by rw [hml]; rfl) (lenOf pd_4 rfl) rfl (hb hby d11_72) (Nat.le_of_eq rfl) ?_
  intro v169 T169 L169 X169 hQ169
  obtain ⟨rfl, M169, K169, rb169, wd169, cw169, hW169, Ga169, Gb169, Gc169, Gd169⟩ := hQ169
  have N169 := Fr.app N106 M169
  have O170 := O141.keep K169 (allS gn131 all0)
  have V_171 := V_142.keep K169 (ninS ne132 nin0)
  have Y172 := Low_keep Y143 K169 (allS (Nat.le_of_lt lne133) all0)
  have E_173 := E_144.keep K169
  have F174 := F145.keep K169 (ninS ne133 nin0)
  have F175 := F146.keep K169 (ninS ne133 nin0)
  have F176 := F147.keep K169 (ninS ne133 nin0)
  have F177 := F148.keep K169 (ninS ne133 nin0)
  have F178 := F149.keep K169 (ninS ne133 nin0)
  have F179 := F150.keep K169 (ninS ne133 nin0)
  have F180 := F151.keep K169 (ninS ne133 nin0)
  have E_181 := E_152.keep K169
  have F182 := F153.keep K169 (ninS ne134 nin0)
  have F183 := F154.keep K169 (ninS ne134 nin0)
  have F184 := F155.keep K169 (ninS ne134 nin0)
  have F185 := F156.keep K169 (ninS ne134 nin0)
  have V_186 := V_157.keep K169 (ninS ne135 nin0)
  have V_187 := V_158.keep K169 (ninS ne136 nin0)
  have V_188 := V_159.keep K169 (ninS ne137 nin0)
  have VL189 := LAr_keep VL160 K169 (ninS ne138 nin0)
  have E_190 := E_161.keep K169
  have VL191 := LAr_keep VL162 K169 (ninS ne139 nin0)
  have V_192 := V_163.keep K169 (ninS ne140 nin0)
  have E_193 := A131.keep K169
  have hle2 : ((e0 + e1 + e2 + 63) / 64) ≤ 2 := by omega
  show Go p e below _ (T169.setTop (mkF m 75 #[.val (.ref aP), .val (.ref aV), .val (.ref ad2), .val (.int (3 : Int32)), .unset, .unset, .unset, .unset, .unset, .unset] [(.ref ad131)]))
  refine Go.st (fun _ => XS.astoreN X169.here hx rfl (hb hby d11_75) rfl rfl (l' := #[.val (.ref aP), .val (.ref aV), .val (.ref ad2), .val (.ref ad131), .unset, .unset, .unset, .unset, .unset, .unset]) rfl) ?_
  refine Go.st (fun _ => XS.aloadN X169.here hx rfl (hb hby d11_76) rfl rfl) ?_
  obtain ⟨T194, X194, e194, st194⟩ := getF X169 hx hZ hown (host := "") (Or.inl (ww hw 68 rfl)) Via.refl rfl F180 (g := (mkF m 77 #[.val (.ref aP), .val (.ref aV), .val (.ref ad2), .val (.ref ad131), .unset, .unset, .unset, .unset, .unset, .unset] [(.ref aP)])) rfl rfl (hb hby d11_77)
  refine Go.st st194 ?_
  refine Go.st (fun _ => XS.aloadN X194.here hx rfl (hb hby d11_80) rfl rfl) ?_
  show Go p e below _ (T194.setTop (mkF m 81 #[.val (.ref aP), .val (.ref aV), .val (.ref ad2), .val (.ref ad131), .unset, .unset, .unset, .unset, .unset, .unset] [(.ref aP), (.int (2 : Int32))]))
  obtain ⟨T195, X195, e195, st195⟩ := getF X194 hx hZ hown (host := "") (Or.inl (ww hw 36 rfl)) Via.refl e194 F175 (g := (mkF m 81 #[.val (.ref aP), .val (.ref aV), .val (.ref ad2), .val (.ref ad131), .unset, .unset, .unset, .unset, .unset, .unset] [(.ref aP), (.int (2 : Int32))])) rfl rfl (hb hby d11_81)
  refine Go.st st195 ?_
  refine Go.st (fun _ => XS.iand X195.here hx rfl (hb hby d11_84) rfl) ?_
  refine Go.st (fun _ => XS.istore X195.here hx rfl (hb hby d11_85) rfl (l' := #[.val (.ref aP), .val (.ref aV), .val (.ref ad2), .val (.ref ad131), .val (.int (2 : Int32)), .unset, .unset, .unset, .unset, .unset]) rfl) ?_
  refine Go.st (fun _ => XS.iload X195.here hx rfl (hb hby d11_87) rfl) ?_
  show Go p e below _ (T195.setTop (mkF m 89 #[.val (.ref aP), .val (.ref aV), .val (.ref ad2), .val (.ref ad131), .val (.int (2 : Int32)), .unset, .unset, .unset, .unset, .unset] [(.int (2 : Int32))]))
  refine Go.st (fun _ => XS.ifNo X195.here hx rfl (hb hby d11_89) rfl ((if0 _ _).trans (tlt (by decide : (0 : Int32) < (2 : Int32))).2.2.2)) ?_
  refine Go.st (fun _ => XS.aloadN X195.here hx rfl (hb hby d11_92) rfl rfl) ?_
  obtain ⟨T196, X196, e196, st196⟩ := getF X195 hx hZ hown (host := "") (Or.inl (ww hw 68 rfl)) Via.refl e195 F180 (g := (mkF m 93 #[.val (.ref aP), .val (.ref aV), .val (.ref ad2), .val (.ref ad131), .val (.int (2 : Int32)), .unset, .unset, .unset, .unset, .unset] [(.ref aP)])) rfl rfl (hb hby d11_93)
  refine Go.st st196 ?_
  refine Go.st (fun _ => XS.aloadN X196.here hx rfl (hb hby d11_96) rfl rfl) ?_
  show Go p e below _ (T196.setTop (mkF m 97 #[.val (.ref aP), .val (.ref aV), .val (.ref ad2), .val (.ref ad131), .val (.int (2 : Int32)), .unset, .unset, .unset, .unset, .unset] [(.ref aP), (.int (2 : Int32))]))
  obtain ⟨T197, X197, e197, st197⟩ := getF X196 hx hZ hown (host := "") (Or.inl (ww hw 34 rfl)) Via.refl e196 F174 (g := (mkF m 97 #[.val (.ref aP), .val (.ref aV), .val (.ref ad2), .val (.ref ad131), .val (.int (2 : Int32)), .unset, .unset, .unset, .unset, .unset] [(.ref aP), (.int (2 : Int32))])) rfl rfl (hb hby d11_97)
  refine Go.st st197 ?_
  show Go p e below _ (T197.setTop (mkF m 100 #[.val (.ref aP), .val (.ref aV), .val (.ref ad2), .val (.ref ad131), .val (.int (2 : Int32)), .unset, .unset, .unset, .unset, .unset] [(.int (12 : Int32)), (.int (2 : Int32))]))
  refine Go.st (fun _ => XS.iushr X197.here hx rfl (hb hby d11_100) rfl) ?_
  rw [show (((2 : Int32).toUInt32 >>> ((12 : Int32) &&& 31).toUInt32).toInt32) = (0 : Int32) from by decide]
  show Go p e below _ (T197.setTop (mkF m 101 #[.val (.ref aP), .val (.ref aV), .val (.ref ad2), .val (.ref ad131), .val (.int (2 : Int32)), .unset, .unset, .unset, .unset, .unset] [(.int (0 : Int32))]))
  refine Go.st (fun _ => XS.istore X197.here hx rfl (hb hby d11_101) rfl (l' := #[.val (.ref aP), .val (.ref aV), .val (.ref ad2), .val (.ref ad131), .val (.int (2 : Int32)), .val (.int (0 : Int32)), .unset, .unset, .unset, .unset]) rfl) ?_
  refine Go.st (fun _ => XS.aloadN X197.here hx rfl (hb hby d11_103) rfl rfl) ?_
  refine goVirt X197 hx hZ (y := (⟨"com/example/traza/traza/PackedRows$Layout", "newChunk", "()[J"⟩ : MethodName)) (z := (⟨"com/example/traza/traza/PackedRows$Layout", "newChunk", "()[J"⟩ : MethodName)) hown (ww hw 81 rfl) (ww hw 82 rfl) (notFace_of_selects (args := #[]) (mvT hZ (ww hw 84 rfl))) (ww hw 84 rfl) (ww hw 83 rfl) (ww hw 39 rfl) (ww hw 85 rfl) (by decide) (a := ad131) (argsL := []) (rest := []) e197 E_193 (rm_nc l Z a0 hw [] ad131 m41 m73 m105 rb169 wd169 cw169 e0 e1 e2 T169.heap n0 O170 Gd169 hW169) 0 (by decide) (by decide) (by decide) (by decide) (mkF m 104 #[.val (.ref aP), .val (.ref aV), .val (.ref ad2), .val (.ref ad131), .val (.int (2 : Int32)), .val (.int (0 : Int32)), .unset, .unset, .unset, .unset] [(.ref ad131)]) rfl (by rw [hml]; rfl) (lenOf pd_7 rfl) rfl (hb hby d11_104) (Nat.le_of_eq rfl) ?_
  intro v198 T198 L198 X198 hQ198
  obtain ⟨c198, rfl, M198, K198, sz198, EC198, VC198⟩ := hQ198
  have N198 := Fr.app N169 M198
  have O199 := O170.keep K198 all0
  have V_200 := V_171.keep K198 nin0
  have Y201 := Low_keep Y172 K198 all0
  have E_202 := E_173.keep K198
  have F203 := F174.keep K198 nin0
  have F204 := F175.keep K198 nin0
  have F205 := F176.keep K198 nin0
  have F206 := F177.keep K198 nin0
  have F207 := F178.keep K198 nin0
  have F208 := F179.keep K198 nin0
  have F209 := F180.keep K198 nin0
  have E_210 := E_181.keep K198
  have F211 := F182.keep K198 nin0
  have F212 := F183.keep K198 nin0
  have F213 := F184.keep K198 nin0
  have F214 := F185.keep K198 nin0
  have V_215 := V_186.keep K198 nin0
  have V_216 := V_187.keep K198 nin0
  have V_217 := V_188.keep K198 nin0
  have VL218 := LAr_keep VL189 K198 nin0
  have E_219 := E_190.keep K198
  have VL220 := LAr_keep VL191 K198 nin0
  have V_221 := V_192.keep K198 nin0
  have E_222 := E_193.keep K198
  have F223 := Ga169.keep K198 nin0
  have F224 := Gb169.keep K198 nin0
  have F225 := Gc169.keep K198 nin0
  have F226 := Gd169.keep K198 nin0
  have ne227 : aV ≠ c198 := Nat.ne_of_lt (Nat.lt_of_lt_of_le V_171.lt sz198)
  have ne228 : aP ≠ c198 := Nat.ne_of_lt (Nat.lt_of_lt_of_le E_173.lt sz198)
  have ne229 : aL ≠ c198 := Nat.ne_of_lt (Nat.lt_of_lt_of_le E_181.lt sz198)
  have ne230 : aw ≠ c198 := Nat.ne_of_lt (Nat.lt_of_lt_of_le V_186.lt sz198)
  have ne231 : aK ≠ c198 := Nat.ne_of_lt (Nat.lt_of_lt_of_le V_187.lt sz198)
  have ne232 : aY ≠ c198 := Nat.ne_of_lt (Nat.lt_of_lt_of_le V_188.lt sz198)
  have ne233 : aB ≠ c198 := Nat.ne_of_lt (Nat.lt_of_lt_of_le (LAr_lt VL189) sz198)
  have ne234 : aC ≠ c198 := Nat.ne_of_lt (Nat.lt_of_lt_of_le E_190.lt sz198)
  have ne235 : ad2 ≠ c198 := Nat.ne_of_lt (Nat.lt_of_lt_of_le V_192.lt sz198)
  have ne236 : ad131 ≠ c198 := Nat.ne_of_lt (Nat.lt_of_lt_of_le E_193.lt sz198)
  have pc198 : aP ≤ c198 := Nat.le_trans (Nat.le_of_lt E_173.lt) sz198
  show Go p e below _ (T198.setTop (mkF m 107 #[.val (.ref aP), .val (.ref aV), .val (.ref ad2), .val (.ref ad131), .val (.int (2 : Int32)), .val (.int (0 : Int32)), .unset, .unset, .unset, .unset] [(.ref c198)]))
  refine Go.st (fun _ => XS.astore X198.here hx rfl (hb hby d11_107) rfl rfl (l' := #[.val (.ref aP), .val (.ref aV), .val (.ref ad2), .val (.ref ad131), .val (.int (2 : Int32)), .val (.int (0 : Int32)), .val (.ref c198), .unset, .unset, .unset]) rfl) ?_
  refine Go.st (fun _ => XS.aloadN X198.here hx rfl (hb hby d11_109) rfl rfl) ?_
  show Go p e below _ (T198.setTop (mkF m 110 #[.val (.ref aP), .val (.ref aV), .val (.ref ad2), .val (.ref ad131), .val (.int (2 : Int32)), .val (.int (0 : Int32)), .val (.ref c198), .unset, .unset, .unset] [(.ref ad2)]))
  obtain ⟨cl237, Ar237, qk237, Sz237, Nn237, Ha237, Ga237⟩ := id V_221
  refine Go.st (fun _ => X198.arraylength hx Ar237.1 (State.isArrayOf_alike hZ.alike Ar237.2.1) (g := (mkF m 110 #[.val (.ref aP), .val (.ref aV), .val (.ref ad2), .val (.ref ad131), .val (.int (2 : Int32)), .val (.int (0 : Int32)), .val (.ref c198), .unset, .unset, .unset] [(.ref ad2)])) rfl rfl (hb hby d11_110) _) ?_
  rw [len_of Sz237 Nn237]
  show Go p e below _ (T198.setTop (mkF m 111 #[.val (.ref aP), .val (.ref aV), .val (.ref ad2), .val (.ref ad131), .val (.int (2 : Int32)), .val (.int (0 : Int32)), .val (.ref c198), .unset, .unset, .unset] [(.int (3 : Int32))]))
  obtain ⟨T238, h238, k238, X238, e238, E238, A238, st238⟩ := newP X198 hx hZ (ww hw 1 rfl) rfl (g := (mkF m 111 #[.val (.ref aP), .val (.ref aV), .val (.ref ad2), .val (.ref ad131), .val (.int (2 : Int32)), .val (.int (0 : Int32)), .val (.ref c198), .unset, .unset, .unset] [(.int (3 : Int32))])) rfl (hb hby d11_111) rfl (by decide) (cap := 3) (by decide) (by decide) (by decide) (by decide)
  obtain ⟨ad238, g238⟩ : ∃ z, z = T198.heap.size := ⟨_, rfl⟩
  rw [← g238] at A238 st238
  refine Go.st st238 ?_
  have gn238 : n0 ≤ ad238 := oldGe O199 g238
  have ne239 : aV ≠ ad238 := Nat.ne_of_lt (Nat.lt_of_lt_of_le V_200.lt (Nat.le_of_eq g238.symm))
  have lne240 : aP < ad238 := (Nat.lt_of_lt_of_le E_202.lt (Nat.le_of_eq g238.symm))
  have ne240 : aP ≠ ad238 := Nat.ne_of_lt lne240
  have ne241 : aL ≠ ad238 := Nat.ne_of_lt (Nat.lt_of_lt_of_le E_210.lt (Nat.le_of_eq g238.symm))
  have ne242 : aw ≠ ad238 := Nat.ne_of_lt (Nat.lt_of_lt_of_le V_215.lt (Nat.le_of_eq g238.symm))
  have ne243 : aK ≠ ad238 := Nat.ne_of_lt (Nat.lt_of_lt_of_le V_216.lt (Nat.le_of_eq g238.symm))
  have ne244 : aY ≠ ad238 := Nat.ne_of_lt (Nat.lt_of_lt_of_le V_217.lt (Nat.le_of_eq g238.symm))
  have ne245 : aB ≠ ad238 := Nat.ne_of_lt (Nat.lt_of_lt_of_le (LAr_lt VL218) (Nat.le_of_eq g238.symm))
  have ne246 : aC ≠ ad238 := Nat.ne_of_lt (Nat.lt_of_lt_of_le E_219.lt (Nat.le_of_eq g238.symm))
  have ne247 : ad2 ≠ ad238 := Nat.ne_of_lt (Nat.lt_of_lt_of_le V_221.lt (Nat.le_of_eq g238.symm))
  have ne248 : ad131 ≠ ad238 := Nat.ne_of_lt (Nat.lt_of_lt_of_le E_222.lt (Nat.le_of_eq g238.symm))
  have ne249 : c198 ≠ ad238 := Nat.ne_of_lt (Nat.lt_of_lt_of_le EC198.lt (Nat.le_of_eq g238.symm))
  have O250 := O199.ext E238
  have V_251 := V_200.ext E238
  have Y252 := Low_ext Y201 E238
  have E_253 := E_202.ext E238
  have F254 := F203.ext E238
  have F255 := F204.ext E238
  have F256 := F205.ext E238
  have F257 := F206.ext E238
  have F258 := F207.ext E238
  have F259 := F208.ext E238
  have F260 := F209.ext E238
  have E_261 := E_210.ext E238
  have F262 := F211.ext E238
  have F263 := F212.ext E238
  have F264 := F213.ext E238
  have F265 := F214.ext E238
  have V_266 := V_215.ext E238
  have V_267 := V_216.ext E238
  have V_268 := V_217.ext E238
  have VL269 := LAr_ext VL218 E238
  have E_270 := E_219.ext E238
  have VL271 := LAr_ext VL220 E238
  have V_272 := V_221.ext E238
  have E_273 := E_222.ext E238
  have F274 := F223.ext E238
  have F275 := F224.ext E238
  have F276 := F225.ext E238
  have F277 := F226.ext E238
  have E_278 := EC198.ext E238
  have VL279 := LAr_ext VC198 E238
  have V_280 : Arv Z h238 ad238 k238 .int (3 : Int32) [(.int (0 : Int32)), (.int (0 : Int32)), (.int (0 : Int32))] (.int (0 : Int32)) := (Arv.new A238 (by decide)).pad (pad_rep [] (.int (0 : Int32)) 3)
  refine Go.st (fun _ => XS.astore X238.here hx rfl (hb hby d11_113) rfl rfl (l' := #[.val (.ref aP), .val (.ref aV), .val (.ref ad2), .val (.ref ad131), .val (.int (2 : Int32)), .val (.int (0 : Int32)), .val (.ref c198), .val (.ref ad238), .unset, .unset]) rfl) ?_
  refine Go.st (fun _ => XS.aloadN X238.here hx rfl (hb hby d11_115) rfl rfl) ?_
  obtain ⟨T281, X281, e281, st281⟩ := getFR X238 hx hZ hown (ww hw 59 rfl) e238 F276 (g := (mkF m 116 #[.val (.ref aP), .val (.ref aV), .val (.ref ad2), .val (.ref ad131), .val (.int (2 : Int32)), .val (.int (0 : Int32)), .val (.ref c198), .val (.ref ad238), .unset, .unset] [(.ref ad131)])) rfl rfl (hb hby d11_116)
  refine Go.st st281 ?_
  show Go p e below _ (T281.setTop (mkF m 119 #[.val (.ref aP), .val (.ref aV), .val (.ref ad2), .val (.ref ad131), .val (.int (2 : Int32)), .val (.int (0 : Int32)), .val (.ref c198), .val (.ref ad238), .unset, .unset] [(.int wd169)]))
  obtain ⟨T282, h282, k282, X282, e282, E282, A282, B282, st282⟩ := newPE X281 hx hZ (ww hw 60 rfl) e281 (g := (mkF m 119 #[.val (.ref aP), .val (.ref aV), .val (.ref ad2), .val (.ref ad131), .val (.int (2 : Int32)), .val (.int (0 : Int32)), .val (.ref c198), .val (.ref ad238), .unset, .unset] [(.int wd169)])) rfl (hb hby d11_119) rfl (len_cap hW169.2.2.2.2.2.2.2.1 hle2).1 (cap := 2) (len_cap hW169.2.2.2.2.2.2.2.1 hle2).2 (by decide) (by decide) (by decide) (ad := "[J") rfl
  obtain ⟨ad282, g282⟩ : ∃ z, z = h238.size := ⟨_, rfl⟩
  rw [← g282] at A282 B282 st282
  refine Go.st st282 ?_
  have gn282 : n0 ≤ ad282 := oldGe O250 g282
  have ne283 : aV ≠ ad282 := Nat.ne_of_lt (Nat.lt_of_lt_of_le V_251.lt (Nat.le_of_eq g282.symm))
  have lne284 : aP < ad282 := (Nat.lt_of_lt_of_le E_253.lt (Nat.le_of_eq g282.symm))
  have ne284 : aP ≠ ad282 := Nat.ne_of_lt lne284
  have ne285 : aL ≠ ad282 := Nat.ne_of_lt (Nat.lt_of_lt_of_le E_261.lt (Nat.le_of_eq g282.symm))
  have ne286 : aw ≠ ad282 := Nat.ne_of_lt (Nat.lt_of_lt_of_le V_266.lt (Nat.le_of_eq g282.symm))
  have ne287 : aK ≠ ad282 := Nat.ne_of_lt (Nat.lt_of_lt_of_le V_267.lt (Nat.le_of_eq g282.symm))
  have ne288 : aY ≠ ad282 := Nat.ne_of_lt (Nat.lt_of_lt_of_le V_268.lt (Nat.le_of_eq g282.symm))
  have ne289 : aB ≠ ad282 := Nat.ne_of_lt (Nat.lt_of_lt_of_le (LAr_lt VL269) (Nat.le_of_eq g282.symm))
  have ne290 : aC ≠ ad282 := Nat.ne_of_lt (Nat.lt_of_lt_of_le E_270.lt (Nat.le_of_eq g282.symm))
  have ne291 : ad2 ≠ ad282 := Nat.ne_of_lt (Nat.lt_of_lt_of_le V_272.lt (Nat.le_of_eq g282.symm))
  have ne292 : ad131 ≠ ad282 := Nat.ne_of_lt (Nat.lt_of_lt_of_le E_273.lt (Nat.le_of_eq g282.symm))
  have ne293 : c198 ≠ ad282 := Nat.ne_of_lt (Nat.lt_of_lt_of_le E_278.lt (Nat.le_of_eq g282.symm))
  have ne294 : ad238 ≠ ad282 := Nat.ne_of_lt (Nat.lt_of_lt_of_le V_280.lt (Nat.le_of_eq g282.symm))
  have O295 := O250.ext E282
  have V_296 := V_251.ext E282
  have Y297 := Low_ext Y252 E282
  have E_298 := E_253.ext E282
  have F299 := F254.ext E282
  have F300 := F255.ext E282
  have F301 := F256.ext E282
  have F302 := F257.ext E282
  have F303 := F258.ext E282
  have F304 := F259.ext E282
  have F305 := F260.ext E282
  have E_306 := E_261.ext E282
  have F307 := F262.ext E282
  have F308 := F263.ext E282
  have F309 := F264.ext E282
  have F310 := F265.ext E282
  have V_311 := V_266.ext E282
  have V_312 := V_267.ext E282
  have V_313 := V_268.ext E282
  have VL314 := LAr_ext VL269 E282
  have E_315 := E_270.ext E282
  have VL316 := LAr_ext VL271 E282
  have V_317 := V_272.ext E282
  have E_318 := E_273.ext E282
  have F319 := F274.ext E282
  have F320 := F275.ext E282
  have F321 := F276.ext E282
  have F322 := F277.ext E282
  have E_323 := E_278.ext E282
  have VL324 := LAr_ext VL279 E282
  have V_325 := V_280.ext E282
  have VL326 : LAr Z h282 ad282 ((e0 + e1 + e2 + 63) / 64) (fun _ => (0 : Int64)) := LAr_new A282 hW169.2.2.2.2.2.2.2.1
  refine Go.st (fun _ => XS.astore X282.here hx rfl (hb hby d11_121) rfl rfl (l' := #[.val (.ref aP), .val (.ref aV), .val (.ref ad2), .val (.ref ad131), .val (.int (2 : Int32)), .val (.int (0 : Int32)), .val (.ref c198), .val (.ref ad238), .val (.ref ad282), .unset]) rfl) ?_
  refine Go.st (fun _ => XS.iconst X282.here hx rfl (hb hby d11_123)) ?_
  refine Go.st (fun _ => XS.istore X282.here hx rfl (hb hby d11_124) rfl (l' := #[.val (.ref aP), .val (.ref aV), .val (.ref ad2), .val (.ref ad131), .val (.int (2 : Int32)), .val (.int (0 : Int32)), .val (.ref c198), .val (.ref ad238), .val (.ref ad282), .val (.int (0 : Int32))]) rfl) ?_
  show Go p e below _ (T282.setTop (mkF m 126 #[.val (.ref aP), .val (.ref aV), .val (.ref ad2), .val (.ref ad131), .val (.int (2 : Int32)), .val (.int (0 : Int32)), .val (.ref c198), .val (.ref ad238), .val (.ref ad282), .val (.int (0 : Int32))] []))
  refine Go.st (fun _ => XS.iload X282.here hx rfl (hb hby d11_126) rfl) ?_
  refine Go.st (fun _ => XS.iload X282.here hx rfl (hb hby d11_128) rfl) ?_
  refine Go.st (fun _ => XS.icmpNo X282.here hx rfl (hb hby d11_130) rfl (tlt (by decide : (0 : Int32) < (2 : Int32))).2.1) ?_
  refine Go.st (fun _ => XS.aloadN X282.here hx rfl (hb hby d11_133) rfl rfl) ?_
  show Go p e below _ (T282.setTop (mkF m 134 #[.val (.ref aP), .val (.ref aV), .val (.ref ad2), .val (.ref ad131), .val (.int (2 : Int32)), .val (.int (0 : Int32)), .val (.ref c198), .val (.ref ad238), .val (.ref ad282), .val (.int (0 : Int32))] [(.ref aP)]))
  obtain ⟨T327, X327, e327, st327⟩ := getF X282 hx hZ hown (host := "") (Or.inl (ww hw 57 rfl)) Via.refl e282 F303 (g := (mkF m 134 #[.val (.ref aP), .val (.ref aV), .val (.ref ad2), .val (.ref ad131), .val (.int (2 : Int32)), .val (.int (0 : Int32)), .val (.ref c198), .val (.ref ad238), .val (.ref ad282), .val (.int (0 : Int32))] [(.ref aP)])) rfl rfl (hb hby d11_134)
  refine Go.st st327 ?_
  refine Go.st (fun _ => XS.aloadN X327.here hx rfl (hb hby d11_137) rfl rfl) ?_
  obtain ⟨T328, X328, e328, st328⟩ := getF X327 hx hZ hown (host := "") (Or.inl (ww hw 13 rfl)) Via.refl e327 F301 (g := (mkF m 138 #[.val (.ref aP), .val (.ref aV), .val (.ref ad2), .val (.ref ad131), .val (.int (2 : Int32)), .val (.int (0 : Int32)), .val (.ref c198), .val (.ref ad238), .val (.ref ad282), .val (.int (0 : Int32))] [(.ref aP), (.ref aL)])) rfl rfl (hb hby d11_138)
  refine Go.st st328 ?_
  refine Go.st (fun _ => XS.iload X328.here hx rfl (hb hby d11_141) rfl) ?_
  show Go p e below _ (T328.setTop (mkF m 143 #[.val (.ref aP), .val (.ref aV), .val (.ref ad2), .val (.ref ad131), .val (.int (2 : Int32)), .val (.int (0 : Int32)), .val (.ref c198), .val (.ref ad238), .val (.ref ad282), .val (.int (0 : Int32))] [(.int (0 : Int32)), (.ref aK), (.ref aL)]))
  obtain ⟨cl329, Ar329, qk329, Sz329, Nn329, Ha329, Ga329⟩ := id V_312
  have hin329 : ¬ ((0 : Int32) < 0 ∨ cl329.slots.size ≤ ((0 : Int32) : Int32).toNatClampNeg) := inb_of Sz329 ⟨by decide, by decide⟩
  refine Go.st (fun _ => X328.aaload hx (j := (0 : Int32)) (v := (.ref aC)) (by rw [e328]; exact Ar329.1) (State.isArrayOf_alike hZ.alike Ar329.2.1) rfl Ar329.2.2 hin329 (Has.at Ha329 hin329 rfl) (g := (mkF m 143 #[.val (.ref aP), .val (.ref aV), .val (.ref ad2), .val (.ref ad131), .val (.int (2 : Int32)), .val (.int (0 : Int32)), .val (.ref c198), .val (.ref ad238), .val (.ref ad282), .val (.int (0 : Int32))] [(.int (0 : Int32)), (.ref aK), (.ref aL)])) rfl rfl (hb hby d11_143) _) ?_
  refine Go.st (fun _ => XS.iload X328.here hx rfl (hb hby d11_144) rfl) ?_
  refine Go.st (fun _ => XS.aload X328.here hx rfl (hb hby d11_146) rfl rfl) ?_
  refine goVirt X328 hx hZ (y := (⟨"com/example/traza/traza/PackedRows$Layout", "read", "([JI[I)V"⟩ : MethodName)) (z := (⟨"com/example/traza/traza/PackedRows$Layout", "read", "([JI[I)V"⟩ : MethodName)) hown (ww hw 100 rfl) (ww hw 101 rfl) (notFace_of_selects (args := #[]) (mvT hZ (ww hw 103 rfl))) (ww hw 103 rfl) (ww hw 102 rfl) (ww hw 39 rfl) (ww hw 104 rfl) (by decide) (a := aL) (argsL := [(.ref aC), (.int (0 : Int32)), (.ref ad238)]) (rest := []) e328 E_306 (rm_read l Z a0 hw [] aL aw aC ad238 kw k238 (0 : Int32) 0 (0 : Int32) (0 : Int32) (0 : Int32) w0 w1 w2 rb wd cw b0 b1 b2 f h282 n0 O295 E_306 F307 F308 V_311 VL316 V_325 ne242 gn238 r_hW rfl (by decide)) 0 (by decide) (by decide) (by decide) (by decide) (mkF m 148 #[.val (.ref aP), .val (.ref aV), .val (.ref ad2), .val (.ref ad131), .val (.int (2 : Int32)), .val (.int (0 : Int32)), .val (.ref c198), .val (.ref ad238), .val (.ref ad282), .val (.int (0 : Int32))] [(.ref ad238), (.int (0 : Int32)), (.ref aC), (.ref aL)]) rfl (by rw [hml]; rfl) (lenOf pd_9 rfl) rfl (hb hby d11_148) (Nat.le_of_eq rfl) ?_
  intro v330 T330 L330 X330 hQ330
  obtain ⟨rfl, M330, K330, za330, zb330, zc330, VR330, ha330, hb330, hc330⟩ := hQ330
  have N330 := Fr.app N198 M330
  have O331 := O295.keep K330 (allS gn238 all0)
  have V_332 := V_296.keep K330 (ninS ne239 nin0)
  have Y333 := Low_keep Y297 K330 (allS (Nat.le_of_lt lne240) all0)
  have E_334 := E_298.keep K330
  have F335 := F299.keep K330 (ninS ne240 nin0)
  have F336 := F300.keep K330 (ninS ne240 nin0)
  have F337 := F301.keep K330 (ninS ne240 nin0)
  have F338 := F302.keep K330 (ninS ne240 nin0)
  have F339 := F303.keep K330 (ninS ne240 nin0)
  have F340 := F304.keep K330 (ninS ne240 nin0)
  have F341 := F305.keep K330 (ninS ne240 nin0)
  have E_342 := E_306.keep K330
  have F343 := F307.keep K330 (ninS ne241 nin0)
  have F344 := F308.keep K330 (ninS ne241 nin0)
  have F345 := F309.keep K330 (ninS ne241 nin0)
  have F346 := F310.keep K330 (ninS ne241 nin0)
  have V_347 := V_311.keep K330 (ninS ne242 nin0)
  have V_348 := V_312.keep K330 (ninS ne243 nin0)
  have V_349 := V_313.keep K330 (ninS ne244 nin0)
  have VL350 := LAr_keep VL314 K330 (ninS ne245 nin0)
  have E_351 := E_315.keep K330
  have VL352 := LAr_keep VL316 K330 (ninS ne246 nin0)
  have V_353 := V_317.keep K330 (ninS ne247 nin0)
  have E_354 := E_318.keep K330
  have F355 := F319.keep K330 (ninS ne248 nin0)
  have F356 := F320.keep K330 (ninS ne248 nin0)
  have F357 := F321.keep K330 (ninS ne248 nin0)
  have F358 := F322.keep K330 (ninS ne248 nin0)
  have E_359 := E_323.keep K330
  have VL360 := LAr_keep VL324 K330 (ninS ne249 nin0)
  have VL361 := LAr_keep VL326 K330 (ninS (Ne.symm ne294) nin0)
  have E_362 := B282.keep K330
  have fr330 : own_fits b0 b1 b2 (v0_0, v0_1, v0_2) := r_hF _ (List.mem_of_getElem? (i := 0) rfl)
  have rd330 := rows_read r_hR (r := 0) (v := (v0_0, v0_1, v0_2)) rfl fr330
  obtain rfl : v0_0 = za330 := fld_uniq rd330.1 ha330
  obtain rfl : v0_1 = zb330 := fld_uniq rd330.2.1 hb330
  obtain rfl : v0_2 = zc330 := fld_uniq rd330.2.2 hc330
  show Go p e below _ (T330.setTop (mkF m 151 #[.val (.ref aP), .val (.ref aV), .val (.ref ad2), .val (.ref ad131), .val (.int (2 : Int32)), .val (.int (0 : Int32)), .val (.ref c198), .val (.ref ad238), .val (.ref ad282), .val (.int (0 : Int32))] []))
  refine Go.st (fun _ => XS.aloadN X330.here hx rfl (hb hby d11_151) rfl rfl) ?_
  refine Go.st (fun _ => XS.aload X330.here hx rfl (hb hby d11_152) rfl rfl) ?_
  refine Go.st (fun _ => XS.aload X330.here hx rfl (hb hby d11_154) rfl rfl) ?_
  have fu330 := fits_up fr330 hl0 hl1 hl2
  refine goVirt X330 hx hZ (y := (⟨"com/example/traza/traza/PackedRows$Layout", "encode", "([I[J)Z"⟩ : MethodName)) (z := (⟨"com/example/traza/traza/PackedRows$Layout", "encode", "([I[J)Z"⟩ : MethodName)) hown (ww hw 71 rfl) (ww hw 72 rfl) (notFace_of_selects (args := #[]) (mvT hZ (ww hw 74 rfl))) (ww hw 74 rfl) (ww hw 73 rfl) (ww hw 39 rfl) (ww hw 75 rfl) (by decide) (a := ad131) (argsL := [(.ref ad238), (.ref ad282)]) (rest := []) rfl E_354 (rm_enc l Z a0 hw [] ad131 ad2 ad238 ad282 k2 k238 m41 m73 m105 rb169 wd169 cw169 v0_0 v0_1 v0_2 e0 e1 e2 (fun _ => (0 : Int64)) T330.heap n0 O331 E_354 F355 V_353 VR330 VL361 gn282 hW169 (fit_pos fu330.1 h30) (fit_pos fu330.2.1 h31) (fit_pos fu330.2.2 h32)) 0 (by decide) (by decide) (by decide) (by decide) (mkF m 156 #[.val (.ref aP), .val (.ref aV), .val (.ref ad2), .val (.ref ad131), .val (.int (2 : Int32)), .val (.int (0 : Int32)), .val (.ref c198), .val (.ref ad238), .val (.ref ad282), .val (.int (0 : Int32))] [(.ref ad282), (.ref ad238), (.ref ad131)]) rfl (by rw [hml]; rfl) (lenOf pd_5 rfl) rfl (hb hby d11_156) (Nat.le_of_eq rfl) ?_
  intro v363 T363 L363 X363 hQ363
  obtain ⟨t363, rfl, M363, K363, g363, VB363, hE363⟩ := hQ363
  have N363 := Fr.app N330 M363
  have O364 := O331.keep K363 (allS gn282 all0)
  have V_365 := V_332.keep K363 (ninS ne283 nin0)
  have Y366 := Low_keep Y333 K363 (allS (Nat.le_of_lt lne284) all0)
  have E_367 := E_334.keep K363
  have F368 := F335.keep K363 (ninS ne284 nin0)
  have F369 := F336.keep K363 (ninS ne284 nin0)
  have F370 := F337.keep K363 (ninS ne284 nin0)
  have F371 := F338.keep K363 (ninS ne284 nin0)
  have F372 := F339.keep K363 (ninS ne284 nin0)
  have F373 := F340.keep K363 (ninS ne284 nin0)
  have F374 := F341.keep K363 (ninS ne284 nin0)
  have E_375 := E_342.keep K363
  have F376 := F343.keep K363 (ninS ne285 nin0)
  have F377 := F344.keep K363 (ninS ne285 nin0)
  have F378 := F345.keep K363 (ninS ne285 nin0)
  have F379 := F346.keep K363 (ninS ne285 nin0)
  have V_380 := V_347.keep K363 (ninS ne286 nin0)
  have V_381 := V_348.keep K363 (ninS ne287 nin0)
  have V_382 := V_349.keep K363 (ninS ne288 nin0)
  have VL383 := LAr_keep VL350 K363 (ninS ne289 nin0)
  have E_384 := E_351.keep K363
  have VL385 := LAr_keep VL352 K363 (ninS ne290 nin0)
  have V_386 := V_353.keep K363 (ninS ne291 nin0)
  have E_387 := E_354.keep K363
  have F388 := F355.keep K363 (ninS ne292 nin0)
  have F389 := F356.keep K363 (ninS ne292 nin0)
  have F390 := F357.keep K363 (ninS ne292 nin0)
  have F391 := F358.keep K363 (ninS ne292 nin0)
  have E_392 := E_359.keep K363
  have VL393 := LAr_keep VL360 K363 (ninS ne293 nin0)
  have E_394 := E_362.keep K363
  have V_395 := VR330.keep K363 (ninS ne294 nin0)
  have he363 := (hE363.resolve_left (fun q => q.2 fu330)).2.2
  show Go p e below _ (T363.setTop (mkF m 159 #[.val (.ref aP), .val (.ref aV), .val (.ref ad2), .val (.ref ad131), .val (.int (2 : Int32)), .val (.int (0 : Int32)), .val (.ref c198), .val (.ref ad238), .val (.ref ad282), .val (.int (0 : Int32))] [(.int t363)]))
  refine Go.st (fun _ => XS.pop X363.here hx rfl (hb hby d11_159) rfl rfl) ?_
  refine Go.st (fun _ => XS.aloadN X363.here hx rfl (hb hby d11_160) rfl rfl) ?_
  refine Go.st (fun _ => XS.aload X363.here hx rfl (hb hby d11_161) rfl rfl) ?_
  refine Go.st (fun _ => XS.iload X363.here hx rfl (hb hby d11_163) rfl) ?_
  show Go p e below _ (T363.setTop (mkF m 165 #[.val (.ref aP), .val (.ref aV), .val (.ref ad2), .val (.ref ad131), .val (.int (2 : Int32)), .val (.int (0 : Int32)), .val (.ref c198), .val (.ref ad238), .val (.ref ad282), .val (.int (0 : Int32))] [(.int (0 : Int32)), (.ref c198), (.ref ad131)]))
  refine Go.st (fun _ => XS.aload X363.here hx rfl (hb hby d11_165) rfl rfl) ?_
  refine goVirt X363 hx hZ (y := (⟨"com/example/traza/traza/PackedRows$Layout", "put", "([JI[J)V"⟩ : MethodName)) (z := (⟨"com/example/traza/traza/PackedRows$Layout", "put", "([JI[J)V"⟩ : MethodName)) hown (ww hw 88 rfl) (ww hw 89 rfl) (notFace_of_selects (args := #[]) (mvT hZ (ww hw 91 rfl))) (ww hw 91 rfl) (ww hw 90 rfl) (ww hw 39 rfl) (ww hw 92 rfl) (by decide) (a := ad131) (argsL := [(.ref c198), (.int (0 : Int32)), (.ref ad282)]) (rest := []) rfl E_387 (rm_put l Z a0 hw [] ad131 c198 ad282 (0 : Int32) 0 m41 m73 m105 rb169 wd169 cw169 e0 e1 e2 (fun _ => (0 : Int64)) g363 T363.heap n0 O364 E_387 F389 F390 VL393 VB363 ne293 (Nat.le_trans gP pc198) hW169 rfl (by decide) (enc_clear he363)) 0 (by decide) (by decide) (by decide) (by decide) (mkF m 167 #[.val (.ref aP), .val (.ref aV), .val (.ref ad2), .val (.ref ad131), .val (.int (2 : Int32)), .val (.int (0 : Int32)), .val (.ref c198), .val (.ref ad238), .val (.ref ad282), .val (.int (0 : Int32))] [(.ref ad282), (.int (0 : Int32)), (.ref c198), (.ref ad131)]) rfl (by rw [hml]; rfl) (lenOf pd_8 rfl) rfl (hb hby d11_167) (Nat.le_of_eq rfl) ?_
  intro v396 T396 L396 X396 hQ396
  obtain ⟨rfl, M396, K396, f396, VC396, hP396⟩ := hQ396
  have N396 := Fr.app N363 M396
  have O397 := O364.keep K396 (allS (Nat.le_trans gP pc198) all0)
  have V_398 := V_365.keep K396 (ninS ne227 nin0)
  have Y399 := Low_keep Y366 K396 (allS pc198 all0)
  have E_400 := E_367.keep K396
  have F401 := F368.keep K396 (ninS ne228 nin0)
  have F402 := F369.keep K396 (ninS ne228 nin0)
  have F403 := F370.keep K396 (ninS ne228 nin0)
  have F404 := F371.keep K396 (ninS ne228 nin0)
  have F405 := F372.keep K396 (ninS ne228 nin0)
  have F406 := F373.keep K396 (ninS ne228 nin0)
  have F407 := F374.keep K396 (ninS ne228 nin0)
  have E_408 := E_375.keep K396
  have F409 := F376.keep K396 (ninS ne229 nin0)
  have F410 := F377.keep K396 (ninS ne229 nin0)
  have F411 := F378.keep K396 (ninS ne229 nin0)
  have F412 := F379.keep K396 (ninS ne229 nin0)
  have V_413 := V_380.keep K396 (ninS ne230 nin0)
  have V_414 := V_381.keep K396 (ninS ne231 nin0)
  have V_415 := V_382.keep K396 (ninS ne232 nin0)
  have VL416 := LAr_keep VL383 K396 (ninS ne233 nin0)
  have E_417 := E_384.keep K396
  have VL418 := LAr_keep VL385 K396 (ninS ne234 nin0)
  have V_419 := V_386.keep K396 (ninS ne235 nin0)
  have E_420 := E_387.keep K396
  have F421 := F388.keep K396 (ninS ne236 nin0)
  have F422 := F389.keep K396 (ninS ne236 nin0)
  have F423 := F390.keep K396 (ninS ne236 nin0)
  have F424 := F391.keep K396 (ninS ne236 nin0)
  have E_425 := E_392.keep K396
  have E_426 := E_394.keep K396
  have V_427 := V_395.keep K396 (ninS (Ne.symm ne249) nin0)
  have VL428 := LAr_keep VB363 K396 (ninS (Ne.symm ne293) nin0)
  have hR429 := put_rows (rows := []) (r := 0) rfl rows_none he363 hP396
  show Go p e below _ (T396.setTop (mkF m 170 #[.val (.ref aP), .val (.ref aV), .val (.ref ad2), .val (.ref ad131), .val (.int (2 : Int32)), .val (.int (0 : Int32)), .val (.ref c198), .val (.ref ad238), .val (.ref ad282), .val (.int (0 : Int32))] []))
  refine Go.st (fun _ => XS.iinc X396.here hx rfl (hb hby d11_170) rfl (l' := #[.val (.ref aP), .val (.ref aV), .val (.ref ad2), .val (.ref ad131), .val (.int (2 : Int32)), .val (.int (0 : Int32)), .val (.ref c198), .val (.ref ad238), .val (.ref ad282), .val (.int (1 : Int32))]) rfl) ?_
  refine Go.st (fun _ => XS.goto X396.here hx rfl (pc0 := 173) (pc' := 126) rfl (hb hby d11_173) (by decide) (by decide)) ?_
  refine Go.st (fun _ => XS.iload X396.here hx rfl (hb hby d11_126) rfl) ?_
  refine Go.st (fun _ => XS.iload X396.here hx rfl (hb hby d11_128) rfl) ?_
  show Go p e below _ (T396.setTop (mkF m 130 #[.val (.ref aP), .val (.ref aV), .val (.ref ad2), .val (.ref ad131), .val (.int (2 : Int32)), .val (.int (0 : Int32)), .val (.ref c198), .val (.ref ad238), .val (.ref ad282), .val (.int (1 : Int32))] [(.int (2 : Int32)), (.int (1 : Int32))]))
  refine Go.st (fun _ => XS.icmpNo X396.here hx rfl (hb hby d11_130) rfl (tlt (by decide : (1 : Int32) < (2 : Int32))).2.1) ?_
  refine Go.st (fun _ => XS.aloadN X396.here hx rfl (hb hby d11_133) rfl rfl) ?_
  obtain ⟨T430, X430, e430, st430⟩ := getF X396 hx hZ hown (host := "") (Or.inl (ww hw 57 rfl)) Via.refl rfl F405 (g := (mkF m 134 #[.val (.ref aP), .val (.ref aV), .val (.ref ad2), .val (.ref ad131), .val (.int (2 : Int32)), .val (.int (0 : Int32)), .val (.ref c198), .val (.ref ad238), .val (.ref ad282), .val (.int (1 : Int32))] [(.ref aP)])) rfl rfl (hb hby d11_134)
  refine Go.st st430 ?_
  refine Go.st (fun _ => XS.aloadN X430.here hx rfl (hb hby d11_137) rfl rfl) ?_
  show Go p e below _ (T430.setTop (mkF m 138 #[.val (.ref aP), .val (.ref aV), .val (.ref ad2), .val (.ref ad131), .val (.int (2 : Int32)), .val (.int (0 : Int32)), .val (.ref c198), .val (.ref ad238), .val (.ref ad282), .val (.int (1 : Int32))] [(.ref aP), (.ref aL)]))
  obtain ⟨T431, X431, e431, st431⟩ := getF X430 hx hZ hown (host := "") (Or.inl (ww hw 13 rfl)) Via.refl e430 F403 (g := (mkF m 138 #[.val (.ref aP), .val (.ref aV), .val (.ref ad2), .val (.ref ad131), .val (.int (2 : Int32)), .val (.int (0 : Int32)), .val (.ref c198), .val (.ref ad238), .val (.ref ad282), .val (.int (1 : Int32))] [(.ref aP), (.ref aL)])) rfl rfl (hb hby d11_138)
  refine Go.st st431 ?_
  refine Go.st (fun _ => XS.iload X431.here hx rfl (hb hby d11_141) rfl) ?_
  obtain ⟨cl432, Ar432, qk432, Sz432, Nn432, Ha432, Ga432⟩ := id V_414
  have hin432 : ¬ ((0 : Int32) < 0 ∨ cl432.slots.size ≤ ((0 : Int32) : Int32).toNatClampNeg) := inb_of Sz432 ⟨by decide, by decide⟩
  refine Go.st (fun _ => X431.aaload hx (j := (0 : Int32)) (v := (.ref aC)) (by rw [e431]; exact Ar432.1) (State.isArrayOf_alike hZ.alike Ar432.2.1) rfl Ar432.2.2 hin432 (Has.at Ha432 hin432 rfl) (g := (mkF m 143 #[.val (.ref aP), .val (.ref aV), .val (.ref ad2), .val (.ref ad131), .val (.int (2 : Int32)), .val (.int (0 : Int32)), .val (.ref c198), .val (.ref ad238), .val (.ref ad282), .val (.int (1 : Int32))] [(.int (0 : Int32)), (.ref aK), (.ref aL)])) rfl rfl (hb hby d11_143) _) ?_
  refine Go.st (fun _ => XS.iload X431.here hx rfl (hb hby d11_144) rfl) ?_
  show Go p e below _ (T431.setTop (mkF m 146 #[.val (.ref aP), .val (.ref aV), .val (.ref ad2), .val (.ref ad131), .val (.int (2 : Int32)), .val (.int (0 : Int32)), .val (.ref c198), .val (.ref ad238), .val (.ref ad282), .val (.int (1 : Int32))] [(.int (1 : Int32)), (.ref aC), (.ref aL)]))
  refine Go.st (fun _ => XS.aload X431.here hx rfl (hb hby d11_146) rfl rfl) ?_
  refine goVirt X431 hx hZ (y := (⟨"com/example/traza/traza/PackedRows$Layout", "read", "([JI[I)V"⟩ : MethodName)) (z := (⟨"com/example/traza/traza/PackedRows$Layout", "read", "([JI[I)V"⟩ : MethodName)) hown (ww hw 100 rfl) (ww hw 101 rfl) (notFace_of_selects (args := #[]) (mvT hZ (ww hw 103 rfl))) (ww hw 103 rfl) (ww hw 102 rfl) (ww hw 39 rfl) (ww hw 104 rfl) (by decide) (a := aL) (argsL := [(.ref aC), (.int (1 : Int32)), (.ref ad238)]) (rest := []) e431 E_408 (rm_read l Z a0 hw [] aL aw aC ad238 kw k238 (1 : Int32) 1 v0_0 v0_1 v0_2 w0 w1 w2 rb wd cw b0 b1 b2 f T396.heap n0 O397 E_408 F409 F410 V_413 VL418 V_427 ne242 gn238 r_hW rfl (by decide)) 0 (by decide) (by decide) (by decide) (by decide) (mkF m 148 #[.val (.ref aP), .val (.ref aV), .val (.ref ad2), .val (.ref ad131), .val (.int (2 : Int32)), .val (.int (0 : Int32)), .val (.ref c198), .val (.ref ad238), .val (.ref ad282), .val (.int (1 : Int32))] [(.ref ad238), (.int (1 : Int32)), (.ref aC), (.ref aL)]) rfl (by rw [hml]; rfl) (lenOf pd_9 rfl) rfl (hb hby d11_148) (Nat.le_of_eq rfl) ?_
  intro v433 T433 L433 X433 hQ433
  obtain ⟨rfl, M433, K433, za433, zb433, zc433, VR433, ha433, hb433, hc433⟩ := hQ433
  have N433 := Fr.app N396 M433
  have O434 := O397.keep K433 (allS gn238 all0)
  have V_435 := V_398.keep K433 (ninS ne239 nin0)
  have Y436 := Low_keep Y399 K433 (allS (Nat.le_of_lt lne240) all0)
  have E_437 := E_400.keep K433
  have F438 := F401.keep K433 (ninS ne240 nin0)
  have F439 := F402.keep K433 (ninS ne240 nin0)
  have F440 := F403.keep K433 (ninS ne240 nin0)
  have F441 := F404.keep K433 (ninS ne240 nin0)
  have F442 := F405.keep K433 (ninS ne240 nin0)
  have F443 := F406.keep K433 (ninS ne240 nin0)
  have F444 := F407.keep K433 (ninS ne240 nin0)
  have E_445 := E_408.keep K433
  have F446 := F409.keep K433 (ninS ne241 nin0)
  have F447 := F410.keep K433 (ninS ne241 nin0)
  have F448 := F411.keep K433 (ninS ne241 nin0)
  have F449 := F412.keep K433 (ninS ne241 nin0)
  have V_450 := V_413.keep K433 (ninS ne242 nin0)
  have V_451 := V_414.keep K433 (ninS ne243 nin0)
  have V_452 := V_415.keep K433 (ninS ne244 nin0)
  have VL453 := LAr_keep VL416 K433 (ninS ne245 nin0)
  have E_454 := E_417.keep K433
  have VL455 := LAr_keep VL418 K433 (ninS ne246 nin0)
  have V_456 := V_419.keep K433 (ninS ne247 nin0)
  have E_457 := E_420.keep K433
  have F458 := F421.keep K433 (ninS ne248 nin0)
  have F459 := F422.keep K433 (ninS ne248 nin0)
  have F460 := F423.keep K433 (ninS ne248 nin0)
  have F461 := F424.keep K433 (ninS ne248 nin0)
  have E_462 := E_425.keep K433
  have E_463 := E_426.keep K433
  have VL464 := LAr_keep VL428 K433 (ninS (Ne.symm ne294) nin0)
  have VL465 := LAr_keep VC396 K433 (ninS ne249 nin0)
  have fr433 : own_fits b0 b1 b2 (v1_0, v1_1, v1_2) := r_hF _ (List.mem_of_getElem? (i := 1) rfl)
  have rd433 := rows_read r_hR (r := 1) (v := (v1_0, v1_1, v1_2)) rfl fr433
  obtain rfl : v1_0 = za433 := fld_uniq rd433.1 ha433
  obtain rfl : v1_1 = zb433 := fld_uniq rd433.2.1 hb433
  obtain rfl : v1_2 = zc433 := fld_uniq rd433.2.2 hc433
  show Go p e below _ (T433.setTop (mkF m 151 #[.val (.ref aP), .val (.ref aV), .val (.ref ad2), .val (.ref ad131), .val (.int (2 : Int32)), .val (.int (0 : Int32)), .val (.ref c198), .val (.ref ad238), .val (.ref ad282), .val (.int (1 : Int32))] []))
  refine Go.st (fun _ => XS.aloadN X433.here hx rfl (hb hby d11_151) rfl rfl) ?_
  refine Go.st (fun _ => XS.aload X433.here hx rfl (hb hby d11_152) rfl rfl) ?_
  refine Go.st (fun _ => XS.aload X433.here hx rfl (hb hby d11_154) rfl rfl) ?_
  have fu433 := fits_up fr433 hl0 hl1 hl2
  refine goVirt X433 hx hZ (y := (⟨"com/example/traza/traza/PackedRows$Layout", "encode", "([I[J)Z"⟩ : MethodName)) (z := (⟨"com/example/traza/traza/PackedRows$Layout", "encode", "([I[J)Z"⟩ : MethodName)) hown (ww hw 71 rfl) (ww hw 72 rfl) (notFace_of_selects (args := #[]) (mvT hZ (ww hw 74 rfl))) (ww hw 74 rfl) (ww hw 73 rfl) (ww hw 39 rfl) (ww hw 75 rfl) (by decide) (a := ad131) (argsL := [(.ref ad238), (.ref ad282)]) (rest := []) rfl E_457 (rm_enc l Z a0 hw [] ad131 ad2 ad238 ad282 k2 k238 m41 m73 m105 rb169 wd169 cw169 v1_0 v1_1 v1_2 e0 e1 e2 g363 T433.heap n0 O434 E_457 F458 V_456 VR433 VL464 gn282 hW169 (fit_pos fu433.1 h30) (fit_pos fu433.2.1 h31) (fit_pos fu433.2.2 h32)) 0 (by decide) (by decide) (by decide) (by decide) (mkF m 156 #[.val (.ref aP), .val (.ref aV), .val (.ref ad2), .val (.ref ad131), .val (.int (2 : Int32)), .val (.int (0 : Int32)), .val (.ref c198), .val (.ref ad238), .val (.ref ad282), .val (.int (1 : Int32))] [(.ref ad282), (.ref ad238), (.ref ad131)]) rfl (by rw [hml]; rfl) (lenOf pd_5 rfl) rfl (hb hby d11_156) (Nat.le_of_eq rfl) ?_
  intro v466 T466 L466 X466 hQ466
  obtain ⟨t466, rfl, M466, K466, g466, VB466, hE466⟩ := hQ466
  have N466 := Fr.app N433 M466
  have O467 := O434.keep K466 (allS gn282 all0)
  have V_468 := V_435.keep K466 (ninS ne283 nin0)
  have Y469 := Low_keep Y436 K466 (allS (Nat.le_of_lt lne284) all0)
  have E_470 := E_437.keep K466
  have F471 := F438.keep K466 (ninS ne284 nin0)
  have F472 := F439.keep K466 (ninS ne284 nin0)
  have F473 := F440.keep K466 (ninS ne284 nin0)
  have F474 := F441.keep K466 (ninS ne284 nin0)
  have F475 := F442.keep K466 (ninS ne284 nin0)
  have F476 := F443.keep K466 (ninS ne284 nin0)
  have F477 := F444.keep K466 (ninS ne284 nin0)
  have E_478 := E_445.keep K466
  have F479 := F446.keep K466 (ninS ne285 nin0)
  have F480 := F447.keep K466 (ninS ne285 nin0)
  have F481 := F448.keep K466 (ninS ne285 nin0)
  have F482 := F449.keep K466 (ninS ne285 nin0)
  have V_483 := V_450.keep K466 (ninS ne286 nin0)
  have V_484 := V_451.keep K466 (ninS ne287 nin0)
  have V_485 := V_452.keep K466 (ninS ne288 nin0)
  have VL486 := LAr_keep VL453 K466 (ninS ne289 nin0)
  have E_487 := E_454.keep K466
  have VL488 := LAr_keep VL455 K466 (ninS ne290 nin0)
  have V_489 := V_456.keep K466 (ninS ne291 nin0)
  have E_490 := E_457.keep K466
  have F491 := F458.keep K466 (ninS ne292 nin0)
  have F492 := F459.keep K466 (ninS ne292 nin0)
  have F493 := F460.keep K466 (ninS ne292 nin0)
  have F494 := F461.keep K466 (ninS ne292 nin0)
  have E_495 := E_462.keep K466
  have E_496 := E_463.keep K466
  have VL497 := LAr_keep VL465 K466 (ninS ne293 nin0)
  have V_498 := VR433.keep K466 (ninS ne294 nin0)
  have he466 := (hE466.resolve_left (fun q => q.2 fu433)).2.2
  show Go p e below _ (T466.setTop (mkF m 159 #[.val (.ref aP), .val (.ref aV), .val (.ref ad2), .val (.ref ad131), .val (.int (2 : Int32)), .val (.int (0 : Int32)), .val (.ref c198), .val (.ref ad238), .val (.ref ad282), .val (.int (1 : Int32))] [(.int t466)]))
  refine Go.st (fun _ => XS.pop X466.here hx rfl (hb hby d11_159) rfl rfl) ?_
  refine Go.st (fun _ => XS.aloadN X466.here hx rfl (hb hby d11_160) rfl rfl) ?_
  refine Go.st (fun _ => XS.aload X466.here hx rfl (hb hby d11_161) rfl rfl) ?_
  refine Go.st (fun _ => XS.iload X466.here hx rfl (hb hby d11_163) rfl) ?_
  show Go p e below _ (T466.setTop (mkF m 165 #[.val (.ref aP), .val (.ref aV), .val (.ref ad2), .val (.ref ad131), .val (.int (2 : Int32)), .val (.int (0 : Int32)), .val (.ref c198), .val (.ref ad238), .val (.ref ad282), .val (.int (1 : Int32))] [(.int (1 : Int32)), (.ref c198), (.ref ad131)]))
  refine Go.st (fun _ => XS.aload X466.here hx rfl (hb hby d11_165) rfl rfl) ?_
  refine goVirt X466 hx hZ (y := (⟨"com/example/traza/traza/PackedRows$Layout", "put", "([JI[J)V"⟩ : MethodName)) (z := (⟨"com/example/traza/traza/PackedRows$Layout", "put", "([JI[J)V"⟩ : MethodName)) hown (ww hw 88 rfl) (ww hw 89 rfl) (notFace_of_selects (args := #[]) (mvT hZ (ww hw 91 rfl))) (ww hw 91 rfl) (ww hw 90 rfl) (ww hw 39 rfl) (ww hw 92 rfl) (by decide) (a := ad131) (argsL := [(.ref c198), (.int (1 : Int32)), (.ref ad282)]) (rest := []) rfl E_490 (rm_put l Z a0 hw [] ad131 c198 ad282 (1 : Int32) 1 m41 m73 m105 rb169 wd169 cw169 e0 e1 e2 f396 g466 T466.heap n0 O467 E_490 F492 F493 VL497 VB466 ne293 (Nat.le_trans gP pc198) hW169 rfl (by decide) (enc_clear he466)) 0 (by decide) (by decide) (by decide) (by decide) (mkF m 167 #[.val (.ref aP), .val (.ref aV), .val (.ref ad2), .val (.ref ad131), .val (.int (2 : Int32)), .val (.int (0 : Int32)), .val (.ref c198), .val (.ref ad238), .val (.ref ad282), .val (.int (1 : Int32))] [(.ref ad282), (.int (1 : Int32)), (.ref c198), (.ref ad131)]) rfl (by rw [hml]; rfl) (lenOf pd_8 rfl) rfl (hb hby d11_167) (Nat.le_of_eq rfl) ?_
  intro v499 T499 L499 X499 hQ499
  obtain ⟨rfl, M499, K499, f499, VC499, hP499⟩ := hQ499
  have N499 := Fr.app N466 M499
  have O500 := O467.keep K499 (allS (Nat.le_trans gP pc198) all0)
  have V_501 := V_468.keep K499 (ninS ne227 nin0)
  have Y502 := Low_keep Y469 K499 (allS pc198 all0)
  have E_503 := E_470.keep K499
  have F504 := F471.keep K499 (ninS ne228 nin0)
  have F505 := F472.keep K499 (ninS ne228 nin0)
  have F506 := F473.keep K499 (ninS ne228 nin0)
  have F507 := F474.keep K499 (ninS ne228 nin0)
  have F508 := F475.keep K499 (ninS ne228 nin0)
  have F509 := F476.keep K499 (ninS ne228 nin0)
  have F510 := F477.keep K499 (ninS ne228 nin0)
  have E_511 := E_478.keep K499
  have F512 := F479.keep K499 (ninS ne229 nin0)
  have F513 := F480.keep K499 (ninS ne229 nin0)
  have F514 := F481.keep K499 (ninS ne229 nin0)
  have F515 := F482.keep K499 (ninS ne229 nin0)
  have V_516 := V_483.keep K499 (ninS ne230 nin0)
  have V_517 := V_484.keep K499 (ninS ne231 nin0)
  have V_518 := V_485.keep K499 (ninS ne232 nin0)
  have VL519 := LAr_keep VL486 K499 (ninS ne233 nin0)
  have E_520 := E_487.keep K499
  have VL521 := LAr_keep VL488 K499 (ninS ne234 nin0)
  have V_522 := V_489.keep K499 (ninS ne235 nin0)
  have E_523 := E_490.keep K499
  have F524 := F491.keep K499 (ninS ne236 nin0)
  have F525 := F492.keep K499 (ninS ne236 nin0)
  have F526 := F493.keep K499 (ninS ne236 nin0)
  have F527 := F494.keep K499 (ninS ne236 nin0)
  have E_528 := E_495.keep K499
  have E_529 := E_496.keep K499
  have V_530 := V_498.keep K499 (ninS (Ne.symm ne249) nin0)
  have VL531 := LAr_keep VB466 K499 (ninS (Ne.symm ne293) nin0)
  have hR532 := put_rows (rows := [(v0_0, v0_1, v0_2)]) (r := 1) rfl hR429 he466 hP499
  show Go p e below _ (T499.setTop (mkF m 170 #[.val (.ref aP), .val (.ref aV), .val (.ref ad2), .val (.ref ad131), .val (.int (2 : Int32)), .val (.int (0 : Int32)), .val (.ref c198), .val (.ref ad238), .val (.ref ad282), .val (.int (1 : Int32))] []))
  refine Go.st (fun _ => XS.iinc X499.here hx rfl (hb hby d11_170) rfl (l' := #[.val (.ref aP), .val (.ref aV), .val (.ref ad2), .val (.ref ad131), .val (.int (2 : Int32)), .val (.int (0 : Int32)), .val (.ref c198), .val (.ref ad238), .val (.ref ad282), .val (.int (2 : Int32))]) rfl) ?_
  refine Go.st (fun _ => XS.goto X499.here hx rfl (pc0 := 173) (pc' := 126) rfl (hb hby d11_173) (by decide) (by decide)) ?_
  refine Go.st (fun _ => XS.iload X499.here hx rfl (hb hby d11_126) rfl) ?_
  refine Go.st (fun _ => XS.iload X499.here hx rfl (hb hby d11_128) rfl) ?_
  show Go p e below _ (T499.setTop (mkF m 130 #[.val (.ref aP), .val (.ref aV), .val (.ref ad2), .val (.ref ad131), .val (.int (2 : Int32)), .val (.int (0 : Int32)), .val (.ref c198), .val (.ref ad238), .val (.ref ad282), .val (.int (2 : Int32))] [(.int (2 : Int32)), (.int (2 : Int32))]))
  refine Go.st (fun _ => XS.icmpYes X499.here hx rfl (pc0 := 130) (pc' := 176) rfl (hb hby d11_130) rfl (flt (by decide : ¬ ((2 : Int32) < (2 : Int32)))).2.1 (by decide) (by decide)) ?_
  refine Go.st (fun _ => XS.aloadN X499.here hx rfl (hb hby d11_176) rfl rfl) ?_
  obtain ⟨T533, X533, e533, st533⟩ := getF X499 hx hZ hown (host := "") (Or.inl (ww hw 13 rfl)) Via.refl rfl F506 (g := (mkF m 177 #[.val (.ref aP), .val (.ref aV), .val (.ref ad2), .val (.ref ad131), .val (.int (2 : Int32)), .val (.int (0 : Int32)), .val (.ref c198), .val (.ref ad238), .val (.ref ad282), .val (.int (2 : Int32))] [(.ref aP)])) rfl rfl (hb hby d11_177)
  refine Go.st st533 ?_
  refine Go.st (fun _ => XS.iload X533.here hx rfl (hb hby d11_180) rfl) ?_
  show Go p e below _ (T533.setTop (mkF m 182 #[.val (.ref aP), .val (.ref aV), .val (.ref ad2), .val (.ref ad131), .val (.int (2 : Int32)), .val (.int (0 : Int32)), .val (.ref c198), .val (.ref ad238), .val (.ref ad282), .val (.int (2 : Int32))] [(.int (0 : Int32)), (.ref aK)]))
  refine Go.st (fun _ => XS.aload X533.here hx rfl (hb hby d11_182) rfl rfl) ?_
  obtain ⟨cl534, Ar534, qk534, Sz534, Nn534, Ha534, Ga534⟩ := id V_517
  have hin534 : ¬ ((0 : Int32) < 0 ∨ cl534.slots.size ≤ ((0 : Int32) : Int32).toNatClampNeg) := inb_of Sz534 ⟨by decide, by decide⟩
  obtain ⟨T534, h534, X534, e534, W534, st534⟩ := stR X533 hx hZ e533 Ar534 (j := (0 : Int32)) hin534 rfl (Sto.ofVA Ar534 qk534 r_oK (Ins.self E_528)) (g := (mkF m 184 #[.val (.ref aP), .val (.ref aV), .val (.ref ad2), .val (.ref ad131), .val (.int (2 : Int32)), .val (.int (0 : Int32)), .val (.ref c198), .val (.ref ad238), .val (.ref ad282), .val (.int (2 : Int32))] [(.ref c198), (.int (0 : Int32)), (.ref aK)])) rfl rfl (hb hby d11_184)
  refine Go.st st534 ?_
  have O535 := O500.wr W534 (Nat.le_trans gP r_pK)
  have V_536 := V_501.other W534 (arv_arv V_501 V_517 (fun q => nomatch q))
  have Y537 := Low_wr Y502 W534 r_pK
  have E_538 := E_503.wr W534
  have F539 := F504.other W534 (Or.inl (Exa.neArv E_503 V_517 (ww hw 3 rfl)))
  have F540 := F505.other W534 (Or.inl (Exa.neArv E_503 V_517 (ww hw 3 rfl)))
  have F541 := F506.other W534 (Or.inl (Exa.neArv E_503 V_517 (ww hw 3 rfl)))
  have F542 := F507.other W534 (Or.inl (Exa.neArv E_503 V_517 (ww hw 3 rfl)))
  have F543 := F508.other W534 (Or.inl (Exa.neArv E_503 V_517 (ww hw 3 rfl)))
  have F544 := F509.other W534 (Or.inl (Exa.neArv E_503 V_517 (ww hw 3 rfl)))
  have F545 := F510.other W534 (Or.inl (Exa.neArv E_503 V_517 (ww hw 3 rfl)))
  have E_546 := E_511.wr W534
  have F547 := F512.other W534 (Or.inl (Exa.neArv E_511 V_517 (ww hw 38 rfl)))
  have F548 := F513.other W534 (Or.inl (Exa.neArv E_511 V_517 (ww hw 38 rfl)))
  have F549 := F514.other W534 (Or.inl (Exa.neArv E_511 V_517 (ww hw 38 rfl)))
  have F550 := F515.other W534 (Or.inl (Exa.neArv E_511 V_517 (ww hw 38 rfl)))
  have V_551 := V_516.other W534 (arv_arv V_516 V_517 (fun q => nomatch q))
  have V_552 := V_518.other W534 (arv_arv V_518 V_517 (fun q => nomatch q))
  have VL553 := LAr_other VL519 W534 (LAr_arv VL519 V_517 (fun q => nomatch q))
  have E_554 := E_520.wr W534
  have VL555 := LAr_other VL521 W534 (LAr_arv VL521 V_517 (fun q => nomatch q))
  have V_556 := V_522.other W534 (Ne.symm ne7)
  have E_557 := E_523.wr W534
  have F558 := F524.other W534 (Or.inl (Ne.symm ne136))
  have F559 := F525.other W534 (Or.inl (Ne.symm ne136))
  have F560 := F526.other W534 (Or.inl (Ne.symm ne136))
  have F561 := F527.other W534 (Or.inl (Ne.symm ne136))
  have E_562 := E_528.wr W534
  have E_563 := E_529.wr W534
  have V_564 := V_530.other W534 (Ne.symm ne243)
  have VL565 := LAr_other VL531 W534 (Ne.symm ne287)
  have VL566 := LAr_other VC499 W534 (Ne.symm ne231)
  have V_567 : Arv Z h534 aK kK (.array .long) (1 : Int32) [(.ref c198)] .null := Arv.set Ar534 qk534 Sz534 Nn534 Ha534 Ga534 rfl W534 0 rfl (Nat.le_of_ble_eq_true rfl)
  have N534 := Fr.snoc X534 N499 (Nat.le_trans gP r_pK)
  refine Go.st (fun _ => XS.aloadN X534.here hx rfl (hb hby d11_185) rfl rfl) ?_
  obtain ⟨T568, X568, e568, st568⟩ := getF X534 hx hZ hown (host := "") (Or.inl (ww hw 17 rfl)) Via.refl e534 F542 (g := (mkF m 186 #[.val (.ref aP), .val (.ref aV), .val (.ref ad2), .val (.ref ad131), .val (.int (2 : Int32)), .val (.int (0 : Int32)), .val (.ref c198), .val (.ref ad238), .val (.ref ad282), .val (.int (2 : Int32))] [(.ref aP)])) rfl rfl (hb hby d11_186)
  refine Go.st st568 ?_
  show Go p e below _ (T568.setTop (mkF m 189 #[.val (.ref aP), .val (.ref aV), .val (.ref ad2), .val (.ref ad131), .val (.int (2 : Int32)), .val (.int (0 : Int32)), .val (.ref c198), .val (.ref ad238), .val (.ref ad282), .val (.int (2 : Int32))] [(.ref aY)]))
  refine Go.st (fun _ => XS.iload X568.here hx rfl (hb hby d11_189) rfl) ?_
  refine Go.st (fun _ => XS.aloadN X568.here hx rfl (hb hby d11_191) rfl rfl) ?_
  obtain ⟨cl569, Ar569, qk569, Sz569, Nn569, Ha569, Ga569⟩ := id V_552
  have hin569 : ¬ ((0 : Int32) < 0 ∨ cl569.slots.size ≤ ((0 : Int32) : Int32).toNatClampNeg) := inb_of Sz569 ⟨by decide, by decide⟩
  obtain ⟨T569, h569, X569, e569, W569, st569⟩ := stR X568 hx hZ e568 Ar569 (j := (0 : Int32)) hin569 rfl (Sto.ofV Ar569 qk569 r_oY (Ins.self E_557)) (g := (mkF m 192 #[.val (.ref aP), .val (.ref aV), .val (.ref ad2), .val (.ref ad131), .val (.int (2 : Int32)), .val (.int (0 : Int32)), .val (.ref c198), .val (.ref ad238), .val (.ref ad282), .val (.int (2 : Int32))] [(.ref ad131), (.int (0 : Int32)), (.ref aY)])) rfl rfl (hb hby d11_192)
  refine Go.st st569 ?_
  have O570 := O535.wr W569 (Nat.le_trans gP r_pY)
  have V_571 := V_536.other W569 (arv_arv V_536 V_552 (fun q => nomatch q))
  have Y572 := Low_wr Y537 W569 r_pY
  have E_573 := E_538.wr W569
  have F574 := F539.other W569 (Or.inl (Exa.neArv E_538 V_552 (ww hw 3 rfl)))
  have F575 := F540.other W569 (Or.inl (Exa.neArv E_538 V_552 (ww hw 3 rfl)))
  have F576 := F541.other W569 (Or.inl (Exa.neArv E_538 V_552 (ww hw 3 rfl)))
  have F577 := F542.other W569 (Or.inl (Exa.neArv E_538 V_552 (ww hw 3 rfl)))
  have F578 := F543.other W569 (Or.inl (Exa.neArv E_538 V_552 (ww hw 3 rfl)))
  have F579 := F544.other W569 (Or.inl (Exa.neArv E_538 V_552 (ww hw 3 rfl)))
  have F580 := F545.other W569 (Or.inl (Exa.neArv E_538 V_552 (ww hw 3 rfl)))
  have E_581 := E_546.wr W569
  have F582 := F547.other W569 (Or.inl (Exa.neArv E_546 V_552 (ww hw 38 rfl)))
  have F583 := F548.other W569 (Or.inl (Exa.neArv E_546 V_552 (ww hw 38 rfl)))
  have F584 := F549.other W569 (Or.inl (Exa.neArv E_546 V_552 (ww hw 38 rfl)))
  have F585 := F550.other W569 (Or.inl (Exa.neArv E_546 V_552 (ww hw 38 rfl)))
  have V_586 := V_551.other W569 (arv_arv V_551 V_552 (fun q => nomatch q))
  have VL587 := LAr_other VL553 W569 (LAr_arv VL553 V_552 (fun q => nomatch q))
  have E_588 := E_554.wr W569
  have VL589 := LAr_other VL555 W569 (LAr_arv VL555 V_552 (fun q => nomatch q))
  have V_590 := V_556.other W569 (Ne.symm ne8)
  have E_591 := E_557.wr W569
  have F592 := F558.other W569 (Or.inl (Ne.symm ne137))
  have F593 := F559.other W569 (Or.inl (Ne.symm ne137))
  have F594 := F560.other W569 (Or.inl (Ne.symm ne137))
  have F595 := F561.other W569 (Or.inl (Ne.symm ne137))
  have E_596 := E_562.wr W569
  have E_597 := E_563.wr W569
  have V_598 := V_564.other W569 (Ne.symm ne244)
  have VL599 := LAr_other VL565 W569 (Ne.symm ne288)
  have VL600 := LAr_other VL566 W569 (Ne.symm ne232)
  have V_601 := V_567.other W569 (arv_arv V_567 V_552 (fun q => nomatch q))
  have V_602 : Arv Z h569 aY kY (.object "com/example/traza/traza/PackedRows$Layout") (1 : Int32) [(.ref ad131)] .null := Arv.set Ar569 qk569 Sz569 Nn569 Ha569 Ga569 rfl W569 0 rfl (Nat.le_of_ble_eq_true rfl)
  have N569 := Fr.snoc X569 N534 (Nat.le_trans gP r_pY)
  refine Go.st (fun _ => XS.aloadN X569.here hx rfl (hb hby d11_193) rfl rfl) ?_
  show Go p e below _ (T569.setTop (mkF m 194 #[.val (.ref aP), .val (.ref aV), .val (.ref ad2), .val (.ref ad131), .val (.int (2 : Int32)), .val (.int (0 : Int32)), .val (.ref c198), .val (.ref ad238), .val (.ref ad282), .val (.int (2 : Int32))] [(.ref aP)]))
  refine Go.st (fun _ => XS.aloadN X569.here hx rfl (hb hby d11_194) rfl rfl) ?_
  obtain ⟨T603, h603, X603, e603, W603, st603⟩ := putF X569 hx hZ hown (host := "") (Or.inl (ww hw 57 rfl)) Via.refl e569 F578 E_573 (Or.inl (ww hw 58 rfl)) (ww hw 3 rfl) (ty := (.object "com/example/traza/traza/PackedRows$Layout")) (by decide) rfl rfl (g := (mkF m 195 #[.val (.ref aP), .val (.ref aV), .val (.ref ad2), .val (.ref ad131), .val (.int (2 : Int32)), .val (.int (0 : Int32)), .val (.ref c198), .val (.ref ad238), .val (.ref ad282), .val (.int (2 : Int32))] [(.ref ad131), (.ref aP)])) rfl rfl (hb hby d11_195)
  refine Go.st st603 ?_
  have O604 := O570.wr W603 gP
  have V_605 := V_571.other W603 (Ne.symm (Exa.neArv E_573 V_571 (ww hw 3 rfl)))
  have Y606 := Low_wr Y572 W603 (Nat.le_refl _)
  have E_607 := E_573.wr W603
  have F608 := F574.other W603 (Or.inr (slot_ne (Or.inr (ww hw 35 rfl)) (Or.inl (ww hw 58 rfl)) (by decide) (t := .int) (t' := (.object "com/example/traza/traza/PackedRows$Layout")) (by decide) (by decide)))
  have F609 := F575.other W603 (Or.inr (slot_ne (Or.inr (ww hw 37 rfl)) (Or.inl (ww hw 58 rfl)) (by decide) (t := .int) (t' := (.object "com/example/traza/traza/PackedRows$Layout")) (by decide) (by decide)))
  have F610 := F576.other W603 (Or.inr (slot_ne (Or.inl (ww hw 14 rfl)) (Or.inl (ww hw 58 rfl)) (by decide) (t := (.array (.array .long))) (t' := (.object "com/example/traza/traza/PackedRows$Layout")) (by decide) (by decide)))
  have F611 := F577.other W603 (Or.inr (slot_ne (Or.inl (ww hw 18 rfl)) (Or.inl (ww hw 58 rfl)) (by decide) (t := (.array (.object "com/example/traza/traza/PackedRows$Layout"))) (t' := (.object "com/example/traza/traza/PackedRows$Layout")) (by decide) (by decide)))
  have F612 := F579.other W603 (Or.inr (slot_ne (Or.inl (ww hw 62 rfl)) (Or.inl (ww hw 58 rfl)) (by decide) (t := (.array .long)) (t' := (.object "com/example/traza/traza/PackedRows$Layout")) (by decide) (by decide)))
  have F613 := F580.other W603 (Or.inr (slot_ne (Or.inl (ww hw 69 rfl)) (Or.inl (ww hw 58 rfl)) (by decide) (t := .int) (t' := (.object "com/example/traza/traza/PackedRows$Layout")) (by decide) (by decide)))
  have E_614 := E_581.wr W603
  have F615 := F582.other W603 (Or.inl (Exa.ne E_581 E_573 (by decide)))
  have F616 := F583.other W603 (Or.inl (Exa.ne E_581 E_573 (by decide)))
  have F617 := F584.other W603 (Or.inl (Exa.ne E_581 E_573 (by decide)))
  have F618 := F585.other W603 (Or.inl (Exa.ne E_581 E_573 (by decide)))
  have V_619 := V_586.other W603 (Ne.symm (Exa.neArv E_573 V_586 (ww hw 3 rfl)))
  have VL620 := LAr_other VL587 W603 (LAr_exa VL587 E_573 (ww hw 3 rfl))
  have E_621 := E_588.wr W603
  have VL622 := LAr_other VL589 W603 (LAr_exa VL589 E_573 (ww hw 3 rfl))
  have V_623 := V_590.other W603 (Ne.symm ne4)
  have E_624 := E_591.wr W603
  have F625 := F592.other W603 (Or.inl (Ne.symm ne133))
  have F626 := F593.other W603 (Or.inl (Ne.symm ne133))
  have F627 := F594.other W603 (Or.inl (Ne.symm ne133))
  have F628 := F595.other W603 (Or.inl (Ne.symm ne133))
  have E_629 := E_596.wr W603
  have E_630 := E_597.wr W603
  have V_631 := V_598.other W603 (Ne.symm ne240)
  have VL632 := LAr_other VL599 W603 (Ne.symm ne284)
  have VL633 := LAr_other VL600 W603 (Ne.symm ne228)
  have V_634 := V_601.other W603 (Ne.symm (Exa.neArv E_573 V_601 (ww hw 3 rfl)))
  have V_635 := V_602.other W603 (Ne.symm (Exa.neArv E_573 V_602 (ww hw 3 rfl)))
  have F636 : Fld Z h603 aP "com/example/traza/traza/PackedRows" "layout" "Lcom/example/traza/traza/PackedRows$Layout;" (.ref ad131) := F578.same W603
  have N603 := Fr.snoc X603 N569 gP
  refine Go.st (fun _ => XS.aloadN X603.here hx rfl (hb hby d11_198) rfl rfl) ?_
  refine Go.st (fun _ => XS.aloadN X603.here hx rfl (hb hby d11_199) rfl rfl) ?_
  show Go p e below _ (T603.setTop (mkF m 200 #[.val (.ref aP), .val (.ref aV), .val (.ref ad2), .val (.ref ad131), .val (.int (2 : Int32)), .val (.int (0 : Int32)), .val (.ref c198), .val (.ref ad238), .val (.ref ad282), .val (.int (2 : Int32))] [(.ref ad131), (.ref aP)]))
  obtain ⟨T637, X637, e637, st637⟩ := getFR X603 hx hZ hown (ww hw 59 rfl) e603 F627 (g := (mkF m 200 #[.val (.ref aP), .val (.ref aV), .val (.ref ad2), .val (.ref ad131), .val (.int (2 : Int32)), .val (.int (0 : Int32)), .val (.ref c198), .val (.ref ad238), .val (.ref ad282), .val (.int (2 : Int32))] [(.ref ad131), (.ref aP)])) rfl rfl (hb hby d11_200)
  refine Go.st st637 ?_
  obtain ⟨T638, h638, k638, X638, e638, E638, A638, B638, st638⟩ := newPE X637 hx hZ (ww hw 60 rfl) e637 (g := (mkF m 203 #[.val (.ref aP), .val (.ref aV), .val (.ref ad2), .val (.ref ad131), .val (.int (2 : Int32)), .val (.int (0 : Int32)), .val (.ref c198), .val (.ref ad238), .val (.ref ad282), .val (.int (2 : Int32))] [(.int wd169), (.ref aP)])) rfl (hb hby d11_203) rfl (len_cap hW169.2.2.2.2.2.2.2.1 hle2).1 (cap := 2) (len_cap hW169.2.2.2.2.2.2.2.1 hle2).2 (by decide) (by decide) (by decide) (ad := "[J") rfl
  obtain ⟨ad638, g638⟩ : ∃ z, z = h603.size := ⟨_, rfl⟩
  rw [← g638] at A638 B638 st638
  refine Go.st st638 ?_
  have gn638 : n0 ≤ ad638 := oldGe O604 g638
  have ne639 : aV ≠ ad638 := Nat.ne_of_lt (Nat.lt_of_lt_of_le V_605.lt (Nat.le_of_eq g638.symm))
  have lne640 : aP < ad638 := (Nat.lt_of_lt_of_le E_607.lt (Nat.le_of_eq g638.symm))
  have ne640 : aP ≠ ad638 := Nat.ne_of_lt lne640
  have ne641 : aL ≠ ad638 := Nat.ne_of_lt (Nat.lt_of_lt_of_le E_614.lt (Nat.le_of_eq g638.symm))
  have ne642 : aw ≠ ad638 := Nat.ne_of_lt (Nat.lt_of_lt_of_le V_619.lt (Nat.le_of_eq g638.symm))
  have ne643 : aB ≠ ad638 := Nat.ne_of_lt (Nat.lt_of_lt_of_le (LAr_lt VL620) (Nat.le_of_eq g638.symm))
  have ne644 : aC ≠ ad638 := Nat.ne_of_lt (Nat.lt_of_lt_of_le E_621.lt (Nat.le_of_eq g638.symm))
  have ne645 : ad2 ≠ ad638 := Nat.ne_of_lt (Nat.lt_of_lt_of_le V_623.lt (Nat.le_of_eq g638.symm))
  have ne646 : ad131 ≠ ad638 := Nat.ne_of_lt (Nat.lt_of_lt_of_le E_624.lt (Nat.le_of_eq g638.symm))
  have ne647 : c198 ≠ ad638 := Nat.ne_of_lt (Nat.lt_of_lt_of_le E_629.lt (Nat.le_of_eq g638.symm))
  have ne648 : ad282 ≠ ad638 := Nat.ne_of_lt (Nat.lt_of_lt_of_le E_630.lt (Nat.le_of_eq g638.symm))
  have ne649 : ad238 ≠ ad638 := Nat.ne_of_lt (Nat.lt_of_lt_of_le V_631.lt (Nat.le_of_eq g638.symm))
  have ne650 : aK ≠ ad638 := Nat.ne_of_lt (Nat.lt_of_lt_of_le V_634.lt (Nat.le_of_eq g638.symm))
  have ne651 : aY ≠ ad638 := Nat.ne_of_lt (Nat.lt_of_lt_of_le V_635.lt (Nat.le_of_eq g638.symm))
  have O652 := O604.ext E638
  have V_653 := V_605.ext E638
  have Y654 := Low_ext Y606 E638
  have E_655 := E_607.ext E638
  have F656 := F608.ext E638
  have F657 := F609.ext E638
  have F658 := F610.ext E638
  have F659 := F611.ext E638
  have F660 := F612.ext E638
  have F661 := F613.ext E638
  have E_662 := E_614.ext E638
  have F663 := F615.ext E638
  have F664 := F616.ext E638
  have F665 := F617.ext E638
  have F666 := F618.ext E638
  have V_667 := V_619.ext E638
  have VL668 := LAr_ext VL620 E638
  have E_669 := E_621.ext E638
  have VL670 := LAr_ext VL622 E638
  have V_671 := V_623.ext E638
  have E_672 := E_624.ext E638
  have F673 := F625.ext E638
  have F674 := F626.ext E638
  have F675 := F627.ext E638
  have F676 := F628.ext E638
  have E_677 := E_629.ext E638
  have E_678 := E_630.ext E638
  have V_679 := V_631.ext E638
  have VL680 := LAr_ext VL632 E638
  have VL681 := LAr_ext VL633 E638
  have V_682 := V_634.ext E638
  have V_683 := V_635.ext E638
  have F684 := F636.ext E638
  have VL685 : LAr Z h638 ad638 ((e0 + e1 + e2 + 63) / 64) (fun _ => (0 : Int64)) := LAr_new A638 hW169.2.2.2.2.2.2.2.1
  obtain ⟨T686, h686, X686, e686, W686, st686⟩ := putF X638 hx hZ hown (host := "") (Or.inl (ww hw 61 rfl)) Via.refl e638 F660 E_655 (Or.inl (ww hw 62 rfl)) (ww hw 3 rfl) (ty := (.array .long)) (by decide) rfl rfl (g := (mkF m 205 #[.val (.ref aP), .val (.ref aV), .val (.ref ad2), .val (.ref ad131), .val (.int (2 : Int32)), .val (.int (0 : Int32)), .val (.ref c198), .val (.ref ad238), .val (.ref ad282), .val (.int (2 : Int32))] [(.ref ad638), (.ref aP)])) rfl rfl (hb hby d11_205)
  refine Go.st st686 ?_
  have O687 := O652.wr W686 gP
  have V_688 := V_653.other W686 (Ne.symm (Exa.neArv E_655 V_653 (ww hw 3 rfl)))
  have Y689 := Low_wr Y654 W686 (Nat.le_refl _)
  have E_690 := E_655.wr W686
  have F691 := F656.other W686 (Or.inr (slot_ne (Or.inr (ww hw 35 rfl)) (Or.inl (ww hw 62 rfl)) (by decide) (t := .int) (t' := (.array .long)) (by decide) (by decide)))
  have F692 := F657.other W686 (Or.inr (slot_ne (Or.inr (ww hw 37 rfl)) (Or.inl (ww hw 62 rfl)) (by decide) (t := .int) (t' := (.array .long)) (by decide) (by decide)))
  have F693 := F658.other W686 (Or.inr (slot_ne (Or.inl (ww hw 14 rfl)) (Or.inl (ww hw 62 rfl)) (by decide) (t := (.array (.array .long))) (t' := (.array .long)) (by decide) (by decide)))
  have F694 := F659.other W686 (Or.inr (slot_ne (Or.inl (ww hw 18 rfl)) (Or.inl (ww hw 62 rfl)) (by decide) (t := (.array (.object "com/example/traza/traza/PackedRows$Layout"))) (t' := (.array .long)) (by decide) (by decide)))
  have F695 := F661.other W686 (Or.inr (slot_ne (Or.inl (ww hw 69 rfl)) (Or.inl (ww hw 62 rfl)) (by decide) (t := .int) (t' := (.array .long)) (by decide) (by decide)))
  have E_696 := E_662.wr W686
  have F697 := F663.other W686 (Or.inl (Exa.ne E_662 E_655 (by decide)))
  have F698 := F664.other W686 (Or.inl (Exa.ne E_662 E_655 (by decide)))
  have F699 := F665.other W686 (Or.inl (Exa.ne E_662 E_655 (by decide)))
  have F700 := F666.other W686 (Or.inl (Exa.ne E_662 E_655 (by decide)))
  have V_701 := V_667.other W686 (Ne.symm (Exa.neArv E_655 V_667 (ww hw 3 rfl)))
  have VL702 := LAr_other VL668 W686 (LAr_exa VL668 E_655 (ww hw 3 rfl))
  have E_703 := E_669.wr W686
  have VL704 := LAr_other VL670 W686 (LAr_exa VL670 E_655 (ww hw 3 rfl))
  have V_705 := V_671.other W686 (Ne.symm ne4)
  have E_706 := E_672.wr W686
  have F707 := F673.other W686 (Or.inl (Ne.symm ne133))
  have F708 := F674.other W686 (Or.inl (Ne.symm ne133))
  have F709 := F675.other W686 (Or.inl (Ne.symm ne133))
  have F710 := F676.other W686 (Or.inl (Ne.symm ne133))
  have E_711 := E_677.wr W686
  have E_712 := E_678.wr W686
  have V_713 := V_679.other W686 (Ne.symm ne240)
  have VL714 := LAr_other VL680 W686 (Ne.symm ne284)
  have VL715 := LAr_other VL681 W686 (Ne.symm ne228)
  have V_716 := V_682.other W686 (Ne.symm (Exa.neArv E_655 V_682 (ww hw 3 rfl)))
  have V_717 := V_683.other W686 (Ne.symm (Exa.neArv E_655 V_683 (ww hw 3 rfl)))
  have F718 := F684.other W686 (Or.inr (slot_ne (Or.inl (ww hw 58 rfl)) (Or.inl (ww hw 62 rfl)) (by decide) (t := (.object "com/example/traza/traza/PackedRows$Layout")) (t' := (.array .long)) (by decide) (by decide)))
  have VL719 := LAr_other VL685 W686 (Ne.symm ne640)
  have E_720 := B638.wr W686
  have F721 : Fld Z h686 aP "com/example/traza/traza/PackedRows" "bits" "[J" (.ref ad638) := F660.same W686
  have N686 := Fr.snoc X686 N603 gP
  show Go p e below _ (T686.setTop (mkF m 208 #[.val (.ref aP), .val (.ref aV), .val (.ref ad2), .val (.ref ad131), .val (.int (2 : Int32)), .val (.int (0 : Int32)), .val (.ref c198), .val (.ref ad238), .val (.ref ad282), .val (.int (2 : Int32))] []))
  have hFF : ∀ v ∈ [(v0_0, v0_1, v0_2), (v1_0, v1_1, v1_2)], own_fits e0 e1 e2 v := fun v hv => fits_up (r_hF v hv) hl0 hl1 hl2
  exact goRetV X686 hx hlk hret e686 (hb hby d11_208) (by decide) (by decide) ⟨rfl, N686, Y689, V_688, ad131, ad2, aK, aY, ad638, c198, k2, kK, kY, m41, m73, m105, rb169, wd169, cw169, e0, e1, e2, f499, (fun _ => (0 : Int64)), (.ref c198), (.ref ad131), ⟨E_690, F691, F692, F693, F694, F718, F721, F695, E_706, F707, F708, F709, F710, V_705, V_716, V_717, r_oK, r_oY, VL719, hW169, (Nat.le_of_lt lne133), (Nat.le_of_lt lne4), r_pK, r_pY, (Nat.le_of_lt lne640), hFF, (fun _ => ⟨rfl, rfl, E_711, VL715, hR532, ne647, pc198⟩), (fun q => absurd q (by decide))⟩, ⟨hf0, hf1, hf2⟩⟩
set_option maxRecDepth 65536 in
set_option maxHeartbeats 40000000 in
theorem rm_add2 (l : Launch) (Z : State) (a0 : Array Value) (hw : ∀ d ∈ tables_1, d.before a0 Z = true) (ws : List Jvm.Cond) (aP aV : Addr) (kV : ClassId) (p0 p1 p2 : Int32) (v0_0 v0_1 v0_2 : Int32) (v1_0 v1_1 v1_2 : Int32) (aL : Addr) (aw : Addr) (aK : Addr) (aY : Addr) (aB : Addr) (aC : Addr) (kw : ClassId) (kK : ClassId) (kY : ClassId) (w0 : Int32) (w1 : Int32) (w2 : Int32) (rb : Int32) (wd : Int32) (cw : Int32) (b0 : Nat) (b1 : Nat) (b2 : Nat) (f : Nat → Int64) (g : Nat → Int64) (xK : Value) (xY : Value) (h0 : Heap) (n0 : Nat) (O0 : Old Z n0 h0) (HP : PR Z h0 aP (2 : Int32) [(v0_0, v0_1, v0_2), (v1_0, v1_1, v1_2)] aL aw aK aY aB aC kw kK kY w0 w1 w2 rb wd cw b0 b1 b2 f g xK xY) (gP : n0 ≤ aP) (vV : Arv Z h0 aV kV .int (3 : Int32) [(.int p0), (.int p1), (.int p2)] (.int (0 : Int32))) (hp0 : ¬ p0 < 0) (hp1 : ¬ p1 < 0) (hp2 : ¬ p2 < 0) :
    Ctr l (⟨"com/example/traza/traza/PackedRows", "add", "([I)I"⟩ : MethodName) prog_27_method_4_code 3 (some .int) ws ({ frames := 3, cells := 6, slots := 5966, locals := 60 } : Room) #[(.ref aP), (.ref aV)] Z h0 (fun v h L => v = some (.int (2 : Int32)) ∧ Fr n0 L ∧ Low aP h0 h ∧ ∃ (aL' : Addr) (aw' : Addr) (aK' : Addr) (aY' : Addr) (aB' : Addr) (aC' : Addr) (kw' : ClassId) (kK' : ClassId) (kY' : ClassId) (w0' : Int32) (w1' : Int32) (w2' : Int32) (rb' : Int32) (wd' : Int32) (cw' : Int32) (b0' : Nat) (b1' : Nat) (b2' : Nat) (f' : Nat → Int64) (g' : Nat → Int64) (xK' : Value) (xY' : Value), PR Z h aP (3 : Int32) [(v0_0, v0_1, v0_2), (v1_0, v1_1, v1_2), (p0, p1, p2)] aL' aw' aK' aY' aB' aC' kw' kK' kY' w0' w1' w2' rb' wd' cw' b0' b1' b2' f' g' xK' xY') := by
  have ef : ∀ m : MethodId, entryFrame m #[(.ref aP), (.ref aV)] 3 = mkF m 0 #[.val (.ref aP), .val (.ref aV), .unset] [] := fun m => by first | (simp [entryFrame, mkF, argsToLocals, Value.category]; done) | rfl
  refine Ctr.of (plainFor_of_name pn_9) ?_
  intro p e s m below meth c s₁ hx hZ hby hml hown0 hnm hret hlk X0 e0
  have hown : s.vm.findClass "com/example/traza/traza/PackedRows" = some m.cls := hown0
  have N0 := Fr.nil n0
  refine Go.st (fun t k => castTop (ef m) k) ?_
  obtain ⟨r_eP, r_f_chunkShift, r_f_chunkMask, r_f_chunks, r_f_layouts, r_f_layout, r_f_bits, r_f_size, r_eL, r_l_widths, r_l_rowBits, r_l_words, r_l_chunkWords, r_vw, r_vK, r_vY, r_oK, r_oY, r_vB, r_hW, r_pL, r_pw, r_pK, r_pY, r_pB, r_hF, r_full, r_none⟩ := HP
  obtain ⟨rfl, rfl, r_eC, r_vC, r_hR, r_ne, r_pC⟩ := r_full (by decide)
  show Go p e below _ (s₁.setTop (mkF m 0 #[.val (.ref aP), .val (.ref aV), .unset] []))
  refine Go.st (fun _ => XS.aloadN X0.here hx rfl (hb hby d9_0) rfl rfl) ?_
  obtain ⟨T1, X1, e1, st1⟩ := getF X0 hx hZ hown (host := "") (Or.inl (ww hw 68 rfl)) Via.refl e0 r_f_size (g := (mkF m 1 #[.val (.ref aP), .val (.ref aV), .unset] [(.ref aP)])) rfl rfl (hb hby d9_1)
  refine Go.st st1 ?_
  refine Go.st (fun _ => X1.ldcInt hx hown (mvT hZ (ww hw 70 rfl)) (g := (mkF m 4 #[.val (.ref aP), .val (.ref aV), .unset] [(.int (2 : Int32))])) rfl (hb hby d9_4) _) ?_
  refine Go.st (fun _ => XS.icmpYes X1.here hx rfl (pc0 := 6) (pc' := 26) rfl (hb hby d9_6) rfl (feq (by decide : ¬ ((2 : Int32) = (2147483647 : Int32)))).2 (by decide) (by decide)) ?_
  show Go p e below _ (T1.setTop (mkF m 26 #[.val (.ref aP), .val (.ref aV), .unset] []))
  refine Go.st (fun _ => XS.aloadN X1.here hx rfl (hb hby d9_26) rfl rfl) ?_
  obtain ⟨T2, X2, e2, st2⟩ := getF X1 hx hZ hown (host := "") (Or.inl (ww hw 57 rfl)) Via.refl e1 r_f_layout (g := (mkF m 27 #[.val (.ref aP), .val (.ref aV), .unset] [(.ref aP)])) rfl rfl (hb hby d9_27)
  refine Go.st st2 ?_
  refine Go.st (fun _ => XS.aloadN X2.here hx rfl (hb hby d9_30) rfl rfl) ?_
  refine Go.st (fun _ => XS.aloadN X2.here hx rfl (hb hby d9_31) rfl rfl) ?_
  show Go p e below _ (T2.setTop (mkF m 32 #[.val (.ref aP), .val (.ref aV), .unset] [(.ref aP), (.ref aV), (.ref aL)]))
  obtain ⟨T3, X3, e3, st3⟩ := getF X2 hx hZ hown (host := "") (Or.inl (ww hw 61 rfl)) Via.refl e2 r_f_bits (g := (mkF m 32 #[.val (.ref aP), .val (.ref aV), .unset] [(.ref aP), (.ref aV), (.ref aL)])) rfl rfl (hb hby d9_32)
  refine Go.st st3 ?_
  refine goVirt X3 hx hZ (y := (⟨"com/example/traza/traza/PackedRows$Layout", "encode", "([I[J)Z"⟩ : MethodName)) (z := (⟨"com/example/traza/traza/PackedRows$Layout", "encode", "([I[J)Z"⟩ : MethodName)) hown (ww hw 71 rfl) (ww hw 72 rfl) (notFace_of_selects (args := #[]) (mvT hZ (ww hw 74 rfl))) (ww hw 74 rfl) (ww hw 73 rfl) (ww hw 39 rfl) (ww hw 75 rfl) (by decide) (a := aL) (argsL := [(.ref aV), (.ref aB)]) (rest := []) e3 r_eL (rm_enc l Z a0 hw [] aL aw aV aB kw kV w0 w1 w2 rb wd cw p0 p1 p2 b0 b1 b2 g h0 n0 O0 r_eL r_l_widths r_vw vV r_vB (Nat.le_trans gP r_pB) r_hW hp0 hp1 hp2) 0 (by decide) (by decide) (by decide) (by decide) (mkF m 35 #[.val (.ref aP), .val (.ref aV), .unset] [(.ref aB), (.ref aV), (.ref aL)]) rfl (by rw [hml]; rfl) (lenOf pd_5 rfl) rfl (hb hby d9_35) (Nat.le_of_eq rfl) ?_
  intro v4 T4 L4 X4 hQ4
  obtain ⟨t4, rfl, M4, K4, g4, VB4, hE4⟩ := hQ4
  have N4 := Fr.app N0 M4
  have O5 := O0.keep K4 (allS (Nat.le_trans gP r_pB) all0)
  have V_6 := vV.keep K4 (ninS (Ne.symm (LAr_arv r_vB vV (fun q => nomatch q))) nin0)
  have Y7 := Low_keep (Low_refl (P := aP) (h := h0)) K4 (allS r_pB all0)
  have E_8 := r_eP.keep K4
  have F9 := r_f_chunkShift.keep K4 (ninS (Ne.symm (LAr_exa r_vB r_eP (ww hw 3 rfl))) nin0)
  have F10 := r_f_chunkMask.keep K4 (ninS (Ne.symm (LAr_exa r_vB r_eP (ww hw 3 rfl))) nin0)
  have F11 := r_f_chunks.keep K4 (ninS (Ne.symm (LAr_exa r_vB r_eP (ww hw 3 rfl))) nin0)
  have F12 := r_f_layouts.keep K4 (ninS (Ne.symm (LAr_exa r_vB r_eP (ww hw 3 rfl))) nin0)
  have F13 := r_f_layout.keep K4 (ninS (Ne.symm (LAr_exa r_vB r_eP (ww hw 3 rfl))) nin0)
  have F14 := r_f_bits.keep K4 (ninS (Ne.symm (LAr_exa r_vB r_eP (ww hw 3 rfl))) nin0)
  have F15 := r_f_size.keep K4 (ninS (Ne.symm (LAr_exa r_vB r_eP (ww hw 3 rfl))) nin0)
  have E_16 := r_eL.keep K4
  have F17 := r_l_widths.keep K4 (ninS (Ne.symm (LAr_exa r_vB r_eL (ww hw 38 rfl))) nin0)
  have F18 := r_l_rowBits.keep K4 (ninS (Ne.symm (LAr_exa r_vB r_eL (ww hw 38 rfl))) nin0)
  have F19 := r_l_words.keep K4 (ninS (Ne.symm (LAr_exa r_vB r_eL (ww hw 38 rfl))) nin0)
  have F20 := r_l_chunkWords.keep K4 (ninS (Ne.symm (LAr_exa r_vB r_eL (ww hw 38 rfl))) nin0)
  have V_21 := r_vw.keep K4 (ninS (Ne.symm (LAr_arv r_vB r_vw (fun q => nomatch q))) nin0)
  have V_22 := r_vK.keep K4 (ninS (Ne.symm (LAr_arv r_vB r_vK (fun q => nomatch q))) nin0)
  have V_23 := r_vY.keep K4 (ninS (Ne.symm (LAr_arv r_vB r_vY (fun q => nomatch q))) nin0)
  have E_24 := r_eC.keep K4
  have VL25 := LAr_keep r_vC K4 (ninS r_ne nin0)
  show Go p e below _ (T4.setTop (mkF m 38 #[.val (.ref aP), .val (.ref aV), .unset] [(.int t4)]))
  by_cases hc26 : t4 = (0 : Int32)
  · refine Go.st (fun _ => XS.ifNo X4.here hx rfl (hb hby d9_38) rfl ((if0 _ _).trans (teq hc26).2)) ?_
    refine Go.st (fun _ => XS.aloadN X4.here hx rfl (hb hby d9_41) rfl rfl) ?_
    refine Go.st (fun _ => XS.aloadN X4.here hx rfl (hb hby d9_42) rfl rfl) ?_
    refine goPriv X4 hx hZ (y := (⟨"com/example/traza/traza/PackedRows", "widen", "([I)V"⟩ : MethodName)) hown (ww hw 76 rfl) (ww hw 77 rfl) (ww hw 78 rfl) (ww hw 3 rfl) (ww hw 4 rfl) (ww hw 79 rfl) (by decide) (a := aP) (argsL := [(.ref aV)]) (rest := []) rfl E_8 (rm_wid2 l Z a0 hw [] aP aV kV p0 p1 p2 v0_0 v0_1 v0_2 v1_0 v1_1 v1_2 aL aw aK aY aB aC kw kK kY w0 w1 w2 rb wd cw b0 b1 b2 f g4 (.ref aC) (.ref aL) T4.heap n0 O5 ⟨E_8, F9, F10, F11, F12, F13, F14, F15, E_16, F17, F18, F19, F20, V_21, V_22, V_23, r_oK, r_oY, VB4, r_hW, r_pL, r_pw, r_pK, r_pY, r_pB, r_hF, (fun _ => ⟨rfl, rfl, E_24, VL25, r_hR, r_ne, r_pC⟩), (fun q => absurd q (by decide))⟩ gP V_6 hp0 hp1 hp2) 0 (by decide) (by decide) (by decide) (by decide) (mkF m 43 #[.val (.ref aP), .val (.ref aV), .unset] [(.ref aV), (.ref aP)]) rfl (by rw [hml]; rfl) (lenOf pd_6 rfl) rfl (hb hby d9_43) (Nat.le_of_eq rfl) ?_
    intro v27 T27 L27 X27 hQ27
    obtain ⟨rfl, M27, ⟨ws27, K27, hws27⟩, VV27, aL_27, aw_27, aK_27, aY_27, aB_27, aC_27, kw_27, kK_27, kY_27, w0_27, w1_27, w2_27, rb_27, wd_27, cw_27, b0_27, b1_27, b2_27, f_27, g_27, xK_27, xY_27, R27, FT27⟩ := hQ27
    have N27 := Fr.app N4 M27
    have O28 := O5.keep K27 (fun x hx => Nat.le_trans gP (hws27 x hx))
    have Y29 := Low_keep Y7 K27 hws27
    have E_30 := E_8.keep K27
    have E_31 := E_16.keep K27
    have E_32 := E_24.keep K27
    obtain ⟨r_eP_27, r_f_chunkShift_27, r_f_chunkMask_27, r_f_chunks_27, r_f_layouts_27, r_f_layout_27, r_f_bits_27, r_f_size_27, r_eL_27, r_l_widths_27, r_l_rowBits_27, r_l_words_27, r_l_chunkWords_27, r_vw_27, r_vK_27, r_vY_27, r_oK_27, r_oY_27, r_vB_27, r_hW_27, r_pL_27, r_pw_27, r_pK_27, r_pY_27, r_pB_27, r_hF_27, r_full_27, r_none_27⟩ := R27
    obtain ⟨rfl, rfl, r_eC_27, r_vC_27, r_hR_27, r_ne_27, r_pC_27⟩ := r_full_27 (by decide)
    show Go p e below _ (T27.setTop (mkF m 46 #[.val (.ref aP), .val (.ref aV), .unset] []))
    refine Go.st (fun _ => XS.aloadN X27.here hx rfl (hb hby d9_46) rfl rfl) ?_
    obtain ⟨T33, X33, e33, st33⟩ := getF X27 hx hZ hown (host := "") (Or.inl (ww hw 57 rfl)) Via.refl rfl r_f_layout_27 (g := (mkF m 47 #[.val (.ref aP), .val (.ref aV), .unset] [(.ref aP)])) rfl rfl (hb hby d9_47)
    refine Go.st st33 ?_
    refine Go.st (fun _ => XS.aloadN X33.here hx rfl (hb hby d9_50) rfl rfl) ?_
    refine Go.st (fun _ => XS.aloadN X33.here hx rfl (hb hby d9_51) rfl rfl) ?_
    show Go p e below _ (T33.setTop (mkF m 52 #[.val (.ref aP), .val (.ref aV), .unset] [(.ref aP), (.ref aV), (.ref aL_27)]))
    obtain ⟨T34, X34, e34, st34⟩ := getF X33 hx hZ hown (host := "") (Or.inl (ww hw 61 rfl)) Via.refl e33 r_f_bits_27 (g := (mkF m 52 #[.val (.ref aP), .val (.ref aV), .unset] [(.ref aP), (.ref aV), (.ref aL_27)])) rfl rfl (hb hby d9_52)
    refine Go.st st34 ?_
    refine goVirt X34 hx hZ (y := (⟨"com/example/traza/traza/PackedRows$Layout", "encode", "([I[J)Z"⟩ : MethodName)) (z := (⟨"com/example/traza/traza/PackedRows$Layout", "encode", "([I[J)Z"⟩ : MethodName)) hown (ww hw 71 rfl) (ww hw 72 rfl) (notFace_of_selects (args := #[]) (mvT hZ (ww hw 74 rfl))) (ww hw 74 rfl) (ww hw 73 rfl) (ww hw 39 rfl) (ww hw 75 rfl) (by decide) (a := aL_27) (argsL := [(.ref aV), (.ref aB_27)]) (rest := []) e34 r_eL_27 (rm_enc l Z a0 hw [] aL_27 aw_27 aV aB_27 kw_27 kV w0_27 w1_27 w2_27 rb_27 wd_27 cw_27 p0 p1 p2 b0_27 b1_27 b2_27 g_27 T27.heap n0 O28 r_eL_27 r_l_widths_27 r_vw_27 VV27 r_vB_27 (Nat.le_trans gP r_pB_27) r_hW_27 hp0 hp1 hp2) 0 (by decide) (by decide) (by decide) (by decide) (mkF m 55 #[.val (.ref aP), .val (.ref aV), .unset] [(.ref aB_27), (.ref aV), (.ref aL_27)]) rfl (by rw [hml]; rfl) (lenOf pd_5 rfl) rfl (hb hby d9_55) (Nat.le_of_eq rfl) ?_
    intro v35 T35 L35 X35 hQ35
    obtain ⟨t35, rfl, M35, K35, g35, VB35, hE35⟩ := hQ35
    have N35 := Fr.app N27 M35
    have O36 := O28.keep K35 (allS (Nat.le_trans gP r_pB_27) all0)
    have Y37 := Low_keep Y29 K35 (allS r_pB_27 all0)
    have V_38 := VV27.keep K35 (ninS (Ne.symm (LAr_arv r_vB_27 VV27 (fun q => nomatch q))) nin0)
    have E_39 := r_eP_27.keep K35
    have F40 := r_f_chunkShift_27.keep K35 (ninS (Ne.symm (LAr_exa r_vB_27 r_eP_27 (ww hw 3 rfl))) nin0)
    have F41 := r_f_chunkMask_27.keep K35 (ninS (Ne.symm (LAr_exa r_vB_27 r_eP_27 (ww hw 3 rfl))) nin0)
    have F42 := r_f_chunks_27.keep K35 (ninS (Ne.symm (LAr_exa r_vB_27 r_eP_27 (ww hw 3 rfl))) nin0)
    have F43 := r_f_layouts_27.keep K35 (ninS (Ne.symm (LAr_exa r_vB_27 r_eP_27 (ww hw 3 rfl))) nin0)
    have F44 := r_f_layout_27.keep K35 (ninS (Ne.symm (LAr_exa r_vB_27 r_eP_27 (ww hw 3 rfl))) nin0)
    have F45 := r_f_bits_27.keep K35 (ninS (Ne.symm (LAr_exa r_vB_27 r_eP_27 (ww hw 3 rfl))) nin0)
    have F46 := r_f_size_27.keep K35 (ninS (Ne.symm (LAr_exa r_vB_27 r_eP_27 (ww hw 3 rfl))) nin0)
    have E_47 := r_eL_27.keep K35
    have F48 := r_l_widths_27.keep K35 (ninS (Ne.symm (LAr_exa r_vB_27 r_eL_27 (ww hw 38 rfl))) nin0)
    have F49 := r_l_rowBits_27.keep K35 (ninS (Ne.symm (LAr_exa r_vB_27 r_eL_27 (ww hw 38 rfl))) nin0)
    have F50 := r_l_words_27.keep K35 (ninS (Ne.symm (LAr_exa r_vB_27 r_eL_27 (ww hw 38 rfl))) nin0)
    have F51 := r_l_chunkWords_27.keep K35 (ninS (Ne.symm (LAr_exa r_vB_27 r_eL_27 (ww hw 38 rfl))) nin0)
    have V_52 := r_vw_27.keep K35 (ninS (Ne.symm (LAr_arv r_vB_27 r_vw_27 (fun q => nomatch q))) nin0)
    have V_53 := r_vK_27.keep K35 (ninS (Ne.symm (LAr_arv r_vB_27 r_vK_27 (fun q => nomatch q))) nin0)
    have V_54 := r_vY_27.keep K35 (ninS (Ne.symm (LAr_arv r_vB_27 r_vY_27 (fun q => nomatch q))) nin0)
    have E_55 := r_eC_27.keep K35
    have VL56 := LAr_keep r_vC_27 K35 (ninS r_ne_27 nin0)
    have he35 := (hE35.resolve_left (fun q => q.2 FT27)).2
    show Go p e below _ (T35.setTop (mkF m 58 #[.val (.ref aP), .val (.ref aV), .unset] [(.int t35)]))
    refine Go.st (fun _ => XS.pop X35.here hx rfl (hb hby d9_58) rfl rfl) ?_
    refine Go.st (fun _ => XS.aloadN X35.here hx rfl (hb hby d9_59) rfl rfl) ?_
    obtain ⟨T57, X57, e57, st57⟩ := getF X35 hx hZ hown (host := "") (Or.inl (ww hw 68 rfl)) Via.refl rfl F46 (g := (mkF m 60 #[.val (.ref aP), .val (.ref aV), .unset] [(.ref aP)])) rfl rfl (hb hby d9_60)
    refine Go.st st57 ?_
    refine Go.st (fun _ => XS.aloadN X57.here hx rfl (hb hby d9_63) rfl rfl) ?_
    show Go p e below _ (T57.setTop (mkF m 64 #[.val (.ref aP), .val (.ref aV), .unset] [(.ref aP), (.int (2 : Int32))]))
    obtain ⟨T58, X58, e58, st58⟩ := getF X57 hx hZ hown (host := "") (Or.inl (ww hw 34 rfl)) Via.refl e57 F40 (g := (mkF m 64 #[.val (.ref aP), .val (.ref aV), .unset] [(.ref aP), (.int (2 : Int32))])) rfl rfl (hb hby d9_64)
    refine Go.st st58 ?_
    show Go p e below _ (T58.setTop (mkF m 67 #[.val (.ref aP), .val (.ref aV), .unset] [(.int (12 : Int32)), (.int (2 : Int32))]))
    refine Go.st (fun _ => XS.iushr X58.here hx rfl (hb hby d9_67) rfl) ?_
    rw [show (((2 : Int32).toUInt32 >>> ((12 : Int32) &&& 31).toUInt32).toInt32) = (0 : Int32) from by decide]
    show Go p e below _ (T58.setTop (mkF m 68 #[.val (.ref aP), .val (.ref aV), .unset] [(.int (0 : Int32))]))
    refine Go.st (fun _ => XS.istoreN X58.here hx rfl (hb hby d9_68) rfl (l' := #[.val (.ref aP), .val (.ref aV), .val (.int (0 : Int32))]) rfl) ?_
    refine Go.st (fun _ => XS.aloadN X58.here hx rfl (hb hby d9_69) rfl rfl) ?_
    obtain ⟨T59, X59, e59, st59⟩ := getF X58 hx hZ hown (host := "") (Or.inl (ww hw 68 rfl)) Via.refl e58 F46 (g := (mkF m 70 #[.val (.ref aP), .val (.ref aV), .val (.int (0 : Int32))] [(.ref aP)])) rfl rfl (hb hby d9_70)
    refine Go.st st59 ?_
    refine Go.st (fun _ => XS.aloadN X59.here hx rfl (hb hby d9_73) rfl rfl) ?_
    show Go p e below _ (T59.setTop (mkF m 74 #[.val (.ref aP), .val (.ref aV), .val (.int (0 : Int32))] [(.ref aP), (.int (2 : Int32))]))
    obtain ⟨T60, X60, e60, st60⟩ := getF X59 hx hZ hown (host := "") (Or.inl (ww hw 36 rfl)) Via.refl e59 F41 (g := (mkF m 74 #[.val (.ref aP), .val (.ref aV), .val (.int (0 : Int32))] [(.ref aP), (.int (2 : Int32))])) rfl rfl (hb hby d9_74)
    refine Go.st st60 ?_
    refine Go.st (fun _ => XS.iand X60.here hx rfl (hb hby d9_77) rfl) ?_
    refine Go.st (fun _ => XS.ifYes X60.here hx rfl (pc0 := 78) (pc' := 155) rfl (hb hby d9_78) rfl ((if0 _ _).trans (feq (by decide : ¬ ((2 : Int32) = (0 : Int32)))).2) (by decide) (by decide)) ?_
    refine Go.st (fun _ => XS.aloadN X60.here hx rfl (hb hby d9_155) rfl rfl) ?_
    show Go p e below _ (T60.setTop (mkF m 156 #[.val (.ref aP), .val (.ref aV), .val (.int (0 : Int32))] [(.ref aP)]))
    obtain ⟨T61, X61, e61, st61⟩ := getF X60 hx hZ hown (host := "") (Or.inl (ww hw 57 rfl)) Via.refl e60 F44 (g := (mkF m 156 #[.val (.ref aP), .val (.ref aV), .val (.int (0 : Int32))] [(.ref aP)])) rfl rfl (hb hby d9_156)
    refine Go.st st61 ?_
    refine Go.st (fun _ => XS.aloadN X61.here hx rfl (hb hby d9_159) rfl rfl) ?_
    obtain ⟨T62, X62, e62, st62⟩ := getF X61 hx hZ hown (host := "") (Or.inl (ww hw 13 rfl)) Via.refl e61 F42 (g := (mkF m 160 #[.val (.ref aP), .val (.ref aV), .val (.int (0 : Int32))] [(.ref aP), (.ref aL_27)])) rfl rfl (hb hby d9_160)
    refine Go.st st62 ?_
    refine Go.st (fun _ => XS.iloadN X62.here hx rfl (hb hby d9_163) rfl) ?_
    show Go p e below _ (T62.setTop (mkF m 164 #[.val (.ref aP), .val (.ref aV), .val (.int (0 : Int32))] [(.int (0 : Int32)), (.ref aK_27), (.ref aL_27)]))
    obtain ⟨cl63, Ar63, qk63, Sz63, Nn63, Ha63, Ga63⟩ := id V_53
    have hin63 : ¬ ((0 : Int32) < 0 ∨ cl63.slots.size ≤ ((0 : Int32) : Int32).toNatClampNeg) := inb_of Sz63 ⟨by decide, by decide⟩
    refine Go.st (fun _ => X62.aaload hx (j := (0 : Int32)) (v := (.ref aC_27)) (by rw [e62]; exact Ar63.1) (State.isArrayOf_alike hZ.alike Ar63.2.1) rfl Ar63.2.2 hin63 (Has.at Ha63 hin63 rfl) (g := (mkF m 164 #[.val (.ref aP), .val (.ref aV), .val (.int (0 : Int32))] [(.int (0 : Int32)), (.ref aK_27), (.ref aL_27)])) rfl rfl (hb hby d9_164) _) ?_
    refine Go.st (fun _ => XS.aloadN X62.here hx rfl (hb hby d9_165) rfl rfl) ?_
    obtain ⟨T64, X64, e64, st64⟩ := getF X62 hx hZ hown (host := "") (Or.inl (ww hw 68 rfl)) Via.refl e62 F46 (g := (mkF m 166 #[.val (.ref aP), .val (.ref aV), .val (.int (0 : Int32))] [(.ref aP), (.ref aC_27), (.ref aL_27)])) rfl rfl (hb hby d9_166)
    refine Go.st st64 ?_
    refine Go.st (fun _ => XS.aloadN X64.here hx rfl (hb hby d9_169) rfl rfl) ?_
    show Go p e below _ (T64.setTop (mkF m 170 #[.val (.ref aP), .val (.ref aV), .val (.int (0 : Int32))] [(.ref aP), (.int (2 : Int32)), (.ref aC_27), (.ref aL_27)]))
    obtain ⟨T65, X65, e65, st65⟩ := getF X64 hx hZ hown (host := "") (Or.inl (ww hw 36 rfl)) Via.refl e64 F41 (g := (mkF m 170 #[.val (.ref aP), .val (.ref aV), .val (.int (0 : Int32))] [(.ref aP), (.int (2 : Int32)), (.ref aC_27), (.ref aL_27)])) rfl rfl (hb hby d9_170)
    refine Go.st st65 ?_
    refine Go.st (fun _ => XS.iand X65.here hx rfl (hb hby d9_173) rfl) ?_
    refine Go.st (fun _ => XS.aloadN X65.here hx rfl (hb hby d9_174) rfl rfl) ?_
    obtain ⟨T66, X66, e66, st66⟩ := getF X65 hx hZ hown (host := "") (Or.inl (ww hw 61 rfl)) Via.refl e65 F45 (g := (mkF m 175 #[.val (.ref aP), .val (.ref aV), .val (.int (0 : Int32))] [(.ref aP), (.int (2 : Int32)), (.ref aC_27), (.ref aL_27)])) rfl rfl (hb hby d9_175)
    refine Go.st st66 ?_
    show Go p e below _ (T66.setTop (mkF m 178 #[.val (.ref aP), .val (.ref aV), .val (.int (0 : Int32))] [(.ref aB_27), (.int (2 : Int32)), (.ref aC_27), (.ref aL_27)]))
    refine goVirt X66 hx hZ (y := (⟨"com/example/traza/traza/PackedRows$Layout", "put", "([JI[J)V"⟩ : MethodName)) (z := (⟨"com/example/traza/traza/PackedRows$Layout", "put", "([JI[J)V"⟩ : MethodName)) hown (ww hw 88 rfl) (ww hw 89 rfl) (notFace_of_selects (args := #[]) (mvT hZ (ww hw 91 rfl))) (ww hw 91 rfl) (ww hw 90 rfl) (ww hw 39 rfl) (ww hw 92 rfl) (by decide) (a := aL_27) (argsL := [(.ref aC_27), (.int (2 : Int32)), (.ref aB_27)]) (rest := []) e66 E_47 (rm_put l Z a0 hw [] aL_27 aC_27 aB_27 (2 : Int32) 2 w0_27 w1_27 w2_27 rb_27 wd_27 cw_27 b0_27 b1_27 b2_27 f_27 g35 T35.heap n0 O36 E_47 F49 F50 VL56 VB35 r_ne_27 (Nat.le_trans gP r_pC_27) r_hW_27 rfl (by decide) (enc_clear he35.2)) 0 (by decide) (by decide) (by decide) (by decide) (mkF m 178 #[.val (.ref aP), .val (.ref aV), .val (.int (0 : Int32))] [(.ref aB_27), (.int (2 : Int32)), (.ref aC_27), (.ref aL_27)]) rfl (by rw [hml]; rfl) (lenOf pd_8 rfl) rfl (hb hby d9_178) (Nat.le_of_eq rfl) ?_
    intro v67 T67 L67 X67 hQ67
    obtain ⟨rfl, M67, K67, f67, VC67, hP67⟩ := hQ67
    have N67 := Fr.app N35 M67
    have O68 := O36.keep K67 (allS (Nat.le_trans gP r_pC_27) all0)
    have Y69 := Low_keep Y37 K67 (allS r_pC_27 all0)
    have V_70 := V_38.keep K67 (ninS (Ne.symm (LAr_arv VL56 V_38 (fun q => nomatch q))) nin0)
    have E_71 := E_39.keep K67
    have F72 := F40.keep K67 (ninS (Ne.symm (LAr_exa VL56 E_39 (ww hw 3 rfl))) nin0)
    have F73 := F41.keep K67 (ninS (Ne.symm (LAr_exa VL56 E_39 (ww hw 3 rfl))) nin0)
    have F74 := F42.keep K67 (ninS (Ne.symm (LAr_exa VL56 E_39 (ww hw 3 rfl))) nin0)
    have F75 := F43.keep K67 (ninS (Ne.symm (LAr_exa VL56 E_39 (ww hw 3 rfl))) nin0)
    have F76 := F44.keep K67 (ninS (Ne.symm (LAr_exa VL56 E_39 (ww hw 3 rfl))) nin0)
    have F77 := F45.keep K67 (ninS (Ne.symm (LAr_exa VL56 E_39 (ww hw 3 rfl))) nin0)
    have F78 := F46.keep K67 (ninS (Ne.symm (LAr_exa VL56 E_39 (ww hw 3 rfl))) nin0)
    have E_79 := E_47.keep K67
    have F80 := F48.keep K67 (ninS (Ne.symm (LAr_exa VL56 E_47 (ww hw 38 rfl))) nin0)
    have F81 := F49.keep K67 (ninS (Ne.symm (LAr_exa VL56 E_47 (ww hw 38 rfl))) nin0)
    have F82 := F50.keep K67 (ninS (Ne.symm (LAr_exa VL56 E_47 (ww hw 38 rfl))) nin0)
    have F83 := F51.keep K67 (ninS (Ne.symm (LAr_exa VL56 E_47 (ww hw 38 rfl))) nin0)
    have V_84 := V_52.keep K67 (ninS (Ne.symm (LAr_arv VL56 V_52 (fun q => nomatch q))) nin0)
    have V_85 := V_53.keep K67 (ninS (Ne.symm (LAr_arv VL56 V_53 (fun q => nomatch q))) nin0)
    have V_86 := V_54.keep K67 (ninS (Ne.symm (LAr_arv VL56 V_54 (fun q => nomatch q))) nin0)
    have E_87 := E_55.keep K67
    have VL88 := LAr_keep VB35 K67 (ninS (Ne.symm r_ne_27) nin0)
    have hR89 := put_rows (rows := [(v0_0, v0_1, v0_2), (v1_0, v1_1, v1_2)]) (r := 2) rfl r_hR_27 he35.2 hP67
    show Go p e below _ (T67.setTop (mkF m 181 #[.val (.ref aP), .val (.ref aV), .val (.int (0 : Int32))] []))
    refine Go.st (fun _ => XS.aloadN X67.here hx rfl (hb hby d9_181) rfl rfl) ?_
    refine Go.st (fun _ => XS.dup X67.here hx rfl (hb hby d9_182) rfl rfl) ?_
    obtain ⟨T90, X90, e90, st90⟩ := getF X67 hx hZ hown (host := "") (Or.inl (ww hw 68 rfl)) Via.refl rfl F78 (g := (mkF m 183 #[.val (.ref aP), .val (.ref aV), .val (.int (0 : Int32))] [(.ref aP), (.ref aP)])) rfl rfl (hb hby d9_183)
    refine Go.st st90 ?_
    refine Go.st (fun _ => XS.dupX1 X90.here hx rfl (hb hby d9_186) rfl rfl rfl) ?_
    show Go p e below _ (T90.setTop (mkF m 187 #[.val (.ref aP), .val (.ref aV), .val (.int (0 : Int32))] [(.int (2 : Int32)), (.ref aP), (.int (2 : Int32))]))
    refine Go.st (fun _ => XS.iconst X90.here hx rfl (hb hby d9_187)) ?_
    refine Go.st (fun _ => XS.iadd X90.here hx rfl (hb hby d9_188) rfl) ?_
    obtain ⟨T91, h91, X91, e91, W91, st91⟩ := putF X90 hx hZ hown (host := "") (Or.inl (ww hw 68 rfl)) Via.refl e90 F78 E_71 (Or.inl (ww hw 69 rfl)) (ww hw 3 rfl) (ty := .int) (by decide) rfl rfl (g := (mkF m 189 #[.val (.ref aP), .val (.ref aV), .val (.int (0 : Int32))] [(.int (3 : Int32)), (.ref aP), (.int (2 : Int32))])) rfl rfl (hb hby d9_189)
    refine Go.st st91 ?_
    have O92 := O68.wr W91 gP
    have Y93 := Low_wr Y69 W91 (Nat.le_refl _)
    have V_94 := V_70.other W91 (Ne.symm (Exa.neArv E_71 V_70 (ww hw 3 rfl)))
    have E_95 := E_71.wr W91
    have F96 := F72.other W91 (Or.inr (slot_ne (Or.inr (ww hw 35 rfl)) (Or.inl (ww hw 69 rfl)) (by decide) (t := .int) (t' := .int) (by decide) (by decide)))
    have F97 := F73.other W91 (Or.inr (slot_ne (Or.inr (ww hw 37 rfl)) (Or.inl (ww hw 69 rfl)) (by decide) (t := .int) (t' := .int) (by decide) (by decide)))
    have F98 := F74.other W91 (Or.inr (slot_ne (Or.inl (ww hw 14 rfl)) (Or.inl (ww hw 69 rfl)) (by decide) (t := (.array (.array .long))) (t' := .int) (by decide) (by decide)))
    have F99 := F75.other W91 (Or.inr (slot_ne (Or.inl (ww hw 18 rfl)) (Or.inl (ww hw 69 rfl)) (by decide) (t := (.array (.object "com/example/traza/traza/PackedRows$Layout"))) (t' := .int) (by decide) (by decide)))
    have F100 := F76.other W91 (Or.inr (slot_ne (Or.inl (ww hw 58 rfl)) (Or.inl (ww hw 69 rfl)) (by decide) (t := (.object "com/example/traza/traza/PackedRows$Layout")) (t' := .int) (by decide) (by decide)))
    have F101 := F77.other W91 (Or.inr (slot_ne (Or.inl (ww hw 62 rfl)) (Or.inl (ww hw 69 rfl)) (by decide) (t := (.array .long)) (t' := .int) (by decide) (by decide)))
    have E_102 := E_79.wr W91
    have F103 := F80.other W91 (Or.inl (Exa.ne E_79 E_71 (by decide)))
    have F104 := F81.other W91 (Or.inl (Exa.ne E_79 E_71 (by decide)))
    have F105 := F82.other W91 (Or.inl (Exa.ne E_79 E_71 (by decide)))
    have F106 := F83.other W91 (Or.inl (Exa.ne E_79 E_71 (by decide)))
    have V_107 := V_84.other W91 (Ne.symm (Exa.neArv E_71 V_84 (ww hw 3 rfl)))
    have V_108 := V_85.other W91 (Ne.symm (Exa.neArv E_71 V_85 (ww hw 3 rfl)))
    have V_109 := V_86.other W91 (Ne.symm (Exa.neArv E_71 V_86 (ww hw 3 rfl)))
    have E_110 := E_87.wr W91
    have VL111 := LAr_other VL88 W91 (LAr_exa VL88 E_71 (ww hw 3 rfl))
    have VL112 := LAr_other VC67 W91 (LAr_exa VC67 E_71 (ww hw 3 rfl))
    have F113 : Fld Z h91 aP "com/example/traza/traza/PackedRows" "size" "I" (.int (3 : Int32)) := F78.same W91
    have N91 := Fr.snoc X91 N67 gP
    show Go p e below _ (T91.setTop (mkF m 192 #[.val (.ref aP), .val (.ref aV), .val (.int (0 : Int32))] [(.int (2 : Int32))]))
    have hFF : ∀ v ∈ [(v0_0, v0_1, v0_2), (v1_0, v1_1, v1_2), (p0, p1, p2)], own_fits b0_27 b1_27 b2_27 v := fun v hv => (List.mem_append.mp (show v ∈ [(v0_0, v0_1, v0_2), (v1_0, v1_1, v1_2)] ++ [(p0, p1, p2)] from hv)).elim (r_hF_27 v) (fun q => by cases List.mem_singleton.mp q; exact FT27)
    exact goRetI X91 hx hlk hret e91 (hb hby d9_192) (by decide) (by decide) ⟨rfl, N91, Y93, aL_27, aw_27, aK_27, aY_27, aB_27, aC_27, kw_27, kK_27, kY_27, w0_27, w1_27, w2_27, rb_27, wd_27, cw_27, b0_27, b1_27, b2_27, f67, g35, (.ref aC_27), (.ref aL_27), ⟨E_95, F96, F97, F98, F99, F100, F101, F113, E_102, F103, F104, F105, F106, V_107, V_108, V_109, r_oK_27, r_oY_27, VL111, r_hW_27, r_pL_27, r_pw_27, r_pK_27, r_pY_27, r_pB_27, hFF, (fun _ => ⟨rfl, rfl, E_110, VL112, hR89, r_ne_27, r_pC_27⟩), (fun q => absurd q (by decide))⟩⟩
  · refine Go.st (fun _ => XS.ifYes X4.here hx rfl (pc0 := 38) (pc' := 59) rfl (hb hby d9_38) rfl ((if0 _ _).trans (feq hc26).2) (by decide) (by decide)) ?_
    have he4 := (hE4.resolve_left (fun q => hc26 q.1)).2
    show Go p e below _ (T4.setTop (mkF m 59 #[.val (.ref aP), .val (.ref aV), .unset] []))
    refine Go.st (fun _ => XS.aloadN X4.here hx rfl (hb hby d9_59) rfl rfl) ?_
    obtain ⟨T114, X114, e114, st114⟩ := getF X4 hx hZ hown (host := "") (Or.inl (ww hw 68 rfl)) Via.refl rfl F15 (g := (mkF m 60 #[.val (.ref aP), .val (.ref aV), .unset] [(.ref aP)])) rfl rfl (hb hby d9_60)
    refine Go.st st114 ?_
    refine Go.st (fun _ => XS.aloadN X114.here hx rfl (hb hby d9_63) rfl rfl) ?_
    obtain ⟨T115, X115, e115, st115⟩ := getF X114 hx hZ hown (host := "") (Or.inl (ww hw 34 rfl)) Via.refl e114 F9 (g := (mkF m 64 #[.val (.ref aP), .val (.ref aV), .unset] [(.ref aP), (.int (2 : Int32))])) rfl rfl (hb hby d9_64)
    refine Go.st st115 ?_
    show Go p e below _ (T115.setTop (mkF m 67 #[.val (.ref aP), .val (.ref aV), .unset] [(.int (12 : Int32)), (.int (2 : Int32))]))
    refine Go.st (fun _ => XS.iushr X115.here hx rfl (hb hby d9_67) rfl) ?_
    rw [show (((2 : Int32).toUInt32 >>> ((12 : Int32) &&& 31).toUInt32).toInt32) = (0 : Int32) from by decide]
    show Go p e below _ (T115.setTop (mkF m 68 #[.val (.ref aP), .val (.ref aV), .unset] [(.int (0 : Int32))]))
    refine Go.st (fun _ => XS.istoreN X115.here hx rfl (hb hby d9_68) rfl (l' := #[.val (.ref aP), .val (.ref aV), .val (.int (0 : Int32))]) rfl) ?_
    refine Go.st (fun _ => XS.aloadN X115.here hx rfl (hb hby d9_69) rfl rfl) ?_
    obtain ⟨T116, X116, e116, st116⟩ := getF X115 hx hZ hown (host := "") (Or.inl (ww hw 68 rfl)) Via.refl e115 F15 (g := (mkF m 70 #[.val (.ref aP), .val (.ref aV), .val (.int (0 : Int32))] [(.ref aP)])) rfl rfl (hb hby d9_70)
    refine Go.st st116 ?_
    refine Go.st (fun _ => XS.aloadN X116.here hx rfl (hb hby d9_73) rfl rfl) ?_
    show Go p e below _ (T116.setTop (mkF m 74 #[.val (.ref aP), .val (.ref aV), .val (.int (0 : Int32))] [(.ref aP), (.int (2 : Int32))]))
    obtain ⟨T117, X117, e117, st117⟩ := getF X116 hx hZ hown (host := "") (Or.inl (ww hw 36 rfl)) Via.refl e116 F10 (g := (mkF m 74 #[.val (.ref aP), .val (.ref aV), .val (.int (0 : Int32))] [(.ref aP), (.int (2 : Int32))])) rfl rfl (hb hby d9_74)
    refine Go.st st117 ?_
    refine Go.st (fun _ => XS.iand X117.here hx rfl (hb hby d9_77) rfl) ?_
    refine Go.st (fun _ => XS.ifYes X117.here hx rfl (pc0 := 78) (pc' := 155) rfl (hb hby d9_78) rfl ((if0 _ _).trans (feq (by decide : ¬ ((2 : Int32) = (0 : Int32)))).2) (by decide) (by decide)) ?_
    refine Go.st (fun _ => XS.aloadN X117.here hx rfl (hb hby d9_155) rfl rfl) ?_
    show Go p e below _ (T117.setTop (mkF m 156 #[.val (.ref aP), .val (.ref aV), .val (.int (0 : Int32))] [(.ref aP)]))
    obtain ⟨T118, X118, e118, st118⟩ := getF X117 hx hZ hown (host := "") (Or.inl (ww hw 57 rfl)) Via.refl e117 F13 (g := (mkF m 156 #[.val (.ref aP), .val (.ref aV), .val (.int (0 : Int32))] [(.ref aP)])) rfl rfl (hb hby d9_156)
    refine Go.st st118 ?_
    refine Go.st (fun _ => XS.aloadN X118.here hx rfl (hb hby d9_159) rfl rfl) ?_
    obtain ⟨T119, X119, e119, st119⟩ := getF X118 hx hZ hown (host := "") (Or.inl (ww hw 13 rfl)) Via.refl e118 F11 (g := (mkF m 160 #[.val (.ref aP), .val (.ref aV), .val (.int (0 : Int32))] [(.ref aP), (.ref aL)])) rfl rfl (hb hby d9_160)
    refine Go.st st119 ?_
    refine Go.st (fun _ => XS.iloadN X119.here hx rfl (hb hby d9_163) rfl) ?_
    show Go p e below _ (T119.setTop (mkF m 164 #[.val (.ref aP), .val (.ref aV), .val (.int (0 : Int32))] [(.int (0 : Int32)), (.ref aK), (.ref aL)]))
    obtain ⟨cl120, Ar120, qk120, Sz120, Nn120, Ha120, Ga120⟩ := id V_22
    have hin120 : ¬ ((0 : Int32) < 0 ∨ cl120.slots.size ≤ ((0 : Int32) : Int32).toNatClampNeg) := inb_of Sz120 ⟨by decide, by decide⟩
    refine Go.st (fun _ => X119.aaload hx (j := (0 : Int32)) (v := (.ref aC)) (by rw [e119]; exact Ar120.1) (State.isArrayOf_alike hZ.alike Ar120.2.1) rfl Ar120.2.2 hin120 (Has.at Ha120 hin120 rfl) (g := (mkF m 164 #[.val (.ref aP), .val (.ref aV), .val (.int (0 : Int32))] [(.int (0 : Int32)), (.ref aK), (.ref aL)])) rfl rfl (hb hby d9_164) _) ?_
    refine Go.st (fun _ => XS.aloadN X119.here hx rfl (hb hby d9_165) rfl rfl) ?_
    obtain ⟨T121, X121, e121, st121⟩ := getF X119 hx hZ hown (host := "") (Or.inl (ww hw 68 rfl)) Via.refl e119 F15 (g := (mkF m 166 #[.val (.ref aP), .val (.ref aV), .val (.int (0 : Int32))] [(.ref aP), (.ref aC), (.ref aL)])) rfl rfl (hb hby d9_166)
    refine Go.st st121 ?_
    refine Go.st (fun _ => XS.aloadN X121.here hx rfl (hb hby d9_169) rfl rfl) ?_
    show Go p e below _ (T121.setTop (mkF m 170 #[.val (.ref aP), .val (.ref aV), .val (.int (0 : Int32))] [(.ref aP), (.int (2 : Int32)), (.ref aC), (.ref aL)]))
    obtain ⟨T122, X122, e122, st122⟩ := getF X121 hx hZ hown (host := "") (Or.inl (ww hw 36 rfl)) Via.refl e121 F10 (g := (mkF m 170 #[.val (.ref aP), .val (.ref aV), .val (.int (0 : Int32))] [(.ref aP), (.int (2 : Int32)), (.ref aC), (.ref aL)])) rfl rfl (hb hby d9_170)
    refine Go.st st122 ?_
    refine Go.st (fun _ => XS.iand X122.here hx rfl (hb hby d9_173) rfl) ?_
    refine Go.st (fun _ => XS.aloadN X122.here hx rfl (hb hby d9_174) rfl rfl) ?_
    obtain ⟨T123, X123, e123, st123⟩ := getF X122 hx hZ hown (host := "") (Or.inl (ww hw 61 rfl)) Via.refl e122 F14 (g := (mkF m 175 #[.val (.ref aP), .val (.ref aV), .val (.int (0 : Int32))] [(.ref aP), (.int (2 : Int32)), (.ref aC), (.ref aL)])) rfl rfl (hb hby d9_175)
    refine Go.st st123 ?_
    show Go p e below _ (T123.setTop (mkF m 178 #[.val (.ref aP), .val (.ref aV), .val (.int (0 : Int32))] [(.ref aB), (.int (2 : Int32)), (.ref aC), (.ref aL)]))
    refine goVirt X123 hx hZ (y := (⟨"com/example/traza/traza/PackedRows$Layout", "put", "([JI[J)V"⟩ : MethodName)) (z := (⟨"com/example/traza/traza/PackedRows$Layout", "put", "([JI[J)V"⟩ : MethodName)) hown (ww hw 88 rfl) (ww hw 89 rfl) (notFace_of_selects (args := #[]) (mvT hZ (ww hw 91 rfl))) (ww hw 91 rfl) (ww hw 90 rfl) (ww hw 39 rfl) (ww hw 92 rfl) (by decide) (a := aL) (argsL := [(.ref aC), (.int (2 : Int32)), (.ref aB)]) (rest := []) e123 E_16 (rm_put l Z a0 hw [] aL aC aB (2 : Int32) 2 w0 w1 w2 rb wd cw b0 b1 b2 f g4 T4.heap n0 O5 E_16 F18 F19 VL25 VB4 r_ne (Nat.le_trans gP r_pC) r_hW rfl (by decide) (enc_clear he4.2)) 0 (by decide) (by decide) (by decide) (by decide) (mkF m 178 #[.val (.ref aP), .val (.ref aV), .val (.int (0 : Int32))] [(.ref aB), (.int (2 : Int32)), (.ref aC), (.ref aL)]) rfl (by rw [hml]; rfl) (lenOf pd_8 rfl) rfl (hb hby d9_178) (Nat.le_of_eq rfl) ?_
    intro v124 T124 L124 X124 hQ124
    obtain ⟨rfl, M124, K124, f124, VC124, hP124⟩ := hQ124
    have N124 := Fr.app N4 M124
    have O125 := O5.keep K124 (allS (Nat.le_trans gP r_pC) all0)
    have V_126 := V_6.keep K124 (ninS (Ne.symm (LAr_arv VL25 V_6 (fun q => nomatch q))) nin0)
    have Y127 := Low_keep Y7 K124 (allS r_pC all0)
    have E_128 := E_8.keep K124
    have F129 := F9.keep K124 (ninS (Ne.symm (LAr_exa VL25 E_8 (ww hw 3 rfl))) nin0)
    have F130 := F10.keep K124 (ninS (Ne.symm (LAr_exa VL25 E_8 (ww hw 3 rfl))) nin0)
    have F131 := F11.keep K124 (ninS (Ne.symm (LAr_exa VL25 E_8 (ww hw 3 rfl))) nin0)
    have F132 := F12.keep K124 (ninS (Ne.symm (LAr_exa VL25 E_8 (ww hw 3 rfl))) nin0)
    have F133 := F13.keep K124 (ninS (Ne.symm (LAr_exa VL25 E_8 (ww hw 3 rfl))) nin0)
    have F134 := F14.keep K124 (ninS (Ne.symm (LAr_exa VL25 E_8 (ww hw 3 rfl))) nin0)
    have F135 := F15.keep K124 (ninS (Ne.symm (LAr_exa VL25 E_8 (ww hw 3 rfl))) nin0)
    have E_136 := E_16.keep K124
    have F137 := F17.keep K124 (ninS (Ne.symm (LAr_exa VL25 E_16 (ww hw 38 rfl))) nin0)
    have F138 := F18.keep K124 (ninS (Ne.symm (LAr_exa VL25 E_16 (ww hw 38 rfl))) nin0)
    have F139 := F19.keep K124 (ninS (Ne.symm (LAr_exa VL25 E_16 (ww hw 38 rfl))) nin0)
    have F140 := F20.keep K124 (ninS (Ne.symm (LAr_exa VL25 E_16 (ww hw 38 rfl))) nin0)
    have V_141 := V_21.keep K124 (ninS (Ne.symm (LAr_arv VL25 V_21 (fun q => nomatch q))) nin0)
    have V_142 := V_22.keep K124 (ninS (Ne.symm (LAr_arv VL25 V_22 (fun q => nomatch q))) nin0)
    have V_143 := V_23.keep K124 (ninS (Ne.symm (LAr_arv VL25 V_23 (fun q => nomatch q))) nin0)
    have E_144 := E_24.keep K124
    have VL145 := LAr_keep VB4 K124 (ninS (Ne.symm r_ne) nin0)
    have hR146 := put_rows (rows := [(v0_0, v0_1, v0_2), (v1_0, v1_1, v1_2)]) (r := 2) rfl r_hR he4.2 hP124
    show Go p e below _ (T124.setTop (mkF m 181 #[.val (.ref aP), .val (.ref aV), .val (.int (0 : Int32))] []))
    refine Go.st (fun _ => XS.aloadN X124.here hx rfl (hb hby d9_181) rfl rfl) ?_
    refine Go.st (fun _ => XS.dup X124.here hx rfl (hb hby d9_182) rfl rfl) ?_
    obtain ⟨T147, X147, e147, st147⟩ := getF X124 hx hZ hown (host := "") (Or.inl (ww hw 68 rfl)) Via.refl rfl F135 (g := (mkF m 183 #[.val (.ref aP), .val (.ref aV), .val (.int (0 : Int32))] [(.ref aP), (.ref aP)])) rfl rfl (hb hby d9_183)
    refine Go.st st147 ?_
    refine Go.st (fun _ => XS.dupX1 X147.here hx rfl (hb hby d9_186) rfl rfl rfl) ?_
    show Go p e below _ (T147.setTop (mkF m 187 #[.val (.ref aP), .val (.ref aV), .val (.int (0 : Int32))] [(.int (2 : Int32)), (.ref aP), (.int (2 : Int32))]))
    refine Go.st (fun _ => XS.iconst X147.here hx rfl (hb hby d9_187)) ?_
    refine Go.st (fun _ => XS.iadd X147.here hx rfl (hb hby d9_188) rfl) ?_
    obtain ⟨T148, h148, X148, e148, W148, st148⟩ := putF X147 hx hZ hown (host := "") (Or.inl (ww hw 68 rfl)) Via.refl e147 F135 E_128 (Or.inl (ww hw 69 rfl)) (ww hw 3 rfl) (ty := .int) (by decide) rfl rfl (g := (mkF m 189 #[.val (.ref aP), .val (.ref aV), .val (.int (0 : Int32))] [(.int (3 : Int32)), (.ref aP), (.int (2 : Int32))])) rfl rfl (hb hby d9_189)
    refine Go.st st148 ?_
    have O149 := O125.wr W148 gP
    have V_150 := V_126.other W148 (Ne.symm (Exa.neArv E_128 V_126 (ww hw 3 rfl)))
    have Y151 := Low_wr Y127 W148 (Nat.le_refl _)
    have E_152 := E_128.wr W148
    have F153 := F129.other W148 (Or.inr (slot_ne (Or.inr (ww hw 35 rfl)) (Or.inl (ww hw 69 rfl)) (by decide) (t := .int) (t' := .int) (by decide) (by decide)))
    have F154 := F130.other W148 (Or.inr (slot_ne (Or.inr (ww hw 37 rfl)) (Or.inl (ww hw 69 rfl)) (by decide) (t := .int) (t' := .int) (by decide) (by decide)))
    have F155 := F131.other W148 (Or.inr (slot_ne (Or.inl (ww hw 14 rfl)) (Or.inl (ww hw 69 rfl)) (by decide) (t := (.array (.array .long))) (t' := .int) (by decide) (by decide)))
    have F156 := F132.other W148 (Or.inr (slot_ne (Or.inl (ww hw 18 rfl)) (Or.inl (ww hw 69 rfl)) (by decide) (t := (.array (.object "com/example/traza/traza/PackedRows$Layout"))) (t' := .int) (by decide) (by decide)))
    have F157 := F133.other W148 (Or.inr (slot_ne (Or.inl (ww hw 58 rfl)) (Or.inl (ww hw 69 rfl)) (by decide) (t := (.object "com/example/traza/traza/PackedRows$Layout")) (t' := .int) (by decide) (by decide)))
    have F158 := F134.other W148 (Or.inr (slot_ne (Or.inl (ww hw 62 rfl)) (Or.inl (ww hw 69 rfl)) (by decide) (t := (.array .long)) (t' := .int) (by decide) (by decide)))
    have E_159 := E_136.wr W148
    have F160 := F137.other W148 (Or.inl (Exa.ne E_136 E_128 (by decide)))
    have F161 := F138.other W148 (Or.inl (Exa.ne E_136 E_128 (by decide)))
    have F162 := F139.other W148 (Or.inl (Exa.ne E_136 E_128 (by decide)))
    have F163 := F140.other W148 (Or.inl (Exa.ne E_136 E_128 (by decide)))
    have V_164 := V_141.other W148 (Ne.symm (Exa.neArv E_128 V_141 (ww hw 3 rfl)))
    have V_165 := V_142.other W148 (Ne.symm (Exa.neArv E_128 V_142 (ww hw 3 rfl)))
    have V_166 := V_143.other W148 (Ne.symm (Exa.neArv E_128 V_143 (ww hw 3 rfl)))
    have E_167 := E_144.wr W148
    have VL168 := LAr_other VL145 W148 (LAr_exa VL145 E_128 (ww hw 3 rfl))
    have VL169 := LAr_other VC124 W148 (LAr_exa VC124 E_128 (ww hw 3 rfl))
    have F170 : Fld Z h148 aP "com/example/traza/traza/PackedRows" "size" "I" (.int (3 : Int32)) := F135.same W148
    have N148 := Fr.snoc X148 N124 gP
    show Go p e below _ (T148.setTop (mkF m 192 #[.val (.ref aP), .val (.ref aV), .val (.int (0 : Int32))] [(.int (2 : Int32))]))
    have hFF : ∀ v ∈ [(v0_0, v0_1, v0_2), (v1_0, v1_1, v1_2), (p0, p1, p2)], own_fits b0 b1 b2 v := fun v hv => (List.mem_append.mp (show v ∈ [(v0_0, v0_1, v0_2), (v1_0, v1_1, v1_2)] ++ [(p0, p1, p2)] from hv)).elim (r_hF v) (fun q => by cases List.mem_singleton.mp q; exact he4.1)
    exact goRetI X148 hx hlk hret e148 (hb hby d9_192) (by decide) (by decide) ⟨rfl, N148, Y151, aL, aw, aK, aY, aB, aC, kw, kK, kY, w0, w1, w2, rb, wd, cw, b0, b1, b2, f124, g4, (.ref aC), (.ref aL), ⟨E_152, F153, F154, F155, F156, F157, F158, F170, E_159, F160, F161, F162, F163, V_164, V_165, V_166, r_oK, r_oY, VL168, r_hW, r_pL, r_pw, r_pK, r_pY, r_pB, hFF, (fun _ => ⟨rfl, rfl, E_167, VL169, hR146, r_ne, r_pC⟩), (fun q => absurd q (by decide))⟩⟩
theorem d14_0 : decode prog_27_method_5_code 0 = .ok (.iload_n 1, 1) := by decide +kernel
theorem d14_1 : decode prog_27_method_5_code 1 = .ok (.aload_n 0, 1) := by decide +kernel
theorem d14_2 : decode prog_27_method_5_code 2 = .ok (.getfield 34, 3) := by decide +kernel
theorem d14_5 : decode prog_27_method_5_code 5 = .ok (.iushr, 1) := by decide +kernel
theorem d14_6 : decode prog_27_method_5_code 6 = .ok (.istore_n 3, 1) := by decide +kernel
theorem d14_7 : decode prog_27_method_5_code 7 = .ok (.aload_n 0, 1) := by decide +kernel
theorem d14_8 : decode prog_27_method_5_code 8 = .ok (.getfield 17, 3) := by decide +kernel
theorem d14_11 : decode prog_27_method_5_code 11 = .ok (.iload_n 3, 1) := by decide +kernel
theorem d14_12 : decode prog_27_method_5_code 12 = .ok (.aaload, 1) := by decide +kernel
theorem d14_13 : decode prog_27_method_5_code 13 = .ok (.aload_n 0, 1) := by decide +kernel
theorem d14_14 : decode prog_27_method_5_code 14 = .ok (.getfield 9, 3) := by decide +kernel
theorem d14_17 : decode prog_27_method_5_code 17 = .ok (.iload_n 3, 1) := by decide +kernel
theorem d14_18 : decode prog_27_method_5_code 18 = .ok (.aaload, 1) := by decide +kernel
theorem d14_19 : decode prog_27_method_5_code 19 = .ok (.iload_n 1, 1) := by decide +kernel
theorem d14_20 : decode prog_27_method_5_code 20 = .ok (.aload_n 0, 1) := by decide +kernel
theorem d14_21 : decode prog_27_method_5_code 21 = .ok (.getfield 38, 3) := by decide +kernel
theorem d14_24 : decode prog_27_method_5_code 24 = .ok (.iand, 1) := by decide +kernel
theorem d14_25 : decode prog_27_method_5_code 25 = .ok (.aload_n 2, 1) := by decide +kernel
theorem d14_26 : decode prog_27_method_5_code 26 = .ok (.invokevirtual 97, 3) := by decide +kernel
theorem d14_29 : decode prog_27_method_5_code 29 = .ok (.return_, 1) := by decide +kernel
theorem pn_14 : plainName "com/example/traza/traza/PackedRows" = true := by first | (simp [plainName, overriddenIn]; done) | decide +kernel
set_option maxRecDepth 65536 in
set_option maxHeartbeats 40000000 in
theorem rm_Pread (l : Launch) (Z : State) (a0 : Array Value) (hw : ∀ d ∈ tables_1, d.before a0 Z = true) (ws : List Jvm.Cond) (aP aV : Addr) (kV : ClassId) (pr : Int32) (r : Nat) (p0 p1 p2 v0 v1 v2 n : Int32) (rows : List Row) (aL : Addr) (aw : Addr) (aK : Addr) (aY : Addr) (aB : Addr) (aC : Addr) (kw : ClassId) (kK : ClassId) (kY : ClassId) (w0 : Int32) (w1 : Int32) (w2 : Int32) (rb : Int32) (wd : Int32) (cw : Int32) (b0 : Nat) (b1 : Nat) (b2 : Nat) (f : Nat → Int64) (g : Nat → Int64) (xK : Value) (xY : Value) (h0 : Heap) (n0 : Nat) (O0 : Old Z n0 h0) (HP : PR Z h0 aP n rows aL aw aK aY aB aC kw kK kY w0 w1 w2 rb wd cw b0 b1 b2 f g xK xY) (hn : ¬ n = 0) (vV : Arv Z h0 aV kV .int (3 : Int32) [(.int p0), (.int p1), (.int p2)] (.int (0 : Int32))) (gV : n0 ≤ aV) (neV : aw ≠ aV) (hr : pr.toInt = (r : Nat)) (hr2 : r ≤ 2) (hv : rows[r]? = some (v0, v1, v2)) :
    Ctr l (⟨"com/example/traza/traza/PackedRows", "read", "(I[I)V"⟩ : MethodName) prog_27_method_5_code 4 none ws ({ frames := 2, cells := 0, slots := 0, locals := 39 } : Room) #[(.ref aP), (.int pr), (.ref aV)] Z h0 (fun v h L => v = none ∧ Fr n0 L ∧ Keep h0 h [aV] ∧ Arv Z h aV kV .int (3 : Int32) [(.int v0), (.int v1), (.int v2)] (.int (0 : Int32))) := by
  have ef : ∀ m : MethodId, entryFrame m #[(.ref aP), (.int pr), (.ref aV)] 4 = mkF m 0 #[.val (.ref aP), .val (.int pr), .val (.ref aV), .unset] [] := fun m => by first | (simp [entryFrame, mkF, argsToLocals, Value.category]; done) | rfl
  refine Ctr.of (plainFor_of_name pn_14) ?_
  intro p e s m below meth c s₁ hx hZ hby hml hown0 hnm hret hlk X0 e0
  have hown : s.vm.findClass "com/example/traza/traza/PackedRows" = some m.cls := hown0
  have N0 := Fr.nil n0
  refine Go.st (fun t k => castTop (ef m) k) ?_
  obtain ⟨r_eP, r_f_chunkShift, r_f_chunkMask, r_f_chunks, r_f_layouts, r_f_layout, r_f_bits, r_f_size, r_eL, r_l_widths, r_l_rowBits, r_l_words, r_l_chunkWords, r_vw, r_vK, r_vY, r_oK, r_oY, r_vB, r_hW, r_pL, r_pw, r_pK, r_pY, r_pB, r_hF, r_full, r_none⟩ := HP
  obtain ⟨rfl, rfl, r_eC, r_vC, r_hR, r_ne, r_pC⟩ := r_full hn
  have rdv := rows_read r_hR hv (r_hF _ (List.mem_of_getElem? hv))
  refine Go.st (fun _ => XS.iloadN X0.here hx rfl (hb hby d14_0) rfl) ?_
  refine Go.st (fun _ => XS.aloadN X0.here hx rfl (hb hby d14_1) rfl rfl) ?_
  obtain ⟨T1, X1, e1, st1⟩ := getF X0 hx hZ hown (host := "") (Or.inl (ww hw 34 rfl)) Via.refl e0 r_f_chunkShift (g := (mkF m 2 #[.val (.ref aP), .val (.int pr), .val (.ref aV), .unset] [(.ref aP), (.int pr)])) rfl rfl (hb hby d14_2)
  refine Go.st st1 ?_
  show Go p e below _ (T1.setTop (mkF m 5 #[.val (.ref aP), .val (.int pr), .val (.ref aV), .unset] [(.int (12 : Int32)), (.int pr)]))
  refine Go.st (fun _ => XS.iushr X1.here hx rfl (hb hby d14_5) rfl) ?_
  refine Go.st (fun _ => XS.istoreN X1.here hx rfl (hb hby d14_6) rfl (l' := #[.val (.ref aP), .val (.int pr), .val (.ref aV), .val (.int ((pr.toUInt32 >>> ((12 : Int32) &&& 31).toUInt32).toInt32))]) rfl) ?_
  show Go p e below _ (T1.setTop (mkF m 7 #[.val (.ref aP), .val (.int pr), .val (.ref aV), .val (.int ((pr.toUInt32 >>> ((12 : Int32) &&& 31).toUInt32).toInt32))] []))
  rw [own_sh12 hr hr2]
  show Go p e below _ (T1.setTop (mkF m 7 #[.val (.ref aP), .val (.int pr), .val (.ref aV), .val (.int (0 : Int32))] []))
  refine Go.st (fun _ => XS.aloadN X1.here hx rfl (hb hby d14_7) rfl rfl) ?_
  obtain ⟨T2, X2, e2, st2⟩ := getF X1 hx hZ hown (host := "") (Or.inl (ww hw 17 rfl)) Via.refl e1 r_f_layouts (g := (mkF m 8 #[.val (.ref aP), .val (.int pr), .val (.ref aV), .val (.int (0 : Int32))] [(.ref aP)])) rfl rfl (hb hby d14_8)
  refine Go.st st2 ?_
  refine Go.st (fun _ => XS.iloadN X2.here hx rfl (hb hby d14_11) rfl) ?_
  obtain ⟨cl3, Ar3, qk3, Sz3, Nn3, Ha3, Ga3⟩ := id r_vY
  have hin3 : ¬ ((0 : Int32) < 0 ∨ cl3.slots.size ≤ ((0 : Int32) : Int32).toNatClampNeg) := inb_of Sz3 ⟨by decide, by decide⟩
  refine Go.st (fun _ => X2.aaload hx (j := (0 : Int32)) (v := (.ref aL)) (by rw [e2]; exact Ar3.1) (State.isArrayOf_alike hZ.alike Ar3.2.1) rfl Ar3.2.2 hin3 (Has.at Ha3 hin3 rfl) (g := (mkF m 12 #[.val (.ref aP), .val (.int pr), .val (.ref aV), .val (.int (0 : Int32))] [(.int (0 : Int32)), (.ref aY)])) rfl rfl (hb hby d14_12) _) ?_
  show Go p e below _ (T2.setTop (mkF m 13 #[.val (.ref aP), .val (.int pr), .val (.ref aV), .val (.int (0 : Int32))] [(.ref aL)]))
  refine Go.st (fun _ => XS.aloadN X2.here hx rfl (hb hby d14_13) rfl rfl) ?_
  obtain ⟨T4, X4, e4, st4⟩ := getF X2 hx hZ hown (host := "") (Or.inl (ww hw 13 rfl)) Via.refl e2 r_f_chunks (g := (mkF m 14 #[.val (.ref aP), .val (.int pr), .val (.ref aV), .val (.int (0 : Int32))] [(.ref aP), (.ref aL)])) rfl rfl (hb hby d14_14)
  refine Go.st st4 ?_
  refine Go.st (fun _ => XS.iloadN X4.here hx rfl (hb hby d14_17) rfl) ?_
  obtain ⟨cl5, Ar5, qk5, Sz5, Nn5, Ha5, Ga5⟩ := id r_vK
  have hin5 : ¬ ((0 : Int32) < 0 ∨ cl5.slots.size ≤ ((0 : Int32) : Int32).toNatClampNeg) := inb_of Sz5 ⟨by decide, by decide⟩
  refine Go.st (fun _ => X4.aaload hx (j := (0 : Int32)) (v := (.ref aC)) (by rw [e4]; exact Ar5.1) (State.isArrayOf_alike hZ.alike Ar5.2.1) rfl Ar5.2.2 hin5 (Has.at Ha5 hin5 rfl) (g := (mkF m 18 #[.val (.ref aP), .val (.int pr), .val (.ref aV), .val (.int (0 : Int32))] [(.int (0 : Int32)), (.ref aK), (.ref aL)])) rfl rfl (hb hby d14_18) _) ?_
  show Go p e below _ (T4.setTop (mkF m 19 #[.val (.ref aP), .val (.int pr), .val (.ref aV), .val (.int (0 : Int32))] [(.ref aC), (.ref aL)]))
  refine Go.st (fun _ => XS.iloadN X4.here hx rfl (hb hby d14_19) rfl) ?_
  refine Go.st (fun _ => XS.aloadN X4.here hx rfl (hb hby d14_20) rfl rfl) ?_
  obtain ⟨T6, X6, e6, st6⟩ := getF X4 hx hZ hown (host := "") (Or.inl (ww hw 36 rfl)) Via.refl e4 r_f_chunkMask (g := (mkF m 21 #[.val (.ref aP), .val (.int pr), .val (.ref aV), .val (.int (0 : Int32))] [(.ref aP), (.int pr), (.ref aC), (.ref aL)])) rfl rfl (hb hby d14_21)
  refine Go.st st6 ?_
  refine Go.st (fun _ => XS.iand X6.here hx rfl (hb hby d14_24) rfl) ?_
  show Go p e below _ (T6.setTop (mkF m 25 #[.val (.ref aP), .val (.int pr), .val (.ref aV), .val (.int (0 : Int32))] [(.int (pr &&& (4095 : Int32))), (.ref aC), (.ref aL)]))
  rw [own_an12 hr hr2]
  show Go p e below _ (T6.setTop (mkF m 25 #[.val (.ref aP), .val (.int pr), .val (.ref aV), .val (.int (0 : Int32))] [(.int pr), (.ref aC), (.ref aL)]))
  refine Go.st (fun _ => XS.aloadN X6.here hx rfl (hb hby d14_25) rfl rfl) ?_
  refine goVirt X6 hx hZ (y := (⟨"com/example/traza/traza/PackedRows$Layout", "read", "([JI[I)V"⟩ : MethodName)) (z := (⟨"com/example/traza/traza/PackedRows$Layout", "read", "([JI[I)V"⟩ : MethodName)) hown (ww hw 100 rfl) (ww hw 101 rfl) (notFace_of_selects (args := #[]) (mvT hZ (ww hw 103 rfl))) (ww hw 103 rfl) (ww hw 102 rfl) (ww hw 39 rfl) (ww hw 104 rfl) (by decide) (a := aL) (argsL := [(.ref aC), (.int pr), (.ref aV)]) (rest := []) e6 r_eL (rm_read l Z a0 hw [] aL aw aC aV kw kV pr r p0 p1 p2 w0 w1 w2 rb wd cw b0 b1 b2 f h0 n0 O0 r_eL r_l_widths r_l_rowBits r_vw r_vC vV neV gV r_hW hr hr2) 0 (by decide) (by decide) (by decide) (by decide) (mkF m 26 #[.val (.ref aP), .val (.int pr), .val (.ref aV), .val (.int (0 : Int32))] [(.ref aV), (.int pr), (.ref aC), (.ref aL)]) rfl (by rw [hml]; rfl) (lenOf pd_9 rfl) rfl (hb hby d14_26) (Nat.le_of_eq rfl) ?_
  intro v7 T7 L7 X7 hQ7
  obtain ⟨rfl, M7, K7, za7, zb7, zc7, VR7, ha7, hb7, hc7⟩ := hQ7
  have N7 := Fr.app N0 M7
  have O8 := O0.keep K7 (allS gV all0)
  have K9 := (Keep.refl h0 [aV]).trans K7 (allS (Or.inl (List.mem_of_getElem? (i := 0) rfl)) all0)
  have E_10 := r_eP.keep K7
  have F11 := r_f_chunkShift.keep K7 (ninS (Exa.neArv r_eP vV (ww hw 3 rfl)) nin0)
  have F12 := r_f_chunkMask.keep K7 (ninS (Exa.neArv r_eP vV (ww hw 3 rfl)) nin0)
  have F13 := r_f_chunks.keep K7 (ninS (Exa.neArv r_eP vV (ww hw 3 rfl)) nin0)
  have F14 := r_f_layouts.keep K7 (ninS (Exa.neArv r_eP vV (ww hw 3 rfl)) nin0)
  have F15 := r_f_layout.keep K7 (ninS (Exa.neArv r_eP vV (ww hw 3 rfl)) nin0)
  have F16 := r_f_bits.keep K7 (ninS (Exa.neArv r_eP vV (ww hw 3 rfl)) nin0)
  have F17 := r_f_size.keep K7 (ninS (Exa.neArv r_eP vV (ww hw 3 rfl)) nin0)
  have E_18 := r_eL.keep K7
  have F19 := r_l_widths.keep K7 (ninS (Exa.neArv r_eL vV (ww hw 38 rfl)) nin0)
  have F20 := r_l_rowBits.keep K7 (ninS (Exa.neArv r_eL vV (ww hw 38 rfl)) nin0)
  have F21 := r_l_words.keep K7 (ninS (Exa.neArv r_eL vV (ww hw 38 rfl)) nin0)
  have F22 := r_l_chunkWords.keep K7 (ninS (Exa.neArv r_eL vV (ww hw 38 rfl)) nin0)
  have V_23 := r_vw.keep K7 (ninS neV nin0)
  have V_24 := r_vK.keep K7 (ninS (arv_arv r_vK vV (fun q => nomatch q)) nin0)
  have V_25 := r_vY.keep K7 (ninS (arv_arv r_vY vV (fun q => nomatch q)) nin0)
  have VL26 := LAr_keep r_vB K7 (ninS (LAr_arv r_vB vV (fun q => nomatch q)) nin0)
  have E_27 := r_eC.keep K7
  have VL28 := LAr_keep r_vC K7 (ninS (LAr_arv r_vC vV (fun q => nomatch q)) nin0)
  obtain rfl : v0 = za7 := fld_uniq rdv.1 ha7
  obtain rfl : v1 = zb7 := fld_uniq rdv.2.1 hb7
  obtain rfl : v2 = zc7 := fld_uniq rdv.2.2 hc7
  show Go p e below _ (T7.setTop (mkF m 29 #[.val (.ref aP), .val (.int pr), .val (.ref aV), .val (.int (0 : Int32))] []))
  exact goRetV X7 hx hlk hret rfl (hb hby d14_29) (by decide) (by decide) ⟨rfl, N7, K9, VR7⟩
theorem d17_0 : decode method_2_code 0 = .ok (.aload_n 0, 1) := by decide +kernel
theorem d17_1 : decode method_2_code 1 = .ok (.iconst 0, 1) := by decide +kernel
theorem d17_2 : decode method_2_code 2 = .ok (.iaload, 1) := by decide +kernel
theorem d17_3 : decode method_2_code 3 = .ok (.iload_n 1, 1) := by decide +kernel
theorem d17_4 : decode method_2_code 4 = .ok (.if_icmp .ne 21, 3) := by decide +kernel
theorem d17_7 : decode method_2_code 7 = .ok (.aload_n 0, 1) := by decide +kernel
theorem d17_8 : decode method_2_code 8 = .ok (.iconst 1, 1) := by decide +kernel
theorem d17_9 : decode method_2_code 9 = .ok (.iaload, 1) := by decide +kernel
theorem d17_10 : decode method_2_code 10 = .ok (.iload_n 2, 1) := by decide +kernel
theorem d17_11 : decode method_2_code 11 = .ok (.if_icmp .ne 14, 3) := by decide +kernel
theorem d17_14 : decode method_2_code 14 = .ok (.aload_n 0, 1) := by decide +kernel
theorem d17_15 : decode method_2_code 15 = .ok (.iconst 2, 1) := by decide +kernel
theorem d17_16 : decode method_2_code 16 = .ok (.iaload, 1) := by decide +kernel
theorem d17_17 : decode method_2_code 17 = .ok (.iload_n 3, 1) := by decide +kernel
theorem d17_18 : decode method_2_code 18 = .ok (.if_icmp .ne 7, 3) := by decide +kernel
theorem d17_21 : decode method_2_code 21 = .ok (.iconst 1, 1) := by decide +kernel
theorem d17_22 : decode method_2_code 22 = .ok (.goto 4, 3) := by decide +kernel
theorem d17_25 : decode method_2_code 25 = .ok (.iconst 0, 1) := by decide +kernel
theorem d17_26 : decode method_2_code 26 = .ok (.ireturn, 1) := by decide +kernel
theorem pn_17 : plainName "com/example/traza/traza/PackedRowsReadPinLaw" = true := by first | (simp [plainName, overriddenIn]; done) | decide +kernel
set_option maxRecDepth 65536 in
set_option maxHeartbeats 40000000 in
theorem rm_same (l : Launch) (Z : State) (a0 : Array Value) (hw : ∀ d ∈ tables_1, d.before a0 Z = true) (ws : List Jvm.Cond) (aV : Addr) (kV : ClassId) (p0 p1 p2 : Int32) (h0 : Heap) (n0 : Nat) (O0 : Old Z n0 h0) (vV : Arv Z h0 aV kV .int (3 : Int32) [(.int p0), (.int p1), (.int p2)] (.int (0 : Int32))) :
    Ctr l (⟨"com/example/traza/traza/PackedRowsReadPinLaw", "same", "([IIII)Z"⟩ : MethodName) method_2_code 4 (some .boolean) ws ({ frames := 0, cells := 0, slots := 0, locals := 0 } : Room) #[(.ref aV), (.int p0), (.int p1), (.int p2)] Z h0 (fun v h L => v = some (.int 1) ∧ Fr n0 L ∧ h = h0) := by
  have ef : ∀ m : MethodId, entryFrame m #[(.ref aV), (.int p0), (.int p1), (.int p2)] 4 = mkF m 0 #[.val (.ref aV), .val (.int p0), .val (.int p1), .val (.int p2)] [] := fun m => by first | (simp [entryFrame, mkF, argsToLocals, Value.category]; done) | rfl
  refine Ctr.of (plainFor_of_name pn_17) ?_
  intro p e s m below meth c s₁ hx hZ hby hml hown0 hnm hret hlk X0 e0
  have hown : s.vm.findClass "com/example/traza/traza/PackedRowsReadPinLaw" = some m.cls := hown0
  have N0 := Fr.nil n0
  refine Go.st (fun t k => castTop (ef m) k) ?_
  refine Go.st (fun _ => XS.aloadN X0.here hx rfl (hb hby d17_0) rfl rfl) ?_
  refine Go.st (fun _ => XS.iconst X0.here hx rfl (hb hby d17_1)) ?_
  obtain ⟨cl1, Ar1, qk1, Sz1, Nn1, Ha1, Ga1⟩ := id vV
  have hin1 : ¬ ((0 : Int32) < 0 ∨ cl1.slots.size ≤ ((0 : Int32) : Int32).toNatClampNeg) := inb_of Sz1 ⟨by decide, by decide⟩
  refine Go.st (fun _ => X0.iaload hx (j := (0 : Int32)) (v := (.int p0)) (by rw [e0]; exact Ar1.1) (State.isArrayOf_alike hZ.alike Ar1.2.1) Ar1.2.2 hin1 (Has.at Ha1 hin1 rfl) (g := (mkF m 2 #[.val (.ref aV), .val (.int p0), .val (.int p1), .val (.int p2)] [(.int (0 : Int32)), (.ref aV)])) rfl rfl (hb hby d17_2) _) ?_
  show Go p e below _ (s₁.setTop (mkF m 3 #[.val (.ref aV), .val (.int p0), .val (.int p1), .val (.int p2)] [(.int p0)]))
  refine Go.st (fun _ => XS.iloadN X0.here hx rfl (hb hby d17_3) rfl) ?_
  refine Go.st (fun _ => XS.icmpNo X0.here hx rfl (hb hby d17_4) rfl (teq (rfl : p0 = p0)).2) ?_
  refine Go.st (fun _ => XS.aloadN X0.here hx rfl (hb hby d17_7) rfl rfl) ?_
  refine Go.st (fun _ => XS.iconst X0.here hx rfl (hb hby d17_8)) ?_
  show Go p e below _ (s₁.setTop (mkF m 9 #[.val (.ref aV), .val (.int p0), .val (.int p1), .val (.int p2)] [(.int (1 : Int32)), (.ref aV)]))
  obtain ⟨cl2, Ar2, qk2, Sz2, Nn2, Ha2, Ga2⟩ := id vV
  have hin2 : ¬ ((1 : Int32) < 0 ∨ cl2.slots.size ≤ ((1 : Int32) : Int32).toNatClampNeg) := inb_of Sz2 ⟨by decide, by decide⟩
  refine Go.st (fun _ => X0.iaload hx (j := (1 : Int32)) (v := (.int p1)) (by rw [e0]; exact Ar2.1) (State.isArrayOf_alike hZ.alike Ar2.2.1) Ar2.2.2 hin2 (Has.at Ha2 hin2 rfl) (g := (mkF m 9 #[.val (.ref aV), .val (.int p0), .val (.int p1), .val (.int p2)] [(.int (1 : Int32)), (.ref aV)])) rfl rfl (hb hby d17_9) _) ?_
  refine Go.st (fun _ => XS.iloadN X0.here hx rfl (hb hby d17_10) rfl) ?_
  refine Go.st (fun _ => XS.icmpNo X0.here hx rfl (hb hby d17_11) rfl (teq (rfl : p1 = p1)).2) ?_
  refine Go.st (fun _ => XS.aloadN X0.here hx rfl (hb hby d17_14) rfl rfl) ?_
  show Go p e below _ (s₁.setTop (mkF m 15 #[.val (.ref aV), .val (.int p0), .val (.int p1), .val (.int p2)] [(.ref aV)]))
  refine Go.st (fun _ => XS.iconst X0.here hx rfl (hb hby d17_15)) ?_
  obtain ⟨cl3, Ar3, qk3, Sz3, Nn3, Ha3, Ga3⟩ := id vV
  have hin3 : ¬ ((2 : Int32) < 0 ∨ cl3.slots.size ≤ ((2 : Int32) : Int32).toNatClampNeg) := inb_of Sz3 ⟨by decide, by decide⟩
  refine Go.st (fun _ => X0.iaload hx (j := (2 : Int32)) (v := (.int p2)) (by rw [e0]; exact Ar3.1) (State.isArrayOf_alike hZ.alike Ar3.2.1) Ar3.2.2 hin3 (Has.at Ha3 hin3 rfl) (g := (mkF m 16 #[.val (.ref aV), .val (.int p0), .val (.int p1), .val (.int p2)] [(.int (2 : Int32)), (.ref aV)])) rfl rfl (hb hby d17_16) _) ?_
  refine Go.st (fun _ => XS.iloadN X0.here hx rfl (hb hby d17_17) rfl) ?_
  refine Go.st (fun _ => XS.icmpNo X0.here hx rfl (hb hby d17_18) rfl (teq (rfl : p2 = p2)).2) ?_
  show Go p e below _ (s₁.setTop (mkF m 21 #[.val (.ref aV), .val (.int p0), .val (.int p1), .val (.int p2)] []))
  refine Go.st (fun _ => XS.iconst X0.here hx rfl (hb hby d17_21)) ?_
  refine Go.st (fun _ => XS.goto X0.here hx rfl (pc0 := 22) (pc' := 26) rfl (hb hby d17_22) (by decide) (by decide)) ?_
  show Go p e below _ (s₁.setTop (mkF m 26 #[.val (.ref aV), .val (.int p0), .val (.int p1), .val (.int p2)] [(.int (1 : Int32))]))
  exact goRetN X0 hx hlk hret (t := .boolean) (by simp) (w := (1 : Int32)) (by decide) e0 (hb hby d17_26) (by decide) (by decide) ⟨rfl, N0, rfl⟩
theorem own_nn (x : Int32) : ¬ (x &&& (2147483647 : Int32)) < 0 := by
  rw [Int32.lt_iff_toInt_lt, show (0 : Int32).toInt = 0 from rfl]
  show ¬ (x &&& (2147483647 : Int32)).toBitVec.toInt < 0
  have h : (x &&& (2147483647 : Int32)).toBitVec.toNat < 2 ^ 31 := by
    rw [Int32.toBitVec_and, BitVec.toNat_and, show (2147483647 : Int32).toBitVec.toNat = 2 ^ 31 - 1 from rfl, Nat.and_two_pow_sub_one_eq_mod]; exact Nat.mod_lt _ (by decide)
  rw [BitVec.toInt_eq_toNat_cond]; split <;> omega
theorem own_nnJ (x : Int64) : ¬ ((x &&& (2147483647 : Int64)).toInt32) < 0 := by
  have h : (x &&& (2147483647 : Int64)).toBitVec.toNat < 2 ^ 31 := by
    rw [Int64.toBitVec_and, BitVec.toNat_and, show (2147483647 : Int64).toBitVec.toNat = 2 ^ 31 - 1 from rfl, Nat.and_two_pow_sub_one_eq_mod]; exact Nat.mod_lt _ (by decide)
  have h2 : (x &&& (2147483647 : Int64)).toInt = ((x &&& (2147483647 : Int64)).toBitVec.toNat : Int) := by
    show (x &&& (2147483647 : Int64)).toBitVec.toInt = _
    rw [BitVec.toInt_eq_toNat_cond, if_pos (by omega)]
  rw [Int32.lt_iff_toInt_lt, show (0 : Int32).toInt = 0 from rfl, Int64.toInt_toInt32, h2, Int.bmod_eq_of_le (by omega) (by omega)]; omega

theorem pn_0 : plainName "com/example/traza/traza/PackedRowsReadPinLaw" = true := by first | (simp [plainName, overriddenIn]; done) | decide +kernel
set_option maxRecDepth 65536 in
set_option maxHeartbeats 40000000 in
theorem rm0 (l : Launch) (Z : State) (a0 : Array Value) (hw : ∀ d ∈ tables_1, d.before a0 Z = true) (ws : List Jvm.Cond) (p0 p1 p2 p3 p4 p5 : Int32) (h0 : Heap) (n0 : Nat) (O0 : Old Z n0 h0) :
    Ctr l x code maxLocals ret ws room_1 #[(.int p0), (.int p1), (.int p2), (.int p3), (.int p4), (.int p5)] Z h0 (fun v h L => v = some (.int 1) ∧ Fr n0 L) := by
  have ef : ∀ m : MethodId, entryFrame m #[(.int p0), (.int p1), (.int p2), (.int p3), (.int p4), (.int p5)] 23 = mkF m 0 #[.val (.int p0), .val (.int p1), .val (.int p2), .val (.int p3), .val (.int p4), .val (.int p5), .unset, .unset, .unset, .unset, .unset, .unset, .unset, .unset, .unset, .unset, .unset, .unset, .unset, .unset, .unset, .unset, .unset] [] := fun m => by first | (simp [entryFrame, mkF, argsToLocals, Value.category]; done) | rfl
  refine Ctr.of (plainFor_of_name pn_0) ?_
  intro p e s m below meth c s₁ hx hZ hby hml hown0 hnm hret hlk X0 e0
  have hown : s.vm.findClass "com/example/traza/traza/PackedRowsReadPinLaw" = some m.cls := hown0
  have N0 := Fr.nil n0
  refine Go.st (fun t k => castTop (ef m) k) ?_
  refine Go.st (fun _ => XS.iloadN X0.here hx rfl (hb hby at_0) rfl) ?_
  refine Go.st (fun _ => X0.ldcInt hx hown (mvT hZ (ww hw 0 rfl)) (g := (mkF m 1 #[.val (.int p0), .val (.int p1), .val (.int p2), .val (.int p3), .val (.int p4), .val (.int p5), .unset, .unset, .unset, .unset, .unset, .unset, .unset, .unset, .unset, .unset, .unset, .unset, .unset, .unset, .unset, .unset, .unset] [(.int p0)])) rfl (hb hby at_1) _) ?_
  refine Go.st (fun _ => XS.iand X0.here hx rfl (hb hby at_3) rfl) ?_
  show Go p e below _ (s₁.setTop (mkF m 4 #[.val (.int p0), .val (.int p1), .val (.int p2), .val (.int p3), .val (.int p4), .val (.int p5), .unset, .unset, .unset, .unset, .unset, .unset, .unset, .unset, .unset, .unset, .unset, .unset, .unset, .unset, .unset, .unset, .unset] [(.int (p0 &&& (2147483647 : Int32)))]))
  refine Go.st (fun _ => XS.istore X0.here hx rfl (hb hby at_4) rfl (l' := #[.val (.int p0), .val (.int p1), .val (.int p2), .val (.int p3), .val (.int p4), .val (.int p5), .val (.int (p0 &&& (2147483647 : Int32))), .unset, .unset, .unset, .unset, .unset, .unset, .unset, .unset, .unset, .unset, .unset, .unset, .unset, .unset, .unset, .unset]) rfl) ?_
  show Go p e below _ (s₁.setTop (mkF m 6 #[.val (.int p0), .val (.int p1), .val (.int p2), .val (.int p3), .val (.int p4), .val (.int p5), .val (.int (p0 &&& (2147483647 : Int32))), .unset, .unset, .unset, .unset, .unset, .unset, .unset, .unset, .unset, .unset, .unset, .unset, .unset, .unset, .unset, .unset] []))
  obtain ⟨y0, ey0⟩ : ∃ z, z = (p0 &&& (2147483647 : Int32)) := ⟨_, rfl⟩
  rw [← ey0]
  have hy0 : ¬ y0 < 0 := by rw [ey0]; exact own_nn _
  refine Go.st (fun _ => XS.iloadN X0.here hx rfl (hb hby at_6) rfl) ?_
  refine Go.st (fun _ => X0.ldcInt hx hown (mvT hZ (ww hw 0 rfl)) (g := (mkF m 7 #[.val (.int p0), .val (.int p1), .val (.int p2), .val (.int p3), .val (.int p4), .val (.int p5), .val (.int y0), .unset, .unset, .unset, .unset, .unset, .unset, .unset, .unset, .unset, .unset, .unset, .unset, .unset, .unset, .unset, .unset] [(.int p1)])) rfl (hb hby at_7) _) ?_
  refine Go.st (fun _ => XS.iand X0.here hx rfl (hb hby at_9) rfl) ?_
  show Go p e below _ (s₁.setTop (mkF m 10 #[.val (.int p0), .val (.int p1), .val (.int p2), .val (.int p3), .val (.int p4), .val (.int p5), .val (.int y0), .unset, .unset, .unset, .unset, .unset, .unset, .unset, .unset, .unset, .unset, .unset, .unset, .unset, .unset, .unset, .unset] [(.int (p1 &&& (2147483647 : Int32)))]))
  refine Go.st (fun _ => XS.istore X0.here hx rfl (hb hby at_10) rfl (l' := #[.val (.int p0), .val (.int p1), .val (.int p2), .val (.int p3), .val (.int p4), .val (.int p5), .val (.int y0), .val (.int (p1 &&& (2147483647 : Int32))), .unset, .unset, .unset, .unset, .unset, .unset, .unset, .unset, .unset, .unset, .unset, .unset, .unset, .unset, .unset]) rfl) ?_
  show Go p e below _ (s₁.setTop (mkF m 12 #[.val (.int p0), .val (.int p1), .val (.int p2), .val (.int p3), .val (.int p4), .val (.int p5), .val (.int y0), .val (.int (p1 &&& (2147483647 : Int32))), .unset, .unset, .unset, .unset, .unset, .unset, .unset, .unset, .unset, .unset, .unset, .unset, .unset, .unset, .unset] []))
  obtain ⟨y1, ey1⟩ : ∃ z, z = (p1 &&& (2147483647 : Int32)) := ⟨_, rfl⟩
  rw [← ey1]
  have hy1 : ¬ y1 < 0 := by rw [ey1]; exact own_nn _
  refine Go.st (fun _ => XS.iloadN X0.here hx rfl (hb hby at_12) rfl) ?_
  refine Go.st (fun _ => X0.ldcInt hx hown (mvT hZ (ww hw 0 rfl)) (g := (mkF m 13 #[.val (.int p0), .val (.int p1), .val (.int p2), .val (.int p3), .val (.int p4), .val (.int p5), .val (.int y0), .val (.int y1), .unset, .unset, .unset, .unset, .unset, .unset, .unset, .unset, .unset, .unset, .unset, .unset, .unset, .unset, .unset] [(.int p2)])) rfl (hb hby at_13) _) ?_
  refine Go.st (fun _ => XS.iand X0.here hx rfl (hb hby at_15) rfl) ?_
  show Go p e below _ (s₁.setTop (mkF m 16 #[.val (.int p0), .val (.int p1), .val (.int p2), .val (.int p3), .val (.int p4), .val (.int p5), .val (.int y0), .val (.int y1), .unset, .unset, .unset, .unset, .unset, .unset, .unset, .unset, .unset, .unset, .unset, .unset, .unset, .unset, .unset] [(.int (p2 &&& (2147483647 : Int32)))]))
  refine Go.st (fun _ => XS.istore X0.here hx rfl (hb hby at_16) rfl (l' := #[.val (.int p0), .val (.int p1), .val (.int p2), .val (.int p3), .val (.int p4), .val (.int p5), .val (.int y0), .val (.int y1), .val (.int (p2 &&& (2147483647 : Int32))), .unset, .unset, .unset, .unset, .unset, .unset, .unset, .unset, .unset, .unset, .unset, .unset, .unset, .unset]) rfl) ?_
  show Go p e below _ (s₁.setTop (mkF m 18 #[.val (.int p0), .val (.int p1), .val (.int p2), .val (.int p3), .val (.int p4), .val (.int p5), .val (.int y0), .val (.int y1), .val (.int (p2 &&& (2147483647 : Int32))), .unset, .unset, .unset, .unset, .unset, .unset, .unset, .unset, .unset, .unset, .unset, .unset, .unset, .unset] []))
  obtain ⟨y2, ey2⟩ : ∃ z, z = (p2 &&& (2147483647 : Int32)) := ⟨_, rfl⟩
  rw [← ey2]
  have hy2 : ¬ y2 < 0 := by rw [ey2]; exact own_nn _
  refine Go.st (fun _ => XS.iloadN X0.here hx rfl (hb hby at_18) rfl) ?_
  refine Go.st (fun _ => X0.ldcInt hx hown (mvT hZ (ww hw 0 rfl)) (g := (mkF m 19 #[.val (.int p0), .val (.int p1), .val (.int p2), .val (.int p3), .val (.int p4), .val (.int p5), .val (.int y0), .val (.int y1), .val (.int y2), .unset, .unset, .unset, .unset, .unset, .unset, .unset, .unset, .unset, .unset, .unset, .unset, .unset, .unset] [(.int p3)])) rfl (hb hby at_19) _) ?_
  refine Go.st (fun _ => XS.iand X0.here hx rfl (hb hby at_21) rfl) ?_
  show Go p e below _ (s₁.setTop (mkF m 22 #[.val (.int p0), .val (.int p1), .val (.int p2), .val (.int p3), .val (.int p4), .val (.int p5), .val (.int y0), .val (.int y1), .val (.int y2), .unset, .unset, .unset, .unset, .unset, .unset, .unset, .unset, .unset, .unset, .unset, .unset, .unset, .unset] [(.int (p3 &&& (2147483647 : Int32)))]))
  refine Go.st (fun _ => XS.istore X0.here hx rfl (hb hby at_22) rfl (l' := #[.val (.int p0), .val (.int p1), .val (.int p2), .val (.int p3), .val (.int p4), .val (.int p5), .val (.int y0), .val (.int y1), .val (.int y2), .val (.int (p3 &&& (2147483647 : Int32))), .unset, .unset, .unset, .unset, .unset, .unset, .unset, .unset, .unset, .unset, .unset, .unset, .unset]) rfl) ?_
  show Go p e below _ (s₁.setTop (mkF m 24 #[.val (.int p0), .val (.int p1), .val (.int p2), .val (.int p3), .val (.int p4), .val (.int p5), .val (.int y0), .val (.int y1), .val (.int y2), .val (.int (p3 &&& (2147483647 : Int32))), .unset, .unset, .unset, .unset, .unset, .unset, .unset, .unset, .unset, .unset, .unset, .unset, .unset] []))
  obtain ⟨y3, ey3⟩ : ∃ z, z = (p3 &&& (2147483647 : Int32)) := ⟨_, rfl⟩
  rw [← ey3]
  have hy3 : ¬ y3 < 0 := by rw [ey3]; exact own_nn _
  refine Go.st (fun _ => XS.iload X0.here hx rfl (hb hby at_24) rfl) ?_
  refine Go.st (fun _ => X0.ldcInt hx hown (mvT hZ (ww hw 0 rfl)) (g := (mkF m 26 #[.val (.int p0), .val (.int p1), .val (.int p2), .val (.int p3), .val (.int p4), .val (.int p5), .val (.int y0), .val (.int y1), .val (.int y2), .val (.int y3), .unset, .unset, .unset, .unset, .unset, .unset, .unset, .unset, .unset, .unset, .unset, .unset, .unset] [(.int p4)])) rfl (hb hby at_26) _) ?_
  refine Go.st (fun _ => XS.iand X0.here hx rfl (hb hby at_28) rfl) ?_
  show Go p e below _ (s₁.setTop (mkF m 29 #[.val (.int p0), .val (.int p1), .val (.int p2), .val (.int p3), .val (.int p4), .val (.int p5), .val (.int y0), .val (.int y1), .val (.int y2), .val (.int y3), .unset, .unset, .unset, .unset, .unset, .unset, .unset, .unset, .unset, .unset, .unset, .unset, .unset] [(.int (p4 &&& (2147483647 : Int32)))]))
  refine Go.st (fun _ => XS.istore X0.here hx rfl (hb hby at_29) rfl (l' := #[.val (.int p0), .val (.int p1), .val (.int p2), .val (.int p3), .val (.int p4), .val (.int p5), .val (.int y0), .val (.int y1), .val (.int y2), .val (.int y3), .val (.int (p4 &&& (2147483647 : Int32))), .unset, .unset, .unset, .unset, .unset, .unset, .unset, .unset, .unset, .unset, .unset, .unset]) rfl) ?_
  show Go p e below _ (s₁.setTop (mkF m 31 #[.val (.int p0), .val (.int p1), .val (.int p2), .val (.int p3), .val (.int p4), .val (.int p5), .val (.int y0), .val (.int y1), .val (.int y2), .val (.int y3), .val (.int (p4 &&& (2147483647 : Int32))), .unset, .unset, .unset, .unset, .unset, .unset, .unset, .unset, .unset, .unset, .unset, .unset] []))
  obtain ⟨y4, ey4⟩ : ∃ z, z = (p4 &&& (2147483647 : Int32)) := ⟨_, rfl⟩
  rw [← ey4]
  have hy4 : ¬ y4 < 0 := by rw [ey4]; exact own_nn _
  refine Go.st (fun _ => XS.iload X0.here hx rfl (hb hby at_31) rfl) ?_
  refine Go.st (fun _ => X0.ldcInt hx hown (mvT hZ (ww hw 0 rfl)) (g := (mkF m 33 #[.val (.int p0), .val (.int p1), .val (.int p2), .val (.int p3), .val (.int p4), .val (.int p5), .val (.int y0), .val (.int y1), .val (.int y2), .val (.int y3), .val (.int y4), .unset, .unset, .unset, .unset, .unset, .unset, .unset, .unset, .unset, .unset, .unset, .unset] [(.int p5)])) rfl (hb hby at_33) _) ?_
  refine Go.st (fun _ => XS.iand X0.here hx rfl (hb hby at_35) rfl) ?_
  show Go p e below _ (s₁.setTop (mkF m 36 #[.val (.int p0), .val (.int p1), .val (.int p2), .val (.int p3), .val (.int p4), .val (.int p5), .val (.int y0), .val (.int y1), .val (.int y2), .val (.int y3), .val (.int y4), .unset, .unset, .unset, .unset, .unset, .unset, .unset, .unset, .unset, .unset, .unset, .unset] [(.int (p5 &&& (2147483647 : Int32)))]))
  refine Go.st (fun _ => XS.istore X0.here hx rfl (hb hby at_36) rfl (l' := #[.val (.int p0), .val (.int p1), .val (.int p2), .val (.int p3), .val (.int p4), .val (.int p5), .val (.int y0), .val (.int y1), .val (.int y2), .val (.int y3), .val (.int y4), .val (.int (p5 &&& (2147483647 : Int32))), .unset, .unset, .unset, .unset, .unset, .unset, .unset, .unset, .unset, .unset, .unset]) rfl) ?_
  show Go p e below _ (s₁.setTop (mkF m 38 #[.val (.int p0), .val (.int p1), .val (.int p2), .val (.int p3), .val (.int p4), .val (.int p5), .val (.int y0), .val (.int y1), .val (.int y2), .val (.int y3), .val (.int y4), .val (.int (p5 &&& (2147483647 : Int32))), .unset, .unset, .unset, .unset, .unset, .unset, .unset, .unset, .unset, .unset, .unset] []))
  obtain ⟨y5, ey5⟩ : ∃ z, z = (p5 &&& (2147483647 : Int32)) := ⟨_, rfl⟩
  rw [← ey5]
  have hy5 : ¬ y5 < 0 := by rw [ey5]; exact own_nn _
  refine Go.st (fun _ => XS.iconst X0.here hx rfl (hb hby at_38)) ?_
  obtain ⟨T1, h1, k1, X1, e1, E1, A1, st1⟩ := newP X0 hx hZ (ww hw 1 rfl) e0 (g := (mkF m 39 #[.val (.int p0), .val (.int p1), .val (.int p2), .val (.int p3), .val (.int p4), .val (.int p5), .val (.int y0), .val (.int y1), .val (.int y2), .val (.int y3), .val (.int y4), .val (.int y5), .unset, .unset, .unset, .unset, .unset, .unset, .unset, .unset, .unset, .unset, .unset] [(.int (3 : Int32))])) rfl (hb hby at_39) rfl (by decide) (cap := 3) (by decide) (by decide) (by decide) (by decide)
  obtain ⟨ad1, g1⟩ : ∃ z, z = h0.size := ⟨_, rfl⟩
  rw [← g1] at A1 st1
  refine Go.st st1 ?_
  have gn1 : n0 ≤ ad1 := oldGe O0 g1
  have O2 := O0.ext E1
  have V_3 : Arv Z h1 ad1 k1 .int (3 : Int32) [(.int (0 : Int32)), (.int (0 : Int32)), (.int (0 : Int32))] (.int (0 : Int32)) := (Arv.new A1 (by decide)).pad (pad_rep [] (.int (0 : Int32)) 3)
  refine Go.st (fun _ => XS.dup X1.here hx rfl (hb hby at_41) rfl rfl) ?_
  show Go p e below _ (T1.setTop (mkF m 42 #[.val (.int p0), .val (.int p1), .val (.int p2), .val (.int p3), .val (.int p4), .val (.int p5), .val (.int y0), .val (.int y1), .val (.int y2), .val (.int y3), .val (.int y4), .val (.int y5), .unset, .unset, .unset, .unset, .unset, .unset, .unset, .unset, .unset, .unset, .unset] [(.ref ad1), (.ref ad1)]))
  refine Go.st (fun _ => XS.iconst X1.here hx rfl (hb hby at_42)) ?_
  refine Go.st (fun _ => XS.iload X1.here hx rfl (hb hby at_43) rfl) ?_
  obtain ⟨cl4, Ar4, qk4, Sz4, Nn4, Ha4, Ga4⟩ := id V_3
  have hin4 : ¬ ((0 : Int32) < 0 ∨ cl4.slots.size ≤ ((0 : Int32) : Int32).toNatClampNeg) := inb_of Sz4 ⟨by decide, by decide⟩
  obtain ⟨T4, h4, X4, e4, W4, st4⟩ := stI X1 hx hZ e1 Ar4 (j := (0 : Int32)) hin4 (g := (mkF m 45 #[.val (.int p0), .val (.int p1), .val (.int p2), .val (.int p3), .val (.int p4), .val (.int p5), .val (.int y0), .val (.int y1), .val (.int y2), .val (.int y3), .val (.int y4), .val (.int y5), .unset, .unset, .unset, .unset, .unset, .unset, .unset, .unset, .unset, .unset, .unset] [(.int y0), (.int (0 : Int32)), (.ref ad1), (.ref ad1)])) rfl rfl (hb hby at_45)
  refine Go.st st4 ?_
  have O5 := O2.wr W4 gn1
  have V_6 : Arv Z h4 ad1 k1 .int (3 : Int32) [(.int y0), (.int (0 : Int32)), (.int (0 : Int32))] (.int (0 : Int32)) := Arv.set Ar4 qk4 Sz4 Nn4 Ha4 Ga4 rfl W4 0 rfl (Nat.le_of_ble_eq_true rfl)
  have N4 := Fr.snoc X4 N0 gn1
  refine Go.st (fun _ => XS.dup X4.here hx rfl (hb hby at_46) rfl rfl) ?_
  show Go p e below _ (T4.setTop (mkF m 47 #[.val (.int p0), .val (.int p1), .val (.int p2), .val (.int p3), .val (.int p4), .val (.int p5), .val (.int y0), .val (.int y1), .val (.int y2), .val (.int y3), .val (.int y4), .val (.int y5), .unset, .unset, .unset, .unset, .unset, .unset, .unset, .unset, .unset, .unset, .unset] [(.ref ad1), (.ref ad1)]))
  refine Go.st (fun _ => XS.iconst X4.here hx rfl (hb hby at_47)) ?_
  refine Go.st (fun _ => XS.iload X4.here hx rfl (hb hby at_48) rfl) ?_
  obtain ⟨cl7, Ar7, qk7, Sz7, Nn7, Ha7, Ga7⟩ := id V_6
  have hin7 : ¬ ((1 : Int32) < 0 ∨ cl7.slots.size ≤ ((1 : Int32) : Int32).toNatClampNeg) := inb_of Sz7 ⟨by decide, by decide⟩
  obtain ⟨T7, h7, X7, e7, W7, st7⟩ := stI X4 hx hZ e4 Ar7 (j := (1 : Int32)) hin7 (g := (mkF m 50 #[.val (.int p0), .val (.int p1), .val (.int p2), .val (.int p3), .val (.int p4), .val (.int p5), .val (.int y0), .val (.int y1), .val (.int y2), .val (.int y3), .val (.int y4), .val (.int y5), .unset, .unset, .unset, .unset, .unset, .unset, .unset, .unset, .unset, .unset, .unset] [(.int y1), (.int (1 : Int32)), (.ref ad1), (.ref ad1)])) rfl rfl (hb hby at_50)
  refine Go.st st7 ?_
  have O8 := O5.wr W7 gn1
  have V_9 : Arv Z h7 ad1 k1 .int (3 : Int32) [(.int y0), (.int y1), (.int (0 : Int32))] (.int (0 : Int32)) := Arv.set Ar7 qk7 Sz7 Nn7 Ha7 Ga7 rfl W7 1 rfl (Nat.le_of_ble_eq_true rfl)
  have N7 := Fr.snoc X7 N4 gn1
  refine Go.st (fun _ => XS.dup X7.here hx rfl (hb hby at_51) rfl rfl) ?_
  show Go p e below _ (T7.setTop (mkF m 52 #[.val (.int p0), .val (.int p1), .val (.int p2), .val (.int p3), .val (.int p4), .val (.int p5), .val (.int y0), .val (.int y1), .val (.int y2), .val (.int y3), .val (.int y4), .val (.int y5), .unset, .unset, .unset, .unset, .unset, .unset, .unset, .unset, .unset, .unset, .unset] [(.ref ad1), (.ref ad1)]))
  refine Go.st (fun _ => XS.iconst X7.here hx rfl (hb hby at_52)) ?_
  refine Go.st (fun _ => XS.iload X7.here hx rfl (hb hby at_53) rfl) ?_
  obtain ⟨cl10, Ar10, qk10, Sz10, Nn10, Ha10, Ga10⟩ := id V_9
  have hin10 : ¬ ((2 : Int32) < 0 ∨ cl10.slots.size ≤ ((2 : Int32) : Int32).toNatClampNeg) := inb_of Sz10 ⟨by decide, by decide⟩
  obtain ⟨T10, h10, X10, e10, W10, st10⟩ := stI X7 hx hZ e7 Ar10 (j := (2 : Int32)) hin10 (g := (mkF m 55 #[.val (.int p0), .val (.int p1), .val (.int p2), .val (.int p3), .val (.int p4), .val (.int p5), .val (.int y0), .val (.int y1), .val (.int y2), .val (.int y3), .val (.int y4), .val (.int y5), .unset, .unset, .unset, .unset, .unset, .unset, .unset, .unset, .unset, .unset, .unset] [(.int y2), (.int (2 : Int32)), (.ref ad1), (.ref ad1)])) rfl rfl (hb hby at_55)
  refine Go.st st10 ?_
  have O11 := O8.wr W10 gn1
  have V_12 : Arv Z h10 ad1 k1 .int (3 : Int32) [(.int y0), (.int y1), (.int y2)] (.int (0 : Int32)) := Arv.set Ar10 qk10 Sz10 Nn10 Ha10 Ga10 rfl W10 2 rfl (Nat.le_of_ble_eq_true rfl)
  have N10 := Fr.snoc X10 N7 gn1
  refine Go.st (fun _ => XS.astore X10.here hx rfl (hb hby at_56) rfl rfl (l' := #[.val (.int p0), .val (.int p1), .val (.int p2), .val (.int p3), .val (.int p4), .val (.int p5), .val (.int y0), .val (.int y1), .val (.int y2), .val (.int y3), .val (.int y4), .val (.int y5), .val (.ref ad1), .unset, .unset, .unset, .unset, .unset, .unset, .unset, .unset, .unset, .unset]) rfl) ?_
  show Go p e below _ (T10.setTop (mkF m 58 #[.val (.int p0), .val (.int p1), .val (.int p2), .val (.int p3), .val (.int p4), .val (.int p5), .val (.int y0), .val (.int y1), .val (.int y2), .val (.int y3), .val (.int y4), .val (.int y5), .val (.ref ad1), .unset, .unset, .unset, .unset, .unset, .unset, .unset, .unset, .unset, .unset] []))
  refine Go.st (fun _ => XS.iconst X10.here hx rfl (hb hby at_58)) ?_
  obtain ⟨T13, h13, k13, X13, e13, E13, A13, st13⟩ := newP X10 hx hZ (ww hw 1 rfl) e10 (g := (mkF m 59 #[.val (.int p0), .val (.int p1), .val (.int p2), .val (.int p3), .val (.int p4), .val (.int p5), .val (.int y0), .val (.int y1), .val (.int y2), .val (.int y3), .val (.int y4), .val (.int y5), .val (.ref ad1), .unset, .unset, .unset, .unset, .unset, .unset, .unset, .unset, .unset, .unset] [(.int (3 : Int32))])) rfl (hb hby at_59) rfl (by decide) (cap := 3) (by decide) (by decide) (by decide) (by decide)
  obtain ⟨ad13, g13⟩ : ∃ z, z = h10.size := ⟨_, rfl⟩
  rw [← g13] at A13 st13
  refine Go.st st13 ?_
  have gn13 : n0 ≤ ad13 := oldGe O11 g13
  have ne14 : ad1 ≠ ad13 := Nat.ne_of_lt (Nat.lt_of_lt_of_le V_12.lt (Nat.le_of_eq g13.symm))
  have O15 := O11.ext E13
  have V_16 := V_12.ext E13
  have V_17 : Arv Z h13 ad13 k13 .int (3 : Int32) [(.int (0 : Int32)), (.int (0 : Int32)), (.int (0 : Int32))] (.int (0 : Int32)) := (Arv.new A13 (by decide)).pad (pad_rep [] (.int (0 : Int32)) 3)
  refine Go.st (fun _ => XS.dup X13.here hx rfl (hb hby at_61) rfl rfl) ?_
  refine Go.st (fun _ => XS.iconst X13.here hx rfl (hb hby at_62)) ?_
  show Go p e below _ (T13.setTop (mkF m 63 #[.val (.int p0), .val (.int p1), .val (.int p2), .val (.int p3), .val (.int p4), .val (.int p5), .val (.int y0), .val (.int y1), .val (.int y2), .val (.int y3), .val (.int y4), .val (.int y5), .val (.ref ad1), .unset, .unset, .unset, .unset, .unset, .unset, .unset, .unset, .unset, .unset] [(.int (0 : Int32)), (.ref ad13), (.ref ad13)]))
  refine Go.st (fun _ => XS.iload X13.here hx rfl (hb hby at_63) rfl) ?_
  obtain ⟨cl18, Ar18, qk18, Sz18, Nn18, Ha18, Ga18⟩ := id V_17
  have hin18 : ¬ ((0 : Int32) < 0 ∨ cl18.slots.size ≤ ((0 : Int32) : Int32).toNatClampNeg) := inb_of Sz18 ⟨by decide, by decide⟩
  obtain ⟨T18, h18, X18, e18, W18, st18⟩ := stI X13 hx hZ e13 Ar18 (j := (0 : Int32)) hin18 (g := (mkF m 65 #[.val (.int p0), .val (.int p1), .val (.int p2), .val (.int p3), .val (.int p4), .val (.int p5), .val (.int y0), .val (.int y1), .val (.int y2), .val (.int y3), .val (.int y4), .val (.int y5), .val (.ref ad1), .unset, .unset, .unset, .unset, .unset, .unset, .unset, .unset, .unset, .unset] [(.int y3), (.int (0 : Int32)), (.ref ad13), (.ref ad13)])) rfl rfl (hb hby at_65)
  refine Go.st st18 ?_
  have O19 := O15.wr W18 gn13
  have V_20 := V_16.other W18 ne14
  have V_21 : Arv Z h18 ad13 k13 .int (3 : Int32) [(.int y3), (.int (0 : Int32)), (.int (0 : Int32))] (.int (0 : Int32)) := Arv.set Ar18 qk18 Sz18 Nn18 Ha18 Ga18 rfl W18 0 rfl (Nat.le_of_ble_eq_true rfl)
  have N18 := Fr.snoc X18 N10 gn13
  refine Go.st (fun _ => XS.dup X18.here hx rfl (hb hby at_66) rfl rfl) ?_
  refine Go.st (fun _ => XS.iconst X18.here hx rfl (hb hby at_67)) ?_
  show Go p e below _ (T18.setTop (mkF m 68 #[.val (.int p0), .val (.int p1), .val (.int p2), .val (.int p3), .val (.int p4), .val (.int p5), .val (.int y0), .val (.int y1), .val (.int y2), .val (.int y3), .val (.int y4), .val (.int y5), .val (.ref ad1), .unset, .unset, .unset, .unset, .unset, .unset, .unset, .unset, .unset, .unset] [(.int (1 : Int32)), (.ref ad13), (.ref ad13)]))
  refine Go.st (fun _ => XS.iload X18.here hx rfl (hb hby at_68) rfl) ?_
  obtain ⟨cl22, Ar22, qk22, Sz22, Nn22, Ha22, Ga22⟩ := id V_21
  have hin22 : ¬ ((1 : Int32) < 0 ∨ cl22.slots.size ≤ ((1 : Int32) : Int32).toNatClampNeg) := inb_of Sz22 ⟨by decide, by decide⟩
  obtain ⟨T22, h22, X22, e22, W22, st22⟩ := stI X18 hx hZ e18 Ar22 (j := (1 : Int32)) hin22 (g := (mkF m 70 #[.val (.int p0), .val (.int p1), .val (.int p2), .val (.int p3), .val (.int p4), .val (.int p5), .val (.int y0), .val (.int y1), .val (.int y2), .val (.int y3), .val (.int y4), .val (.int y5), .val (.ref ad1), .unset, .unset, .unset, .unset, .unset, .unset, .unset, .unset, .unset, .unset] [(.int y4), (.int (1 : Int32)), (.ref ad13), (.ref ad13)])) rfl rfl (hb hby at_70)
  refine Go.st st22 ?_
  have O23 := O19.wr W22 gn13
  have V_24 := V_20.other W22 ne14
  have V_25 : Arv Z h22 ad13 k13 .int (3 : Int32) [(.int y3), (.int y4), (.int (0 : Int32))] (.int (0 : Int32)) := Arv.set Ar22 qk22 Sz22 Nn22 Ha22 Ga22 rfl W22 1 rfl (Nat.le_of_ble_eq_true rfl)
  have N22 := Fr.snoc X22 N18 gn13
  refine Go.st (fun _ => XS.dup X22.here hx rfl (hb hby at_71) rfl rfl) ?_
  refine Go.st (fun _ => XS.iconst X22.here hx rfl (hb hby at_72)) ?_
  show Go p e below _ (T22.setTop (mkF m 73 #[.val (.int p0), .val (.int p1), .val (.int p2), .val (.int p3), .val (.int p4), .val (.int p5), .val (.int y0), .val (.int y1), .val (.int y2), .val (.int y3), .val (.int y4), .val (.int y5), .val (.ref ad1), .unset, .unset, .unset, .unset, .unset, .unset, .unset, .unset, .unset, .unset] [(.int (2 : Int32)), (.ref ad13), (.ref ad13)]))
  refine Go.st (fun _ => XS.iload X22.here hx rfl (hb hby at_73) rfl) ?_
  obtain ⟨cl26, Ar26, qk26, Sz26, Nn26, Ha26, Ga26⟩ := id V_25
  have hin26 : ¬ ((2 : Int32) < 0 ∨ cl26.slots.size ≤ ((2 : Int32) : Int32).toNatClampNeg) := inb_of Sz26 ⟨by decide, by decide⟩
  obtain ⟨T26, h26, X26, e26, W26, st26⟩ := stI X22 hx hZ e22 Ar26 (j := (2 : Int32)) hin26 (g := (mkF m 75 #[.val (.int p0), .val (.int p1), .val (.int p2), .val (.int p3), .val (.int p4), .val (.int p5), .val (.int y0), .val (.int y1), .val (.int y2), .val (.int y3), .val (.int y4), .val (.int y5), .val (.ref ad1), .unset, .unset, .unset, .unset, .unset, .unset, .unset, .unset, .unset, .unset] [(.int y5), (.int (2 : Int32)), (.ref ad13), (.ref ad13)])) rfl rfl (hb hby at_75)
  refine Go.st st26 ?_
  have O27 := O23.wr W26 gn13
  have V_28 := V_24.other W26 ne14
  have V_29 : Arv Z h26 ad13 k13 .int (3 : Int32) [(.int y3), (.int y4), (.int y5)] (.int (0 : Int32)) := Arv.set Ar26 qk26 Sz26 Nn26 Ha26 Ga26 rfl W26 2 rfl (Nat.le_of_ble_eq_true rfl)
  have N26 := Fr.snoc X26 N22 gn13
  refine Go.st (fun _ => XS.astore X26.here hx rfl (hb hby at_76) rfl rfl (l' := #[.val (.int p0), .val (.int p1), .val (.int p2), .val (.int p3), .val (.int p4), .val (.int p5), .val (.int y0), .val (.int y1), .val (.int y2), .val (.int y3), .val (.int y4), .val (.int y5), .val (.ref ad1), .val (.ref ad13), .unset, .unset, .unset, .unset, .unset, .unset, .unset, .unset, .unset]) rfl) ?_
  refine Go.st (fun _ => XS.iconst X26.here hx rfl (hb hby at_78)) ?_
  show Go p e below _ (T26.setTop (mkF m 79 #[.val (.int p0), .val (.int p1), .val (.int p2), .val (.int p3), .val (.int p4), .val (.int p5), .val (.int y0), .val (.int y1), .val (.int y2), .val (.int y3), .val (.int y4), .val (.int y5), .val (.ref ad1), .val (.ref ad13), .unset, .unset, .unset, .unset, .unset, .unset, .unset, .unset, .unset] [(.int (3 : Int32))]))
  obtain ⟨T30, h30, k30, X30, e30, E30, A30, st30⟩ := newP X26 hx hZ (ww hw 1 rfl) e26 (g := (mkF m 79 #[.val (.int p0), .val (.int p1), .val (.int p2), .val (.int p3), .val (.int p4), .val (.int p5), .val (.int y0), .val (.int y1), .val (.int y2), .val (.int y3), .val (.int y4), .val (.int y5), .val (.ref ad1), .val (.ref ad13), .unset, .unset, .unset, .unset, .unset, .unset, .unset, .unset, .unset] [(.int (3 : Int32))])) rfl (hb hby at_79) rfl (by decide) (cap := 3) (by decide) (by decide) (by decide) (by decide)
  obtain ⟨ad30, g30⟩ : ∃ z, z = h26.size := ⟨_, rfl⟩
  rw [← g30] at A30 st30
  refine Go.st st30 ?_
  have gn30 : n0 ≤ ad30 := oldGe O27 g30
  have ne31 : ad1 ≠ ad30 := Nat.ne_of_lt (Nat.lt_of_lt_of_le V_28.lt (Nat.le_of_eq g30.symm))
  have ne32 : ad13 ≠ ad30 := Nat.ne_of_lt (Nat.lt_of_lt_of_le V_29.lt (Nat.le_of_eq g30.symm))
  have O33 := O27.ext E30
  have V_34 := V_28.ext E30
  have V_35 := V_29.ext E30
  have V_36 : Arv Z h30 ad30 k30 .int (3 : Int32) [(.int (0 : Int32)), (.int (0 : Int32)), (.int (0 : Int32))] (.int (0 : Int32)) := (Arv.new A30 (by decide)).pad (pad_rep [] (.int (0 : Int32)) 3)
  refine Go.st (fun _ => XS.dup X30.here hx rfl (hb hby at_81) rfl rfl) ?_
  refine Go.st (fun _ => XS.iconst X30.here hx rfl (hb hby at_82)) ?_
  refine Go.st (fun _ => XS.iload X30.here hx rfl (hb hby at_83) rfl) ?_
  show Go p e below _ (T30.setTop (mkF m 85 #[.val (.int p0), .val (.int p1), .val (.int p2), .val (.int p3), .val (.int p4), .val (.int p5), .val (.int y0), .val (.int y1), .val (.int y2), .val (.int y3), .val (.int y4), .val (.int y5), .val (.ref ad1), .val (.ref ad13), .unset, .unset, .unset, .unset, .unset, .unset, .unset, .unset, .unset] [(.int y5), (.int (0 : Int32)), (.ref ad30), (.ref ad30)]))
  obtain ⟨cl37, Ar37, qk37, Sz37, Nn37, Ha37, Ga37⟩ := id V_36
  have hin37 : ¬ ((0 : Int32) < 0 ∨ cl37.slots.size ≤ ((0 : Int32) : Int32).toNatClampNeg) := inb_of Sz37 ⟨by decide, by decide⟩
  obtain ⟨T37, h37, X37, e37, W37, st37⟩ := stI X30 hx hZ e30 Ar37 (j := (0 : Int32)) hin37 (g := (mkF m 85 #[.val (.int p0), .val (.int p1), .val (.int p2), .val (.int p3), .val (.int p4), .val (.int p5), .val (.int y0), .val (.int y1), .val (.int y2), .val (.int y3), .val (.int y4), .val (.int y5), .val (.ref ad1), .val (.ref ad13), .unset, .unset, .unset, .unset, .unset, .unset, .unset, .unset, .unset] [(.int y5), (.int (0 : Int32)), (.ref ad30), (.ref ad30)])) rfl rfl (hb hby at_85)
  refine Go.st st37 ?_
  have O38 := O33.wr W37 gn30
  have V_39 := V_34.other W37 ne31
  have V_40 := V_35.other W37 ne32
  have V_41 : Arv Z h37 ad30 k30 .int (3 : Int32) [(.int y5), (.int (0 : Int32)), (.int (0 : Int32))] (.int (0 : Int32)) := Arv.set Ar37 qk37 Sz37 Nn37 Ha37 Ga37 rfl W37 0 rfl (Nat.le_of_ble_eq_true rfl)
  have N37 := Fr.snoc X37 N26 gn30
  refine Go.st (fun _ => XS.dup X37.here hx rfl (hb hby at_86) rfl rfl) ?_
  refine Go.st (fun _ => XS.iconst X37.here hx rfl (hb hby at_87)) ?_
  refine Go.st (fun _ => XS.iload X37.here hx rfl (hb hby at_88) rfl) ?_
  show Go p e below _ (T37.setTop (mkF m 90 #[.val (.int p0), .val (.int p1), .val (.int p2), .val (.int p3), .val (.int p4), .val (.int p5), .val (.int y0), .val (.int y1), .val (.int y2), .val (.int y3), .val (.int y4), .val (.int y5), .val (.ref ad1), .val (.ref ad13), .unset, .unset, .unset, .unset, .unset, .unset, .unset, .unset, .unset] [(.int y0), (.int (1 : Int32)), (.ref ad30), (.ref ad30)]))
  obtain ⟨cl42, Ar42, qk42, Sz42, Nn42, Ha42, Ga42⟩ := id V_41
  have hin42 : ¬ ((1 : Int32) < 0 ∨ cl42.slots.size ≤ ((1 : Int32) : Int32).toNatClampNeg) := inb_of Sz42 ⟨by decide, by decide⟩
  obtain ⟨T42, h42, X42, e42, W42, st42⟩ := stI X37 hx hZ e37 Ar42 (j := (1 : Int32)) hin42 (g := (mkF m 90 #[.val (.int p0), .val (.int p1), .val (.int p2), .val (.int p3), .val (.int p4), .val (.int p5), .val (.int y0), .val (.int y1), .val (.int y2), .val (.int y3), .val (.int y4), .val (.int y5), .val (.ref ad1), .val (.ref ad13), .unset, .unset, .unset, .unset, .unset, .unset, .unset, .unset, .unset] [(.int y0), (.int (1 : Int32)), (.ref ad30), (.ref ad30)])) rfl rfl (hb hby at_90)
  refine Go.st st42 ?_
  have O43 := O38.wr W42 gn30
  have V_44 := V_39.other W42 ne31
  have V_45 := V_40.other W42 ne32
  have V_46 : Arv Z h42 ad30 k30 .int (3 : Int32) [(.int y5), (.int y0), (.int (0 : Int32))] (.int (0 : Int32)) := Arv.set Ar42 qk42 Sz42 Nn42 Ha42 Ga42 rfl W42 1 rfl (Nat.le_of_ble_eq_true rfl)
  have N42 := Fr.snoc X42 N37 gn30
  refine Go.st (fun _ => XS.dup X42.here hx rfl (hb hby at_91) rfl rfl) ?_
  refine Go.st (fun _ => XS.iconst X42.here hx rfl (hb hby at_92)) ?_
  refine Go.st (fun _ => XS.iload X42.here hx rfl (hb hby at_93) rfl) ?_
  show Go p e below _ (T42.setTop (mkF m 95 #[.val (.int p0), .val (.int p1), .val (.int p2), .val (.int p3), .val (.int p4), .val (.int p5), .val (.int y0), .val (.int y1), .val (.int y2), .val (.int y3), .val (.int y4), .val (.int y5), .val (.ref ad1), .val (.ref ad13), .unset, .unset, .unset, .unset, .unset, .unset, .unset, .unset, .unset] [(.int y4), (.int (2 : Int32)), (.ref ad30), (.ref ad30)]))
  obtain ⟨cl47, Ar47, qk47, Sz47, Nn47, Ha47, Ga47⟩ := id V_46
  have hin47 : ¬ ((2 : Int32) < 0 ∨ cl47.slots.size ≤ ((2 : Int32) : Int32).toNatClampNeg) := inb_of Sz47 ⟨by decide, by decide⟩
  obtain ⟨T47, h47, X47, e47, W47, st47⟩ := stI X42 hx hZ e42 Ar47 (j := (2 : Int32)) hin47 (g := (mkF m 95 #[.val (.int p0), .val (.int p1), .val (.int p2), .val (.int p3), .val (.int p4), .val (.int p5), .val (.int y0), .val (.int y1), .val (.int y2), .val (.int y3), .val (.int y4), .val (.int y5), .val (.ref ad1), .val (.ref ad13), .unset, .unset, .unset, .unset, .unset, .unset, .unset, .unset, .unset] [(.int y4), (.int (2 : Int32)), (.ref ad30), (.ref ad30)])) rfl rfl (hb hby at_95)
  refine Go.st st47 ?_
  have O48 := O43.wr W47 gn30
  have V_49 := V_44.other W47 ne31
  have V_50 := V_45.other W47 ne32
  have V_51 : Arv Z h47 ad30 k30 .int (3 : Int32) [(.int y5), (.int y0), (.int y4)] (.int (0 : Int32)) := Arv.set Ar47 qk47 Sz47 Nn47 Ha47 Ga47 rfl W47 2 rfl (Nat.le_of_ble_eq_true rfl)
  have N47 := Fr.snoc X47 N42 gn30
  refine Go.st (fun _ => XS.astore X47.here hx rfl (hb hby at_96) rfl rfl (l' := #[.val (.int p0), .val (.int p1), .val (.int p2), .val (.int p3), .val (.int p4), .val (.int p5), .val (.int y0), .val (.int y1), .val (.int y2), .val (.int y3), .val (.int y4), .val (.int y5), .val (.ref ad1), .val (.ref ad13), .val (.ref ad30), .unset, .unset, .unset, .unset, .unset, .unset, .unset, .unset]) rfl) ?_
  refine Go.st (fun _ => XS.iconst X47.here hx rfl (hb hby at_98)) ?_
  obtain ⟨T52, h52, k52, X52, e52, E52, A52, st52⟩ := newP X47 hx hZ (ww hw 1 rfl) e47 (g := (mkF m 99 #[.val (.int p0), .val (.int p1), .val (.int p2), .val (.int p3), .val (.int p4), .val (.int p5), .val (.int y0), .val (.int y1), .val (.int y2), .val (.int y3), .val (.int y4), .val (.int y5), .val (.ref ad1), .val (.ref ad13), .val (.ref ad30), .unset, .unset, .unset, .unset, .unset, .unset, .unset, .unset] [(.int (3 : Int32))])) rfl (hb hby at_99) rfl (by decide) (cap := 3) (by decide) (by decide) (by decide) (by decide)
  obtain ⟨ad52, g52⟩ : ∃ z, z = h47.size := ⟨_, rfl⟩
  rw [← g52] at A52 st52
  refine Go.st st52 ?_
  have gn52 : n0 ≤ ad52 := oldGe O48 g52
  have ne53 : ad1 ≠ ad52 := Nat.ne_of_lt (Nat.lt_of_lt_of_le V_49.lt (Nat.le_of_eq g52.symm))
  have ne54 : ad13 ≠ ad52 := Nat.ne_of_lt (Nat.lt_of_lt_of_le V_50.lt (Nat.le_of_eq g52.symm))
  have ne55 : ad30 ≠ ad52 := Nat.ne_of_lt (Nat.lt_of_lt_of_le V_51.lt (Nat.le_of_eq g52.symm))
  have O56 := O48.ext E52
  have V_57 := V_49.ext E52
  have V_58 := V_50.ext E52
  have V_59 := V_51.ext E52
  have V_60 : Arv Z h52 ad52 k52 .int (3 : Int32) [(.int (0 : Int32)), (.int (0 : Int32)), (.int (0 : Int32))] (.int (0 : Int32)) := (Arv.new A52 (by decide)).pad (pad_rep [] (.int (0 : Int32)) 3)
  show Go p e below _ (T52.setTop (mkF m 101 #[.val (.int p0), .val (.int p1), .val (.int p2), .val (.int p3), .val (.int p4), .val (.int p5), .val (.int y0), .val (.int y1), .val (.int y2), .val (.int y3), .val (.int y4), .val (.int y5), .val (.ref ad1), .val (.ref ad13), .val (.ref ad30), .unset, .unset, .unset, .unset, .unset, .unset, .unset, .unset] [(.ref ad52)]))
  refine Go.st (fun _ => XS.dup X52.here hx rfl (hb hby at_101) rfl rfl) ?_
  refine Go.st (fun _ => XS.iconst X52.here hx rfl (hb hby at_102)) ?_
  refine Go.st (fun _ => XS.iconst X52.here hx rfl (hb hby at_103)) ?_
  obtain ⟨cl61, Ar61, qk61, Sz61, Nn61, Ha61, Ga61⟩ := id V_60
  have hin61 : ¬ ((0 : Int32) < 0 ∨ cl61.slots.size ≤ ((0 : Int32) : Int32).toNatClampNeg) := inb_of Sz61 ⟨by decide, by decide⟩
  obtain ⟨T61, h61, X61, e61, W61, st61⟩ := stI X52 hx hZ e52 Ar61 (j := (0 : Int32)) hin61 (g := (mkF m 104 #[.val (.int p0), .val (.int p1), .val (.int p2), .val (.int p3), .val (.int p4), .val (.int p5), .val (.int y0), .val (.int y1), .val (.int y2), .val (.int y3), .val (.int y4), .val (.int y5), .val (.ref ad1), .val (.ref ad13), .val (.ref ad30), .unset, .unset, .unset, .unset, .unset, .unset, .unset, .unset] [(.int (-1 : Int32)), (.int (0 : Int32)), (.ref ad52), (.ref ad52)])) rfl rfl (hb hby at_104)
  refine Go.st st61 ?_
  have O62 := O56.wr W61 gn52
  have V_63 := V_57.other W61 ne53
  have V_64 := V_58.other W61 ne54
  have V_65 := V_59.other W61 ne55
  have V_66 : Arv Z h61 ad52 k52 .int (3 : Int32) [(.int (-1 : Int32)), (.int (0 : Int32)), (.int (0 : Int32))] (.int (0 : Int32)) := Arv.set Ar61 qk61 Sz61 Nn61 Ha61 Ga61 rfl W61 0 rfl (Nat.le_of_ble_eq_true rfl)
  have N61 := Fr.snoc X61 N47 gn52
  show Go p e below _ (T61.setTop (mkF m 105 #[.val (.int p0), .val (.int p1), .val (.int p2), .val (.int p3), .val (.int p4), .val (.int p5), .val (.int y0), .val (.int y1), .val (.int y2), .val (.int y3), .val (.int y4), .val (.int y5), .val (.ref ad1), .val (.ref ad13), .val (.ref ad30), .unset, .unset, .unset, .unset, .unset, .unset, .unset, .unset] [(.ref ad52)]))
  refine Go.st (fun _ => XS.dup X61.here hx rfl (hb hby at_105) rfl rfl) ?_
  refine Go.st (fun _ => XS.iconst X61.here hx rfl (hb hby at_106)) ?_
  refine Go.st (fun _ => XS.iconst X61.here hx rfl (hb hby at_107)) ?_
  obtain ⟨cl67, Ar67, qk67, Sz67, Nn67, Ha67, Ga67⟩ := id V_66
  have hin67 : ¬ ((1 : Int32) < 0 ∨ cl67.slots.size ≤ ((1 : Int32) : Int32).toNatClampNeg) := inb_of Sz67 ⟨by decide, by decide⟩
  obtain ⟨T67, h67, X67, e67, W67, st67⟩ := stI X61 hx hZ e61 Ar67 (j := (1 : Int32)) hin67 (g := (mkF m 108 #[.val (.int p0), .val (.int p1), .val (.int p2), .val (.int p3), .val (.int p4), .val (.int p5), .val (.int y0), .val (.int y1), .val (.int y2), .val (.int y3), .val (.int y4), .val (.int y5), .val (.ref ad1), .val (.ref ad13), .val (.ref ad30), .unset, .unset, .unset, .unset, .unset, .unset, .unset, .unset] [(.int (-1 : Int32)), (.int (1 : Int32)), (.ref ad52), (.ref ad52)])) rfl rfl (hb hby at_108)
  refine Go.st st67 ?_
  have O68 := O62.wr W67 gn52
  have V_69 := V_63.other W67 ne53
  have V_70 := V_64.other W67 ne54
  have V_71 := V_65.other W67 ne55
  have V_72 : Arv Z h67 ad52 k52 .int (3 : Int32) [(.int (-1 : Int32)), (.int (-1 : Int32)), (.int (0 : Int32))] (.int (0 : Int32)) := Arv.set Ar67 qk67 Sz67 Nn67 Ha67 Ga67 rfl W67 1 rfl (Nat.le_of_ble_eq_true rfl)
  have N67 := Fr.snoc X67 N61 gn52
  show Go p e below _ (T67.setTop (mkF m 109 #[.val (.int p0), .val (.int p1), .val (.int p2), .val (.int p3), .val (.int p4), .val (.int p5), .val (.int y0), .val (.int y1), .val (.int y2), .val (.int y3), .val (.int y4), .val (.int y5), .val (.ref ad1), .val (.ref ad13), .val (.ref ad30), .unset, .unset, .unset, .unset, .unset, .unset, .unset, .unset] [(.ref ad52)]))
  refine Go.st (fun _ => XS.dup X67.here hx rfl (hb hby at_109) rfl rfl) ?_
  refine Go.st (fun _ => XS.iconst X67.here hx rfl (hb hby at_110)) ?_
  refine Go.st (fun _ => XS.iconst X67.here hx rfl (hb hby at_111)) ?_
  obtain ⟨cl73, Ar73, qk73, Sz73, Nn73, Ha73, Ga73⟩ := id V_72
  have hin73 : ¬ ((2 : Int32) < 0 ∨ cl73.slots.size ≤ ((2 : Int32) : Int32).toNatClampNeg) := inb_of Sz73 ⟨by decide, by decide⟩
  obtain ⟨T73, h73, X73, e73, W73, st73⟩ := stI X67 hx hZ e67 Ar73 (j := (2 : Int32)) hin73 (g := (mkF m 112 #[.val (.int p0), .val (.int p1), .val (.int p2), .val (.int p3), .val (.int p4), .val (.int p5), .val (.int y0), .val (.int y1), .val (.int y2), .val (.int y3), .val (.int y4), .val (.int y5), .val (.ref ad1), .val (.ref ad13), .val (.ref ad30), .unset, .unset, .unset, .unset, .unset, .unset, .unset, .unset] [(.int (-1 : Int32)), (.int (2 : Int32)), (.ref ad52), (.ref ad52)])) rfl rfl (hb hby at_112)
  refine Go.st st73 ?_
  have O74 := O68.wr W73 gn52
  have V_75 := V_69.other W73 ne53
  have V_76 := V_70.other W73 ne54
  have V_77 := V_71.other W73 ne55
  have V_78 : Arv Z h73 ad52 k52 .int (3 : Int32) [(.int (-1 : Int32)), (.int (-1 : Int32)), (.int (-1 : Int32))] (.int (0 : Int32)) := Arv.set Ar73 qk73 Sz73 Nn73 Ha73 Ga73 rfl W73 2 rfl (Nat.le_of_ble_eq_true rfl)
  have N73 := Fr.snoc X73 N67 gn52
  show Go p e below _ (T73.setTop (mkF m 113 #[.val (.int p0), .val (.int p1), .val (.int p2), .val (.int p3), .val (.int p4), .val (.int p5), .val (.int y0), .val (.int y1), .val (.int y2), .val (.int y3), .val (.int y4), .val (.int y5), .val (.ref ad1), .val (.ref ad13), .val (.ref ad30), .unset, .unset, .unset, .unset, .unset, .unset, .unset, .unset] [(.ref ad52)]))
  refine Go.st (fun _ => XS.astore X73.here hx rfl (hb hby at_113) rfl rfl (l' := #[.val (.int p0), .val (.int p1), .val (.int p2), .val (.int p3), .val (.int p4), .val (.int p5), .val (.int y0), .val (.int y1), .val (.int y2), .val (.int y3), .val (.int y4), .val (.int y5), .val (.ref ad1), .val (.ref ad13), .val (.ref ad30), .val (.ref ad52), .unset, .unset, .unset, .unset, .unset, .unset, .unset]) rfl) ?_
  refine Go.st (fun _ => XS.iconst X73.here hx rfl (hb hby at_115)) ?_
  obtain ⟨T79, h79, k79, X79, e79, E79, A79, st79⟩ := newP X73 hx hZ (ww hw 1 rfl) e73 (g := (mkF m 116 #[.val (.int p0), .val (.int p1), .val (.int p2), .val (.int p3), .val (.int p4), .val (.int p5), .val (.int y0), .val (.int y1), .val (.int y2), .val (.int y3), .val (.int y4), .val (.int y5), .val (.ref ad1), .val (.ref ad13), .val (.ref ad30), .val (.ref ad52), .unset, .unset, .unset, .unset, .unset, .unset, .unset] [(.int (3 : Int32))])) rfl (hb hby at_116) rfl (by decide) (cap := 3) (by decide) (by decide) (by decide) (by decide)
  obtain ⟨ad79, g79⟩ : ∃ z, z = h73.size := ⟨_, rfl⟩
  rw [← g79] at A79 st79
  refine Go.st st79 ?_
  have gn79 : n0 ≤ ad79 := oldGe O74 g79
  have ne80 : ad1 ≠ ad79 := Nat.ne_of_lt (Nat.lt_of_lt_of_le V_75.lt (Nat.le_of_eq g79.symm))
  have ne81 : ad13 ≠ ad79 := Nat.ne_of_lt (Nat.lt_of_lt_of_le V_76.lt (Nat.le_of_eq g79.symm))
  have ne82 : ad30 ≠ ad79 := Nat.ne_of_lt (Nat.lt_of_lt_of_le V_77.lt (Nat.le_of_eq g79.symm))
  have ne83 : ad52 ≠ ad79 := Nat.ne_of_lt (Nat.lt_of_lt_of_le V_78.lt (Nat.le_of_eq g79.symm))
  have O84 := O74.ext E79
  have V_85 := V_75.ext E79
  have V_86 := V_76.ext E79
  have V_87 := V_77.ext E79
  have V_88 := V_78.ext E79
  have V_89 : Arv Z h79 ad79 k79 .int (3 : Int32) [(.int (0 : Int32)), (.int (0 : Int32)), (.int (0 : Int32))] (.int (0 : Int32)) := (Arv.new A79 (by decide)).pad (pad_rep [] (.int (0 : Int32)) 3)
  refine Go.st (fun _ => XS.dup X79.here hx rfl (hb hby at_118) rfl rfl) ?_
  show Go p e below _ (T79.setTop (mkF m 119 #[.val (.int p0), .val (.int p1), .val (.int p2), .val (.int p3), .val (.int p4), .val (.int p5), .val (.int y0), .val (.int y1), .val (.int y2), .val (.int y3), .val (.int y4), .val (.int y5), .val (.ref ad1), .val (.ref ad13), .val (.ref ad30), .val (.ref ad52), .unset, .unset, .unset, .unset, .unset, .unset, .unset] [(.ref ad79), (.ref ad79)]))
  refine Go.st (fun _ => XS.iconst X79.here hx rfl (hb hby at_119)) ?_
  refine Go.st (fun _ => XS.iconst X79.here hx rfl (hb hby at_120)) ?_
  obtain ⟨cl90, Ar90, qk90, Sz90, Nn90, Ha90, Ga90⟩ := id V_89
  have hin90 : ¬ ((0 : Int32) < 0 ∨ cl90.slots.size ≤ ((0 : Int32) : Int32).toNatClampNeg) := inb_of Sz90 ⟨by decide, by decide⟩
  obtain ⟨T90, h90, X90, e90, W90, st90⟩ := stI X79 hx hZ e79 Ar90 (j := (0 : Int32)) hin90 (g := (mkF m 121 #[.val (.int p0), .val (.int p1), .val (.int p2), .val (.int p3), .val (.int p4), .val (.int p5), .val (.int y0), .val (.int y1), .val (.int y2), .val (.int y3), .val (.int y4), .val (.int y5), .val (.ref ad1), .val (.ref ad13), .val (.ref ad30), .val (.ref ad52), .unset, .unset, .unset, .unset, .unset, .unset, .unset] [(.int (-1 : Int32)), (.int (0 : Int32)), (.ref ad79), (.ref ad79)])) rfl rfl (hb hby at_121)
  refine Go.st st90 ?_
  have O91 := O84.wr W90 gn79
  have V_92 := V_85.other W90 ne80
  have V_93 := V_86.other W90 ne81
  have V_94 := V_87.other W90 ne82
  have V_95 := V_88.other W90 ne83
  have V_96 : Arv Z h90 ad79 k79 .int (3 : Int32) [(.int (-1 : Int32)), (.int (0 : Int32)), (.int (0 : Int32))] (.int (0 : Int32)) := Arv.set Ar90 qk90 Sz90 Nn90 Ha90 Ga90 rfl W90 0 rfl (Nat.le_of_ble_eq_true rfl)
  have N90 := Fr.snoc X90 N73 gn79
  refine Go.st (fun _ => XS.dup X90.here hx rfl (hb hby at_122) rfl rfl) ?_
  show Go p e below _ (T90.setTop (mkF m 123 #[.val (.int p0), .val (.int p1), .val (.int p2), .val (.int p3), .val (.int p4), .val (.int p5), .val (.int y0), .val (.int y1), .val (.int y2), .val (.int y3), .val (.int y4), .val (.int y5), .val (.ref ad1), .val (.ref ad13), .val (.ref ad30), .val (.ref ad52), .unset, .unset, .unset, .unset, .unset, .unset, .unset] [(.ref ad79), (.ref ad79)]))
  refine Go.st (fun _ => XS.iconst X90.here hx rfl (hb hby at_123)) ?_
  refine Go.st (fun _ => XS.iconst X90.here hx rfl (hb hby at_124)) ?_
  obtain ⟨cl97, Ar97, qk97, Sz97, Nn97, Ha97, Ga97⟩ := id V_96
  have hin97 : ¬ ((1 : Int32) < 0 ∨ cl97.slots.size ≤ ((1 : Int32) : Int32).toNatClampNeg) := inb_of Sz97 ⟨by decide, by decide⟩
  obtain ⟨T97, h97, X97, e97, W97, st97⟩ := stI X90 hx hZ e90 Ar97 (j := (1 : Int32)) hin97 (g := (mkF m 125 #[.val (.int p0), .val (.int p1), .val (.int p2), .val (.int p3), .val (.int p4), .val (.int p5), .val (.int y0), .val (.int y1), .val (.int y2), .val (.int y3), .val (.int y4), .val (.int y5), .val (.ref ad1), .val (.ref ad13), .val (.ref ad30), .val (.ref ad52), .unset, .unset, .unset, .unset, .unset, .unset, .unset] [(.int (-1 : Int32)), (.int (1 : Int32)), (.ref ad79), (.ref ad79)])) rfl rfl (hb hby at_125)
  refine Go.st st97 ?_
  have O98 := O91.wr W97 gn79
  have V_99 := V_92.other W97 ne80
  have V_100 := V_93.other W97 ne81
  have V_101 := V_94.other W97 ne82
  have V_102 := V_95.other W97 ne83
  have V_103 : Arv Z h97 ad79 k79 .int (3 : Int32) [(.int (-1 : Int32)), (.int (-1 : Int32)), (.int (0 : Int32))] (.int (0 : Int32)) := Arv.set Ar97 qk97 Sz97 Nn97 Ha97 Ga97 rfl W97 1 rfl (Nat.le_of_ble_eq_true rfl)
  have N97 := Fr.snoc X97 N90 gn79
  refine Go.st (fun _ => XS.dup X97.here hx rfl (hb hby at_126) rfl rfl) ?_
  show Go p e below _ (T97.setTop (mkF m 127 #[.val (.int p0), .val (.int p1), .val (.int p2), .val (.int p3), .val (.int p4), .val (.int p5), .val (.int y0), .val (.int y1), .val (.int y2), .val (.int y3), .val (.int y4), .val (.int y5), .val (.ref ad1), .val (.ref ad13), .val (.ref ad30), .val (.ref ad52), .unset, .unset, .unset, .unset, .unset, .unset, .unset] [(.ref ad79), (.ref ad79)]))
  refine Go.st (fun _ => XS.iconst X97.here hx rfl (hb hby at_127)) ?_
  refine Go.st (fun _ => XS.iconst X97.here hx rfl (hb hby at_128)) ?_
  obtain ⟨cl104, Ar104, qk104, Sz104, Nn104, Ha104, Ga104⟩ := id V_103
  have hin104 : ¬ ((2 : Int32) < 0 ∨ cl104.slots.size ≤ ((2 : Int32) : Int32).toNatClampNeg) := inb_of Sz104 ⟨by decide, by decide⟩
  obtain ⟨T104, h104, X104, e104, W104, st104⟩ := stI X97 hx hZ e97 Ar104 (j := (2 : Int32)) hin104 (g := (mkF m 129 #[.val (.int p0), .val (.int p1), .val (.int p2), .val (.int p3), .val (.int p4), .val (.int p5), .val (.int y0), .val (.int y1), .val (.int y2), .val (.int y3), .val (.int y4), .val (.int y5), .val (.ref ad1), .val (.ref ad13), .val (.ref ad30), .val (.ref ad52), .unset, .unset, .unset, .unset, .unset, .unset, .unset] [(.int (-1 : Int32)), (.int (2 : Int32)), (.ref ad79), (.ref ad79)])) rfl rfl (hb hby at_129)
  refine Go.st st104 ?_
  have O105 := O98.wr W104 gn79
  have V_106 := V_99.other W104 ne80
  have V_107 := V_100.other W104 ne81
  have V_108 := V_101.other W104 ne82
  have V_109 := V_102.other W104 ne83
  have V_110 : Arv Z h104 ad79 k79 .int (3 : Int32) [(.int (-1 : Int32)), (.int (-1 : Int32)), (.int (-1 : Int32))] (.int (0 : Int32)) := Arv.set Ar104 qk104 Sz104 Nn104 Ha104 Ga104 rfl W104 2 rfl (Nat.le_of_ble_eq_true rfl)
  have N104 := Fr.snoc X104 N97 gn79
  refine Go.st (fun _ => XS.astore X104.here hx rfl (hb hby at_130) rfl rfl (l' := #[.val (.int p0), .val (.int p1), .val (.int p2), .val (.int p3), .val (.int p4), .val (.int p5), .val (.int y0), .val (.int y1), .val (.int y2), .val (.int y3), .val (.int y4), .val (.int y5), .val (.ref ad1), .val (.ref ad13), .val (.ref ad30), .val (.ref ad52), .val (.ref ad79), .unset, .unset, .unset, .unset, .unset, .unset]) rfl) ?_
  show Go p e below _ (T104.setTop (mkF m 132 #[.val (.int p0), .val (.int p1), .val (.int p2), .val (.int p3), .val (.int p4), .val (.int p5), .val (.int y0), .val (.int y1), .val (.int y2), .val (.int y3), .val (.int y4), .val (.int y5), .val (.ref ad1), .val (.ref ad13), .val (.ref ad30), .val (.ref ad52), .val (.ref ad79), .unset, .unset, .unset, .unset, .unset, .unset] []))
  refine Go.st (fun _ => XS.iconst X104.here hx rfl (hb hby at_132)) ?_
  obtain ⟨T111, h111, k111, X111, e111, E111, A111, st111⟩ := newP X104 hx hZ (ww hw 1 rfl) e104 (g := (mkF m 133 #[.val (.int p0), .val (.int p1), .val (.int p2), .val (.int p3), .val (.int p4), .val (.int p5), .val (.int y0), .val (.int y1), .val (.int y2), .val (.int y3), .val (.int y4), .val (.int y5), .val (.ref ad1), .val (.ref ad13), .val (.ref ad30), .val (.ref ad52), .val (.ref ad79), .unset, .unset, .unset, .unset, .unset, .unset] [(.int (3 : Int32))])) rfl (hb hby at_133) rfl (by decide) (cap := 3) (by decide) (by decide) (by decide) (by decide)
  obtain ⟨ad111, g111⟩ : ∃ z, z = h104.size := ⟨_, rfl⟩
  rw [← g111] at A111 st111
  refine Go.st st111 ?_
  have gn111 : n0 ≤ ad111 := oldGe O105 g111
  have ne112 : ad1 ≠ ad111 := Nat.ne_of_lt (Nat.lt_of_lt_of_le V_106.lt (Nat.le_of_eq g111.symm))
  have ne113 : ad13 ≠ ad111 := Nat.ne_of_lt (Nat.lt_of_lt_of_le V_107.lt (Nat.le_of_eq g111.symm))
  have ne114 : ad30 ≠ ad111 := Nat.ne_of_lt (Nat.lt_of_lt_of_le V_108.lt (Nat.le_of_eq g111.symm))
  have ne115 : ad52 ≠ ad111 := Nat.ne_of_lt (Nat.lt_of_lt_of_le V_109.lt (Nat.le_of_eq g111.symm))
  have ne116 : ad79 ≠ ad111 := Nat.ne_of_lt (Nat.lt_of_lt_of_le V_110.lt (Nat.le_of_eq g111.symm))
  have O117 := O105.ext E111
  have V_118 := V_106.ext E111
  have V_119 := V_107.ext E111
  have V_120 := V_108.ext E111
  have V_121 := V_109.ext E111
  have V_122 := V_110.ext E111
  have V_123 : Arv Z h111 ad111 k111 .int (3 : Int32) [(.int (0 : Int32)), (.int (0 : Int32)), (.int (0 : Int32))] (.int (0 : Int32)) := (Arv.new A111 (by decide)).pad (pad_rep [] (.int (0 : Int32)) 3)
  refine Go.st (fun _ => XS.dup X111.here hx rfl (hb hby at_135) rfl rfl) ?_
  refine Go.st (fun _ => XS.iconst X111.here hx rfl (hb hby at_136)) ?_
  show Go p e below _ (T111.setTop (mkF m 137 #[.val (.int p0), .val (.int p1), .val (.int p2), .val (.int p3), .val (.int p4), .val (.int p5), .val (.int y0), .val (.int y1), .val (.int y2), .val (.int y3), .val (.int y4), .val (.int y5), .val (.ref ad1), .val (.ref ad13), .val (.ref ad30), .val (.ref ad52), .val (.ref ad79), .unset, .unset, .unset, .unset, .unset, .unset] [(.int (0 : Int32)), (.ref ad111), (.ref ad111)]))
  refine Go.st (fun _ => XS.iconst X111.here hx rfl (hb hby at_137)) ?_
  obtain ⟨cl124, Ar124, qk124, Sz124, Nn124, Ha124, Ga124⟩ := id V_123
  have hin124 : ¬ ((0 : Int32) < 0 ∨ cl124.slots.size ≤ ((0 : Int32) : Int32).toNatClampNeg) := inb_of Sz124 ⟨by decide, by decide⟩
  obtain ⟨T124, h124, X124, e124, W124, st124⟩ := stI X111 hx hZ e111 Ar124 (j := (0 : Int32)) hin124 (g := (mkF m 138 #[.val (.int p0), .val (.int p1), .val (.int p2), .val (.int p3), .val (.int p4), .val (.int p5), .val (.int y0), .val (.int y1), .val (.int y2), .val (.int y3), .val (.int y4), .val (.int y5), .val (.ref ad1), .val (.ref ad13), .val (.ref ad30), .val (.ref ad52), .val (.ref ad79), .unset, .unset, .unset, .unset, .unset, .unset] [(.int (-1 : Int32)), (.int (0 : Int32)), (.ref ad111), (.ref ad111)])) rfl rfl (hb hby at_138)
  refine Go.st st124 ?_
  have O125 := O117.wr W124 gn111
  have V_126 := V_118.other W124 ne112
  have V_127 := V_119.other W124 ne113
  have V_128 := V_120.other W124 ne114
  have V_129 := V_121.other W124 ne115
  have V_130 := V_122.other W124 ne116
  have V_131 : Arv Z h124 ad111 k111 .int (3 : Int32) [(.int (-1 : Int32)), (.int (0 : Int32)), (.int (0 : Int32))] (.int (0 : Int32)) := Arv.set Ar124 qk124 Sz124 Nn124 Ha124 Ga124 rfl W124 0 rfl (Nat.le_of_ble_eq_true rfl)
  have N124 := Fr.snoc X124 N104 gn111
  refine Go.st (fun _ => XS.dup X124.here hx rfl (hb hby at_139) rfl rfl) ?_
  refine Go.st (fun _ => XS.iconst X124.here hx rfl (hb hby at_140)) ?_
  show Go p e below _ (T124.setTop (mkF m 141 #[.val (.int p0), .val (.int p1), .val (.int p2), .val (.int p3), .val (.int p4), .val (.int p5), .val (.int y0), .val (.int y1), .val (.int y2), .val (.int y3), .val (.int y4), .val (.int y5), .val (.ref ad1), .val (.ref ad13), .val (.ref ad30), .val (.ref ad52), .val (.ref ad79), .unset, .unset, .unset, .unset, .unset, .unset] [(.int (1 : Int32)), (.ref ad111), (.ref ad111)]))
  refine Go.st (fun _ => XS.iconst X124.here hx rfl (hb hby at_141)) ?_
  obtain ⟨cl132, Ar132, qk132, Sz132, Nn132, Ha132, Ga132⟩ := id V_131
  have hin132 : ¬ ((1 : Int32) < 0 ∨ cl132.slots.size ≤ ((1 : Int32) : Int32).toNatClampNeg) := inb_of Sz132 ⟨by decide, by decide⟩
  obtain ⟨T132, h132, X132, e132, W132, st132⟩ := stI X124 hx hZ e124 Ar132 (j := (1 : Int32)) hin132 (g := (mkF m 142 #[.val (.int p0), .val (.int p1), .val (.int p2), .val (.int p3), .val (.int p4), .val (.int p5), .val (.int y0), .val (.int y1), .val (.int y2), .val (.int y3), .val (.int y4), .val (.int y5), .val (.ref ad1), .val (.ref ad13), .val (.ref ad30), .val (.ref ad52), .val (.ref ad79), .unset, .unset, .unset, .unset, .unset, .unset] [(.int (-1 : Int32)), (.int (1 : Int32)), (.ref ad111), (.ref ad111)])) rfl rfl (hb hby at_142)
  refine Go.st st132 ?_
  have O133 := O125.wr W132 gn111
  have V_134 := V_126.other W132 ne112
  have V_135 := V_127.other W132 ne113
  have V_136 := V_128.other W132 ne114
  have V_137 := V_129.other W132 ne115
  have V_138 := V_130.other W132 ne116
  have V_139 : Arv Z h132 ad111 k111 .int (3 : Int32) [(.int (-1 : Int32)), (.int (-1 : Int32)), (.int (0 : Int32))] (.int (0 : Int32)) := Arv.set Ar132 qk132 Sz132 Nn132 Ha132 Ga132 rfl W132 1 rfl (Nat.le_of_ble_eq_true rfl)
  have N132 := Fr.snoc X132 N124 gn111
  refine Go.st (fun _ => XS.dup X132.here hx rfl (hb hby at_143) rfl rfl) ?_
  refine Go.st (fun _ => XS.iconst X132.here hx rfl (hb hby at_144)) ?_
  show Go p e below _ (T132.setTop (mkF m 145 #[.val (.int p0), .val (.int p1), .val (.int p2), .val (.int p3), .val (.int p4), .val (.int p5), .val (.int y0), .val (.int y1), .val (.int y2), .val (.int y3), .val (.int y4), .val (.int y5), .val (.ref ad1), .val (.ref ad13), .val (.ref ad30), .val (.ref ad52), .val (.ref ad79), .unset, .unset, .unset, .unset, .unset, .unset] [(.int (2 : Int32)), (.ref ad111), (.ref ad111)]))
  refine Go.st (fun _ => XS.iconst X132.here hx rfl (hb hby at_145)) ?_
  obtain ⟨cl140, Ar140, qk140, Sz140, Nn140, Ha140, Ga140⟩ := id V_139
  have hin140 : ¬ ((2 : Int32) < 0 ∨ cl140.slots.size ≤ ((2 : Int32) : Int32).toNatClampNeg) := inb_of Sz140 ⟨by decide, by decide⟩
  obtain ⟨T140, h140, X140, e140, W140, st140⟩ := stI X132 hx hZ e132 Ar140 (j := (2 : Int32)) hin140 (g := (mkF m 146 #[.val (.int p0), .val (.int p1), .val (.int p2), .val (.int p3), .val (.int p4), .val (.int p5), .val (.int y0), .val (.int y1), .val (.int y2), .val (.int y3), .val (.int y4), .val (.int y5), .val (.ref ad1), .val (.ref ad13), .val (.ref ad30), .val (.ref ad52), .val (.ref ad79), .unset, .unset, .unset, .unset, .unset, .unset] [(.int (-1 : Int32)), (.int (2 : Int32)), (.ref ad111), (.ref ad111)])) rfl rfl (hb hby at_146)
  refine Go.st st140 ?_
  have O141 := O133.wr W140 gn111
  have V_142 := V_134.other W140 ne112
  have V_143 := V_135.other W140 ne113
  have V_144 := V_136.other W140 ne114
  have V_145 := V_137.other W140 ne115
  have V_146 := V_138.other W140 ne116
  have V_147 : Arv Z h140 ad111 k111 .int (3 : Int32) [(.int (-1 : Int32)), (.int (-1 : Int32)), (.int (-1 : Int32))] (.int (0 : Int32)) := Arv.set Ar140 qk140 Sz140 Nn140 Ha140 Ga140 rfl W140 2 rfl (Nat.le_of_ble_eq_true rfl)
  have N140 := Fr.snoc X140 N132 gn111
  refine Go.st (fun _ => XS.astore X140.here hx rfl (hb hby at_147) rfl rfl (l' := #[.val (.int p0), .val (.int p1), .val (.int p2), .val (.int p3), .val (.int p4), .val (.int p5), .val (.int y0), .val (.int y1), .val (.int y2), .val (.int y3), .val (.int y4), .val (.int y5), .val (.ref ad1), .val (.ref ad13), .val (.ref ad30), .val (.ref ad52), .val (.ref ad79), .val (.ref ad111), .unset, .unset, .unset, .unset, .unset]) rfl) ?_
  refine Go.st (fun _ => XS.iconst X140.here hx rfl (hb hby at_149)) ?_
  show Go p e below _ (T140.setTop (mkF m 150 #[.val (.int p0), .val (.int p1), .val (.int p2), .val (.int p3), .val (.int p4), .val (.int p5), .val (.int y0), .val (.int y1), .val (.int y2), .val (.int y3), .val (.int y4), .val (.int y5), .val (.ref ad1), .val (.ref ad13), .val (.ref ad30), .val (.ref ad52), .val (.ref ad79), .val (.ref ad111), .unset, .unset, .unset, .unset, .unset] [(.int (3 : Int32))]))
  obtain ⟨T148, h148, k148, X148, e148, E148, A148, st148⟩ := newP X140 hx hZ (ww hw 1 rfl) e140 (g := (mkF m 150 #[.val (.int p0), .val (.int p1), .val (.int p2), .val (.int p3), .val (.int p4), .val (.int p5), .val (.int y0), .val (.int y1), .val (.int y2), .val (.int y3), .val (.int y4), .val (.int y5), .val (.ref ad1), .val (.ref ad13), .val (.ref ad30), .val (.ref ad52), .val (.ref ad79), .val (.ref ad111), .unset, .unset, .unset, .unset, .unset] [(.int (3 : Int32))])) rfl (hb hby at_150) rfl (by decide) (cap := 3) (by decide) (by decide) (by decide) (by decide)
  obtain ⟨ad148, g148⟩ : ∃ z, z = h140.size := ⟨_, rfl⟩
  rw [← g148] at A148 st148
  refine Go.st st148 ?_
  have gn148 : n0 ≤ ad148 := oldGe O141 g148
  have ne149 : ad1 ≠ ad148 := Nat.ne_of_lt (Nat.lt_of_lt_of_le V_142.lt (Nat.le_of_eq g148.symm))
  have ne150 : ad13 ≠ ad148 := Nat.ne_of_lt (Nat.lt_of_lt_of_le V_143.lt (Nat.le_of_eq g148.symm))
  have ne151 : ad30 ≠ ad148 := Nat.ne_of_lt (Nat.lt_of_lt_of_le V_144.lt (Nat.le_of_eq g148.symm))
  have ne152 : ad52 ≠ ad148 := Nat.ne_of_lt (Nat.lt_of_lt_of_le V_145.lt (Nat.le_of_eq g148.symm))
  have ne153 : ad79 ≠ ad148 := Nat.ne_of_lt (Nat.lt_of_lt_of_le V_146.lt (Nat.le_of_eq g148.symm))
  have ne154 : ad111 ≠ ad148 := Nat.ne_of_lt (Nat.lt_of_lt_of_le V_147.lt (Nat.le_of_eq g148.symm))
  have O155 := O141.ext E148
  have V_156 := V_142.ext E148
  have V_157 := V_143.ext E148
  have V_158 := V_144.ext E148
  have V_159 := V_145.ext E148
  have V_160 := V_146.ext E148
  have V_161 := V_147.ext E148
  have V_162 : Arv Z h148 ad148 k148 .int (3 : Int32) [(.int (0 : Int32)), (.int (0 : Int32)), (.int (0 : Int32))] (.int (0 : Int32)) := (Arv.new A148 (by decide)).pad (pad_rep [] (.int (0 : Int32)) 3)
  refine Go.st (fun _ => XS.dup X148.here hx rfl (hb hby at_152) rfl rfl) ?_
  refine Go.st (fun _ => XS.iconst X148.here hx rfl (hb hby at_153)) ?_
  refine Go.st (fun _ => XS.iconst X148.here hx rfl (hb hby at_154)) ?_
  show Go p e below _ (T148.setTop (mkF m 155 #[.val (.int p0), .val (.int p1), .val (.int p2), .val (.int p3), .val (.int p4), .val (.int p5), .val (.int y0), .val (.int y1), .val (.int y2), .val (.int y3), .val (.int y4), .val (.int y5), .val (.ref ad1), .val (.ref ad13), .val (.ref ad30), .val (.ref ad52), .val (.ref ad79), .val (.ref ad111), .unset, .unset, .unset, .unset, .unset] [(.int (-1 : Int32)), (.int (0 : Int32)), (.ref ad148), (.ref ad148)]))
  obtain ⟨cl163, Ar163, qk163, Sz163, Nn163, Ha163, Ga163⟩ := id V_162
  have hin163 : ¬ ((0 : Int32) < 0 ∨ cl163.slots.size ≤ ((0 : Int32) : Int32).toNatClampNeg) := inb_of Sz163 ⟨by decide, by decide⟩
  obtain ⟨T163, h163, X163, e163, W163, st163⟩ := stI X148 hx hZ e148 Ar163 (j := (0 : Int32)) hin163 (g := (mkF m 155 #[.val (.int p0), .val (.int p1), .val (.int p2), .val (.int p3), .val (.int p4), .val (.int p5), .val (.int y0), .val (.int y1), .val (.int y2), .val (.int y3), .val (.int y4), .val (.int y5), .val (.ref ad1), .val (.ref ad13), .val (.ref ad30), .val (.ref ad52), .val (.ref ad79), .val (.ref ad111), .unset, .unset, .unset, .unset, .unset] [(.int (-1 : Int32)), (.int (0 : Int32)), (.ref ad148), (.ref ad148)])) rfl rfl (hb hby at_155)
  refine Go.st st163 ?_
  have O164 := O155.wr W163 gn148
  have V_165 := V_156.other W163 ne149
  have V_166 := V_157.other W163 ne150
  have V_167 := V_158.other W163 ne151
  have V_168 := V_159.other W163 ne152
  have V_169 := V_160.other W163 ne153
  have V_170 := V_161.other W163 ne154
  have V_171 : Arv Z h163 ad148 k148 .int (3 : Int32) [(.int (-1 : Int32)), (.int (0 : Int32)), (.int (0 : Int32))] (.int (0 : Int32)) := Arv.set Ar163 qk163 Sz163 Nn163 Ha163 Ga163 rfl W163 0 rfl (Nat.le_of_ble_eq_true rfl)
  have N163 := Fr.snoc X163 N140 gn148
  refine Go.st (fun _ => XS.dup X163.here hx rfl (hb hby at_156) rfl rfl) ?_
  refine Go.st (fun _ => XS.iconst X163.here hx rfl (hb hby at_157)) ?_
  refine Go.st (fun _ => XS.iconst X163.here hx rfl (hb hby at_158)) ?_
  show Go p e below _ (T163.setTop (mkF m 159 #[.val (.int p0), .val (.int p1), .val (.int p2), .val (.int p3), .val (.int p4), .val (.int p5), .val (.int y0), .val (.int y1), .val (.int y2), .val (.int y3), .val (.int y4), .val (.int y5), .val (.ref ad1), .val (.ref ad13), .val (.ref ad30), .val (.ref ad52), .val (.ref ad79), .val (.ref ad111), .unset, .unset, .unset, .unset, .unset] [(.int (-1 : Int32)), (.int (1 : Int32)), (.ref ad148), (.ref ad148)]))
  obtain ⟨cl172, Ar172, qk172, Sz172, Nn172, Ha172, Ga172⟩ := id V_171
  have hin172 : ¬ ((1 : Int32) < 0 ∨ cl172.slots.size ≤ ((1 : Int32) : Int32).toNatClampNeg) := inb_of Sz172 ⟨by decide, by decide⟩
  obtain ⟨T172, h172, X172, e172, W172, st172⟩ := stI X163 hx hZ e163 Ar172 (j := (1 : Int32)) hin172 (g := (mkF m 159 #[.val (.int p0), .val (.int p1), .val (.int p2), .val (.int p3), .val (.int p4), .val (.int p5), .val (.int y0), .val (.int y1), .val (.int y2), .val (.int y3), .val (.int y4), .val (.int y5), .val (.ref ad1), .val (.ref ad13), .val (.ref ad30), .val (.ref ad52), .val (.ref ad79), .val (.ref ad111), .unset, .unset, .unset, .unset, .unset] [(.int (-1 : Int32)), (.int (1 : Int32)), (.ref ad148), (.ref ad148)])) rfl rfl (hb hby at_159)
  refine Go.st st172 ?_
  have O173 := O164.wr W172 gn148
  have V_174 := V_165.other W172 ne149
  have V_175 := V_166.other W172 ne150
  have V_176 := V_167.other W172 ne151
  have V_177 := V_168.other W172 ne152
  have V_178 := V_169.other W172 ne153
  have V_179 := V_170.other W172 ne154
  have V_180 : Arv Z h172 ad148 k148 .int (3 : Int32) [(.int (-1 : Int32)), (.int (-1 : Int32)), (.int (0 : Int32))] (.int (0 : Int32)) := Arv.set Ar172 qk172 Sz172 Nn172 Ha172 Ga172 rfl W172 1 rfl (Nat.le_of_ble_eq_true rfl)
  have N172 := Fr.snoc X172 N163 gn148
  refine Go.st (fun _ => XS.dup X172.here hx rfl (hb hby at_160) rfl rfl) ?_
  refine Go.st (fun _ => XS.iconst X172.here hx rfl (hb hby at_161)) ?_
  refine Go.st (fun _ => XS.iconst X172.here hx rfl (hb hby at_162)) ?_
  show Go p e below _ (T172.setTop (mkF m 163 #[.val (.int p0), .val (.int p1), .val (.int p2), .val (.int p3), .val (.int p4), .val (.int p5), .val (.int y0), .val (.int y1), .val (.int y2), .val (.int y3), .val (.int y4), .val (.int y5), .val (.ref ad1), .val (.ref ad13), .val (.ref ad30), .val (.ref ad52), .val (.ref ad79), .val (.ref ad111), .unset, .unset, .unset, .unset, .unset] [(.int (-1 : Int32)), (.int (2 : Int32)), (.ref ad148), (.ref ad148)]))
  obtain ⟨cl181, Ar181, qk181, Sz181, Nn181, Ha181, Ga181⟩ := id V_180
  have hin181 : ¬ ((2 : Int32) < 0 ∨ cl181.slots.size ≤ ((2 : Int32) : Int32).toNatClampNeg) := inb_of Sz181 ⟨by decide, by decide⟩
  obtain ⟨T181, h181, X181, e181, W181, st181⟩ := stI X172 hx hZ e172 Ar181 (j := (2 : Int32)) hin181 (g := (mkF m 163 #[.val (.int p0), .val (.int p1), .val (.int p2), .val (.int p3), .val (.int p4), .val (.int p5), .val (.int y0), .val (.int y1), .val (.int y2), .val (.int y3), .val (.int y4), .val (.int y5), .val (.ref ad1), .val (.ref ad13), .val (.ref ad30), .val (.ref ad52), .val (.ref ad79), .val (.ref ad111), .unset, .unset, .unset, .unset, .unset] [(.int (-1 : Int32)), (.int (2 : Int32)), (.ref ad148), (.ref ad148)])) rfl rfl (hb hby at_163)
  refine Go.st st181 ?_
  have O182 := O173.wr W181 gn148
  have V_183 := V_174.other W181 ne149
  have V_184 := V_175.other W181 ne150
  have V_185 := V_176.other W181 ne151
  have V_186 := V_177.other W181 ne152
  have V_187 := V_178.other W181 ne153
  have V_188 := V_179.other W181 ne154
  have V_189 : Arv Z h181 ad148 k148 .int (3 : Int32) [(.int (-1 : Int32)), (.int (-1 : Int32)), (.int (-1 : Int32))] (.int (0 : Int32)) := Arv.set Ar181 qk181 Sz181 Nn181 Ha181 Ga181 rfl W181 2 rfl (Nat.le_of_ble_eq_true rfl)
  have N181 := Fr.snoc X181 N172 gn148
  refine Go.st (fun _ => XS.astore X181.here hx rfl (hb hby at_164) rfl rfl (l' := #[.val (.int p0), .val (.int p1), .val (.int p2), .val (.int p3), .val (.int p4), .val (.int p5), .val (.int y0), .val (.int y1), .val (.int y2), .val (.int y3), .val (.int y4), .val (.int y5), .val (.ref ad1), .val (.ref ad13), .val (.ref ad30), .val (.ref ad52), .val (.ref ad79), .val (.ref ad111), .val (.ref ad148), .unset, .unset, .unset, .unset]) rfl) ?_
  obtain ⟨T190, h190, X190, e190, E190, A190, D190, U190, st190⟩ := newO X181 hx hZ hown (ww hw 2 rfl) (ww hw 3 rfl) (ww hw 4 rfl) e181 (g := (mkF m 166 #[.val (.int p0), .val (.int p1), .val (.int p2), .val (.int p3), .val (.int p4), .val (.int p5), .val (.int y0), .val (.int y1), .val (.int y2), .val (.int y3), .val (.int y4), .val (.int y5), .val (.ref ad1), .val (.ref ad13), .val (.ref ad30), .val (.ref ad52), .val (.ref ad79), .val (.ref ad111), .val (.ref ad148), .unset, .unset, .unset, .unset] [])) rfl (hb hby at_166) (by decide) (by decide)
  obtain ⟨ad190, g190⟩ : ∃ z, z = h181.size := ⟨_, rfl⟩
  rw [← g190] at A190 D190 U190 st190
  refine Go.st st190 ?_
  have gn190 : n0 ≤ ad190 := oldGe O182 g190
  have lne191 : ad1 < ad190 := (Nat.lt_of_lt_of_le V_183.lt (Nat.le_of_eq g190.symm))
  have ne191 : ad1 ≠ ad190 := Nat.ne_of_lt lne191
  have lne192 : ad13 < ad190 := (Nat.lt_of_lt_of_le V_184.lt (Nat.le_of_eq g190.symm))
  have ne192 : ad13 ≠ ad190 := Nat.ne_of_lt lne192
  have lne193 : ad30 < ad190 := (Nat.lt_of_lt_of_le V_185.lt (Nat.le_of_eq g190.symm))
  have ne193 : ad30 ≠ ad190 := Nat.ne_of_lt lne193
  have lne194 : ad52 < ad190 := (Nat.lt_of_lt_of_le V_186.lt (Nat.le_of_eq g190.symm))
  have ne194 : ad52 ≠ ad190 := Nat.ne_of_lt lne194
  have lne195 : ad79 < ad190 := (Nat.lt_of_lt_of_le V_187.lt (Nat.le_of_eq g190.symm))
  have ne195 : ad79 ≠ ad190 := Nat.ne_of_lt lne195
  have lne196 : ad111 < ad190 := (Nat.lt_of_lt_of_le V_188.lt (Nat.le_of_eq g190.symm))
  have ne196 : ad111 ≠ ad190 := Nat.ne_of_lt lne196
  have lne197 : ad148 < ad190 := (Nat.lt_of_lt_of_le V_189.lt (Nat.le_of_eq g190.symm))
  have ne197 : ad148 ≠ ad190 := Nat.ne_of_lt lne197
  have O198 := O182.ext E190
  have V_199 := V_183.ext E190
  have V_200 := V_184.ext E190
  have V_201 := V_185.ext E190
  have V_202 := V_186.ext E190
  have V_203 := V_187.ext E190
  have V_204 := V_188.ext E190
  have V_205 := V_189.ext E190
  have F206 : Fld Z h190 ad190 "com/example/traza/traza/PackedRows" "chunks" "[[J" .null := D190 (Or.inl (ww hw 14 rfl)) (ty := (.array (.array .long))) (by decide)
  have F207 : Fld Z h190 ad190 "com/example/traza/traza/PackedRows" "layouts" "[Lcom/example/traza/traza/PackedRows$Layout;" .null := D190 (Or.inl (ww hw 18 rfl)) (ty := (.array (.object "com/example/traza/traza/PackedRows$Layout"))) (by decide)
  have F208 : Fld Z h190 ad190 "com/example/traza/traza/PackedRows" "chunkShift" "I" (.int (0 : Int32)) := D190 (Or.inr (ww hw 35 rfl)) (ty := .int) (by decide)
  have F209 : Fld Z h190 ad190 "com/example/traza/traza/PackedRows" "chunkMask" "I" (.int (0 : Int32)) := D190 (Or.inr (ww hw 37 rfl)) (ty := .int) (by decide)
  have F210 : Fld Z h190 ad190 "com/example/traza/traza/PackedRows" "layout" "Lcom/example/traza/traza/PackedRows$Layout;" .null := D190 (Or.inl (ww hw 58 rfl)) (ty := (.object "com/example/traza/traza/PackedRows$Layout")) (by decide)
  have F211 : Fld Z h190 ad190 "com/example/traza/traza/PackedRows" "bits" "[J" .null := D190 (Or.inl (ww hw 62 rfl)) (ty := (.array .long)) (by decide)
  have F212 : Fld Z h190 ad190 "com/example/traza/traza/PackedRows" "size" "I" (.int (0 : Int32)) := D190 (Or.inl (ww hw 69 rfl)) (ty := .int) (by decide)
  refine Go.st (fun _ => XS.dup X190.here hx rfl (hb hby at_169) rfl rfl) ?_
  show Go p e below _ (T190.setTop (mkF m 170 #[.val (.int p0), .val (.int p1), .val (.int p2), .val (.int p3), .val (.int p4), .val (.int p5), .val (.int y0), .val (.int y1), .val (.int y2), .val (.int y3), .val (.int y4), .val (.int y5), .val (.ref ad1), .val (.ref ad13), .val (.ref ad30), .val (.ref ad52), .val (.ref ad79), .val (.ref ad111), .val (.ref ad148), .unset, .unset, .unset, .unset] [(.ref ad190), (.ref ad190)]))
  refine Go.st (fun _ => XS.iconst X190.here hx rfl (hb hby at_170)) ?_
  refine goInit X190 hx hZ (y := (⟨"com/example/traza/traza/PackedRows", "<init>", "(I)V"⟩ : MethodName)) rfl hown (ww hw 5 rfl) (ww hw 6 rfl) (ww hw 4 rfl) (ww hw 7 rfl) (by decide) (a := ad190) (argsL := [(.int (3 : Int32))]) (rest := [(.ref ad190)]) e190 (rm_PI l Z a0 hw [] ad190 h190 n0 O198 A190 F208 F209 F206 F207 F210 F211 F212 gn190) 1 (by decide) (by decide) (by decide) (by decide) (mkF m 171 #[.val (.int p0), .val (.int p1), .val (.int p2), .val (.int p3), .val (.int p4), .val (.int p5), .val (.int y0), .val (.int y1), .val (.int y2), .val (.int y3), .val (.int y4), .val (.int y5), .val (.ref ad1), .val (.ref ad13), .val (.ref ad30), .val (.ref ad52), .val (.ref ad79), .val (.ref ad111), .val (.ref ad148), .unset, .unset, .unset, .unset] [(.int (3 : Int32)), (.ref ad190), (.ref ad190)]) rfl (by rw [hml]; rfl) (lenOf pd_10 rfl) rfl (hb hby at_171) (Nat.le_of_eq rfl) ?_
  intro v213 T213 L213 X213 hQ213
  obtain ⟨rfl, M213, ⟨ws213, K213, hws213⟩, aL_213, aw_213, aK_213, aY_213, aB_213, aC_213, kw_213, kK_213, kY_213, w0_213, w1_213, w2_213, rb_213, wd_213, cw_213, b0_213, b1_213, b2_213, f_213, g_213, xK_213, xY_213, R213⟩ := hQ213
  have N213 := Fr.app N181 M213
  have O214 := O198.keep K213 (fun x hx => Nat.le_trans gn190 (hws213 x hx))
  have V_215 := V_199.keep K213 (low_nin hws213 lne191)
  have V_216 := V_200.keep K213 (low_nin hws213 lne192)
  have V_217 := V_201.keep K213 (low_nin hws213 lne193)
  have V_218 := V_202.keep K213 (low_nin hws213 lne194)
  have V_219 := V_203.keep K213 (low_nin hws213 lne195)
  have V_220 := V_204.keep K213 (low_nin hws213 lne196)
  have V_221 := V_205.keep K213 (low_nin hws213 lne197)
  have E_222 := A190.keep K213
  show Go p e below _ (T213.setTop (mkF m 174 #[.val (.int p0), .val (.int p1), .val (.int p2), .val (.int p3), .val (.int p4), .val (.int p5), .val (.int y0), .val (.int y1), .val (.int y2), .val (.int y3), .val (.int y4), .val (.int y5), .val (.ref ad1), .val (.ref ad13), .val (.ref ad30), .val (.ref ad52), .val (.ref ad79), .val (.ref ad111), .val (.ref ad148), .unset, .unset, .unset, .unset] [(.ref ad190)]))
  refine Go.st (fun _ => XS.astore X213.here hx rfl (hb hby at_174) rfl rfl (l' := #[.val (.int p0), .val (.int p1), .val (.int p2), .val (.int p3), .val (.int p4), .val (.int p5), .val (.int y0), .val (.int y1), .val (.int y2), .val (.int y3), .val (.int y4), .val (.int y5), .val (.ref ad1), .val (.ref ad13), .val (.ref ad30), .val (.ref ad52), .val (.ref ad79), .val (.ref ad111), .val (.ref ad148), .val (.ref ad190), .unset, .unset, .unset]) rfl) ?_
  refine Go.st (fun _ => XS.aload X213.here hx rfl (hb hby at_176) rfl rfl) ?_
  refine Go.st (fun _ => XS.aload X213.here hx rfl (hb hby at_178) rfl rfl) ?_
  refine goVirt X213 hx hZ (y := (⟨"com/example/traza/traza/PackedRows", "add", "([I)I"⟩ : MethodName)) (z := (⟨"com/example/traza/traza/PackedRows", "add", "([I)I"⟩ : MethodName)) hown (ww hw 63 rfl) (ww hw 64 rfl) (notFace_of_selects (args := #[]) (mvT hZ (ww hw 66 rfl))) (ww hw 66 rfl) (ww hw 65 rfl) (ww hw 4 rfl) (ww hw 67 rfl) (by decide) (a := ad190) (argsL := [(.ref ad1)]) (rest := []) rfl E_222 (rm_add0 l Z a0 hw [] ad190 ad1 k1 y0 y1 y2 aL_213 aw_213 aK_213 aY_213 aB_213 aC_213 kw_213 kK_213 kY_213 w0_213 w1_213 w2_213 rb_213 wd_213 cw_213 b0_213 b1_213 b2_213 f_213 g_213 xK_213 xY_213 T213.heap n0 O214 R213 gn190 V_215 hy0 hy1 hy2) 0 (by decide) (by decide) (by decide) (by decide) (mkF m 180 #[.val (.int p0), .val (.int p1), .val (.int p2), .val (.int p3), .val (.int p4), .val (.int p5), .val (.int y0), .val (.int y1), .val (.int y2), .val (.int y3), .val (.int y4), .val (.int y5), .val (.ref ad1), .val (.ref ad13), .val (.ref ad30), .val (.ref ad52), .val (.ref ad79), .val (.ref ad111), .val (.ref ad148), .val (.ref ad190), .unset, .unset, .unset] [(.ref ad1), (.ref ad190)]) rfl (by rw [hml]; rfl) (lenOf pd_11 rfl) rfl (hb hby at_180) (Nat.le_of_eq rfl) ?_
  intro v223 T223 L223 X223 hQ223
  obtain ⟨rfl, M223, ⟨ws223, K223, hws223⟩, aL_223, aw_223, aK_223, aY_223, aB_223, aC_223, kw_223, kK_223, kY_223, w0_223, w1_223, w2_223, rb_223, wd_223, cw_223, b0_223, b1_223, b2_223, f_223, g_223, xK_223, xY_223, R223⟩ := hQ223
  have N223 := Fr.app N213 M223
  have O224 := O214.keep K223 (fun x hx => Nat.le_trans gn190 (hws223 x hx))
  have V_225 := V_215.keep K223 (low_nin hws223 lne191)
  have V_226 := V_216.keep K223 (low_nin hws223 lne192)
  have V_227 := V_217.keep K223 (low_nin hws223 lne193)
  have V_228 := V_218.keep K223 (low_nin hws223 lne194)
  have V_229 := V_219.keep K223 (low_nin hws223 lne195)
  have V_230 := V_220.keep K223 (low_nin hws223 lne196)
  have V_231 := V_221.keep K223 (low_nin hws223 lne197)
  have E_232 := E_222.keep K223
  show Go p e below _ (T223.setTop (mkF m 183 #[.val (.int p0), .val (.int p1), .val (.int p2), .val (.int p3), .val (.int p4), .val (.int p5), .val (.int y0), .val (.int y1), .val (.int y2), .val (.int y3), .val (.int y4), .val (.int y5), .val (.ref ad1), .val (.ref ad13), .val (.ref ad30), .val (.ref ad52), .val (.ref ad79), .val (.ref ad111), .val (.ref ad148), .val (.ref ad190), .unset, .unset, .unset] [(.int (0 : Int32))]))
  refine Go.st (fun _ => XS.istore X223.here hx rfl (hb hby at_183) rfl (l' := #[.val (.int p0), .val (.int p1), .val (.int p2), .val (.int p3), .val (.int p4), .val (.int p5), .val (.int y0), .val (.int y1), .val (.int y2), .val (.int y3), .val (.int y4), .val (.int y5), .val (.ref ad1), .val (.ref ad13), .val (.ref ad30), .val (.ref ad52), .val (.ref ad79), .val (.ref ad111), .val (.ref ad148), .val (.ref ad190), .val (.int (0 : Int32)), .unset, .unset]) rfl) ?_
  refine Go.st (fun _ => XS.aload X223.here hx rfl (hb hby at_185) rfl rfl) ?_
  refine Go.st (fun _ => XS.iconst X223.here hx rfl (hb hby at_187)) ?_
  refine Go.st (fun _ => XS.aload X223.here hx rfl (hb hby at_188) rfl rfl) ?_
  show Go p e below _ (T223.setTop (mkF m 190 #[.val (.int p0), .val (.int p1), .val (.int p2), .val (.int p3), .val (.int p4), .val (.int p5), .val (.int y0), .val (.int y1), .val (.int y2), .val (.int y3), .val (.int y4), .val (.int y5), .val (.ref ad1), .val (.ref ad13), .val (.ref ad30), .val (.ref ad52), .val (.ref ad79), .val (.ref ad111), .val (.ref ad148), .val (.ref ad190), .val (.int (0 : Int32)), .unset, .unset] [(.ref ad79), (.int (0 : Int32)), (.ref ad190)]))
  have nw190 : aw_223 ≠ ad79 := Ne.symm (Nat.ne_of_lt (Nat.lt_of_lt_of_le lne195 (PR_pw R223)))
  refine goVirt X223 hx hZ (y := (⟨"com/example/traza/traza/PackedRows", "read", "(I[I)V"⟩ : MethodName)) (z := (⟨"com/example/traza/traza/PackedRows", "read", "(I[I)V"⟩ : MethodName)) hown (ww hw 95 rfl) (ww hw 96 rfl) (notFace_of_selects (args := #[]) (mvT hZ (ww hw 98 rfl))) (ww hw 98 rfl) (ww hw 97 rfl) (ww hw 4 rfl) (ww hw 99 rfl) (by decide) (a := ad190) (argsL := [(.int (0 : Int32)), (.ref ad79)]) (rest := []) rfl E_232 (rm_Pread l Z a0 hw [] ad190 ad79 k79 (0 : Int32) 0 (-1 : Int32) (-1 : Int32) (-1 : Int32) y0 y1 y2 (1 : Int32) [(y0, y1, y2)] aL_223 aw_223 aK_223 aY_223 aB_223 aC_223 kw_223 kK_223 kY_223 w0_223 w1_223 w2_223 rb_223 wd_223 cw_223 b0_223 b1_223 b2_223 f_223 g_223 xK_223 xY_223 T223.heap n0 O224 R223 (by decide) V_229 gn79 nw190 rfl (by decide) rfl) 0 (by decide) (by decide) (by decide) (by decide) (mkF m 190 #[.val (.int p0), .val (.int p1), .val (.int p2), .val (.int p3), .val (.int p4), .val (.int p5), .val (.int y0), .val (.int y1), .val (.int y2), .val (.int y3), .val (.int y4), .val (.int y5), .val (.ref ad1), .val (.ref ad13), .val (.ref ad30), .val (.ref ad52), .val (.ref ad79), .val (.ref ad111), .val (.ref ad148), .val (.ref ad190), .val (.int (0 : Int32)), .unset, .unset] [(.ref ad79), (.int (0 : Int32)), (.ref ad190)]) rfl (by rw [hml]; rfl) (lenOf pd_12 rfl) rfl (hb hby at_190) (Nat.le_of_eq rfl) ?_
  intro v233 T233 L233 X233 hQ233
  obtain ⟨rfl, M233, K233, VR233⟩ := hQ233
  have N233 := Fr.app N223 M233
  have O234 := O224.keep K233 (allS gn79 all0)
  have V_235 := V_225.keep K233 (ninS ne80 nin0)
  have V_236 := V_226.keep K233 (ninS ne81 nin0)
  have V_237 := V_227.keep K233 (ninS ne82 nin0)
  have V_238 := V_228.keep K233 (ninS ne83 nin0)
  have V_239 := V_230.keep K233 (ninS (Ne.symm ne116) nin0)
  have V_240 := V_231.keep K233 (ninS (Ne.symm ne153) nin0)
  have E_241 := E_232.keep K233
  have RR233 := PR_keep R223 K233 (allS lne195 all0)
  show Go p e below _ (T233.setTop (mkF m 193 #[.val (.int p0), .val (.int p1), .val (.int p2), .val (.int p3), .val (.int p4), .val (.int p5), .val (.int y0), .val (.int y1), .val (.int y2), .val (.int y3), .val (.int y4), .val (.int y5), .val (.ref ad1), .val (.ref ad13), .val (.ref ad30), .val (.ref ad52), .val (.ref ad79), .val (.ref ad111), .val (.ref ad148), .val (.ref ad190), .val (.int (0 : Int32)), .unset, .unset] []))
  refine Go.st (fun _ => XS.aload X233.here hx rfl (hb hby at_193) rfl rfl) ?_
  refine Go.st (fun _ => XS.aload X233.here hx rfl (hb hby at_195) rfl rfl) ?_
  refine goVirt X233 hx hZ (y := (⟨"com/example/traza/traza/PackedRows", "add", "([I)I"⟩ : MethodName)) (z := (⟨"com/example/traza/traza/PackedRows", "add", "([I)I"⟩ : MethodName)) hown (ww hw 63 rfl) (ww hw 64 rfl) (notFace_of_selects (args := #[]) (mvT hZ (ww hw 66 rfl))) (ww hw 66 rfl) (ww hw 65 rfl) (ww hw 4 rfl) (ww hw 67 rfl) (by decide) (a := ad190) (argsL := [(.ref ad13)]) (rest := []) rfl E_241 (rm_add1 l Z a0 hw [] ad190 ad13 k13 y3 y4 y5 y0 y1 y2 aL_223 aw_223 aK_223 aY_223 aB_223 aC_223 kw_223 kK_223 kY_223 w0_223 w1_223 w2_223 rb_223 wd_223 cw_223 b0_223 b1_223 b2_223 f_223 g_223 xK_223 xY_223 T233.heap n0 O234 RR233 gn190 V_236 hy3 hy4 hy5) 0 (by decide) (by decide) (by decide) (by decide) (mkF m 197 #[.val (.int p0), .val (.int p1), .val (.int p2), .val (.int p3), .val (.int p4), .val (.int p5), .val (.int y0), .val (.int y1), .val (.int y2), .val (.int y3), .val (.int y4), .val (.int y5), .val (.ref ad1), .val (.ref ad13), .val (.ref ad30), .val (.ref ad52), .val (.ref ad79), .val (.ref ad111), .val (.ref ad148), .val (.ref ad190), .val (.int (0 : Int32)), .unset, .unset] [(.ref ad13), (.ref ad190)]) rfl (by rw [hml]; rfl) (lenOf pd_11 rfl) rfl (hb hby at_197) (Nat.le_of_eq rfl) ?_
  intro v242 T242 L242 X242 hQ242
  obtain ⟨rfl, M242, ⟨ws242, K242, hws242⟩, aL_242, aw_242, aK_242, aY_242, aB_242, aC_242, kw_242, kK_242, kY_242, w0_242, w1_242, w2_242, rb_242, wd_242, cw_242, b0_242, b1_242, b2_242, f_242, g_242, xK_242, xY_242, R242⟩ := hQ242
  have N242 := Fr.app N233 M242
  have O243 := O234.keep K242 (fun x hx => Nat.le_trans gn190 (hws242 x hx))
  have V_244 := V_235.keep K242 (low_nin hws242 lne191)
  have V_245 := V_236.keep K242 (low_nin hws242 lne192)
  have V_246 := V_237.keep K242 (low_nin hws242 lne193)
  have V_247 := V_238.keep K242 (low_nin hws242 lne194)
  have V_248 := V_239.keep K242 (low_nin hws242 lne196)
  have V_249 := V_240.keep K242 (low_nin hws242 lne197)
  have E_250 := E_241.keep K242
  have V_251 := VR233.keep K242 (low_nin hws242 lne195)
  show Go p e below _ (T242.setTop (mkF m 200 #[.val (.int p0), .val (.int p1), .val (.int p2), .val (.int p3), .val (.int p4), .val (.int p5), .val (.int y0), .val (.int y1), .val (.int y2), .val (.int y3), .val (.int y4), .val (.int y5), .val (.ref ad1), .val (.ref ad13), .val (.ref ad30), .val (.ref ad52), .val (.ref ad79), .val (.ref ad111), .val (.ref ad148), .val (.ref ad190), .val (.int (0 : Int32)), .unset, .unset] [(.int (1 : Int32))]))
  refine Go.st (fun _ => XS.istore X242.here hx rfl (hb hby at_200) rfl (l' := #[.val (.int p0), .val (.int p1), .val (.int p2), .val (.int p3), .val (.int p4), .val (.int p5), .val (.int y0), .val (.int y1), .val (.int y2), .val (.int y3), .val (.int y4), .val (.int y5), .val (.ref ad1), .val (.ref ad13), .val (.ref ad30), .val (.ref ad52), .val (.ref ad79), .val (.ref ad111), .val (.ref ad148), .val (.ref ad190), .val (.int (0 : Int32)), .val (.int (1 : Int32)), .unset]) rfl) ?_
  refine Go.st (fun _ => XS.aload X242.here hx rfl (hb hby at_202) rfl rfl) ?_
  refine Go.st (fun _ => XS.aload X242.here hx rfl (hb hby at_204) rfl rfl) ?_
  refine goVirt X242 hx hZ (y := (⟨"com/example/traza/traza/PackedRows", "add", "([I)I"⟩ : MethodName)) (z := (⟨"com/example/traza/traza/PackedRows", "add", "([I)I"⟩ : MethodName)) hown (ww hw 63 rfl) (ww hw 64 rfl) (notFace_of_selects (args := #[]) (mvT hZ (ww hw 66 rfl))) (ww hw 66 rfl) (ww hw 65 rfl) (ww hw 4 rfl) (ww hw 67 rfl) (by decide) (a := ad190) (argsL := [(.ref ad30)]) (rest := []) rfl E_250 (rm_add2 l Z a0 hw [] ad190 ad30 k30 y5 y0 y4 y0 y1 y2 y3 y4 y5 aL_242 aw_242 aK_242 aY_242 aB_242 aC_242 kw_242 kK_242 kY_242 w0_242 w1_242 w2_242 rb_242 wd_242 cw_242 b0_242 b1_242 b2_242 f_242 g_242 xK_242 xY_242 T242.heap n0 O243 R242 gn190 V_246 hy5 hy0 hy4) 0 (by decide) (by decide) (by decide) (by decide) (mkF m 206 #[.val (.int p0), .val (.int p1), .val (.int p2), .val (.int p3), .val (.int p4), .val (.int p5), .val (.int y0), .val (.int y1), .val (.int y2), .val (.int y3), .val (.int y4), .val (.int y5), .val (.ref ad1), .val (.ref ad13), .val (.ref ad30), .val (.ref ad52), .val (.ref ad79), .val (.ref ad111), .val (.ref ad148), .val (.ref ad190), .val (.int (0 : Int32)), .val (.int (1 : Int32)), .unset] [(.ref ad30), (.ref ad190)]) rfl (by rw [hml]; rfl) (lenOf pd_11 rfl) rfl (hb hby at_206) (Nat.le_of_eq rfl) ?_
  intro v252 T252 L252 X252 hQ252
  obtain ⟨rfl, M252, ⟨ws252, K252, hws252⟩, aL_252, aw_252, aK_252, aY_252, aB_252, aC_252, kw_252, kK_252, kY_252, w0_252, w1_252, w2_252, rb_252, wd_252, cw_252, b0_252, b1_252, b2_252, f_252, g_252, xK_252, xY_252, R252⟩ := hQ252
  have N252 := Fr.app N242 M252
  have O253 := O243.keep K252 (fun x hx => Nat.le_trans gn190 (hws252 x hx))
  have V_254 := V_244.keep K252 (low_nin hws252 lne191)
  have V_255 := V_245.keep K252 (low_nin hws252 lne192)
  have V_256 := V_246.keep K252 (low_nin hws252 lne193)
  have V_257 := V_247.keep K252 (low_nin hws252 lne194)
  have V_258 := V_248.keep K252 (low_nin hws252 lne196)
  have V_259 := V_249.keep K252 (low_nin hws252 lne197)
  have E_260 := E_250.keep K252
  have V_261 := V_251.keep K252 (low_nin hws252 lne195)
  show Go p e below _ (T252.setTop (mkF m 209 #[.val (.int p0), .val (.int p1), .val (.int p2), .val (.int p3), .val (.int p4), .val (.int p5), .val (.int y0), .val (.int y1), .val (.int y2), .val (.int y3), .val (.int y4), .val (.int y5), .val (.ref ad1), .val (.ref ad13), .val (.ref ad30), .val (.ref ad52), .val (.ref ad79), .val (.ref ad111), .val (.ref ad148), .val (.ref ad190), .val (.int (0 : Int32)), .val (.int (1 : Int32)), .unset] [(.int (2 : Int32))]))
  refine Go.st (fun _ => XS.istore X252.here hx rfl (hb hby at_209) rfl (l' := #[.val (.int p0), .val (.int p1), .val (.int p2), .val (.int p3), .val (.int p4), .val (.int p5), .val (.int y0), .val (.int y1), .val (.int y2), .val (.int y3), .val (.int y4), .val (.int y5), .val (.ref ad1), .val (.ref ad13), .val (.ref ad30), .val (.ref ad52), .val (.ref ad79), .val (.ref ad111), .val (.ref ad148), .val (.ref ad190), .val (.int (0 : Int32)), .val (.int (1 : Int32)), .val (.int (2 : Int32))]) rfl) ?_
  refine Go.st (fun _ => XS.aload X252.here hx rfl (hb hby at_211) rfl rfl) ?_
  refine Go.st (fun _ => XS.iconst X252.here hx rfl (hb hby at_213)) ?_
  refine Go.st (fun _ => XS.aload X252.here hx rfl (hb hby at_214) rfl rfl) ?_
  show Go p e below _ (T252.setTop (mkF m 216 #[.val (.int p0), .val (.int p1), .val (.int p2), .val (.int p3), .val (.int p4), .val (.int p5), .val (.int y0), .val (.int y1), .val (.int y2), .val (.int y3), .val (.int y4), .val (.int y5), .val (.ref ad1), .val (.ref ad13), .val (.ref ad30), .val (.ref ad52), .val (.ref ad79), .val (.ref ad111), .val (.ref ad148), .val (.ref ad190), .val (.int (0 : Int32)), .val (.int (1 : Int32)), .val (.int (2 : Int32))] [(.ref ad52), (.int (0 : Int32)), (.ref ad190)]))
  have nw216 : aw_252 ≠ ad52 := Ne.symm (Nat.ne_of_lt (Nat.lt_of_lt_of_le lne194 (PR_pw R252)))
  refine goVirt X252 hx hZ (y := (⟨"com/example/traza/traza/PackedRows", "read", "(I[I)V"⟩ : MethodName)) (z := (⟨"com/example/traza/traza/PackedRows", "read", "(I[I)V"⟩ : MethodName)) hown (ww hw 95 rfl) (ww hw 96 rfl) (notFace_of_selects (args := #[]) (mvT hZ (ww hw 98 rfl))) (ww hw 98 rfl) (ww hw 97 rfl) (ww hw 4 rfl) (ww hw 99 rfl) (by decide) (a := ad190) (argsL := [(.int (0 : Int32)), (.ref ad52)]) (rest := []) rfl E_260 (rm_Pread l Z a0 hw [] ad190 ad52 k52 (0 : Int32) 0 (-1 : Int32) (-1 : Int32) (-1 : Int32) y0 y1 y2 (3 : Int32) [(y0, y1, y2), (y3, y4, y5), (y5, y0, y4)] aL_252 aw_252 aK_252 aY_252 aB_252 aC_252 kw_252 kK_252 kY_252 w0_252 w1_252 w2_252 rb_252 wd_252 cw_252 b0_252 b1_252 b2_252 f_252 g_252 xK_252 xY_252 T252.heap n0 O253 R252 (by decide) V_257 gn52 nw216 rfl (by decide) rfl) 0 (by decide) (by decide) (by decide) (by decide) (mkF m 216 #[.val (.int p0), .val (.int p1), .val (.int p2), .val (.int p3), .val (.int p4), .val (.int p5), .val (.int y0), .val (.int y1), .val (.int y2), .val (.int y3), .val (.int y4), .val (.int y5), .val (.ref ad1), .val (.ref ad13), .val (.ref ad30), .val (.ref ad52), .val (.ref ad79), .val (.ref ad111), .val (.ref ad148), .val (.ref ad190), .val (.int (0 : Int32)), .val (.int (1 : Int32)), .val (.int (2 : Int32))] [(.ref ad52), (.int (0 : Int32)), (.ref ad190)]) rfl (by rw [hml]; rfl) (lenOf pd_12 rfl) rfl (hb hby at_216) (Nat.le_of_eq rfl) ?_
  intro v262 T262 L262 X262 hQ262
  obtain ⟨rfl, M262, K262, VR262⟩ := hQ262
  have N262 := Fr.app N252 M262
  have O263 := O253.keep K262 (allS gn52 all0)
  have V_264 := V_254.keep K262 (ninS ne53 nin0)
  have V_265 := V_255.keep K262 (ninS ne54 nin0)
  have V_266 := V_256.keep K262 (ninS ne55 nin0)
  have V_267 := V_258.keep K262 (ninS (Ne.symm ne115) nin0)
  have V_268 := V_259.keep K262 (ninS (Ne.symm ne152) nin0)
  have E_269 := E_260.keep K262
  have V_270 := V_261.keep K262 (ninS (Ne.symm ne83) nin0)
  have RR262 := PR_keep R252 K262 (allS lne194 all0)
  show Go p e below _ (T262.setTop (mkF m 219 #[.val (.int p0), .val (.int p1), .val (.int p2), .val (.int p3), .val (.int p4), .val (.int p5), .val (.int y0), .val (.int y1), .val (.int y2), .val (.int y3), .val (.int y4), .val (.int y5), .val (.ref ad1), .val (.ref ad13), .val (.ref ad30), .val (.ref ad52), .val (.ref ad79), .val (.ref ad111), .val (.ref ad148), .val (.ref ad190), .val (.int (0 : Int32)), .val (.int (1 : Int32)), .val (.int (2 : Int32))] []))
  refine Go.st (fun _ => XS.aload X262.here hx rfl (hb hby at_219) rfl rfl) ?_
  refine Go.st (fun _ => XS.iconst X262.here hx rfl (hb hby at_221)) ?_
  refine Go.st (fun _ => XS.aload X262.here hx rfl (hb hby at_222) rfl rfl) ?_
  have nw224 : aw_252 ≠ ad111 := Ne.symm (Nat.ne_of_lt (Nat.lt_of_lt_of_le lne196 (PR_pw RR262)))
  refine goVirt X262 hx hZ (y := (⟨"com/example/traza/traza/PackedRows", "read", "(I[I)V"⟩ : MethodName)) (z := (⟨"com/example/traza/traza/PackedRows", "read", "(I[I)V"⟩ : MethodName)) hown (ww hw 95 rfl) (ww hw 96 rfl) (notFace_of_selects (args := #[]) (mvT hZ (ww hw 98 rfl))) (ww hw 98 rfl) (ww hw 97 rfl) (ww hw 4 rfl) (ww hw 99 rfl) (by decide) (a := ad190) (argsL := [(.int (1 : Int32)), (.ref ad111)]) (rest := []) rfl E_269 (rm_Pread l Z a0 hw [] ad190 ad111 k111 (1 : Int32) 1 (-1 : Int32) (-1 : Int32) (-1 : Int32) y3 y4 y5 (3 : Int32) [(y0, y1, y2), (y3, y4, y5), (y5, y0, y4)] aL_252 aw_252 aK_252 aY_252 aB_252 aC_252 kw_252 kK_252 kY_252 w0_252 w1_252 w2_252 rb_252 wd_252 cw_252 b0_252 b1_252 b2_252 f_252 g_252 xK_252 xY_252 T262.heap n0 O263 RR262 (by decide) V_267 gn111 nw224 rfl (by decide) rfl) 0 (by decide) (by decide) (by decide) (by decide) (mkF m 224 #[.val (.int p0), .val (.int p1), .val (.int p2), .val (.int p3), .val (.int p4), .val (.int p5), .val (.int y0), .val (.int y1), .val (.int y2), .val (.int y3), .val (.int y4), .val (.int y5), .val (.ref ad1), .val (.ref ad13), .val (.ref ad30), .val (.ref ad52), .val (.ref ad79), .val (.ref ad111), .val (.ref ad148), .val (.ref ad190), .val (.int (0 : Int32)), .val (.int (1 : Int32)), .val (.int (2 : Int32))] [(.ref ad111), (.int (1 : Int32)), (.ref ad190)]) rfl (by rw [hml]; rfl) (lenOf pd_12 rfl) rfl (hb hby at_224) (Nat.le_of_eq rfl) ?_
  intro v271 T271 L271 X271 hQ271
  obtain ⟨rfl, M271, K271, VR271⟩ := hQ271
  have N271 := Fr.app N262 M271
  have O272 := O263.keep K271 (allS gn111 all0)
  have V_273 := V_264.keep K271 (ninS ne112 nin0)
  have V_274 := V_265.keep K271 (ninS ne113 nin0)
  have V_275 := V_266.keep K271 (ninS ne114 nin0)
  have V_276 := V_268.keep K271 (ninS (Ne.symm ne154) nin0)
  have E_277 := E_269.keep K271
  have V_278 := V_270.keep K271 (ninS ne116 nin0)
  have V_279 := VR262.keep K271 (ninS ne115 nin0)
  have RR271 := PR_keep RR262 K271 (allS lne196 all0)
  show Go p e below _ (T271.setTop (mkF m 227 #[.val (.int p0), .val (.int p1), .val (.int p2), .val (.int p3), .val (.int p4), .val (.int p5), .val (.int y0), .val (.int y1), .val (.int y2), .val (.int y3), .val (.int y4), .val (.int y5), .val (.ref ad1), .val (.ref ad13), .val (.ref ad30), .val (.ref ad52), .val (.ref ad79), .val (.ref ad111), .val (.ref ad148), .val (.ref ad190), .val (.int (0 : Int32)), .val (.int (1 : Int32)), .val (.int (2 : Int32))] []))
  refine Go.st (fun _ => XS.aload X271.here hx rfl (hb hby at_227) rfl rfl) ?_
  refine Go.st (fun _ => XS.iconst X271.here hx rfl (hb hby at_229)) ?_
  refine Go.st (fun _ => XS.aload X271.here hx rfl (hb hby at_230) rfl rfl) ?_
  have nw232 : aw_252 ≠ ad148 := Ne.symm (Nat.ne_of_lt (Nat.lt_of_lt_of_le lne197 (PR_pw RR271)))
  refine goVirt X271 hx hZ (y := (⟨"com/example/traza/traza/PackedRows", "read", "(I[I)V"⟩ : MethodName)) (z := (⟨"com/example/traza/traza/PackedRows", "read", "(I[I)V"⟩ : MethodName)) hown (ww hw 95 rfl) (ww hw 96 rfl) (notFace_of_selects (args := #[]) (mvT hZ (ww hw 98 rfl))) (ww hw 98 rfl) (ww hw 97 rfl) (ww hw 4 rfl) (ww hw 99 rfl) (by decide) (a := ad190) (argsL := [(.int (2 : Int32)), (.ref ad148)]) (rest := []) rfl E_277 (rm_Pread l Z a0 hw [] ad190 ad148 k148 (2 : Int32) 2 (-1 : Int32) (-1 : Int32) (-1 : Int32) y5 y0 y4 (3 : Int32) [(y0, y1, y2), (y3, y4, y5), (y5, y0, y4)] aL_252 aw_252 aK_252 aY_252 aB_252 aC_252 kw_252 kK_252 kY_252 w0_252 w1_252 w2_252 rb_252 wd_252 cw_252 b0_252 b1_252 b2_252 f_252 g_252 xK_252 xY_252 T271.heap n0 O272 RR271 (by decide) V_276 gn148 nw232 rfl (by decide) rfl) 0 (by decide) (by decide) (by decide) (by decide) (mkF m 232 #[.val (.int p0), .val (.int p1), .val (.int p2), .val (.int p3), .val (.int p4), .val (.int p5), .val (.int y0), .val (.int y1), .val (.int y2), .val (.int y3), .val (.int y4), .val (.int y5), .val (.ref ad1), .val (.ref ad13), .val (.ref ad30), .val (.ref ad52), .val (.ref ad79), .val (.ref ad111), .val (.ref ad148), .val (.ref ad190), .val (.int (0 : Int32)), .val (.int (1 : Int32)), .val (.int (2 : Int32))] [(.ref ad148), (.int (2 : Int32)), (.ref ad190)]) rfl (by rw [hml]; rfl) (lenOf pd_12 rfl) rfl (hb hby at_232) (Nat.le_of_eq rfl) ?_
  intro v280 T280 L280 X280 hQ280
  obtain ⟨rfl, M280, K280, VR280⟩ := hQ280
  have N280 := Fr.app N271 M280
  have O281 := O272.keep K280 (allS gn148 all0)
  have V_282 := V_273.keep K280 (ninS ne149 nin0)
  have V_283 := V_274.keep K280 (ninS ne150 nin0)
  have V_284 := V_275.keep K280 (ninS ne151 nin0)
  have E_285 := E_277.keep K280
  have V_286 := V_278.keep K280 (ninS ne153 nin0)
  have V_287 := V_279.keep K280 (ninS ne152 nin0)
  have V_288 := VR271.keep K280 (ninS ne154 nin0)
  have RR280 := PR_keep RR271 K280 (allS lne197 all0)
  show Go p e below _ (T280.setTop (mkF m 235 #[.val (.int p0), .val (.int p1), .val (.int p2), .val (.int p3), .val (.int p4), .val (.int p5), .val (.int y0), .val (.int y1), .val (.int y2), .val (.int y3), .val (.int y4), .val (.int y5), .val (.ref ad1), .val (.ref ad13), .val (.ref ad30), .val (.ref ad52), .val (.ref ad79), .val (.ref ad111), .val (.ref ad148), .val (.ref ad190), .val (.int (0 : Int32)), .val (.int (1 : Int32)), .val (.int (2 : Int32))] []))
  refine Go.st (fun _ => XS.iload X280.here hx rfl (hb hby at_235) rfl) ?_
  refine Go.st (fun _ => XS.ifNo X280.here hx rfl (hb hby at_237) rfl ((if0 _ _).trans (teq (by decide : (0 : Int32) = (0 : Int32))).2)) ?_
  refine Go.st (fun _ => XS.iload X280.here hx rfl (hb hby at_240) rfl) ?_
  refine Go.st (fun _ => XS.iconst X280.here hx rfl (hb hby at_242)) ?_
  show Go p e below _ (T280.setTop (mkF m 243 #[.val (.int p0), .val (.int p1), .val (.int p2), .val (.int p3), .val (.int p4), .val (.int p5), .val (.int y0), .val (.int y1), .val (.int y2), .val (.int y3), .val (.int y4), .val (.int y5), .val (.ref ad1), .val (.ref ad13), .val (.ref ad30), .val (.ref ad52), .val (.ref ad79), .val (.ref ad111), .val (.ref ad148), .val (.ref ad190), .val (.int (0 : Int32)), .val (.int (1 : Int32)), .val (.int (2 : Int32))] [(.int (1 : Int32)), (.int (1 : Int32))]))
  refine Go.st (fun _ => XS.icmpNo X280.here hx rfl (hb hby at_243) rfl (teq (by decide : (1 : Int32) = (1 : Int32))).2) ?_
  refine Go.st (fun _ => XS.iload X280.here hx rfl (hb hby at_246) rfl) ?_
  refine Go.st (fun _ => XS.iconst X280.here hx rfl (hb hby at_248)) ?_
  refine Go.st (fun _ => XS.icmpNo X280.here hx rfl (hb hby at_249) rfl (teq (by decide : (2 : Int32) = (2 : Int32))).2) ?_
  show Go p e below _ (T280.setTop (mkF m 252 #[.val (.int p0), .val (.int p1), .val (.int p2), .val (.int p3), .val (.int p4), .val (.int p5), .val (.int y0), .val (.int y1), .val (.int y2), .val (.int y3), .val (.int y4), .val (.int y5), .val (.ref ad1), .val (.ref ad13), .val (.ref ad30), .val (.ref ad52), .val (.ref ad79), .val (.ref ad111), .val (.ref ad148), .val (.ref ad190), .val (.int (0 : Int32)), .val (.int (1 : Int32)), .val (.int (2 : Int32))] []))
  refine Go.st (fun _ => XS.aload X280.here hx rfl (hb hby at_252) rfl rfl) ?_
  refine Go.st (fun _ => XS.iload X280.here hx rfl (hb hby at_254) rfl) ?_
  refine Go.st (fun _ => XS.iload X280.here hx rfl (hb hby at_256) rfl) ?_
  refine Go.st (fun _ => XS.iload X280.here hx rfl (hb hby at_258) rfl) ?_
  show Go p e below _ (T280.setTop (mkF m 260 #[.val (.int p0), .val (.int p1), .val (.int p2), .val (.int p3), .val (.int p4), .val (.int p5), .val (.int y0), .val (.int y1), .val (.int y2), .val (.int y3), .val (.int y4), .val (.int y5), .val (.ref ad1), .val (.ref ad13), .val (.ref ad30), .val (.ref ad52), .val (.ref ad79), .val (.ref ad111), .val (.ref ad148), .val (.ref ad190), .val (.int (0 : Int32)), .val (.int (1 : Int32)), .val (.int (2 : Int32))] [(.int y2), (.int y1), (.int y0), (.ref ad79)]))
  refine goCallS X280 hx hZ (y := (⟨"com/example/traza/traza/PackedRowsReadPinLaw", "same", "([IIII)Z"⟩ : MethodName)) hown (ww hw 108 rfl) (ww hw 109 rfl) (ww hw 110 rfl) (ww hw 111 rfl) (by decide) (argsL := [(.ref ad79), (.int y0), (.int y1), (.int y2)]) (rest := []) rfl (rm_same l Z a0 hw [] ad79 k79 y0 y1 y2 T280.heap n0 O281 V_286) 0 (by decide) (by decide) (by decide) (by decide) (mkF m 260 #[.val (.int p0), .val (.int p1), .val (.int p2), .val (.int p3), .val (.int p4), .val (.int p5), .val (.int y0), .val (.int y1), .val (.int y2), .val (.int y3), .val (.int y4), .val (.int y5), .val (.ref ad1), .val (.ref ad13), .val (.ref ad30), .val (.ref ad52), .val (.ref ad79), .val (.ref ad111), .val (.ref ad148), .val (.ref ad190), .val (.int (0 : Int32)), .val (.int (1 : Int32)), .val (.int (2 : Int32))] [(.int y2), (.int y1), (.int y0), (.ref ad79)]) rfl (by rw [hml]; rfl) (lenOf pd_13 rfl) rfl (hb hby at_260) (Nat.le_of_eq rfl) ?_
  intro v289 T289 L289 X289 hQ289
  obtain ⟨rfl, M289, e289⟩ := hQ289
  have N289 := Fr.app N280 M289
  show Go p e below _ (T289.setTop (mkF m 263 #[.val (.int p0), .val (.int p1), .val (.int p2), .val (.int p3), .val (.int p4), .val (.int p5), .val (.int y0), .val (.int y1), .val (.int y2), .val (.int y3), .val (.int y4), .val (.int y5), .val (.ref ad1), .val (.ref ad13), .val (.ref ad30), .val (.ref ad52), .val (.ref ad79), .val (.ref ad111), .val (.ref ad148), .val (.ref ad190), .val (.int (0 : Int32)), .val (.int (1 : Int32)), .val (.int (2 : Int32))] [(.int (1 : Int32))]))
  refine Go.st (fun _ => XS.ifNo X289.here hx rfl (hb hby at_263) rfl ((if0 _ _).trans (feq (by decide : ¬ ((1 : Int32) = (0 : Int32)))).1)) ?_
  refine Go.st (fun _ => XS.aload X289.here hx rfl (hb hby at_266) rfl rfl) ?_
  refine Go.st (fun _ => XS.iload X289.here hx rfl (hb hby at_268) rfl) ?_
  refine Go.st (fun _ => XS.iload X289.here hx rfl (hb hby at_270) rfl) ?_
  show Go p e below _ (T289.setTop (mkF m 272 #[.val (.int p0), .val (.int p1), .val (.int p2), .val (.int p3), .val (.int p4), .val (.int p5), .val (.int y0), .val (.int y1), .val (.int y2), .val (.int y3), .val (.int y4), .val (.int y5), .val (.ref ad1), .val (.ref ad13), .val (.ref ad30), .val (.ref ad52), .val (.ref ad79), .val (.ref ad111), .val (.ref ad148), .val (.ref ad190), .val (.int (0 : Int32)), .val (.int (1 : Int32)), .val (.int (2 : Int32))] [(.int y1), (.int y0), (.ref ad52)]))
  refine Go.st (fun _ => XS.iload X289.here hx rfl (hb hby at_272) rfl) ?_
  refine goCallS X289 hx hZ (y := (⟨"com/example/traza/traza/PackedRowsReadPinLaw", "same", "([IIII)Z"⟩ : MethodName)) hown (ww hw 108 rfl) (ww hw 109 rfl) (ww hw 110 rfl) (ww hw 111 rfl) (by decide) (argsL := [(.ref ad52), (.int y0), (.int y1), (.int y2)]) (rest := []) e289 (rm_same l Z a0 hw [] ad52 k52 y0 y1 y2 T280.heap n0 O281 V_287) 0 (by decide) (by decide) (by decide) (by decide) (mkF m 274 #[.val (.int p0), .val (.int p1), .val (.int p2), .val (.int p3), .val (.int p4), .val (.int p5), .val (.int y0), .val (.int y1), .val (.int y2), .val (.int y3), .val (.int y4), .val (.int y5), .val (.ref ad1), .val (.ref ad13), .val (.ref ad30), .val (.ref ad52), .val (.ref ad79), .val (.ref ad111), .val (.ref ad148), .val (.ref ad190), .val (.int (0 : Int32)), .val (.int (1 : Int32)), .val (.int (2 : Int32))] [(.int y2), (.int y1), (.int y0), (.ref ad52)]) rfl (by rw [hml]; rfl) (lenOf pd_13 rfl) rfl (hb hby at_274) (Nat.le_of_eq rfl) ?_
  intro v290 T290 L290 X290 hQ290
  obtain ⟨rfl, M290, e290⟩ := hQ290
  have N290 := Fr.app N289 M290
  show Go p e below _ (T290.setTop (mkF m 277 #[.val (.int p0), .val (.int p1), .val (.int p2), .val (.int p3), .val (.int p4), .val (.int p5), .val (.int y0), .val (.int y1), .val (.int y2), .val (.int y3), .val (.int y4), .val (.int y5), .val (.ref ad1), .val (.ref ad13), .val (.ref ad30), .val (.ref ad52), .val (.ref ad79), .val (.ref ad111), .val (.ref ad148), .val (.ref ad190), .val (.int (0 : Int32)), .val (.int (1 : Int32)), .val (.int (2 : Int32))] [(.int (1 : Int32))]))
  refine Go.st (fun _ => XS.ifNo X290.here hx rfl (hb hby at_277) rfl ((if0 _ _).trans (feq (by decide : ¬ ((1 : Int32) = (0 : Int32)))).1)) ?_
  refine Go.st (fun _ => XS.aload X290.here hx rfl (hb hby at_280) rfl rfl) ?_
  refine Go.st (fun _ => XS.iload X290.here hx rfl (hb hby at_282) rfl) ?_
  refine Go.st (fun _ => XS.iload X290.here hx rfl (hb hby at_284) rfl) ?_
  show Go p e below _ (T290.setTop (mkF m 286 #[.val (.int p0), .val (.int p1), .val (.int p2), .val (.int p3), .val (.int p4), .val (.int p5), .val (.int y0), .val (.int y1), .val (.int y2), .val (.int y3), .val (.int y4), .val (.int y5), .val (.ref ad1), .val (.ref ad13), .val (.ref ad30), .val (.ref ad52), .val (.ref ad79), .val (.ref ad111), .val (.ref ad148), .val (.ref ad190), .val (.int (0 : Int32)), .val (.int (1 : Int32)), .val (.int (2 : Int32))] [(.int y4), (.int y3), (.ref ad111)]))
  refine Go.st (fun _ => XS.iload X290.here hx rfl (hb hby at_286) rfl) ?_
  refine goCallS X290 hx hZ (y := (⟨"com/example/traza/traza/PackedRowsReadPinLaw", "same", "([IIII)Z"⟩ : MethodName)) hown (ww hw 108 rfl) (ww hw 109 rfl) (ww hw 110 rfl) (ww hw 111 rfl) (by decide) (argsL := [(.ref ad111), (.int y3), (.int y4), (.int y5)]) (rest := []) e290 (rm_same l Z a0 hw [] ad111 k111 y3 y4 y5 T280.heap n0 O281 V_288) 0 (by decide) (by decide) (by decide) (by decide) (mkF m 288 #[.val (.int p0), .val (.int p1), .val (.int p2), .val (.int p3), .val (.int p4), .val (.int p5), .val (.int y0), .val (.int y1), .val (.int y2), .val (.int y3), .val (.int y4), .val (.int y5), .val (.ref ad1), .val (.ref ad13), .val (.ref ad30), .val (.ref ad52), .val (.ref ad79), .val (.ref ad111), .val (.ref ad148), .val (.ref ad190), .val (.int (0 : Int32)), .val (.int (1 : Int32)), .val (.int (2 : Int32))] [(.int y5), (.int y4), (.int y3), (.ref ad111)]) rfl (by rw [hml]; rfl) (lenOf pd_13 rfl) rfl (hb hby at_288) (Nat.le_of_eq rfl) ?_
  intro v291 T291 L291 X291 hQ291
  obtain ⟨rfl, M291, e291⟩ := hQ291
  have N291 := Fr.app N290 M291
  show Go p e below _ (T291.setTop (mkF m 291 #[.val (.int p0), .val (.int p1), .val (.int p2), .val (.int p3), .val (.int p4), .val (.int p5), .val (.int y0), .val (.int y1), .val (.int y2), .val (.int y3), .val (.int y4), .val (.int y5), .val (.ref ad1), .val (.ref ad13), .val (.ref ad30), .val (.ref ad52), .val (.ref ad79), .val (.ref ad111), .val (.ref ad148), .val (.ref ad190), .val (.int (0 : Int32)), .val (.int (1 : Int32)), .val (.int (2 : Int32))] [(.int (1 : Int32))]))
  refine Go.st (fun _ => XS.ifNo X291.here hx rfl (hb hby at_291) rfl ((if0 _ _).trans (feq (by decide : ¬ ((1 : Int32) = (0 : Int32)))).1)) ?_
  refine Go.st (fun _ => XS.aload X291.here hx rfl (hb hby at_294) rfl rfl) ?_
  refine Go.st (fun _ => XS.iload X291.here hx rfl (hb hby at_296) rfl) ?_
  refine Go.st (fun _ => XS.iload X291.here hx rfl (hb hby at_298) rfl) ?_
  show Go p e below _ (T291.setTop (mkF m 300 #[.val (.int p0), .val (.int p1), .val (.int p2), .val (.int p3), .val (.int p4), .val (.int p5), .val (.int y0), .val (.int y1), .val (.int y2), .val (.int y3), .val (.int y4), .val (.int y5), .val (.ref ad1), .val (.ref ad13), .val (.ref ad30), .val (.ref ad52), .val (.ref ad79), .val (.ref ad111), .val (.ref ad148), .val (.ref ad190), .val (.int (0 : Int32)), .val (.int (1 : Int32)), .val (.int (2 : Int32))] [(.int y0), (.int y5), (.ref ad148)]))
  refine Go.st (fun _ => XS.iload X291.here hx rfl (hb hby at_300) rfl) ?_
  refine goCallS X291 hx hZ (y := (⟨"com/example/traza/traza/PackedRowsReadPinLaw", "same", "([IIII)Z"⟩ : MethodName)) hown (ww hw 108 rfl) (ww hw 109 rfl) (ww hw 110 rfl) (ww hw 111 rfl) (by decide) (argsL := [(.ref ad148), (.int y5), (.int y0), (.int y4)]) (rest := []) e291 (rm_same l Z a0 hw [] ad148 k148 y5 y0 y4 T280.heap n0 O281 VR280) 0 (by decide) (by decide) (by decide) (by decide) (mkF m 302 #[.val (.int p0), .val (.int p1), .val (.int p2), .val (.int p3), .val (.int p4), .val (.int p5), .val (.int y0), .val (.int y1), .val (.int y2), .val (.int y3), .val (.int y4), .val (.int y5), .val (.ref ad1), .val (.ref ad13), .val (.ref ad30), .val (.ref ad52), .val (.ref ad79), .val (.ref ad111), .val (.ref ad148), .val (.ref ad190), .val (.int (0 : Int32)), .val (.int (1 : Int32)), .val (.int (2 : Int32))] [(.int y4), (.int y0), (.int y5), (.ref ad148)]) rfl (by rw [hml]; rfl) (lenOf pd_13 rfl) rfl (hb hby at_302) (Nat.le_of_eq rfl) ?_
  intro v292 T292 L292 X292 hQ292
  obtain ⟨rfl, M292, e292⟩ := hQ292
  have N292 := Fr.app N291 M292
  show Go p e below _ (T292.setTop (mkF m 305 #[.val (.int p0), .val (.int p1), .val (.int p2), .val (.int p3), .val (.int p4), .val (.int p5), .val (.int y0), .val (.int y1), .val (.int y2), .val (.int y3), .val (.int y4), .val (.int y5), .val (.ref ad1), .val (.ref ad13), .val (.ref ad30), .val (.ref ad52), .val (.ref ad79), .val (.ref ad111), .val (.ref ad148), .val (.ref ad190), .val (.int (0 : Int32)), .val (.int (1 : Int32)), .val (.int (2 : Int32))] [(.int (1 : Int32))]))
  refine Go.st (fun _ => XS.ifNo X292.here hx rfl (hb hby at_305) rfl ((if0 _ _).trans (feq (by decide : ¬ ((1 : Int32) = (0 : Int32)))).1)) ?_
  refine Go.st (fun _ => XS.iconst X292.here hx rfl (hb hby at_308)) ?_
  refine Go.st (fun _ => XS.goto X292.here hx rfl (pc0 := 309) (pc' := 313) rfl (hb hby at_309) (by decide) (by decide)) ?_
  show Go p e below _ (T292.setTop (mkF m 313 #[.val (.int p0), .val (.int p1), .val (.int p2), .val (.int p3), .val (.int p4), .val (.int p5), .val (.int y0), .val (.int y1), .val (.int y2), .val (.int y3), .val (.int y4), .val (.int y5), .val (.ref ad1), .val (.ref ad13), .val (.ref ad30), .val (.ref ad52), .val (.ref ad79), .val (.ref ad111), .val (.ref ad148), .val (.ref ad190), .val (.int (0 : Int32)), .val (.int (1 : Int32)), .val (.int (2 : Int32))] [(.int (1 : Int32))]))
  exact goRetN X292 hx hlk hret (t := .boolean) (by simp) (w := (1 : Int32)) (by decide) e292 (hb hby at_313) (by decide) (by decide) ⟨rfl, N292⟩
set_option maxRecDepth 65536 in
set_option maxHeartbeats 40000000 in
theorem comes_1 {Post : Tables → Env → Array Value → State → Outcome → State → Prop} (hpost : ∀ tb e args s v u, (limb_1_1.after args s (.returned v) u = true ∧ limb_1_2.after args s (.returned v) u = true ∧ True) → FrameEnd s (.returned v) u (Jvm.fieldLocs frame_1_writes args s ++ Jvm.arrayLocs frame_1_arrays args s ++ Jvm.staticLocs frame_1_statics s) 72 35584 → Post tb e args s (.returned v) u) :
    ArmFor flags0 classFile x code maxLocals ret World_1 tables_1 room_1 Calls_1 rest_1 Pre_1 Post := by
  intro l hfl _ _ p e ha hc hk s m args below hf hA hF happ hP
  obtain ⟨hcalls, hrest, hpre⟩ := hP
  obtain ⟨-, -, -, hnamed, -, -, -, hat⟩ := (Spec.applies_iff hf).mp happ
  obtain ⟨hg, hn⟩ := and_e (Cond.before_iff.mp (show (Jvm.Cond.and given_1 narrow_1).before args s = true from hpre))
  obtain ⟨g1, g2⟩ := and_e hg
  obtain ⟨g3, g4⟩ := and_e g2
  obtain ⟨g5, g6⟩ := and_e g4
  obtain ⟨g7, g8⟩ := and_e g6
  obtain ⟨g9, g10⟩ := and_e g8
  obtain ⟨g11, g12⟩ := and_e g10
  obtain ⟨w0, w1, w2, w3, w4, w5, rfl⟩ : ∃ w0 w1 w2 w3 w4 w5 : Value, args = #[w0, w1, w2, w3, w4, w5] := by
    have hs : args.size = 6 := by simpa [Cond.value, given_1] using g1
    obtain ⟨L⟩ := args
    match L, hs with
    | [w0, w1, w2, w3, w4, w5], _ => exact ⟨w0, w1, w2, w3, w4, w5, rfl⟩
  have hw := fun d (hd : d ∈ tables_1) => atoms_spec (ws := Jvm.Cond.code x code maxLocals ret :: tables_1) hat d (List.mem_cons_of_mem _ hd)
  have hfit : Fit s := fun {y c} hc i hi => by
    obtain ⟨ha, rfl⟩ := Array.getElem?_eq_some_iff.mp hc
    have q := List.all_eq_true.mp ((Array.all_eq_true_iff_forall_mem.mp hF) _ (Array.getElem_mem ha)) i (List.mem_range.mpr hi)
    simpa [Array.getElem?_eq_getElem hi] using q
  obtain ⟨i0, ei0⟩ := is_v g3
  obtain rfl : w0 = (.int i0) := Option.some.inj ei0
  obtain ⟨i1, ei1⟩ := is_v g5
  obtain rfl : w1 = (.int i1) := Option.some.inj ei1
  obtain ⟨i2, ei2⟩ := is_v g7
  obtain rfl : w2 = (.int i2) := Option.some.inj ei2
  obtain ⟨i3, ei3⟩ := is_v g9
  obtain rfl : w3 = (.int i3) := Option.some.inj ei3
  obtain ⟨i4, ei4⟩ := is_v g11
  obtain rfl : w4 = (.int i4) := Option.some.inj ei4
  obtain ⟨i5, ei5⟩ := is_v g12
  obtain rfl : w5 = (.int i5) := Option.some.inj ei5
  obtain ⟨n, o, h1, h2, h3, _, L, rfl, ⟨rfl, N⟩, hq⟩ := rm0 l s _ hw tables_1 i0 i1 i2 i3 i4 i5 s.heap s.heap.size (Old.start s) p e ha hc hk s m _ below hf ((Spec.applies_iff_loose hf).mp happ).1 ⟨rfl, State.Warmed39.refl s, rfl⟩ trivial
  refine ⟨n, _, h1, h2, h3, hpost _ _ _ _ _ _ ⟨Cond.after_iff.mpr rfl, Cond.after_iff.mpr (eq_i res_at (Term.int_eval (1)) rfl), trivial⟩ ⟨hq.1, hq.2.1, (hq.2.2.sift fun y hy => Or.inr (N y hy)).mono (by decide) (by decide)⟩⟩
theorem main_1_1 : Claimed_1_1 := comes_1 fun _ _ _ _ _ _ h hF => ⟨h.1, hF⟩
theorem main_1_2 : Claimed_1_2 := comes_1 fun _ _ _ _ _ _ h hF => ⟨h.2.1, hF⟩
end Jvm.Pilot.@@N@@
namespace Jvm.Pilot.@@N@@
open Jvm Jvm.ClassFile Sem Op Lib Jvm.Free Jvm.Stand Jvm.Pilot.@@N@@.Jvm.D
/-! MADE BY PROGRAM (witnessworld.py) out of the Statement's table words and the real class files: 19 classes; the members and pool entries that the words name. The judged class is class 1, her method 2. -/
namespace start1
open Jvm.ClassFile
def u (s : String) : CpInfo := .utf8 (stringToUtf16 s)
/-- a pool by its gaps: so many unusable entries, then the entry; so many at the end -/
def gap : Nat → List CpInfo → List CpInfo
  | 0, r => r
  | n + 1, r => .unusable :: gap n r
def poolList (es : List (Nat × CpInfo)) (last : Nat) : List CpInfo := es.foldr (fun e r => gap e.1 (e.2 :: r)) (gap last [])
def pool (es : List (Nat × CpInfo)) (last : Nat) : Array CpInfo := ⟨poolList es last⟩
def fileOf (pool : Array CpInfo) (this : Nat) (attrs : Array Attribute := #[]) (ms : Array MethodInfo := #[]) (fl : Nat := 33) (sup : Nat := 0) (ifs : Array Nat := #[]) (fds : Array FieldInfo := #[]) : ClassFile where
  minorVersion := 0
  majorVersion := 65
  constantPool := pool
  accessFlags := fl
  thisClass := this
  superClass := sup
  interfaces := ifs
  fields := fds
  methods := ms
  attributes := attrs
def plain (name : String) (sup : Option ClassId) : Class where
  name := name
  kind := .ordinary
  loader := none
  accessFlags := 33
  super := sup
  interfaces := #[]
  cf := none
  fields := #[]
  methods := #[]
  instanceTypes := #[]
  staticTypes := #[]
  resolved := #[]
  callSites := []
  init := .initialized
  statics := none
  mirror := none

def pool0 : Array CpInfo := pool [(5, u "<init>"), (0, u "()V"), (1, .class_ 10), (1, u "java/lang/Object")] 113

def k0c0 : Code := { maxStack := 0, maxLocals := 1, code := object_method_1_code, exceptionTable := #[], attributes := #[] }
def k0m0 : Method := { name := "<init>", desc := "()V", sig := { parameters := [], returnType := none }, accessFlags := 1, code := some k0c0 }
/-- java/lang/Object -/
def k0 : Class := { plain "java/lang/Object" none with
  accessFlags := 33
  interfaces := #[]
  cf := some (fileOf pool0 8 #[] #[{ accessFlags := 1, nameIndex := 5, descriptorIndex := 6, attributes := #[] }] 33 0 #[] #[])
  fields := #[]
  methods := #[k0m0]
  instanceTypes := #[]
  staticTypes := #[]
  resolved := Array.replicate 124 none
  statics := none }

def pool1 : Array CpInfo := pool [(2, .class_ 4), (1, u "java/lang/Object"), (0, u "<init>"), (0, u "()V"), (0, .integer 2147483647), (0, .class_ 9), (0, u "com/example/traza/traza/PackedRows"), (0, .methodref 8 11), (0, .nameAndType 5 12), (0, u "(I)V"), (0, .methodref 8 14), (0, .nameAndType 15 16), (0, u "add"), (0, u "([I)I"), (0, .methodref 8 18), (0, .nameAndType 19 20), (0, u "read"), (0, u "(I[I)V"), (0, .methodref 22 23), (0, .class_ 24), (0, .nameAndType 25 26), (0, u "com/example/traza/traza/PackedRowsReadPinLaw"), (0, u "same"), (0, u "([IIII)Z"), (3, u "law"), (0, u "(IIIIII)Z")] 4

def k1m0 : Method := { name := "<init>", desc := "()V", sig := { parameters := [], returnType := none }, accessFlags := 1, code := none }
def k1c1 : Code := { maxStack := 2, maxLocals := 4, code := method_2_code, exceptionTable := #[], attributes := #[] }
def k1m1 : Method := { name := "same", desc := "([IIII)Z", sig := { parameters := [(.array .int), .int, .int, .int], returnType := some .boolean }, accessFlags := 10, code := some k1c1 }
def k1c2 : Code := { maxStack := 4, maxLocals := 23, code := code, exceptionTable := #[], attributes := #[] }
def k1m2 : Method := { name := "law", desc := "(IIIIII)Z", sig := { parameters := [.int, .int, .int, .int, .int, .int], returnType := some .boolean }, accessFlags := 9, code := some k1c2 }
/-- com/example/traza/traza/PackedRowsReadPinLaw -/
def k1 : Class := { plain "com/example/traza/traza/PackedRowsReadPinLaw" (some 0) with
  accessFlags := 49
  interfaces := #[]
  cf := some (fileOf pool1 22 #[] #[{ accessFlags := 1, nameIndex := 5, descriptorIndex := 6, attributes := #[] }, { accessFlags := 10, nameIndex := 25, descriptorIndex := 26, attributes := #[] }, { accessFlags := 9, nameIndex := 30, descriptorIndex := 31, attributes := #[] }] 49 2 #[] #[])
  fields := #[]
  methods := #[k1m0, k1m1, k1m2]
  instanceTypes := #[]
  staticTypes := #[]
  resolved := Array.replicate 36 none
  statics := none }

def pool2 : Array CpInfo := pool [(1, .methodref 2 3), (0, .class_ 4), (0, .nameAndType 5 6), (0, u "java/lang/Object"), (0, u "<init>"), (0, u "()V"), (0, .class_ 8), (0, u "[J"), (0, .fieldref 10 11), (0, .class_ 12), (0, .nameAndType 13 14), (0, u "com/example/traza/traza/PackedRows"), (0, u "chunks"), (0, u "[[J"), (0, .class_ 16), (0, u "com/example/traza/traza/PackedRows$Layout"), (0, .fieldref 10 18), (0, .nameAndType 19 20), (0, u "layouts"), (0, u "[Lcom/example/traza/traza/PackedRows$Layout;"), (0, .methodref 22 23), (0, .class_ 24), (0, .nameAndType 25 26), (0, u "java/lang/Math"), (0, u "max"), (0, u "(II)I"), (0, .methodref 10 28), (0, .nameAndType 29 30), (0, u "bitsFor"), (0, u "(I)I"), (0, .methodref 22 32), (0, .nameAndType 33 26), (0, u "min"), (0, .fieldref 10 35), (0, .nameAndType 36 37), (0, u "chunkShift"), (0, u "I"), (0, .fieldref 10 39), (0, .nameAndType 40 37), (0, u "chunkMask"), (0, .methodref 15 42), (0, .nameAndType 5 43), (0, u "([II)V"), (0, .fieldref 10 45), (0, .nameAndType 46 47), (0, u "layout"), (0, u "Lcom/example/traza/traza/PackedRows$Layout;"), (0, .fieldref 15 49), (0, .nameAndType 50 37), (0, u "words"), (0, .fieldref 10 52), (0, .nameAndType 53 8), (0, u "bits"), (0, .fieldref 10 55), (0, .nameAndType 56 37), (0, u "size"), (0, .fieldref 15 58), (0, .nameAndType 59 60), (0, u "widths"), (0, u "[I"), (0, .class_ 62), (0, u "java/lang/Integer"), (0, .integer 2147483647), (9, .methodref 15 74), (0, .nameAndType 75 76), (0, u "encode"), (0, u "([I[J)Z"), (0, .methodref 10 78), (0, .nameAndType 79 80), (0, u "widen"), (0, u "([I)V"), (8, .methodref 15 90), (0, .nameAndType 91 92), (0, u "newChunk"), (0, u "()[J"), (0, .methodref 15 94), (0, .nameAndType 95 96), (0, u "put"), (0, u "([JI[J)V"), (0, .methodref 15 98), (0, .nameAndType 99 100), (0, u "read"), (0, u "([JI[I)V"), (10, .methodref 61 112), (0, .nameAndType 113 30), (0, u "numberOfLeadingZeros"), (0, u "MAX_CHUNK_SHIFT"), (2, u "CHUNK_BITS_SHIFT"), (1, u "FIELD_BITS_SHIFT"), (1, u "(I)V"), (4, u "add"), (0, u "([I)I"), (1, u "(I[I)V")] 23

def k2c0 : Code := { maxStack := 6, maxLocals := 2, code := prog_27_method_1_code, exceptionTable := #[], attributes := #[] }
def k2m0 : Method := { name := "<init>", desc := "(I)V", sig := { parameters := [.int], returnType := none }, accessFlags := 0, code := some k2c0 }
def k2c1 : Code := { maxStack := 4, maxLocals := 3, code := prog_27_method_4_code, exceptionTable := #[], attributes := #[] }
def k2m1 : Method := { name := "add", desc := "([I)I", sig := { parameters := [(.array .int)], returnType := some .int }, accessFlags := 0, code := some k2c1 }
def k2c2 : Code := { maxStack := 4, maxLocals := 4, code := prog_27_method_5_code, exceptionTable := #[], attributes := #[] }
def k2m2 : Method := { name := "read", desc := "(I[I)V", sig := { parameters := [.int, (.array .int)], returnType := none }, accessFlags := 0, code := some k2c2 }
def k2c3 : Code := { maxStack := 5, maxLocals := 10, code := prog_27_method_7_code, exceptionTable := #[], attributes := #[] }
def k2m3 : Method := { name := "widen", desc := "([I)V", sig := { parameters := [(.array .int)], returnType := none }, accessFlags := 2, code := some k2c3 }
def k2c4 : Code := { maxStack := 2, maxLocals := 1, code := prog_27_method_8_code, exceptionTable := #[], attributes := #[] }
def k2m4 : Method := { name := "bitsFor", desc := "(I)I", sig := { parameters := [.int], returnType := some .int }, accessFlags := 10, code := some k2c4 }
/-- com/example/traza/traza/PackedRows -/
def k2 : Class := { plain "com/example/traza/traza/PackedRows" (some 0) with
  accessFlags := 48
  interfaces := #[]
  cf := some (fileOf pool2 10 #[.nestMembers #[15]] #[{ accessFlags := 0, nameIndex := 5, descriptorIndex := 121, attributes := #[] }, { accessFlags := 0, nameIndex := 126, descriptorIndex := 127, attributes := #[] }, { accessFlags := 0, nameIndex := 99, descriptorIndex := 129, attributes := #[] }, { accessFlags := 2, nameIndex := 79, descriptorIndex := 80, attributes := #[] }, { accessFlags := 10, nameIndex := 29, descriptorIndex := 30, attributes := #[] }] 48 2 #[] #[{ accessFlags := 26, nameIndex := 114, descriptorIndex := 37, attributes := #[] }, { accessFlags := 26, nameIndex := 117, descriptorIndex := 37, attributes := #[] }, { accessFlags := 26, nameIndex := 119, descriptorIndex := 37, attributes := #[] }, { accessFlags := 18, nameIndex := 36, descriptorIndex := 37, attributes := #[] }, { accessFlags := 18, nameIndex := 40, descriptorIndex := 37, attributes := #[] }, { accessFlags := 2, nameIndex := 13, descriptorIndex := 14, attributes := #[] }, { accessFlags := 2, nameIndex := 19, descriptorIndex := 20, attributes := #[] }, { accessFlags := 2, nameIndex := 46, descriptorIndex := 47, attributes := #[] }, { accessFlags := 2, nameIndex := 53, descriptorIndex := 8, attributes := #[] }, { accessFlags := 2, nameIndex := 56, descriptorIndex := 37, attributes := #[] }])
  fields := #[{ name := "MAX_CHUNK_SHIFT", type := .int, accessFlags := 26, slot := 0, constantValue := 0 }, { name := "CHUNK_BITS_SHIFT", type := .int, accessFlags := 26, slot := 1, constantValue := 0 }, { name := "FIELD_BITS_SHIFT", type := .int, accessFlags := 26, slot := 2, constantValue := 0 }, { name := "chunkShift", type := .int, accessFlags := 18, slot := 0, constantValue := 0 }, { name := "chunkMask", type := .int, accessFlags := 18, slot := 1, constantValue := 0 }, { name := "chunks", type := (.array (.array .long)), accessFlags := 2, slot := 2, constantValue := 0 }, { name := "layouts", type := (.array (.object "com/example/traza/traza/PackedRows$Layout")), accessFlags := 2, slot := 3, constantValue := 0 }, { name := "layout", type := (.object "com/example/traza/traza/PackedRows$Layout"), accessFlags := 2, slot := 4, constantValue := 0 }, { name := "bits", type := (.array .long), accessFlags := 2, slot := 5, constantValue := 0 }, { name := "size", type := .int, accessFlags := 2, slot := 6, constantValue := 0 }]
  methods := #[k2m0, k2m1, k2m2, k2m3, k2m4]
  instanceTypes := #[.int, .int, (.array (.array .long)), (.array (.object "com/example/traza/traza/PackedRows$Layout")), (.object "com/example/traza/traza/PackedRows$Layout"), (.array .long), .int]
  staticTypes := #[.int, .int, .int]
  resolved := ((Array.replicate 153 none).setIfInBounds 48 (some (.field 3 2))).setIfInBounds 57 (some (.field 3 0))
  statics := none }

def pool3 : Array CpInfo := pool [(1, .methodref 2 3), (0, .class_ 4), (0, .nameAndType 5 6), (0, u "java/lang/Object"), (0, u "<init>"), (0, u "()V"), (2, .long 2147483647), (10, .fieldref 21 22), (0, .class_ 23), (0, .nameAndType 24 25), (0, u "com/example/traza/traza/PackedRows$Layout"), (0, u "widths"), (0, u "[I"), (0, .fieldref 21 27), (0, .nameAndType 28 29), (0, u "rowBits"), (0, u "I"), (0, .methodref 21 31), (0, .nameAndType 32 33), (0, u "wordsFor"), (0, u "(J)I"), (0, .fieldref 21 35), (0, .nameAndType 36 29), (0, u "words"), (0, .fieldref 21 38), (0, .nameAndType 39 29), (0, u "chunkWords"), (0, .long 64), (1, .methodref 43 44), (0, .class_ 45), (0, .nameAndType 46 47), (0, u "java/lang/Math"), (0, u "min"), (0, u "(II)I"), (0, .methodref 21 49), (0, .nameAndType 50 51), (0, u "field"), (0, u "([JJI)I"), (0, .long 63), (1, u "([II)V"), (4, u "newChunk"), (0, u "()[J"), (0, u "encode"), (0, u "([I[J)Z"), (2, u "put"), (0, u "([JI[J)V"), (0, u "read"), (0, u "([JI[I)V"), (5, .class_ 75), (0, u "com/example/traza/traza/PackedRows")] 16

def k3c0 : Code := { maxStack := 4, maxLocals := 9, code := prog_28_method_1_code, exceptionTable := #[], attributes := #[] }
def k3m0 : Method := { name := "<init>", desc := "([II)V", sig := { parameters := [(.array .int), .int], returnType := none }, accessFlags := 0, code := some k3c0 }
def k3c1 : Code := { maxStack := 1, maxLocals := 1, code := prog_28_method_2_code, exceptionTable := #[], attributes := #[] }
def k3m1 : Method := { name := "newChunk", desc := "()[J", sig := { parameters := [], returnType := some (.array .long) }, accessFlags := 0, code := some k3c1 }
def k3c2 : Code := { maxStack := 5, maxLocals := 11, code := prog_28_method_3_code, exceptionTable := #[], attributes := #[] }
def k3m2 : Method := { name := "encode", desc := "([I[J)Z", sig := { parameters := [(.array .int), (.array .long)], returnType := some .boolean }, accessFlags := 0, code := some k3c2 }
def k3c3 : Code := { maxStack := 8, maxLocals := 11, code := prog_28_method_4_code, exceptionTable := #[], attributes := #[] }
def k3m3 : Method := { name := "put", desc := "([JI[J)V", sig := { parameters := [(.array .long), .int, (.array .long)], returnType := none }, accessFlags := 0, code := some k3c3 }
def k3c4 : Code := { maxStack := 7, maxLocals := 7, code := prog_28_method_5_code, exceptionTable := #[], attributes := #[] }
def k3m4 : Method := { name := "read", desc := "([JI[I)V", sig := { parameters := [(.array .long), .int, (.array .int)], returnType := none }, accessFlags := 0, code := some k3c4 }
def k3c5 : Code := { maxStack := 6, maxLocals := 8, code := prog_28_method_7_code, exceptionTable := #[], attributes := #[] }
def k3m5 : Method := { name := "field", desc := "([JJI)I", sig := { parameters := [(.array .long), .long, .int], returnType := some .int }, accessFlags := 10, code := some k3c5 }
def k3c6 : Code := { maxStack := 4, maxLocals := 2, code := prog_28_method_8_code, exceptionTable := #[], attributes := #[] }
def k3m6 : Method := { name := "wordsFor", desc := "(J)I", sig := { parameters := [.long], returnType := some .int }, accessFlags := 10, code := some k3c6 }
/-- com/example/traza/traza/PackedRows$Layout -/
def k3 : Class := { plain "com/example/traza/traza/PackedRows$Layout" (some 0) with
  accessFlags := 48
  interfaces := #[]
  cf := some (fileOf pool3 21 #[.nestHost 74] #[{ accessFlags := 0, nameIndex := 5, descriptorIndex := 54, attributes := #[] }, { accessFlags := 0, nameIndex := 59, descriptorIndex := 60, attributes := #[] }, { accessFlags := 0, nameIndex := 61, descriptorIndex := 62, attributes := #[] }, { accessFlags := 0, nameIndex := 65, descriptorIndex := 66, attributes := #[] }, { accessFlags := 0, nameIndex := 67, descriptorIndex := 68, attributes := #[] }, { accessFlags := 10, nameIndex := 50, descriptorIndex := 51, attributes := #[] }, { accessFlags := 10, nameIndex := 32, descriptorIndex := 33, attributes := #[] }] 48 2 #[] #[{ accessFlags := 18, nameIndex := 24, descriptorIndex := 25, attributes := #[] }, { accessFlags := 18, nameIndex := 28, descriptorIndex := 29, attributes := #[] }, { accessFlags := 18, nameIndex := 36, descriptorIndex := 29, attributes := #[] }, { accessFlags := 18, nameIndex := 39, descriptorIndex := 29, attributes := #[] }])
  fields := #[{ name := "widths", type := (.array .int), accessFlags := 18, slot := 0, constantValue := 0 }, { name := "rowBits", type := .int, accessFlags := 18, slot := 1, constantValue := 0 }, { name := "words", type := .int, accessFlags := 18, slot := 2, constantValue := 0 }, { name := "chunkWords", type := .int, accessFlags := 18, slot := 3, constantValue := 0 }]
  methods := #[k3m0, k3m1, k3m2, k3m3, k3m4, k3m5, k3m6]
  instanceTypes := #[(.array .int), .int, .int, .int]
  staticTypes := #[]
  resolved := Array.replicate 92 none
  statics := none }

def pool4 : Array CpInfo := pool [(1, .class_ 2), (0, u "java/lang/Math"), (1, .class_ 6), (1, u "java/lang/Object"), (0, u "<init>"), (0, u "()V"), (89, .class_ 100), (1, u "java/lang/Math$RandomNumberGeneratorHolder"), (71, u "negativeZeroFloatBits"), (0, u "J"), (2, u "negativeZeroDoubleBits"), (21, u "max"), (2, u "min"), (43, u "$assertionsDisabled"), (0, u "Z"), (88, u "(II)I"), (2, u "twoToTheDoubleScaleDown"), (0, u "D"), (4, u "twoToTheDoubleScaleUp"), (9, u "E"), (3, u "PI"), (2, u "TAU"), (2, u "DEGREES_TO_RADIANS"), (0, u "RADIANS_TO_DEGREES")] 94

def k4m0 : Method := { name := "<init>", desc := "()V", sig := { parameters := [], returnType := none }, accessFlags := 2, code := none }
def k4c1 : Code := { maxStack := 2, maxLocals := 2, code := jdk_29_method_65_code, exceptionTable := #[], attributes := #[] }
def k4m1 : Method := { name := "max", desc := "(II)I", sig := { parameters := [.int, .int], returnType := some .int }, accessFlags := 9, code := some k4c1 }
def k4c2 : Code := { maxStack := 2, maxLocals := 2, code := jdk_29_method_69_code, exceptionTable := #[], attributes := #[] }
def k4m2 : Method := { name := "min", desc := "(II)I", sig := { parameters := [.int, .int], returnType := some .int }, accessFlags := 9, code := some k4c2 }
/-- java/lang/Math -/
def k4 : Class := { plain "java/lang/Math" (some 0) with
  accessFlags := 49
  interfaces := #[]
  cf := some (fileOf pool4 1 #[.nestMembers #[98]] #[{ accessFlags := 2, nameIndex := 7, descriptorIndex := 8, attributes := #[] }, { accessFlags := 9, nameIndex := 198, descriptorIndex := 335, attributes := #[] }, { accessFlags := 9, nameIndex := 201, descriptorIndex := 335, attributes := #[] }] 49 4 #[] #[{ accessFlags := 25, nameIndex := 354, descriptorIndex := 339, attributes := #[] }, { accessFlags := 25, nameIndex := 358, descriptorIndex := 339, attributes := #[] }, { accessFlags := 25, nameIndex := 361, descriptorIndex := 339, attributes := #[] }, { accessFlags := 26, nameIndex := 364, descriptorIndex := 339, attributes := #[] }, { accessFlags := 26, nameIndex := 365, descriptorIndex := 339, attributes := #[] }, { accessFlags := 26, nameIndex := 172, descriptorIndex := 173, attributes := #[] }, { accessFlags := 26, nameIndex := 176, descriptorIndex := 173, attributes := #[] }, { accessFlags := 8, nameIndex := 344, descriptorIndex := 339, attributes := #[] }, { accessFlags := 8, nameIndex := 338, descriptorIndex := 339, attributes := #[] }, { accessFlags := 4120, nameIndex := 245, descriptorIndex := 246, attributes := #[] }])
  fields := #[{ name := "E", type := .double, accessFlags := 25, slot := 0, constantValue := 0 }, { name := "PI", type := .double, accessFlags := 25, slot := 1, constantValue := 0 }, { name := "TAU", type := .double, accessFlags := 25, slot := 2, constantValue := 0 }, { name := "DEGREES_TO_RADIANS", type := .double, accessFlags := 26, slot := 3, constantValue := 0 }, { name := "RADIANS_TO_DEGREES", type := .double, accessFlags := 26, slot := 4, constantValue := 0 }, { name := "negativeZeroFloatBits", type := .long, accessFlags := 26, slot := 5, constantValue := 0 }, { name := "negativeZeroDoubleBits", type := .long, accessFlags := 26, slot := 6, constantValue := 0 }, { name := "twoToTheDoubleScaleUp", type := .double, accessFlags := 8, slot := 7, constantValue := 0 }, { name := "twoToTheDoubleScaleDown", type := .double, accessFlags := 8, slot := 8, constantValue := 0 }, { name := "$assertionsDisabled", type := .boolean, accessFlags := 4120, slot := 9, constantValue := 0 }]
  methods := #[k4m0, k4m1, k4m2]
  instanceTypes := #[]
  staticTypes := #[.double, .double, .double, .double, .double, .long, .long, .double, .double, .boolean]
  resolved := Array.replicate 460 none
  statics := none }

def pool5 : Array CpInfo := pool [(1, .class_ 2), (0, u "java/io/Serializable"), (0, .class_ 4), (0, u "java/lang/Object")] 2

/-- java/io/Serializable -/
def k5 : Class := { plain "java/io/Serializable" (some 0) with
  accessFlags := 1537
  interfaces := #[]
  cf := some (fileOf pool5 1 #[] #[] 1537 3 #[] #[])
  fields := #[]
  methods := #[]
  instanceTypes := #[]
  staticTypes := #[]
  resolved := Array.replicate 7 none
  statics := none }

def pool6 : Array CpInfo := pool [(2, .class_ 4), (1, u "java/lang/Object"), (0, u "<init>"), (0, u "()V"), (1, .class_ 10), (1, u "java/lang/Number"), (2, .class_ 14), (0, u "java/io/Serializable"), (0, u "serialVersionUID"), (0, u "J")] 20

def k6m0 : Method := { name := "<init>", desc := "()V", sig := { parameters := [], returnType := none }, accessFlags := 1, code := none }
/-- java/lang/Number -/
def k6 : Class := { plain "java/lang/Number" (some 0) with
  accessFlags := 1057
  interfaces := #[5]
  cf := some (fileOf pool6 8 #[] #[{ accessFlags := 1, nameIndex := 5, descriptorIndex := 6, attributes := #[] }] 1057 2 #[13] #[{ accessFlags := 26, nameIndex := 15, descriptorIndex := 16, attributes := #[] }])
  fields := #[{ name := "serialVersionUID", type := .long, accessFlags := 26, slot := 0, constantValue := 0 }]
  methods := #[k6m0]
  instanceTypes := #[]
  staticTypes := #[.long]
  resolved := Array.replicate 37 none
  statics := none }

def pool7 : Array CpInfo := pool [(1, .class_ 2), (0, u "java/lang/Comparable"), (0, .class_ 4), (0, u "java/lang/Object")] 7

/-- java/lang/Comparable -/
def k7 : Class := { plain "java/lang/Comparable" (some 0) with
  accessFlags := 1537
  interfaces := #[]
  cf := some (fileOf pool7 1 #[] #[] 1537 3 #[] #[])
  fields := #[]
  methods := #[]
  instanceTypes := #[]
  staticTypes := #[]
  resolved := Array.replicate 12 none
  statics := none }

def pool8 : Array CpInfo := pool [(1, .class_ 2), (0, u "java/lang/constant/Constable"), (0, .class_ 4), (0, u "java/lang/Object")] 6

/-- java/lang/constant/Constable -/
def k8 : Class := { plain "java/lang/constant/Constable" (some 0) with
  accessFlags := 1537
  interfaces := #[]
  cf := some (fileOf pool8 1 #[] #[] 1537 3 #[] #[])
  fields := #[]
  methods := #[]
  instanceTypes := #[]
  staticTypes := #[]
  resolved := Array.replicate 11 none
  statics := none }

def pool9 : Array CpInfo := pool [(1, .class_ 2), (0, u "java/lang/constant/ConstantDesc"), (0, .class_ 4), (0, u "java/lang/Object")] 32

/-- java/lang/constant/ConstantDesc -/
def k9 : Class := { plain "java/lang/constant/ConstantDesc" (some 0) with
  accessFlags := 1537
  interfaces := #[]
  cf := some (fileOf pool9 1 #[] #[] 1537 3 #[] #[])
  fields := #[]
  methods := #[]
  instanceTypes := #[]
  staticTypes := #[]
  resolved := Array.replicate 37 none
  statics := none }

def pool10 : Array CpInfo := pool [(1, .class_ 2), (0, u "java/lang/Integer"), (16, u "digits"), (0, u "[C"), (32, u "numberOfLeadingZeros"), (0, u "(I)I"), (30, u "DigitOnes"), (0, u "[B"), (2, u "DigitTens"), (99, .class_ 190), (0, u "java/lang/Integer$IntegerCache"), (3, u "I"), (8, .class_ 204), (0, u "java/lang/Number"), (2, u "value"), (56, .integer 65536), (37, u "TYPE"), (0, u "Ljava/lang/Class;"), (0, .class_ 305), (0, u "java/lang/Comparable"), (0, .class_ 307), (0, u "java/lang/constant/Constable"), (0, .class_ 309), (0, u "java/lang/constant/ConstantDesc"), (0, u "MIN_VALUE"), (1, u "MAX_VALUE"), (3, u "SIZE"), (1, u "BYTES"), (1, u "serialVersionUID"), (0, u "J")] 131

def k10c0 : Code := { maxStack := 3, maxLocals := 2, code := jdk_33_method_47_code, exceptionTable := #[], attributes := #[] }
def k10m0 : Method := { name := "numberOfLeadingZeros", desc := "(I)I", sig := { parameters := [.int], returnType := some .int }, accessFlags := 9, code := some k10c0 }
/-- java/lang/Integer -/
def k10 : Class := { plain "java/lang/Integer" (some 6) with
  accessFlags := 49
  interfaces := #[7, 8, 9]
  cf := some (fileOf pool10 1 #[.nestMembers #[189]] #[{ accessFlags := 9, nameIndex := 53, descriptorIndex := 54, attributes := #[] }] 49 203 #[304, 306, 308] #[{ accessFlags := 25, nameIndex := 310, descriptorIndex := 194, attributes := #[] }, { accessFlags := 25, nameIndex := 312, descriptorIndex := 194, attributes := #[] }, { accessFlags := 25, nameIndex := 302, descriptorIndex := 303, attributes := #[] }, { accessFlags := 24, nameIndex := 19, descriptorIndex := 20, attributes := #[] }, { accessFlags := 24, nameIndex := 89, descriptorIndex := 86, attributes := #[] }, { accessFlags := 24, nameIndex := 85, descriptorIndex := 86, attributes := #[] }, { accessFlags := 18, nameIndex := 207, descriptorIndex := 194, attributes := #[] }, { accessFlags := 25, nameIndex := 316, descriptorIndex := 194, attributes := #[] }, { accessFlags := 25, nameIndex := 318, descriptorIndex := 194, attributes := #[] }, { accessFlags := 26, nameIndex := 320, descriptorIndex := 321, attributes := #[] }])
  fields := #[{ name := "MIN_VALUE", type := .int, accessFlags := 25, slot := 0, constantValue := 0 }, { name := "MAX_VALUE", type := .int, accessFlags := 25, slot := 1, constantValue := 0 }, { name := "TYPE", type := (.object "java/lang/Class"), accessFlags := 25, slot := 2, constantValue := 0 }, { name := "digits", type := (.array .char), accessFlags := 24, slot := 3, constantValue := 0 }, { name := "DigitTens", type := (.array .byte), accessFlags := 24, slot := 4, constantValue := 0 }, { name := "DigitOnes", type := (.array .byte), accessFlags := 24, slot := 5, constantValue := 0 }, { name := "value", type := .int, accessFlags := 18, slot := 0, constantValue := 0 }, { name := "SIZE", type := .int, accessFlags := 25, slot := 6, constantValue := 0 }, { name := "BYTES", type := .int, accessFlags := 25, slot := 7, constantValue := 0 }, { name := "serialVersionUID", type := .long, accessFlags := 26, slot := 8, constantValue := 0 }]
  methods := #[k10m0]
  instanceTypes := #[.int]
  staticTypes := #[.int, .int, (.object "java/lang/Class"), (.array .char), (.array .byte), (.array .byte), .int, .int, .long]
  resolved := Array.replicate 453 none
  statics := none }

def pool11 : Array CpInfo := pool [(1, u "java/lang/Cloneable"), (0, .class_ 1), (0, u "java/lang/Object"), (0, .class_ 3)] 3

/-- java/lang/Cloneable -/
def k11 : Class := { plain "java/lang/Cloneable" (some 0) with
  accessFlags := 1537
  interfaces := #[]
  cf := some (fileOf pool11 2 #[] #[] 1537 4 #[] #[])
  fields := #[]
  methods := #[]
  instanceTypes := #[]
  staticTypes := #[]
  resolved := Array.replicate 8 none
  statics := none }

/-- the primitive byte -/
def k12 : Class := { plain "byte" none with kind := .primitive 'B', accessFlags := 0x411 }
/-- [B -/
def k13 : Class := { plain "[B" (some 0) with kind := .array 12 .byte, interfaces := #[11, 5], accessFlags := 1041 }

/-- the primitive int -/
def k14 : Class := { plain "int" none with kind := .primitive 'I', accessFlags := 0x411 }
/-- [I -/
def k15 : Class := { plain "[I" (some 0) with kind := .array 14 .int, interfaces := #[11, 5], accessFlags := 1041 }

/-- the primitive long -/
def k16 : Class := { plain "long" none with kind := .primitive 'J', accessFlags := 0x411 }
/-- [J -/
def k17 : Class := { plain "[J" (some 0) with kind := .array 16 .long, interfaces := #[11, 5], accessFlags := 1041 }

/-- [Lcom/example/traza/traza/PackedRows$Layout; -/
def k18 : Class := { plain "[Lcom/example/traza/traza/PackedRows$Layout;" (some 0) with kind := .array 3 (.object "com/example/traza/traza/PackedRows$Layout"), interfaces := #[11, 5], accessFlags := 1041 }

def heap : Heap := #[]
/-- [[J -/
def k19 : Class := { plain "[[J" (some 0) with kind := .array 17 (.array .long), interfaces := #[11, 5], accessFlags := 1041 }
def classes : Array Class := #[k0, k1, k2, k3, k4, k5, k6, k7, k8, k9, k10, k11, k12, k13, k14, k15, k16, k17, k18, k19]
def interned : List (Array UInt16 × Addr) := []
def slotsUsed : Nat := 0
def theMethod : MethodId := ⟨1, 2⟩
def args0 : Array Value := #[.int 5, .int 4, .int 3, .int 2, .int 1, .int 0]
def aboutOver (below : List Frame) : State where
  vm := { classes := classes, interned := interned.toArray }
  heap := heap
  slotsUsed := slotsUsed
  threads := #[{ frames := .invoking theMethod args0 :: below }]
def below0 : List Frame := [.native { method := ⟨0, 0⟩, args := #[] }]
def about1 : State := aboutOver below0
def p0 : Program := .bare "" "" ""
def e0 : Env := launch0.env 0 0 0
theorem w_frames : about1.frames = Frame.invoking theMethod args0 :: below0 := rfl
set_option maxRecDepth 65536 in
theorem w_args : argsFit about1.vm theMethod args0 = true := by decide +kernel
set_option maxRecDepth 65536 in
theorem w_heap : heapFits about1 = true := by decide +kernel
set_option maxRecDepth 65536 in
theorem w_runnable : about1.curStatus? = some .runnable := by decide +kernel
set_option maxRecDepth 65536 in
theorem w_alone : about1.alone = true := by decide +kernel
set_option maxRecDepth 65536 in
theorem w_named : about1.methodNamed? x = some theMethod := by decide +kernel
set_option maxRecDepth 65536 in
theorem w_hears : about1.hears theMethod below0 = true := by decide +kernel
set_option maxRecDepth 65536 in
theorem w_ripe : about1.ripe theMethod args0 below0 = true := by decide +kernel
theorem w_running : about1.status = .running := rfl
set_option maxRecDepth 65536 in
theorem w_room : about1.hasRoom e0.platform room_1 = true :=
  launch0.hasRoom_least _ room_1 (by decide +kernel) (by decide +kernel) (by decide +kernel) (by decide +kernel) (by decide +kernel) (by decide +kernel)
theorem allAtoms_all (ts : List Jvm.Cond) (a : Array Jvm.Value) (st : Jvm.State) : (allAtoms ts).before a st = ts.all (fun c => c.before a st) := by
  induction ts with
  | nil => rfl
  | cons c t ih =>
    show (Jvm.Cond.and c (allAtoms t)).before a st = _
    rw [Jvm.Cond.before_and, ih, List.all_cons]
def words1 : List Jvm.Cond := Jvm.Cond.code x code maxLocals ret :: tables_1
/-- a 'code' word, met by the world's own term for the bytes: nothing is compared byte by byte -/
theorem code_word {y : MethodName} {bytes : ByteArray} {mx : Nat} {rt : Option FieldType} {a : Array Value} {s : State} {m : MethodId} {meth : Method} {c : Code} (h1 : s.methodNamed? y = some m) (h2 : s.vm.method? m = some meth) (h3 : meth.code = some c) (h4 : c.code = bytes)
    (h5 : (c.maxLocals == mx && c.exceptionTable.isEmpty && decide (c.maxStack ≤ mostOperands) && decide (meth.sig.returnType = rt) && !meth.locks && decide (parseMethodDescriptor y.desc = some meth.sig)) = true) : (Jvm.Cond.code y bytes mx rt).before a s = true := by
  simp only [Bool.and_eq_true, beq_iff_eq, Bool.not_eq_true', decide_eq_true_eq] at h5
  obtain ⟨⟨⟨⟨⟨g1, g2⟩, g3⟩, g4⟩, g5⟩, g6⟩ := h5
  simp [Cond.before, Cond.holds, Cond.value, h1, h2, h3, h4, g1, g2, g3, g4, g5, g6]
def isCode : Jvm.Cond → Bool
  | .code _ _ _ _ => true
  | _ => false
theorem all_split {L : List Jvm.Cond} {P : Jvm.Cond → Bool} (h1 : L.all (fun c => isCode c || P c) = true) (h2 : ∀ c ∈ L.filter isCode, P c = true) : L.all P = true := by
  refine List.all_eq_true.mpr fun c hc => ?_
  have h := List.all_eq_true.mp h1 c hc
  rcases Bool.eq_false_or_eq_true (isCode c) with hi | hi
  · exact h2 c (List.mem_filter.mpr ⟨hc, hi⟩)
  · simpa [hi] using h
set_option maxRecDepth 65536 in
theorem w_c0 : (Jvm.Cond.code x code maxLocals ret).before args0 about1 = true := code_word (m := ⟨1, 2⟩) (meth := k1m2) (c := k1c2) (by decide +kernel) rfl rfl rfl (by decide +kernel)
set_option maxRecDepth 65536 in
theorem w_c1 : (Jvm.Cond.code ({ cls := "com/example/traza/traza/PackedRows", name := "<init>", desc := "(I)V" } : Jvm.MethodName) prog_27_method_1_code (2 : Nat) (Option.none : Option Jvm.ClassFile.FieldType)).before args0 about1 = true := code_word (m := ⟨2, 0⟩) (meth := k2m0) (c := k2c0) (by decide +kernel) rfl rfl rfl (by decide +kernel)
set_option maxRecDepth 65536 in
theorem w_c2 : (Jvm.Cond.code ({ cls := "java/lang/Object", name := "<init>", desc := "()V" } : Jvm.MethodName) object_method_1_code (1 : Nat) (Option.none : Option Jvm.ClassFile.FieldType)).before args0 about1 = true := code_word (m := ⟨0, 0⟩) (meth := k0m0) (c := k0c0) (by decide +kernel) rfl rfl rfl (by decide +kernel)
set_option maxRecDepth 65536 in
theorem w_c3 : (Jvm.Cond.code ({ cls := "java/lang/Math", name := "max", desc := "(II)I" } : Jvm.MethodName) jdk_29_method_65_code (2 : Nat) (Option.some Jvm.ClassFile.FieldType.int)).before args0 about1 = true := code_word (m := ⟨4, 1⟩) (meth := k4m1) (c := k4c1) (by decide +kernel) rfl rfl rfl (by decide +kernel)
set_option maxRecDepth 65536 in
theorem w_c4 : (Jvm.Cond.code ({ cls := "com/example/traza/traza/PackedRows", name := "bitsFor", desc := "(I)I" } : Jvm.MethodName) prog_27_method_8_code (1 : Nat) (Option.some Jvm.ClassFile.FieldType.int)).before args0 about1 = true := code_word (m := ⟨2, 4⟩) (meth := k2m4) (c := k2c4) (by decide +kernel) rfl rfl rfl (by decide +kernel)
set_option maxRecDepth 65536 in
theorem w_c5 : (Jvm.Cond.code ({ cls := "java/lang/Integer", name := "numberOfLeadingZeros", desc := "(I)I" } : Jvm.MethodName) jdk_33_method_47_code (2 : Nat) (Option.some Jvm.ClassFile.FieldType.int)).before args0 about1 = true := code_word (m := ⟨10, 0⟩) (meth := k10m0) (c := k10c0) (by decide +kernel) rfl rfl rfl (by decide +kernel)
set_option maxRecDepth 65536 in
theorem w_c6 : (Jvm.Cond.code ({ cls := "java/lang/Math", name := "min", desc := "(II)I" } : Jvm.MethodName) jdk_29_method_69_code (2 : Nat) (Option.some Jvm.ClassFile.FieldType.int)).before args0 about1 = true := code_word (m := ⟨4, 2⟩) (meth := k4m2) (c := k4c2) (by decide +kernel) rfl rfl rfl (by decide +kernel)
set_option maxRecDepth 65536 in
theorem w_c7 : (Jvm.Cond.code ({ cls := "com/example/traza/traza/PackedRows$Layout", name := "<init>", desc := "([II)V" } : Jvm.MethodName) prog_28_method_1_code (9 : Nat) (Option.none : Option Jvm.ClassFile.FieldType)).before args0 about1 = true := code_word (m := ⟨3, 0⟩) (meth := k3m0) (c := k3c0) (by decide +kernel) rfl rfl rfl (by decide +kernel)
set_option maxRecDepth 65536 in
theorem w_c8 : (Jvm.Cond.code ({ cls := "com/example/traza/traza/PackedRows$Layout", name := "wordsFor", desc := "(J)I" } : Jvm.MethodName) prog_28_method_8_code (2 : Nat) (Option.some Jvm.ClassFile.FieldType.int)).before args0 about1 = true := code_word (m := ⟨3, 6⟩) (meth := k3m6) (c := k3c6) (by decide +kernel) rfl rfl rfl (by decide +kernel)
set_option maxRecDepth 65536 in
theorem w_c9 : (Jvm.Cond.code ({ cls := "com/example/traza/traza/PackedRows", name := "add", desc := "([I)I" } : Jvm.MethodName) prog_27_method_4_code (3 : Nat) (Option.some Jvm.ClassFile.FieldType.int)).before args0 about1 = true := code_word (m := ⟨2, 1⟩) (meth := k2m1) (c := k2c1) (by decide +kernel) rfl rfl rfl (by decide +kernel)
set_option maxRecDepth 65536 in
theorem w_c10 : (Jvm.Cond.code ({ cls := "com/example/traza/traza/PackedRows$Layout", name := "encode", desc := "([I[J)Z" } : Jvm.MethodName) prog_28_method_3_code (11 : Nat) (Option.some Jvm.ClassFile.FieldType.boolean)).before args0 about1 = true := code_word (m := ⟨3, 2⟩) (meth := k3m2) (c := k3c2) (by decide +kernel) rfl rfl rfl (by decide +kernel)
set_option maxRecDepth 65536 in
theorem w_c11 : (Jvm.Cond.code ({ cls := "com/example/traza/traza/PackedRows", name := "widen", desc := "([I)V" } : Jvm.MethodName) prog_27_method_7_code (10 : Nat) (Option.none : Option Jvm.ClassFile.FieldType)).before args0 about1 = true := code_word (m := ⟨2, 3⟩) (meth := k2m3) (c := k2c3) (by decide +kernel) rfl rfl rfl (by decide +kernel)
set_option maxRecDepth 65536 in
theorem w_c12 : (Jvm.Cond.code ({ cls := "com/example/traza/traza/PackedRows$Layout", name := "newChunk", desc := "()[J" } : Jvm.MethodName) prog_28_method_2_code (1 : Nat) (Option.some (Jvm.ClassFile.FieldType.array Jvm.ClassFile.FieldType.long))).before args0 about1 = true := code_word (m := ⟨3, 1⟩) (meth := k3m1) (c := k3c1) (by decide +kernel) rfl rfl rfl (by decide +kernel)
set_option maxRecDepth 65536 in
theorem w_c13 : (Jvm.Cond.code ({ cls := "com/example/traza/traza/PackedRows$Layout", name := "put", desc := "([JI[J)V" } : Jvm.MethodName) prog_28_method_4_code (11 : Nat) (Option.none : Option Jvm.ClassFile.FieldType)).before args0 about1 = true := code_word (m := ⟨3, 3⟩) (meth := k3m3) (c := k3c3) (by decide +kernel) rfl rfl rfl (by decide +kernel)
set_option maxRecDepth 65536 in
theorem w_c14 : (Jvm.Cond.code ({ cls := "com/example/traza/traza/PackedRows", name := "read", desc := "(I[I)V" } : Jvm.MethodName) prog_27_method_5_code (4 : Nat) (Option.none : Option Jvm.ClassFile.FieldType)).before args0 about1 = true := code_word (m := ⟨2, 2⟩) (meth := k2m2) (c := k2c2) (by decide +kernel) rfl rfl rfl (by decide +kernel)
set_option maxRecDepth 65536 in
theorem w_c15 : (Jvm.Cond.code ({ cls := "com/example/traza/traza/PackedRows$Layout", name := "read", desc := "([JI[I)V" } : Jvm.MethodName) prog_28_method_5_code (7 : Nat) (Option.none : Option Jvm.ClassFile.FieldType)).before args0 about1 = true := code_word (m := ⟨3, 4⟩) (meth := k3m4) (c := k3c4) (by decide +kernel) rfl rfl rfl (by decide +kernel)
set_option maxRecDepth 65536 in
theorem w_c16 : (Jvm.Cond.code ({ cls := "com/example/traza/traza/PackedRows$Layout", name := "field", desc := "([JJI)I" } : Jvm.MethodName) prog_28_method_7_code (8 : Nat) (Option.some Jvm.ClassFile.FieldType.int)).before args0 about1 = true := code_word (m := ⟨3, 5⟩) (meth := k3m5) (c := k3c5) (by decide +kernel) rfl rfl rfl (by decide +kernel)
set_option maxRecDepth 65536 in
theorem w_c17 : (Jvm.Cond.code ({ cls := "com/example/traza/traza/PackedRowsReadPinLaw", name := "same", desc := "([IIII)Z" } : Jvm.MethodName) method_2_code (4 : Nat) (Option.some Jvm.ClassFile.FieldType.boolean)).before args0 about1 = true := code_word (m := ⟨1, 1⟩) (meth := k1m1) (c := k1c1) (by decide +kernel) rfl rfl rfl (by decide +kernel)
def codes1 : List Jvm.Cond := [Jvm.Cond.code x code maxLocals ret, Jvm.Cond.code ({ cls := "com/example/traza/traza/PackedRows", name := "<init>", desc := "(I)V" } : Jvm.MethodName) prog_27_method_1_code (2 : Nat) (Option.none : Option Jvm.ClassFile.FieldType), Jvm.Cond.code ({ cls := "java/lang/Object", name := "<init>", desc := "()V" } : Jvm.MethodName) object_method_1_code (1 : Nat) (Option.none : Option Jvm.ClassFile.FieldType), Jvm.Cond.code ({ cls := "java/lang/Math", name := "max", desc := "(II)I" } : Jvm.MethodName) jdk_29_method_65_code (2 : Nat) (Option.some Jvm.ClassFile.FieldType.int), Jvm.Cond.code ({ cls := "com/example/traza/traza/PackedRows", name := "bitsFor", desc := "(I)I" } : Jvm.MethodName) prog_27_method_8_code (1 : Nat) (Option.some Jvm.ClassFile.FieldType.int), Jvm.Cond.code ({ cls := "java/lang/Integer", name := "numberOfLeadingZeros", desc := "(I)I" } : Jvm.MethodName) jdk_33_method_47_code (2 : Nat) (Option.some Jvm.ClassFile.FieldType.int), Jvm.Cond.code ({ cls := "java/lang/Math", name := "min", desc := "(II)I" } : Jvm.MethodName) jdk_29_method_69_code (2 : Nat) (Option.some Jvm.ClassFile.FieldType.int), Jvm.Cond.code ({ cls := "com/example/traza/traza/PackedRows$Layout", name := "<init>", desc := "([II)V" } : Jvm.MethodName) prog_28_method_1_code (9 : Nat) (Option.none : Option Jvm.ClassFile.FieldType), Jvm.Cond.code ({ cls := "com/example/traza/traza/PackedRows$Layout", name := "wordsFor", desc := "(J)I" } : Jvm.MethodName) prog_28_method_8_code (2 : Nat) (Option.some Jvm.ClassFile.FieldType.int), Jvm.Cond.code ({ cls := "com/example/traza/traza/PackedRows", name := "add", desc := "([I)I" } : Jvm.MethodName) prog_27_method_4_code (3 : Nat) (Option.some Jvm.ClassFile.FieldType.int), Jvm.Cond.code ({ cls := "com/example/traza/traza/PackedRows$Layout", name := "encode", desc := "([I[J)Z" } : Jvm.MethodName) prog_28_method_3_code (11 : Nat) (Option.some Jvm.ClassFile.FieldType.boolean), Jvm.Cond.code ({ cls := "com/example/traza/traza/PackedRows", name := "widen", desc := "([I)V" } : Jvm.MethodName) prog_27_method_7_code (10 : Nat) (Option.none : Option Jvm.ClassFile.FieldType), Jvm.Cond.code ({ cls := "com/example/traza/traza/PackedRows$Layout", name := "newChunk", desc := "()[J" } : Jvm.MethodName) prog_28_method_2_code (1 : Nat) (Option.some (Jvm.ClassFile.FieldType.array Jvm.ClassFile.FieldType.long)), Jvm.Cond.code ({ cls := "com/example/traza/traza/PackedRows$Layout", name := "put", desc := "([JI[J)V" } : Jvm.MethodName) prog_28_method_4_code (11 : Nat) (Option.none : Option Jvm.ClassFile.FieldType), Jvm.Cond.code ({ cls := "com/example/traza/traza/PackedRows", name := "read", desc := "(I[I)V" } : Jvm.MethodName) prog_27_method_5_code (4 : Nat) (Option.none : Option Jvm.ClassFile.FieldType), Jvm.Cond.code ({ cls := "com/example/traza/traza/PackedRows$Layout", name := "read", desc := "([JI[I)V" } : Jvm.MethodName) prog_28_method_5_code (7 : Nat) (Option.none : Option Jvm.ClassFile.FieldType), Jvm.Cond.code ({ cls := "com/example/traza/traza/PackedRows$Layout", name := "field", desc := "([JJI)I" } : Jvm.MethodName) prog_28_method_7_code (8 : Nat) (Option.some Jvm.ClassFile.FieldType.int), Jvm.Cond.code ({ cls := "com/example/traza/traza/PackedRowsReadPinLaw", name := "same", desc := "([IIII)Z" } : Jvm.MethodName) method_2_code (4 : Nat) (Option.some Jvm.ClassFile.FieldType.boolean)]
set_option maxRecDepth 65536 in
theorem codes_eq : words1.filter isCode = codes1 := rfl
theorem w_codes : ∀ c ∈ words1.filter isCode, c.before args0 about1 = true := by
  rw [codes_eq]
  intro c hc
  simp only [codes1, List.mem_cons, List.not_mem_nil, or_false] at hc
  rcases hc with rfl | rfl | rfl | rfl | rfl | rfl | rfl | rfl | rfl | rfl | rfl | rfl | rfl | rfl | rfl | rfl | rfl | rfl
  · exact w_c0
  · exact w_c1
  · exact w_c2
  · exact w_c3
  · exact w_c4
  · exact w_c5
  · exact w_c6
  · exact w_c7
  · exact w_c8
  · exact w_c9
  · exact w_c10
  · exact w_c11
  · exact w_c12
  · exact w_c13
  · exact w_c14
  · exact w_c15
  · exact w_c16
  · exact w_c17
set_option maxRecDepth 65536 in
theorem w_t1 : (words1.take 24).all (fun c => isCode c || c.before args0 about1) = true := by decide +kernel
set_option maxRecDepth 65536 in
theorem w_t2 : ((words1.drop 24).take 24).all (fun c => isCode c || c.before args0 about1) = true := by decide +kernel
set_option maxRecDepth 65536 in
theorem w_t3 : (((words1.drop 24).drop 24).take 24).all (fun c => isCode c || c.before args0 about1) = true := by decide +kernel
set_option maxRecDepth 65536 in
theorem w_t4 : ((((words1.drop 24).drop 24).drop 24).take 24).all (fun c => isCode c || c.before args0 about1) = true := by decide +kernel
set_option maxRecDepth 65536 in
theorem w_t5 : ((((words1.drop 24).drop 24).drop 24).drop 24).all (fun c => isCode c || c.before args0 about1) = true := by decide +kernel
theorem w_tables : (allAtoms (Jvm.Cond.code x code maxLocals ret :: tables_1)).before args0 about1 = true := by
  rw [allAtoms_all]
  show words1.all (fun c => c.before args0 about1) = true
  refine all_split ?_ w_codes
  rw [← List.take_append_drop 24 words1, List.all_append, w_t1, ← List.take_append_drop 24 (words1.drop 24), List.all_append, w_t2, ← List.take_append_drop 24 ((words1.drop 24).drop 24), List.all_append, w_t3, ← List.take_append_drop 24 (((words1.drop 24).drop 24).drop 24), List.all_append, w_t4, w_t5]
  rfl
set_option maxRecDepth 65536 in
theorem w_case : (Jvm.Cond.and given_1 narrow_1).before args0 about1 = true := by decide +kernel
theorem w_applies : (headSpec (Jvm.Cond.code x code maxLocals ret :: tables_1) room_1).applies x e0.platform about1 = true :=
  (Spec.applies_iff w_frames).mpr ⟨w_running, w_runnable, w_alone, w_named, w_hears, w_ripe, w_room, w_tables⟩
theorem atStart : AtStart classFile x code maxLocals ret World_1 tables_1 room_1 Calls_1 rest_1 Pre_1 launch0 p0 e0 about1 theMethod args0 below0 :=
  ⟨lists_1, trivial, launch0.admits_env _ _ _, launch0.least_env, fairChoices_fair.cas, fairChoices_fair.clock, w_frames, w_args, w_heap, w_applies, trivial, trivial, w_case⟩
end start1
theorem witness_1 : WitnessClaimed_1 := ⟨start1.p0, start1.e0, start1.about1, start1.theMethod, start1.args0, start1.below0, start1.atStart⟩
end Jvm.Pilot.@@N@@
