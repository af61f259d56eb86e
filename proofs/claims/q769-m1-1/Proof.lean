import JvmDerived
import JvmDerived.Pilot.@@N@@Statement
import JvmDerived.Pilot.@@N@@Code
set_option linter.unusedVariables false
set_option linter.unusedSimpArgs false
namespace Jvm.Pilot.@@N@@
open Jvm Jvm.ClassFile Sem Op Lib Jvm.Free Jvm.Stand Jvm.LawKit Jvm.RoadKit Bundle Jvm.Pilot.@@N@@.Jvm.D
section Own
variable {p : Program} {l : Launch} {e : Env} {R : Room} {s : State} {m : MethodId} {args : Array Value} {below : List Frame} {meth : Method} {c : Code} {T : State} {locs : List Loc} {cells slots : Nat} {K : Outcome → State → Prop} {Z : State} {a0 : Array Value}
/-- from S the run comes to an end of which K is true -/
def Go (p : Program) (e : Env) (below : List Frame) (K : Outcome → State → Prop) (S : State) : Prop := ∃ s₂ o, Steps p.tables e below S s₂ ∧ s₂.status = .running ∧ Ended s₂ below o ∧ K o s₂
theorem Go.st {S S' : State} (h : ∀ t, Steps p.tables e below S' t → Steps p.tables e below S t) (k : Go p e below K S') : Go p e below K S := by
  obtain ⟨a, o, h1, r⟩ := k; exact ⟨a, o, h _ h1, r⟩
theorem Go.tr {S S' : State} (h : Steps p.tables e below S S') (k : Go p e below K S') : Go p e below K S := by
  obtain ⟨a, o, h1, r⟩ := k; exact ⟨a, o, h.trans h1, r⟩
def EndQ (s : State) (Q : Option Value → Heap → List Loc → Prop) (ce sl : Nat) (o : Outcome) (U : State) : Prop := ∃ v L, o = .returned v ∧ Q v U.heap L ∧ FrameEnd s o U L ce sl
theorem goRet {v : Option Value} {ce sl : Nat} {Q : Option Value → Heap → List Loc → Prop} {S : State} {h : Heap} (X : Stand p l e R s m args below meth c T locs cells slots) (hlk : meth.locks = false) (hv : meth.sig.returnType = none → v = none) (eT : T.heap = h)
    (step : ∀ fs, (∀ (f : JFrame) (acts : List Action), f.method = m → f.locked = none → f.entered = [] → (doReturn e (T.setTop f) acts v).1 = T.setFrames fs) → Steps p.tables e below S (T.setFrames fs))
    (hc : cells ≤ ce) (hs : slots ≤ sl) (hQ : Q v h locs) : Go p e below (EndQ s Q ce sl) S := by
  obtain ⟨fs, hr, hrun, hended, hW, hsame⟩ := X.leave (v := v) hv hlk
  subst eT
  exact ⟨_, _, step fs hr, hrun, hended, _, _, rfl, hQ, ⟨_, rfl⟩, hW, hsame.mono hc hs⟩
/-- ireturn of a boolean, byte, char, short -/
theorem goRetN {ce sl : Nat} {Q : Option Value → Heap → List Loc → Prop} {pc : Nat} {Ls : Array Slot} {z w : Int32} {rest : List Value} {t : FieldType} {h : Heap} (X : Stand p l e R s m args below meth c T locs cells slots) (hx : p.tables.exec = Jvm.exec) (hlk : meth.locks = false) (hret : meth.sig.returnType = some t) (ht : t = .boolean ∨ t = .byte ∨ t = .char ∨ t = .short) (hw : nar t z = w) (eT : T.heap = h)
    (hd : decode c.code pc = .ok (.ireturn, 1)) (hc : cells ≤ ce) (hs : slots ≤ sl) (hQ : Q (some (.int w)) h locs) : Go p e below (EndQ s Q ce sl) (T.setTop (mkF m pc Ls (.int z :: rest))) := by
  subst hw
  exact goRet X hlk (fun h => by rw [hret] at h; cases h) eT (fun fs hr => retN X hx hret ht hd hr) hc hs hQ
theorem goRetI {ce sl : Nat} {Q : Option Value → Heap → List Loc → Prop} {pc : Nat} {Ls : Array Slot} {z : Int32} {rest : List Value} {h : Heap} (X : Stand p l e R s m args below meth c T locs cells slots) (hx : p.tables.exec = Jvm.exec) (hlk : meth.locks = false) (hret : meth.sig.returnType = some .int) (eT : T.heap = h)
    (hd : decode c.code pc = .ok (.ireturn, 1)) (hc : cells ≤ ce) (hs : slots ≤ sl) (hQ : Q (some (.int z)) h locs) : Go p e below (EndQ s Q ce sl) (T.setTop (mkF m pc Ls (.int z :: rest))) :=
  goRet X hlk (fun h => by rw [hret] at h; cases h) eT (fun fs hr => retOut X hx hret rfl (Or.inl ⟨rfl, Or.inl rfl, z, rfl⟩) hd hr) hc hs hQ
theorem goRetJ {ce sl : Nat} {Q : Option Value → Heap → List Loc → Prop} {pc : Nat} {Ls : Array Slot} {z : Int64} {rest : List Value} {h : Heap} (X : Stand p l e R s m args below meth c T locs cells slots) (hx : p.tables.exec = Jvm.exec) (hlk : meth.locks = false) (hret : meth.sig.returnType = some .long) (eT : T.heap = h)
    (hd : decode c.code pc = .ok (.lreturn, 1)) (hc : cells ≤ ce) (hs : slots ≤ sl) (hQ : Q (some (.long z)) h locs) : Go p e below (EndQ s Q ce sl) (T.setTop (mkF m pc Ls (.long z :: rest))) :=
  goRet X hlk (fun h => by rw [hret] at h; cases h) eT (fun fs hr => retOut X hx hret rfl (Or.inr (Or.inl ⟨rfl, rfl, z, rfl⟩)) hd hr) hc hs hQ
theorem goRetA {ce sl : Nat} {Q : Option Value → Heap → List Loc → Prop} {pc : Nat} {Ls : Array Slot} {w : Value} {rest : List Value} {t : FieldType} {h : Heap} (X : Stand p l e R s m args below meth c T locs cells slots) (hx : p.tables.exec = Jvm.exec) (hlk : meth.locks = false) (hret : meth.sig.returnType = some t) (ht : t.isReference = true) (hw : w.isRef = true) (hn : narrow t w = w) (eT : T.heap = h)
    (hd : decode c.code pc = .ok (.areturn, 1)) (hc : cells ≤ ce) (hs : slots ≤ sl) (hQ : Q (some w) h locs) : Go p e below (EndQ s Q ce sl) (T.setTop (mkF m pc Ls (w :: rest))) :=
  goRet X hlk (fun h => by rw [hret] at h; cases h) eT (fun fs hr => retOut X hx hret hn (Or.inr (Or.inr (Or.inr (Or.inr ⟨rfl, ht, hw⟩)))) hd hr) hc hs hQ
theorem goRetV {ce sl : Nat} {Q : Option Value → Heap → List Loc → Prop} {pc : Nat} {Ls : Array Slot} {h : Heap} (X : Stand p l e R s m args below meth c T locs cells slots) (hx : p.tables.exec = Jvm.exec) (hlk : meth.locks = false) (hret : meth.sig.returnType = none) (eT : T.heap = h)
    (hd : decode c.code pc = .ok (.return_, 1)) (hc : cells ≤ ce) (hs : slots ≤ sl) (hQ : Q none h locs) : Go p e below (EndQ s Q ce sl) (T.setTop (mkF m pc Ls [])) :=
  goRet X hlk (fun _ => rfl) eT (fun fs hr => X.returnOut hx hret hd hr) hc hs hQ
/-- a method's contract, in the form that a caller takes -/
abbrev Ctr (l : Launch) (y : MethodName) (bytes : ByteArray) (maxL : Nat) (ret : Option FieldType) (ws : List Jvm.Cond) (rm : Room) (as : Array Value) (Z : State) (h0 : Heap) (Q : Option Value → Heap → List Loc → Prop) : Prop :=
  MetFree l y (head1 (Jvm.Cond.code y bytes maxL ret :: ws) rm) (fun a U => a = as ∧ Z.Warmed39 U.vm ∧ U.heap = h0) (fun _ _ _ _ _ => True) (fun _ U o U' => ∃ v L, o = .returned v ∧ Q v U'.heap L ∧ FrameEnd U o U' L rm.cells rm.slots)
theorem Ctr.of {y : MethodName} {bytes : ByteArray} {maxL : Nat} {ret : Option FieldType} {ws : List Jvm.Cond} {rm : Room} {as : Array Value} {h0 : Heap} {Q : Option Value → Heap → List Loc → Prop} (hpl : plainFor y = true)
    (body : ∀ (p : Program) (e : Env) (s : State) (m : MethodId) (below : List Frame) (meth : Method) (c : Code) (s₁ : State), p.tables.exec = Jvm.exec → Z.Warmed39 s.vm → c.code = bytes → c.maxLocals = maxL → s.vm.findClass y.cls = some m.cls → meth.name = y.name → meth.sig.returnType = ret → meth.locks = false →
      Stand p l e rm s m as below meth c s₁ [] 0 0 → s₁.heap = h0 → Go p e below (EndQ s Q rm.cells rm.slots) (s₁.setTop (entryFrame m as maxL))) :
    Ctr l y bytes maxL ret ws rm as Z h0 Q := by
  refine MetFree.of_bodySF hpl hisR ?_
  intro p e s m args below meth c s₁ Bd hml hP _
  obtain ⟨rfl, hZ, hh⟩ := hP
  exact body p e s m below meth c s₁ Bd.exec hZ Bd.bytes hml (findClass_of_methodNamed Bd.named) (name_of_methodNamed Bd.named Bd.method).1 Bd.returns Bd.notSynchronized (Stand.of_body Bd) (by rw [← hh, Bd.state]; rfl)
theorem goCallS (X : Stand p l e R s m args below meth c T locs cells slots) (hx : p.tables.exec = Jvm.exec) (hZ : Z.Warmed39 s.vm) {own : String} {index : Nat} {y : MethodName} {bytes : ByteArray} {maxL : Nat} {ret : Option FieldType} (hown : s.vm.findClass own = some m.cls)
    (w1 : (Jvm.Cond.methodLink own index y).before a0 Z = true) (w2 : (Jvm.Cond.static y).before a0 Z = true) (w3 : (Jvm.Cond.initialized y.cls).before a0 Z = true) (w4 : (Jvm.Cond.code y bytes maxL ret).before a0 Z = true) (hy : y.cls ≠ "java/lang/invoke/MethodHandle" ∧ y.cls ≠ "java/lang/invoke/VarHandle")
    {h : Heap} {rm : Room} {argsL rest : List Value} {Q : Option Value → Heap → List Loc → Prop} (eT : T.heap = h) (hC : Ctr l y bytes maxL ret [] rm argsL.toArray Z h Q) (W : Nat) (hf : rm.frames + 1 ≤ R.frames) (hl : W + (maxL + 11) + rm.locals ≤ R.locals) (hcl : cells + rm.cells ≤ R.cells) (hsl : slots + rm.slots ≤ R.slots)
    (g : JFrame) (hg : g.method = m) (hsize : g.locals.size = c.maxLocals) (hlen : ∀ sig, parseMethodDescriptor y.desc = some sig → argsL.length = sig.parameters.length) (hst : g.stack = argsL.reverse ++ rest) (hd : decode c.code g.pc = .ok (.invokestatic index, 3))
    (hW : 2 * g.monitorRoom + (rest.map fun v => v.category).sum ≤ W)
    (next : ∀ (v : Option Value) (T' : State) (L : List Loc), Stand p l e R s m args below meth c T' (locs ++ L) (cells + rm.cells) (slots + rm.slots) → Q v T'.heap L → Go p e below K (T'.setTop { g with pc := g.pc + 3, stack := v.toList ++ rest })) :
    Go p e below K (T.setTop g) := by
  subst eT
  obtain ⟨v, _, ⟨T', L', k', n'⟩, -, X', ⟨L, hQ, l1, y1, z1⟩, stp⟩ := Jvm.LawKit.callS X hx hown (mvT hZ w1) (mvT hZ w2) (mvT hZ w3) (mvT hZ w4) hy (backOf (W := W) hC hZ w4 w3 hf hl) (g := g) hg hsize hlen hst hW hd (fun _ _ => ⟨rfl, rfl, hcl, hsl⟩)
  dsimp only [Pt.U, Pt.locs, Pt.cells, Pt.slots] at X' l1 y1 z1 stp hQ
  subst l1 y1 z1
  exact Go.st stp (next v T' L X' hQ)
theorem goInit (X : Stand p l e R s m args below meth c T locs cells slots) (hx : p.tables.exec = Jvm.exec) (hZ : Z.Warmed39 s.vm) {own : String} {index : Nat} {y : MethodName} {bytes : ByteArray} {maxL : Nat} (hy1 : y.name = "<init>") (hown : s.vm.findClass own = some m.cls)
    (w1 : (Jvm.Cond.methodLink own index y).before a0 Z = true) (w2 : (Jvm.Cond.instanceMethod y).before a0 Z = true) (w3 : (Jvm.Cond.initialized y.cls).before a0 Z = true) (w4 : (Jvm.Cond.code y bytes maxL none).before a0 Z = true) (hy : y.cls ≠ "java/lang/invoke/MethodHandle" ∧ y.cls ≠ "java/lang/invoke/VarHandle")
    {h : Heap} {rm : Room} {a : Addr} {argsL rest : List Value} {Q : Option Value → Heap → List Loc → Prop} (eT : T.heap = h) (hC : Ctr l y bytes maxL none [] rm (.ref a :: argsL).toArray Z h Q) (W : Nat) (hf : rm.frames + 1 ≤ R.frames) (hl : W + (maxL + 11) + rm.locals ≤ R.locals) (hcl : cells + rm.cells ≤ R.cells) (hsl : slots + rm.slots ≤ R.slots)
    (g : JFrame) (hg : g.method = m) (hsize : g.locals.size = c.maxLocals) (hlen : ∀ sig, parseMethodDescriptor y.desc = some sig → argsL.length = sig.parameters.length) (hst : g.stack = argsL.reverse ++ .ref a :: rest) (hd : decode c.code g.pc = .ok (.invokespecial index, 3))
    (hW : 2 * g.monitorRoom + (rest.map fun v => v.category).sum ≤ W)
    (next : ∀ (v : Option Value) (T' : State) (L : List Loc), Stand p l e R s m args below meth c T' (locs ++ L) (cells + rm.cells) (slots + rm.slots) → Q v T'.heap L → Go p e below K (T'.setTop { g with pc := g.pc + 3, stack := v.toList ++ rest })) :
    Go p e below K (T.setTop g) := by
  subst eT
  obtain ⟨v, _, ⟨T', L', k', n'⟩, -, X', ⟨L, hQ, l1, y1, z1⟩, stp⟩ := X.specialBack hx hy1 hown (mvT hZ w1) (mvT hZ w2) (mvT hZ w4) hy (backOf (W := W) hC hZ w4 w3 hf hl) (g := g) hg hsize (Steps.refl _) hlen hst hW hd (fun _ _ => ⟨rfl, rfl, hcl, hsl⟩)
  dsimp only [Pt.U, Pt.locs, Pt.cells, Pt.slots] at X' l1 y1 z1 stp hQ
  subst l1 y1 z1
  exact Go.tr stp (next v T' L X' hQ)
theorem goVirt (X : Stand p l e R s m args below meth c T locs cells slots) (hx : p.tables.exec = Jvm.exec) (hZ : Z.Warmed39 s.vm) {own C : String} {index : Nat} {y z : MethodName} {bytes : ByteArray} {maxL : Nat} {ret : Option FieldType} (hown : s.vm.findClass own = some m.cls)
    (w1 : (Jvm.Cond.methodLink own index y).before a0 Z = true) (w2 : (Jvm.Cond.declares y).before a0 Z = true) (hnf : NotFace s y) (w5 : (Jvm.Cond.selects C y z).before a0 Z = true) (w6 : (Jvm.Cond.instanceMethod z).before a0 Z = true) (w3 : (Jvm.Cond.initialized z.cls).before a0 Z = true) (w4 : (Jvm.Cond.code z bytes maxL ret).before a0 Z = true) (hy : y.cls ≠ "java/lang/invoke/MethodHandle" ∧ y.cls ≠ "java/lang/invoke/VarHandle")
    {h : Heap} {rm : Room} {a : Addr} {argsL rest : List Value} {Q : Option Value → Heap → List Loc → Prop} (eT : T.heap = h) (E : Exa Z h a C) (hC : Ctr l z bytes maxL ret [] rm (.ref a :: argsL).toArray Z h Q) (W : Nat) (hf : rm.frames + 1 ≤ R.frames) (hl : W + (maxL + 11) + rm.locals ≤ R.locals) (hcl : cells + rm.cells ≤ R.cells) (hsl : slots + rm.slots ≤ R.slots)
    (g : JFrame) (hg : g.method = m) (hsize : g.locals.size = c.maxLocals) (hlen : ∀ sig, parseMethodDescriptor y.desc = some sig → argsL.length = sig.parameters.length) (hst : g.stack = argsL.reverse ++ .ref a :: rest) (hd : decode c.code g.pc = .ok (.invokevirtual index, 3))
    (hW : 2 * g.monitorRoom + (rest.map fun v => v.category).sum ≤ W)
    (next : ∀ (v : Option Value) (T' : State) (L : List Loc), Stand p l e R s m args below meth c T' (locs ++ L) (cells + rm.cells) (slots + rm.slots) → Q v T'.heap L → Go p e below K (T'.setTop { g with pc := g.pc + 3, stack := v.toList ++ rest })) :
    Go p e below K (T.setTop g) := by
  subst eT
  obtain ⟨cq, kq, qa, qb, qc⟩ := isOf (T := T) hZ rfl E
  obtain ⟨v, _, ⟨T', L', k', n'⟩, -, X', ⟨L, hQ, l1, y1, z1⟩, stp⟩ := X.virtualBack hx hown (mvT hZ w1) (mvT hZ w2) hnf (mvT hZ w5) (mvT hZ w6) hy (backOf (W := W) hC hZ w4 w3 hf hl) qa qc (g := g) hg hsize (Steps.refl _) hlen hst hW hd (fun _ _ => ⟨rfl, rfl, hcl, hsl⟩)
  dsimp only [Pt.U, Pt.locs, Pt.cells, Pt.slots] at X' l1 y1 z1 stp hQ
  subst l1 y1 z1
  exact Go.tr stp (next v T' L X' hQ)
theorem oldGe {h : Heap} {n0 : Nat} {b : Addr} (O : Old Z n0 h) (g : b = h.size) : n0 ≤ b := by rw [g, ← O.1]; exact O.2.1
theorem oldSta {h : Heap} {n0 : Nat} {C n d : String} {v : Value} (O : Old Z n0 h) (S : Sta Z Z.heap C n d v) : Sta Z h C n d v := S.ext O.2
theorem oldExa {h : Heap} {n0 : Nat} {C : String} {a : Addr} (O : Old Z n0 h) (S : Exa Z Z.heap a C) : Exa Z h a C := S.ext O.2
theorem oldFld {h : Heap} {n0 : Nat} {a : Addr} {C n d : String} {v : Value} (O : Old Z n0 h) (S : Fld Z Z.heap a C n d v) : Fld Z h a C n d v := S.ext O.2
end Own
theorem fldStart {args : Array Value} {Z : State} {t : Term} {a : Addr} {C n d : String} {v : Int32} (ev : t.eval args Z none [] Z = some (.ref a)) (h : (Jvm.Cond.eq (.field t C n d) (.int v)).value args Z none Z [] = some true) : Fld Z Z.heap a C n d (.int v) := by
  cases hf : Z.fieldOf? a C n d with
  | none => simp [Cond.value, Term.eval, ev, hf] at h
  | some x =>
    cases x <;> simp [Cond.value, Term.eval, ev, hf] at h
    exact Fld.start (by rw [hf, h])
theorem staInt {args : Array Value} {Z : State} {C n d : String} {v : Int32} (h : (Jvm.Cond.eq (.static C n d) (.int v)).value args Z none Z [] = some true) : (Term.static C n d).eval args Z none [] Z = some (.int v) := by
  obtain ⟨x, y, h1, h2, k1, k2⟩ := cmp_v (Or.inl h)
  cases (Term.int_eval v (args := args) (first := Z) (o := none) (idx := []) (s := Z)).symm.trans h2
  obtain ⟨z, rfl⟩ := k2
  rw [h1]
  simp [Cond.value, h1, Term.int_eval] at h
  rw [h]
theorem narZ {z : Int32} (h : z = 0 ∨ z = 1) : nar .boolean z = z := by rcases h with rfl | rfl <;> decide
theorem goJoin {p : Program} {e : Env} {below : List Frame} {K : Outcome → State → Prop} {S : State} {α : Type} {P : α → Prop} {F : α → State} (h1 : ∀ z, P z → Go p e below K (F z)) (h2 : (∀ z, P z → Go p e below K (F z)) → Go p e below K S) : Go p e below K S := h2 h1
theorem own_bit {z : Int32} {P : Prop} [Decidable P] (h : z = (if P then (1 : Int32) else 0)) : z = 0 ∨ z = 1 := by rw [h]; by_cases q : P <;> simp [q]
theorem lenStart {args : Array Value} {Z : State} {t : Term} {a : Addr} {cl : Cell} {n : Int32} (ev : t.eval args Z none [] Z = some (.ref a)) (ha : Z.arrayAt? a = some cl) (h : (Jvm.Cond.eq (.length t) (.int n)).value args Z none Z [] = some true) : cl.slots.size < 2 ^ 31 ∧ cl.slots.size.toInt32 = n := by
  have h1 := eqv_i (Term.int_eval n) h
  by_cases q : cl.slots.size < 2 ^ 31
  · rw [len_f ev ha q] at h1
    exact ⟨q, by simpa using h1⟩
  · simp [Term.eval, ev, ha, q] at h1
theorem nsRoot {Z : State} {a0 : Array Value} {O K : String} {n : Nat} (w : (Jvm.Cond.noSuperclass O).before a0 Z = true) (wi : (Jvm.Cond.instantiable K n).before a0 Z = true) (hn : O ≠ K) : NS Z O K := by
  obtain ⟨c, k, h1, h2, h3, -, -⟩ := Cond.noSuperclass_spec w
  obtain ⟨t, k', g1, -⟩ := Cond.instantiable_spec wi
  have ne := ids_ne h1 g1 hn
  refine ⟨c, t, h1, g1, fun fuel => ?_⟩
  cases fuel with
  | zero => rfl
  | succ f => simp [Vm.isSubclassAux, ne, h2, h3]
theorem nsNo {Z : State} {a0 : Array Value} {C S K : String} {n : Nat} (w : (Jvm.Cond.superclass C S).before a0 Z = true) (wi : (Jvm.Cond.instantiable K n).before a0 Z = true) (nn : NS Z C K) (hn : C ≠ K) : ∃ c t, Z.vm.findClass C = some c ∧ Z.vm.findClass K = some t ∧ Z.vm.assignable c t = false := by
  obtain ⟨c, t, h0, g0, n3⟩ := nn
  obtain ⟨p, k, kp, h1, h2, h3, h4, h5, -, h7⟩ := Cond.superclass_spec h0 w
  obtain ⟨t', k', g1, g2, g5, g6, -⟩ := Cond.instantiable_spec wi
  cases g0.symm.trans g1
  have g7 : k'.isInterface = false := by
    cases hq : k'.isInterface with
    | false => rfl
    | true => rw [hq] at g6; simp at g6
  have ne := ids_ne h0 g0 hn
  refine ⟨c, t, h0, g0, ?_⟩
  show Z.vm.assignableAux (255 + 1) c t = false
  simp [Vm.assignableAux, ne, h2, g2, h5, g5, g7, Vm.isSubclass, n3]
theorem subAt {args : Array Value} {Z : State} {a b : Term} {idx : List Nat} {x y : Int32} (ha : a.eval args Z none idx Z = some (.int x)) (hb : b.eval args Z none idx Z = some (.int y)) : (Term.sub a b).eval args Z none idx Z = some (.int (x - y)) := by simp [Term.eval, ha, hb]
theorem elemStart {args : Array Value} {Z : State} {t u : Term} {a w : Addr} {cl : Cell} {ty : FieldType} {j : Int32} (ev : t.eval args Z none [] Z = some (.ref a)) (A : Arr Z Z.heap a cl ty) (evu : u.eval args Z none [] Z = some (.ref w)) (h : (Jvm.Cond.eq (.elem t (.int j)) u).value args Z none Z [] = some true) : cl.slots[j.toNatClampNeg]? = some (.ref w) := by
  obtain ⟨x, y, h1, h2, k1, k2⟩ := cmp_v (Or.inl h)
  cases evu.symm.trans h2
  have hx : x.isRef = true := k2.2
  have e : x = .ref w := gotT (eq_R h1 h2 hx rfl) h
  rw [← e]
  exact (elem_in h1 ev (Term.int_eval j) A.1).2
theorem own_ite {P Q : Prop} [Decidable P] [Decidable Q] (h : P ↔ Q) : (if P then (1 : Int32) else 0) = (if Q then (1 : Int32) else 0) := by
  by_cases p : P
  · rw [if_pos p, if_pos (h.mp p)]
  · rw [if_neg p, if_neg (fun q => p (h.mpr q))]

theorem pd_0 : parseMethodDescriptor "()V" = some ⟨[], none⟩ := by decide +kernel
theorem pd_1 : parseMethodDescriptor "(Lcom/example/vittoria/vittoria/JobTable$Call;Lcom/example/vittoria/vittoria/JobStatus;Ljava/lang/String;Ljava/time/Duration;)V" = some ⟨[(.object "com/example/vittoria/vittoria/JobTable$Call"), (.object "com/example/vittoria/vittoria/JobStatus"), (.object "java/lang/String"), (.object "java/time/Duration")], none⟩ := by decide +kernel
theorem pd_2 : parseMethodDescriptor "()J" = some ⟨[], some .long⟩ := by decide +kernel
theorem pd_3 : parseMethodDescriptor "(JII)V" = some ⟨[.long, .int, .int], none⟩ := by decide +kernel
theorem pd_4 : parseMethodDescriptor "(Lcom/example/vittoria/vittoria/JobTable$Call;)Lcom/example/vittoria/vittoria/JobTable$Outcome;" = some ⟨[(.object "com/example/vittoria/vittoria/JobTable$Call")], some (.object "com/example/vittoria/vittoria/JobTable$Outcome")⟩ := by decide +kernel
theorem pd_5 : parseMethodDescriptor "()Lcom/example/vittoria/vittoria/JobTable$Call;" = some ⟨[], some (.object "com/example/vittoria/vittoria/JobTable$Call")⟩ := by decide +kernel
theorem pd_6 : parseMethodDescriptor "()I" = some ⟨[], some .int⟩ := by decide +kernel
theorem pd_7 : parseMethodDescriptor "()Lcom/example/vittoria/vittoria/JobStatus;" = some ⟨[], some (.object "com/example/vittoria/vittoria/JobStatus")⟩ := by decide +kernel
theorem pd_8 : parseMethodDescriptor "()Ljava/lang/String;" = some ⟨[], some (.object "java/lang/String")⟩ := by decide +kernel
theorem pd_9 : parseMethodDescriptor "()Ljava/time/Duration;" = some ⟨[], some (.object "java/time/Duration")⟩ := by decide +kernel
theorem d2_0 : decode jdk_30_method_1_code 0 = .ok (.aload_n 0, 1) := by decide +kernel
theorem d2_1 : decode jdk_30_method_1_code 1 = .ok (.invokespecial 1, 3) := by decide +kernel
theorem d2_4 : decode jdk_30_method_1_code 4 = .ok (.return_, 1) := by decide +kernel
theorem pn_2 : plainName "java/lang/Record" = true := by first | (simp [plainName, overriddenIn]; done) | decide +kernel
set_option maxRecDepth 65536 in
set_option maxHeartbeats 40000000 in
theorem rmRec (l : Launch) (Z : State) (a0 : Array Value) (hw : ∀ d ∈ tables_1, d.before a0 Z = true) (ws : List Jvm.Cond) (a1 : Addr) (h0 : Heap) (n0 : Nat) (O0 : Old Z n0 h0) :
    Ctr l (⟨"java/lang/Record", "<init>", "()V"⟩ : MethodName) jdk_30_method_1_code 1 none ws ({ frames := 1, cells := 0, slots := 0, locals := 12 } : Room) #[(.ref a1)] Z h0 (fun v h L => v = none ∧ Fr n0 L ∧ h = h0) := by
  have ef : ∀ m : MethodId, entryFrame m #[(.ref a1)] 1 = mkF m 0 #[.val (.ref a1)] [] := fun m => by first | (simp [entryFrame, mkF, argsToLocals, Value.category]; done) | rfl
  refine Ctr.of (plainFor_of_name pn_2) ?_
  intro p e s m below meth c s₁ hx hZ hby hml hown0 hnm hret hlk X0 e0
  have hown : s.vm.findClass "java/lang/Record" = some m.cls := hown0
  have N0 := Fr.nil n0
  refine Go.st (fun t k => castTop (ef m) k) ?_
  show Go p e below _ (s₁.setTop (mkF m 0 #[.val (.ref a1)] []))
  refine Go.st (fun _ => XS.aloadN X0.here hx rfl (hb hby d2_0) rfl rfl) ?_
  show Go p e below _ (s₁.setTop (mkF m 1 #[.val (.ref a1)] [(.ref a1)]))
  obtain ⟨T1, X1, e1, st1⟩ := initO X0 hx hZ hown (hw _ (List.mem_of_getElem? (i := 11) rfl)) (hw _ (List.mem_of_getElem? (i := 12) rfl)) (hw _ (List.mem_of_getElem? (i := 13) rfl)) e0 (g := (mkF m 1 #[.val (.ref a1)] [(.ref a1)])) rfl (by rw [hml]; rfl) rfl (hb hby d2_1) (by decide) (W := 0) (by show 2 * 0 + _ ≤ _; exact Nat.le_of_eq rfl) (by decide)
  refine Go.st st1 ?_
  show Go p e below _ (T1.setTop (mkF m 4 #[.val (.ref a1)] []))
  exact goRetV X1 hx hlk hret e1 (hb hby d2_4) (by decide) (by decide) ⟨rfl, N0, rfl⟩
theorem d1_0 : decode prog_20_method_1_code 0 = .ok (.aload_n 0, 1) := by decide +kernel
theorem d1_1 : decode prog_20_method_1_code 1 = .ok (.invokespecial 1, 3) := by decide +kernel
theorem d1_4 : decode prog_20_method_1_code 4 = .ok (.aload_n 0, 1) := by decide +kernel
theorem d1_5 : decode prog_20_method_1_code 5 = .ok (.lload_n 1, 1) := by decide +kernel
theorem d1_6 : decode prog_20_method_1_code 6 = .ok (.putfield 7, 3) := by decide +kernel
theorem d1_9 : decode prog_20_method_1_code 9 = .ok (.aload_n 0, 1) := by decide +kernel
theorem d1_10 : decode prog_20_method_1_code 10 = .ok (.iload_n 3, 1) := by decide +kernel
theorem d1_11 : decode prog_20_method_1_code 11 = .ok (.putfield 13, 3) := by decide +kernel
theorem d1_14 : decode prog_20_method_1_code 14 = .ok (.aload_n 0, 1) := by decide +kernel
theorem d1_15 : decode prog_20_method_1_code 15 = .ok (.iload 4, 2) := by decide +kernel
theorem d1_17 : decode prog_20_method_1_code 17 = .ok (.putfield 17, 3) := by decide +kernel
theorem d1_20 : decode prog_20_method_1_code 20 = .ok (.return_, 1) := by decide +kernel
theorem pn_1 : plainName "com/example/vittoria/vittoria/JobTable$Call" = true := by first | (simp [plainName, overriddenIn]; done) | decide +kernel
set_option maxRecDepth 65536 in
set_option maxHeartbeats 40000000 in
theorem rm1 (l : Launch) (Z : State) (a0 : Array Value) (hw : ∀ d ∈ tables_1, d.before a0 Z = true) (ws : List Jvm.Cond) (a1 : Addr) (q2 : Int64) (p3 p4 : Int32) (h0 : Heap) (n0 : Nat) (O0 : Old Z n0 h0) (A1 : Exa Z h0 a1 "com/example/vittoria/vittoria/JobTable$Call") (F0 : Fld Z h0 a1 "com/example/vittoria/vittoria/JobTable$Call" "id" "J" (.long (0 : Int64))) (F1 : Fld Z h0 a1 "com/example/vittoria/vittoria/JobTable$Call" "attempt" "I" (.int (0 : Int32))) (F2 : Fld Z h0 a1 "com/example/vittoria/vittoria/JobTable$Call" "replayedAttempts" "I" (.int (0 : Int32))) (g1 : n0 ≤ a1) :
    Ctr l (⟨"com/example/vittoria/vittoria/JobTable$Call", "<init>", "(JII)V"⟩ : MethodName) prog_20_method_1_code 5 none ws ({ frames := 2, cells := 0, slots := 0, locals := 24 } : Room) #[(.ref a1), (.long q2), (.int p3), (.int p4)] Z h0 (fun v h L => v = none ∧ Fr n0 L ∧ Keep h0 h [a1] ∧ Fld Z h a1 "com/example/vittoria/vittoria/JobTable$Call" "id" "J" (.long q2) ∧ Fld Z h a1 "com/example/vittoria/vittoria/JobTable$Call" "attempt" "I" (.int p3) ∧ Fld Z h a1 "com/example/vittoria/vittoria/JobTable$Call" "replayedAttempts" "I" (.int p4)) := by
  have ef : ∀ m : MethodId, entryFrame m #[(.ref a1), (.long q2), (.int p3), (.int p4)] 5 = mkF m 0 #[.val (.ref a1), .val (.long q2), .second, .val (.int p3), .val (.int p4)] [] := fun m => by first | (simp [entryFrame, mkF, argsToLocals, Value.category]; done) | rfl
  refine Ctr.of (plainFor_of_name pn_1) ?_
  intro p e s m below meth c s₁ hx hZ hby hml hown0 hnm hret hlk X0 e0
  have hown : s.vm.findClass "com/example/vittoria/vittoria/JobTable$Call" = some m.cls := hown0
  have N0 := Fr.nil n0
  refine Go.st (fun t k => castTop (ef m) k) ?_
  show Go p e below _ (s₁.setTop (mkF m 0 #[.val (.ref a1), .val (.long q2), .second, .val (.int p3), .val (.int p4)] []))
  refine Go.st (fun _ => XS.aloadN X0.here hx rfl (hb hby d1_0) rfl rfl) ?_
  show Go p e below _ (s₁.setTop (mkF m 1 #[.val (.ref a1), .val (.long q2), .second, .val (.int p3), .val (.int p4)] [(.ref a1)]))
  refine goInit X0 hx hZ (y := (⟨"java/lang/Record", "<init>", "()V"⟩ : MethodName)) rfl hown (hw _ (List.mem_of_getElem? (i := 6) rfl)) (hw _ (List.mem_of_getElem? (i := 7) rfl)) (hw _ (List.mem_of_getElem? (i := 9) rfl)) (hw _ (List.mem_of_getElem? (i := 10) rfl)) (by decide) (a := a1) (argsL := []) (rest := []) e0 (rmRec l Z a0 hw [] a1 h0 n0 O0) 0 (by decide) (by decide) (by decide) (by decide) (mkF m 1 #[.val (.ref a1), .val (.long q2), .second, .val (.int p3), .val (.int p4)] [(.ref a1)]) rfl (by rw [hml]; rfl) (lenOf pd_0 rfl) rfl (hb hby d1_1) (Nat.le_of_eq rfl) ?_
  intro v1 T1 L1 X1 hQ1
  obtain ⟨rfl, M1, e1⟩ := hQ1
  have N1 := Fr.app N0 M1
  show Go p e below _ (T1.setTop (mkF m 4 #[.val (.ref a1), .val (.long q2), .second, .val (.int p3), .val (.int p4)] []))
  refine Go.st (fun _ => XS.aloadN X1.here hx rfl (hb hby d1_4) rfl rfl) ?_
  show Go p e below _ (T1.setTop (mkF m 5 #[.val (.ref a1), .val (.long q2), .second, .val (.int p3), .val (.int p4)] [(.ref a1)]))
  refine Go.st (fun _ => XS.lloadN X1.here hx rfl (hb hby d1_5) rfl) ?_
  show Go p e below _ (T1.setTop (mkF m 6 #[.val (.ref a1), .val (.long q2), .second, .val (.int p3), .val (.int p4)] [(.long q2), (.ref a1)]))
  obtain ⟨T2, h2, X2, e2, W2, st2⟩ := putF X1 hx hZ hown (host := "") (Or.inl (hw _ (List.mem_of_getElem? (i := 14) rfl))) Via.refl e1 F0 A1 (Or.inr ⟨(hw _ (List.mem_of_getElem? (i := 15) rfl)), rfl, hnm⟩) (hw _ (List.mem_of_getElem? (i := 1) rfl)) (ty := .long) (by decide) rfl rfl (g := (mkF m 6 #[.val (.ref a1), .val (.long q2), .second, .val (.int p3), .val (.int p4)] [(.long q2), (.ref a1)])) rfl rfl (hb hby d1_6)
  refine Go.st st2 ?_
  have O3 : Old Z n0 h2 := O0.wr W2 g1
  have E_4 : Exa Z h2 a1 "com/example/vittoria/vittoria/JobTable$Call" := A1.wr W2
  have F5 : Fld Z h2 a1 "com/example/vittoria/vittoria/JobTable$Call" "attempt" "I" (.int (0 : Int32)) := F1.other W2 (Or.inr (slot_ne (Or.inr (hw _ (List.mem_of_getElem? (i := 17) rfl))) (Or.inr (hw _ (List.mem_of_getElem? (i := 15) rfl))) (by decide) (t := .int) (t' := .long) (by decide) (by decide)))
  have F6 : Fld Z h2 a1 "com/example/vittoria/vittoria/JobTable$Call" "replayedAttempts" "I" (.int (0 : Int32)) := F2.other W2 (Or.inr (slot_ne (Or.inr (hw _ (List.mem_of_getElem? (i := 19) rfl))) (Or.inr (hw _ (List.mem_of_getElem? (i := 15) rfl))) (by decide) (t := .int) (t' := .long) (by decide) (by decide)))
  have K7 : Keep h0 h2 [a1] := (Keep.refl h0 [a1]).wr W2 (Or.inl (List.mem_of_getElem? (i := 0) rfl))
  have F8 : Fld Z h2 a1 "com/example/vittoria/vittoria/JobTable$Call" "id" "J" (.long q2) := F0.same W2
  have N2 := Fr.snoc X2 N1 g1
  show Go p e below _ (T2.setTop (mkF m 9 #[.val (.ref a1), .val (.long q2), .second, .val (.int p3), .val (.int p4)] []))
  refine Go.st (fun _ => XS.aloadN X2.here hx rfl (hb hby d1_9) rfl rfl) ?_
  show Go p e below _ (T2.setTop (mkF m 10 #[.val (.ref a1), .val (.long q2), .second, .val (.int p3), .val (.int p4)] [(.ref a1)]))
  refine Go.st (fun _ => XS.iloadN X2.here hx rfl (hb hby d1_10) rfl) ?_
  show Go p e below _ (T2.setTop (mkF m 11 #[.val (.ref a1), .val (.long q2), .second, .val (.int p3), .val (.int p4)] [(.int p3), (.ref a1)]))
  obtain ⟨T9, h9, X9, e9, W9, st9⟩ := putF X2 hx hZ hown (host := "") (Or.inl (hw _ (List.mem_of_getElem? (i := 16) rfl))) Via.refl e2 F5 E_4 (Or.inr ⟨(hw _ (List.mem_of_getElem? (i := 17) rfl)), rfl, hnm⟩) (hw _ (List.mem_of_getElem? (i := 1) rfl)) (ty := .int) (by decide) rfl rfl (g := (mkF m 11 #[.val (.ref a1), .val (.long q2), .second, .val (.int p3), .val (.int p4)] [(.int p3), (.ref a1)])) rfl rfl (hb hby d1_11)
  refine Go.st st9 ?_
  have O10 : Old Z n0 h9 := O3.wr W9 g1
  have E_11 : Exa Z h9 a1 "com/example/vittoria/vittoria/JobTable$Call" := E_4.wr W9
  have F12 : Fld Z h9 a1 "com/example/vittoria/vittoria/JobTable$Call" "replayedAttempts" "I" (.int (0 : Int32)) := F6.other W9 (Or.inr (slot_ne (Or.inr (hw _ (List.mem_of_getElem? (i := 19) rfl))) (Or.inr (hw _ (List.mem_of_getElem? (i := 17) rfl))) (by decide) (t := .int) (t' := .int) (by decide) (by decide)))
  have K13 : Keep h0 h9 [a1] := K7.wr W9 (Or.inl (List.mem_of_getElem? (i := 0) rfl))
  have F14 : Fld Z h9 a1 "com/example/vittoria/vittoria/JobTable$Call" "id" "J" (.long q2) := F8.other W9 (Or.inr (slot_ne (Or.inr (hw _ (List.mem_of_getElem? (i := 15) rfl))) (Or.inr (hw _ (List.mem_of_getElem? (i := 17) rfl))) (by decide) (t := .long) (t' := .int) (by decide) (by decide)))
  have F15 : Fld Z h9 a1 "com/example/vittoria/vittoria/JobTable$Call" "attempt" "I" (.int p3) := F5.same W9
  have N9 := Fr.snoc X9 N2 g1
  show Go p e below _ (T9.setTop (mkF m 14 #[.val (.ref a1), .val (.long q2), .second, .val (.int p3), .val (.int p4)] []))
  refine Go.st (fun _ => XS.aloadN X9.here hx rfl (hb hby d1_14) rfl rfl) ?_
  show Go p e below _ (T9.setTop (mkF m 15 #[.val (.ref a1), .val (.long q2), .second, .val (.int p3), .val (.int p4)] [(.ref a1)]))
  refine Go.st (fun _ => XS.iload X9.here hx rfl (hb hby d1_15) rfl) ?_
  show Go p e below _ (T9.setTop (mkF m 17 #[.val (.ref a1), .val (.long q2), .second, .val (.int p3), .val (.int p4)] [(.int p4), (.ref a1)]))
  obtain ⟨T16, h16, X16, e16, W16, st16⟩ := putF X9 hx hZ hown (host := "") (Or.inl (hw _ (List.mem_of_getElem? (i := 18) rfl))) Via.refl e9 F12 E_11 (Or.inr ⟨(hw _ (List.mem_of_getElem? (i := 19) rfl)), rfl, hnm⟩) (hw _ (List.mem_of_getElem? (i := 1) rfl)) (ty := .int) (by decide) rfl rfl (g := (mkF m 17 #[.val (.ref a1), .val (.long q2), .second, .val (.int p3), .val (.int p4)] [(.int p4), (.ref a1)])) rfl rfl (hb hby d1_17)
  refine Go.st st16 ?_
  have O17 : Old Z n0 h16 := O10.wr W16 g1
  have E_18 : Exa Z h16 a1 "com/example/vittoria/vittoria/JobTable$Call" := E_11.wr W16
  have K19 : Keep h0 h16 [a1] := K13.wr W16 (Or.inl (List.mem_of_getElem? (i := 0) rfl))
  have F20 : Fld Z h16 a1 "com/example/vittoria/vittoria/JobTable$Call" "id" "J" (.long q2) := F14.other W16 (Or.inr (slot_ne (Or.inr (hw _ (List.mem_of_getElem? (i := 15) rfl))) (Or.inr (hw _ (List.mem_of_getElem? (i := 19) rfl))) (by decide) (t := .long) (t' := .int) (by decide) (by decide)))
  have F21 : Fld Z h16 a1 "com/example/vittoria/vittoria/JobTable$Call" "attempt" "I" (.int p3) := F15.other W16 (Or.inr (slot_ne (Or.inr (hw _ (List.mem_of_getElem? (i := 17) rfl))) (Or.inr (hw _ (List.mem_of_getElem? (i := 19) rfl))) (by decide) (t := .int) (t' := .int) (by decide) (by decide)))
  have F22 : Fld Z h16 a1 "com/example/vittoria/vittoria/JobTable$Call" "replayedAttempts" "I" (.int p4) := F12.same W16
  have N16 := Fr.snoc X16 N9 g1
  show Go p e below _ (T16.setTop (mkF m 20 #[.val (.ref a1), .val (.long q2), .second, .val (.int p3), .val (.int p4)] []))
  exact goRetV X16 hx hlk hret e16 (hb hby d1_20) (by decide) (by decide) ⟨rfl, N16, K19, F20, F21, F22⟩
theorem d5_0 : decode prog_25_method_1_code 0 = .ok (.aload_n 0, 1) := by decide +kernel
theorem d5_1 : decode prog_25_method_1_code 1 = .ok (.invokespecial 1, 3) := by decide +kernel
theorem d5_4 : decode prog_25_method_1_code 4 = .ok (.aload_n 0, 1) := by decide +kernel
theorem d5_5 : decode prog_25_method_1_code 5 = .ok (.aload_n 1, 1) := by decide +kernel
theorem d5_6 : decode prog_25_method_1_code 6 = .ok (.putfield 7, 3) := by decide +kernel
theorem d5_9 : decode prog_25_method_1_code 9 = .ok (.aload_n 0, 1) := by decide +kernel
theorem d5_10 : decode prog_25_method_1_code 10 = .ok (.aload_n 2, 1) := by decide +kernel
theorem d5_11 : decode prog_25_method_1_code 11 = .ok (.putfield 13, 3) := by decide +kernel
theorem d5_14 : decode prog_25_method_1_code 14 = .ok (.aload_n 0, 1) := by decide +kernel
theorem d5_15 : decode prog_25_method_1_code 15 = .ok (.aload_n 3, 1) := by decide +kernel
theorem d5_16 : decode prog_25_method_1_code 16 = .ok (.putfield 17, 3) := by decide +kernel
theorem d5_19 : decode prog_25_method_1_code 19 = .ok (.aload_n 0, 1) := by decide +kernel
theorem d5_20 : decode prog_25_method_1_code 20 = .ok (.aload 4, 2) := by decide +kernel
theorem d5_22 : decode prog_25_method_1_code 22 = .ok (.putfield 21, 3) := by decide +kernel
theorem d5_25 : decode prog_25_method_1_code 25 = .ok (.return_, 1) := by decide +kernel
theorem pn_5 : plainName "com/example/vittoria/vittoria/JobTable$Outcome" = true := by first | (simp [plainName, overriddenIn]; done) | decide +kernel
set_option maxRecDepth 65536 in
set_option maxHeartbeats 40000000 in
theorem rm2 (l : Launch) (Z : State) (a0 : Array Value) (hw : ∀ d ∈ tables_1, d.before a0 Z = true) (ws : List Jvm.Cond) (a1 a2 a3 : Addr) (h0 : Heap) (n0 : Nat) (O0 : Old Z n0 h0) (A1 : Exa Z h0 a1 "com/example/vittoria/vittoria/JobTable$Outcome") (F0 : Fld Z h0 a1 "com/example/vittoria/vittoria/JobTable$Outcome" "call" "Lcom/example/vittoria/vittoria/JobTable$Call;" .null) (F1 : Fld Z h0 a1 "com/example/vittoria/vittoria/JobTable$Outcome" "status" "Lcom/example/vittoria/vittoria/JobStatus;" .null) (F2 : Fld Z h0 a1 "com/example/vittoria/vittoria/JobTable$Outcome" "error" "Ljava/lang/String;" .null) (F3 : Fld Z h0 a1 "com/example/vittoria/vittoria/JobTable$Outcome" "retryDelay" "Ljava/time/Duration;" .null) (g1 : n0 ≤ a1) :
    Ctr l (⟨"com/example/vittoria/vittoria/JobTable$Outcome", "<init>", "(Lcom/example/vittoria/vittoria/JobTable$Call;Lcom/example/vittoria/vittoria/JobStatus;Ljava/lang/String;Ljava/time/Duration;)V"⟩ : MethodName) prog_25_method_1_code 5 none ws ({ frames := 2, cells := 0, slots := 0, locals := 24 } : Room) #[(.ref a1), (.ref a2), (.ref a3), .null, .null] Z h0 (fun v h L => v = none ∧ Fr n0 L ∧ Keep h0 h [a1] ∧ Fld Z h a1 "com/example/vittoria/vittoria/JobTable$Outcome" "call" "Lcom/example/vittoria/vittoria/JobTable$Call;" (.ref a2) ∧ Fld Z h a1 "com/example/vittoria/vittoria/JobTable$Outcome" "status" "Lcom/example/vittoria/vittoria/JobStatus;" (.ref a3) ∧ Fld Z h a1 "com/example/vittoria/vittoria/JobTable$Outcome" "error" "Ljava/lang/String;" .null ∧ Fld Z h a1 "com/example/vittoria/vittoria/JobTable$Outcome" "retryDelay" "Ljava/time/Duration;" .null) := by
  have ef : ∀ m : MethodId, entryFrame m #[(.ref a1), (.ref a2), (.ref a3), .null, .null] 5 = mkF m 0 #[.val (.ref a1), .val (.ref a2), .val (.ref a3), .val .null, .val .null] [] := fun m => by first | (simp [entryFrame, mkF, argsToLocals, Value.category]; done) | rfl
  refine Ctr.of (plainFor_of_name pn_5) ?_
  intro p e s m below meth c s₁ hx hZ hby hml hown0 hnm hret hlk X0 e0
  have hown : s.vm.findClass "com/example/vittoria/vittoria/JobTable$Outcome" = some m.cls := hown0
  have N0 := Fr.nil n0
  refine Go.st (fun t k => castTop (ef m) k) ?_
  show Go p e below _ (s₁.setTop (mkF m 0 #[.val (.ref a1), .val (.ref a2), .val (.ref a3), .val .null, .val .null] []))
  refine Go.st (fun _ => XS.aloadN X0.here hx rfl (hb hby d5_0) rfl rfl) ?_
  show Go p e below _ (s₁.setTop (mkF m 1 #[.val (.ref a1), .val (.ref a2), .val (.ref a3), .val .null, .val .null] [(.ref a1)]))
  refine goInit X0 hx hZ (y := (⟨"java/lang/Record", "<init>", "()V"⟩ : MethodName)) rfl hown (hw _ (List.mem_of_getElem? (i := 32) rfl)) (hw _ (List.mem_of_getElem? (i := 7) rfl)) (hw _ (List.mem_of_getElem? (i := 9) rfl)) (hw _ (List.mem_of_getElem? (i := 10) rfl)) (by decide) (a := a1) (argsL := []) (rest := []) e0 (rmRec l Z a0 hw [] a1 h0 n0 O0) 0 (by decide) (by decide) (by decide) (by decide) (mkF m 1 #[.val (.ref a1), .val (.ref a2), .val (.ref a3), .val .null, .val .null] [(.ref a1)]) rfl (by rw [hml]; rfl) (lenOf pd_0 rfl) rfl (hb hby d5_1) (Nat.le_of_eq rfl) ?_
  intro v1 T1 L1 X1 hQ1
  obtain ⟨rfl, M1, e1⟩ := hQ1
  have N1 := Fr.app N0 M1
  show Go p e below _ (T1.setTop (mkF m 4 #[.val (.ref a1), .val (.ref a2), .val (.ref a3), .val .null, .val .null] []))
  refine Go.st (fun _ => XS.aloadN X1.here hx rfl (hb hby d5_4) rfl rfl) ?_
  show Go p e below _ (T1.setTop (mkF m 5 #[.val (.ref a1), .val (.ref a2), .val (.ref a3), .val .null, .val .null] [(.ref a1)]))
  refine Go.st (fun _ => XS.aloadN X1.here hx rfl (hb hby d5_5) rfl rfl) ?_
  show Go p e below _ (T1.setTop (mkF m 6 #[.val (.ref a1), .val (.ref a2), .val (.ref a3), .val .null, .val .null] [(.ref a2), (.ref a1)]))
  obtain ⟨T2, h2, X2, e2, W2, st2⟩ := putF X1 hx hZ hown (host := "") (Or.inl (hw _ (List.mem_of_getElem? (i := 33) rfl))) Via.refl e1 F0 A1 (Or.inr ⟨(hw _ (List.mem_of_getElem? (i := 34) rfl)), rfl, hnm⟩) (hw _ (List.mem_of_getElem? (i := 25) rfl)) (ty := (.object "com/example/vittoria/vittoria/JobTable$Call")) (by decide) rfl rfl (g := (mkF m 6 #[.val (.ref a1), .val (.ref a2), .val (.ref a3), .val .null, .val .null] [(.ref a2), (.ref a1)])) rfl rfl (hb hby d5_6)
  refine Go.st st2 ?_
  have O3 : Old Z n0 h2 := O0.wr W2 g1
  have E_4 : Exa Z h2 a1 "com/example/vittoria/vittoria/JobTable$Outcome" := A1.wr W2
  have F5 : Fld Z h2 a1 "com/example/vittoria/vittoria/JobTable$Outcome" "status" "Lcom/example/vittoria/vittoria/JobStatus;" .null := F1.other W2 (Or.inr (slot_ne (Or.inr (hw _ (List.mem_of_getElem? (i := 36) rfl))) (Or.inr (hw _ (List.mem_of_getElem? (i := 34) rfl))) (by decide) (t := (.object "com/example/vittoria/vittoria/JobStatus")) (t' := (.object "com/example/vittoria/vittoria/JobTable$Call")) (by decide) (by decide)))
  have F6 : Fld Z h2 a1 "com/example/vittoria/vittoria/JobTable$Outcome" "error" "Ljava/lang/String;" .null := F2.other W2 (Or.inr (slot_ne (Or.inr (hw _ (List.mem_of_getElem? (i := 38) rfl))) (Or.inr (hw _ (List.mem_of_getElem? (i := 34) rfl))) (by decide) (t := (.object "java/lang/String")) (t' := (.object "com/example/vittoria/vittoria/JobTable$Call")) (by decide) (by decide)))
  have F7 : Fld Z h2 a1 "com/example/vittoria/vittoria/JobTable$Outcome" "retryDelay" "Ljava/time/Duration;" .null := F3.other W2 (Or.inr (slot_ne (Or.inr (hw _ (List.mem_of_getElem? (i := 40) rfl))) (Or.inr (hw _ (List.mem_of_getElem? (i := 34) rfl))) (by decide) (t := (.object "java/time/Duration")) (t' := (.object "com/example/vittoria/vittoria/JobTable$Call")) (by decide) (by decide)))
  have K8 : Keep h0 h2 [a1] := (Keep.refl h0 [a1]).wr W2 (Or.inl (List.mem_of_getElem? (i := 0) rfl))
  have F9 : Fld Z h2 a1 "com/example/vittoria/vittoria/JobTable$Outcome" "call" "Lcom/example/vittoria/vittoria/JobTable$Call;" (.ref a2) := F0.same W2
  have N2 := Fr.snoc X2 N1 g1
  show Go p e below _ (T2.setTop (mkF m 9 #[.val (.ref a1), .val (.ref a2), .val (.ref a3), .val .null, .val .null] []))
  refine Go.st (fun _ => XS.aloadN X2.here hx rfl (hb hby d5_9) rfl rfl) ?_
  show Go p e below _ (T2.setTop (mkF m 10 #[.val (.ref a1), .val (.ref a2), .val (.ref a3), .val .null, .val .null] [(.ref a1)]))
  refine Go.st (fun _ => XS.aloadN X2.here hx rfl (hb hby d5_10) rfl rfl) ?_
  show Go p e below _ (T2.setTop (mkF m 11 #[.val (.ref a1), .val (.ref a2), .val (.ref a3), .val .null, .val .null] [(.ref a3), (.ref a1)]))
  obtain ⟨T10, h10, X10, e10, W10, st10⟩ := putF X2 hx hZ hown (host := "") (Or.inl (hw _ (List.mem_of_getElem? (i := 35) rfl))) Via.refl e2 F5 E_4 (Or.inr ⟨(hw _ (List.mem_of_getElem? (i := 36) rfl)), rfl, hnm⟩) (hw _ (List.mem_of_getElem? (i := 25) rfl)) (ty := (.object "com/example/vittoria/vittoria/JobStatus")) (by decide) rfl rfl (g := (mkF m 11 #[.val (.ref a1), .val (.ref a2), .val (.ref a3), .val .null, .val .null] [(.ref a3), (.ref a1)])) rfl rfl (hb hby d5_11)
  refine Go.st st10 ?_
  have O11 : Old Z n0 h10 := O3.wr W10 g1
  have E_12 : Exa Z h10 a1 "com/example/vittoria/vittoria/JobTable$Outcome" := E_4.wr W10
  have F13 : Fld Z h10 a1 "com/example/vittoria/vittoria/JobTable$Outcome" "error" "Ljava/lang/String;" .null := F6.other W10 (Or.inr (slot_ne (Or.inr (hw _ (List.mem_of_getElem? (i := 38) rfl))) (Or.inr (hw _ (List.mem_of_getElem? (i := 36) rfl))) (by decide) (t := (.object "java/lang/String")) (t' := (.object "com/example/vittoria/vittoria/JobStatus")) (by decide) (by decide)))
  have F14 : Fld Z h10 a1 "com/example/vittoria/vittoria/JobTable$Outcome" "retryDelay" "Ljava/time/Duration;" .null := F7.other W10 (Or.inr (slot_ne (Or.inr (hw _ (List.mem_of_getElem? (i := 40) rfl))) (Or.inr (hw _ (List.mem_of_getElem? (i := 36) rfl))) (by decide) (t := (.object "java/time/Duration")) (t' := (.object "com/example/vittoria/vittoria/JobStatus")) (by decide) (by decide)))
  have K15 : Keep h0 h10 [a1] := K8.wr W10 (Or.inl (List.mem_of_getElem? (i := 0) rfl))
  have F16 : Fld Z h10 a1 "com/example/vittoria/vittoria/JobTable$Outcome" "call" "Lcom/example/vittoria/vittoria/JobTable$Call;" (.ref a2) := F9.other W10 (Or.inr (slot_ne (Or.inr (hw _ (List.mem_of_getElem? (i := 34) rfl))) (Or.inr (hw _ (List.mem_of_getElem? (i := 36) rfl))) (by decide) (t := (.object "com/example/vittoria/vittoria/JobTable$Call")) (t' := (.object "com/example/vittoria/vittoria/JobStatus")) (by decide) (by decide)))
  have F17 : Fld Z h10 a1 "com/example/vittoria/vittoria/JobTable$Outcome" "status" "Lcom/example/vittoria/vittoria/JobStatus;" (.ref a3) := F5.same W10
  have N10 := Fr.snoc X10 N2 g1
  show Go p e below _ (T10.setTop (mkF m 14 #[.val (.ref a1), .val (.ref a2), .val (.ref a3), .val .null, .val .null] []))
  refine Go.st (fun _ => XS.aloadN X10.here hx rfl (hb hby d5_14) rfl rfl) ?_
  show Go p e below _ (T10.setTop (mkF m 15 #[.val (.ref a1), .val (.ref a2), .val (.ref a3), .val .null, .val .null] [(.ref a1)]))
  refine Go.st (fun _ => XS.aloadN X10.here hx rfl (hb hby d5_15) rfl rfl) ?_
  show Go p e below _ (T10.setTop (mkF m 16 #[.val (.ref a1), .val (.ref a2), .val (.ref a3), .val .null, .val .null] [.null, (.ref a1)]))
  obtain ⟨T18, h18, X18, e18, W18, st18⟩ := putF X10 hx hZ hown (host := "") (Or.inl (hw _ (List.mem_of_getElem? (i := 37) rfl))) Via.refl e10 F13 E_12 (Or.inr ⟨(hw _ (List.mem_of_getElem? (i := 38) rfl)), rfl, hnm⟩) (hw _ (List.mem_of_getElem? (i := 25) rfl)) (ty := (.object "java/lang/String")) (by decide) rfl rfl (g := (mkF m 16 #[.val (.ref a1), .val (.ref a2), .val (.ref a3), .val .null, .val .null] [.null, (.ref a1)])) rfl rfl (hb hby d5_16)
  refine Go.st st18 ?_
  have O19 : Old Z n0 h18 := O11.wr W18 g1
  have E_20 : Exa Z h18 a1 "com/example/vittoria/vittoria/JobTable$Outcome" := E_12.wr W18
  have F21 : Fld Z h18 a1 "com/example/vittoria/vittoria/JobTable$Outcome" "retryDelay" "Ljava/time/Duration;" .null := F14.other W18 (Or.inr (slot_ne (Or.inr (hw _ (List.mem_of_getElem? (i := 40) rfl))) (Or.inr (hw _ (List.mem_of_getElem? (i := 38) rfl))) (by decide) (t := (.object "java/time/Duration")) (t' := (.object "java/lang/String")) (by decide) (by decide)))
  have K22 : Keep h0 h18 [a1] := K15.wr W18 (Or.inl (List.mem_of_getElem? (i := 0) rfl))
  have F23 : Fld Z h18 a1 "com/example/vittoria/vittoria/JobTable$Outcome" "call" "Lcom/example/vittoria/vittoria/JobTable$Call;" (.ref a2) := F16.other W18 (Or.inr (slot_ne (Or.inr (hw _ (List.mem_of_getElem? (i := 34) rfl))) (Or.inr (hw _ (List.mem_of_getElem? (i := 38) rfl))) (by decide) (t := (.object "com/example/vittoria/vittoria/JobTable$Call")) (t' := (.object "java/lang/String")) (by decide) (by decide)))
  have F24 : Fld Z h18 a1 "com/example/vittoria/vittoria/JobTable$Outcome" "status" "Lcom/example/vittoria/vittoria/JobStatus;" (.ref a3) := F17.other W18 (Or.inr (slot_ne (Or.inr (hw _ (List.mem_of_getElem? (i := 36) rfl))) (Or.inr (hw _ (List.mem_of_getElem? (i := 38) rfl))) (by decide) (t := (.object "com/example/vittoria/vittoria/JobStatus")) (t' := (.object "java/lang/String")) (by decide) (by decide)))
  have F25 : Fld Z h18 a1 "com/example/vittoria/vittoria/JobTable$Outcome" "error" "Ljava/lang/String;" .null := F13.same W18
  have N18 := Fr.snoc X18 N10 g1
  show Go p e below _ (T18.setTop (mkF m 19 #[.val (.ref a1), .val (.ref a2), .val (.ref a3), .val .null, .val .null] []))
  refine Go.st (fun _ => XS.aloadN X18.here hx rfl (hb hby d5_19) rfl rfl) ?_
  show Go p e below _ (T18.setTop (mkF m 20 #[.val (.ref a1), .val (.ref a2), .val (.ref a3), .val .null, .val .null] [(.ref a1)]))
  refine Go.st (fun _ => XS.aload X18.here hx rfl (hb hby d5_20) rfl rfl) ?_
  show Go p e below _ (T18.setTop (mkF m 22 #[.val (.ref a1), .val (.ref a2), .val (.ref a3), .val .null, .val .null] [.null, (.ref a1)]))
  obtain ⟨T26, h26, X26, e26, W26, st26⟩ := putF X18 hx hZ hown (host := "") (Or.inl (hw _ (List.mem_of_getElem? (i := 39) rfl))) Via.refl e18 F21 E_20 (Or.inr ⟨(hw _ (List.mem_of_getElem? (i := 40) rfl)), rfl, hnm⟩) (hw _ (List.mem_of_getElem? (i := 25) rfl)) (ty := (.object "java/time/Duration")) (by decide) rfl rfl (g := (mkF m 22 #[.val (.ref a1), .val (.ref a2), .val (.ref a3), .val .null, .val .null] [.null, (.ref a1)])) rfl rfl (hb hby d5_22)
  refine Go.st st26 ?_
  have O27 : Old Z n0 h26 := O19.wr W26 g1
  have E_28 : Exa Z h26 a1 "com/example/vittoria/vittoria/JobTable$Outcome" := E_20.wr W26
  have K29 : Keep h0 h26 [a1] := K22.wr W26 (Or.inl (List.mem_of_getElem? (i := 0) rfl))
  have F30 : Fld Z h26 a1 "com/example/vittoria/vittoria/JobTable$Outcome" "call" "Lcom/example/vittoria/vittoria/JobTable$Call;" (.ref a2) := F23.other W26 (Or.inr (slot_ne (Or.inr (hw _ (List.mem_of_getElem? (i := 34) rfl))) (Or.inr (hw _ (List.mem_of_getElem? (i := 40) rfl))) (by decide) (t := (.object "com/example/vittoria/vittoria/JobTable$Call")) (t' := (.object "java/time/Duration")) (by decide) (by decide)))
  have F31 : Fld Z h26 a1 "com/example/vittoria/vittoria/JobTable$Outcome" "status" "Lcom/example/vittoria/vittoria/JobStatus;" (.ref a3) := F24.other W26 (Or.inr (slot_ne (Or.inr (hw _ (List.mem_of_getElem? (i := 36) rfl))) (Or.inr (hw _ (List.mem_of_getElem? (i := 40) rfl))) (by decide) (t := (.object "com/example/vittoria/vittoria/JobStatus")) (t' := (.object "java/time/Duration")) (by decide) (by decide)))
  have F32 : Fld Z h26 a1 "com/example/vittoria/vittoria/JobTable$Outcome" "error" "Ljava/lang/String;" .null := F25.other W26 (Or.inr (slot_ne (Or.inr (hw _ (List.mem_of_getElem? (i := 38) rfl))) (Or.inr (hw _ (List.mem_of_getElem? (i := 40) rfl))) (by decide) (t := (.object "java/lang/String")) (t' := (.object "java/time/Duration")) (by decide) (by decide)))
  have F33 : Fld Z h26 a1 "com/example/vittoria/vittoria/JobTable$Outcome" "retryDelay" "Ljava/time/Duration;" .null := F21.same W26
  have N26 := Fr.snoc X26 N18 g1
  show Go p e below _ (T26.setTop (mkF m 25 #[.val (.ref a1), .val (.ref a2), .val (.ref a3), .val .null, .val .null] []))
  exact goRetV X26 hx hlk hret e26 (hb hby d5_25) (by decide) (by decide) ⟨rfl, N26, K29, F30, F31, F32, F33⟩
theorem d4_0 : decode prog_25_method_2_code 0 = .ok (.new 8, 3) := by decide +kernel
theorem d4_3 : decode prog_25_method_2_code 3 = .ok (.dup, 1) := by decide +kernel
theorem d4_4 : decode prog_25_method_2_code 4 = .ok (.aload_n 0, 1) := by decide +kernel
theorem d4_5 : decode prog_25_method_2_code 5 = .ok (.getstatic 25, 3) := by decide +kernel
theorem d4_8 : decode prog_25_method_2_code 8 = .ok (.aconst_null, 1) := by decide +kernel
theorem d4_9 : decode prog_25_method_2_code 9 = .ok (.aconst_null, 1) := by decide +kernel
theorem d4_10 : decode prog_25_method_2_code 10 = .ok (.invokespecial 30, 3) := by decide +kernel
theorem d4_13 : decode prog_25_method_2_code 13 = .ok (.areturn, 1) := by decide +kernel
theorem pn_4 : plainName "com/example/vittoria/vittoria/JobTable$Outcome" = true := by first | (simp [plainName, overriddenIn]; done) | decide +kernel
set_option maxRecDepth 65536 in
set_option maxHeartbeats 40000000 in
theorem rm3 (l : Launch) (Z : State) (a0 : Array Value) (hw : ∀ d ∈ tables_1, d.before a0 Z = true) (ws : List Jvm.Cond) (a2 w_DONE : Addr) (h0 : Heap) (n0 : Nat) (O0 : Old Z n0 h0) (S_w_DONE : Sta Z Z.heap "com/example/vittoria/vittoria/JobStatus" "DONE" "Lcom/example/vittoria/vittoria/JobStatus;" (.ref w_DONE)) :
    Ctr l (⟨"com/example/vittoria/vittoria/JobTable$Outcome", "done", "(Lcom/example/vittoria/vittoria/JobTable$Call;)Lcom/example/vittoria/vittoria/JobTable$Outcome;"⟩ : MethodName) prog_25_method_2_code 1 (some (.object "com/example/vittoria/vittoria/JobTable$Outcome")) ws ({ frames := 3, cells := 1, slots := 4, locals := 48 } : Room) #[(.ref a2)] Z h0 (fun v h L => (∃ b, v = some (.ref b) ∧ n0 ≤ b ∧ Exa Z h b "com/example/vittoria/vittoria/JobTable$Outcome" ∧ Fld Z h b "com/example/vittoria/vittoria/JobTable$Outcome" "call" "Lcom/example/vittoria/vittoria/JobTable$Call;" (.ref a2) ∧ Fld Z h b "com/example/vittoria/vittoria/JobTable$Outcome" "status" "Lcom/example/vittoria/vittoria/JobStatus;" (.ref w_DONE) ∧ Fld Z h b "com/example/vittoria/vittoria/JobTable$Outcome" "error" "Ljava/lang/String;" .null ∧ Fld Z h b "com/example/vittoria/vittoria/JobTable$Outcome" "retryDelay" "Ljava/time/Duration;" .null) ∧ Fr n0 L ∧ Keep h0 h []) := by
  have ef : ∀ m : MethodId, entryFrame m #[(.ref a2)] 1 = mkF m 0 #[.val (.ref a2)] [] := fun m => by first | (simp [entryFrame, mkF, argsToLocals, Value.category]; done) | rfl
  refine Ctr.of (plainFor_of_name pn_4) ?_
  intro p e s m below meth c s₁ hx hZ hby hml hown0 hnm hret hlk X0 e0
  have hown : s.vm.findClass "com/example/vittoria/vittoria/JobTable$Outcome" = some m.cls := hown0
  have N0 := Fr.nil n0
  refine Go.st (fun t k => castTop (ef m) k) ?_
  show Go p e below _ (s₁.setTop (mkF m 0 #[.val (.ref a2)] []))
  obtain ⟨T1, h1, X1, e1, E1, A1, D1, -, st1⟩ := newO X0 hx hZ hown (hw _ (List.mem_of_getElem? (i := 24) rfl)) (hw _ (List.mem_of_getElem? (i := 25) rfl)) (hw _ (List.mem_of_getElem? (i := 22) rfl)) e0 (g := (mkF m 0 #[.val (.ref a2)] [])) rfl (hb hby d4_0) (by decide) (by decide)
  obtain ⟨b1, g1⟩ : ∃ z, z = h0.size := ⟨_, rfl⟩
  rw [← g1] at A1 D1 st1
  refine Go.st st1 ?_
  have gn1 : n0 ≤ b1 := oldGe O0 g1
  have sz1 : h0.size ≤ b1 := Nat.le_trans (Keep.refl h0 []).1 (Nat.le_of_eq g1.symm)
  have O2 : Old Z n0 h1 := O0.ext E1
  have K3 : Keep h0 h1 [] := (Keep.refl h0 []).ext E1
  have F4 : Fld Z h1 b1 "com/example/vittoria/vittoria/JobTable$Outcome" "call" "Lcom/example/vittoria/vittoria/JobTable$Call;" .null := D1 (Or.inr (hw _ (List.mem_of_getElem? (i := 34) rfl))) (ty := (.object "com/example/vittoria/vittoria/JobTable$Call")) (by decide)
  have F5 : Fld Z h1 b1 "com/example/vittoria/vittoria/JobTable$Outcome" "status" "Lcom/example/vittoria/vittoria/JobStatus;" .null := D1 (Or.inr (hw _ (List.mem_of_getElem? (i := 36) rfl))) (ty := (.object "com/example/vittoria/vittoria/JobStatus")) (by decide)
  have F6 : Fld Z h1 b1 "com/example/vittoria/vittoria/JobTable$Outcome" "error" "Ljava/lang/String;" .null := D1 (Or.inr (hw _ (List.mem_of_getElem? (i := 38) rfl))) (ty := (.object "java/lang/String")) (by decide)
  have F7 : Fld Z h1 b1 "com/example/vittoria/vittoria/JobTable$Outcome" "retryDelay" "Ljava/time/Duration;" .null := D1 (Or.inr (hw _ (List.mem_of_getElem? (i := 40) rfl))) (ty := (.object "java/time/Duration")) (by decide)
  show Go p e below _ (T1.setTop (mkF m 3 #[.val (.ref a2)] [(.ref b1)]))
  refine Go.st (fun _ => XS.dup X1.here hx rfl (hb hby d4_3) rfl rfl) ?_
  show Go p e below _ (T1.setTop (mkF m 4 #[.val (.ref a2)] [(.ref b1), (.ref b1)]))
  refine Go.st (fun _ => XS.aloadN X1.here hx rfl (hb hby d4_4) rfl rfl) ?_
  show Go p e below _ (T1.setTop (mkF m 5 #[.val (.ref a2)] [(.ref a2), (.ref b1), (.ref b1)]))
  obtain ⟨T8, X8, e8, st8⟩ := getS2 X1 hx hZ hown (host := "") (Or.inl (hw _ (List.mem_of_getElem? (i := 26) rfl))) Via.refl e1 (oldSta O2 S_w_DONE) (g := (mkF m 5 #[.val (.ref a2)] [(.ref a2), (.ref b1), (.ref b1)])) rfl (hb hby d4_5)
  refine Go.st st8 ?_
  show Go p e below _ (T8.setTop (mkF m 8 #[.val (.ref a2)] [(.ref w_DONE), (.ref a2), (.ref b1), (.ref b1)]))
  refine Go.st (fun _ => XS.aconstNull X8.here hx rfl (hb hby d4_8)) ?_
  show Go p e below _ (T8.setTop (mkF m 9 #[.val (.ref a2)] [.null, (.ref w_DONE), (.ref a2), (.ref b1), (.ref b1)]))
  refine Go.st (fun _ => XS.aconstNull X8.here hx rfl (hb hby d4_9)) ?_
  show Go p e below _ (T8.setTop (mkF m 10 #[.val (.ref a2)] [.null, .null, (.ref w_DONE), (.ref a2), (.ref b1), (.ref b1)]))
  refine goInit X8 hx hZ (y := (⟨"com/example/vittoria/vittoria/JobTable$Outcome", "<init>", "(Lcom/example/vittoria/vittoria/JobTable$Call;Lcom/example/vittoria/vittoria/JobStatus;Ljava/lang/String;Ljava/time/Duration;)V"⟩ : MethodName)) rfl hown (hw _ (List.mem_of_getElem? (i := 29) rfl)) (hw _ (List.mem_of_getElem? (i := 30) rfl)) (hw _ (List.mem_of_getElem? (i := 22) rfl)) (hw _ (List.mem_of_getElem? (i := 31) rfl)) (by decide) (a := b1) (argsL := [(.ref a2), (.ref w_DONE), .null, .null]) (rest := [(.ref b1)]) e8 (rm2 l Z a0 hw [] b1 a2 w_DONE h1 n0 O2 A1 F4 F5 F6 F7 gn1) 1 (by decide) (by decide) (by decide) (by decide) (mkF m 10 #[.val (.ref a2)] [.null, .null, (.ref w_DONE), (.ref a2), (.ref b1), (.ref b1)]) rfl (by rw [hml]; rfl) (lenOf pd_1 rfl) rfl (hb hby d4_10) (Nat.le_of_eq rfl) ?_
  intro v9 T9 L9 X9 hQ9
  obtain ⟨rfl, M9, K9, Ga9, Gb9, Gc9, Gd9⟩ := hQ9
  have N9 := Fr.app N0 M9
  have O10 : Old Z n0 T9.heap := O2.keep K9 (allS gn1 all0)
  have K11 : Keep h0 T9.heap [] := K3.trans K9 (allS (Or.inr sz1) all0)
  have E_12 : Exa Z T9.heap b1 "com/example/vittoria/vittoria/JobTable$Outcome" := A1.keep K9
  show Go p e below _ (T9.setTop (mkF m 13 #[.val (.ref a2)] [(.ref b1)]))
  exact goRetA X9 hx hlk hret rfl rfl rfl rfl (hb hby d4_13) (by decide) (by decide) ⟨⟨b1, rfl, gn1, E_12, Ga9, Gb9, Gc9, Gd9⟩, N9, K11⟩
theorem d7_0 : decode prog_20_method_5_code 0 = .ok (.aload_n 0, 1) := by decide +kernel
theorem d7_1 : decode prog_20_method_5_code 1 = .ok (.getfield 7, 3) := by decide +kernel
theorem d7_4 : decode prog_20_method_5_code 4 = .ok (.lreturn, 1) := by decide +kernel
theorem pn_7 : plainName "com/example/vittoria/vittoria/JobTable$Call" = true := by first | (simp [plainName, overriddenIn]; done) | decide +kernel
set_option maxRecDepth 65536 in
set_option maxHeartbeats 40000000 in
theorem rmG7 (l : Launch) (Z : State) (a0 : Array Value) (hw : ∀ d ∈ tables_1, d.before a0 Z = true) (ws : List Jvm.Cond) (a1 : Addr) (q1 : Int64) (h0 : Heap) (n0 : Nat) (O0 : Old Z n0 h0) (F1 : Fld Z h0 a1 "com/example/vittoria/vittoria/JobTable$Call" "id" "J" (.long q1)) :
    Ctr l (⟨"com/example/vittoria/vittoria/JobTable$Call", "id", "()J"⟩ : MethodName) prog_20_method_5_code 1 (some .long) ws ({ frames := 0, cells := 0, slots := 0, locals := 0 } : Room) #[(.ref a1)] Z h0 (fun v h L => v = some (.long q1) ∧ Fr n0 L ∧ h = h0) := by
  have ef : ∀ m : MethodId, entryFrame m #[(.ref a1)] 1 = mkF m 0 #[.val (.ref a1)] [] := fun m => by first | (simp [entryFrame, mkF, argsToLocals, Value.category]; done) | rfl
  refine Ctr.of (plainFor_of_name pn_7) ?_
  intro p e s m below meth c s₁ hx hZ hby hml hown0 hnm hret hlk X0 e0
  have hown : s.vm.findClass "com/example/vittoria/vittoria/JobTable$Call" = some m.cls := hown0
  have N0 := Fr.nil n0
  refine Go.st (fun t k => castTop (ef m) k) ?_
  show Go p e below _ (s₁.setTop (mkF m 0 #[.val (.ref a1)] []))
  refine Go.st (fun _ => XS.aloadN X0.here hx rfl (hb hby d7_0) rfl rfl) ?_
  show Go p e below _ (s₁.setTop (mkF m 1 #[.val (.ref a1)] [(.ref a1)]))
  obtain ⟨T1, X1, e1, st1⟩ := getF X0 hx hZ hown (host := "") (Or.inl (hw _ (List.mem_of_getElem? (i := 14) rfl))) Via.refl e0 F1 (g := (mkF m 1 #[.val (.ref a1)] [(.ref a1)])) rfl rfl (hb hby d7_1)
  refine Go.st st1 ?_
  show Go p e below _ (T1.setTop (mkF m 4 #[.val (.ref a1)] [(.long q1)]))
  exact goRetJ X1 hx hlk hret e1 (hb hby d7_4) (by decide) (by decide) ⟨rfl, N0, rfl⟩
theorem d8_0 : decode prog_20_method_6_code 0 = .ok (.aload_n 0, 1) := by decide +kernel
theorem d8_1 : decode prog_20_method_6_code 1 = .ok (.getfield 13, 3) := by decide +kernel
theorem d8_4 : decode prog_20_method_6_code 4 = .ok (.ireturn, 1) := by decide +kernel
theorem pn_8 : plainName "com/example/vittoria/vittoria/JobTable$Call" = true := by first | (simp [plainName, overriddenIn]; done) | decide +kernel
set_option maxRecDepth 65536 in
set_option maxHeartbeats 40000000 in
theorem rmG8 (l : Launch) (Z : State) (a0 : Array Value) (hw : ∀ d ∈ tables_1, d.before a0 Z = true) (ws : List Jvm.Cond) (a1 : Addr) (p1 : Int32) (h0 : Heap) (n0 : Nat) (O0 : Old Z n0 h0) (F1 : Fld Z h0 a1 "com/example/vittoria/vittoria/JobTable$Call" "attempt" "I" (.int p1)) :
    Ctr l (⟨"com/example/vittoria/vittoria/JobTable$Call", "attempt", "()I"⟩ : MethodName) prog_20_method_6_code 1 (some .int) ws ({ frames := 0, cells := 0, slots := 0, locals := 0 } : Room) #[(.ref a1)] Z h0 (fun v h L => v = some (.int p1) ∧ Fr n0 L ∧ h = h0) := by
  have ef : ∀ m : MethodId, entryFrame m #[(.ref a1)] 1 = mkF m 0 #[.val (.ref a1)] [] := fun m => by first | (simp [entryFrame, mkF, argsToLocals, Value.category]; done) | rfl
  refine Ctr.of (plainFor_of_name pn_8) ?_
  intro p e s m below meth c s₁ hx hZ hby hml hown0 hnm hret hlk X0 e0
  have hown : s.vm.findClass "com/example/vittoria/vittoria/JobTable$Call" = some m.cls := hown0
  have N0 := Fr.nil n0
  refine Go.st (fun t k => castTop (ef m) k) ?_
  show Go p e below _ (s₁.setTop (mkF m 0 #[.val (.ref a1)] []))
  refine Go.st (fun _ => XS.aloadN X0.here hx rfl (hb hby d8_0) rfl rfl) ?_
  show Go p e below _ (s₁.setTop (mkF m 1 #[.val (.ref a1)] [(.ref a1)]))
  obtain ⟨T1, X1, e1, st1⟩ := getF X0 hx hZ hown (host := "") (Or.inl (hw _ (List.mem_of_getElem? (i := 16) rfl))) Via.refl e0 F1 (g := (mkF m 1 #[.val (.ref a1)] [(.ref a1)])) rfl rfl (hb hby d8_1)
  refine Go.st st1 ?_
  show Go p e below _ (T1.setTop (mkF m 4 #[.val (.ref a1)] [(.int p1)]))
  exact goRetI X1 hx hlk hret e1 (hb hby d8_4) (by decide) (by decide) ⟨rfl, N0, rfl⟩
theorem d9_0 : decode prog_20_method_7_code 0 = .ok (.aload_n 0, 1) := by decide +kernel
theorem d9_1 : decode prog_20_method_7_code 1 = .ok (.getfield 17, 3) := by decide +kernel
theorem d9_4 : decode prog_20_method_7_code 4 = .ok (.ireturn, 1) := by decide +kernel
theorem pn_9 : plainName "com/example/vittoria/vittoria/JobTable$Call" = true := by first | (simp [plainName, overriddenIn]; done) | decide +kernel
set_option maxRecDepth 65536 in
set_option maxHeartbeats 40000000 in
theorem rmG9 (l : Launch) (Z : State) (a0 : Array Value) (hw : ∀ d ∈ tables_1, d.before a0 Z = true) (ws : List Jvm.Cond) (a1 : Addr) (p1 : Int32) (h0 : Heap) (n0 : Nat) (O0 : Old Z n0 h0) (F1 : Fld Z h0 a1 "com/example/vittoria/vittoria/JobTable$Call" "replayedAttempts" "I" (.int p1)) :
    Ctr l (⟨"com/example/vittoria/vittoria/JobTable$Call", "replayedAttempts", "()I"⟩ : MethodName) prog_20_method_7_code 1 (some .int) ws ({ frames := 0, cells := 0, slots := 0, locals := 0 } : Room) #[(.ref a1)] Z h0 (fun v h L => v = some (.int p1) ∧ Fr n0 L ∧ h = h0) := by
  have ef : ∀ m : MethodId, entryFrame m #[(.ref a1)] 1 = mkF m 0 #[.val (.ref a1)] [] := fun m => by first | (simp [entryFrame, mkF, argsToLocals, Value.category]; done) | rfl
  refine Ctr.of (plainFor_of_name pn_9) ?_
  intro p e s m below meth c s₁ hx hZ hby hml hown0 hnm hret hlk X0 e0
  have hown : s.vm.findClass "com/example/vittoria/vittoria/JobTable$Call" = some m.cls := hown0
  have N0 := Fr.nil n0
  refine Go.st (fun t k => castTop (ef m) k) ?_
  show Go p e below _ (s₁.setTop (mkF m 0 #[.val (.ref a1)] []))
  refine Go.st (fun _ => XS.aloadN X0.here hx rfl (hb hby d9_0) rfl rfl) ?_
  show Go p e below _ (s₁.setTop (mkF m 1 #[.val (.ref a1)] [(.ref a1)]))
  obtain ⟨T1, X1, e1, st1⟩ := getF X0 hx hZ hown (host := "") (Or.inl (hw _ (List.mem_of_getElem? (i := 18) rfl))) Via.refl e0 F1 (g := (mkF m 1 #[.val (.ref a1)] [(.ref a1)])) rfl rfl (hb hby d9_1)
  refine Go.st st1 ?_
  show Go p e below _ (T1.setTop (mkF m 4 #[.val (.ref a1)] [(.int p1)]))
  exact goRetI X1 hx hlk hret e1 (hb hby d9_4) (by decide) (by decide) ⟨rfl, N0, rfl⟩
theorem d6_0 : decode prog_25_method_10_code 0 = .ok (.aload_n 0, 1) := by decide +kernel
theorem d6_1 : decode prog_25_method_10_code 1 = .ok (.getfield 7, 3) := by decide +kernel
theorem d6_4 : decode prog_25_method_10_code 4 = .ok (.areturn, 1) := by decide +kernel
theorem pn_6 : plainName "com/example/vittoria/vittoria/JobTable$Outcome" = true := by first | (simp [plainName, overriddenIn]; done) | decide +kernel
set_option maxRecDepth 65536 in
set_option maxHeartbeats 40000000 in
theorem rmG6 (l : Launch) (Z : State) (a0 : Array Value) (hw : ∀ d ∈ tables_1, d.before a0 Z = true) (ws : List Jvm.Cond) (a1 : Addr) (a2 : Addr) (h0 : Heap) (n0 : Nat) (O0 : Old Z n0 h0) (F1 : Fld Z h0 a1 "com/example/vittoria/vittoria/JobTable$Outcome" "call" "Lcom/example/vittoria/vittoria/JobTable$Call;" (.ref a2)) :
    Ctr l (⟨"com/example/vittoria/vittoria/JobTable$Outcome", "call", "()Lcom/example/vittoria/vittoria/JobTable$Call;"⟩ : MethodName) prog_25_method_10_code 1 (some (.object "com/example/vittoria/vittoria/JobTable$Call")) ws ({ frames := 0, cells := 0, slots := 0, locals := 0 } : Room) #[(.ref a1)] Z h0 (fun v h L => v = some (.ref a2) ∧ Fr n0 L ∧ h = h0) := by
  have ef : ∀ m : MethodId, entryFrame m #[(.ref a1)] 1 = mkF m 0 #[.val (.ref a1)] [] := fun m => by first | (simp [entryFrame, mkF, argsToLocals, Value.category]; done) | rfl
  refine Ctr.of (plainFor_of_name pn_6) ?_
  intro p e s m below meth c s₁ hx hZ hby hml hown0 hnm hret hlk X0 e0
  have hown : s.vm.findClass "com/example/vittoria/vittoria/JobTable$Outcome" = some m.cls := hown0
  have N0 := Fr.nil n0
  refine Go.st (fun t k => castTop (ef m) k) ?_
  show Go p e below _ (s₁.setTop (mkF m 0 #[.val (.ref a1)] []))
  refine Go.st (fun _ => XS.aloadN X0.here hx rfl (hb hby d6_0) rfl rfl) ?_
  show Go p e below _ (s₁.setTop (mkF m 1 #[.val (.ref a1)] [(.ref a1)]))
  obtain ⟨T1, X1, e1, st1⟩ := getF X0 hx hZ hown (host := "") (Or.inl (hw _ (List.mem_of_getElem? (i := 33) rfl))) Via.refl e0 F1 (g := (mkF m 1 #[.val (.ref a1)] [(.ref a1)])) rfl rfl (hb hby d6_1)
  refine Go.st st1 ?_
  show Go p e below _ (T1.setTop (mkF m 4 #[.val (.ref a1)] [(.ref a2)]))
  exact goRetA X1 hx hlk hret rfl rfl rfl e1 (hb hby d6_4) (by decide) (by decide) ⟨rfl, N0, rfl⟩
theorem d10_0 : decode prog_25_method_11_code 0 = .ok (.aload_n 0, 1) := by decide +kernel
theorem d10_1 : decode prog_25_method_11_code 1 = .ok (.getfield 13, 3) := by decide +kernel
theorem d10_4 : decode prog_25_method_11_code 4 = .ok (.areturn, 1) := by decide +kernel
theorem pn_10 : plainName "com/example/vittoria/vittoria/JobTable$Outcome" = true := by first | (simp [plainName, overriddenIn]; done) | decide +kernel
set_option maxRecDepth 65536 in
set_option maxHeartbeats 40000000 in
theorem rmG10 (l : Launch) (Z : State) (a0 : Array Value) (hw : ∀ d ∈ tables_1, d.before a0 Z = true) (ws : List Jvm.Cond) (a1 : Addr) (a2 : Addr) (h0 : Heap) (n0 : Nat) (O0 : Old Z n0 h0) (F1 : Fld Z h0 a1 "com/example/vittoria/vittoria/JobTable$Outcome" "status" "Lcom/example/vittoria/vittoria/JobStatus;" (.ref a2)) :
    Ctr l (⟨"com/example/vittoria/vittoria/JobTable$Outcome", "status", "()Lcom/example/vittoria/vittoria/JobStatus;"⟩ : MethodName) prog_25_method_11_code 1 (some (.object "com/example/vittoria/vittoria/JobStatus")) ws ({ frames := 0, cells := 0, slots := 0, locals := 0 } : Room) #[(.ref a1)] Z h0 (fun v h L => v = some (.ref a2) ∧ Fr n0 L ∧ h = h0) := by
  have ef : ∀ m : MethodId, entryFrame m #[(.ref a1)] 1 = mkF m 0 #[.val (.ref a1)] [] := fun m => by first | (simp [entryFrame, mkF, argsToLocals, Value.category]; done) | rfl
  refine Ctr.of (plainFor_of_name pn_10) ?_
  intro p e s m below meth c s₁ hx hZ hby hml hown0 hnm hret hlk X0 e0
  have hown : s.vm.findClass "com/example/vittoria/vittoria/JobTable$Outcome" = some m.cls := hown0
  have N0 := Fr.nil n0
  refine Go.st (fun t k => castTop (ef m) k) ?_
  show Go p e below _ (s₁.setTop (mkF m 0 #[.val (.ref a1)] []))
  refine Go.st (fun _ => XS.aloadN X0.here hx rfl (hb hby d10_0) rfl rfl) ?_
  show Go p e below _ (s₁.setTop (mkF m 1 #[.val (.ref a1)] [(.ref a1)]))
  obtain ⟨T1, X1, e1, st1⟩ := getF X0 hx hZ hown (host := "") (Or.inl (hw _ (List.mem_of_getElem? (i := 35) rfl))) Via.refl e0 F1 (g := (mkF m 1 #[.val (.ref a1)] [(.ref a1)])) rfl rfl (hb hby d10_1)
  refine Go.st st1 ?_
  show Go p e below _ (T1.setTop (mkF m 4 #[.val (.ref a1)] [(.ref a2)]))
  exact goRetA X1 hx hlk hret rfl rfl rfl e1 (hb hby d10_4) (by decide) (by decide) ⟨rfl, N0, rfl⟩
theorem d11_0 : decode prog_25_method_12_code 0 = .ok (.aload_n 0, 1) := by decide +kernel
theorem d11_1 : decode prog_25_method_12_code 1 = .ok (.getfield 17, 3) := by decide +kernel
theorem d11_4 : decode prog_25_method_12_code 4 = .ok (.areturn, 1) := by decide +kernel
theorem pn_11 : plainName "com/example/vittoria/vittoria/JobTable$Outcome" = true := by first | (simp [plainName, overriddenIn]; done) | decide +kernel
set_option maxRecDepth 65536 in
set_option maxHeartbeats 40000000 in
theorem rmG11 (l : Launch) (Z : State) (a0 : Array Value) (hw : ∀ d ∈ tables_1, d.before a0 Z = true) (ws : List Jvm.Cond) (a1 : Addr)  (h0 : Heap) (n0 : Nat) (O0 : Old Z n0 h0) (F1 : Fld Z h0 a1 "com/example/vittoria/vittoria/JobTable$Outcome" "error" "Ljava/lang/String;" .null) :
    Ctr l (⟨"com/example/vittoria/vittoria/JobTable$Outcome", "error", "()Ljava/lang/String;"⟩ : MethodName) prog_25_method_12_code 1 (some (.object "java/lang/String")) ws ({ frames := 0, cells := 0, slots := 0, locals := 0 } : Room) #[(.ref a1)] Z h0 (fun v h L => v = some .null ∧ Fr n0 L ∧ h = h0) := by
  have ef : ∀ m : MethodId, entryFrame m #[(.ref a1)] 1 = mkF m 0 #[.val (.ref a1)] [] := fun m => by first | (simp [entryFrame, mkF, argsToLocals, Value.category]; done) | rfl
  refine Ctr.of (plainFor_of_name pn_11) ?_
  intro p e s m below meth c s₁ hx hZ hby hml hown0 hnm hret hlk X0 e0
  have hown : s.vm.findClass "com/example/vittoria/vittoria/JobTable$Outcome" = some m.cls := hown0
  have N0 := Fr.nil n0
  refine Go.st (fun t k => castTop (ef m) k) ?_
  show Go p e below _ (s₁.setTop (mkF m 0 #[.val (.ref a1)] []))
  refine Go.st (fun _ => XS.aloadN X0.here hx rfl (hb hby d11_0) rfl rfl) ?_
  show Go p e below _ (s₁.setTop (mkF m 1 #[.val (.ref a1)] [(.ref a1)]))
  obtain ⟨T1, X1, e1, st1⟩ := getF X0 hx hZ hown (host := "") (Or.inl (hw _ (List.mem_of_getElem? (i := 37) rfl))) Via.refl e0 F1 (g := (mkF m 1 #[.val (.ref a1)] [(.ref a1)])) rfl rfl (hb hby d11_1)
  refine Go.st st1 ?_
  show Go p e below _ (T1.setTop (mkF m 4 #[.val (.ref a1)] [.null]))
  exact goRetA X1 hx hlk hret rfl rfl rfl e1 (hb hby d11_4) (by decide) (by decide) ⟨rfl, N0, rfl⟩
theorem d12_0 : decode prog_25_method_13_code 0 = .ok (.aload_n 0, 1) := by decide +kernel
theorem d12_1 : decode prog_25_method_13_code 1 = .ok (.getfield 21, 3) := by decide +kernel
theorem d12_4 : decode prog_25_method_13_code 4 = .ok (.areturn, 1) := by decide +kernel
theorem pn_12 : plainName "com/example/vittoria/vittoria/JobTable$Outcome" = true := by first | (simp [plainName, overriddenIn]; done) | decide +kernel
set_option maxRecDepth 65536 in
set_option maxHeartbeats 40000000 in
theorem rmG12 (l : Launch) (Z : State) (a0 : Array Value) (hw : ∀ d ∈ tables_1, d.before a0 Z = true) (ws : List Jvm.Cond) (a1 : Addr)  (h0 : Heap) (n0 : Nat) (O0 : Old Z n0 h0) (F1 : Fld Z h0 a1 "com/example/vittoria/vittoria/JobTable$Outcome" "retryDelay" "Ljava/time/Duration;" .null) :
    Ctr l (⟨"com/example/vittoria/vittoria/JobTable$Outcome", "retryDelay", "()Ljava/time/Duration;"⟩ : MethodName) prog_25_method_13_code 1 (some (.object "java/time/Duration")) ws ({ frames := 0, cells := 0, slots := 0, locals := 0 } : Room) #[(.ref a1)] Z h0 (fun v h L => v = some .null ∧ Fr n0 L ∧ h = h0) := by
  have ef : ∀ m : MethodId, entryFrame m #[(.ref a1)] 1 = mkF m 0 #[.val (.ref a1)] [] := fun m => by first | (simp [entryFrame, mkF, argsToLocals, Value.category]; done) | rfl
  refine Ctr.of (plainFor_of_name pn_12) ?_
  intro p e s m below meth c s₁ hx hZ hby hml hown0 hnm hret hlk X0 e0
  have hown : s.vm.findClass "com/example/vittoria/vittoria/JobTable$Outcome" = some m.cls := hown0
  have N0 := Fr.nil n0
  refine Go.st (fun t k => castTop (ef m) k) ?_
  show Go p e below _ (s₁.setTop (mkF m 0 #[.val (.ref a1)] []))
  refine Go.st (fun _ => XS.aloadN X0.here hx rfl (hb hby d12_0) rfl rfl) ?_
  show Go p e below _ (s₁.setTop (mkF m 1 #[.val (.ref a1)] [(.ref a1)]))
  obtain ⟨T1, X1, e1, st1⟩ := getF X0 hx hZ hown (host := "") (Or.inl (hw _ (List.mem_of_getElem? (i := 39) rfl))) Via.refl e0 F1 (g := (mkF m 1 #[.val (.ref a1)] [(.ref a1)])) rfl rfl (hb hby d12_1)
  refine Go.st st1 ?_
  show Go p e below _ (T1.setTop (mkF m 4 #[.val (.ref a1)] [.null]))
  exact goRetA X1 hx hlk hret rfl rfl rfl e1 (hb hby d12_4) (by decide) (by decide) ⟨rfl, N0, rfl⟩
theorem d13_0 : decode prog_25_method_5_code 0 = .ok (.aload_n 0, 1) := by decide +kernel
theorem d13_1 : decode prog_25_method_5_code 1 = .ok (.getfield 7, 3) := by decide +kernel
theorem d13_4 : decode prog_25_method_5_code 4 = .ok (.invokevirtual 43, 3) := by decide +kernel
theorem d13_7 : decode prog_25_method_5_code 7 = .ok (.lreturn, 1) := by decide +kernel
theorem pn_13 : plainName "com/example/vittoria/vittoria/JobTable$Outcome" = true := by first | (simp [plainName, overriddenIn]; done) | decide +kernel
set_option maxRecDepth 65536 in
set_option maxHeartbeats 40000000 in
theorem rm4 (l : Launch) (Z : State) (a0 : Array Value) (hw : ∀ d ∈ tables_1, d.before a0 Z = true) (ws : List Jvm.Cond) (a1 a2 : Addr) (q2 : Int64) (h0 : Heap) (n0 : Nat) (O0 : Old Z n0 h0) (F1 : Fld Z h0 a1 "com/example/vittoria/vittoria/JobTable$Outcome" "call" "Lcom/example/vittoria/vittoria/JobTable$Call;" (.ref a2)) (A2 : Exa Z h0 a2 "com/example/vittoria/vittoria/JobTable$Call") (F2 : Fld Z h0 a2 "com/example/vittoria/vittoria/JobTable$Call" "id" "J" (.long q2)) :
    Ctr l (⟨"com/example/vittoria/vittoria/JobTable$Outcome", "id", "()J"⟩ : MethodName) prog_25_method_5_code 1 (some .long) ws ({ frames := 1, cells := 0, slots := 0, locals := 12 } : Room) #[(.ref a1)] Z h0 (fun v h L => v = some (.long q2) ∧ Fr n0 L ∧ h = h0) := by
  have ef : ∀ m : MethodId, entryFrame m #[(.ref a1)] 1 = mkF m 0 #[.val (.ref a1)] [] := fun m => by first | (simp [entryFrame, mkF, argsToLocals, Value.category]; done) | rfl
  refine Ctr.of (plainFor_of_name pn_13) ?_
  intro p e s m below meth c s₁ hx hZ hby hml hown0 hnm hret hlk X0 e0
  have hown : s.vm.findClass "com/example/vittoria/vittoria/JobTable$Outcome" = some m.cls := hown0
  have N0 := Fr.nil n0
  refine Go.st (fun t k => castTop (ef m) k) ?_
  show Go p e below _ (s₁.setTop (mkF m 0 #[.val (.ref a1)] []))
  refine Go.st (fun _ => XS.aloadN X0.here hx rfl (hb hby d13_0) rfl rfl) ?_
  show Go p e below _ (s₁.setTop (mkF m 1 #[.val (.ref a1)] [(.ref a1)]))
  obtain ⟨T1, X1, e1, st1⟩ := getF X0 hx hZ hown (host := "") (Or.inl (hw _ (List.mem_of_getElem? (i := 33) rfl))) Via.refl e0 F1 (g := (mkF m 1 #[.val (.ref a1)] [(.ref a1)])) rfl rfl (hb hby d13_1)
  refine Go.st st1 ?_
  show Go p e below _ (T1.setTop (mkF m 4 #[.val (.ref a1)] [(.ref a2)]))
  refine goVirt X1 hx hZ (y := (⟨"com/example/vittoria/vittoria/JobTable$Call", "id", "()J"⟩ : MethodName)) (z := (⟨"com/example/vittoria/vittoria/JobTable$Call", "id", "()J"⟩ : MethodName)) hown (hw _ (List.mem_of_getElem? (i := 82) rfl)) (hw _ (List.mem_of_getElem? (i := 47) rfl)) (notFace_of_selects (args := #[]) (mvT hZ (hw _ (List.mem_of_getElem? (i := 49) rfl)))) (hw _ (List.mem_of_getElem? (i := 49) rfl)) (hw _ (List.mem_of_getElem? (i := 48) rfl)) (hw _ (List.mem_of_getElem? (i := 2) rfl)) (hw _ (List.mem_of_getElem? (i := 50) rfl)) (by decide) (a := a2) (argsL := []) (rest := []) e1 A2 (rmG7 l Z a0 hw [] a2 q2 h0 n0 O0 F2) 0 (by decide) (by decide) (by decide) (by decide) (mkF m 4 #[.val (.ref a1)] [(.ref a2)]) rfl (by rw [hml]; rfl) (lenOf pd_2 rfl) rfl (hb hby d13_4) (Nat.le_of_eq rfl) ?_
  intro v2 T2 L2 X2 hQ2
  obtain ⟨rfl, M2, e2⟩ := hQ2
  have N2 := Fr.app N0 M2
  show Go p e below _ (T2.setTop (mkF m 7 #[.val (.ref a1)] [(.long q2)]))
  exact goRetJ X2 hx hlk hret e2 (hb hby d13_7) (by decide) (by decide) ⟨rfl, N2, rfl⟩
theorem pn_0 : plainName "com/example/vittoria/vittoria/OutcomeDonePinLaw" = true := by first | (simp [plainName, overriddenIn]; done) | decide +kernel
set_option maxRecDepth 65536 in
set_option maxHeartbeats 40000000 in
theorem rm0 (l : Launch) (Z : State) (a0 : Array Value) (hw : ∀ d ∈ tables_1, d.before a0 Z = true) (ws : List Jvm.Cond) (q0 : Int64) (p1 p2 : Int32) (w_DONE : Addr) (h0 : Heap) (n0 : Nat) (O0 : Old Z n0 h0) (S_w_DONE : Sta Z Z.heap "com/example/vittoria/vittoria/JobStatus" "DONE" "Lcom/example/vittoria/vittoria/JobStatus;" (.ref w_DONE)) :
    Ctr l x code maxLocals ret ws room_1 #[(.long q0), (.int p1), (.int p2)] Z h0 (fun v h L => v = some (.int 1) ∧ Fr n0 L) := by
  have ef : ∀ m : MethodId, entryFrame m #[(.long q0), (.int p1), (.int p2)] 12 = mkF m 0 #[.val (.long q0), .second, .val (.int p1), .val (.int p2), .unset, .unset, .unset, .unset, .unset, .unset, .unset, .unset] [] := fun m => by first | (simp [entryFrame, mkF, argsToLocals, Value.category]; done) | rfl
  refine Ctr.of (plainFor_of_name pn_0) ?_
  intro p e s m below meth c s₁ hx hZ hby hml hown0 hnm hret hlk X0 e0
  have hown : s.vm.findClass "com/example/vittoria/vittoria/OutcomeDonePinLaw" = some m.cls := hown0
  have N0 := Fr.nil n0
  refine Go.st (fun t k => castTop (ef m) k) ?_
  show Go p e below _ (s₁.setTop (mkF m 0 #[.val (.long q0), .second, .val (.int p1), .val (.int p2), .unset, .unset, .unset, .unset, .unset, .unset, .unset, .unset] []))
  obtain ⟨T1, h1, X1, e1, E1, A1, D1, -, st1⟩ := newO X0 hx hZ hown (hw _ (List.mem_of_getElem? (i := 0) rfl)) (hw _ (List.mem_of_getElem? (i := 1) rfl)) (hw _ (List.mem_of_getElem? (i := 2) rfl)) e0 (g := (mkF m 0 #[.val (.long q0), .second, .val (.int p1), .val (.int p2), .unset, .unset, .unset, .unset, .unset, .unset, .unset, .unset] [])) rfl (hb hby at_0) (by decide) (by decide)
  obtain ⟨b1, g1⟩ : ∃ z, z = h0.size := ⟨_, rfl⟩
  rw [← g1] at A1 D1 st1
  refine Go.st st1 ?_
  have gn1 : n0 ≤ b1 := oldGe O0 g1
  have O2 : Old Z n0 h1 := O0.ext E1
  have F3 : Fld Z h1 b1 "com/example/vittoria/vittoria/JobTable$Call" "id" "J" (.long (0 : Int64)) := D1 (Or.inr (hw _ (List.mem_of_getElem? (i := 15) rfl))) (ty := .long) (by decide)
  have F4 : Fld Z h1 b1 "com/example/vittoria/vittoria/JobTable$Call" "attempt" "I" (.int (0 : Int32)) := D1 (Or.inr (hw _ (List.mem_of_getElem? (i := 17) rfl))) (ty := .int) (by decide)
  have F5 : Fld Z h1 b1 "com/example/vittoria/vittoria/JobTable$Call" "replayedAttempts" "I" (.int (0 : Int32)) := D1 (Or.inr (hw _ (List.mem_of_getElem? (i := 19) rfl))) (ty := .int) (by decide)
  show Go p e below _ (T1.setTop (mkF m 3 #[.val (.long q0), .second, .val (.int p1), .val (.int p2), .unset, .unset, .unset, .unset, .unset, .unset, .unset, .unset] [(.ref b1)]))
  refine Go.st (fun _ => XS.dup X1.here hx rfl (hb hby at_3) rfl rfl) ?_
  show Go p e below _ (T1.setTop (mkF m 4 #[.val (.long q0), .second, .val (.int p1), .val (.int p2), .unset, .unset, .unset, .unset, .unset, .unset, .unset, .unset] [(.ref b1), (.ref b1)]))
  refine Go.st (fun _ => XS.lloadN X1.here hx rfl (hb hby at_4) rfl) ?_
  show Go p e below _ (T1.setTop (mkF m 5 #[.val (.long q0), .second, .val (.int p1), .val (.int p2), .unset, .unset, .unset, .unset, .unset, .unset, .unset, .unset] [(.long q0), (.ref b1), (.ref b1)]))
  refine Go.st (fun _ => XS.iloadN X1.here hx rfl (hb hby at_5) rfl) ?_
  show Go p e below _ (T1.setTop (mkF m 6 #[.val (.long q0), .second, .val (.int p1), .val (.int p2), .unset, .unset, .unset, .unset, .unset, .unset, .unset, .unset] [(.int p1), (.long q0), (.ref b1), (.ref b1)]))
  refine Go.st (fun _ => XS.iloadN X1.here hx rfl (hb hby at_6) rfl) ?_
  show Go p e below _ (T1.setTop (mkF m 7 #[.val (.long q0), .second, .val (.int p1), .val (.int p2), .unset, .unset, .unset, .unset, .unset, .unset, .unset, .unset] [(.int p2), (.int p1), (.long q0), (.ref b1), (.ref b1)]))
  refine goInit X1 hx hZ (y := (⟨"com/example/vittoria/vittoria/JobTable$Call", "<init>", "(JII)V"⟩ : MethodName)) rfl hown (hw _ (List.mem_of_getElem? (i := 3) rfl)) (hw _ (List.mem_of_getElem? (i := 4) rfl)) (hw _ (List.mem_of_getElem? (i := 2) rfl)) (hw _ (List.mem_of_getElem? (i := 5) rfl)) (by decide) (a := b1) (argsL := [(.long q0), (.int p1), (.int p2)]) (rest := [(.ref b1)]) e1 (rm1 l Z a0 hw [] b1 q0 p1 p2 h1 n0 O2 A1 F3 F4 F5 gn1) 1 (by decide) (by decide) (by decide) (by decide) (mkF m 7 #[.val (.long q0), .second, .val (.int p1), .val (.int p2), .unset, .unset, .unset, .unset, .unset, .unset, .unset, .unset] [(.int p2), (.int p1), (.long q0), (.ref b1), (.ref b1)]) rfl (by rw [hml]; rfl) (lenOf pd_3 rfl) rfl (hb hby at_7) (Nat.le_of_eq rfl) ?_
  intro v6 T6 L6 X6 hQ6
  obtain ⟨rfl, M6, K6, Ga6, Gb6, Gc6⟩ := hQ6
  have N6 := Fr.app N0 M6
  have O7 : Old Z n0 T6.heap := O2.keep K6 (allS gn1 all0)
  have E_8 : Exa Z T6.heap b1 "com/example/vittoria/vittoria/JobTable$Call" := A1.keep K6
  show Go p e below _ (T6.setTop (mkF m 10 #[.val (.long q0), .second, .val (.int p1), .val (.int p2), .unset, .unset, .unset, .unset, .unset, .unset, .unset, .unset] [(.ref b1)]))
  refine Go.st (fun _ => XS.astore X6.here hx rfl (hb hby at_10) rfl rfl (l' := #[.val (.long q0), .second, .val (.int p1), .val (.int p2), .val (.ref b1), .unset, .unset, .unset, .unset, .unset, .unset, .unset]) rfl) ?_
  show Go p e below _ (T6.setTop (mkF m 12 #[.val (.long q0), .second, .val (.int p1), .val (.int p2), .val (.ref b1), .unset, .unset, .unset, .unset, .unset, .unset, .unset] []))
  refine Go.st (fun _ => XS.aload X6.here hx rfl (hb hby at_12) rfl rfl) ?_
  show Go p e below _ (T6.setTop (mkF m 14 #[.val (.long q0), .second, .val (.int p1), .val (.int p2), .val (.ref b1), .unset, .unset, .unset, .unset, .unset, .unset, .unset] [(.ref b1)]))
  refine goCallS X6 hx hZ (y := (⟨"com/example/vittoria/vittoria/JobTable$Outcome", "done", "(Lcom/example/vittoria/vittoria/JobTable$Call;)Lcom/example/vittoria/vittoria/JobTable$Outcome;"⟩ : MethodName)) hown (hw _ (List.mem_of_getElem? (i := 20) rfl)) (hw _ (List.mem_of_getElem? (i := 21) rfl)) (hw _ (List.mem_of_getElem? (i := 22) rfl)) (hw _ (List.mem_of_getElem? (i := 23) rfl)) (by decide) (argsL := [(.ref b1)]) (rest := []) rfl (rm3 l Z a0 hw [] b1 w_DONE T6.heap n0 O7 S_w_DONE) 0 (by decide) (by decide) (by decide) (by decide) (mkF m 14 #[.val (.long q0), .second, .val (.int p1), .val (.int p2), .val (.ref b1), .unset, .unset, .unset, .unset, .unset, .unset, .unset] [(.ref b1)]) rfl (by rw [hml]; rfl) (lenOf pd_4 rfl) rfl (hb hby at_14) (Nat.le_of_eq rfl) ?_
  intro v9 T9 L9 X9 hQ9
  obtain ⟨⟨r9, rfl, gr9, Er9, Ga9, Gb9, Gc9, Gd9⟩, M9, K9⟩ := hQ9
  have N9 := Fr.app N6 M9
  have O10 : Old Z n0 T9.heap := O7.keep K9 all0
  have E_11 : Exa Z T9.heap b1 "com/example/vittoria/vittoria/JobTable$Call" := E_8.keep K9
  have F12 : Fld Z T9.heap b1 "com/example/vittoria/vittoria/JobTable$Call" "id" "J" (.long q0) := Ga6.keep K9 nin0
  have F13 : Fld Z T9.heap b1 "com/example/vittoria/vittoria/JobTable$Call" "attempt" "I" (.int p1) := Gb6.keep K9 nin0
  have F14 : Fld Z T9.heap b1 "com/example/vittoria/vittoria/JobTable$Call" "replayedAttempts" "I" (.int p2) := Gc6.keep K9 nin0
  show Go p e below _ (T9.setTop (mkF m 17 #[.val (.long q0), .second, .val (.int p1), .val (.int p2), .val (.ref b1), .unset, .unset, .unset, .unset, .unset, .unset, .unset] [(.ref r9)]))
  refine Go.st (fun _ => XS.astore X9.here hx rfl (hb hby at_17) rfl rfl (l' := #[.val (.long q0), .second, .val (.int p1), .val (.int p2), .val (.ref b1), .val (.ref r9), .unset, .unset, .unset, .unset, .unset, .unset]) rfl) ?_
  show Go p e below _ (T9.setTop (mkF m 19 #[.val (.long q0), .second, .val (.int p1), .val (.int p2), .val (.ref b1), .val (.ref r9), .unset, .unset, .unset, .unset, .unset, .unset] []))
  refine Go.st (fun _ => XS.aload X9.here hx rfl (hb hby at_19) rfl rfl) ?_
  show Go p e below _ (T9.setTop (mkF m 21 #[.val (.long q0), .second, .val (.int p1), .val (.int p2), .val (.ref b1), .val (.ref r9), .unset, .unset, .unset, .unset, .unset, .unset] [(.ref r9)]))
  refine goVirt X9 hx hZ (y := (⟨"com/example/vittoria/vittoria/JobTable$Outcome", "call", "()Lcom/example/vittoria/vittoria/JobTable$Call;"⟩ : MethodName)) (z := (⟨"com/example/vittoria/vittoria/JobTable$Outcome", "call", "()Lcom/example/vittoria/vittoria/JobTable$Call;"⟩ : MethodName)) hown (hw _ (List.mem_of_getElem? (i := 41) rfl)) (hw _ (List.mem_of_getElem? (i := 42) rfl)) (notFace_of_selects (args := #[]) (mvT hZ (hw _ (List.mem_of_getElem? (i := 44) rfl)))) (hw _ (List.mem_of_getElem? (i := 44) rfl)) (hw _ (List.mem_of_getElem? (i := 43) rfl)) (hw _ (List.mem_of_getElem? (i := 22) rfl)) (hw _ (List.mem_of_getElem? (i := 45) rfl)) (by decide) (a := r9) (argsL := []) (rest := []) rfl Er9 (rmG6 l Z a0 hw [] r9 b1 T9.heap n0 O10 Ga9) 0 (by decide) (by decide) (by decide) (by decide) (mkF m 21 #[.val (.long q0), .second, .val (.int p1), .val (.int p2), .val (.ref b1), .val (.ref r9), .unset, .unset, .unset, .unset, .unset, .unset] [(.ref r9)]) rfl (by rw [hml]; rfl) (lenOf pd_5 rfl) rfl (hb hby at_21) (Nat.le_of_eq rfl) ?_
  intro v15 T15 L15 X15 hQ15
  obtain ⟨rfl, M15, e15⟩ := hQ15
  have N15 := Fr.app N9 M15
  show Go p e below _ (T15.setTop (mkF m 24 #[.val (.long q0), .second, .val (.int p1), .val (.int p2), .val (.ref b1), .val (.ref r9), .unset, .unset, .unset, .unset, .unset, .unset] [(.ref b1)]))
  refine Go.st (fun _ => XS.astore X15.here hx rfl (hb hby at_24) rfl rfl (l' := #[.val (.long q0), .second, .val (.int p1), .val (.int p2), .val (.ref b1), .val (.ref r9), .val (.ref b1), .unset, .unset, .unset, .unset, .unset]) rfl) ?_
  show Go p e below _ (T15.setTop (mkF m 26 #[.val (.long q0), .second, .val (.int p1), .val (.int p2), .val (.ref b1), .val (.ref r9), .val (.ref b1), .unset, .unset, .unset, .unset, .unset] []))
  refine Go.st (fun _ => XS.aload X15.here hx rfl (hb hby at_26) rfl rfl) ?_
  show Go p e below _ (T15.setTop (mkF m 28 #[.val (.long q0), .second, .val (.int p1), .val (.int p2), .val (.ref b1), .val (.ref r9), .val (.ref b1), .unset, .unset, .unset, .unset, .unset] [(.ref b1)]))
  refine Go.st (fun _ => XS.ifnonnullYes X15.here hx rfl (pc0 := 28) (pc' := 33) rfl (hb hby at_28) rfl (by decide) (by decide)) ?_
  show Go p e below _ (T15.setTop (mkF m 33 #[.val (.long q0), .second, .val (.int p1), .val (.int p2), .val (.ref b1), .val (.ref r9), .val (.ref b1), .unset, .unset, .unset, .unset, .unset] []))
  refine Go.st (fun _ => XS.aload X15.here hx rfl (hb hby at_33) rfl rfl) ?_
  show Go p e below _ (T15.setTop (mkF m 35 #[.val (.long q0), .second, .val (.int p1), .val (.int p2), .val (.ref b1), .val (.ref r9), .val (.ref b1), .unset, .unset, .unset, .unset, .unset] [(.ref b1)]))
  refine goVirt X15 hx hZ (y := (⟨"com/example/vittoria/vittoria/JobTable$Call", "id", "()J"⟩ : MethodName)) (z := (⟨"com/example/vittoria/vittoria/JobTable$Call", "id", "()J"⟩ : MethodName)) hown (hw _ (List.mem_of_getElem? (i := 46) rfl)) (hw _ (List.mem_of_getElem? (i := 47) rfl)) (notFace_of_selects (args := #[]) (mvT hZ (hw _ (List.mem_of_getElem? (i := 49) rfl)))) (hw _ (List.mem_of_getElem? (i := 49) rfl)) (hw _ (List.mem_of_getElem? (i := 48) rfl)) (hw _ (List.mem_of_getElem? (i := 2) rfl)) (hw _ (List.mem_of_getElem? (i := 50) rfl)) (by decide) (a := b1) (argsL := []) (rest := []) e15 E_11 (rmG7 l Z a0 hw [] b1 q0 T9.heap n0 O10 F12) 0 (by decide) (by decide) (by decide) (by decide) (mkF m 35 #[.val (.long q0), .second, .val (.int p1), .val (.int p2), .val (.ref b1), .val (.ref r9), .val (.ref b1), .unset, .unset, .unset, .unset, .unset] [(.ref b1)]) rfl (by rw [hml]; rfl) (lenOf pd_2 rfl) rfl (hb hby at_35) (Nat.le_of_eq rfl) ?_
  intro v16 T16 L16 X16 hQ16
  obtain ⟨rfl, M16, e16⟩ := hQ16
  have N16 := Fr.app N15 M16
  show Go p e below _ (T16.setTop (mkF m 38 #[.val (.long q0), .second, .val (.int p1), .val (.int p2), .val (.ref b1), .val (.ref r9), .val (.ref b1), .unset, .unset, .unset, .unset, .unset] [(.long q0)]))
  refine Go.st (fun _ => XS.lloadN X16.here hx rfl (hb hby at_38) rfl) ?_
  show Go p e below _ (T16.setTop (mkF m 39 #[.val (.long q0), .second, .val (.int p1), .val (.int p2), .val (.ref b1), .val (.ref r9), .val (.ref b1), .unset, .unset, .unset, .unset, .unset] [(.long q0), (.long q0)]))
  refine Go.st (fun _ => XS.lcmp X16.here hx rfl (hb hby at_39) rfl) ?_
  show Go p e below _ (T16.setTop (mkF m 40 #[.val (.long q0), .second, .val (.int p1), .val (.int p2), .val (.ref b1), .val (.ref r9), .val (.ref b1), .unset, .unset, .unset, .unset, .unset] [(.int (lcmpW q0 q0))]))
  refine Go.st (fun _ => XS.ifNo X16.here hx rfl (hb hby at_40) rfl ((if0 _ _).trans (teq ((lw_eq _ _).mpr (rfl : q0 = q0))).2)) ?_
  show Go p e below _ (T16.setTop (mkF m 43 #[.val (.long q0), .second, .val (.int p1), .val (.int p2), .val (.ref b1), .val (.ref r9), .val (.ref b1), .unset, .unset, .unset, .unset, .unset] []))
  refine Go.st (fun _ => XS.aload X16.here hx rfl (hb hby at_43) rfl rfl) ?_
  show Go p e below _ (T16.setTop (mkF m 45 #[.val (.long q0), .second, .val (.int p1), .val (.int p2), .val (.ref b1), .val (.ref r9), .val (.ref b1), .unset, .unset, .unset, .unset, .unset] [(.ref b1)]))
  refine goVirt X16 hx hZ (y := (⟨"com/example/vittoria/vittoria/JobTable$Call", "attempt", "()I"⟩ : MethodName)) (z := (⟨"com/example/vittoria/vittoria/JobTable$Call", "attempt", "()I"⟩ : MethodName)) hown (hw _ (List.mem_of_getElem? (i := 51) rfl)) (hw _ (List.mem_of_getElem? (i := 52) rfl)) (notFace_of_selects (args := #[]) (mvT hZ (hw _ (List.mem_of_getElem? (i := 54) rfl)))) (hw _ (List.mem_of_getElem? (i := 54) rfl)) (hw _ (List.mem_of_getElem? (i := 53) rfl)) (hw _ (List.mem_of_getElem? (i := 2) rfl)) (hw _ (List.mem_of_getElem? (i := 55) rfl)) (by decide) (a := b1) (argsL := []) (rest := []) e16 E_11 (rmG8 l Z a0 hw [] b1 p1 T9.heap n0 O10 F13) 0 (by decide) (by decide) (by decide) (by decide) (mkF m 45 #[.val (.long q0), .second, .val (.int p1), .val (.int p2), .val (.ref b1), .val (.ref r9), .val (.ref b1), .unset, .unset, .unset, .unset, .unset] [(.ref b1)]) rfl (by rw [hml]; rfl) (lenOf pd_6 rfl) rfl (hb hby at_45) (Nat.le_of_eq rfl) ?_
  intro v17 T17 L17 X17 hQ17
  obtain ⟨rfl, M17, e17⟩ := hQ17
  have N17 := Fr.app N16 M17
  show Go p e below _ (T17.setTop (mkF m 48 #[.val (.long q0), .second, .val (.int p1), .val (.int p2), .val (.ref b1), .val (.ref r9), .val (.ref b1), .unset, .unset, .unset, .unset, .unset] [(.int p1)]))
  refine Go.st (fun _ => XS.iloadN X17.here hx rfl (hb hby at_48) rfl) ?_
  show Go p e below _ (T17.setTop (mkF m 49 #[.val (.long q0), .second, .val (.int p1), .val (.int p2), .val (.ref b1), .val (.ref r9), .val (.ref b1), .unset, .unset, .unset, .unset, .unset] [(.int p1), (.int p1)]))
  refine Go.st (fun _ => XS.icmpNo X17.here hx rfl (hb hby at_49) rfl (teq (rfl : p1 = p1)).2) ?_
  show Go p e below _ (T17.setTop (mkF m 52 #[.val (.long q0), .second, .val (.int p1), .val (.int p2), .val (.ref b1), .val (.ref r9), .val (.ref b1), .unset, .unset, .unset, .unset, .unset] []))
  refine Go.st (fun _ => XS.aload X17.here hx rfl (hb hby at_52) rfl rfl) ?_
  show Go p e below _ (T17.setTop (mkF m 54 #[.val (.long q0), .second, .val (.int p1), .val (.int p2), .val (.ref b1), .val (.ref r9), .val (.ref b1), .unset, .unset, .unset, .unset, .unset] [(.ref b1)]))
  refine goVirt X17 hx hZ (y := (⟨"com/example/vittoria/vittoria/JobTable$Call", "replayedAttempts", "()I"⟩ : MethodName)) (z := (⟨"com/example/vittoria/vittoria/JobTable$Call", "replayedAttempts", "()I"⟩ : MethodName)) hown (hw _ (List.mem_of_getElem? (i := 56) rfl)) (hw _ (List.mem_of_getElem? (i := 57) rfl)) (notFace_of_selects (args := #[]) (mvT hZ (hw _ (List.mem_of_getElem? (i := 59) rfl)))) (hw _ (List.mem_of_getElem? (i := 59) rfl)) (hw _ (List.mem_of_getElem? (i := 58) rfl)) (hw _ (List.mem_of_getElem? (i := 2) rfl)) (hw _ (List.mem_of_getElem? (i := 60) rfl)) (by decide) (a := b1) (argsL := []) (rest := []) e17 E_11 (rmG9 l Z a0 hw [] b1 p2 T9.heap n0 O10 F14) 0 (by decide) (by decide) (by decide) (by decide) (mkF m 54 #[.val (.long q0), .second, .val (.int p1), .val (.int p2), .val (.ref b1), .val (.ref r9), .val (.ref b1), .unset, .unset, .unset, .unset, .unset] [(.ref b1)]) rfl (by rw [hml]; rfl) (lenOf pd_6 rfl) rfl (hb hby at_54) (Nat.le_of_eq rfl) ?_
  intro v18 T18 L18 X18 hQ18
  obtain ⟨rfl, M18, e18⟩ := hQ18
  have N18 := Fr.app N17 M18
  show Go p e below _ (T18.setTop (mkF m 57 #[.val (.long q0), .second, .val (.int p1), .val (.int p2), .val (.ref b1), .val (.ref r9), .val (.ref b1), .unset, .unset, .unset, .unset, .unset] [(.int p2)]))
  refine Go.st (fun _ => XS.iloadN X18.here hx rfl (hb hby at_57) rfl) ?_
  show Go p e below _ (T18.setTop (mkF m 58 #[.val (.long q0), .second, .val (.int p1), .val (.int p2), .val (.ref b1), .val (.ref r9), .val (.ref b1), .unset, .unset, .unset, .unset, .unset] [(.int p2), (.int p2)]))
  refine Go.st (fun _ => XS.icmpNo X18.here hx rfl (hb hby at_58) rfl (teq (rfl : p2 = p2)).2) ?_
  show Go p e below _ (T18.setTop (mkF m 61 #[.val (.long q0), .second, .val (.int p1), .val (.int p2), .val (.ref b1), .val (.ref r9), .val (.ref b1), .unset, .unset, .unset, .unset, .unset] []))
  refine Go.st (fun _ => XS.iconst X18.here hx rfl (hb hby at_61)) ?_
  show Go p e below _ (T18.setTop (mkF m 62 #[.val (.long q0), .second, .val (.int p1), .val (.int p2), .val (.ref b1), .val (.ref r9), .val (.ref b1), .unset, .unset, .unset, .unset, .unset] [(.int (1 : Int32))]))
  refine Go.st (fun _ => XS.goto X18.here hx rfl (pc0 := 62) (pc' := 66) rfl (hb hby at_62) (by decide) (by decide)) ?_
  show Go p e below _ (T18.setTop (mkF m 66 #[.val (.long q0), .second, .val (.int p1), .val (.int p2), .val (.ref b1), .val (.ref r9), .val (.ref b1), .unset, .unset, .unset, .unset, .unset] [(.int (1 : Int32))]))
  refine Go.st (fun _ => XS.istore X18.here hx rfl (hb hby at_66) rfl (l' := #[.val (.long q0), .second, .val (.int p1), .val (.int p2), .val (.ref b1), .val (.ref r9), .val (.ref b1), .val (.int (1 : Int32)), .unset, .unset, .unset, .unset]) rfl) ?_
  show Go p e below _ (T18.setTop (mkF m 68 #[.val (.long q0), .second, .val (.int p1), .val (.int p2), .val (.ref b1), .val (.ref r9), .val (.ref b1), .val (.int (1 : Int32)), .unset, .unset, .unset, .unset] []))
  refine Go.st (fun _ => XS.aload X18.here hx rfl (hb hby at_68) rfl rfl) ?_
  show Go p e below _ (T18.setTop (mkF m 70 #[.val (.long q0), .second, .val (.int p1), .val (.int p2), .val (.ref b1), .val (.ref r9), .val (.ref b1), .val (.int (1 : Int32)), .unset, .unset, .unset, .unset] [(.ref r9)]))
  refine goVirt X18 hx hZ (y := (⟨"com/example/vittoria/vittoria/JobTable$Outcome", "status", "()Lcom/example/vittoria/vittoria/JobStatus;"⟩ : MethodName)) (z := (⟨"com/example/vittoria/vittoria/JobTable$Outcome", "status", "()Lcom/example/vittoria/vittoria/JobStatus;"⟩ : MethodName)) hown (hw _ (List.mem_of_getElem? (i := 61) rfl)) (hw _ (List.mem_of_getElem? (i := 62) rfl)) (notFace_of_selects (args := #[]) (mvT hZ (hw _ (List.mem_of_getElem? (i := 64) rfl)))) (hw _ (List.mem_of_getElem? (i := 64) rfl)) (hw _ (List.mem_of_getElem? (i := 63) rfl)) (hw _ (List.mem_of_getElem? (i := 22) rfl)) (hw _ (List.mem_of_getElem? (i := 65) rfl)) (by decide) (a := r9) (argsL := []) (rest := []) e18 Er9 (rmG10 l Z a0 hw [] r9 w_DONE T9.heap n0 O10 Gb9) 0 (by decide) (by decide) (by decide) (by decide) (mkF m 70 #[.val (.long q0), .second, .val (.int p1), .val (.int p2), .val (.ref b1), .val (.ref r9), .val (.ref b1), .val (.int (1 : Int32)), .unset, .unset, .unset, .unset] [(.ref r9)]) rfl (by rw [hml]; rfl) (lenOf pd_7 rfl) rfl (hb hby at_70) (Nat.le_of_eq rfl) ?_
  intro v19 T19 L19 X19 hQ19
  obtain ⟨rfl, M19, e19⟩ := hQ19
  have N19 := Fr.app N18 M19
  show Go p e below _ (T19.setTop (mkF m 73 #[.val (.long q0), .second, .val (.int p1), .val (.int p2), .val (.ref b1), .val (.ref r9), .val (.ref b1), .val (.int (1 : Int32)), .unset, .unset, .unset, .unset] [(.ref w_DONE)]))
  obtain ⟨T20, X20, e20, st20⟩ := getS2 X19 hx hZ hown (host := "") (Or.inl (hw _ (List.mem_of_getElem? (i := 66) rfl))) Via.refl e19 (oldSta O10 S_w_DONE) (g := (mkF m 73 #[.val (.long q0), .second, .val (.int p1), .val (.int p2), .val (.ref b1), .val (.ref r9), .val (.ref b1), .val (.int (1 : Int32)), .unset, .unset, .unset, .unset] [(.ref w_DONE)])) rfl (hb hby at_73)
  refine Go.st st20 ?_
  show Go p e below _ (T20.setTop (mkF m 76 #[.val (.long q0), .second, .val (.int p1), .val (.int p2), .val (.ref b1), .val (.ref r9), .val (.ref b1), .val (.int (1 : Int32)), .unset, .unset, .unset, .unset] [(.ref w_DONE), (.ref w_DONE)]))
  refine Go.st (fun _ => fun k => Jvm.RoadKit.acmp (g := (mkF m 76 #[.val (.long q0), .second, .val (.int p1), .val (.int p2), .val (.ref b1), .val (.ref r9), .val (.ref b1), .val (.int (1 : Int32)), .unset, .unset, .unset, .unset] [(.ref w_DONE), (.ref w_DONE)])) X20 hx rfl rfl rfl (pc0 := 76) (pc' := 79) (same := true) rfl (hb hby at_76) rfl (decide_eq_true rfl) (by decide) (by decide) k) ?_
  show Go p e below _ (T20.setTop (mkF m 79 #[.val (.long q0), .second, .val (.int p1), .val (.int p2), .val (.ref b1), .val (.ref r9), .val (.ref b1), .val (.int (1 : Int32)), .unset, .unset, .unset, .unset] []))
  refine Go.st (fun _ => XS.iconst X20.here hx rfl (hb hby at_79)) ?_
  show Go p e below _ (T20.setTop (mkF m 80 #[.val (.long q0), .second, .val (.int p1), .val (.int p2), .val (.ref b1), .val (.ref r9), .val (.ref b1), .val (.int (1 : Int32)), .unset, .unset, .unset, .unset] [(.int (1 : Int32))]))
  refine Go.st (fun _ => XS.goto X20.here hx rfl (pc0 := 80) (pc' := 84) rfl (hb hby at_80) (by decide) (by decide)) ?_
  show Go p e below _ (T20.setTop (mkF m 84 #[.val (.long q0), .second, .val (.int p1), .val (.int p2), .val (.ref b1), .val (.ref r9), .val (.ref b1), .val (.int (1 : Int32)), .unset, .unset, .unset, .unset] [(.int (1 : Int32))]))
  refine Go.st (fun _ => XS.istore X20.here hx rfl (hb hby at_84) rfl (l' := #[.val (.long q0), .second, .val (.int p1), .val (.int p2), .val (.ref b1), .val (.ref r9), .val (.ref b1), .val (.int (1 : Int32)), .val (.int (1 : Int32)), .unset, .unset, .unset]) rfl) ?_
  show Go p e below _ (T20.setTop (mkF m 86 #[.val (.long q0), .second, .val (.int p1), .val (.int p2), .val (.ref b1), .val (.ref r9), .val (.ref b1), .val (.int (1 : Int32)), .val (.int (1 : Int32)), .unset, .unset, .unset] []))
  refine Go.st (fun _ => XS.aload X20.here hx rfl (hb hby at_86) rfl rfl) ?_
  show Go p e below _ (T20.setTop (mkF m 88 #[.val (.long q0), .second, .val (.int p1), .val (.int p2), .val (.ref b1), .val (.ref r9), .val (.ref b1), .val (.int (1 : Int32)), .val (.int (1 : Int32)), .unset, .unset, .unset] [(.ref r9)]))
  refine goVirt X20 hx hZ (y := (⟨"com/example/vittoria/vittoria/JobTable$Outcome", "error", "()Ljava/lang/String;"⟩ : MethodName)) (z := (⟨"com/example/vittoria/vittoria/JobTable$Outcome", "error", "()Ljava/lang/String;"⟩ : MethodName)) hown (hw _ (List.mem_of_getElem? (i := 67) rfl)) (hw _ (List.mem_of_getElem? (i := 68) rfl)) (notFace_of_selects (args := #[]) (mvT hZ (hw _ (List.mem_of_getElem? (i := 70) rfl)))) (hw _ (List.mem_of_getElem? (i := 70) rfl)) (hw _ (List.mem_of_getElem? (i := 69) rfl)) (hw _ (List.mem_of_getElem? (i := 22) rfl)) (hw _ (List.mem_of_getElem? (i := 71) rfl)) (by decide) (a := r9) (argsL := []) (rest := []) e20 Er9 (rmG11 l Z a0 hw [] r9  T9.heap n0 O10 Gc9) 0 (by decide) (by decide) (by decide) (by decide) (mkF m 88 #[.val (.long q0), .second, .val (.int p1), .val (.int p2), .val (.ref b1), .val (.ref r9), .val (.ref b1), .val (.int (1 : Int32)), .val (.int (1 : Int32)), .unset, .unset, .unset] [(.ref r9)]) rfl (by rw [hml]; rfl) (lenOf pd_8 rfl) rfl (hb hby at_88) (Nat.le_of_eq rfl) ?_
  intro v21 T21 L21 X21 hQ21
  obtain ⟨rfl, M21, e21⟩ := hQ21
  have N21 := Fr.app N19 M21
  show Go p e below _ (T21.setTop (mkF m 91 #[.val (.long q0), .second, .val (.int p1), .val (.int p2), .val (.ref b1), .val (.ref r9), .val (.ref b1), .val (.int (1 : Int32)), .val (.int (1 : Int32)), .unset, .unset, .unset] [.null]))
  refine Go.st (fun _ => XS.ifnonnullNo X21.here hx rfl (hb hby at_91) rfl) ?_
  show Go p e below _ (T21.setTop (mkF m 94 #[.val (.long q0), .second, .val (.int p1), .val (.int p2), .val (.ref b1), .val (.ref r9), .val (.ref b1), .val (.int (1 : Int32)), .val (.int (1 : Int32)), .unset, .unset, .unset] []))
  refine Go.st (fun _ => XS.iconst X21.here hx rfl (hb hby at_94)) ?_
  show Go p e below _ (T21.setTop (mkF m 95 #[.val (.long q0), .second, .val (.int p1), .val (.int p2), .val (.ref b1), .val (.ref r9), .val (.ref b1), .val (.int (1 : Int32)), .val (.int (1 : Int32)), .unset, .unset, .unset] [(.int (1 : Int32))]))
  refine Go.st (fun _ => XS.goto X21.here hx rfl (pc0 := 95) (pc' := 99) rfl (hb hby at_95) (by decide) (by decide)) ?_
  show Go p e below _ (T21.setTop (mkF m 99 #[.val (.long q0), .second, .val (.int p1), .val (.int p2), .val (.ref b1), .val (.ref r9), .val (.ref b1), .val (.int (1 : Int32)), .val (.int (1 : Int32)), .unset, .unset, .unset] [(.int (1 : Int32))]))
  refine Go.st (fun _ => XS.istore X21.here hx rfl (hb hby at_99) rfl (l' := #[.val (.long q0), .second, .val (.int p1), .val (.int p2), .val (.ref b1), .val (.ref r9), .val (.ref b1), .val (.int (1 : Int32)), .val (.int (1 : Int32)), .val (.int (1 : Int32)), .unset, .unset]) rfl) ?_
  show Go p e below _ (T21.setTop (mkF m 101 #[.val (.long q0), .second, .val (.int p1), .val (.int p2), .val (.ref b1), .val (.ref r9), .val (.ref b1), .val (.int (1 : Int32)), .val (.int (1 : Int32)), .val (.int (1 : Int32)), .unset, .unset] []))
  refine Go.st (fun _ => XS.aload X21.here hx rfl (hb hby at_101) rfl rfl) ?_
  show Go p e below _ (T21.setTop (mkF m 103 #[.val (.long q0), .second, .val (.int p1), .val (.int p2), .val (.ref b1), .val (.ref r9), .val (.ref b1), .val (.int (1 : Int32)), .val (.int (1 : Int32)), .val (.int (1 : Int32)), .unset, .unset] [(.ref r9)]))
  refine goVirt X21 hx hZ (y := (⟨"com/example/vittoria/vittoria/JobTable$Outcome", "retryDelay", "()Ljava/time/Duration;"⟩ : MethodName)) (z := (⟨"com/example/vittoria/vittoria/JobTable$Outcome", "retryDelay", "()Ljava/time/Duration;"⟩ : MethodName)) hown (hw _ (List.mem_of_getElem? (i := 72) rfl)) (hw _ (List.mem_of_getElem? (i := 73) rfl)) (notFace_of_selects (args := #[]) (mvT hZ (hw _ (List.mem_of_getElem? (i := 75) rfl)))) (hw _ (List.mem_of_getElem? (i := 75) rfl)) (hw _ (List.mem_of_getElem? (i := 74) rfl)) (hw _ (List.mem_of_getElem? (i := 22) rfl)) (hw _ (List.mem_of_getElem? (i := 76) rfl)) (by decide) (a := r9) (argsL := []) (rest := []) e21 Er9 (rmG12 l Z a0 hw [] r9  T9.heap n0 O10 Gd9) 0 (by decide) (by decide) (by decide) (by decide) (mkF m 103 #[.val (.long q0), .second, .val (.int p1), .val (.int p2), .val (.ref b1), .val (.ref r9), .val (.ref b1), .val (.int (1 : Int32)), .val (.int (1 : Int32)), .val (.int (1 : Int32)), .unset, .unset] [(.ref r9)]) rfl (by rw [hml]; rfl) (lenOf pd_9 rfl) rfl (hb hby at_103) (Nat.le_of_eq rfl) ?_
  intro v22 T22 L22 X22 hQ22
  obtain ⟨rfl, M22, e22⟩ := hQ22
  have N22 := Fr.app N21 M22
  show Go p e below _ (T22.setTop (mkF m 106 #[.val (.long q0), .second, .val (.int p1), .val (.int p2), .val (.ref b1), .val (.ref r9), .val (.ref b1), .val (.int (1 : Int32)), .val (.int (1 : Int32)), .val (.int (1 : Int32)), .unset, .unset] [.null]))
  refine Go.st (fun _ => XS.ifnonnullNo X22.here hx rfl (hb hby at_106) rfl) ?_
  show Go p e below _ (T22.setTop (mkF m 109 #[.val (.long q0), .second, .val (.int p1), .val (.int p2), .val (.ref b1), .val (.ref r9), .val (.ref b1), .val (.int (1 : Int32)), .val (.int (1 : Int32)), .val (.int (1 : Int32)), .unset, .unset] []))
  refine Go.st (fun _ => XS.iconst X22.here hx rfl (hb hby at_109)) ?_
  show Go p e below _ (T22.setTop (mkF m 110 #[.val (.long q0), .second, .val (.int p1), .val (.int p2), .val (.ref b1), .val (.ref r9), .val (.ref b1), .val (.int (1 : Int32)), .val (.int (1 : Int32)), .val (.int (1 : Int32)), .unset, .unset] [(.int (1 : Int32))]))
  refine Go.st (fun _ => XS.goto X22.here hx rfl (pc0 := 110) (pc' := 114) rfl (hb hby at_110) (by decide) (by decide)) ?_
  show Go p e below _ (T22.setTop (mkF m 114 #[.val (.long q0), .second, .val (.int p1), .val (.int p2), .val (.ref b1), .val (.ref r9), .val (.ref b1), .val (.int (1 : Int32)), .val (.int (1 : Int32)), .val (.int (1 : Int32)), .unset, .unset] [(.int (1 : Int32))]))
  refine Go.st (fun _ => XS.istore X22.here hx rfl (hb hby at_114) rfl (l' := #[.val (.long q0), .second, .val (.int p1), .val (.int p2), .val (.ref b1), .val (.ref r9), .val (.ref b1), .val (.int (1 : Int32)), .val (.int (1 : Int32)), .val (.int (1 : Int32)), .val (.int (1 : Int32)), .unset]) rfl) ?_
  show Go p e below _ (T22.setTop (mkF m 116 #[.val (.long q0), .second, .val (.int p1), .val (.int p2), .val (.ref b1), .val (.ref r9), .val (.ref b1), .val (.int (1 : Int32)), .val (.int (1 : Int32)), .val (.int (1 : Int32)), .val (.int (1 : Int32)), .unset] []))
  refine Go.st (fun _ => XS.aload X22.here hx rfl (hb hby at_116) rfl rfl) ?_
  show Go p e below _ (T22.setTop (mkF m 118 #[.val (.long q0), .second, .val (.int p1), .val (.int p2), .val (.ref b1), .val (.ref r9), .val (.ref b1), .val (.int (1 : Int32)), .val (.int (1 : Int32)), .val (.int (1 : Int32)), .val (.int (1 : Int32)), .unset] [(.ref r9)]))
  refine goVirt X22 hx hZ (y := (⟨"com/example/vittoria/vittoria/JobTable$Outcome", "id", "()J"⟩ : MethodName)) (z := (⟨"com/example/vittoria/vittoria/JobTable$Outcome", "id", "()J"⟩ : MethodName)) hown (hw _ (List.mem_of_getElem? (i := 77) rfl)) (hw _ (List.mem_of_getElem? (i := 78) rfl)) (notFace_of_selects (args := #[]) (mvT hZ (hw _ (List.mem_of_getElem? (i := 80) rfl)))) (hw _ (List.mem_of_getElem? (i := 80) rfl)) (hw _ (List.mem_of_getElem? (i := 79) rfl)) (hw _ (List.mem_of_getElem? (i := 22) rfl)) (hw _ (List.mem_of_getElem? (i := 81) rfl)) (by decide) (a := r9) (argsL := []) (rest := []) e22 Er9 (rm4 l Z a0 hw [] r9 b1 q0 T9.heap n0 O10 Ga9 E_11 F12) 0 (by decide) (by decide) (by decide) (by decide) (mkF m 118 #[.val (.long q0), .second, .val (.int p1), .val (.int p2), .val (.ref b1), .val (.ref r9), .val (.ref b1), .val (.int (1 : Int32)), .val (.int (1 : Int32)), .val (.int (1 : Int32)), .val (.int (1 : Int32)), .unset] [(.ref r9)]) rfl (by rw [hml]; rfl) (lenOf pd_2 rfl) rfl (hb hby at_118) (Nat.le_of_eq rfl) ?_
  intro v23 T23 L23 X23 hQ23
  obtain ⟨rfl, M23, e23⟩ := hQ23
  have N23 := Fr.app N22 M23
  show Go p e below _ (T23.setTop (mkF m 121 #[.val (.long q0), .second, .val (.int p1), .val (.int p2), .val (.ref b1), .val (.ref r9), .val (.ref b1), .val (.int (1 : Int32)), .val (.int (1 : Int32)), .val (.int (1 : Int32)), .val (.int (1 : Int32)), .unset] [(.long q0)]))
  refine Go.st (fun _ => XS.lloadN X23.here hx rfl (hb hby at_121) rfl) ?_
  show Go p e below _ (T23.setTop (mkF m 122 #[.val (.long q0), .second, .val (.int p1), .val (.int p2), .val (.ref b1), .val (.ref r9), .val (.ref b1), .val (.int (1 : Int32)), .val (.int (1 : Int32)), .val (.int (1 : Int32)), .val (.int (1 : Int32)), .unset] [(.long q0), (.long q0)]))
  refine Go.st (fun _ => XS.lcmp X23.here hx rfl (hb hby at_122) rfl) ?_
  show Go p e below _ (T23.setTop (mkF m 123 #[.val (.long q0), .second, .val (.int p1), .val (.int p2), .val (.ref b1), .val (.ref r9), .val (.ref b1), .val (.int (1 : Int32)), .val (.int (1 : Int32)), .val (.int (1 : Int32)), .val (.int (1 : Int32)), .unset] [(.int (lcmpW q0 q0))]))
  refine Go.st (fun _ => XS.ifNo X23.here hx rfl (hb hby at_123) rfl ((if0 _ _).trans (teq ((lw_eq _ _).mpr (rfl : q0 = q0))).2)) ?_
  show Go p e below _ (T23.setTop (mkF m 126 #[.val (.long q0), .second, .val (.int p1), .val (.int p2), .val (.ref b1), .val (.ref r9), .val (.ref b1), .val (.int (1 : Int32)), .val (.int (1 : Int32)), .val (.int (1 : Int32)), .val (.int (1 : Int32)), .unset] []))
  refine Go.st (fun _ => XS.iconst X23.here hx rfl (hb hby at_126)) ?_
  show Go p e below _ (T23.setTop (mkF m 127 #[.val (.long q0), .second, .val (.int p1), .val (.int p2), .val (.ref b1), .val (.ref r9), .val (.ref b1), .val (.int (1 : Int32)), .val (.int (1 : Int32)), .val (.int (1 : Int32)), .val (.int (1 : Int32)), .unset] [(.int (1 : Int32))]))
  refine Go.st (fun _ => XS.goto X23.here hx rfl (pc0 := 127) (pc' := 131) rfl (hb hby at_127) (by decide) (by decide)) ?_
  show Go p e below _ (T23.setTop (mkF m 131 #[.val (.long q0), .second, .val (.int p1), .val (.int p2), .val (.ref b1), .val (.ref r9), .val (.ref b1), .val (.int (1 : Int32)), .val (.int (1 : Int32)), .val (.int (1 : Int32)), .val (.int (1 : Int32)), .unset] [(.int (1 : Int32))]))
  refine Go.st (fun _ => XS.istore X23.here hx rfl (hb hby at_131) rfl (l' := #[.val (.long q0), .second, .val (.int p1), .val (.int p2), .val (.ref b1), .val (.ref r9), .val (.ref b1), .val (.int (1 : Int32)), .val (.int (1 : Int32)), .val (.int (1 : Int32)), .val (.int (1 : Int32)), .val (.int (1 : Int32))]) rfl) ?_
  show Go p e below _ (T23.setTop (mkF m 133 #[.val (.long q0), .second, .val (.int p1), .val (.int p2), .val (.ref b1), .val (.ref r9), .val (.ref b1), .val (.int (1 : Int32)), .val (.int (1 : Int32)), .val (.int (1 : Int32)), .val (.int (1 : Int32)), .val (.int (1 : Int32))] []))
  refine Go.st (fun _ => XS.iload X23.here hx rfl (hb hby at_133) rfl) ?_
  show Go p e below _ (T23.setTop (mkF m 135 #[.val (.long q0), .second, .val (.int p1), .val (.int p2), .val (.ref b1), .val (.ref r9), .val (.ref b1), .val (.int (1 : Int32)), .val (.int (1 : Int32)), .val (.int (1 : Int32)), .val (.int (1 : Int32)), .val (.int (1 : Int32))] [(.int (1 : Int32))]))
  refine Go.st (fun _ => XS.ifNo X23.here hx rfl (hb hby at_135) rfl ((if0 _ _).trans (feq (by decide : ¬ ((1 : Int32) = (0 : Int32)))).1)) ?_
  show Go p e below _ (T23.setTop (mkF m 138 #[.val (.long q0), .second, .val (.int p1), .val (.int p2), .val (.ref b1), .val (.ref r9), .val (.ref b1), .val (.int (1 : Int32)), .val (.int (1 : Int32)), .val (.int (1 : Int32)), .val (.int (1 : Int32)), .val (.int (1 : Int32))] []))
  refine Go.st (fun _ => XS.iload X23.here hx rfl (hb hby at_138) rfl) ?_
  show Go p e below _ (T23.setTop (mkF m 140 #[.val (.long q0), .second, .val (.int p1), .val (.int p2), .val (.ref b1), .val (.ref r9), .val (.ref b1), .val (.int (1 : Int32)), .val (.int (1 : Int32)), .val (.int (1 : Int32)), .val (.int (1 : Int32)), .val (.int (1 : Int32))] [(.int (1 : Int32))]))
  refine Go.st (fun _ => XS.ifNo X23.here hx rfl (hb hby at_140) rfl ((if0 _ _).trans (feq (by decide : ¬ ((1 : Int32) = (0 : Int32)))).1)) ?_
  show Go p e below _ (T23.setTop (mkF m 143 #[.val (.long q0), .second, .val (.int p1), .val (.int p2), .val (.ref b1), .val (.ref r9), .val (.ref b1), .val (.int (1 : Int32)), .val (.int (1 : Int32)), .val (.int (1 : Int32)), .val (.int (1 : Int32)), .val (.int (1 : Int32))] []))
  refine Go.st (fun _ => XS.iload X23.here hx rfl (hb hby at_143) rfl) ?_
  show Go p e below _ (T23.setTop (mkF m 145 #[.val (.long q0), .second, .val (.int p1), .val (.int p2), .val (.ref b1), .val (.ref r9), .val (.ref b1), .val (.int (1 : Int32)), .val (.int (1 : Int32)), .val (.int (1 : Int32)), .val (.int (1 : Int32)), .val (.int (1 : Int32))] [(.int (1 : Int32))]))
  refine Go.st (fun _ => XS.ifNo X23.here hx rfl (hb hby at_145) rfl ((if0 _ _).trans (feq (by decide : ¬ ((1 : Int32) = (0 : Int32)))).1)) ?_
  show Go p e below _ (T23.setTop (mkF m 148 #[.val (.long q0), .second, .val (.int p1), .val (.int p2), .val (.ref b1), .val (.ref r9), .val (.ref b1), .val (.int (1 : Int32)), .val (.int (1 : Int32)), .val (.int (1 : Int32)), .val (.int (1 : Int32)), .val (.int (1 : Int32))] []))
  refine Go.st (fun _ => XS.iload X23.here hx rfl (hb hby at_148) rfl) ?_
  show Go p e below _ (T23.setTop (mkF m 150 #[.val (.long q0), .second, .val (.int p1), .val (.int p2), .val (.ref b1), .val (.ref r9), .val (.ref b1), .val (.int (1 : Int32)), .val (.int (1 : Int32)), .val (.int (1 : Int32)), .val (.int (1 : Int32)), .val (.int (1 : Int32))] [(.int (1 : Int32))]))
  refine Go.st (fun _ => XS.ifNo X23.here hx rfl (hb hby at_150) rfl ((if0 _ _).trans (feq (by decide : ¬ ((1 : Int32) = (0 : Int32)))).1)) ?_
  show Go p e below _ (T23.setTop (mkF m 153 #[.val (.long q0), .second, .val (.int p1), .val (.int p2), .val (.ref b1), .val (.ref r9), .val (.ref b1), .val (.int (1 : Int32)), .val (.int (1 : Int32)), .val (.int (1 : Int32)), .val (.int (1 : Int32)), .val (.int (1 : Int32))] []))
  refine Go.st (fun _ => XS.iload X23.here hx rfl (hb hby at_153) rfl) ?_
  show Go p e below _ (T23.setTop (mkF m 155 #[.val (.long q0), .second, .val (.int p1), .val (.int p2), .val (.ref b1), .val (.ref r9), .val (.ref b1), .val (.int (1 : Int32)), .val (.int (1 : Int32)), .val (.int (1 : Int32)), .val (.int (1 : Int32)), .val (.int (1 : Int32))] [(.int (1 : Int32))]))
  refine Go.st (fun _ => XS.ifNo X23.here hx rfl (hb hby at_155) rfl ((if0 _ _).trans (feq (by decide : ¬ ((1 : Int32) = (0 : Int32)))).1)) ?_
  show Go p e below _ (T23.setTop (mkF m 158 #[.val (.long q0), .second, .val (.int p1), .val (.int p2), .val (.ref b1), .val (.ref r9), .val (.ref b1), .val (.int (1 : Int32)), .val (.int (1 : Int32)), .val (.int (1 : Int32)), .val (.int (1 : Int32)), .val (.int (1 : Int32))] []))
  refine Go.st (fun _ => XS.iconst X23.here hx rfl (hb hby at_158)) ?_
  show Go p e below _ (T23.setTop (mkF m 159 #[.val (.long q0), .second, .val (.int p1), .val (.int p2), .val (.ref b1), .val (.ref r9), .val (.ref b1), .val (.int (1 : Int32)), .val (.int (1 : Int32)), .val (.int (1 : Int32)), .val (.int (1 : Int32)), .val (.int (1 : Int32))] [(.int (1 : Int32))]))
  refine Go.st (fun _ => XS.goto X23.here hx rfl (pc0 := 159) (pc' := 163) rfl (hb hby at_159) (by decide) (by decide)) ?_
  show Go p e below _ (T23.setTop (mkF m 163 #[.val (.long q0), .second, .val (.int p1), .val (.int p2), .val (.ref b1), .val (.ref r9), .val (.ref b1), .val (.int (1 : Int32)), .val (.int (1 : Int32)), .val (.int (1 : Int32)), .val (.int (1 : Int32)), .val (.int (1 : Int32))] [(.int (1 : Int32))]))
  exact goRetN X23 hx hlk hret (t := .boolean) (by simp) (w := (1 : Int32)) (by decide) e23 (hb hby at_163) (by decide) (by decide) ⟨rfl, N23⟩
set_option maxRecDepth 65536 in
set_option maxHeartbeats 40000000 in
theorem comes_1 {Post : Tables → Env → Array Value → State → Outcome → State → Prop} (hpost : ∀ tb e args s v u, (limb_1_1.after args s (.returned v) u = true ∧ limb_1_2.after args s (.returned v) u = true ∧ True) → FrameEnd s (.returned v) u (Jvm.fieldLocs frame_1_writes args s ++ Jvm.arrayLocs frame_1_arrays args s ++ Jvm.staticLocs frame_1_statics s) 16 128 → Post tb e args s (.returned v) u) :
    ArmFor flags0 classFile x code maxLocals ret World_1 tables_1 room_1 Calls_1 rest_1 Pre_1 Post := by
  intro l hfl _ _ p e ha hc hk s m args below hf hA hF happ hP
  obtain ⟨hcalls, hrest, hpre⟩ := hP
  obtain ⟨-, -, -, hnamed, -, -, -, hat⟩ := (Spec.applies_iff hf).mp happ
  obtain ⟨hg, hn⟩ := and_e (Cond.before_iff.mp (show (Jvm.Cond.and given_1 narrow_1).before args s = true from hpre))
  obtain ⟨g1, g2⟩ := and_e hg
  obtain ⟨g3, g4⟩ := and_e g2
  obtain ⟨g5, g6⟩ := and_e g4
  obtain ⟨w0, w1, w2, rfl⟩ : ∃ w0 w1 w2 : Value, args = #[w0, w1, w2] := by
    have hs : args.size = 3 := by simpa [Cond.value, given_1] using g1
    obtain ⟨L⟩ := args
    match L, hs with
    | [w0, w1, w2], _ => exact ⟨w0, w1, w2, rfl⟩
  have hw := fun d (hd : d ∈ tables_1) => atoms_spec (ws := Jvm.Cond.code x code maxLocals ret :: tables_1) hat d (List.mem_cons_of_mem _ hd)
  have hfit : Fit s := fun {y c} hc i hi => by
    obtain ⟨ha, rfl⟩ := Array.getElem?_eq_some_iff.mp hc
    have q := List.all_eq_true.mp ((Array.all_eq_true_iff_forall_mem.mp hF) _ (Array.getElem_mem ha)) i (List.mem_range.mpr hi)
    simpa [Array.getElem?_eq_getElem hi] using q
  obtain ⟨i0, ei0⟩ := isL_v g3
  obtain rfl : w0 = (.long i0) := Option.some.inj ei0
  obtain ⟨i1, ei1⟩ := is_v g5
  obtain rfl : w1 = (.int i1) := Option.some.inj ei1
  obtain ⟨i2, ei2⟩ := is_v g6
  obtain rfl : w2 = (.int i2) := Option.some.inj ei2
  obtain ⟨w_DONE, ev_DONE⟩ := exa_v hn
  have S_w_DONE := Sta.start ev_DONE (Or.inr ⟨(hw _ (List.mem_of_getElem? (i := 27) rfl)), (hw _ (List.mem_of_getElem? (i := 28) rfl))⟩)
  have E_w_DONE := Exa.start ev_DONE hn
  obtain ⟨n, o, h1, h2, h3, _, L, rfl, ⟨rfl, N⟩, hq⟩ := rm0 l s _ hw tables_1 i0 i1 i2 w_DONE s.heap s.heap.size (Old.start s) S_w_DONE p e ha hc hk s m _ below hf ((Spec.applies_iff_loose hf).mp happ).1 ⟨rfl, State.Warmed39.refl s, rfl⟩ trivial
  refine ⟨n, _, h1, h2, h3, hpost _ _ _ _ _ _ ⟨Cond.after_iff.mpr rfl, Cond.after_iff.mpr (eq_i res_at (Term.int_eval (1)) rfl), trivial⟩ ⟨hq.1, hq.2.1, (hq.2.2.sift fun y hy => Or.inr (N y hy)).mono (by decide) (by decide)⟩⟩
theorem main_1_1 : Claimed_1_1 := comes_1 fun _ _ _ _ _ _ h hF => ⟨h.1, hF⟩
theorem main_1_2 : Claimed_1_2 := comes_1 fun _ _ _ _ _ _ h hF => ⟨h.2.1, hF⟩
end Jvm.Pilot.@@N@@
namespace Jvm.Pilot.@@N@@
open Jvm Jvm.ClassFile Sem Op Lib Jvm.Free Jvm.Stand Jvm.Pilot.@@N@@.Jvm.D
/-! MADE BY PROGRAM (witnessworld.py) out of the Statement's table words and the real class files: 15 classes; the members and pool entries that the words name. The judged class is class 1, her method 1. -/
namespace start1
open Jvm.ClassFile
def u (s : String) : CpInfo := .utf8 (stringToUtf16 s)
/-- a pool by its gaps: so many unusable entries, then the entry; so many at the end -/
def gap : Nat → List CpInfo → List CpInfo
  | 0, r => r
  | n + 1, r => .unusable :: gap n r
def poolList (es : List (Nat × CpInfo)) (last : Nat) : List CpInfo := es.foldr (fun e r => gap e.1 (e.2 :: r)) (gap last [])
def pool (es : List (Nat × CpInfo)) (last : Nat) : Array CpInfo := ⟨poolList es last⟩
def fileOf (pool : Array CpInfo) (this : Nat) (attrs : Array Attribute := #[]) (ms : Array MethodInfo := #[]) (fl : Nat := 33) (sup : Nat := 0) (ifs : Array Nat := #[]) (fds : Array FieldInfo := #[]) : ClassFile where
  minorVersion := 0
  majorVersion := 65
  constantPool := pool
  accessFlags := fl
  thisClass := this
  superClass := sup
  interfaces := ifs
  fields := fds
  methods := ms
  attributes := attrs
def plain (name : String) (sup : Option ClassId) : Class where
  name := name
  kind := .ordinary
  loader := none
  accessFlags := 33
  super := sup
  interfaces := #[]
  cf := none
  fields := #[]
  methods := #[]
  instanceTypes := #[]
  staticTypes := #[]
  resolved := #[]
  callSites := []
  init := .initialized
  statics := none
  mirror := none

def pool0 : Array CpInfo := pool [(5, u "<init>"), (0, u "()V"), (1, .class_ 10), (1, u "java/lang/Object")] 113

def k0c0 : Code := { maxStack := 0, maxLocals := 1, code := object_method_1_code, exceptionTable := #[], attributes := #[] }
def k0m0 : Method := { name := "<init>", desc := "()V", sig := { parameters := [], returnType := none }, accessFlags := 1, code := some k0c0 }
/-- java/lang/Object -/
def k0 : Class := { plain "java/lang/Object" none with
  accessFlags := 33
  interfaces := #[]
  cf := some (fileOf pool0 8 #[] #[{ accessFlags := 1, nameIndex := 5, descriptorIndex := 6, attributes := #[] }] 33 0 #[] #[])
  fields := #[]
  methods := #[k0m0]
  instanceTypes := #[]
  staticTypes := #[]
  resolved := Array.replicate 124 none
  statics := none }

def pool1 : Array CpInfo := pool [(2, .class_ 4), (1, u "java/lang/Object"), (0, u "<init>"), (0, u "()V"), (0, .class_ 8), (0, u "com/example/vittoria/vittoria/JobTable$Call"), (0, .methodref 7 10), (0, .nameAndType 5 11), (0, u "(JII)V"), (0, .methodref 13 14), (0, .class_ 15), (0, .nameAndType 16 17), (0, u "com/example/vittoria/vittoria/JobTable$Outcome"), (0, u "done"), (0, u "(Lcom/example/vittoria/vittoria/JobTable$Call;)Lcom/example/vittoria/vittoria/JobTable$Outcome;"), (0, .methodref 13 19), (0, .nameAndType 20 21), (0, u "call"), (0, u "()Lcom/example/vittoria/vittoria/JobTable$Call;"), (0, .methodref 7 23), (0, .nameAndType 24 25), (0, u "id"), (0, u "()J"), (0, .methodref 7 27), (0, .nameAndType 28 29), (0, u "attempt"), (0, u "()I"), (0, .methodref 7 31), (0, .nameAndType 32 29), (0, u "replayedAttempts"), (0, .methodref 13 34), (0, .nameAndType 35 36), (0, u "status"), (0, u "()Lcom/example/vittoria/vittoria/JobStatus;"), (0, .fieldref 38 39), (0, .class_ 40), (0, .nameAndType 41 42), (0, u "com/example/vittoria/vittoria/JobStatus"), (0, u "DONE"), (0, u "Lcom/example/vittoria/vittoria/JobStatus;"), (0, .methodref 13 44), (0, .nameAndType 45 46), (0, u "error"), (0, u "()Ljava/lang/String;"), (0, .methodref 13 48), (0, .nameAndType 49 50), (0, u "retryDelay"), (0, u "()Ljava/time/Duration;"), (0, .methodref 13 23), (0, .class_ 53), (0, u "com/example/vittoria/vittoria/OutcomeDonePinLaw"), (2, u "law"), (0, u "(JII)Z")] 8

def k1m0 : Method := { name := "<init>", desc := "()V", sig := { parameters := [], returnType := none }, accessFlags := 2, code := none }
def k1c1 : Code := { maxStack := 6, maxLocals := 12, code := code, exceptionTable := #[], attributes := #[] }
def k1m1 : Method := { name := "law", desc := "(JII)Z", sig := { parameters := [.long, .int, .int], returnType := some .boolean }, accessFlags := 9, code := some k1c1 }
/-- com/example/vittoria/vittoria/OutcomeDonePinLaw -/
def k1 : Class := { plain "com/example/vittoria/vittoria/OutcomeDonePinLaw" (some 0) with
  accessFlags := 49
  interfaces := #[]
  cf := some (fileOf pool1 52 #[] #[{ accessFlags := 2, nameIndex := 5, descriptorIndex := 6, attributes := #[] }, { accessFlags := 9, nameIndex := 56, descriptorIndex := 57, attributes := #[] }] 49 2 #[] #[])
  fields := #[]
  methods := #[k1m0, k1m1]
  instanceTypes := #[]
  staticTypes := #[]
  resolved := Array.replicate 66 none
  statics := none }

def pool2 : Array CpInfo := pool [(1, .methodref 2 3), (0, .class_ 4), (0, .nameAndType 5 6), (0, u "java/lang/Object"), (0, u "<init>"), (0, u "()V"), (0, .class_ 8), (0, u "java/lang/Record")] 13

def k2c0 : Code := { maxStack := 1, maxLocals := 1, code := jdk_30_method_1_code, exceptionTable := #[], attributes := #[] }
def k2m0 : Method := { name := "<init>", desc := "()V", sig := { parameters := [], returnType := none }, accessFlags := 4, code := some k2c0 }
/-- java/lang/Record -/
def k2 : Class := { plain "java/lang/Record" (some 0) with
  accessFlags := 1057
  interfaces := #[]
  cf := some (fileOf pool2 7 #[] #[{ accessFlags := 4, nameIndex := 5, descriptorIndex := 6, attributes := #[] }] 1057 2 #[] #[])
  fields := #[]
  methods := #[k2m0]
  instanceTypes := #[]
  staticTypes := #[]
  resolved := Array.replicate 22 none
  statics := none }

def pool3 : Array CpInfo := pool [(1, .methodref 2 3), (0, .class_ 4), (0, .nameAndType 5 6), (0, u "java/lang/Record"), (0, u "<init>"), (0, u "()V"), (0, .fieldref 8 9), (0, .class_ 10), (0, .nameAndType 11 12), (0, u "com/example/vittoria/vittoria/JobTable$Call"), (0, u "id"), (0, u "J"), (0, .fieldref 8 14), (0, .nameAndType 15 16), (0, u "attempt"), (0, u "I"), (0, .fieldref 8 18), (0, .nameAndType 19 16), (0, u "replayedAttempts"), (12, u "(JII)V"), (4, u "()I"), (1, u "()J"), (3, .class_ 44), (0, u "com/example/vittoria/vittoria/JobTable")] 21

def k3c0 : Code := { maxStack := 3, maxLocals := 5, code := prog_20_method_1_code, exceptionTable := #[], attributes := #[] }
def k3m0 : Method := { name := "<init>", desc := "(JII)V", sig := { parameters := [.long, .int, .int], returnType := none }, accessFlags := 0, code := some k3c0 }
def k3c1 : Code := { maxStack := 2, maxLocals := 1, code := prog_20_method_5_code, exceptionTable := #[], attributes := #[] }
def k3m1 : Method := { name := "id", desc := "()J", sig := { parameters := [], returnType := some .long }, accessFlags := 1, code := some k3c1 }
def k3c2 : Code := { maxStack := 1, maxLocals := 1, code := prog_20_method_6_code, exceptionTable := #[], attributes := #[] }
def k3m2 : Method := { name := "attempt", desc := "()I", sig := { parameters := [], returnType := some .int }, accessFlags := 1, code := some k3c2 }
def k3c3 : Code := { maxStack := 1, maxLocals := 1, code := prog_20_method_7_code, exceptionTable := #[], attributes := #[] }
def k3m3 : Method := { name := "replayedAttempts", desc := "()I", sig := { parameters := [], returnType := some .int }, accessFlags := 1, code := some k3c3 }
/-- com/example/vittoria/vittoria/JobTable$Call -/
def k3 : Class := { plain "com/example/vittoria/vittoria/JobTable$Call" (some 2) with
  accessFlags := 48
  interfaces := #[]
  cf := some (fileOf pool3 8 #[.nestHost 43] #[{ accessFlags := 0, nameIndex := 5, descriptorIndex := 32, attributes := #[] }, { accessFlags := 1, nameIndex := 11, descriptorIndex := 39, attributes := #[] }, { accessFlags := 1, nameIndex := 15, descriptorIndex := 37, attributes := #[] }, { accessFlags := 1, nameIndex := 19, descriptorIndex := 37, attributes := #[] }] 48 2 #[] #[{ accessFlags := 18, nameIndex := 11, descriptorIndex := 12, attributes := #[] }, { accessFlags := 18, nameIndex := 15, descriptorIndex := 16, attributes := #[] }, { accessFlags := 18, nameIndex := 19, descriptorIndex := 16, attributes := #[] }])
  fields := #[{ name := "id", type := .long, accessFlags := 18, slot := 0, constantValue := 0 }, { name := "attempt", type := .int, accessFlags := 18, slot := 1, constantValue := 0 }, { name := "replayedAttempts", type := .int, accessFlags := 18, slot := 2, constantValue := 0 }]
  methods := #[k3m0, k3m1, k3m2, k3m3]
  instanceTypes := #[.long, .int, .int]
  staticTypes := #[]
  resolved := Array.replicate 66 none
  statics := none }

def pool4 : Array CpInfo := pool [(1, .methodref 2 3), (0, .class_ 4), (0, .nameAndType 5 6), (0, u "java/lang/Record"), (0, u "<init>"), (0, u "()V"), (0, .fieldref 8 9), (0, .class_ 10), (0, .nameAndType 11 12), (0, u "com/example/vittoria/vittoria/JobTable$Outcome"), (0, u "call"), (0, u "Lcom/example/vittoria/vittoria/JobTable$Call;"), (0, .fieldref 8 14), (0, .nameAndType 15 16), (0, u "status"), (0, u "Lcom/example/vittoria/vittoria/JobStatus;"), (0, .fieldref 8 18), (0, .nameAndType 19 20), (0, u "error"), (0, u "Ljava/lang/String;"), (0, .fieldref 8 22), (0, .nameAndType 23 24), (0, u "retryDelay"), (0, u "Ljava/time/Duration;"), (0, .fieldref 26 27), (0, .class_ 28), (0, .nameAndType 29 16), (0, u "com/example/vittoria/vittoria/JobStatus"), (0, u "DONE"), (0, .methodref 8 31), (0, .nameAndType 5 32), (0, u "(Lcom/example/vittoria/vittoria/JobTable$Call;Lcom/example/vittoria/vittoria/JobStatus;Ljava/lang/String;Ljava/time/Duration;)V"), (10, .methodref 44 45), (0, .class_ 46), (0, .nameAndType 47 48), (0, u "com/example/vittoria/vittoria/JobTable$Call"), (0, u "id"), (0, u "()J"), (22, u "done"), (0, u "(Lcom/example/vittoria/vittoria/JobTable$Call;)Lcom/example/vittoria/vittoria/JobTable$Outcome;"), (4, u "()Ljava/lang/String;"), (2, u "()Lcom/example/vittoria/vittoria/JobTable$Call;"), (0, u "()Lcom/example/vittoria/vittoria/JobStatus;"), (0, u "()Ljava/time/Duration;"), (3, .class_ 87), (0, u "com/example/vittoria/vittoria/JobTable")] 23

def k4c0 : Code := { maxStack := 2, maxLocals := 5, code := prog_25_method_1_code, exceptionTable := #[], attributes := #[] }
def k4m0 : Method := { name := "<init>", desc := "(Lcom/example/vittoria/vittoria/JobTable$Call;Lcom/example/vittoria/vittoria/JobStatus;Ljava/lang/String;Ljava/time/Duration;)V", sig := { parameters := [(.object "com/example/vittoria/vittoria/JobTable$Call"), (.object "com/example/vittoria/vittoria/JobStatus"), (.object "java/lang/String"), (.object "java/time/Duration")], returnType := none }, accessFlags := 0, code := some k4c0 }
def k4c1 : Code := { maxStack := 6, maxLocals := 1, code := prog_25_method_2_code, exceptionTable := #[], attributes := #[] }
def k4m1 : Method := { name := "done", desc := "(Lcom/example/vittoria/vittoria/JobTable$Call;)Lcom/example/vittoria/vittoria/JobTable$Outcome;", sig := { parameters := [(.object "com/example/vittoria/vittoria/JobTable$Call")], returnType := some (.object "com/example/vittoria/vittoria/JobTable$Outcome") }, accessFlags := 8, code := some k4c1 }
def k4c2 : Code := { maxStack := 2, maxLocals := 1, code := prog_25_method_5_code, exceptionTable := #[], attributes := #[] }
def k4m2 : Method := { name := "id", desc := "()J", sig := { parameters := [], returnType := some .long }, accessFlags := 0, code := some k4c2 }
def k4c3 : Code := { maxStack := 1, maxLocals := 1, code := prog_25_method_10_code, exceptionTable := #[], attributes := #[] }
def k4m3 : Method := { name := "call", desc := "()Lcom/example/vittoria/vittoria/JobTable$Call;", sig := { parameters := [], returnType := some (.object "com/example/vittoria/vittoria/JobTable$Call") }, accessFlags := 1, code := some k4c3 }
def k4c4 : Code := { maxStack := 1, maxLocals := 1, code := prog_25_method_11_code, exceptionTable := #[], attributes := #[] }
def k4m4 : Method := { name := "status", desc := "()Lcom/example/vittoria/vittoria/JobStatus;", sig := { parameters := [], returnType := some (.object "com/example/vittoria/vittoria/JobStatus") }, accessFlags := 1, code := some k4c4 }
def k4c5 : Code := { maxStack := 1, maxLocals := 1, code := prog_25_method_12_code, exceptionTable := #[], attributes := #[] }
def k4m5 : Method := { name := "error", desc := "()Ljava/lang/String;", sig := { parameters := [], returnType := some (.object "java/lang/String") }, accessFlags := 1, code := some k4c5 }
def k4c6 : Code := { maxStack := 1, maxLocals := 1, code := prog_25_method_13_code, exceptionTable := #[], attributes := #[] }
def k4m6 : Method := { name := "retryDelay", desc := "()Ljava/time/Duration;", sig := { parameters := [], returnType := some (.object "java/time/Duration") }, accessFlags := 1, code := some k4c6 }
/-- com/example/vittoria/vittoria/JobTable$Outcome -/
def k4 : Class := { plain "com/example/vittoria/vittoria/JobTable$Outcome" (some 2) with
  accessFlags := 48
  interfaces := #[]
  cf := some (fileOf pool4 8 #[.nestHost 86] #[{ accessFlags := 0, nameIndex := 5, descriptorIndex := 32, attributes := #[] }, { accessFlags := 8, nameIndex := 71, descriptorIndex := 72, attributes := #[] }, { accessFlags := 0, nameIndex := 47, descriptorIndex := 48, attributes := #[] }, { accessFlags := 1, nameIndex := 11, descriptorIndex := 80, attributes := #[] }, { accessFlags := 1, nameIndex := 15, descriptorIndex := 81, attributes := #[] }, { accessFlags := 1, nameIndex := 19, descriptorIndex := 77, attributes := #[] }, { accessFlags := 1, nameIndex := 23, descriptorIndex := 82, attributes := #[] }] 48 2 #[] #[{ accessFlags := 18, nameIndex := 11, descriptorIndex := 12, attributes := #[] }, { accessFlags := 18, nameIndex := 15, descriptorIndex := 16, attributes := #[] }, { accessFlags := 18, nameIndex := 19, descriptorIndex := 20, attributes := #[] }, { accessFlags := 18, nameIndex := 23, descriptorIndex := 24, attributes := #[] }])
  fields := #[{ name := "call", type := (.object "com/example/vittoria/vittoria/JobTable$Call"), accessFlags := 18, slot := 0, constantValue := 0 }, { name := "status", type := (.object "com/example/vittoria/vittoria/JobStatus"), accessFlags := 18, slot := 1, constantValue := 0 }, { name := "error", type := (.object "java/lang/String"), accessFlags := 18, slot := 2, constantValue := 0 }, { name := "retryDelay", type := (.object "java/time/Duration"), accessFlags := 18, slot := 3, constantValue := 0 }]
  methods := #[k4m0, k4m1, k4m2, k4m3, k4m4, k4m5, k4m6]
  instanceTypes := #[(.object "com/example/vittoria/vittoria/JobTable$Call"), (.object "com/example/vittoria/vittoria/JobStatus"), (.object "java/lang/String"), (.object "java/time/Duration")]
  staticTypes := #[]
  resolved := Array.replicate 111 none
  statics := none }

def pool5 : Array CpInfo := pool [(1, .class_ 2), (0, u "java/lang/constant/Constable"), (0, .class_ 4), (0, u "java/lang/Object")] 6

/-- java/lang/constant/Constable -/
def k5 : Class := { plain "java/lang/constant/Constable" (some 0) with
  accessFlags := 1537
  interfaces := #[]
  cf := some (fileOf pool5 1 #[] #[] 1537 3 #[] #[])
  fields := #[]
  methods := #[]
  instanceTypes := #[]
  staticTypes := #[]
  resolved := Array.replicate 11 none
  statics := none }

def pool6 : Array CpInfo := pool [(1, .class_ 2), (0, u "java/lang/Comparable"), (0, .class_ 4), (0, u "java/lang/Object")] 7

/-- java/lang/Comparable -/
def k6 : Class := { plain "java/lang/Comparable" (some 0) with
  accessFlags := 1537
  interfaces := #[]
  cf := some (fileOf pool6 1 #[] #[] 1537 3 #[] #[])
  fields := #[]
  methods := #[]
  instanceTypes := #[]
  staticTypes := #[]
  resolved := Array.replicate 12 none
  statics := none }

def pool7 : Array CpInfo := pool [(1, .class_ 2), (0, u "java/io/Serializable"), (0, .class_ 4), (0, u "java/lang/Object")] 2

/-- java/io/Serializable -/
def k7 : Class := { plain "java/io/Serializable" (some 0) with
  accessFlags := 1537
  interfaces := #[]
  cf := some (fileOf pool7 1 #[] #[] 1537 3 #[] #[])
  fields := #[]
  methods := #[]
  instanceTypes := #[]
  staticTypes := #[]
  resolved := Array.replicate 7 none
  statics := none }

def pool8 : Array CpInfo := pool [(2, .class_ 4), (1, u "java/lang/Enum"), (0, u "name"), (0, u "Ljava/lang/String;"), (2, u "ordinal"), (0, u "I"), (1, .class_ 14), (1, u "java/lang/Object"), (4, u "hash"), (86, .class_ 108), (1, u "java/lang/Enum$EnumDesc"), (2, .class_ 112), (0, u "java/lang/constant/Constable"), (0, .class_ 114), (0, u "java/lang/Comparable"), (0, .class_ 116), (0, u "java/io/Serializable")] 87

/-- java/lang/Enum -/
def k8 : Class := { plain "java/lang/Enum" (some 0) with
  accessFlags := 1057
  interfaces := #[5, 6, 7]
  cf := some (fileOf pool8 2 #[.nestMembers #[106]] #[] 1057 12 #[111, 113, 115] #[{ accessFlags := 18, nameIndex := 5, descriptorIndex := 6, attributes := #[] }, { accessFlags := 18, nameIndex := 9, descriptorIndex := 10, attributes := #[] }, { accessFlags := 2, nameIndex := 19, descriptorIndex := 10, attributes := #[] }])
  fields := #[{ name := "name", type := (.object "java/lang/String"), accessFlags := 18, slot := 0, constantValue := 0 }, { name := "ordinal", type := .int, accessFlags := 18, slot := 1, constantValue := 0 }, { name := "hash", type := .int, accessFlags := 2, slot := 2, constantValue := 0 }]
  methods := #[]
  instanceTypes := #[(.object "java/lang/String"), .int, .int]
  staticTypes := #[]
  resolved := Array.replicate 204 none
  statics := none }

def pool9 : Array CpInfo := pool [(1, .class_ 2), (0, u "com/example/vittoria/vittoria/JobStatus"), (2, u "PENDING"), (0, u "Lcom/example/vittoria/vittoria/JobStatus;"), (2, u "QUEUED"), (2, u "PROCESSING"), (2, u "RETRYING"), (2, u "DONE"), (2, u "DEAD"), (2, u "$VALUES"), (0, u "[Lcom/example/vittoria/vittoria/JobStatus;"), (6, .class_ 34), (1, u "java/lang/Enum")] 28

/-- com/example/vittoria/vittoria/JobStatus -/
def k9 : Class := { plain "com/example/vittoria/vittoria/JobStatus" (some 8) with
  accessFlags := 16433
  interfaces := #[]
  cf := some (fileOf pool9 1 #[] #[] 16433 32 #[] #[{ accessFlags := 16409, nameIndex := 5, descriptorIndex := 6, attributes := #[] }, { accessFlags := 16409, nameIndex := 9, descriptorIndex := 6, attributes := #[] }, { accessFlags := 16409, nameIndex := 12, descriptorIndex := 6, attributes := #[] }, { accessFlags := 16409, nameIndex := 15, descriptorIndex := 6, attributes := #[] }, { accessFlags := 16409, nameIndex := 18, descriptorIndex := 6, attributes := #[] }, { accessFlags := 16409, nameIndex := 21, descriptorIndex := 6, attributes := #[] }, { accessFlags := 4122, nameIndex := 24, descriptorIndex := 25, attributes := #[] }])
  fields := #[{ name := "PENDING", type := (.object "com/example/vittoria/vittoria/JobStatus"), accessFlags := 16409, slot := 0, constantValue := 0 }, { name := "QUEUED", type := (.object "com/example/vittoria/vittoria/JobStatus"), accessFlags := 16409, slot := 1, constantValue := 0 }, { name := "PROCESSING", type := (.object "com/example/vittoria/vittoria/JobStatus"), accessFlags := 16409, slot := 2, constantValue := 0 }, { name := "RETRYING", type := (.object "com/example/vittoria/vittoria/JobStatus"), accessFlags := 16409, slot := 3, constantValue := 0 }, { name := "DONE", type := (.object "com/example/vittoria/vittoria/JobStatus"), accessFlags := 16409, slot := 4, constantValue := 0 }, { name := "DEAD", type := (.object "com/example/vittoria/vittoria/JobStatus"), accessFlags := 16409, slot := 5, constantValue := 0 }, { name := "$VALUES", type := (.array (.object "com/example/vittoria/vittoria/JobStatus")), accessFlags := 4122, slot := 6, constantValue := 0 }]
  methods := #[]
  instanceTypes := #[(.object "java/lang/String"), .int, .int]
  staticTypes := #[(.object "com/example/vittoria/vittoria/JobStatus"), (.object "com/example/vittoria/vittoria/JobStatus"), (.object "com/example/vittoria/vittoria/JobStatus"), (.object "com/example/vittoria/vittoria/JobStatus"), (.object "com/example/vittoria/vittoria/JobStatus"), (.object "com/example/vittoria/vittoria/JobStatus"), (.array (.object "com/example/vittoria/vittoria/JobStatus"))]
  resolved := Array.replicate 63 none
  statics := some 0 }

def pool10 : Array CpInfo := pool [(1, u "java/lang/Cloneable"), (0, .class_ 1), (0, u "java/lang/Object"), (0, .class_ 3)] 3

/-- java/lang/Cloneable -/
def k10 : Class := { plain "java/lang/Cloneable" (some 0) with
  accessFlags := 1537
  interfaces := #[]
  cf := some (fileOf pool10 2 #[] #[] 1537 4 #[] #[])
  fields := #[]
  methods := #[]
  instanceTypes := #[]
  staticTypes := #[]
  resolved := Array.replicate 8 none
  statics := none }

/-- the primitive byte -/
def k11 : Class := { plain "byte" none with kind := .primitive 'B', accessFlags := 0x411 }
/-- [B -/
def k12 : Class := { plain "[B" (some 0) with kind := .array 11 .byte, interfaces := #[10, 7], accessFlags := 1041 }

/-- the primitive int -/
def k13 : Class := { plain "int" none with kind := .primitive 'I', accessFlags := 0x411 }
/-- [I -/
def k14 : Class := { plain "[I" (some 0) with kind := .array 13 .int, interfaces := #[10, 7], accessFlags := 1041 }

def heap : Heap := #[{ cls := 9, slots := #[.null, .null, .null, .null, .ref 1, .null, .null], vm := .statics 9 },
  { cls := 9, slots := #[.null, .int 0, .int 0], vm := .none }]
def classes : Array Class := #[k0, k1, k2, k3, k4, k5, k6, k7, k8, k9, k10, k11, k12, k13, k14]
def interned : List (Array UInt16 × Addr) := []
def slotsUsed : Nat := 10
def theMethod : MethodId := ⟨1, 1⟩
def args0 : Array Value := #[.long 5, .int 4, .int 4]
def aboutOver (below : List Frame) : State where
  vm := { classes := classes, interned := interned.toArray }
  heap := heap
  slotsUsed := slotsUsed
  threads := #[{ frames := .invoking theMethod args0 :: below }]
def below0 : List Frame := [.native { method := ⟨0, 0⟩, args := #[] }]
def about1 : State := aboutOver below0
def p0 : Program := .bare "" "" ""
def e0 : Env := launch0.env 0 0 0
theorem w_frames : about1.frames = Frame.invoking theMethod args0 :: below0 := rfl
set_option maxRecDepth 65536 in
theorem w_args : argsFit about1.vm theMethod args0 = true := by decide +kernel
set_option maxRecDepth 65536 in
theorem w_heap : heapFits about1 = true := by decide +kernel
set_option maxRecDepth 65536 in
theorem w_runnable : about1.curStatus? = some .runnable := by decide +kernel
set_option maxRecDepth 65536 in
theorem w_alone : about1.alone = true := by decide +kernel
set_option maxRecDepth 65536 in
theorem w_named : about1.methodNamed? x = some theMethod := by decide +kernel
set_option maxRecDepth 65536 in
theorem w_hears : about1.hears theMethod below0 = true := by decide +kernel
set_option maxRecDepth 65536 in
theorem w_ripe : about1.ripe theMethod args0 below0 = true := by decide +kernel
theorem w_running : about1.status = .running := rfl
set_option maxRecDepth 65536 in
theorem w_room : about1.hasRoom e0.platform room_1 = true :=
  launch0.hasRoom_least _ room_1 (by decide +kernel) (by decide +kernel) (by decide +kernel) (by decide +kernel) (by decide +kernel) (by decide +kernel)
theorem allAtoms_all (ts : List Jvm.Cond) (a : Array Jvm.Value) (st : Jvm.State) : (allAtoms ts).before a st = ts.all (fun c => c.before a st) := by
  induction ts with
  | nil => rfl
  | cons c t ih =>
    show (Jvm.Cond.and c (allAtoms t)).before a st = _
    rw [Jvm.Cond.before_and, ih, List.all_cons]
def words1 : List Jvm.Cond := Jvm.Cond.code x code maxLocals ret :: tables_1
/-- a 'code' word, met by the world's own term for the bytes: nothing is compared byte by byte -/
theorem code_word {y : MethodName} {bytes : ByteArray} {mx : Nat} {rt : Option FieldType} {a : Array Value} {s : State} {m : MethodId} {meth : Method} {c : Code} (h1 : s.methodNamed? y = some m) (h2 : s.vm.method? m = some meth) (h3 : meth.code = some c) (h4 : c.code = bytes)
    (h5 : (c.maxLocals == mx && c.exceptionTable.isEmpty && decide (c.maxStack ≤ mostOperands) && decide (meth.sig.returnType = rt) && !meth.locks && decide (parseMethodDescriptor y.desc = some meth.sig)) = true) : (Jvm.Cond.code y bytes mx rt).before a s = true := by
  simp only [Bool.and_eq_true, beq_iff_eq, Bool.not_eq_true', decide_eq_true_eq] at h5
  obtain ⟨⟨⟨⟨⟨g1, g2⟩, g3⟩, g4⟩, g5⟩, g6⟩ := h5
  simp [Cond.before, Cond.holds, Cond.value, h1, h2, h3, h4, g1, g2, g3, g4, g5, g6]
def isCode : Jvm.Cond → Bool
  | .code _ _ _ _ => true
  | _ => false
theorem all_split {L : List Jvm.Cond} {P : Jvm.Cond → Bool} (h1 : L.all (fun c => isCode c || P c) = true) (h2 : ∀ c ∈ L.filter isCode, P c = true) : L.all P = true := by
  refine List.all_eq_true.mpr fun c hc => ?_
  have h := List.all_eq_true.mp h1 c hc
  rcases Bool.eq_false_or_eq_true (isCode c) with hi | hi
  · exact h2 c (List.mem_filter.mpr ⟨hc, hi⟩)
  · simpa [hi] using h
set_option maxRecDepth 65536 in
theorem w_c0 : (Jvm.Cond.code x code maxLocals ret).before args0 about1 = true := code_word (m := ⟨1, 1⟩) (meth := k1m1) (c := k1c1) (by decide +kernel) rfl rfl rfl (by decide +kernel)
set_option maxRecDepth 65536 in
theorem w_c1 : (Jvm.Cond.code ({ cls := "com/example/vittoria/vittoria/JobTable$Call", name := "<init>", desc := "(JII)V" } : Jvm.MethodName) prog_20_method_1_code (5 : Nat) (Option.none : Option Jvm.ClassFile.FieldType)).before args0 about1 = true := code_word (m := ⟨3, 0⟩) (meth := k3m0) (c := k3c0) (by decide +kernel) rfl rfl rfl (by decide +kernel)
set_option maxRecDepth 65536 in
theorem w_c2 : (Jvm.Cond.code ({ cls := "java/lang/Record", name := "<init>", desc := "()V" } : Jvm.MethodName) jdk_30_method_1_code (1 : Nat) (Option.none : Option Jvm.ClassFile.FieldType)).before args0 about1 = true := code_word (m := ⟨2, 0⟩) (meth := k2m0) (c := k2c0) (by decide +kernel) rfl rfl rfl (by decide +kernel)
set_option maxRecDepth 65536 in
theorem w_c3 : (Jvm.Cond.code ({ cls := "java/lang/Object", name := "<init>", desc := "()V" } : Jvm.MethodName) object_method_1_code (1 : Nat) (Option.none : Option Jvm.ClassFile.FieldType)).before args0 about1 = true := code_word (m := ⟨0, 0⟩) (meth := k0m0) (c := k0c0) (by decide +kernel) rfl rfl rfl (by decide +kernel)
set_option maxRecDepth 65536 in
theorem w_c4 : (Jvm.Cond.code ({ cls := "com/example/vittoria/vittoria/JobTable$Outcome", name := "done", desc := "(Lcom/example/vittoria/vittoria/JobTable$Call;)Lcom/example/vittoria/vittoria/JobTable$Outcome;" } : Jvm.MethodName) prog_25_method_2_code (1 : Nat) (Option.some (Jvm.ClassFile.FieldType.object "com/example/vittoria/vittoria/JobTable$Outcome"))).before args0 about1 = true := code_word (m := ⟨4, 1⟩) (meth := k4m1) (c := k4c1) (by decide +kernel) rfl rfl rfl (by decide +kernel)
set_option maxRecDepth 65536 in
theorem w_c5 : (Jvm.Cond.code ({ cls := "com/example/vittoria/vittoria/JobTable$Outcome", name := "<init>", desc := "(Lcom/example/vittoria/vittoria/JobTable$Call;Lcom/example/vittoria/vittoria/JobStatus;Ljava/lang/String;Ljava/time/Duration;)V" } : Jvm.MethodName) prog_25_method_1_code (5 : Nat) (Option.none : Option Jvm.ClassFile.FieldType)).before args0 about1 = true := code_word (m := ⟨4, 0⟩) (meth := k4m0) (c := k4c0) (by decide +kernel) rfl rfl rfl (by decide +kernel)
set_option maxRecDepth 65536 in
theorem w_c6 : (Jvm.Cond.code ({ cls := "com/example/vittoria/vittoria/JobTable$Outcome", name := "call", desc := "()Lcom/example/vittoria/vittoria/JobTable$Call;" } : Jvm.MethodName) prog_25_method_10_code (1 : Nat) (Option.some (Jvm.ClassFile.FieldType.object "com/example/vittoria/vittoria/JobTable$Call"))).before args0 about1 = true := code_word (m := ⟨4, 3⟩) (meth := k4m3) (c := k4c3) (by decide +kernel) rfl rfl rfl (by decide +kernel)
set_option maxRecDepth 65536 in
theorem w_c7 : (Jvm.Cond.code ({ cls := "com/example/vittoria/vittoria/JobTable$Call", name := "id", desc := "()J" } : Jvm.MethodName) prog_20_method_5_code (1 : Nat) (Option.some Jvm.ClassFile.FieldType.long)).before args0 about1 = true := code_word (m := ⟨3, 1⟩) (meth := k3m1) (c := k3c1) (by decide +kernel) rfl rfl rfl (by decide +kernel)
set_option maxRecDepth 65536 in
theorem w_c8 : (Jvm.Cond.code ({ cls := "com/example/vittoria/vittoria/JobTable$Call", name := "attempt", desc := "()I" } : Jvm.MethodName) prog_20_method_6_code (1 : Nat) (Option.some Jvm.ClassFile.FieldType.int)).before args0 about1 = true := code_word (m := ⟨3, 2⟩) (meth := k3m2) (c := k3c2) (by decide +kernel) rfl rfl rfl (by decide +kernel)
set_option maxRecDepth 65536 in
theorem w_c9 : (Jvm.Cond.code ({ cls := "com/example/vittoria/vittoria/JobTable$Call", name := "replayedAttempts", desc := "()I" } : Jvm.MethodName) prog_20_method_7_code (1 : Nat) (Option.some Jvm.ClassFile.FieldType.int)).before args0 about1 = true := code_word (m := ⟨3, 3⟩) (meth := k3m3) (c := k3c3) (by decide +kernel) rfl rfl rfl (by decide +kernel)
set_option maxRecDepth 65536 in
theorem w_c10 : (Jvm.Cond.code ({ cls := "com/example/vittoria/vittoria/JobTable$Outcome", name := "status", desc := "()Lcom/example/vittoria/vittoria/JobStatus;" } : Jvm.MethodName) prog_25_method_11_code (1 : Nat) (Option.some (Jvm.ClassFile.FieldType.object "com/example/vittoria/vittoria/JobStatus"))).before args0 about1 = true := code_word (m := ⟨4, 4⟩) (meth := k4m4) (c := k4c4) (by decide +kernel) rfl rfl rfl (by decide +kernel)
set_option maxRecDepth 65536 in
theorem w_c11 : (Jvm.Cond.code ({ cls := "com/example/vittoria/vittoria/JobTable$Outcome", name := "error", desc := "()Ljava/lang/String;" } : Jvm.MethodName) prog_25_method_12_code (1 : Nat) (Option.some (Jvm.ClassFile.FieldType.object "java/lang/String"))).before args0 about1 = true := code_word (m := ⟨4, 5⟩) (meth := k4m5) (c := k4c5) (by decide +kernel) rfl rfl rfl (by decide +kernel)
set_option maxRecDepth 65536 in
theorem w_c12 : (Jvm.Cond.code ({ cls := "com/example/vittoria/vittoria/JobTable$Outcome", name := "retryDelay", desc := "()Ljava/time/Duration;" } : Jvm.MethodName) prog_25_method_13_code (1 : Nat) (Option.some (Jvm.ClassFile.FieldType.object "java/time/Duration"))).before args0 about1 = true := code_word (m := ⟨4, 6⟩) (meth := k4m6) (c := k4c6) (by decide +kernel) rfl rfl rfl (by decide +kernel)
set_option maxRecDepth 65536 in
theorem w_c13 : (Jvm.Cond.code ({ cls := "com/example/vittoria/vittoria/JobTable$Outcome", name := "id", desc := "()J" } : Jvm.MethodName) prog_25_method_5_code (1 : Nat) (Option.some Jvm.ClassFile.FieldType.long)).before args0 about1 = true := code_word (m := ⟨4, 2⟩) (meth := k4m2) (c := k4c2) (by decide +kernel) rfl rfl rfl (by decide +kernel)
def codes1 : List Jvm.Cond := [Jvm.Cond.code x code maxLocals ret, Jvm.Cond.code ({ cls := "com/example/vittoria/vittoria/JobTable$Call", name := "<init>", desc := "(JII)V" } : Jvm.MethodName) prog_20_method_1_code (5 : Nat) (Option.none : Option Jvm.ClassFile.FieldType), Jvm.Cond.code ({ cls := "java/lang/Record", name := "<init>", desc := "()V" } : Jvm.MethodName) jdk_30_method_1_code (1 : Nat) (Option.none : Option Jvm.ClassFile.FieldType), Jvm.Cond.code ({ cls := "java/lang/Object", name := "<init>", desc := "()V" } : Jvm.MethodName) object_method_1_code (1 : Nat) (Option.none : Option Jvm.ClassFile.FieldType), Jvm.Cond.code ({ cls := "com/example/vittoria/vittoria/JobTable$Outcome", name := "done", desc := "(Lcom/example/vittoria/vittoria/JobTable$Call;)Lcom/example/vittoria/vittoria/JobTable$Outcome;" } : Jvm.MethodName) prog_25_method_2_code (1 : Nat) (Option.some (Jvm.ClassFile.FieldType.object "com/example/vittoria/vittoria/JobTable$Outcome")), Jvm.Cond.code ({ cls := "com/example/vittoria/vittoria/JobTable$Outcome", name := "<init>", desc := "(Lcom/example/vittoria/vittoria/JobTable$Call;Lcom/example/vittoria/vittoria/JobStatus;Ljava/lang/String;Ljava/time/Duration;)V" } : Jvm.MethodName) prog_25_method_1_code (5 : Nat) (Option.none : Option Jvm.ClassFile.FieldType), Jvm.Cond.code ({ cls := "com/example/vittoria/vittoria/JobTable$Outcome", name := "call", desc := "()Lcom/example/vittoria/vittoria/JobTable$Call;" } : Jvm.MethodName) prog_25_method_10_code (1 : Nat) (Option.some (Jvm.ClassFile.FieldType.object "com/example/vittoria/vittoria/JobTable$Call")), Jvm.Cond.code ({ cls := "com/example/vittoria/vittoria/JobTable$Call", name := "id", desc := "()J" } : Jvm.MethodName) prog_20_method_5_code (1 : Nat) (Option.some Jvm.ClassFile.FieldType.long), Jvm.Cond.code ({ cls := "com/example/vittoria/vittoria/JobTable$Call", name := "attempt", desc := "()I" } : Jvm.MethodName) prog_20_method_6_code (1 : Nat) (Option.some Jvm.ClassFile.FieldType.int), Jvm.Cond.code ({ cls := "com/example/vittoria/vittoria/JobTable$Call", name := "replayedAttempts", desc := "()I" } : Jvm.MethodName) prog_20_method_7_code (1 : Nat) (Option.some Jvm.ClassFile.FieldType.int), Jvm.Cond.code ({ cls := "com/example/vittoria/vittoria/JobTable$Outcome", name := "status", desc := "()Lcom/example/vittoria/vittoria/JobStatus;" } : Jvm.MethodName) prog_25_method_11_code (1 : Nat) (Option.some (Jvm.ClassFile.FieldType.object "com/example/vittoria/vittoria/JobStatus")), Jvm.Cond.code ({ cls := "com/example/vittoria/vittoria/JobTable$Outcome", name := "error", desc := "()Ljava/lang/String;" } : Jvm.MethodName) prog_25_method_12_code (1 : Nat) (Option.some (Jvm.ClassFile.FieldType.object "java/lang/String")), Jvm.Cond.code ({ cls := "com/example/vittoria/vittoria/JobTable$Outcome", name := "retryDelay", desc := "()Ljava/time/Duration;" } : Jvm.MethodName) prog_25_method_13_code (1 : Nat) (Option.some (Jvm.ClassFile.FieldType.object "java/time/Duration")), Jvm.Cond.code ({ cls := "com/example/vittoria/vittoria/JobTable$Outcome", name := "id", desc := "()J" } : Jvm.MethodName) prog_25_method_5_code (1 : Nat) (Option.some Jvm.ClassFile.FieldType.long)]
set_option maxRecDepth 65536 in
theorem codes_eq : words1.filter isCode = codes1 := rfl
theorem w_codes : ∀ c ∈ words1.filter isCode, c.before args0 about1 = true := by
  rw [codes_eq]
  intro c hc
  simp only [codes1, List.mem_cons, List.not_mem_nil, or_false] at hc
  rcases hc with rfl | rfl | rfl | rfl | rfl | rfl | rfl | rfl | rfl | rfl | rfl | rfl | rfl | rfl
  · exact w_c0
  · exact w_c1
  · exact w_c2
  · exact w_c3
  · exact w_c4
  · exact w_c5
  · exact w_c6
  · exact w_c7
  · exact w_c8
  · exact w_c9
  · exact w_c10
  · exact w_c11
  · exact w_c12
  · exact w_c13
set_option maxRecDepth 65536 in
theorem w_t1 : (words1.take 24).all (fun c => isCode c || c.before args0 about1) = true := by decide +kernel
set_option maxRecDepth 65536 in
theorem w_t2 : ((words1.drop 24).take 24).all (fun c => isCode c || c.before args0 about1) = true := by decide +kernel
set_option maxRecDepth 65536 in
theorem w_t3 : (((words1.drop 24).drop 24).take 24).all (fun c => isCode c || c.before args0 about1) = true := by decide +kernel
set_option maxRecDepth 65536 in
theorem w_t4 : (((words1.drop 24).drop 24).drop 24).all (fun c => isCode c || c.before args0 about1) = true := by decide +kernel
theorem w_tables : (allAtoms (Jvm.Cond.code x code maxLocals ret :: tables_1)).before args0 about1 = true := by
  rw [allAtoms_all]
  show words1.all (fun c => c.before args0 about1) = true
  refine all_split ?_ w_codes
  rw [← List.take_append_drop 24 words1, List.all_append, w_t1, ← List.take_append_drop 24 (words1.drop 24), List.all_append, w_t2, ← List.take_append_drop 24 ((words1.drop 24).drop 24), List.all_append, w_t3, w_t4]
  rfl
set_option maxRecDepth 65536 in
theorem w_case : (Jvm.Cond.and given_1 narrow_1).before args0 about1 = true := by decide +kernel
theorem w_applies : (headSpec (Jvm.Cond.code x code maxLocals ret :: tables_1) room_1).applies x e0.platform about1 = true :=
  (Spec.applies_iff w_frames).mpr ⟨w_running, w_runnable, w_alone, w_named, w_hears, w_ripe, w_room, w_tables⟩
theorem atStart : AtStart classFile x code maxLocals ret World_1 tables_1 room_1 Calls_1 rest_1 Pre_1 launch0 p0 e0 about1 theMethod args0 below0 :=
  ⟨lists_1, trivial, launch0.admits_env _ _ _, launch0.least_env, fairChoices_fair.cas, fairChoices_fair.clock, w_frames, w_args, w_heap, w_applies, trivial, trivial, w_case⟩
end start1
theorem witness_1 : WitnessClaimed_1 := ⟨start1.p0, start1.e0, start1.about1, start1.theMethod, start1.args0, start1.below0, start1.atStart⟩
end Jvm.Pilot.@@N@@
