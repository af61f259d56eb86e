import JvmDerived
import JvmDerived.Pilot.@@N@@Statement
import JvmDerived.Pilot.@@N@@Code
set_option linter.unusedVariables false
set_option linter.unusedSimpArgs false
namespace Jvm.Pilot.@@N@@
open Jvm Jvm.ClassFile Sem Op Lib Jvm.Free Jvm.Stand Jvm.LawKit Jvm.RoadKit Bundle Jvm.Pilot.@@N@@.Jvm.D
section Own
variable {p : Program} {l : Launch} {e : Env} {R : Room} {s : State} {m : MethodId} {args : Array Value} {below : List Frame} {meth : Method} {c : Code} {T : State} {locs : List Loc} {cells slots : Nat} {K : Outcome → State → Prop} {Z : State} {a0 : Array Value}
/-- from S the run comes to an end of which K is true -/
def Go (p : Program) (e : Env) (below : List Frame) (K : Outcome → State → Prop) (S : State) : Prop := ∃ s₂ o, Steps p.tables e below S s₂ ∧ s₂.status = .running ∧ Ended s₂ below o ∧ K o s₂
theorem Go.st {S S' : State} (h : ∀ t, Steps p.tables e below S' t → Steps p.tables e below S t) (k : Go p e below K S') : Go p e below K S := by
  obtain ⟨a, o, h1, r⟩ := k; exact ⟨a, o, h _ h1, r⟩
theorem Go.tr {S S' : State} (h : Steps p.tables e below S S') (k : Go p e below K S') : Go p e below K S := by
  obtain ⟨a, o, h1, r⟩ := k; exact ⟨a, o, h.trans h1, r⟩
def EndQ (s : State) (Q : Option Value → Heap → List Loc → Prop) (ce sl : Nat) (o : Outcome) (U : State) : Prop := ∃ v L, o = .returned v ∧ Q v U.heap L ∧ FrameEnd s o U L ce sl
theorem goRet {v : Option Value} {ce sl : Nat} {Q : Option Value → Heap → List Loc → Prop} {S : State} {h : Heap} (X : Stand p l e R s m args below meth c T locs cells slots) (hlk : meth.locks = false) (hv : meth.sig.returnType = none → v = none) (eT : T.heap = h)
    (step : ∀ fs, (∀ (f : JFrame) (acts : List Action), f.method = m → f.locked = none → f.entered = [] → (doReturn e (T.setTop f) acts v).1 = T.setFrames fs) → Steps p.tables e below S (T.setFrames fs))
    (hc : cells ≤ ce) (hs : slots ≤ sl) (hQ : Q v h locs) : Go p e below (EndQ s Q ce sl) S := by
  obtain ⟨fs, hr, hrun, hended, hW, hsame⟩ := X.leave (v := v) hv hlk
  subst eT
  exact ⟨_, _, step fs hr, hrun, hended, _, _, rfl, hQ, ⟨_, rfl⟩, hW, hsame.mono hc hs⟩
/-- ireturn of a boolean, byte, char, short -/
theorem goRetN {ce sl : Nat} {Q : Option Value → Heap → List Loc → Prop} {pc : Nat} {Ls : Array Slot} {z w : Int32} {rest : List Value} {t : FieldType} {h : Heap} (X : Stand p l e R s m args below meth c T locs cells slots) (hx : p.tables.exec = Jvm.exec) (hlk : meth.locks = false) (hret : meth.sig.returnType = some t) (ht : t = .boolean ∨ t = .byte ∨ t = .char ∨ t = .short) (hw : nar t z = w) (eT : T.heap = h)
    (hd : decode c.code pc = .ok (.ireturn, 1)) (hc : cells ≤ ce) (hs : slots ≤ sl) (hQ : Q (some (.int w)) h locs) : Go p e below (EndQ s Q ce sl) (T.setTop (mkF m pc Ls (.int z :: rest))) := by
  subst hw
  exact goRet X hlk (fun h => by rw [hret] at h; cases h) eT (fun fs hr => retN X hx hret ht hd hr) hc hs hQ
theorem goRetI {ce sl : Nat} {Q : Option Value → Heap → List Loc → Prop} {pc : Nat} {Ls : Array Slot} {z : Int32} {rest : List Value} {h : Heap} (X : Stand p l e R s m args below meth c T locs cells slots) (hx : p.tables.exec = Jvm.exec) (hlk : meth.locks = false) (hret : meth.sig.returnType = some .int) (eT : T.heap = h)
    (hd : decode c.code pc = .ok (.ireturn, 1)) (hc : cells ≤ ce) (hs : slots ≤ sl) (hQ : Q (some (.int z)) h locs) : Go p e below (EndQ s Q ce sl) (T.setTop (mkF m pc Ls (.int z :: rest))) :=
  goRet X hlk (fun h => by rw [hret] at h; cases h) eT (fun fs hr => retOut X hx hret rfl (Or.inl ⟨rfl, Or.inl rfl, z, rfl⟩) hd hr) hc hs hQ
theorem goRetJ {ce sl : Nat} {Q : Option Value → Heap → List Loc → Prop} {pc : Nat} {Ls : Array Slot} {z : Int64} {rest : List Value} {h : Heap} (X : Stand p l e R s m args below meth c T locs cells slots) (hx : p.tables.exec = Jvm.exec) (hlk : meth.locks = false) (hret : meth.sig.returnType = some .long) (eT : T.heap = h)
    (hd : decode c.code pc = .ok (.lreturn, 1)) (hc : cells ≤ ce) (hs : slots ≤ sl) (hQ : Q (some (.long z)) h locs) : Go p e below (EndQ s Q ce sl) (T.setTop (mkF m pc Ls (.long z :: rest))) :=
  goRet X hlk (fun h => by rw [hret] at h; cases h) eT (fun fs hr => retOut X hx hret rfl (Or.inr (Or.inl ⟨rfl, rfl, z, rfl⟩)) hd hr) hc hs hQ
theorem goRetA {ce sl : Nat} {Q : Option Value → Heap → List Loc → Prop} {pc : Nat} {Ls : Array Slot} {w : Value} {rest : List Value} {t : FieldType} {h : Heap} (X : Stand p l e R s m args below meth c T locs cells slots) (hx : p.tables.exec = Jvm.exec) (hlk : meth.locks = false) (hret : meth.sig.returnType = some t) (ht : t.isReference = true) (hw : w.isRef = true) (hn : narrow t w = w) (eT : T.heap = h)
    (hd : decode c.code pc = .ok (.areturn, 1)) (hc : cells ≤ ce) (hs : slots ≤ sl) (hQ : Q (some w) h locs) : Go p e below (EndQ s Q ce sl) (T.setTop (mkF m pc Ls (w :: rest))) :=
  goRet X hlk (fun h => by rw [hret] at h; cases h) eT (fun fs hr => retOut X hx hret hn (Or.inr (Or.inr (Or.inr (Or.inr ⟨rfl, ht, hw⟩)))) hd hr) hc hs hQ
theorem goRetV {ce sl : Nat} {Q : Option Value → Heap → List Loc → Prop} {pc : Nat} {Ls : Array Slot} {h : Heap} (X : Stand p l e R s m args below meth c T locs cells slots) (hx : p.tables.exec = Jvm.exec) (hlk : meth.locks = false) (hret : meth.sig.returnType = none) (eT : T.heap = h)
    (hd : decode c.code pc = .ok (.return_, 1)) (hc : cells ≤ ce) (hs : slots ≤ sl) (hQ : Q none h locs) : Go p e below (EndQ s Q ce sl) (T.setTop (mkF m pc Ls [])) :=
  goRet X hlk (fun _ => rfl) eT (fun fs hr => X.returnOut hx hret hd hr) hc hs hQ
/-- a method's contract, in the form that a caller takes -/
abbrev Ctr (l : Launch) (y : MethodName) (bytes : ByteArray) (maxL : Nat) (ret : Option FieldType) (ws : List Jvm.Cond) (rm : Room) (as : Array Value) (Z : State) (h0 : Heap) (Q : Option Value → Heap → List Loc → Prop) : Prop :=
  MetFree l y (head1 (Jvm.Cond.code y bytes maxL ret :: ws) rm) (fun a U => a = as ∧ Z.Warmed39 U.vm ∧ U.heap = h0) (fun _ _ _ _ _ => True) (fun _ U o U' => ∃ v L, o = .returned v ∧ Q v U'.heap L ∧ FrameEnd U o U' L rm.cells rm.slots)
theorem Ctr.of {y : MethodName} {bytes : ByteArray} {maxL : Nat} {ret : Option FieldType} {ws : List Jvm.Cond} {rm : Room} {as : Array Value} {h0 : Heap} {Q : Option Value → Heap → List Loc → Prop} (hpl : plainFor y = true)
    (body : ∀ (p : Program) (e : Env) (s : State) (m : MethodId) (below : List Frame) (meth : Method) (c : Code) (s₁ : State), p.tables.exec = Jvm.exec → Z.Warmed39 s.vm → c.code = bytes → c.maxLocals = maxL → s.vm.findClass y.cls = some m.cls → meth.name = y.name → meth.sig.returnType = ret → meth.locks = false →
      Stand p l e rm s m as below meth c s₁ [] 0 0 → s₁.heap = h0 → Go p e below (EndQ s Q rm.cells rm.slots) (s₁.setTop (entryFrame m as maxL))) :
    Ctr l y bytes maxL ret ws rm as Z h0 Q := by
  refine MetFree.of_bodySF hpl hisR ?_
  intro p e s m args below meth c s₁ Bd hml hP _
  obtain ⟨rfl, hZ, hh⟩ := hP
  exact body p e s m below meth c s₁ Bd.exec hZ Bd.bytes hml (findClass_of_methodNamed Bd.named) (name_of_methodNamed Bd.named Bd.method).1 Bd.returns Bd.notSynchronized (Stand.of_body Bd) (by rw [← hh, Bd.state]; rfl)
theorem goCallS (X : Stand p l e R s m args below meth c T locs cells slots) (hx : p.tables.exec = Jvm.exec) (hZ : Z.Warmed39 s.vm) {own : String} {index : Nat} {y : MethodName} {bytes : ByteArray} {maxL : Nat} {ret : Option FieldType} (hown : s.vm.findClass own = some m.cls)
    (w1 : (Jvm.Cond.methodLink own index y).before a0 Z = true) (w2 : (Jvm.Cond.static y).before a0 Z = true) (w3 : (Jvm.Cond.initialized y.cls).before a0 Z = true) (w4 : (Jvm.Cond.code y bytes maxL ret).before a0 Z = true) (hy : y.cls ≠ "java/lang/invoke/MethodHandle" ∧ y.cls ≠ "java/lang/invoke/VarHandle")
    {h : Heap} {rm : Room} {argsL rest : List Value} {Q : Option Value → Heap → List Loc → Prop} (eT : T.heap = h) (hC : Ctr l y bytes maxL ret [] rm argsL.toArray Z h Q) (W : Nat) (hf : rm.frames + 1 ≤ R.frames) (hl : W + (maxL + 11) + rm.locals ≤ R.locals) (hcl : cells + rm.cells ≤ R.cells) (hsl : slots + rm.slots ≤ R.slots)
    (g : JFrame) (hg : g.method = m) (hsize : g.locals.size = c.maxLocals) (hlen : ∀ sig, parseMethodDescriptor y.desc = some sig → argsL.length = sig.parameters.length) (hst : g.stack = argsL.reverse ++ rest) (hd : decode c.code g.pc = .ok (.invokestatic index, 3))
    (hW : 2 * g.monitorRoom + (rest.map fun v => v.category).sum ≤ W)
    (next : ∀ (v : Option Value) (T' : State) (L : List Loc), Stand p l e R s m args below meth c T' (locs ++ L) (cells + rm.cells) (slots + rm.slots) → Q v T'.heap L → Go p e below K (T'.setTop { g with pc := g.pc + 3, stack := v.toList ++ rest })) :
    Go p e below K (T.setTop g) := by
  subst eT
  obtain ⟨v, _, ⟨T', L', k', n'⟩, -, X', ⟨L, hQ, l1, y1, z1⟩, stp⟩ := Jvm.LawKit.callS X hx hown (mvT hZ w1) (mvT hZ w2) (mvT hZ w3) (mvT hZ w4) hy (backOf (W := W) hC hZ w4 w3 hf hl) (g := g) hg hsize hlen hst hW hd (fun _ _ => ⟨rfl, rfl, hcl, hsl⟩)
  dsimp only [Pt.U, Pt.locs, Pt.cells, Pt.slots] at X' l1 y1 z1 stp hQ
  subst l1 y1 z1
  exact Go.st stp (next v T' L X' hQ)
theorem goInit (X : Stand p l e R s m args below meth c T locs cells slots) (hx : p.tables.exec = Jvm.exec) (hZ : Z.Warmed39 s.vm) {own : String} {index : Nat} {y : MethodName} {bytes : ByteArray} {maxL : Nat} (hy1 : y.name = "<init>") (hown : s.vm.findClass own = some m.cls)
    (w1 : (Jvm.Cond.methodLink own index y).before a0 Z = true) (w2 : (Jvm.Cond.instanceMethod y).before a0 Z = true) (w3 : (Jvm.Cond.initialized y.cls).before a0 Z = true) (w4 : (Jvm.Cond.code y bytes maxL none).before a0 Z = true) (hy : y.cls ≠ "java/lang/invoke/MethodHandle" ∧ y.cls ≠ "java/lang/invoke/VarHandle")
    {h : Heap} {rm : Room} {a : Addr} {argsL rest : List Value} {Q : Option Value → Heap → List Loc → Prop} (eT : T.heap = h) (hC : Ctr l y bytes maxL none [] rm (.ref a :: argsL).toArray Z h Q) (W : Nat) (hf : rm.frames + 1 ≤ R.frames) (hl : W + (maxL + 11) + rm.locals ≤ R.locals) (hcl : cells + rm.cells ≤ R.cells) (hsl : slots + rm.slots ≤ R.slots)
    (g : JFrame) (hg : g.method = m) (hsize : g.locals.size = c.maxLocals) (hlen : ∀ sig, parseMethodDescriptor y.desc = some sig → argsL.length = sig.parameters.length) (hst : g.stack = argsL.reverse ++ .ref a :: rest) (hd : decode c.code g.pc = .ok (.invokespecial index, 3))
    (hW : 2 * g.monitorRoom + (rest.map fun v => v.category).sum ≤ W)
    (next : ∀ (v : Option Value) (T' : State) (L : List Loc), Stand p l e R s m args below meth c T' (locs ++ L) (cells + rm.cells) (slots + rm.slots) → Q v T'.heap L → Go p e below K (T'.setTop { g with pc := g.pc + 3, stack := v.toList ++ rest })) :
    Go p e below K (T.setTop g) := by
  subst eT
  obtain ⟨v, _, ⟨T', L', k', n'⟩, -, X', ⟨L, hQ, l1, y1, z1⟩, stp⟩ := X.specialBack hx hy1 hown (mvT hZ w1) (mvT hZ w2) (mvT hZ w4) hy (backOf (W := W) hC hZ w4 w3 hf hl) (g := g) hg hsize (Steps.refl _) hlen hst hW hd (fun _ _ => ⟨rfl, rfl, hcl, hsl⟩)
  dsimp only [Pt.U, Pt.locs, Pt.cells, Pt.slots] at X' l1 y1 z1 stp hQ
  subst l1 y1 z1
  exact Go.tr stp (next v T' L X' hQ)
theorem goVirt (X : Stand p l e R s m args below meth c T locs cells slots) (hx : p.tables.exec = Jvm.exec) (hZ : Z.Warmed39 s.vm) {own C : String} {index : Nat} {y z : MethodName} {bytes : ByteArray} {maxL : Nat} {ret : Option FieldType} (hown : s.vm.findClass own = some m.cls)
    (w1 : (Jvm.Cond.methodLink own index y).before a0 Z = true) (w2 : (Jvm.Cond.declares y).before a0 Z = true) (hnf : NotFace s y) (w5 : (Jvm.Cond.selects C y z).before a0 Z = true) (w6 : (Jvm.Cond.instanceMethod z).before a0 Z = true) (w3 : (Jvm.Cond.initialized z.cls).before a0 Z = true) (w4 : (Jvm.Cond.code z bytes maxL ret).before a0 Z = true) (hy : y.cls ≠ "java/lang/invoke/MethodHandle" ∧ y.cls ≠ "java/lang/invoke/VarHandle")
    {h : Heap} {rm : Room} {a : Addr} {argsL rest : List Value} {Q : Option Value → Heap → List Loc → Prop} (eT : T.heap = h) (E : Exa Z h a C) (hC : Ctr l z bytes maxL ret [] rm (.ref a :: argsL).toArray Z h Q) (W : Nat) (hf : rm.frames + 1 ≤ R.frames) (hl : W + (maxL + 11) + rm.locals ≤ R.locals) (hcl : cells + rm.cells ≤ R.cells) (hsl : slots + rm.slots ≤ R.slots)
    (g : JFrame) (hg : g.method = m) (hsize : g.locals.size = c.maxLocals) (hlen : ∀ sig, parseMethodDescriptor y.desc = some sig → argsL.length = sig.parameters.length) (hst : g.stack = argsL.reverse ++ .ref a :: rest) (hd : decode c.code g.pc = .ok (.invokevirtual index, 3))
    (hW : 2 * g.monitorRoom + (rest.map fun v => v.category).sum ≤ W)
    (next : ∀ (v : Option Value) (T' : State) (L : List Loc), Stand p l e R s m args below meth c T' (locs ++ L) (cells + rm.cells) (slots + rm.slots) → Q v T'.heap L → Go p e below K (T'.setTop { g with pc := g.pc + 3, stack := v.toList ++ rest })) :
    Go p e below K (T.setTop g) := by
  subst eT
  obtain ⟨cq, kq, qa, qb, qc⟩ := isOf (T := T) hZ rfl E
  obtain ⟨v, _, ⟨T', L', k', n'⟩, -, X', ⟨L, hQ, l1, y1, z1⟩, stp⟩ := X.virtualBack hx hown (mvT hZ w1) (mvT hZ w2) hnf (mvT hZ w5) (mvT hZ w6) hy (backOf (W := W) hC hZ w4 w3 hf hl) qa qc (g := g) hg hsize (Steps.refl _) hlen hst hW hd (fun _ _ => ⟨rfl, rfl, hcl, hsl⟩)
  dsimp only [Pt.U, Pt.locs, Pt.cells, Pt.slots] at X' l1 y1 z1 stp hQ
  subst l1 y1 z1
  exact Go.tr stp (next v T' L X' hQ)
theorem oldGe {h : Heap} {n0 : Nat} {b : Addr} (O : Old Z n0 h) (g : b = h.size) : n0 ≤ b := by rw [g, ← O.1]; exact O.2.1
theorem oldSta {h : Heap} {n0 : Nat} {C n d : String} {v : Value} (O : Old Z n0 h) (S : Sta Z Z.heap C n d v) : Sta Z h C n d v := S.ext O.2
theorem oldExa {h : Heap} {n0 : Nat} {C : String} {a : Addr} (O : Old Z n0 h) (S : Exa Z Z.heap a C) : Exa Z h a C := S.ext O.2
theorem oldFld {h : Heap} {n0 : Nat} {a : Addr} {C n d : String} {v : Value} (O : Old Z n0 h) (S : Fld Z Z.heap a C n d v) : Fld Z h a C n d v := S.ext O.2
end Own
theorem fldStart {args : Array Value} {Z : State} {t : Term} {a : Addr} {C n d : String} {v : Int32} (ev : t.eval args Z none [] Z = some (.ref a)) (h : (Jvm.Cond.eq (.field t C n d) (.int v)).value args Z none Z [] = some true) : Fld Z Z.heap a C n d (.int v) := by
  cases hf : Z.fieldOf? a C n d with
  | none => simp [Cond.value, Term.eval, ev, hf] at h
  | some x =>
    cases x <;> simp [Cond.value, Term.eval, ev, hf] at h
    exact Fld.start (by rw [hf, h])
theorem staInt {args : Array Value} {Z : State} {C n d : String} {v : Int32} (h : (Jvm.Cond.eq (.static C n d) (.int v)).value args Z none Z [] = some true) : (Term.static C n d).eval args Z none [] Z = some (.int v) := by
  obtain ⟨x, y, h1, h2, k1, k2⟩ := cmp_v (Or.inl h)
  cases (Term.int_eval v (args := args) (first := Z) (o := none) (idx := []) (s := Z)).symm.trans h2
  obtain ⟨z, rfl⟩ := k2
  rw [h1]
  simp [Cond.value, h1, Term.int_eval] at h
  rw [h]
theorem narZ {z : Int32} (h : z = 0 ∨ z = 1) : nar .boolean z = z := by rcases h with rfl | rfl <;> decide
theorem goJoin {p : Program} {e : Env} {below : List Frame} {K : Outcome → State → Prop} {S : State} {α : Type} {P : α → Prop} {F : α → State} (h1 : ∀ z, P z → Go p e below K (F z)) (h2 : (∀ z, P z → Go p e below K (F z)) → Go p e below K S) : Go p e below K S := h2 h1
theorem own_bit {z : Int32} {P : Prop} [Decidable P] (h : z = (if P then (1 : Int32) else 0)) : z = 0 ∨ z = 1 := by rw [h]; by_cases q : P <;> simp [q]
theorem lenStart {args : Array Value} {Z : State} {t : Term} {a : Addr} {cl : Cell} {n : Int32} (ev : t.eval args Z none [] Z = some (.ref a)) (ha : Z.arrayAt? a = some cl) (h : (Jvm.Cond.eq (.length t) (.int n)).value args Z none Z [] = some true) : cl.slots.size < 2 ^ 31 ∧ cl.slots.size.toInt32 = n := by
  have h1 := eqv_i (Term.int_eval n) h
  by_cases q : cl.slots.size < 2 ^ 31
  · rw [len_f ev ha q] at h1
    exact ⟨q, by simpa using h1⟩
  · simp [Term.eval, ev, ha, q] at h1
theorem nsRoot {Z : State} {a0 : Array Value} {O K : String} {n : Nat} (w : (Jvm.Cond.noSuperclass O).before a0 Z = true) (wi : (Jvm.Cond.instantiable K n).before a0 Z = true) (hn : O ≠ K) : NS Z O K := by
  obtain ⟨c, k, h1, h2, h3, -, -⟩ := Cond.noSuperclass_spec w
  obtain ⟨t, k', g1, -⟩ := Cond.instantiable_spec wi
  have ne := ids_ne h1 g1 hn
  refine ⟨c, t, h1, g1, fun fuel => ?_⟩
  cases fuel with
  | zero => rfl
  | succ f => simp [Vm.isSubclassAux, ne, h2, h3]
theorem nsNo {Z : State} {a0 : Array Value} {C S K : String} {n : Nat} (w : (Jvm.Cond.superclass C S).before a0 Z = true) (wi : (Jvm.Cond.instantiable K n).before a0 Z = true) (nn : NS Z C K) (hn : C ≠ K) : ∃ c t, Z.vm.findClass C = some c ∧ Z.vm.findClass K = some t ∧ Z.vm.assignable c t = false := by
  obtain ⟨c, t, h0, g0, n3⟩ := nn
  obtain ⟨p, k, kp, h1, h2, h3, h4, h5, -, h7⟩ := Cond.superclass_spec h0 w
  obtain ⟨t', k', g1, g2, g5, g6, -⟩ := Cond.instantiable_spec wi
  cases g0.symm.trans g1
  have g7 : k'.isInterface = false := by
    cases hq : k'.isInterface with
    | false => rfl
    | true => rw [hq] at g6; simp at g6
  have ne := ids_ne h0 g0 hn
  refine ⟨c, t, h0, g0, ?_⟩
  show Z.vm.assignableAux (255 + 1) c t = false
  simp [Vm.assignableAux, ne, h2, g2, h5, g5, g7, Vm.isSubclass, n3]
theorem subAt {args : Array Value} {Z : State} {a b : Term} {idx : List Nat} {x y : Int32} (ha : a.eval args Z none idx Z = some (.int x)) (hb : b.eval args Z none idx Z = some (.int y)) : (Term.sub a b).eval args Z none idx Z = some (.int (x - y)) := by simp [Term.eval, ha, hb]
theorem elemStart {args : Array Value} {Z : State} {t u : Term} {a w : Addr} {cl : Cell} {ty : FieldType} {j : Int32} (ev : t.eval args Z none [] Z = some (.ref a)) (A : Arr Z Z.heap a cl ty) (evu : u.eval args Z none [] Z = some (.ref w)) (h : (Jvm.Cond.eq (.elem t (.int j)) u).value args Z none Z [] = some true) : cl.slots[j.toNatClampNeg]? = some (.ref w) := by
  obtain ⟨x, y, h1, h2, k1, k2⟩ := cmp_v (Or.inl h)
  cases evu.symm.trans h2
  have hx : x.isRef = true := k2.2
  have e : x = .ref w := gotT (eq_R h1 h2 hx rfl) h
  rw [← e]
  exact (elem_in h1 ev (Term.int_eval j) A.1).2
theorem own_ite {P Q : Prop} [Decidable P] [Decidable Q] (h : P ↔ Q) : (if P then (1 : Int32) else 0) = (if Q then (1 : Int32) else 0) := by
  by_cases p : P
  · rw [if_pos p, if_pos (h.mp p)]
  · rw [if_neg p, if_neg (fun q => p (h.mpr q))]
theorem own_mod3 (y : Int32) : (y &&& (2147483647 : Int32)) % (3 : Int32) = (0 : Int32) ∨ (y &&& (2147483647 : Int32)) % (3 : Int32) = (1 : Int32) ∨ (y &&& (2147483647 : Int32)) % (3 : Int32) = (2 : Int32) := by
  have h1 := c_mask y 2147483647 31 (by decide) (by decide)
  have h2 := (c_irem (y &&& (2147483647 : Int32)) (3 : Int32) 3 (by decide)).1 (by omega)
  generalize (y &&& (2147483647 : Int32)) % (3 : Int32) = z at h2
  have h3 : z.toInt = 0 ∨ z.toInt = 1 ∨ z.toInt = 2 := by omega
  rcases h3 with h | h | h
  · exact Or.inl (Int32.toInt_inj.mp h)
  · exact Or.inr (Or.inl (Int32.toInt_inj.mp h))
  · exact Or.inr (Or.inr (Int32.toInt_inj.mp h))

theorem pd_0 : parseMethodDescriptor "(I)Lcom/example/tryst/tryst/elimination/Side;" = some ⟨[.int], some (.object "com/example/tryst/tryst/elimination/Side")⟩ := by decide +kernel
theorem pd_1 : parseMethodDescriptor "(Lcom/example/tryst/tryst/elimination/Side;)Z" = some ⟨[(.object "com/example/tryst/tryst/elimination/Side")], some .boolean⟩ := by decide +kernel
theorem pd_2 : parseMethodDescriptor "(II)Z" = some ⟨[.int, .int], some .boolean⟩ := by decide +kernel
theorem d1_0 : decode method_2_code 0 = .ok (.iload_n 0, 1) := by decide +kernel
theorem d1_1 : decode method_2_code 1 = .ok (.ifCond .ne 7, 3) := by decide +kernel
theorem d1_4 : decode method_2_code 4 = .ok (.getstatic 7, 3) := by decide +kernel
theorem d1_7 : decode method_2_code 7 = .ok (.areturn, 1) := by decide +kernel
theorem d1_8 : decode method_2_code 8 = .ok (.iload_n 0, 1) := by decide +kernel
theorem d1_9 : decode method_2_code 9 = .ok (.iconst 1, 1) := by decide +kernel
theorem d1_10 : decode method_2_code 10 = .ok (.if_icmp .ne 7, 3) := by decide +kernel
theorem d1_13 : decode method_2_code 13 = .ok (.getstatic 13, 3) := by decide +kernel
theorem d1_16 : decode method_2_code 16 = .ok (.areturn, 1) := by decide +kernel
theorem d1_17 : decode method_2_code 17 = .ok (.getstatic 16, 3) := by decide +kernel
theorem d1_20 : decode method_2_code 20 = .ok (.areturn, 1) := by decide +kernel
theorem pn_1 : plainName "com/example/tryst/tryst/elimination/SideMeetsPinLaw" = true := by first | (simp [plainName, overriddenIn]; done) | decide +kernel
set_option maxRecDepth 65536 in
set_option maxHeartbeats 40000000 in
theorem rm1 (l : Launch) (Z : State) (a0 : Array Value) (hw : ∀ d ∈ tables_1, d.before a0 Z = true) (ws : List Jvm.Cond) (p1 : Int32) (w_ANY w_RED w_BLUE : Addr) (h0 : Heap) (n0 : Nat) (O0 : Old Z n0 h0) (S_w_ANY : Sta Z Z.heap "com/example/tryst/tryst/elimination/Side" "ANY" "Lcom/example/tryst/tryst/elimination/Side;" (.ref w_ANY)) (S_w_RED : Sta Z Z.heap "com/example/tryst/tryst/elimination/Side" "RED" "Lcom/example/tryst/tryst/elimination/Side;" (.ref w_RED)) (S_w_BLUE : Sta Z Z.heap "com/example/tryst/tryst/elimination/Side" "BLUE" "Lcom/example/tryst/tryst/elimination/Side;" (.ref w_BLUE)) :
    Ctr l (⟨"com/example/tryst/tryst/elimination/SideMeetsPinLaw", "side", "(I)Lcom/example/tryst/tryst/elimination/Side;"⟩ : MethodName) method_2_code 1 (some (.object "com/example/tryst/tryst/elimination/Side")) ws ({ frames := 0, cells := 0, slots := 0, locals := 0 } : Room) #[(.int p1)] Z h0 (fun v h L => v = some (.ref (if p1 = 0 then w_ANY else if p1 = 1 then w_RED else w_BLUE)) ∧ Fr n0 L ∧ h = h0) := by
  have ef : ∀ m : MethodId, entryFrame m #[(.int p1)] 1 = mkF m 0 #[.val (.int p1)] [] := fun m => by first | (simp [entryFrame, mkF, argsToLocals, Value.category]; done) | rfl
  refine Ctr.of (plainFor_of_name pn_1) ?_
  intro p e s m below meth c s₁ hx hZ hby hml hown0 hnm hret hlk X0 e0
  have hown : s.vm.findClass "com/example/tryst/tryst/elimination/SideMeetsPinLaw" = some m.cls := hown0
  have N0 := Fr.nil n0
  refine Go.st (fun t k => castTop (ef m) k) ?_
  show Go p e below _ (s₁.setTop (mkF m 0 #[.val (.int p1)] []))
  refine Go.st (fun _ => XS.iloadN X0.here hx rfl (hb hby d1_0) rfl) ?_
  show Go p e below _ (s₁.setTop (mkF m 1 #[.val (.int p1)] [(.int p1)]))
  by_cases hc1 : p1 = (0 : Int32)
  · refine Go.st (fun _ => XS.ifNo X0.here hx rfl (hb hby d1_1) rfl ((if0 _ _).trans (teq hc1).2)) ?_
    show Go p e below _ (s₁.setTop (mkF m 4 #[.val (.int p1)] []))
    obtain ⟨T2, X2, e2, st2⟩ := getS2 X0 hx hZ hown (host := "") (Or.inl (hw _ (List.mem_of_getElem? (i := 5) rfl))) Via.refl e0 (oldSta O0 S_w_ANY) (g := (mkF m 4 #[.val (.int p1)] [])) rfl (hb hby d1_4)
    refine Go.st st2 ?_
    show Go p e below _ (T2.setTop (mkF m 7 #[.val (.int p1)] [(.ref w_ANY)]))
    exact goRetA X2 hx hlk hret rfl rfl rfl e2 (hb hby d1_7) (by decide) (by decide) ⟨by simp [hc1], N0, rfl⟩
  · refine Go.st (fun _ => XS.ifYes X0.here hx rfl (pc0 := 1) (pc' := 8) rfl (hb hby d1_1) rfl ((if0 _ _).trans (feq hc1).2) (by decide) (by decide)) ?_
    show Go p e below _ (s₁.setTop (mkF m 8 #[.val (.int p1)] []))
    refine Go.st (fun _ => XS.iloadN X0.here hx rfl (hb hby d1_8) rfl) ?_
    show Go p e below _ (s₁.setTop (mkF m 9 #[.val (.int p1)] [(.int p1)]))
    refine Go.st (fun _ => XS.iconst X0.here hx rfl (hb hby d1_9)) ?_
    show Go p e below _ (s₁.setTop (mkF m 10 #[.val (.int p1)] [(.int (1 : Int32)), (.int p1)]))
    by_cases hc3 : p1 = (1 : Int32)
    · refine Go.st (fun _ => XS.icmpNo X0.here hx rfl (hb hby d1_10) rfl (teq hc3).2) ?_
      show Go p e below _ (s₁.setTop (mkF m 13 #[.val (.int p1)] []))
      obtain ⟨T4, X4, e4, st4⟩ := getS2 X0 hx hZ hown (host := "") (Or.inl (hw _ (List.mem_of_getElem? (i := 19) rfl))) Via.refl e0 (oldSta O0 S_w_RED) (g := (mkF m 13 #[.val (.int p1)] [])) rfl (hb hby d1_13)
      refine Go.st st4 ?_
      show Go p e below _ (T4.setTop (mkF m 16 #[.val (.int p1)] [(.ref w_RED)]))
      exact goRetA X4 hx hlk hret rfl rfl rfl e4 (hb hby d1_16) (by decide) (by decide) ⟨by simp [hc1, hc3], N0, rfl⟩
    · refine Go.st (fun _ => XS.icmpYes X0.here hx rfl (pc0 := 10) (pc' := 17) rfl (hb hby d1_10) rfl (feq hc3).2 (by decide) (by decide)) ?_
      show Go p e below _ (s₁.setTop (mkF m 17 #[.val (.int p1)] []))
      obtain ⟨T5, X5, e5, st5⟩ := getS2 X0 hx hZ hown (host := "") (Or.inl (hw _ (List.mem_of_getElem? (i := 17) rfl))) Via.refl e0 (oldSta O0 S_w_BLUE) (g := (mkF m 17 #[.val (.int p1)] [])) rfl (hb hby d1_17)
      refine Go.st st5 ?_
      show Go p e below _ (T5.setTop (mkF m 20 #[.val (.int p1)] [(.ref w_BLUE)]))
      exact goRetA X5 hx hlk hret rfl rfl rfl e5 (hb hby d1_20) (by decide) (by decide) ⟨by simp [hc1, hc3], N0, rfl⟩
theorem d2_0 : decode prog_5_method_4_code 0 = .ok (.aload_n 0, 1) := by decide +kernel
theorem d2_1 : decode prog_5_method_4_code 1 = .ok (.getstatic 3, 3) := by decide +kernel
theorem d2_4 : decode prog_5_method_4_code 4 = .ok (.if_acmp .eq 8, 3) := by decide +kernel
theorem d2_7 : decode prog_5_method_4_code 7 = .ok (.aload_n 0, 1) := by decide +kernel
theorem d2_8 : decode prog_5_method_4_code 8 = .ok (.aload_n 1, 1) := by decide +kernel
theorem d2_9 : decode prog_5_method_4_code 9 = .ok (.if_acmp .eq 7, 3) := by decide +kernel
theorem d2_12 : decode prog_5_method_4_code 12 = .ok (.iconst 1, 1) := by decide +kernel
theorem d2_13 : decode prog_5_method_4_code 13 = .ok (.goto 4, 3) := by decide +kernel
theorem d2_16 : decode prog_5_method_4_code 16 = .ok (.iconst 0, 1) := by decide +kernel
theorem d2_17 : decode prog_5_method_4_code 17 = .ok (.ireturn, 1) := by decide +kernel
theorem pn_2 : plainName "com/example/tryst/tryst/elimination/Side" = true := by first | (simp [plainName, overriddenIn]; done) | decide +kernel
set_option maxRecDepth 65536 in
set_option maxHeartbeats 40000000 in
theorem rm2 (l : Launch) (Z : State) (a0 : Array Value) (hw : ∀ d ∈ tables_1, d.before a0 Z = true) (ws : List Jvm.Cond) (a1 a2 w_ANY : Addr) (h0 : Heap) (n0 : Nat) (O0 : Old Z n0 h0) (S_w_ANY : Sta Z Z.heap "com/example/tryst/tryst/elimination/Side" "ANY" "Lcom/example/tryst/tryst/elimination/Side;" (.ref w_ANY)) :
    Ctr l (⟨"com/example/tryst/tryst/elimination/Side", "meets", "(Lcom/example/tryst/tryst/elimination/Side;)Z"⟩ : MethodName) prog_5_method_4_code 2 (some .boolean) ws ({ frames := 0, cells := 0, slots := 0, locals := 0 } : Room) #[(.ref a1), (.ref a2)] Z h0 (fun v h L => v = some (.int (if a1 = w_ANY ∨ ¬ a1 = a2 then 1 else 0)) ∧ Fr n0 L ∧ h = h0) := by
  have ef : ∀ m : MethodId, entryFrame m #[(.ref a1), (.ref a2)] 2 = mkF m 0 #[.val (.ref a1), .val (.ref a2)] [] := fun m => by first | (simp [entryFrame, mkF, argsToLocals, Value.category]; done) | rfl
  refine Ctr.of (plainFor_of_name pn_2) ?_
  intro p e s m below meth c s₁ hx hZ hby hml hown0 hnm hret hlk X0 e0
  have hown : s.vm.findClass "com/example/tryst/tryst/elimination/Side" = some m.cls := hown0
  have N0 := Fr.nil n0
  refine Go.st (fun t k => castTop (ef m) k) ?_
  show Go p e below _ (s₁.setTop (mkF m 0 #[.val (.ref a1), .val (.ref a2)] []))
  refine Go.st (fun _ => XS.aloadN X0.here hx rfl (hb hby d2_0) rfl rfl) ?_
  show Go p e below _ (s₁.setTop (mkF m 1 #[.val (.ref a1), .val (.ref a2)] [(.ref a1)]))
  obtain ⟨T1, X1, e1, st1⟩ := getS2 X0 hx hZ hown (host := "") (Or.inl (hw _ (List.mem_of_getElem? (i := 13) rfl))) Via.refl e0 (oldSta O0 S_w_ANY) (g := (mkF m 1 #[.val (.ref a1), .val (.ref a2)] [(.ref a1)])) rfl (hb hby d2_1)
  refine Go.st st1 ?_
  show Go p e below _ (T1.setTop (mkF m 4 #[.val (.ref a1), .val (.ref a2)] [(.ref w_ANY), (.ref a1)]))
  by_cases hc2 : a1 = w_ANY
  · refine Go.st (fun _ => fun k => Jvm.RoadKit.acmp (g := (mkF m 4 #[.val (.ref a1), .val (.ref a2)] [(.ref w_ANY), (.ref a1)])) X1 hx rfl rfl rfl (pc0 := 4) (pc' := 12) (same := true) rfl (hb hby d2_4) rfl (decide_eq_true (congrArg Value.ref hc2)) (by decide) (by decide) k) ?_
    show Go p e below _ (T1.setTop (mkF m 12 #[.val (.ref a1), .val (.ref a2)] []))
    refine Go.st (fun _ => XS.iconst X1.here hx rfl (hb hby d2_12)) ?_
    show Go p e below _ (T1.setTop (mkF m 13 #[.val (.ref a1), .val (.ref a2)] [(.int (1 : Int32))]))
    refine Go.st (fun _ => XS.goto X1.here hx rfl (pc0 := 13) (pc' := 17) rfl (hb hby d2_13) (by decide) (by decide)) ?_
    show Go p e below _ (T1.setTop (mkF m 17 #[.val (.ref a1), .val (.ref a2)] [(.int (1 : Int32))]))
    exact goRetN X1 hx hlk hret (t := .boolean) (by simp) (w := (1 : Int32)) (by decide) e1 (hb hby d2_17) (by decide) (by decide) ⟨by simp [hc2], N0, rfl⟩
  · refine Go.st (fun _ => fun k => Jvm.RoadKit.acmp (g := (mkF m 4 #[.val (.ref a1), .val (.ref a2)] [(.ref w_ANY), (.ref a1)])) X1 hx rfl rfl rfl (pc0 := 4) (pc' := 7) (same := false) rfl (hb hby d2_4) rfl (decide_eq_false fun q => hc2 (Value.ref.inj q)) (by decide) (by decide) k) ?_
    show Go p e below _ (T1.setTop (mkF m 7 #[.val (.ref a1), .val (.ref a2)] []))
    refine Go.st (fun _ => XS.aloadN X1.here hx rfl (hb hby d2_7) rfl rfl) ?_
    show Go p e below _ (T1.setTop (mkF m 8 #[.val (.ref a1), .val (.ref a2)] [(.ref a1)]))
    refine Go.st (fun _ => XS.aloadN X1.here hx rfl (hb hby d2_8) rfl rfl) ?_
    show Go p e below _ (T1.setTop (mkF m 9 #[.val (.ref a1), .val (.ref a2)] [(.ref a2), (.ref a1)]))
    by_cases hc3 : a1 = a2
    · refine Go.st (fun _ => fun k => Jvm.RoadKit.acmp (g := (mkF m 9 #[.val (.ref a1), .val (.ref a2)] [(.ref a2), (.ref a1)])) X1 hx rfl rfl rfl (pc0 := 9) (pc' := 16) (same := true) rfl (hb hby d2_9) rfl (decide_eq_true (congrArg Value.ref hc3)) (by decide) (by decide) k) ?_
      show Go p e below _ (T1.setTop (mkF m 16 #[.val (.ref a1), .val (.ref a2)] []))
      refine Go.st (fun _ => XS.iconst X1.here hx rfl (hb hby d2_16)) ?_
      show Go p e below _ (T1.setTop (mkF m 17 #[.val (.ref a1), .val (.ref a2)] [(.int (0 : Int32))]))
      exact goRetN X1 hx hlk hret (t := .boolean) (by simp) (w := (0 : Int32)) (by decide) e1 (hb hby d2_17) (by decide) (by decide) ⟨congrArg (fun z => some (Value.int z)) (if_neg (fun q => q.elim hc2 (fun r => r hc3))).symm, N0, rfl⟩
    · refine Go.st (fun _ => fun k => Jvm.RoadKit.acmp (g := (mkF m 9 #[.val (.ref a1), .val (.ref a2)] [(.ref a2), (.ref a1)])) X1 hx rfl rfl rfl (pc0 := 9) (pc' := 12) (same := false) rfl (hb hby d2_9) rfl (decide_eq_false fun q => hc3 (Value.ref.inj q)) (by decide) (by decide) k) ?_
      show Go p e below _ (T1.setTop (mkF m 12 #[.val (.ref a1), .val (.ref a2)] []))
      refine Go.st (fun _ => XS.iconst X1.here hx rfl (hb hby d2_12)) ?_
      show Go p e below _ (T1.setTop (mkF m 13 #[.val (.ref a1), .val (.ref a2)] [(.int (1 : Int32))]))
      refine Go.st (fun _ => XS.goto X1.here hx rfl (pc0 := 13) (pc' := 17) rfl (hb hby d2_13) (by decide) (by decide)) ?_
      show Go p e below _ (T1.setTop (mkF m 17 #[.val (.ref a1), .val (.ref a2)] [(.int (1 : Int32))]))
      exact goRetN X1 hx hlk hret (t := .boolean) (by simp) (w := (1 : Int32)) (by decide) e1 (hb hby d2_17) (by decide) (by decide) ⟨by simp [hc2, hc3], N0, rfl⟩
theorem d3_0 : decode method_3_code 0 = .ok (.iload_n 0, 1) := by decide +kernel
theorem d3_1 : decode method_3_code 1 = .ok (.ifCond .ne 5, 3) := by decide +kernel
theorem d3_4 : decode method_3_code 4 = .ok (.iconst 1, 1) := by decide +kernel
theorem d3_5 : decode method_3_code 5 = .ok (.ireturn, 1) := by decide +kernel
theorem d3_6 : decode method_3_code 6 = .ok (.iload_n 0, 1) := by decide +kernel
theorem d3_7 : decode method_3_code 7 = .ok (.iconst 1, 1) := by decide +kernel
theorem d3_8 : decode method_3_code 8 = .ok (.if_icmp .ne 18, 3) := by decide +kernel
theorem d3_11 : decode method_3_code 11 = .ok (.iload_n 1, 1) := by decide +kernel
theorem d3_12 : decode method_3_code 12 = .ok (.iconst 2, 1) := by decide +kernel
theorem d3_13 : decode method_3_code 13 = .ok (.if_icmp .eq 7, 3) := by decide +kernel
theorem d3_16 : decode method_3_code 16 = .ok (.iload_n 1, 1) := by decide +kernel
theorem d3_17 : decode method_3_code 17 = .ok (.ifCond .ne 7, 3) := by decide +kernel
theorem d3_20 : decode method_3_code 20 = .ok (.iconst 1, 1) := by decide +kernel
theorem d3_21 : decode method_3_code 21 = .ok (.goto 4, 3) := by decide +kernel
theorem d3_24 : decode method_3_code 24 = .ok (.iconst 0, 1) := by decide +kernel
theorem d3_25 : decode method_3_code 25 = .ok (.ireturn, 1) := by decide +kernel
theorem d3_26 : decode method_3_code 26 = .ok (.iload_n 1, 1) := by decide +kernel
theorem d3_27 : decode method_3_code 27 = .ok (.iconst 1, 1) := by decide +kernel
theorem d3_28 : decode method_3_code 28 = .ok (.if_icmp .eq 7, 3) := by decide +kernel
theorem d3_31 : decode method_3_code 31 = .ok (.iload_n 1, 1) := by decide +kernel
theorem d3_32 : decode method_3_code 32 = .ok (.ifCond .ne 7, 3) := by decide +kernel
theorem d3_35 : decode method_3_code 35 = .ok (.iconst 1, 1) := by decide +kernel
theorem d3_36 : decode method_3_code 36 = .ok (.goto 4, 3) := by decide +kernel
theorem d3_39 : decode method_3_code 39 = .ok (.iconst 0, 1) := by decide +kernel
theorem d3_40 : decode method_3_code 40 = .ok (.ireturn, 1) := by decide +kernel
theorem pn_3 : plainName "com/example/tryst/tryst/elimination/SideMeetsPinLaw" = true := by first | (simp [plainName, overriddenIn]; done) | decide +kernel
set_option maxRecDepth 65536 in
set_option maxHeartbeats 40000000 in
theorem rm3 (l : Launch) (Z : State) (a0 : Array Value) (hw : ∀ d ∈ tables_1, d.before a0 Z = true) (ws : List Jvm.Cond) (p1 p2 : Int32) (h0 : Heap) (n0 : Nat) (O0 : Old Z n0 h0) :
    Ctr l (⟨"com/example/tryst/tryst/elimination/SideMeetsPinLaw", "expected", "(II)Z"⟩ : MethodName) method_3_code 2 (some .boolean) ws ({ frames := 0, cells := 0, slots := 0, locals := 0 } : Room) #[(.int p1), (.int p2)] Z h0 (fun v h L => v = some (.int (if p1 = 0 then 1 else if p1 = 1 then (if p2 = 2 ∨ p2 = 0 then 1 else 0) else (if p2 = 1 ∨ p2 = 0 then 1 else 0))) ∧ Fr n0 L ∧ h = h0) := by
  have ef : ∀ m : MethodId, entryFrame m #[(.int p1), (.int p2)] 2 = mkF m 0 #[.val (.int p1), .val (.int p2)] [] := fun m => by first | (simp [entryFrame, mkF, argsToLocals, Value.category]; done) | rfl
  refine Ctr.of (plainFor_of_name pn_3) ?_
  intro p e s m below meth c s₁ hx hZ hby hml hown0 hnm hret hlk X0 e0
  have hown : s.vm.findClass "com/example/tryst/tryst/elimination/SideMeetsPinLaw" = some m.cls := hown0
  have N0 := Fr.nil n0
  refine Go.st (fun t k => castTop (ef m) k) ?_
  show Go p e below _ (s₁.setTop (mkF m 0 #[.val (.int p1), .val (.int p2)] []))
  refine Go.st (fun _ => XS.iloadN X0.here hx rfl (hb hby d3_0) rfl) ?_
  show Go p e below _ (s₁.setTop (mkF m 1 #[.val (.int p1), .val (.int p2)] [(.int p1)]))
  by_cases hc1 : p1 = (0 : Int32)
  · refine Go.st (fun _ => XS.ifNo X0.here hx rfl (hb hby d3_1) rfl ((if0 _ _).trans (teq hc1).2)) ?_
    show Go p e below _ (s₁.setTop (mkF m 4 #[.val (.int p1), .val (.int p2)] []))
    refine Go.st (fun _ => XS.iconst X0.here hx rfl (hb hby d3_4)) ?_
    show Go p e below _ (s₁.setTop (mkF m 5 #[.val (.int p1), .val (.int p2)] [(.int (1 : Int32))]))
    exact goRetN X0 hx hlk hret (t := .boolean) (by simp) (w := (1 : Int32)) (by decide) e0 (hb hby d3_5) (by decide) (by decide) ⟨by simp [hc1], N0, rfl⟩
  · refine Go.st (fun _ => XS.ifYes X0.here hx rfl (pc0 := 1) (pc' := 6) rfl (hb hby d3_1) rfl ((if0 _ _).trans (feq hc1).2) (by decide) (by decide)) ?_
    show Go p e below _ (s₁.setTop (mkF m 6 #[.val (.int p1), .val (.int p2)] []))
    refine Go.st (fun _ => XS.iloadN X0.here hx rfl (hb hby d3_6) rfl) ?_
    show Go p e below _ (s₁.setTop (mkF m 7 #[.val (.int p1), .val (.int p2)] [(.int p1)]))
    refine Go.st (fun _ => XS.iconst X0.here hx rfl (hb hby d3_7)) ?_
    show Go p e below _ (s₁.setTop (mkF m 8 #[.val (.int p1), .val (.int p2)] [(.int (1 : Int32)), (.int p1)]))
    by_cases hc2 : p1 = (1 : Int32)
    · refine Go.st (fun _ => XS.icmpNo X0.here hx rfl (hb hby d3_8) rfl (teq hc2).2) ?_
      show Go p e below _ (s₁.setTop (mkF m 11 #[.val (.int p1), .val (.int p2)] []))
      refine Go.st (fun _ => XS.iloadN X0.here hx rfl (hb hby d3_11) rfl) ?_
      show Go p e below _ (s₁.setTop (mkF m 12 #[.val (.int p1), .val (.int p2)] [(.int p2)]))
      refine Go.st (fun _ => XS.iconst X0.here hx rfl (hb hby d3_12)) ?_
      show Go p e below _ (s₁.setTop (mkF m 13 #[.val (.int p1), .val (.int p2)] [(.int (2 : Int32)), (.int p2)]))
      by_cases hc3 : p2 = (2 : Int32)
      · refine Go.st (fun _ => XS.icmpYes X0.here hx rfl (pc0 := 13) (pc' := 20) rfl (hb hby d3_13) rfl (teq hc3).1 (by decide) (by decide)) ?_
        show Go p e below _ (s₁.setTop (mkF m 20 #[.val (.int p1), .val (.int p2)] []))
        refine Go.st (fun _ => XS.iconst X0.here hx rfl (hb hby d3_20)) ?_
        show Go p e below _ (s₁.setTop (mkF m 21 #[.val (.int p1), .val (.int p2)] [(.int (1 : Int32))]))
        refine Go.st (fun _ => XS.goto X0.here hx rfl (pc0 := 21) (pc' := 25) rfl (hb hby d3_21) (by decide) (by decide)) ?_
        show Go p e below _ (s₁.setTop (mkF m 25 #[.val (.int p1), .val (.int p2)] [(.int (1 : Int32))]))
        exact goRetN X0 hx hlk hret (t := .boolean) (by simp) (w := (1 : Int32)) (by decide) e0 (hb hby d3_25) (by decide) (by decide) ⟨by simp [hc1, hc2, hc3], N0, rfl⟩
      · refine Go.st (fun _ => XS.icmpNo X0.here hx rfl (hb hby d3_13) rfl (feq hc3).1) ?_
        show Go p e below _ (s₁.setTop (mkF m 16 #[.val (.int p1), .val (.int p2)] []))
        refine Go.st (fun _ => XS.iloadN X0.here hx rfl (hb hby d3_16) rfl) ?_
        show Go p e below _ (s₁.setTop (mkF m 17 #[.val (.int p1), .val (.int p2)] [(.int p2)]))
        by_cases hc4 : p2 = (0 : Int32)
        · refine Go.st (fun _ => XS.ifNo X0.here hx rfl (hb hby d3_17) rfl ((if0 _ _).trans (teq hc4).2)) ?_
          show Go p e below _ (s₁.setTop (mkF m 20 #[.val (.int p1), .val (.int p2)] []))
          refine Go.st (fun _ => XS.iconst X0.here hx rfl (hb hby d3_20)) ?_
          show Go p e below _ (s₁.setTop (mkF m 21 #[.val (.int p1), .val (.int p2)] [(.int (1 : Int32))]))
          refine Go.st (fun _ => XS.goto X0.here hx rfl (pc0 := 21) (pc' := 25) rfl (hb hby d3_21) (by decide) (by decide)) ?_
          show Go p e below _ (s₁.setTop (mkF m 25 #[.val (.int p1), .val (.int p2)] [(.int (1 : Int32))]))
          exact goRetN X0 hx hlk hret (t := .boolean) (by simp) (w := (1 : Int32)) (by decide) e0 (hb hby d3_25) (by decide) (by decide) ⟨by simp [hc1, hc2, hc3, hc4], N0, rfl⟩
        · refine Go.st (fun _ => XS.ifYes X0.here hx rfl (pc0 := 17) (pc' := 24) rfl (hb hby d3_17) rfl ((if0 _ _).trans (feq hc4).2) (by decide) (by decide)) ?_
          show Go p e below _ (s₁.setTop (mkF m 24 #[.val (.int p1), .val (.int p2)] []))
          refine Go.st (fun _ => XS.iconst X0.here hx rfl (hb hby d3_24)) ?_
          show Go p e below _ (s₁.setTop (mkF m 25 #[.val (.int p1), .val (.int p2)] [(.int (0 : Int32))]))
          exact goRetN X0 hx hlk hret (t := .boolean) (by simp) (w := (0 : Int32)) (by decide) e0 (hb hby d3_25) (by decide) (by decide) ⟨by simp [hc1, hc2, hc3, hc4], N0, rfl⟩
    · refine Go.st (fun _ => XS.icmpYes X0.here hx rfl (pc0 := 8) (pc' := 26) rfl (hb hby d3_8) rfl (feq hc2).2 (by decide) (by decide)) ?_
      show Go p e below _ (s₁.setTop (mkF m 26 #[.val (.int p1), .val (.int p2)] []))
      refine Go.st (fun _ => XS.iloadN X0.here hx rfl (hb hby d3_26) rfl) ?_
      show Go p e below _ (s₁.setTop (mkF m 27 #[.val (.int p1), .val (.int p2)] [(.int p2)]))
      refine Go.st (fun _ => XS.iconst X0.here hx rfl (hb hby d3_27)) ?_
      show Go p e below _ (s₁.setTop (mkF m 28 #[.val (.int p1), .val (.int p2)] [(.int (1 : Int32)), (.int p2)]))
      by_cases hc5 : p2 = (1 : Int32)
      · refine Go.st (fun _ => XS.icmpYes X0.here hx rfl (pc0 := 28) (pc' := 35) rfl (hb hby d3_28) rfl (teq hc5).1 (by decide) (by decide)) ?_
        show Go p e below _ (s₁.setTop (mkF m 35 #[.val (.int p1), .val (.int p2)] []))
        refine Go.st (fun _ => XS.iconst X0.here hx rfl (hb hby d3_35)) ?_
        show Go p e below _ (s₁.setTop (mkF m 36 #[.val (.int p1), .val (.int p2)] [(.int (1 : Int32))]))
        refine Go.st (fun _ => XS.goto X0.here hx rfl (pc0 := 36) (pc' := 40) rfl (hb hby d3_36) (by decide) (by decide)) ?_
        show Go p e below _ (s₁.setTop (mkF m 40 #[.val (.int p1), .val (.int p2)] [(.int (1 : Int32))]))
        exact goRetN X0 hx hlk hret (t := .boolean) (by simp) (w := (1 : Int32)) (by decide) e0 (hb hby d3_40) (by decide) (by decide) ⟨by simp [hc1, hc2, hc5], N0, rfl⟩
      · refine Go.st (fun _ => XS.icmpNo X0.here hx rfl (hb hby d3_28) rfl (feq hc5).1) ?_
        show Go p e below _ (s₁.setTop (mkF m 31 #[.val (.int p1), .val (.int p2)] []))
        refine Go.st (fun _ => XS.iloadN X0.here hx rfl (hb hby d3_31) rfl) ?_
        show Go p e below _ (s₁.setTop (mkF m 32 #[.val (.int p1), .val (.int p2)] [(.int p2)]))
        by_cases hc6 : p2 = (0 : Int32)
        · refine Go.st (fun _ => XS.ifNo X0.here hx rfl (hb hby d3_32) rfl ((if0 _ _).trans (teq hc6).2)) ?_
          show Go p e below _ (s₁.setTop (mkF m 35 #[.val (.int p1), .val (.int p2)] []))
          refine Go.st (fun _ => XS.iconst X0.here hx rfl (hb hby d3_35)) ?_
          show Go p e below _ (s₁.setTop (mkF m 36 #[.val (.int p1), .val (.int p2)] [(.int (1 : Int32))]))
          refine Go.st (fun _ => XS.goto X0.here hx rfl (pc0 := 36) (pc' := 40) rfl (hb hby d3_36) (by decide) (by decide)) ?_
          show Go p e below _ (s₁.setTop (mkF m 40 #[.val (.int p1), .val (.int p2)] [(.int (1 : Int32))]))
          exact goRetN X0 hx hlk hret (t := .boolean) (by simp) (w := (1 : Int32)) (by decide) e0 (hb hby d3_40) (by decide) (by decide) ⟨by simp [hc1, hc2, hc5, hc6], N0, rfl⟩
        · refine Go.st (fun _ => XS.ifYes X0.here hx rfl (pc0 := 32) (pc' := 39) rfl (hb hby d3_32) rfl ((if0 _ _).trans (feq hc6).2) (by decide) (by decide)) ?_
          show Go p e below _ (s₁.setTop (mkF m 39 #[.val (.int p1), .val (.int p2)] []))
          refine Go.st (fun _ => XS.iconst X0.here hx rfl (hb hby d3_39)) ?_
          show Go p e below _ (s₁.setTop (mkF m 40 #[.val (.int p1), .val (.int p2)] [(.int (0 : Int32))]))
          exact goRetN X0 hx hlk hret (t := .boolean) (by simp) (w := (0 : Int32)) (by decide) e0 (hb hby d3_40) (by decide) (by decide) ⟨by simp [hc1, hc2, hc5, hc6], N0, rfl⟩
theorem pn_0 : plainName "com/example/tryst/tryst/elimination/SideMeetsPinLaw" = true := by first | (simp [plainName, overriddenIn]; done) | decide +kernel
set_option maxRecDepth 65536 in
set_option maxHeartbeats 40000000 in
theorem rm0 (l : Launch) (Z : State) (a0 : Array Value) (hw : ∀ d ∈ tables_1, d.before a0 Z = true) (ws : List Jvm.Cond) (p0 p1 : Int32) (w_ANY w_RED w_BLUE : Addr) (h0 : Heap) (n0 : Nat) (O0 : Old Z n0 h0) (S_w_ANY : Sta Z Z.heap "com/example/tryst/tryst/elimination/Side" "ANY" "Lcom/example/tryst/tryst/elimination/Side;" (.ref w_ANY)) (S_w_RED : Sta Z Z.heap "com/example/tryst/tryst/elimination/Side" "RED" "Lcom/example/tryst/tryst/elimination/Side;" (.ref w_RED)) (S_w_BLUE : Sta Z Z.heap "com/example/tryst/tryst/elimination/Side" "BLUE" "Lcom/example/tryst/tryst/elimination/Side;" (.ref w_BLUE)) (E_w_ANY : Exa Z h0 w_ANY "com/example/tryst/tryst/elimination/Side") (E_w_RED : Exa Z h0 w_RED "com/example/tryst/tryst/elimination/Side") (E_w_BLUE : Exa Z h0 w_BLUE "com/example/tryst/tryst/elimination/Side") (ne_w_ANY_w_RED : w_ANY ≠ w_RED) (ne_w_ANY_w_BLUE : w_ANY ≠ w_BLUE) (ne_w_RED_w_BLUE : w_RED ≠ w_BLUE) :
    Ctr l x code maxLocals ret ws room_1 #[(.int p0), (.int p1)] Z h0 (fun v h L => v = some (.int 1) ∧ Fr n0 L) := by
  have ef : ∀ m : MethodId, entryFrame m #[(.int p0), (.int p1)] 8 = mkF m 0 #[.val (.int p0), .val (.int p1), .unset, .unset, .unset, .unset, .unset, .unset] [] := fun m => by first | (simp [entryFrame, mkF, argsToLocals, Value.category]; done) | rfl
  refine Ctr.of (plainFor_of_name pn_0) ?_
  intro p e s m below meth c s₁ hx hZ hby hml hown0 hnm hret hlk X0 e0
  have hown : s.vm.findClass "com/example/tryst/tryst/elimination/SideMeetsPinLaw" = some m.cls := hown0
  have N0 := Fr.nil n0
  refine Go.st (fun t k => castTop (ef m) k) ?_
  show Go p e below _ (s₁.setTop (mkF m 0 #[.val (.int p0), .val (.int p1), .unset, .unset, .unset, .unset, .unset, .unset] []))
  refine Go.st (fun _ => XS.iloadN X0.here hx rfl (hb hby at_0) rfl) ?_
  show Go p e below _ (s₁.setTop (mkF m 1 #[.val (.int p0), .val (.int p1), .unset, .unset, .unset, .unset, .unset, .unset] [(.int p0)]))
  refine Go.st (fun _ => X0.ldcInt hx hown (mvT hZ (hw _ (List.mem_of_getElem? (i := 0) rfl))) (g := (mkF m 1 #[.val (.int p0), .val (.int p1), .unset, .unset, .unset, .unset, .unset, .unset] [(.int p0)])) rfl (hb hby at_1) _) ?_
  show Go p e below _ (s₁.setTop (mkF m 3 #[.val (.int p0), .val (.int p1), .unset, .unset, .unset, .unset, .unset, .unset] [(.int (2147483647 : Int32)), (.int p0)]))
  refine Go.st (fun _ => XS.iand X0.here hx rfl (hb hby at_3) rfl) ?_
  show Go p e below _ (s₁.setTop (mkF m 4 #[.val (.int p0), .val (.int p1), .unset, .unset, .unset, .unset, .unset, .unset] [(.int (p0 &&& (2147483647 : Int32)))]))
  refine Go.st (fun _ => XS.iconst X0.here hx rfl (hb hby at_4)) ?_
  show Go p e below _ (s₁.setTop (mkF m 5 #[.val (.int p0), .val (.int p1), .unset, .unset, .unset, .unset, .unset, .unset] [(.int (3 : Int32)), (.int (p0 &&& (2147483647 : Int32)))]))
  refine Go.st (fun _ => iremM (g := (mkF m 5 #[.val (.int p0), .val (.int p1), .unset, .unset, .unset, .unset, .unset, .unset] [(.int (3 : Int32)), (.int (p0 &&& (2147483647 : Int32)))])) X0 hx rfl (hb hby at_5) rfl (by decide)) ?_
  show Go p e below _ (s₁.setTop (mkF m 6 #[.val (.int p0), .val (.int p1), .unset, .unset, .unset, .unset, .unset, .unset] [(.int ((p0 &&& (2147483647 : Int32)) % (3 : Int32)))]))
  refine Go.st (fun _ => XS.istoreN X0.here hx rfl (hb hby at_6) rfl (l' := #[.val (.int p0), .val (.int p1), .val (.int ((p0 &&& (2147483647 : Int32)) % (3 : Int32))), .unset, .unset, .unset, .unset, .unset]) rfl) ?_
  show Go p e below _ (s₁.setTop (mkF m 7 #[.val (.int p0), .val (.int p1), .val (.int ((p0 &&& (2147483647 : Int32)) % (3 : Int32))), .unset, .unset, .unset, .unset, .unset] []))
  refine Go.st (fun _ => XS.iloadN X0.here hx rfl (hb hby at_7) rfl) ?_
  show Go p e below _ (s₁.setTop (mkF m 8 #[.val (.int p0), .val (.int p1), .val (.int ((p0 &&& (2147483647 : Int32)) % (3 : Int32))), .unset, .unset, .unset, .unset, .unset] [(.int p1)]))
  refine Go.st (fun _ => X0.ldcInt hx hown (mvT hZ (hw _ (List.mem_of_getElem? (i := 0) rfl))) (g := (mkF m 8 #[.val (.int p0), .val (.int p1), .val (.int ((p0 &&& (2147483647 : Int32)) % (3 : Int32))), .unset, .unset, .unset, .unset, .unset] [(.int p1)])) rfl (hb hby at_8) _) ?_
  show Go p e below _ (s₁.setTop (mkF m 10 #[.val (.int p0), .val (.int p1), .val (.int ((p0 &&& (2147483647 : Int32)) % (3 : Int32))), .unset, .unset, .unset, .unset, .unset] [(.int (2147483647 : Int32)), (.int p1)]))
  refine Go.st (fun _ => XS.iand X0.here hx rfl (hb hby at_10) rfl) ?_
  show Go p e below _ (s₁.setTop (mkF m 11 #[.val (.int p0), .val (.int p1), .val (.int ((p0 &&& (2147483647 : Int32)) % (3 : Int32))), .unset, .unset, .unset, .unset, .unset] [(.int (p1 &&& (2147483647 : Int32)))]))
  refine Go.st (fun _ => XS.iconst X0.here hx rfl (hb hby at_11)) ?_
  show Go p e below _ (s₁.setTop (mkF m 12 #[.val (.int p0), .val (.int p1), .val (.int ((p0 &&& (2147483647 : Int32)) % (3 : Int32))), .unset, .unset, .unset, .unset, .unset] [(.int (3 : Int32)), (.int (p1 &&& (2147483647 : Int32)))]))
  refine Go.st (fun _ => iremM (g := (mkF m 12 #[.val (.int p0), .val (.int p1), .val (.int ((p0 &&& (2147483647 : Int32)) % (3 : Int32))), .unset, .unset, .unset, .unset, .unset] [(.int (3 : Int32)), (.int (p1 &&& (2147483647 : Int32)))])) X0 hx rfl (hb hby at_12) rfl (by decide)) ?_
  show Go p e below _ (s₁.setTop (mkF m 13 #[.val (.int p0), .val (.int p1), .val (.int ((p0 &&& (2147483647 : Int32)) % (3 : Int32))), .unset, .unset, .unset, .unset, .unset] [(.int ((p1 &&& (2147483647 : Int32)) % (3 : Int32)))]))
  refine Go.st (fun _ => XS.istoreN X0.here hx rfl (hb hby at_13) rfl (l' := #[.val (.int p0), .val (.int p1), .val (.int ((p0 &&& (2147483647 : Int32)) % (3 : Int32))), .val (.int ((p1 &&& (2147483647 : Int32)) % (3 : Int32))), .unset, .unset, .unset, .unset]) rfl) ?_
  show Go p e below _ (s₁.setTop (mkF m 14 #[.val (.int p0), .val (.int p1), .val (.int ((p0 &&& (2147483647 : Int32)) % (3 : Int32))), .val (.int ((p1 &&& (2147483647 : Int32)) % (3 : Int32))), .unset, .unset, .unset, .unset] []))
  rcases own_mod3 p0 with q0 | q0 | q0
  · rw [q0]
    rcases own_mod3 p1 with q1 | q1 | q1
    · rw [q1]
      show Go p e below _ (s₁.setTop (mkF m 14 #[.val (.int p0), .val (.int p1), .val (.int (0 : Int32)), .val (.int (0 : Int32)), .unset, .unset, .unset, .unset] []))
      refine Go.st (fun _ => XS.iloadN X0.here hx rfl (hb hby at_14) rfl) ?_
      show Go p e below _ (s₁.setTop (mkF m 15 #[.val (.int p0), .val (.int p1), .val (.int (0 : Int32)), .val (.int (0 : Int32)), .unset, .unset, .unset, .unset] [(.int (0 : Int32))]))
      refine goCallS X0 hx hZ (y := (⟨"com/example/tryst/tryst/elimination/SideMeetsPinLaw", "side", "(I)Lcom/example/tryst/tryst/elimination/Side;"⟩ : MethodName)) hown (hw _ (List.mem_of_getElem? (i := 1) rfl)) (hw _ (List.mem_of_getElem? (i := 2) rfl)) (hw _ (List.mem_of_getElem? (i := 3) rfl)) (hw _ (List.mem_of_getElem? (i := 4) rfl)) (by decide) (argsL := [(.int (0 : Int32))]) (rest := []) e0 (rm1 l Z a0 hw [] (0 : Int32) w_ANY w_RED w_BLUE h0 n0 O0 S_w_ANY S_w_RED S_w_BLUE) 0 (by decide) (by decide) (by decide) (by decide) (mkF m 15 #[.val (.int p0), .val (.int p1), .val (.int (0 : Int32)), .val (.int (0 : Int32)), .unset, .unset, .unset, .unset] [(.int (0 : Int32))]) rfl (by rw [hml]; rfl) (lenOf pd_0 rfl) rfl (hb hby at_15) (Nat.le_of_eq rfl) ?_
      intro v1 T1 L1 X1 hQ1
      obtain ⟨hv1, M1, e1⟩ := hQ1
      have N1 := Fr.app N0 M1
      obtain rfl : v1 = some (.ref w_ANY) := hv1.trans (by simp)
      show Go p e below _ (T1.setTop (mkF m 18 #[.val (.int p0), .val (.int p1), .val (.int (0 : Int32)), .val (.int (0 : Int32)), .unset, .unset, .unset, .unset] [(.ref w_ANY)]))
      refine Go.st (fun _ => XS.astore X1.here hx rfl (hb hby at_18) rfl rfl (l' := #[.val (.int p0), .val (.int p1), .val (.int (0 : Int32)), .val (.int (0 : Int32)), .val (.ref w_ANY), .unset, .unset, .unset]) rfl) ?_
      show Go p e below _ (T1.setTop (mkF m 20 #[.val (.int p0), .val (.int p1), .val (.int (0 : Int32)), .val (.int (0 : Int32)), .val (.ref w_ANY), .unset, .unset, .unset] []))
      refine Go.st (fun _ => XS.iloadN X1.here hx rfl (hb hby at_20) rfl) ?_
      show Go p e below _ (T1.setTop (mkF m 21 #[.val (.int p0), .val (.int p1), .val (.int (0 : Int32)), .val (.int (0 : Int32)), .val (.ref w_ANY), .unset, .unset, .unset] [(.int (0 : Int32))]))
      refine goCallS X1 hx hZ (y := (⟨"com/example/tryst/tryst/elimination/SideMeetsPinLaw", "side", "(I)Lcom/example/tryst/tryst/elimination/Side;"⟩ : MethodName)) hown (hw _ (List.mem_of_getElem? (i := 1) rfl)) (hw _ (List.mem_of_getElem? (i := 2) rfl)) (hw _ (List.mem_of_getElem? (i := 3) rfl)) (hw _ (List.mem_of_getElem? (i := 4) rfl)) (by decide) (argsL := [(.int (0 : Int32))]) (rest := []) e1 (rm1 l Z a0 hw [] (0 : Int32) w_ANY w_RED w_BLUE h0 n0 O0 S_w_ANY S_w_RED S_w_BLUE) 0 (by decide) (by decide) (by decide) (by decide) (mkF m 21 #[.val (.int p0), .val (.int p1), .val (.int (0 : Int32)), .val (.int (0 : Int32)), .val (.ref w_ANY), .unset, .unset, .unset] [(.int (0 : Int32))]) rfl (by rw [hml]; rfl) (lenOf pd_0 rfl) rfl (hb hby at_21) (Nat.le_of_eq rfl) ?_
      intro v2 T2 L2 X2 hQ2
      obtain ⟨hv2, M2, e2⟩ := hQ2
      have N2 := Fr.app N1 M2
      obtain rfl : v2 = some (.ref w_ANY) := hv2.trans (by simp)
      show Go p e below _ (T2.setTop (mkF m 24 #[.val (.int p0), .val (.int p1), .val (.int (0 : Int32)), .val (.int (0 : Int32)), .val (.ref w_ANY), .unset, .unset, .unset] [(.ref w_ANY)]))
      refine Go.st (fun _ => XS.astore X2.here hx rfl (hb hby at_24) rfl rfl (l' := #[.val (.int p0), .val (.int p1), .val (.int (0 : Int32)), .val (.int (0 : Int32)), .val (.ref w_ANY), .val (.ref w_ANY), .unset, .unset]) rfl) ?_
      show Go p e below _ (T2.setTop (mkF m 26 #[.val (.int p0), .val (.int p1), .val (.int (0 : Int32)), .val (.int (0 : Int32)), .val (.ref w_ANY), .val (.ref w_ANY), .unset, .unset] []))
      refine Go.st (fun _ => XS.aload X2.here hx rfl (hb hby at_26) rfl rfl) ?_
      show Go p e below _ (T2.setTop (mkF m 28 #[.val (.int p0), .val (.int p1), .val (.int (0 : Int32)), .val (.int (0 : Int32)), .val (.ref w_ANY), .val (.ref w_ANY), .unset, .unset] [(.ref w_ANY)]))
      refine Go.st (fun _ => XS.aload X2.here hx rfl (hb hby at_28) rfl rfl) ?_
      show Go p e below _ (T2.setTop (mkF m 30 #[.val (.int p0), .val (.int p1), .val (.int (0 : Int32)), .val (.int (0 : Int32)), .val (.ref w_ANY), .val (.ref w_ANY), .unset, .unset] [(.ref w_ANY), (.ref w_ANY)]))
      refine goVirt X2 hx hZ (y := (⟨"com/example/tryst/tryst/elimination/Side", "meets", "(Lcom/example/tryst/tryst/elimination/Side;)Z"⟩ : MethodName)) (z := (⟨"com/example/tryst/tryst/elimination/Side", "meets", "(Lcom/example/tryst/tryst/elimination/Side;)Z"⟩ : MethodName)) hown (hw _ (List.mem_of_getElem? (i := 8) rfl)) (hw _ (List.mem_of_getElem? (i := 9) rfl)) (notFace_of_selects (args := #[]) (mvT hZ (hw _ (List.mem_of_getElem? (i := 11) rfl)))) (hw _ (List.mem_of_getElem? (i := 11) rfl)) (hw _ (List.mem_of_getElem? (i := 10) rfl)) (hw _ (List.mem_of_getElem? (i := 6) rfl)) (hw _ (List.mem_of_getElem? (i := 12) rfl)) (by decide) (a := w_ANY) (argsL := [(.ref w_ANY)]) (rest := []) e2 E_w_ANY (rm2 l Z a0 hw [] w_ANY w_ANY w_ANY h0 n0 O0 S_w_ANY) 0 (by decide) (by decide) (by decide) (by decide) (mkF m 30 #[.val (.int p0), .val (.int p1), .val (.int (0 : Int32)), .val (.int (0 : Int32)), .val (.ref w_ANY), .val (.ref w_ANY), .unset, .unset] [(.ref w_ANY), (.ref w_ANY)]) rfl (by rw [hml]; rfl) (lenOf pd_1 rfl) rfl (hb hby at_30) (Nat.le_of_eq rfl) ?_
      intro v3 T3 L3 X3 hQ3
      obtain ⟨hv3, M3, e3⟩ := hQ3
      have N3 := Fr.app N2 M3
      obtain rfl : v3 = some (.int 1) := hv3.trans (by simp [ne_w_ANY_w_RED, Ne.symm ne_w_ANY_w_RED, ne_w_ANY_w_BLUE, Ne.symm ne_w_ANY_w_BLUE, ne_w_RED_w_BLUE, Ne.symm ne_w_RED_w_BLUE])
      show Go p e below _ (T3.setTop (mkF m 33 #[.val (.int p0), .val (.int p1), .val (.int (0 : Int32)), .val (.int (0 : Int32)), .val (.ref w_ANY), .val (.ref w_ANY), .unset, .unset] [(.int (1 : Int32))]))
      refine Go.st (fun _ => XS.istore X3.here hx rfl (hb hby at_33) rfl (l' := #[.val (.int p0), .val (.int p1), .val (.int (0 : Int32)), .val (.int (0 : Int32)), .val (.ref w_ANY), .val (.ref w_ANY), .val (.int (1 : Int32)), .unset]) rfl) ?_
      show Go p e below _ (T3.setTop (mkF m 35 #[.val (.int p0), .val (.int p1), .val (.int (0 : Int32)), .val (.int (0 : Int32)), .val (.ref w_ANY), .val (.ref w_ANY), .val (.int (1 : Int32)), .unset] []))
      refine Go.st (fun _ => XS.aload X3.here hx rfl (hb hby at_35) rfl rfl) ?_
      show Go p e below _ (T3.setTop (mkF m 37 #[.val (.int p0), .val (.int p1), .val (.int (0 : Int32)), .val (.int (0 : Int32)), .val (.ref w_ANY), .val (.ref w_ANY), .val (.int (1 : Int32)), .unset] [(.ref w_ANY)]))
      refine Go.st (fun _ => XS.aload X3.here hx rfl (hb hby at_37) rfl rfl) ?_
      show Go p e below _ (T3.setTop (mkF m 39 #[.val (.int p0), .val (.int p1), .val (.int (0 : Int32)), .val (.int (0 : Int32)), .val (.ref w_ANY), .val (.ref w_ANY), .val (.int (1 : Int32)), .unset] [(.ref w_ANY), (.ref w_ANY)]))
      refine goVirt X3 hx hZ (y := (⟨"com/example/tryst/tryst/elimination/Side", "meets", "(Lcom/example/tryst/tryst/elimination/Side;)Z"⟩ : MethodName)) (z := (⟨"com/example/tryst/tryst/elimination/Side", "meets", "(Lcom/example/tryst/tryst/elimination/Side;)Z"⟩ : MethodName)) hown (hw _ (List.mem_of_getElem? (i := 8) rfl)) (hw _ (List.mem_of_getElem? (i := 9) rfl)) (notFace_of_selects (args := #[]) (mvT hZ (hw _ (List.mem_of_getElem? (i := 11) rfl)))) (hw _ (List.mem_of_getElem? (i := 11) rfl)) (hw _ (List.mem_of_getElem? (i := 10) rfl)) (hw _ (List.mem_of_getElem? (i := 6) rfl)) (hw _ (List.mem_of_getElem? (i := 12) rfl)) (by decide) (a := w_ANY) (argsL := [(.ref w_ANY)]) (rest := []) e3 E_w_ANY (rm2 l Z a0 hw [] w_ANY w_ANY w_ANY h0 n0 O0 S_w_ANY) 0 (by decide) (by decide) (by decide) (by decide) (mkF m 39 #[.val (.int p0), .val (.int p1), .val (.int (0 : Int32)), .val (.int (0 : Int32)), .val (.ref w_ANY), .val (.ref w_ANY), .val (.int (1 : Int32)), .unset] [(.ref w_ANY), (.ref w_ANY)]) rfl (by rw [hml]; rfl) (lenOf pd_1 rfl) rfl (hb hby at_39) (Nat.le_of_eq rfl) ?_
      intro v4 T4 L4 X4 hQ4
      obtain ⟨hv4, M4, e4⟩ := hQ4
      have N4 := Fr.app N3 M4
      obtain rfl : v4 = some (.int 1) := hv4.trans (by simp [ne_w_ANY_w_RED, Ne.symm ne_w_ANY_w_RED, ne_w_ANY_w_BLUE, Ne.symm ne_w_ANY_w_BLUE, ne_w_RED_w_BLUE, Ne.symm ne_w_RED_w_BLUE])
      show Go p e below _ (T4.setTop (mkF m 42 #[.val (.int p0), .val (.int p1), .val (.int (0 : Int32)), .val (.int (0 : Int32)), .val (.ref w_ANY), .val (.ref w_ANY), .val (.int (1 : Int32)), .unset] [(.int (1 : Int32))]))
      refine Go.st (fun _ => XS.istore X4.here hx rfl (hb hby at_42) rfl (l' := #[.val (.int p0), .val (.int p1), .val (.int (0 : Int32)), .val (.int (0 : Int32)), .val (.ref w_ANY), .val (.ref w_ANY), .val (.int (1 : Int32)), .val (.int (1 : Int32))]) rfl) ?_
      show Go p e below _ (T4.setTop (mkF m 44 #[.val (.int p0), .val (.int p1), .val (.int (0 : Int32)), .val (.int (0 : Int32)), .val (.ref w_ANY), .val (.ref w_ANY), .val (.int (1 : Int32)), .val (.int (1 : Int32))] []))
      refine Go.st (fun _ => XS.iload X4.here hx rfl (hb hby at_44) rfl) ?_
      show Go p e below _ (T4.setTop (mkF m 46 #[.val (.int p0), .val (.int p1), .val (.int (0 : Int32)), .val (.int (0 : Int32)), .val (.ref w_ANY), .val (.ref w_ANY), .val (.int (1 : Int32)), .val (.int (1 : Int32))] [(.int (1 : Int32))]))
      refine Go.st (fun _ => XS.iloadN X4.here hx rfl (hb hby at_46) rfl) ?_
      show Go p e below _ (T4.setTop (mkF m 47 #[.val (.int p0), .val (.int p1), .val (.int (0 : Int32)), .val (.int (0 : Int32)), .val (.ref w_ANY), .val (.ref w_ANY), .val (.int (1 : Int32)), .val (.int (1 : Int32))] [(.int (0 : Int32)), (.int (1 : Int32))]))
      refine Go.st (fun _ => XS.iloadN X4.here hx rfl (hb hby at_47) rfl) ?_
      show Go p e below _ (T4.setTop (mkF m 48 #[.val (.int p0), .val (.int p1), .val (.int (0 : Int32)), .val (.int (0 : Int32)), .val (.ref w_ANY), .val (.ref w_ANY), .val (.int (1 : Int32)), .val (.int (1 : Int32))] [(.int (0 : Int32)), (.int (0 : Int32)), (.int (1 : Int32))]))
      refine goCallS X4 hx hZ (y := (⟨"com/example/tryst/tryst/elimination/SideMeetsPinLaw", "expected", "(II)Z"⟩ : MethodName)) hown (hw _ (List.mem_of_getElem? (i := 14) rfl)) (hw _ (List.mem_of_getElem? (i := 15) rfl)) (hw _ (List.mem_of_getElem? (i := 3) rfl)) (hw _ (List.mem_of_getElem? (i := 16) rfl)) (by decide) (argsL := [(.int (0 : Int32)), (.int (0 : Int32))]) (rest := [(.int (1 : Int32))]) e4 (rm3 l Z a0 hw [] (0 : Int32) (0 : Int32) h0 n0 O0) 1 (by decide) (by decide) (by decide) (by decide) (mkF m 48 #[.val (.int p0), .val (.int p1), .val (.int (0 : Int32)), .val (.int (0 : Int32)), .val (.ref w_ANY), .val (.ref w_ANY), .val (.int (1 : Int32)), .val (.int (1 : Int32))] [(.int (0 : Int32)), (.int (0 : Int32)), (.int (1 : Int32))]) rfl (by rw [hml]; rfl) (lenOf pd_2 rfl) rfl (hb hby at_48) (Nat.le_of_eq rfl) ?_
      intro v5 T5 L5 X5 hQ5
      obtain ⟨hv5, M5, e5⟩ := hQ5
      have N5 := Fr.app N4 M5
      obtain rfl : v5 = some (.int 1) := hv5.trans (by simp)
      show Go p e below _ (T5.setTop (mkF m 51 #[.val (.int p0), .val (.int p1), .val (.int (0 : Int32)), .val (.int (0 : Int32)), .val (.ref w_ANY), .val (.ref w_ANY), .val (.int (1 : Int32)), .val (.int (1 : Int32))] [(.int (1 : Int32)), (.int (1 : Int32))]))
      refine Go.st (fun _ => XS.icmpNo X5.here hx rfl (hb hby at_51) rfl (teq (by decide : (1 : Int32) = (1 : Int32))).2) ?_
      show Go p e below _ (T5.setTop (mkF m 54 #[.val (.int p0), .val (.int p1), .val (.int (0 : Int32)), .val (.int (0 : Int32)), .val (.ref w_ANY), .val (.ref w_ANY), .val (.int (1 : Int32)), .val (.int (1 : Int32))] []))
      refine Go.st (fun _ => XS.iload X5.here hx rfl (hb hby at_54) rfl) ?_
      show Go p e below _ (T5.setTop (mkF m 56 #[.val (.int p0), .val (.int p1), .val (.int (0 : Int32)), .val (.int (0 : Int32)), .val (.ref w_ANY), .val (.ref w_ANY), .val (.int (1 : Int32)), .val (.int (1 : Int32))] [(.int (1 : Int32))]))
      refine Go.st (fun _ => XS.iloadN X5.here hx rfl (hb hby at_56) rfl) ?_
      show Go p e below _ (T5.setTop (mkF m 57 #[.val (.int p0), .val (.int p1), .val (.int (0 : Int32)), .val (.int (0 : Int32)), .val (.ref w_ANY), .val (.ref w_ANY), .val (.int (1 : Int32)), .val (.int (1 : Int32))] [(.int (0 : Int32)), (.int (1 : Int32))]))
      refine Go.st (fun _ => XS.iloadN X5.here hx rfl (hb hby at_57) rfl) ?_
      show Go p e below _ (T5.setTop (mkF m 58 #[.val (.int p0), .val (.int p1), .val (.int (0 : Int32)), .val (.int (0 : Int32)), .val (.ref w_ANY), .val (.ref w_ANY), .val (.int (1 : Int32)), .val (.int (1 : Int32))] [(.int (0 : Int32)), (.int (0 : Int32)), (.int (1 : Int32))]))
      refine goCallS X5 hx hZ (y := (⟨"com/example/tryst/tryst/elimination/SideMeetsPinLaw", "expected", "(II)Z"⟩ : MethodName)) hown (hw _ (List.mem_of_getElem? (i := 14) rfl)) (hw _ (List.mem_of_getElem? (i := 15) rfl)) (hw _ (List.mem_of_getElem? (i := 3) rfl)) (hw _ (List.mem_of_getElem? (i := 16) rfl)) (by decide) (argsL := [(.int (0 : Int32)), (.int (0 : Int32))]) (rest := [(.int (1 : Int32))]) e5 (rm3 l Z a0 hw [] (0 : Int32) (0 : Int32) h0 n0 O0) 1 (by decide) (by decide) (by decide) (by decide) (mkF m 58 #[.val (.int p0), .val (.int p1), .val (.int (0 : Int32)), .val (.int (0 : Int32)), .val (.ref w_ANY), .val (.ref w_ANY), .val (.int (1 : Int32)), .val (.int (1 : Int32))] [(.int (0 : Int32)), (.int (0 : Int32)), (.int (1 : Int32))]) rfl (by rw [hml]; rfl) (lenOf pd_2 rfl) rfl (hb hby at_58) (Nat.le_of_eq rfl) ?_
      intro v6 T6 L6 X6 hQ6
      obtain ⟨hv6, M6, e6⟩ := hQ6
      have N6 := Fr.app N5 M6
      obtain rfl : v6 = some (.int 1) := hv6.trans (by simp)
      show Go p e below _ (T6.setTop (mkF m 61 #[.val (.int p0), .val (.int p1), .val (.int (0 : Int32)), .val (.int (0 : Int32)), .val (.ref w_ANY), .val (.ref w_ANY), .val (.int (1 : Int32)), .val (.int (1 : Int32))] [(.int (1 : Int32)), (.int (1 : Int32))]))
      refine Go.st (fun _ => XS.icmpNo X6.here hx rfl (hb hby at_61) rfl (teq (by decide : (1 : Int32) = (1 : Int32))).2) ?_
      show Go p e below _ (T6.setTop (mkF m 64 #[.val (.int p0), .val (.int p1), .val (.int (0 : Int32)), .val (.int (0 : Int32)), .val (.ref w_ANY), .val (.ref w_ANY), .val (.int (1 : Int32)), .val (.int (1 : Int32))] []))
      refine Go.st (fun _ => XS.iload X6.here hx rfl (hb hby at_64) rfl) ?_
      show Go p e below _ (T6.setTop (mkF m 66 #[.val (.int p0), .val (.int p1), .val (.int (0 : Int32)), .val (.int (0 : Int32)), .val (.ref w_ANY), .val (.ref w_ANY), .val (.int (1 : Int32)), .val (.int (1 : Int32))] [(.int (1 : Int32))]))
      refine Go.st (fun _ => XS.iload X6.here hx rfl (hb hby at_66) rfl) ?_
      show Go p e below _ (T6.setTop (mkF m 68 #[.val (.int p0), .val (.int p1), .val (.int (0 : Int32)), .val (.int (0 : Int32)), .val (.ref w_ANY), .val (.ref w_ANY), .val (.int (1 : Int32)), .val (.int (1 : Int32))] [(.int (1 : Int32)), (.int (1 : Int32))]))
      refine Go.st (fun _ => XS.icmpNo X6.here hx rfl (hb hby at_68) rfl (teq (by decide : (1 : Int32) = (1 : Int32))).2) ?_
      show Go p e below _ (T6.setTop (mkF m 71 #[.val (.int p0), .val (.int p1), .val (.int (0 : Int32)), .val (.int (0 : Int32)), .val (.ref w_ANY), .val (.ref w_ANY), .val (.int (1 : Int32)), .val (.int (1 : Int32))] []))
      refine Go.st (fun _ => XS.iconst X6.here hx rfl (hb hby at_71)) ?_
      show Go p e below _ (T6.setTop (mkF m 72 #[.val (.int p0), .val (.int p1), .val (.int (0 : Int32)), .val (.int (0 : Int32)), .val (.ref w_ANY), .val (.ref w_ANY), .val (.int (1 : Int32)), .val (.int (1 : Int32))] [(.int (1 : Int32))]))
      refine Go.st (fun _ => XS.goto X6.here hx rfl (pc0 := 72) (pc' := 76) rfl (hb hby at_72) (by decide) (by decide)) ?_
      show Go p e below _ (T6.setTop (mkF m 76 #[.val (.int p0), .val (.int p1), .val (.int (0 : Int32)), .val (.int (0 : Int32)), .val (.ref w_ANY), .val (.ref w_ANY), .val (.int (1 : Int32)), .val (.int (1 : Int32))] [(.int (1 : Int32))]))
      exact goRetN X6 hx hlk hret (t := .boolean) (by simp) (w := (1 : Int32)) (by decide) e6 (hb hby at_76) (by decide) (by decide) ⟨rfl, N6⟩
    · rw [q1]
      show Go p e below _ (s₁.setTop (mkF m 14 #[.val (.int p0), .val (.int p1), .val (.int (0 : Int32)), .val (.int (1 : Int32)), .unset, .unset, .unset, .unset] []))
      refine Go.st (fun _ => XS.iloadN X0.here hx rfl (hb hby at_14) rfl) ?_
      show Go p e below _ (s₁.setTop (mkF m 15 #[.val (.int p0), .val (.int p1), .val (.int (0 : Int32)), .val (.int (1 : Int32)), .unset, .unset, .unset, .unset] [(.int (0 : Int32))]))
      refine goCallS X0 hx hZ (y := (⟨"com/example/tryst/tryst/elimination/SideMeetsPinLaw", "side", "(I)Lcom/example/tryst/tryst/elimination/Side;"⟩ : MethodName)) hown (hw _ (List.mem_of_getElem? (i := 1) rfl)) (hw _ (List.mem_of_getElem? (i := 2) rfl)) (hw _ (List.mem_of_getElem? (i := 3) rfl)) (hw _ (List.mem_of_getElem? (i := 4) rfl)) (by decide) (argsL := [(.int (0 : Int32))]) (rest := []) e0 (rm1 l Z a0 hw [] (0 : Int32) w_ANY w_RED w_BLUE h0 n0 O0 S_w_ANY S_w_RED S_w_BLUE) 0 (by decide) (by decide) (by decide) (by decide) (mkF m 15 #[.val (.int p0), .val (.int p1), .val (.int (0 : Int32)), .val (.int (1 : Int32)), .unset, .unset, .unset, .unset] [(.int (0 : Int32))]) rfl (by rw [hml]; rfl) (lenOf pd_0 rfl) rfl (hb hby at_15) (Nat.le_of_eq rfl) ?_
      intro v7 T7 L7 X7 hQ7
      obtain ⟨hv7, M7, e7⟩ := hQ7
      have N7 := Fr.app N0 M7
      obtain rfl : v7 = some (.ref w_ANY) := hv7.trans (by simp)
      show Go p e below _ (T7.setTop (mkF m 18 #[.val (.int p0), .val (.int p1), .val (.int (0 : Int32)), .val (.int (1 : Int32)), .unset, .unset, .unset, .unset] [(.ref w_ANY)]))
      refine Go.st (fun _ => XS.astore X7.here hx rfl (hb hby at_18) rfl rfl (l' := #[.val (.int p0), .val (.int p1), .val (.int (0 : Int32)), .val (.int (1 : Int32)), .val (.ref w_ANY), .unset, .unset, .unset]) rfl) ?_
      show Go p e below _ (T7.setTop (mkF m 20 #[.val (.int p0), .val (.int p1), .val (.int (0 : Int32)), .val (.int (1 : Int32)), .val (.ref w_ANY), .unset, .unset, .unset] []))
      refine Go.st (fun _ => XS.iloadN X7.here hx rfl (hb hby at_20) rfl) ?_
      show Go p e below _ (T7.setTop (mkF m 21 #[.val (.int p0), .val (.int p1), .val (.int (0 : Int32)), .val (.int (1 : Int32)), .val (.ref w_ANY), .unset, .unset, .unset] [(.int (1 : Int32))]))
      refine goCallS X7 hx hZ (y := (⟨"com/example/tryst/tryst/elimination/SideMeetsPinLaw", "side", "(I)Lcom/example/tryst/tryst/elimination/Side;"⟩ : MethodName)) hown (hw _ (List.mem_of_getElem? (i := 1) rfl)) (hw _ (List.mem_of_getElem? (i := 2) rfl)) (hw _ (List.mem_of_getElem? (i := 3) rfl)) (hw _ (List.mem_of_getElem? (i := 4) rfl)) (by decide) (argsL := [(.int (1 : Int32))]) (rest := []) e7 (rm1 l Z a0 hw [] (1 : Int32) w_ANY w_RED w_BLUE h0 n0 O0 S_w_ANY S_w_RED S_w_BLUE) 0 (by decide) (by decide) (by decide) (by decide) (mkF m 21 #[.val (.int p0), .val (.int p1), .val (.int (0 : Int32)), .val (.int (1 : Int32)), .val (.ref w_ANY), .unset, .unset, .unset] [(.int (1 : Int32))]) rfl (by rw [hml]; rfl) (lenOf pd_0 rfl) rfl (hb hby at_21) (Nat.le_of_eq rfl) ?_
      intro v8 T8 L8 X8 hQ8
      obtain ⟨hv8, M8, e8⟩ := hQ8
      have N8 := Fr.app N7 M8
      obtain rfl : v8 = some (.ref w_RED) := hv8.trans (by simp)
      show Go p e below _ (T8.setTop (mkF m 24 #[.val (.int p0), .val (.int p1), .val (.int (0 : Int32)), .val (.int (1 : Int32)), .val (.ref w_ANY), .unset, .unset, .unset] [(.ref w_RED)]))
      refine Go.st (fun _ => XS.astore X8.here hx rfl (hb hby at_24) rfl rfl (l' := #[.val (.int p0), .val (.int p1), .val (.int (0 : Int32)), .val (.int (1 : Int32)), .val (.ref w_ANY), .val (.ref w_RED), .unset, .unset]) rfl) ?_
      show Go p e below _ (T8.setTop (mkF m 26 #[.val (.int p0), .val (.int p1), .val (.int (0 : Int32)), .val (.int (1 : Int32)), .val (.ref w_ANY), .val (.ref w_RED), .unset, .unset] []))
      refine Go.st (fun _ => XS.aload X8.here hx rfl (hb hby at_26) rfl rfl) ?_
      show Go p e below _ (T8.setTop (mkF m 28 #[.val (.int p0), .val (.int p1), .val (.int (0 : Int32)), .val (.int (1 : Int32)), .val (.ref w_ANY), .val (.ref w_RED), .unset, .unset] [(.ref w_ANY)]))
      refine Go.st (fun _ => XS.aload X8.here hx rfl (hb hby at_28) rfl rfl) ?_
      show Go p e below _ (T8.setTop (mkF m 30 #[.val (.int p0), .val (.int p1), .val (.int (0 : Int32)), .val (.int (1 : Int32)), .val (.ref w_ANY), .val (.ref w_RED), .unset, .unset] [(.ref w_RED), (.ref w_ANY)]))
      refine goVirt X8 hx hZ (y := (⟨"com/example/tryst/tryst/elimination/Side", "meets", "(Lcom/example/tryst/tryst/elimination/Side;)Z"⟩ : MethodName)) (z := (⟨"com/example/tryst/tryst/elimination/Side", "meets", "(Lcom/example/tryst/tryst/elimination/Side;)Z"⟩ : MethodName)) hown (hw _ (List.mem_of_getElem? (i := 8) rfl)) (hw _ (List.mem_of_getElem? (i := 9) rfl)) (notFace_of_selects (args := #[]) (mvT hZ (hw _ (List.mem_of_getElem? (i := 11) rfl)))) (hw _ (List.mem_of_getElem? (i := 11) rfl)) (hw _ (List.mem_of_getElem? (i := 10) rfl)) (hw _ (List.mem_of_getElem? (i := 6) rfl)) (hw _ (List.mem_of_getElem? (i := 12) rfl)) (by decide) (a := w_ANY) (argsL := [(.ref w_RED)]) (rest := []) e8 E_w_ANY (rm2 l Z a0 hw [] w_ANY w_RED w_ANY h0 n0 O0 S_w_ANY) 0 (by decide) (by decide) (by decide) (by decide) (mkF m 30 #[.val (.int p0), .val (.int p1), .val (.int (0 : Int32)), .val (.int (1 : Int32)), .val (.ref w_ANY), .val (.ref w_RED), .unset, .unset] [(.ref w_RED), (.ref w_ANY)]) rfl (by rw [hml]; rfl) (lenOf pd_1 rfl) rfl (hb hby at_30) (Nat.le_of_eq rfl) ?_
      intro v9 T9 L9 X9 hQ9
      obtain ⟨hv9, M9, e9⟩ := hQ9
      have N9 := Fr.app N8 M9
      obtain rfl : v9 = some (.int 1) := hv9.trans (by simp [ne_w_ANY_w_RED, Ne.symm ne_w_ANY_w_RED, ne_w_ANY_w_BLUE, Ne.symm ne_w_ANY_w_BLUE, ne_w_RED_w_BLUE, Ne.symm ne_w_RED_w_BLUE])
      show Go p e below _ (T9.setTop (mkF m 33 #[.val (.int p0), .val (.int p1), .val (.int (0 : Int32)), .val (.int (1 : Int32)), .val (.ref w_ANY), .val (.ref w_RED), .unset, .unset] [(.int (1 : Int32))]))
      refine Go.st (fun _ => XS.istore X9.here hx rfl (hb hby at_33) rfl (l' := #[.val (.int p0), .val (.int p1), .val (.int (0 : Int32)), .val (.int (1 : Int32)), .val (.ref w_ANY), .val (.ref w_RED), .val (.int (1 : Int32)), .unset]) rfl) ?_
      show Go p e below _ (T9.setTop (mkF m 35 #[.val (.int p0), .val (.int p1), .val (.int (0 : Int32)), .val (.int (1 : Int32)), .val (.ref w_ANY), .val (.ref w_RED), .val (.int (1 : Int32)), .unset] []))
      refine Go.st (fun _ => XS.aload X9.here hx rfl (hb hby at_35) rfl rfl) ?_
      show Go p e below _ (T9.setTop (mkF m 37 #[.val (.int p0), .val (.int p1), .val (.int (0 : Int32)), .val (.int (1 : Int32)), .val (.ref w_ANY), .val (.ref w_RED), .val (.int (1 : Int32)), .unset] [(.ref w_RED)]))
      refine Go.st (fun _ => XS.aload X9.here hx rfl (hb hby at_37) rfl rfl) ?_
      show Go p e below _ (T9.setTop (mkF m 39 #[.val (.int p0), .val (.int p1), .val (.int (0 : Int32)), .val (.int (1 : Int32)), .val (.ref w_ANY), .val (.ref w_RED), .val (.int (1 : Int32)), .unset] [(.ref w_ANY), (.ref w_RED)]))
      refine goVirt X9 hx hZ (y := (⟨"com/example/tryst/tryst/elimination/Side", "meets", "(Lcom/example/tryst/tryst/elimination/Side;)Z"⟩ : MethodName)) (z := (⟨"com/example/tryst/tryst/elimination/Side", "meets", "(Lcom/example/tryst/tryst/elimination/Side;)Z"⟩ : MethodName)) hown (hw _ (List.mem_of_getElem? (i := 8) rfl)) (hw _ (List.mem_of_getElem? (i := 9) rfl)) (notFace_of_selects (args := #[]) (mvT hZ (hw _ (List.mem_of_getElem? (i := 11) rfl)))) (hw _ (List.mem_of_getElem? (i := 11) rfl)) (hw _ (List.mem_of_getElem? (i := 10) rfl)) (hw _ (List.mem_of_getElem? (i := 6) rfl)) (hw _ (List.mem_of_getElem? (i := 12) rfl)) (by decide) (a := w_RED) (argsL := [(.ref w_ANY)]) (rest := []) e9 E_w_RED (rm2 l Z a0 hw [] w_RED w_ANY w_ANY h0 n0 O0 S_w_ANY) 0 (by decide) (by decide) (by decide) (by decide) (mkF m 39 #[.val (.int p0), .val (.int p1), .val (.int (0 : Int32)), .val (.int (1 : Int32)), .val (.ref w_ANY), .val (.ref w_RED), .val (.int (1 : Int32)), .unset] [(.ref w_ANY), (.ref w_RED)]) rfl (by rw [hml]; rfl) (lenOf pd_1 rfl) rfl (hb hby at_39) (Nat.le_of_eq rfl) ?_
      intro v10 T10 L10 X10 hQ10
      obtain ⟨hv10, M10, e10⟩ := hQ10
      have N10 := Fr.app N9 M10
      obtain rfl : v10 = some (.int 1) := hv10.trans (by simp [ne_w_ANY_w_RED, Ne.symm ne_w_ANY_w_RED, ne_w_ANY_w_BLUE, Ne.symm ne_w_ANY_w_BLUE, ne_w_RED_w_BLUE, Ne.symm ne_w_RED_w_BLUE])
      show Go p e below _ (T10.setTop (mkF m 42 #[.val (.int p0), .val (.int p1), .val (.int (0 : Int32)), .val (.int (1 : Int32)), .val (.ref w_ANY), .val (.ref w_RED), .val (.int (1 : Int32)), .unset] [(.int (1 : Int32))]))
      refine Go.st (fun _ => XS.istore X10.here hx rfl (hb hby at_42) rfl (l' := #[.val (.int p0), .val (.int p1), .val (.int (0 : Int32)), .val (.int (1 : Int32)), .val (.ref w_ANY), .val (.ref w_RED), .val (.int (1 : Int32)), .val (.int (1 : Int32))]) rfl) ?_
      show Go p e below _ (T10.setTop (mkF m 44 #[.val (.int p0), .val (.int p1), .val (.int (0 : Int32)), .val (.int (1 : Int32)), .val (.ref w_ANY), .val (.ref w_RED), .val (.int (1 : Int32)), .val (.int (1 : Int32))] []))
      refine Go.st (fun _ => XS.iload X10.here hx rfl (hb hby at_44) rfl) ?_
      show Go p e below _ (T10.setTop (mkF m 46 #[.val (.int p0), .val (.int p1), .val (.int (0 : Int32)), .val (.int (1 : Int32)), .val (.ref w_ANY), .val (.ref w_RED), .val (.int (1 : Int32)), .val (.int (1 : Int32))] [(.int (1 : Int32))]))
      refine Go.st (fun _ => XS.iloadN X10.here hx rfl (hb hby at_46) rfl) ?_
      show Go p e below _ (T10.setTop (mkF m 47 #[.val (.int p0), .val (.int p1), .val (.int (0 : Int32)), .val (.int (1 : Int32)), .val (.ref w_ANY), .val (.ref w_RED), .val (.int (1 : Int32)), .val (.int (1 : Int32))] [(.int (0 : Int32)), (.int (1 : Int32))]))
      refine Go.st (fun _ => XS.iloadN X10.here hx rfl (hb hby at_47) rfl) ?_
      show Go p e below _ (T10.setTop (mkF m 48 #[.val (.int p0), .val (.int p1), .val (.int (0 : Int32)), .val (.int (1 : Int32)), .val (.ref w_ANY), .val (.ref w_RED), .val (.int (1 : Int32)), .val (.int (1 : Int32))] [(.int (1 : Int32)), (.int (0 : Int32)), (.int (1 : Int32))]))
      refine goCallS X10 hx hZ (y := (⟨"com/example/tryst/tryst/elimination/SideMeetsPinLaw", "expected", "(II)Z"⟩ : MethodName)) hown (hw _ (List.mem_of_getElem? (i := 14) rfl)) (hw _ (List.mem_of_getElem? (i := 15) rfl)) (hw _ (List.mem_of_getElem? (i := 3) rfl)) (hw _ (List.mem_of_getElem? (i := 16) rfl)) (by decide) (argsL := [(.int (0 : Int32)), (.int (1 : Int32))]) (rest := [(.int (1 : Int32))]) e10 (rm3 l Z a0 hw [] (0 : Int32) (1 : Int32) h0 n0 O0) 1 (by decide) (by decide) (by decide) (by decide) (mkF m 48 #[.val (.int p0), .val (.int p1), .val (.int (0 : Int32)), .val (.int (1 : Int32)), .val (.ref w_ANY), .val (.ref w_RED), .val (.int (1 : Int32)), .val (.int (1 : Int32))] [(.int (1 : Int32)), (.int (0 : Int32)), (.int (1 : Int32))]) rfl (by rw [hml]; rfl) (lenOf pd_2 rfl) rfl (hb hby at_48) (Nat.le_of_eq rfl) ?_
      intro v11 T11 L11 X11 hQ11
      obtain ⟨hv11, M11, e11⟩ := hQ11
      have N11 := Fr.app N10 M11
      obtain rfl : v11 = some (.int 1) := hv11.trans (by simp)
      show Go p e below _ (T11.setTop (mkF m 51 #[.val (.int p0), .val (.int p1), .val (.int (0 : Int32)), .val (.int (1 : Int32)), .val (.ref w_ANY), .val (.ref w_RED), .val (.int (1 : Int32)), .val (.int (1 : Int32))] [(.int (1 : Int32)), (.int (1 : Int32))]))
      refine Go.st (fun _ => XS.icmpNo X11.here hx rfl (hb hby at_51) rfl (teq (by decide : (1 : Int32) = (1 : Int32))).2) ?_
      show Go p e below _ (T11.setTop (mkF m 54 #[.val (.int p0), .val (.int p1), .val (.int (0 : Int32)), .val (.int (1 : Int32)), .val (.ref w_ANY), .val (.ref w_RED), .val (.int (1 : Int32)), .val (.int (1 : Int32))] []))
      refine Go.st (fun _ => XS.iload X11.here hx rfl (hb hby at_54) rfl) ?_
      show Go p e below _ (T11.setTop (mkF m 56 #[.val (.int p0), .val (.int p1), .val (.int (0 : Int32)), .val (.int (1 : Int32)), .val (.ref w_ANY), .val (.ref w_RED), .val (.int (1 : Int32)), .val (.int (1 : Int32))] [(.int (1 : Int32))]))
      refine Go.st (fun _ => XS.iloadN X11.here hx rfl (hb hby at_56) rfl) ?_
      show Go p e below _ (T11.setTop (mkF m 57 #[.val (.int p0), .val (.int p1), .val (.int (0 : Int32)), .val (.int (1 : Int32)), .val (.ref w_ANY), .val (.ref w_RED), .val (.int (1 : Int32)), .val (.int (1 : Int32))] [(.int (1 : Int32)), (.int (1 : Int32))]))
      refine Go.st (fun _ => XS.iloadN X11.here hx rfl (hb hby at_57) rfl) ?_
      show Go p e below _ (T11.setTop (mkF m 58 #[.val (.int p0), .val (.int p1), .val (.int (0 : Int32)), .val (.int (1 : Int32)), .val (.ref w_ANY), .val (.ref w_RED), .val (.int (1 : Int32)), .val (.int (1 : Int32))] [(.int (0 : Int32)), (.int (1 : Int32)), (.int (1 : Int32))]))
      refine goCallS X11 hx hZ (y := (⟨"com/example/tryst/tryst/elimination/SideMeetsPinLaw", "expected", "(II)Z"⟩ : MethodName)) hown (hw _ (List.mem_of_getElem? (i := 14) rfl)) (hw _ (List.mem_of_getElem? (i := 15) rfl)) (hw _ (List.mem_of_getElem? (i := 3) rfl)) (hw _ (List.mem_of_getElem? (i := 16) rfl)) (by decide) (argsL := [(.int (1 : Int32)), (.int (0 : Int32))]) (rest := [(.int (1 : Int32))]) e11 (rm3 l Z a0 hw [] (1 : Int32) (0 : Int32) h0 n0 O0) 1 (by decide) (by decide) (by decide) (by decide) (mkF m 58 #[.val (.int p0), .val (.int p1), .val (.int (0 : Int32)), .val (.int (1 : Int32)), .val (.ref w_ANY), .val (.ref w_RED), .val (.int (1 : Int32)), .val (.int (1 : Int32))] [(.int (0 : Int32)), (.int (1 : Int32)), (.int (1 : Int32))]) rfl (by rw [hml]; rfl) (lenOf pd_2 rfl) rfl (hb hby at_58) (Nat.le_of_eq rfl) ?_
      intro v12 T12 L12 X12 hQ12
      obtain ⟨hv12, M12, e12⟩ := hQ12
      have N12 := Fr.app N11 M12
      obtain rfl : v12 = some (.int 1) := hv12.trans (by simp)
      show Go p e below _ (T12.setTop (mkF m 61 #[.val (.int p0), .val (.int p1), .val (.int (0 : Int32)), .val (.int (1 : Int32)), .val (.ref w_ANY), .val (.ref w_RED), .val (.int (1 : Int32)), .val (.int (1 : Int32))] [(.int (1 : Int32)), (.int (1 : Int32))]))
      refine Go.st (fun _ => XS.icmpNo X12.here hx rfl (hb hby at_61) rfl (teq (by decide : (1 : Int32) = (1 : Int32))).2) ?_
      show Go p e below _ (T12.setTop (mkF m 64 #[.val (.int p0), .val (.int p1), .val (.int (0 : Int32)), .val (.int (1 : Int32)), .val (.ref w_ANY), .val (.ref w_RED), .val (.int (1 : Int32)), .val (.int (1 : Int32))] []))
      refine Go.st (fun _ => XS.iload X12.here hx rfl (hb hby at_64) rfl) ?_
      show Go p e below _ (T12.setTop (mkF m 66 #[.val (.int p0), .val (.int p1), .val (.int (0 : Int32)), .val (.int (1 : Int32)), .val (.ref w_ANY), .val (.ref w_RED), .val (.int (1 : Int32)), .val (.int (1 : Int32))] [(.int (1 : Int32))]))
      refine Go.st (fun _ => XS.iload X12.here hx rfl (hb hby at_66) rfl) ?_
      show Go p e below _ (T12.setTop (mkF m 68 #[.val (.int p0), .val (.int p1), .val (.int (0 : Int32)), .val (.int (1 : Int32)), .val (.ref w_ANY), .val (.ref w_RED), .val (.int (1 : Int32)), .val (.int (1 : Int32))] [(.int (1 : Int32)), (.int (1 : Int32))]))
      refine Go.st (fun _ => XS.icmpNo X12.here hx rfl (hb hby at_68) rfl (teq (by decide : (1 : Int32) = (1 : Int32))).2) ?_
      show Go p e below _ (T12.setTop (mkF m 71 #[.val (.int p0), .val (.int p1), .val (.int (0 : Int32)), .val (.int (1 : Int32)), .val (.ref w_ANY), .val (.ref w_RED), .val (.int (1 : Int32)), .val (.int (1 : Int32))] []))
      refine Go.st (fun _ => XS.iconst X12.here hx rfl (hb hby at_71)) ?_
      show Go p e below _ (T12.setTop (mkF m 72 #[.val (.int p0), .val (.int p1), .val (.int (0 : Int32)), .val (.int (1 : Int32)), .val (.ref w_ANY), .val (.ref w_RED), .val (.int (1 : Int32)), .val (.int (1 : Int32))] [(.int (1 : Int32))]))
      refine Go.st (fun _ => XS.goto X12.here hx rfl (pc0 := 72) (pc' := 76) rfl (hb hby at_72) (by decide) (by decide)) ?_
      show Go p e below _ (T12.setTop (mkF m 76 #[.val (.int p0), .val (.int p1), .val (.int (0 : Int32)), .val (.int (1 : Int32)), .val (.ref w_ANY), .val (.ref w_RED), .val (.int (1 : Int32)), .val (.int (1 : Int32))] [(.int (1 : Int32))]))
      exact goRetN X12 hx hlk hret (t := .boolean) (by simp) (w := (1 : Int32)) (by decide) e12 (hb hby at_76) (by decide) (by decide) ⟨rfl, N12⟩
    · rw [q1]
      show Go p e below _ (s₁.setTop (mkF m 14 #[.val (.int p0), .val (.int p1), .val (.int (0 : Int32)), .val (.int (2 : Int32)), .unset, .unset, .unset, .unset] []))
      refine Go.st (fun _ => XS.iloadN X0.here hx rfl (hb hby at_14) rfl) ?_
      show Go p e below _ (s₁.setTop (mkF m 15 #[.val (.int p0), .val (.int p1), .val (.int (0 : Int32)), .val (.int (2 : Int32)), .unset, .unset, .unset, .unset] [(.int (0 : Int32))]))
      refine goCallS X0 hx hZ (y := (⟨"com/example/tryst/tryst/elimination/SideMeetsPinLaw", "side", "(I)Lcom/example/tryst/tryst/elimination/Side;"⟩ : MethodName)) hown (hw _ (List.mem_of_getElem? (i := 1) rfl)) (hw _ (List.mem_of_getElem? (i := 2) rfl)) (hw _ (List.mem_of_getElem? (i := 3) rfl)) (hw _ (List.mem_of_getElem? (i := 4) rfl)) (by decide) (argsL := [(.int (0 : Int32))]) (rest := []) e0 (rm1 l Z a0 hw [] (0 : Int32) w_ANY w_RED w_BLUE h0 n0 O0 S_w_ANY S_w_RED S_w_BLUE) 0 (by decide) (by decide) (by decide) (by decide) (mkF m 15 #[.val (.int p0), .val (.int p1), .val (.int (0 : Int32)), .val (.int (2 : Int32)), .unset, .unset, .unset, .unset] [(.int (0 : Int32))]) rfl (by rw [hml]; rfl) (lenOf pd_0 rfl) rfl (hb hby at_15) (Nat.le_of_eq rfl) ?_
      intro v13 T13 L13 X13 hQ13
      obtain ⟨hv13, M13, e13⟩ := hQ13
      have N13 := Fr.app N0 M13
      obtain rfl : v13 = some (.ref w_ANY) := hv13.trans (by simp)
      show Go p e below _ (T13.setTop (mkF m 18 #[.val (.int p0), .val (.int p1), .val (.int (0 : Int32)), .val (.int (2 : Int32)), .unset, .unset, .unset, .unset] [(.ref w_ANY)]))
      refine Go.st (fun _ => XS.astore X13.here hx rfl (hb hby at_18) rfl rfl (l' := #[.val (.int p0), .val (.int p1), .val (.int (0 : Int32)), .val (.int (2 : Int32)), .val (.ref w_ANY), .unset, .unset, .unset]) rfl) ?_
      show Go p e below _ (T13.setTop (mkF m 20 #[.val (.int p0), .val (.int p1), .val (.int (0 : Int32)), .val (.int (2 : Int32)), .val (.ref w_ANY), .unset, .unset, .unset] []))
      refine Go.st (fun _ => XS.iloadN X13.here hx rfl (hb hby at_20) rfl) ?_
      show Go p e below _ (T13.setTop (mkF m 21 #[.val (.int p0), .val (.int p1), .val (.int (0 : Int32)), .val (.int (2 : Int32)), .val (.ref w_ANY), .unset, .unset, .unset] [(.int (2 : Int32))]))
      refine goCallS X13 hx hZ (y := (⟨"com/example/tryst/tryst/elimination/SideMeetsPinLaw", "side", "(I)Lcom/example/tryst/tryst/elimination/Side;"⟩ : MethodName)) hown (hw _ (List.mem_of_getElem? (i := 1) rfl)) (hw _ (List.mem_of_getElem? (i := 2) rfl)) (hw _ (List.mem_of_getElem? (i := 3) rfl)) (hw _ (List.mem_of_getElem? (i := 4) rfl)) (by decide) (argsL := [(.int (2 : Int32))]) (rest := []) e13 (rm1 l Z a0 hw [] (2 : Int32) w_ANY w_RED w_BLUE h0 n0 O0 S_w_ANY S_w_RED S_w_BLUE) 0 (by decide) (by decide) (by decide) (by decide) (mkF m 21 #[.val (.int p0), .val (.int p1), .val (.int (0 : Int32)), .val (.int (2 : Int32)), .val (.ref w_ANY), .unset, .unset, .unset] [(.int (2 : Int32))]) rfl (by rw [hml]; rfl) (lenOf pd_0 rfl) rfl (hb hby at_21) (Nat.le_of_eq rfl) ?_
      intro v14 T14 L14 X14 hQ14
      obtain ⟨hv14, M14, e14⟩ := hQ14
      have N14 := Fr.app N13 M14
      obtain rfl : v14 = some (.ref w_BLUE) := hv14.trans (by simp)
      show Go p e below _ (T14.setTop (mkF m 24 #[.val (.int p0), .val (.int p1), .val (.int (0 : Int32)), .val (.int (2 : Int32)), .val (.ref w_ANY), .unset, .unset, .unset] [(.ref w_BLUE)]))
      refine Go.st (fun _ => XS.astore X14.here hx rfl (hb hby at_24) rfl rfl (l' := #[.val (.int p0), .val (.int p1), .val (.int (0 : Int32)), .val (.int (2 : Int32)), .val (.ref w_ANY), .val (.ref w_BLUE), .unset, .unset]) rfl) ?_
      show Go p e below _ (T14.setTop (mkF m 26 #[.val (.int p0), .val (.int p1), .val (.int (0 : Int32)), .val (.int (2 : Int32)), .val (.ref w_ANY), .val (.ref w_BLUE), .unset, .unset] []))
      refine Go.st (fun _ => XS.aload X14.here hx rfl (hb hby at_26) rfl rfl) ?_
      show Go p e below _ (T14.setTop (mkF m 28 #[.val (.int p0), .val (.int p1), .val (.int (0 : Int32)), .val (.int (2 : Int32)), .val (.ref w_ANY), .val (.ref w_BLUE), .unset, .unset] [(.ref w_ANY)]))
      refine Go.st (fun _ => XS.aload X14.here hx rfl (hb hby at_28) rfl rfl) ?_
      show Go p e below _ (T14.setTop (mkF m 30 #[.val (.int p0), .val (.int p1), .val (.int (0 : Int32)), .val (.int (2 : Int32)), .val (.ref w_ANY), .val (.ref w_BLUE), .unset, .unset] [(.ref w_BLUE), (.ref w_ANY)]))
      refine goVirt X14 hx hZ (y := (⟨"com/example/tryst/tryst/elimination/Side", "meets", "(Lcom/example/tryst/tryst/elimination/Side;)Z"⟩ : MethodName)) (z := (⟨"com/example/tryst/tryst/elimination/Side", "meets", "(Lcom/example/tryst/tryst/elimination/Side;)Z"⟩ : MethodName)) hown (hw _ (List.mem_of_getElem? (i := 8) rfl)) (hw _ (List.mem_of_getElem? (i := 9) rfl)) (notFace_of_selects (args := #[]) (mvT hZ (hw _ (List.mem_of_getElem? (i := 11) rfl)))) (hw _ (List.mem_of_getElem? (i := 11) rfl)) (hw _ (List.mem_of_getElem? (i := 10) rfl)) (hw _ (List.mem_of_getElem? (i := 6) rfl)) (hw _ (List.mem_of_getElem? (i := 12) rfl)) (by decide) (a := w_ANY) (argsL := [(.ref w_BLUE)]) (rest := []) e14 E_w_ANY (rm2 l Z a0 hw [] w_ANY w_BLUE w_ANY h0 n0 O0 S_w_ANY) 0 (by decide) (by decide) (by decide) (by decide) (mkF m 30 #[.val (.int p0), .val (.int p1), .val (.int (0 : Int32)), .val (.int (2 : Int32)), .val (.ref w_ANY), .val (.ref w_BLUE), .unset, .unset] [(.ref w_BLUE), (.ref w_ANY)]) rfl (by rw [hml]; rfl) (lenOf pd_1 rfl) rfl (hb hby at_30) (Nat.le_of_eq rfl) ?_
      intro v15 T15 L15 X15 hQ15
      obtain ⟨hv15, M15, e15⟩ := hQ15
      have N15 := Fr.app N14 M15
      obtain rfl : v15 = some (.int 1) := hv15.trans (by simp [ne_w_ANY_w_RED, Ne.symm ne_w_ANY_w_RED, ne_w_ANY_w_BLUE, Ne.symm ne_w_ANY_w_BLUE, ne_w_RED_w_BLUE, Ne.symm ne_w_RED_w_BLUE])
      show Go p e below _ (T15.setTop (mkF m 33 #[.val (.int p0), .val (.int p1), .val (.int (0 : Int32)), .val (.int (2 : Int32)), .val (.ref w_ANY), .val (.ref w_BLUE), .unset, .unset] [(.int (1 : Int32))]))
      refine Go.st (fun _ => XS.istore X15.here hx rfl (hb hby at_33) rfl (l' := #[.val (.int p0), .val (.int p1), .val (.int (0 : Int32)), .val (.int (2 : Int32)), .val (.ref w_ANY), .val (.ref w_BLUE), .val (.int (1 : Int32)), .unset]) rfl) ?_
      show Go p e below _ (T15.setTop (mkF m 35 #[.val (.int p0), .val (.int p1), .val (.int (0 : Int32)), .val (.int (2 : Int32)), .val (.ref w_ANY), .val (.ref w_BLUE), .val (.int (1 : Int32)), .unset] []))
      refine Go.st (fun _ => XS.aload X15.here hx rfl (hb hby at_35) rfl rfl) ?_
      show Go p e below _ (T15.setTop (mkF m 37 #[.val (.int p0), .val (.int p1), .val (.int (0 : Int32)), .val (.int (2 : Int32)), .val (.ref w_ANY), .val (.ref w_BLUE), .val (.int (1 : Int32)), .unset] [(.ref w_BLUE)]))
      refine Go.st (fun _ => XS.aload X15.here hx rfl (hb hby at_37) rfl rfl) ?_
      show Go p e below _ (T15.setTop (mkF m 39 #[.val (.int p0), .val (.int p1), .val (.int (0 : Int32)), .val (.int (2 : Int32)), .val (.ref w_ANY), .val (.ref w_BLUE), .val (.int (1 : Int32)), .unset] [(.ref w_ANY), (.ref w_BLUE)]))
      refine goVirt X15 hx hZ (y := (⟨"com/example/tryst/tryst/elimination/Side", "meets", "(Lcom/example/tryst/tryst/elimination/Side;)Z"⟩ : MethodName)) (z := (⟨"com/example/tryst/tryst/elimination/Side", "meets", "(Lcom/example/tryst/tryst/elimination/Side;)Z"⟩ : MethodName)) hown (hw _ (List.mem_of_getElem? (i := 8) rfl)) (hw _ (List.mem_of_getElem? (i := 9) rfl)) (notFace_of_selects (args := #[]) (mvT hZ (hw _ (List.mem_of_getElem? (i := 11) rfl)))) (hw _ (List.mem_of_getElem? (i := 11) rfl)) (hw _ (List.mem_of_getElem? (i := 10) rfl)) (hw _ (List.mem_of_getElem? (i := 6) rfl)) (hw _ (List.mem_of_getElem? (i := 12) rfl)) (by decide) (a := w_BLUE) (argsL := [(.ref w_ANY)]) (rest := []) e15 E_w_BLUE (rm2 l Z a0 hw [] w_BLUE w_ANY w_ANY h0 n0 O0 S_w_ANY) 0 (by decide) (by decide) (by decide) (by decide) (mkF m 39 #[.val (.int p0), .val (.int p1), .val (.int (0 : Int32)), .val (.int (2 : Int32)), .val (.ref w_ANY), .val (.ref w_BLUE), .val (.int (1 : Int32)), .unset] [(.ref w_ANY), (.ref w_BLUE)]) rfl (by rw [hml]; rfl) (lenOf pd_1 rfl) rfl (hb hby at_39) (Nat.le_of_eq rfl) ?_
      intro v16 T16 L16 X16 hQ16
      obtain ⟨hv16, M16, e16⟩ := hQ16
      have N16 := Fr.app N15 M16
      obtain rfl : v16 = some (.int 1) := hv16.trans (by simp [ne_w_ANY_w_RED, Ne.symm ne_w_ANY_w_RED, ne_w_ANY_w_BLUE, Ne.symm ne_w_ANY_w_BLUE, ne_w_RED_w_BLUE, Ne.symm ne_w_RED_w_BLUE])
      show Go p e below _ (T16.setTop (mkF m 42 #[.val (.int p0), .val (.int p1), .val (.int (0 : Int32)), .val (.int (2 : Int32)), .val (.ref w_ANY), .val (.ref w_BLUE), .val (.int (1 : Int32)), .unset] [(.int (1 : Int32))]))
      refine Go.st (fun _ => XS.istore X16.here hx rfl (hb hby at_42) rfl (l' := #[.val (.int p0), .val (.int p1), .val (.int (0 : Int32)), .val (.int (2 : Int32)), .val (.ref w_ANY), .val (.ref w_BLUE), .val (.int (1 : Int32)), .val (.int (1 : Int32))]) rfl) ?_
      show Go p e below _ (T16.setTop (mkF m 44 #[.val (.int p0), .val (.int p1), .val (.int (0 : Int32)), .val (.int (2 : Int32)), .val (.ref w_ANY), .val (.ref w_BLUE), .val (.int (1 : Int32)), .val (.int (1 : Int32))] []))
      refine Go.st (fun _ => XS.iload X16.here hx rfl (hb hby at_44) rfl) ?_
      show Go p e below _ (T16.setTop (mkF m 46 #[.val (.int p0), .val (.int p1), .val (.int (0 : Int32)), .val (.int (2 : Int32)), .val (.ref w_ANY), .val (.ref w_BLUE), .val (.int (1 : Int32)), .val (.int (1 : Int32))] [(.int (1 : Int32))]))
      refine Go.st (fun _ => XS.iloadN X16.here hx rfl (hb hby at_46) rfl) ?_
      show Go p e below _ (T16.setTop (mkF m 47 #[.val (.int p0), .val (.int p1), .val (.int (0 : Int32)), .val (.int (2 : Int32)), .val (.ref w_ANY), .val (.ref w_BLUE), .val (.int (1 : Int32)), .val (.int (1 : Int32))] [(.int (0 : Int32)), (.int (1 : Int32))]))
      refine Go.st (fun _ => XS.iloadN X16.here hx rfl (hb hby at_47) rfl) ?_
      show Go p e below _ (T16.setTop (mkF m 48 #[.val (.int p0), .val (.int p1), .val (.int (0 : Int32)), .val (.int (2 : Int32)), .val (.ref w_ANY), .val (.ref w_BLUE), .val (.int (1 : Int32)), .val (.int (1 : Int32))] [(.int (2 : Int32)), (.int (0 : Int32)), (.int (1 : Int32))]))
      refine goCallS X16 hx hZ (y := (⟨"com/example/tryst/tryst/elimination/SideMeetsPinLaw", "expected", "(II)Z"⟩ : MethodName)) hown (hw _ (List.mem_of_getElem? (i := 14) rfl)) (hw _ (List.mem_of_getElem? (i := 15) rfl)) (hw _ (List.mem_of_getElem? (i := 3) rfl)) (hw _ (List.mem_of_getElem? (i := 16) rfl)) (by decide) (argsL := [(.int (0 : Int32)), (.int (2 : Int32))]) (rest := [(.int (1 : Int32))]) e16 (rm3 l Z a0 hw [] (0 : Int32) (2 : Int32) h0 n0 O0) 1 (by decide) (by decide) (by decide) (by decide) (mkF m 48 #[.val (.int p0), .val (.int p1), .val (.int (0 : Int32)), .val (.int (2 : Int32)), .val (.ref w_ANY), .val (.ref w_BLUE), .val (.int (1 : Int32)), .val (.int (1 : Int32))] [(.int (2 : Int32)), (.int (0 : Int32)), (.int (1 : Int32))]) rfl (by rw [hml]; rfl) (lenOf pd_2 rfl) rfl (hb hby at_48) (Nat.le_of_eq rfl) ?_
      intro v17 T17 L17 X17 hQ17
      obtain ⟨hv17, M17, e17⟩ := hQ17
      have N17 := Fr.app N16 M17
      obtain rfl : v17 = some (.int 1) := hv17.trans (by simp)
      show Go p e below _ (T17.setTop (mkF m 51 #[.val (.int p0), .val (.int p1), .val (.int (0 : Int32)), .val (.int (2 : Int32)), .val (.ref w_ANY), .val (.ref w_BLUE), .val (.int (1 : Int32)), .val (.int (1 : Int32))] [(.int (1 : Int32)), (.int (1 : Int32))]))
      refine Go.st (fun _ => XS.icmpNo X17.here hx rfl (hb hby at_51) rfl (teq (by decide : (1 : Int32) = (1 : Int32))).2) ?_
      show Go p e below _ (T17.setTop (mkF m 54 #[.val (.int p0), .val (.int p1), .val (.int (0 : Int32)), .val (.int (2 : Int32)), .val (.ref w_ANY), .val (.ref w_BLUE), .val (.int (1 : Int32)), .val (.int (1 : Int32))] []))
      refine Go.st (fun _ => XS.iload X17.here hx rfl (hb hby at_54) rfl) ?_
      show Go p e below _ (T17.setTop (mkF m 56 #[.val (.int p0), .val (.int p1), .val (.int (0 : Int32)), .val (.int (2 : Int32)), .val (.ref w_ANY), .val (.ref w_BLUE), .val (.int (1 : Int32)), .val (.int (1 : Int32))] [(.int (1 : Int32))]))
      refine Go.st (fun _ => XS.iloadN X17.here hx rfl (hb hby at_56) rfl) ?_
      show Go p e below _ (T17.setTop (mkF m 57 #[.val (.int p0), .val (.int p1), .val (.int (0 : Int32)), .val (.int (2 : Int32)), .val (.ref w_ANY), .val (.ref w_BLUE), .val (.int (1 : Int32)), .val (.int (1 : Int32))] [(.int (2 : Int32)), (.int (1 : Int32))]))
      refine Go.st (fun _ => XS.iloadN X17.here hx rfl (hb hby at_57) rfl) ?_
      show Go p e below _ (T17.setTop (mkF m 58 #[.val (.int p0), .val (.int p1), .val (.int (0 : Int32)), .val (.int (2 : Int32)), .val (.ref w_ANY), .val (.ref w_BLUE), .val (.int (1 : Int32)), .val (.int (1 : Int32))] [(.int (0 : Int32)), (.int (2 : Int32)), (.int (1 : Int32))]))
      refine goCallS X17 hx hZ (y := (⟨"com/example/tryst/tryst/elimination/SideMeetsPinLaw", "expected", "(II)Z"⟩ : MethodName)) hown (hw _ (List.mem_of_getElem? (i := 14) rfl)) (hw _ (List.mem_of_getElem? (i := 15) rfl)) (hw _ (List.mem_of_getElem? (i := 3) rfl)) (hw _ (List.mem_of_getElem? (i := 16) rfl)) (by decide) (argsL := [(.int (2 : Int32)), (.int (0 : Int32))]) (rest := [(.int (1 : Int32))]) e17 (rm3 l Z a0 hw [] (2 : Int32) (0 : Int32) h0 n0 O0) 1 (by decide) (by decide) (by decide) (by decide) (mkF m 58 #[.val (.int p0), .val (.int p1), .val (.int (0 : Int32)), .val (.int (2 : Int32)), .val (.ref w_ANY), .val (.ref w_BLUE), .val (.int (1 : Int32)), .val (.int (1 : Int32))] [(.int (0 : Int32)), (.int (2 : Int32)), (.int (1 : Int32))]) rfl (by rw [hml]; rfl) (lenOf pd_2 rfl) rfl (hb hby at_58) (Nat.le_of_eq rfl) ?_
      intro v18 T18 L18 X18 hQ18
      obtain ⟨hv18, M18, e18⟩ := hQ18
      have N18 := Fr.app N17 M18
      obtain rfl : v18 = some (.int 1) := hv18.trans (by simp)
      show Go p e below _ (T18.setTop (mkF m 61 #[.val (.int p0), .val (.int p1), .val (.int (0 : Int32)), .val (.int (2 : Int32)), .val (.ref w_ANY), .val (.ref w_BLUE), .val (.int (1 : Int32)), .val (.int (1 : Int32))] [(.int (1 : Int32)), (.int (1 : Int32))]))
      refine Go.st (fun _ => XS.icmpNo X18.here hx rfl (hb hby at_61) rfl (teq (by decide : (1 : Int32) = (1 : Int32))).2) ?_
      show Go p e below _ (T18.setTop (mkF m 64 #[.val (.int p0), .val (.int p1), .val (.int (0 : Int32)), .val (.int (2 : Int32)), .val (.ref w_ANY), .val (.ref w_BLUE), .val (.int (1 : Int32)), .val (.int (1 : Int32))] []))
      refine Go.st (fun _ => XS.iload X18.here hx rfl (hb hby at_64) rfl) ?_
      show Go p e below _ (T18.setTop (mkF m 66 #[.val (.int p0), .val (.int p1), .val (.int (0 : Int32)), .val (.int (2 : Int32)), .val (.ref w_ANY), .val (.ref w_BLUE), .val (.int (1 : Int32)), .val (.int (1 : Int32))] [(.int (1 : Int32))]))
      refine Go.st (fun _ => XS.iload X18.here hx rfl (hb hby at_66) rfl) ?_
      show Go p e below _ (T18.setTop (mkF m 68 #[.val (.int p0), .val (.int p1), .val (.int (0 : Int32)), .val (.int (2 : Int32)), .val (.ref w_ANY), .val (.ref w_BLUE), .val (.int (1 : Int32)), .val (.int (1 : Int32))] [(.int (1 : Int32)), (.int (1 : Int32))]))
      refine Go.st (fun _ => XS.icmpNo X18.here hx rfl (hb hby at_68) rfl (teq (by decide : (1 : Int32) = (1 : Int32))).2) ?_
      show Go p e below _ (T18.setTop (mkF m 71 #[.val (.int p0), .val (.int p1), .val (.int (0 : Int32)), .val (.int (2 : Int32)), .val (.ref w_ANY), .val (.ref w_BLUE), .val (.int (1 : Int32)), .val (.int (1 : Int32))] []))
      refine Go.st (fun _ => XS.iconst X18.here hx rfl (hb hby at_71)) ?_
      show Go p e below _ (T18.setTop (mkF m 72 #[.val (.int p0), .val (.int p1), .val (.int (0 : Int32)), .val (.int (2 : Int32)), .val (.ref w_ANY), .val (.ref w_BLUE), .val (.int (1 : Int32)), .val (.int (1 : Int32))] [(.int (1 : Int32))]))
      refine Go.st (fun _ => XS.goto X18.here hx rfl (pc0 := 72) (pc' := 76) rfl (hb hby at_72) (by decide) (by decide)) ?_
      show Go p e below _ (T18.setTop (mkF m 76 #[.val (.int p0), .val (.int p1), .val (.int (0 : Int32)), .val (.int (2 : Int32)), .val (.ref w_ANY), .val (.ref w_BLUE), .val (.int (1 : Int32)), .val (.int (1 : Int32))] [(.int (1 : Int32))]))
      exact goRetN X18 hx hlk hret (t := .boolean) (by simp) (w := (1 : Int32)) (by decide) e18 (hb hby at_76) (by decide) (by decide) ⟨rfl, N18⟩
  · rw [q0]
    rcases own_mod3 p1 with q1 | q1 | q1
    · rw [q1]
      show Go p e below _ (s₁.setTop (mkF m 14 #[.val (.int p0), .val (.int p1), .val (.int (1 : Int32)), .val (.int (0 : Int32)), .unset, .unset, .unset, .unset] []))
      refine Go.st (fun _ => XS.iloadN X0.here hx rfl (hb hby at_14) rfl) ?_
      show Go p e below _ (s₁.setTop (mkF m 15 #[.val (.int p0), .val (.int p1), .val (.int (1 : Int32)), .val (.int (0 : Int32)), .unset, .unset, .unset, .unset] [(.int (1 : Int32))]))
      refine goCallS X0 hx hZ (y := (⟨"com/example/tryst/tryst/elimination/SideMeetsPinLaw", "side", "(I)Lcom/example/tryst/tryst/elimination/Side;"⟩ : MethodName)) hown (hw _ (List.mem_of_getElem? (i := 1) rfl)) (hw _ (List.mem_of_getElem? (i := 2) rfl)) (hw _ (List.mem_of_getElem? (i := 3) rfl)) (hw _ (List.mem_of_getElem? (i := 4) rfl)) (by decide) (argsL := [(.int (1 : Int32))]) (rest := []) e0 (rm1 l Z a0 hw [] (1 : Int32) w_ANY w_RED w_BLUE h0 n0 O0 S_w_ANY S_w_RED S_w_BLUE) 0 (by decide) (by decide) (by decide) (by decide) (mkF m 15 #[.val (.int p0), .val (.int p1), .val (.int (1 : Int32)), .val (.int (0 : Int32)), .unset, .unset, .unset, .unset] [(.int (1 : Int32))]) rfl (by rw [hml]; rfl) (lenOf pd_0 rfl) rfl (hb hby at_15) (Nat.le_of_eq rfl) ?_
      intro v19 T19 L19 X19 hQ19
      obtain ⟨hv19, M19, e19⟩ := hQ19
      have N19 := Fr.app N0 M19
      obtain rfl : v19 = some (.ref w_RED) := hv19.trans (by simp)
      show Go p e below _ (T19.setTop (mkF m 18 #[.val (.int p0), .val (.int p1), .val (.int (1 : Int32)), .val (.int (0 : Int32)), .unset, .unset, .unset, .unset] [(.ref w_RED)]))
      refine Go.st (fun _ => XS.astore X19.here hx rfl (hb hby at_18) rfl rfl (l' := #[.val (.int p0), .val (.int p1), .val (.int (1 : Int32)), .val (.int (0 : Int32)), .val (.ref w_RED), .unset, .unset, .unset]) rfl) ?_
      show Go p e below _ (T19.setTop (mkF m 20 #[.val (.int p0), .val (.int p1), .val (.int (1 : Int32)), .val (.int (0 : Int32)), .val (.ref w_RED), .unset, .unset, .unset] []))
      refine Go.st (fun _ => XS.iloadN X19.here hx rfl (hb hby at_20) rfl) ?_
      show Go p e below _ (T19.setTop (mkF m 21 #[.val (.int p0), .val (.int p1), .val (.int (1 : Int32)), .val (.int (0 : Int32)), .val (.ref w_RED), .unset, .unset, .unset] [(.int (0 : Int32))]))
      refine goCallS X19 hx hZ (y := (⟨"com/example/tryst/tryst/elimination/SideMeetsPinLaw", "side", "(I)Lcom/example/tryst/tryst/elimination/Side;"⟩ : MethodName)) hown (hw _ (List.mem_of_getElem? (i := 1) rfl)) (hw _ (List.mem_of_getElem? (i := 2) rfl)) (hw _ (List.mem_of_getElem? (i := 3) rfl)) (hw _ (List.mem_of_getElem? (i := 4) rfl)) (by decide) (argsL := [(.int (0 : Int32))]) (rest := []) e19 (rm1 l Z a0 hw [] (0 : Int32) w_ANY w_RED w_BLUE h0 n0 O0 S_w_ANY S_w_RED S_w_BLUE) 0 (by decide) (by decide) (by decide) (by decide) (mkF m 21 #[.val (.int p0), .val (.int p1), .val (.int (1 : Int32)), .val (.int (0 : Int32)), .val (.ref w_RED), .unset, .unset, .unset] [(.int (0 : Int32))]) rfl (by rw [hml]; rfl) (lenOf pd_0 rfl) rfl (hb hby at_21) (Nat.le_of_eq rfl) ?_
      intro v20 T20 L20 X20 hQ20
      obtain ⟨hv20, M20, e20⟩ := hQ20
      have N20 := Fr.app N19 M20
      obtain rfl : v20 = some (.ref w_ANY) := hv20.trans (by simp)
      show Go p e below _ (T20.setTop (mkF m 24 #[.val (.int p0), .val (.int p1), .val (.int (1 : Int32)), .val (.int (0 : Int32)), .val (.ref w_RED), .unset, .unset, .unset] [(.ref w_ANY)]))
      refine Go.st (fun _ => XS.astore X20.here hx rfl (hb hby at_24) rfl rfl (l' := #[.val (.int p0), .val (.int p1), .val (.int (1 : Int32)), .val (.int (0 : Int32)), .val (.ref w_RED), .val (.ref w_ANY), .unset, .unset]) rfl) ?_
      show Go p e below _ (T20.setTop (mkF m 26 #[.val (.int p0), .val (.int p1), .val (.int (1 : Int32)), .val (.int (0 : Int32)), .val (.ref w_RED), .val (.ref w_ANY), .unset, .unset] []))
      refine Go.st (fun _ => XS.aload X20.here hx rfl (hb hby at_26) rfl rfl) ?_
      show Go p e below _ (T20.setTop (mkF m 28 #[.val (.int p0), .val (.int p1), .val (.int (1 : Int32)), .val (.int (0 : Int32)), .val (.ref w_RED), .val (.ref w_ANY), .unset, .unset] [(.ref w_RED)]))
      refine Go.st (fun _ => XS.aload X20.here hx rfl (hb hby at_28) rfl rfl) ?_
      show Go p e below _ (T20.setTop (mkF m 30 #[.val (.int p0), .val (.int p1), .val (.int (1 : Int32)), .val (.int (0 : Int32)), .val (.ref w_RED), .val (.ref w_ANY), .unset, .unset] [(.ref w_ANY), (.ref w_RED)]))
      refine goVirt X20 hx hZ (y := (⟨"com/example/tryst/tryst/elimination/Side", "meets", "(Lcom/example/tryst/tryst/elimination/Side;)Z"⟩ : MethodName)) (z := (⟨"com/example/tryst/tryst/elimination/Side", "meets", "(Lcom/example/tryst/tryst/elimination/Side;)Z"⟩ : MethodName)) hown (hw _ (List.mem_of_getElem? (i := 8) rfl)) (hw _ (List.mem_of_getElem? (i := 9) rfl)) (notFace_of_selects (args := #[]) (mvT hZ (hw _ (List.mem_of_getElem? (i := 11) rfl)))) (hw _ (List.mem_of_getElem? (i := 11) rfl)) (hw _ (List.mem_of_getElem? (i := 10) rfl)) (hw _ (List.mem_of_getElem? (i := 6) rfl)) (hw _ (List.mem_of_getElem? (i := 12) rfl)) (by decide) (a := w_RED) (argsL := [(.ref w_ANY)]) (rest := []) e20 E_w_RED (rm2 l Z a0 hw [] w_RED w_ANY w_ANY h0 n0 O0 S_w_ANY) 0 (by decide) (by decide) (by decide) (by decide) (mkF m 30 #[.val (.int p0), .val (.int p1), .val (.int (1 : Int32)), .val (.int (0 : Int32)), .val (.ref w_RED), .val (.ref w_ANY), .unset, .unset] [(.ref w_ANY), (.ref w_RED)]) rfl (by rw [hml]; rfl) (lenOf pd_1 rfl) rfl (hb hby at_30) (Nat.le_of_eq rfl) ?_
      intro v21 T21 L21 X21 hQ21
      obtain ⟨hv21, M21, e21⟩ := hQ21
      have N21 := Fr.app N20 M21
      obtain rfl : v21 = some (.int 1) := hv21.trans (by simp [ne_w_ANY_w_RED, Ne.symm ne_w_ANY_w_RED, ne_w_ANY_w_BLUE, Ne.symm ne_w_ANY_w_BLUE, ne_w_RED_w_BLUE, Ne.symm ne_w_RED_w_BLUE])
      show Go p e below _ (T21.setTop (mkF m 33 #[.val (.int p0), .val (.int p1), .val (.int (1 : Int32)), .val (.int (0 : Int32)), .val (.ref w_RED), .val (.ref w_ANY), .unset, .unset] [(.int (1 : Int32))]))
      refine Go.st (fun _ => XS.istore X21.here hx rfl (hb hby at_33) rfl (l' := #[.val (.int p0), .val (.int p1), .val (.int (1 : Int32)), .val (.int (0 : Int32)), .val (.ref w_RED), .val (.ref w_ANY), .val (.int (1 : Int32)), .unset]) rfl) ?_
      show Go p e below _ (T21.setTop (mkF m 35 #[.val (.int p0), .val (.int p1), .val (.int (1 : Int32)), .val (.int (0 : Int32)), .val (.ref w_RED), .val (.ref w_ANY), .val (.int (1 : Int32)), .unset] []))
      refine Go.st (fun _ => XS.aload X21.here hx rfl (hb hby at_35) rfl rfl) ?_
      show Go p e below _ (T21.setTop (mkF m 37 #[.val (.int p0), .val (.int p1), .val (.int (1 : Int32)), .val (.int (0 : Int32)), .val (.ref w_RED), .val (.ref w_ANY), .val (.int (1 : Int32)), .unset] [(.ref w_ANY)]))
      refine Go.st (fun _ => XS.aload X21.here hx rfl (hb hby at_37) rfl rfl) ?_
      show Go p e below _ (T21.setTop (mkF m 39 #[.val (.int p0), .val (.int p1), .val (.int (1 : Int32)), .val (.int (0 : Int32)), .val (.ref w_RED), .val (.ref w_ANY), .val (.int (1 : Int32)), .unset] [(.ref w_RED), (.ref w_ANY)]))
      refine goVirt X21 hx hZ (y := (⟨"com/example/tryst/tryst/elimination/Side", "meets", "(Lcom/example/tryst/tryst/elimination/Side;)Z"⟩ : MethodName)) (z := (⟨"com/example/tryst/tryst/elimination/Side", "meets", "(Lcom/example/tryst/tryst/elimination/Side;)Z"⟩ : MethodName)) hown (hw _ (List.mem_of_getElem? (i := 8) rfl)) (hw _ (List.mem_of_getElem? (i := 9) rfl)) (notFace_of_selects (args := #[]) (mvT hZ (hw _ (List.mem_of_getElem? (i := 11) rfl)))) (hw _ (List.mem_of_getElem? (i := 11) rfl)) (hw _ (List.mem_of_getElem? (i := 10) rfl)) (hw _ (List.mem_of_getElem? (i := 6) rfl)) (hw _ (List.mem_of_getElem? (i := 12) rfl)) (by decide) (a := w_ANY) (argsL := [(.ref w_RED)]) (rest := []) e21 E_w_ANY (rm2 l Z a0 hw [] w_ANY w_RED w_ANY h0 n0 O0 S_w_ANY) 0 (by decide) (by decide) (by decide) (by decide) (mkF m 39 #[.val (.int p0), .val (.int p1), .val (.int (1 : Int32)), .val (.int (0 : Int32)), .val (.ref w_RED), .val (.ref w_ANY), .val (.int (1 : Int32)), .unset] [(.ref w_RED), (.ref w_ANY)]) rfl (by rw [hml]; rfl) (lenOf pd_1 rfl) rfl (hb hby at_39) (Nat.le_of_eq rfl) ?_
      intro v22 T22 L22 X22 hQ22
      obtain ⟨hv22, M22, e22⟩ := hQ22
      have N22 := Fr.app N21 M22
      obtain rfl : v22 = some (.int 1) := hv22.trans (by simp [ne_w_ANY_w_RED, Ne.symm ne_w_ANY_w_RED, ne_w_ANY_w_BLUE, Ne.symm ne_w_ANY_w_BLUE, ne_w_RED_w_BLUE, Ne.symm ne_w_RED_w_BLUE])
      show Go p e below _ (T22.setTop (mkF m 42 #[.val (.int p0), .val (.int p1), .val (.int (1 : Int32)), .val (.int (0 : Int32)), .val (.ref w_RED), .val (.ref w_ANY), .val (.int (1 : Int32)), .unset] [(.int (1 : Int32))]))
      refine Go.st (fun _ => XS.istore X22.here hx rfl (hb hby at_42) rfl (l' := #[.val (.int p0), .val (.int p1), .val (.int (1 : Int32)), .val (.int (0 : Int32)), .val (.ref w_RED), .val (.ref w_ANY), .val (.int (1 : Int32)), .val (.int (1 : Int32))]) rfl) ?_
      show Go p e below _ (T22.setTop (mkF m 44 #[.val (.int p0), .val (.int p1), .val (.int (1 : Int32)), .val (.int (0 : Int32)), .val (.ref w_RED), .val (.ref w_ANY), .val (.int (1 : Int32)), .val (.int (1 : Int32))] []))
      refine Go.st (fun _ => XS.iload X22.here hx rfl (hb hby at_44) rfl) ?_
      show Go p e below _ (T22.setTop (mkF m 46 #[.val (.int p0), .val (.int p1), .val (.int (1 : Int32)), .val (.int (0 : Int32)), .val (.ref w_RED), .val (.ref w_ANY), .val (.int (1 : Int32)), .val (.int (1 : Int32))] [(.int (1 : Int32))]))
      refine Go.st (fun _ => XS.iloadN X22.here hx rfl (hb hby at_46) rfl) ?_
      show Go p e below _ (T22.setTop (mkF m 47 #[.val (.int p0), .val (.int p1), .val (.int (1 : Int32)), .val (.int (0 : Int32)), .val (.ref w_RED), .val (.ref w_ANY), .val (.int (1 : Int32)), .val (.int (1 : Int32))] [(.int (1 : Int32)), (.int (1 : Int32))]))
      refine Go.st (fun _ => XS.iloadN X22.here hx rfl (hb hby at_47) rfl) ?_
      show Go p e below _ (T22.setTop (mkF m 48 #[.val (.int p0), .val (.int p1), .val (.int (1 : Int32)), .val (.int (0 : Int32)), .val (.ref w_RED), .val (.ref w_ANY), .val (.int (1 : Int32)), .val (.int (1 : Int32))] [(.int (0 : Int32)), (.int (1 : Int32)), (.int (1 : Int32))]))
      refine goCallS X22 hx hZ (y := (⟨"com/example/tryst/tryst/elimination/SideMeetsPinLaw", "expected", "(II)Z"⟩ : MethodName)) hown (hw _ (List.mem_of_getElem? (i := 14) rfl)) (hw _ (List.mem_of_getElem? (i := 15) rfl)) (hw _ (List.mem_of_getElem? (i := 3) rfl)) (hw _ (List.mem_of_getElem? (i := 16) rfl)) (by decide) (argsL := [(.int (1 : Int32)), (.int (0 : Int32))]) (rest := [(.int (1 : Int32))]) e22 (rm3 l Z a0 hw [] (1 : Int32) (0 : Int32) h0 n0 O0) 1 (by decide) (by decide) (by decide) (by decide) (mkF m 48 #[.val (.int p0), .val (.int p1), .val (.int (1 : Int32)), .val (.int (0 : Int32)), .val (.ref w_RED), .val (.ref w_ANY), .val (.int (1 : Int32)), .val (.int (1 : Int32))] [(.int (0 : Int32)), (.int (1 : Int32)), (.int (1 : Int32))]) rfl (by rw [hml]; rfl) (lenOf pd_2 rfl) rfl (hb hby at_48) (Nat.le_of_eq rfl) ?_
      intro v23 T23 L23 X23 hQ23
      obtain ⟨hv23, M23, e23⟩ := hQ23
      have N23 := Fr.app N22 M23
      obtain rfl : v23 = some (.int 1) := hv23.trans (by simp)
      show Go p e below _ (T23.setTop (mkF m 51 #[.val (.int p0), .val (.int p1), .val (.int (1 : Int32)), .val (.int (0 : Int32)), .val (.ref w_RED), .val (.ref w_ANY), .val (.int (1 : Int32)), .val (.int (1 : Int32))] [(.int (1 : Int32)), (.int (1 : Int32))]))
      refine Go.st (fun _ => XS.icmpNo X23.here hx rfl (hb hby at_51) rfl (teq (by decide : (1 : Int32) = (1 : Int32))).2) ?_
      show Go p e below _ (T23.setTop (mkF m 54 #[.val (.int p0), .val (.int p1), .val (.int (1 : Int32)), .val (.int (0 : Int32)), .val (.ref w_RED), .val (.ref w_ANY), .val (.int (1 : Int32)), .val (.int (1 : Int32))] []))
      refine Go.st (fun _ => XS.iload X23.here hx rfl (hb hby at_54) rfl) ?_
      show Go p e below _ (T23.setTop (mkF m 56 #[.val (.int p0), .val (.int p1), .val (.int (1 : Int32)), .val (.int (0 : Int32)), .val (.ref w_RED), .val (.ref w_ANY), .val (.int (1 : Int32)), .val (.int (1 : Int32))] [(.int (1 : Int32))]))
      refine Go.st (fun _ => XS.iloadN X23.here hx rfl (hb hby at_56) rfl) ?_
      show Go p e below _ (T23.setTop (mkF m 57 #[.val (.int p0), .val (.int p1), .val (.int (1 : Int32)), .val (.int (0 : Int32)), .val (.ref w_RED), .val (.ref w_ANY), .val (.int (1 : Int32)), .val (.int (1 : Int32))] [(.int (0 : Int32)), (.int (1 : Int32))]))
      refine Go.st (fun _ => XS.iloadN X23.here hx rfl (hb hby at_57) rfl) ?_
      show Go p e below _ (T23.setTop (mkF m 58 #[.val (.int p0), .val (.int p1), .val (.int (1 : Int32)), .val (.int (0 : Int32)), .val (.ref w_RED), .val (.ref w_ANY), .val (.int (1 : Int32)), .val (.int (1 : Int32))] [(.int (1 : Int32)), (.int (0 : Int32)), (.int (1 : Int32))]))
      refine goCallS X23 hx hZ (y := (⟨"com/example/tryst/tryst/elimination/SideMeetsPinLaw", "expected", "(II)Z"⟩ : MethodName)) hown (hw _ (List.mem_of_getElem? (i := 14) rfl)) (hw _ (List.mem_of_getElem? (i := 15) rfl)) (hw _ (List.mem_of_getElem? (i := 3) rfl)) (hw _ (List.mem_of_getElem? (i := 16) rfl)) (by decide) (argsL := [(.int (0 : Int32)), (.int (1 : Int32))]) (rest := [(.int (1 : Int32))]) e23 (rm3 l Z a0 hw [] (0 : Int32) (1 : Int32) h0 n0 O0) 1 (by decide) (by decide) (by decide) (by decide) (mkF m 58 #[.val (.int p0), .val (.int p1), .val (.int (1 : Int32)), .val (.int (0 : Int32)), .val (.ref w_RED), .val (.ref w_ANY), .val (.int (1 : Int32)), .val (.int (1 : Int32))] [(.int (1 : Int32)), (.int (0 : Int32)), (.int (1 : Int32))]) rfl (by rw [hml]; rfl) (lenOf pd_2 rfl) rfl (hb hby at_58) (Nat.le_of_eq rfl) ?_
      intro v24 T24 L24 X24 hQ24
      obtain ⟨hv24, M24, e24⟩ := hQ24
      have N24 := Fr.app N23 M24
      obtain rfl : v24 = some (.int 1) := hv24.trans (by simp)
      show Go p e below _ (T24.setTop (mkF m 61 #[.val (.int p0), .val (.int p1), .val (.int (1 : Int32)), .val (.int (0 : Int32)), .val (.ref w_RED), .val (.ref w_ANY), .val (.int (1 : Int32)), .val (.int (1 : Int32))] [(.int (1 : Int32)), (.int (1 : Int32))]))
      refine Go.st (fun _ => XS.icmpNo X24.here hx rfl (hb hby at_61) rfl (teq (by decide : (1 : Int32) = (1 : Int32))).2) ?_
      show Go p e below _ (T24.setTop (mkF m 64 #[.val (.int p0), .val (.int p1), .val (.int (1 : Int32)), .val (.int (0 : Int32)), .val (.ref w_RED), .val (.ref w_ANY), .val (.int (1 : Int32)), .val (.int (1 : Int32))] []))
      refine Go.st (fun _ => XS.iload X24.here hx rfl (hb hby at_64) rfl) ?_
      show Go p e below _ (T24.setTop (mkF m 66 #[.val (.int p0), .val (.int p1), .val (.int (1 : Int32)), .val (.int (0 : Int32)), .val (.ref w_RED), .val (.ref w_ANY), .val (.int (1 : Int32)), .val (.int (1 : Int32))] [(.int (1 : Int32))]))
      refine Go.st (fun _ => XS.iload X24.here hx rfl (hb hby at_66) rfl) ?_
      show Go p e below _ (T24.setTop (mkF m 68 #[.val (.int p0), .val (.int p1), .val (.int (1 : Int32)), .val (.int (0 : Int32)), .val (.ref w_RED), .val (.ref w_ANY), .val (.int (1 : Int32)), .val (.int (1 : Int32))] [(.int (1 : Int32)), (.int (1 : Int32))]))
      refine Go.st (fun _ => XS.icmpNo X24.here hx rfl (hb hby at_68) rfl (teq (by decide : (1 : Int32) = (1 : Int32))).2) ?_
      show Go p e below _ (T24.setTop (mkF m 71 #[.val (.int p0), .val (.int p1), .val (.int (1 : Int32)), .val (.int (0 : Int32)), .val (.ref w_RED), .val (.ref w_ANY), .val (.int (1 : Int32)), .val (.int (1 : Int32))] []))
      refine Go.st (fun _ => XS.iconst X24.here hx rfl (hb hby at_71)) ?_
      show Go p e below _ (T24.setTop (mkF m 72 #[.val (.int p0), .val (.int p1), .val (.int (1 : Int32)), .val (.int (0 : Int32)), .val (.ref w_RED), .val (.ref w_ANY), .val (.int (1 : Int32)), .val (.int (1 : Int32))] [(.int (1 : Int32))]))
      refine Go.st (fun _ => XS.goto X24.here hx rfl (pc0 := 72) (pc' := 76) rfl (hb hby at_72) (by decide) (by decide)) ?_
      show Go p e below _ (T24.setTop (mkF m 76 #[.val (.int p0), .val (.int p1), .val (.int (1 : Int32)), .val (.int (0 : Int32)), .val (.ref w_RED), .val (.ref w_ANY), .val (.int (1 : Int32)), .val (.int (1 : Int32))] [(.int (1 : Int32))]))
      exact goRetN X24 hx hlk hret (t := .boolean) (by simp) (w := (1 : Int32)) (by decide) e24 (hb hby at_76) (by decide) (by decide) ⟨rfl, N24⟩
    · rw [q1]
      show Go p e below _ (s₁.setTop (mkF m 14 #[.val (.int p0), .val (.int p1), .val (.int (1 : Int32)), .val (.int (1 : Int32)), .unset, .unset, .unset, .unset] []))
      refine Go.st (fun _ => XS.iloadN X0.here hx rfl (hb hby at_14) rfl) ?_
      show Go p e below _ (s₁.setTop (mkF m 15 #[.val (.int p0), .val (.int p1), .val (.int (1 : Int32)), .val (.int (1 : Int32)), .unset, .unset, .unset, .unset] [(.int (1 : Int32))]))
      refine goCallS X0 hx hZ (y := (⟨"com/example/tryst/tryst/elimination/SideMeetsPinLaw", "side", "(I)Lcom/example/tryst/tryst/elimination/Side;"⟩ : MethodName)) hown (hw _ (List.mem_of_getElem? (i := 1) rfl)) (hw _ (List.mem_of_getElem? (i := 2) rfl)) (hw _ (List.mem_of_getElem? (i := 3) rfl)) (hw _ (List.mem_of_getElem? (i := 4) rfl)) (by decide) (argsL := [(.int (1 : Int32))]) (rest := []) e0 (rm1 l Z a0 hw [] (1 : Int32) w_ANY w_RED w_BLUE h0 n0 O0 S_w_ANY S_w_RED S_w_BLUE) 0 (by decide) (by decide) (by decide) (by decide) (mkF m 15 #[.val (.int p0), .val (.int p1), .val (.int (1 : Int32)), .val (.int (1 : Int32)), .unset, .unset, .unset, .unset] [(.int (1 : Int32))]) rfl (by rw [hml]; rfl) (lenOf pd_0 rfl) rfl (hb hby at_15) (Nat.le_of_eq rfl) ?_
      intro v25 T25 L25 X25 hQ25
      obtain ⟨hv25, M25, e25⟩ := hQ25
      have N25 := Fr.app N0 M25
      obtain rfl : v25 = some (.ref w_RED) := hv25.trans (by simp)
      show Go p e below _ (T25.setTop (mkF m 18 #[.val (.int p0), .val (.int p1), .val (.int (1 : Int32)), .val (.int (1 : Int32)), .unset, .unset, .unset, .unset] [(.ref w_RED)]))
      refine Go.st (fun _ => XS.astore X25.here hx rfl (hb hby at_18) rfl rfl (l' := #[.val (.int p0), .val (.int p1), .val (.int (1 : Int32)), .val (.int (1 : Int32)), .val (.ref w_RED), .unset, .unset, .unset]) rfl) ?_
      show Go p e below _ (T25.setTop (mkF m 20 #[.val (.int p0), .val (.int p1), .val (.int (1 : Int32)), .val (.int (1 : Int32)), .val (.ref w_RED), .unset, .unset, .unset] []))
      refine Go.st (fun _ => XS.iloadN X25.here hx rfl (hb hby at_20) rfl) ?_
      show Go p e below _ (T25.setTop (mkF m 21 #[.val (.int p0), .val (.int p1), .val (.int (1 : Int32)), .val (.int (1 : Int32)), .val (.ref w_RED), .unset, .unset, .unset] [(.int (1 : Int32))]))
      refine goCallS X25 hx hZ (y := (⟨"com/example/tryst/tryst/elimination/SideMeetsPinLaw", "side", "(I)Lcom/example/tryst/tryst/elimination/Side;"⟩ : MethodName)) hown (hw _ (List.mem_of_getElem? (i := 1) rfl)) (hw _ (List.mem_of_getElem? (i := 2) rfl)) (hw _ (List.mem_of_getElem? (i := 3) rfl)) (hw _ (List.mem_of_getElem? (i := 4) rfl)) (by decide) (argsL := [(.int (1 : Int32))]) (rest := []) e25 (rm1 l Z a0 hw [] (1 : Int32) w_ANY w_RED w_BLUE h0 n0 O0 S_w_ANY S_w_RED S_w_BLUE) 0 (by decide) (by decide) (by decide) (by decide) (mkF m 21 #[.val (.int p0), .val (.int p1), .val (.int (1 : Int32)), .val (.int (1 : Int32)), .val (.ref w_RED), .unset, .unset, .unset] [(.int (1 : Int32))]) rfl (by rw [hml]; rfl) (lenOf pd_0 rfl) rfl (hb hby at_21) (Nat.le_of_eq rfl) ?_
      intro v26 T26 L26 X26 hQ26
      obtain ⟨hv26, M26, e26⟩ := hQ26
      have N26 := Fr.app N25 M26
      obtain rfl : v26 = some (.ref w_RED) := hv26.trans (by simp)
      show Go p e below _ (T26.setTop (mkF m 24 #[.val (.int p0), .val (.int p1), .val (.int (1 : Int32)), .val (.int (1 : Int32)), .val (.ref w_RED), .unset, .unset, .unset] [(.ref w_RED)]))
      refine Go.st (fun _ => XS.astore X26.here hx rfl (hb hby at_24) rfl rfl (l' := #[.val (.int p0), .val (.int p1), .val (.int (1 : Int32)), .val (.int (1 : Int32)), .val (.ref w_RED), .val (.ref w_RED), .unset, .unset]) rfl) ?_
      show Go p e below _ (T26.setTop (mkF m 26 #[.val (.int p0), .val (.int p1), .val (.int (1 : Int32)), .val (.int (1 : Int32)), .val (.ref w_RED), .val (.ref w_RED), .unset, .unset] []))
      refine Go.st (fun _ => XS.aload X26.here hx rfl (hb hby at_26) rfl rfl) ?_
      show Go p e below _ (T26.setTop (mkF m 28 #[.val (.int p0), .val (.int p1), .val (.int (1 : Int32)), .val (.int (1 : Int32)), .val (.ref w_RED), .val (.ref w_RED), .unset, .unset] [(.ref w_RED)]))
      refine Go.st (fun _ => XS.aload X26.here hx rfl (hb hby at_28) rfl rfl) ?_
      show Go p e below _ (T26.setTop (mkF m 30 #[.val (.int p0), .val (.int p1), .val (.int (1 : Int32)), .val (.int (1 : Int32)), .val (.ref w_RED), .val (.ref w_RED), .unset, .unset] [(.ref w_RED), (.ref w_RED)]))
      refine goVirt X26 hx hZ (y := (⟨"com/example/tryst/tryst/elimination/Side", "meets", "(Lcom/example/tryst/tryst/elimination/Side;)Z"⟩ : MethodName)) (z := (⟨"com/example/tryst/tryst/elimination/Side", "meets", "(Lcom/example/tryst/tryst/elimination/Side;)Z"⟩ : MethodName)) hown (hw _ (List.mem_of_getElem? (i := 8) rfl)) (hw _ (List.mem_of_getElem? (i := 9) rfl)) (notFace_of_selects (args := #[]) (mvT hZ (hw _ (List.mem_of_getElem? (i := 11) rfl)))) (hw _ (List.mem_of_getElem? (i := 11) rfl)) (hw _ (List.mem_of_getElem? (i := 10) rfl)) (hw _ (List.mem_of_getElem? (i := 6) rfl)) (hw _ (List.mem_of_getElem? (i := 12) rfl)) (by decide) (a := w_RED) (argsL := [(.ref w_RED)]) (rest := []) e26 E_w_RED (rm2 l Z a0 hw [] w_RED w_RED w_ANY h0 n0 O0 S_w_ANY) 0 (by decide) (by decide) (by decide) (by decide) (mkF m 30 #[.val (.int p0), .val (.int p1), .val (.int (1 : Int32)), .val (.int (1 : Int32)), .val (.ref w_RED), .val (.ref w_RED), .unset, .unset] [(.ref w_RED), (.ref w_RED)]) rfl (by rw [hml]; rfl) (lenOf pd_1 rfl) rfl (hb hby at_30) (Nat.le_of_eq rfl) ?_
      intro v27 T27 L27 X27 hQ27
      obtain ⟨hv27, M27, e27⟩ := hQ27
      have N27 := Fr.app N26 M27
      obtain rfl : v27 = some (.int 0) := hv27.trans (by simp [ne_w_ANY_w_RED, Ne.symm ne_w_ANY_w_RED, ne_w_ANY_w_BLUE, Ne.symm ne_w_ANY_w_BLUE, ne_w_RED_w_BLUE, Ne.symm ne_w_RED_w_BLUE])
      show Go p e below _ (T27.setTop (mkF m 33 #[.val (.int p0), .val (.int p1), .val (.int (1 : Int32)), .val (.int (1 : Int32)), .val (.ref w_RED), .val (.ref w_RED), .unset, .unset] [(.int (0 : Int32))]))
      refine Go.st (fun _ => XS.istore X27.here hx rfl (hb hby at_33) rfl (l' := #[.val (.int p0), .val (.int p1), .val (.int (1 : Int32)), .val (.int (1 : Int32)), .val (.ref w_RED), .val (.ref w_RED), .val (.int (0 : Int32)), .unset]) rfl) ?_
      show Go p e below _ (T27.setTop (mkF m 35 #[.val (.int p0), .val (.int p1), .val (.int (1 : Int32)), .val (.int (1 : Int32)), .val (.ref w_RED), .val (.ref w_RED), .val (.int (0 : Int32)), .unset] []))
      refine Go.st (fun _ => XS.aload X27.here hx rfl (hb hby at_35) rfl rfl) ?_
      show Go p e below _ (T27.setTop (mkF m 37 #[.val (.int p0), .val (.int p1), .val (.int (1 : Int32)), .val (.int (1 : Int32)), .val (.ref w_RED), .val (.ref w_RED), .val (.int (0 : Int32)), .unset] [(.ref w_RED)]))
      refine Go.st (fun _ => XS.aload X27.here hx rfl (hb hby at_37) rfl rfl) ?_
      show Go p e below _ (T27.setTop (mkF m 39 #[.val (.int p0), .val (.int p1), .val (.int (1 : Int32)), .val (.int (1 : Int32)), .val (.ref w_RED), .val (.ref w_RED), .val (.int (0 : Int32)), .unset] [(.ref w_RED), (.ref w_RED)]))
      refine goVirt X27 hx hZ (y := (⟨"com/example/tryst/tryst/elimination/Side", "meets", "(Lcom/example/tryst/tryst/elimination/Side;)Z"⟩ : MethodName)) (z := (⟨"com/example/tryst/tryst/elimination/Side", "meets", "(Lcom/example/tryst/tryst/elimination/Side;)Z"⟩ : MethodName)) hown (hw _ (List.mem_of_getElem? (i := 8) rfl)) (hw _ (List.mem_of_getElem? (i := 9) rfl)) (notFace_of_selects (args := #[]) (mvT hZ (hw _ (List.mem_of_getElem? (i := 11) rfl)))) (hw _ (List.mem_of_getElem? (i := 11) rfl)) (hw _ (List.mem_of_getElem? (i := 10) rfl)) (hw _ (List.mem_of_getElem? (i := 6) rfl)) (hw _ (List.mem_of_getElem? (i := 12) rfl)) (by decide) (a := w_RED) (argsL := [(.ref w_RED)]) (rest := []) e27 E_w_RED (rm2 l Z a0 hw [] w_RED w_RED w_ANY h0 n0 O0 S_w_ANY) 0 (by decide) (by decide) (by decide) (by decide) (mkF m 39 #[.val (.int p0), .val (.int p1), .val (.int (1 : Int32)), .val (.int (1 : Int32)), .val (.ref w_RED), .val (.ref w_RED), .val (.int (0 : Int32)), .unset] [(.ref w_RED), (.ref w_RED)]) rfl (by rw [hml]; rfl) (lenOf pd_1 rfl) rfl (hb hby at_39) (Nat.le_of_eq rfl) ?_
      intro v28 T28 L28 X28 hQ28
      obtain ⟨hv28, M28, e28⟩ := hQ28
      have N28 := Fr.app N27 M28
      obtain rfl : v28 = some (.int 0) := hv28.trans (by simp [ne_w_ANY_w_RED, Ne.symm ne_w_ANY_w_RED, ne_w_ANY_w_BLUE, Ne.symm ne_w_ANY_w_BLUE, ne_w_RED_w_BLUE, Ne.symm ne_w_RED_w_BLUE])
      show Go p e below _ (T28.setTop (mkF m 42 #[.val (.int p0), .val (.int p1), .val (.int (1 : Int32)), .val (.int (1 : Int32)), .val (.ref w_RED), .val (.ref w_RED), .val (.int (0 : Int32)), .unset] [(.int (0 : Int32))]))
      refine Go.st (fun _ => XS.istore X28.here hx rfl (hb hby at_42) rfl (l' := #[.val (.int p0), .val (.int p1), .val (.int (1 : Int32)), .val (.int (1 : Int32)), .val (.ref w_RED), .val (.ref w_RED), .val (.int (0 : Int32)), .val (.int (0 : Int32))]) rfl) ?_
      show Go p e below _ (T28.setTop (mkF m 44 #[.val (.int p0), .val (.int p1), .val (.int (1 : Int32)), .val (.int (1 : Int32)), .val (.ref w_RED), .val (.ref w_RED), .val (.int (0 : Int32)), .val (.int (0 : Int32))] []))
      refine Go.st (fun _ => XS.iload X28.here hx rfl (hb hby at_44) rfl) ?_
      show Go p e below _ (T28.setTop (mkF m 46 #[.val (.int p0), .val (.int p1), .val (.int (1 : Int32)), .val (.int (1 : Int32)), .val (.ref w_RED), .val (.ref w_RED), .val (.int (0 : Int32)), .val (.int (0 : Int32))] [(.int (0 : Int32))]))
      refine Go.st (fun _ => XS.iloadN X28.here hx rfl (hb hby at_46) rfl) ?_
      show Go p e below _ (T28.setTop (mkF m 47 #[.val (.int p0), .val (.int p1), .val (.int (1 : Int32)), .val (.int (1 : Int32)), .val (.ref w_RED), .val (.ref w_RED), .val (.int (0 : Int32)), .val (.int (0 : Int32))] [(.int (1 : Int32)), (.int (0 : Int32))]))
      refine Go.st (fun _ => XS.iloadN X28.here hx rfl (hb hby at_47) rfl) ?_
      show Go p e below _ (T28.setTop (mkF m 48 #[.val (.int p0), .val (.int p1), .val (.int (1 : Int32)), .val (.int (1 : Int32)), .val (.ref w_RED), .val (.ref w_RED), .val (.int (0 : Int32)), .val (.int (0 : Int32))] [(.int (1 : Int32)), (.int (1 : Int32)), (.int (0 : Int32))]))
      refine goCallS X28 hx hZ (y := (⟨"com/example/tryst/tryst/elimination/SideMeetsPinLaw", "expected", "(II)Z"⟩ : MethodName)) hown (hw _ (List.mem_of_getElem? (i := 14) rfl)) (hw _ (List.mem_of_getElem? (i := 15) rfl)) (hw _ (List.mem_of_getElem? (i := 3) rfl)) (hw _ (List.mem_of_getElem? (i := 16) rfl)) (by decide) (argsL := [(.int (1 : Int32)), (.int (1 : Int32))]) (rest := [(.int (0 : Int32))]) e28 (rm3 l Z a0 hw [] (1 : Int32) (1 : Int32) h0 n0 O0) 1 (by decide) (by decide) (by decide) (by decide) (mkF m 48 #[.val (.int p0), .val (.int p1), .val (.int (1 : Int32)), .val (.int (1 : Int32)), .val (.ref w_RED), .val (.ref w_RED), .val (.int (0 : Int32)), .val (.int (0 : Int32))] [(.int (1 : Int32)), (.int (1 : Int32)), (.int (0 : Int32))]) rfl (by rw [hml]; rfl) (lenOf pd_2 rfl) rfl (hb hby at_48) (Nat.le_of_eq rfl) ?_
      intro v29 T29 L29 X29 hQ29
      obtain ⟨hv29, M29, e29⟩ := hQ29
      have N29 := Fr.app N28 M29
      obtain rfl : v29 = some (.int 0) := hv29.trans (by simp)
      show Go p e below _ (T29.setTop (mkF m 51 #[.val (.int p0), .val (.int p1), .val (.int (1 : Int32)), .val (.int (1 : Int32)), .val (.ref w_RED), .val (.ref w_RED), .val (.int (0 : Int32)), .val (.int (0 : Int32))] [(.int (0 : Int32)), (.int (0 : Int32))]))
      refine Go.st (fun _ => XS.icmpNo X29.here hx rfl (hb hby at_51) rfl (teq (by decide : (0 : Int32) = (0 : Int32))).2) ?_
      show Go p e below _ (T29.setTop (mkF m 54 #[.val (.int p0), .val (.int p1), .val (.int (1 : Int32)), .val (.int (1 : Int32)), .val (.ref w_RED), .val (.ref w_RED), .val (.int (0 : Int32)), .val (.int (0 : Int32))] []))
      refine Go.st (fun _ => XS.iload X29.here hx rfl (hb hby at_54) rfl) ?_
      show Go p e below _ (T29.setTop (mkF m 56 #[.val (.int p0), .val (.int p1), .val (.int (1 : Int32)), .val (.int (1 : Int32)), .val (.ref w_RED), .val (.ref w_RED), .val (.int (0 : Int32)), .val (.int (0 : Int32))] [(.int (0 : Int32))]))
      refine Go.st (fun _ => XS.iloadN X29.here hx rfl (hb hby at_56) rfl) ?_
      show Go p e below _ (T29.setTop (mkF m 57 #[.val (.int p0), .val (.int p1), .val (.int (1 : Int32)), .val (.int (1 : Int32)), .val (.ref w_RED), .val (.ref w_RED), .val (.int (0 : Int32)), .val (.int (0 : Int32))] [(.int (1 : Int32)), (.int (0 : Int32))]))
      refine Go.st (fun _ => XS.iloadN X29.here hx rfl (hb hby at_57) rfl) ?_
      show Go p e below _ (T29.setTop (mkF m 58 #[.val (.int p0), .val (.int p1), .val (.int (1 : Int32)), .val (.int (1 : Int32)), .val (.ref w_RED), .val (.ref w_RED), .val (.int (0 : Int32)), .val (.int (0 : Int32))] [(.int (1 : Int32)), (.int (1 : Int32)), (.int (0 : Int32))]))
      refine goCallS X29 hx hZ (y := (⟨"com/example/tryst/tryst/elimination/SideMeetsPinLaw", "expected", "(II)Z"⟩ : MethodName)) hown (hw _ (List.mem_of_getElem? (i := 14) rfl)) (hw _ (List.mem_of_getElem? (i := 15) rfl)) (hw _ (List.mem_of_getElem? (i := 3) rfl)) (hw _ (List.mem_of_getElem? (i := 16) rfl)) (by decide) (argsL := [(.int (1 : Int32)), (.int (1 : Int32))]) (rest := [(.int (0 : Int32))]) e29 (rm3 l Z a0 hw [] (1 : Int32) (1 : Int32) h0 n0 O0) 1 (by decide) (by decide) (by decide) (by decide) (mkF m 58 #[.val (.int p0), .val (.int p1), .val (.int (1 : Int32)), .val (.int (1 : Int32)), .val (.ref w_RED), .val (.ref w_RED), .val (.int (0 : Int32)), .val (.int (0 : Int32))] [(.int (1 : Int32)), (.int (1 : Int32)), (.int (0 : Int32))]) rfl (by rw [hml]; rfl) (lenOf pd_2 rfl) rfl (hb hby at_58) (Nat.le_of_eq rfl) ?_
      intro v30 T30 L30 X30 hQ30
      obtain ⟨hv30, M30, e30⟩ := hQ30
      have N30 := Fr.app N29 M30
      obtain rfl : v30 = some (.int 0) := hv30.trans (by simp)
      show Go p e below _ (T30.setTop (mkF m 61 #[.val (.int p0), .val (.int p1), .val (.int (1 : Int32)), .val (.int (1 : Int32)), .val (.ref w_RED), .val (.ref w_RED), .val (.int (0 : Int32)), .val (.int (0 : Int32))] [(.int (0 : Int32)), (.int (0 : Int32))]))
      refine Go.st (fun _ => XS.icmpNo X30.here hx rfl (hb hby at_61) rfl (teq (by decide : (0 : Int32) = (0 : Int32))).2) ?_
      show Go p e below _ (T30.setTop (mkF m 64 #[.val (.int p0), .val (.int p1), .val (.int (1 : Int32)), .val (.int (1 : Int32)), .val (.ref w_RED), .val (.ref w_RED), .val (.int (0 : Int32)), .val (.int (0 : Int32))] []))
      refine Go.st (fun _ => XS.iload X30.here hx rfl (hb hby at_64) rfl) ?_
      show Go p e below _ (T30.setTop (mkF m 66 #[.val (.int p0), .val (.int p1), .val (.int (1 : Int32)), .val (.int (1 : Int32)), .val (.ref w_RED), .val (.ref w_RED), .val (.int (0 : Int32)), .val (.int (0 : Int32))] [(.int (0 : Int32))]))
      refine Go.st (fun _ => XS.iload X30.here hx rfl (hb hby at_66) rfl) ?_
      show Go p e below _ (T30.setTop (mkF m 68 #[.val (.int p0), .val (.int p1), .val (.int (1 : Int32)), .val (.int (1 : Int32)), .val (.ref w_RED), .val (.ref w_RED), .val (.int (0 : Int32)), .val (.int (0 : Int32))] [(.int (0 : Int32)), (.int (0 : Int32))]))
      refine Go.st (fun _ => XS.icmpNo X30.here hx rfl (hb hby at_68) rfl (teq (by decide : (0 : Int32) = (0 : Int32))).2) ?_
      show Go p e below _ (T30.setTop (mkF m 71 #[.val (.int p0), .val (.int p1), .val (.int (1 : Int32)), .val (.int (1 : Int32)), .val (.ref w_RED), .val (.ref w_RED), .val (.int (0 : Int32)), .val (.int (0 : Int32))] []))
      refine Go.st (fun _ => XS.iconst X30.here hx rfl (hb hby at_71)) ?_
      show Go p e below _ (T30.setTop (mkF m 72 #[.val (.int p0), .val (.int p1), .val (.int (1 : Int32)), .val (.int (1 : Int32)), .val (.ref w_RED), .val (.ref w_RED), .val (.int (0 : Int32)), .val (.int (0 : Int32))] [(.int (1 : Int32))]))
      refine Go.st (fun _ => XS.goto X30.here hx rfl (pc0 := 72) (pc' := 76) rfl (hb hby at_72) (by decide) (by decide)) ?_
      show Go p e below _ (T30.setTop (mkF m 76 #[.val (.int p0), .val (.int p1), .val (.int (1 : Int32)), .val (.int (1 : Int32)), .val (.ref w_RED), .val (.ref w_RED), .val (.int (0 : Int32)), .val (.int (0 : Int32))] [(.int (1 : Int32))]))
      exact goRetN X30 hx hlk hret (t := .boolean) (by simp) (w := (1 : Int32)) (by decide) e30 (hb hby at_76) (by decide) (by decide) ⟨rfl, N30⟩
    · rw [q1]
      show Go p e below _ (s₁.setTop (mkF m 14 #[.val (.int p0), .val (.int p1), .val (.int (1 : Int32)), .val (.int (2 : Int32)), .unset, .unset, .unset, .unset] []))
      refine Go.st (fun _ => XS.iloadN X0.here hx rfl (hb hby at_14) rfl) ?_
      show Go p e below _ (s₁.setTop (mkF m 15 #[.val (.int p0), .val (.int p1), .val (.int (1 : Int32)), .val (.int (2 : Int32)), .unset, .unset, .unset, .unset] [(.int (1 : Int32))]))
      refine goCallS X0 hx hZ (y := (⟨"com/example/tryst/tryst/elimination/SideMeetsPinLaw", "side", "(I)Lcom/example/tryst/tryst/elimination/Side;"⟩ : MethodName)) hown (hw _ (List.mem_of_getElem? (i := 1) rfl)) (hw _ (List.mem_of_getElem? (i := 2) rfl)) (hw _ (List.mem_of_getElem? (i := 3) rfl)) (hw _ (List.mem_of_getElem? (i := 4) rfl)) (by decide) (argsL := [(.int (1 : Int32))]) (rest := []) e0 (rm1 l Z a0 hw [] (1 : Int32) w_ANY w_RED w_BLUE h0 n0 O0 S_w_ANY S_w_RED S_w_BLUE) 0 (by decide) (by decide) (by decide) (by decide) (mkF m 15 #[.val (.int p0), .val (.int p1), .val (.int (1 : Int32)), .val (.int (2 : Int32)), .unset, .unset, .unset, .unset] [(.int (1 : Int32))]) rfl (by rw [hml]; rfl) (lenOf pd_0 rfl) rfl (hb hby at_15) (Nat.le_of_eq rfl) ?_
      intro v31 T31 L31 X31 hQ31
      obtain ⟨hv31, M31, e31⟩ := hQ31
      have N31 := Fr.app N0 M31
      obtain rfl : v31 = some (.ref w_RED) := hv31.trans (by simp)
      show Go p e below _ (T31.setTop (mkF m 18 #[.val (.int p0), .val (.int p1), .val (.int (1 : Int32)), .val (.int (2 : Int32)), .unset, .unset, .unset, .unset] [(.ref w_RED)]))
      refine Go.st (fun _ => XS.astore X31.here hx rfl (hb hby at_18) rfl rfl (l' := #[.val (.int p0), .val (.int p1), .val (.int (1 : Int32)), .val (.int (2 : Int32)), .val (.ref w_RED), .unset, .unset, .unset]) rfl) ?_
      show Go p e below _ (T31.setTop (mkF m 20 #[.val (.int p0), .val (.int p1), .val (.int (1 : Int32)), .val (.int (2 : Int32)), .val (.ref w_RED), .unset, .unset, .unset] []))
      refine Go.st (fun _ => XS.iloadN X31.here hx rfl (hb hby at_20) rfl) ?_
      show Go p e below _ (T31.setTop (mkF m 21 #[.val (.int p0), .val (.int p1), .val (.int (1 : Int32)), .val (.int (2 : Int32)), .val (.ref w_RED), .unset, .unset, .unset] [(.int (2 : Int32))]))
      refine goCallS X31 hx hZ (y := (⟨"com/example/tryst/tryst/elimination/SideMeetsPinLaw", "side", "(I)Lcom/example/tryst/tryst/elimination/Side;"⟩ : MethodName)) hown (hw _ (List.mem_of_getElem? (i := 1) rfl)) (hw _ (List.mem_of_getElem? (i := 2) rfl)) (hw _ (List.mem_of_getElem? (i := 3) rfl)) (hw _ (List.mem_of_getElem? (i := 4) rfl)) (by decide) (argsL := [(.int (2 : Int32))]) (rest := []) e31 (rm1 l Z a0 hw [] (2 : Int32) w_ANY w_RED w_BLUE h0 n0 O0 S_w_ANY S_w_RED S_w_BLUE) 0 (by decide) (by decide) (by decide) (by decide) (mkF m 21 #[.val (.int p0), .val (.int p1), .val (.int (1 : Int32)), .val (.int (2 : Int32)), .val (.ref w_RED), .unset, .unset, .unset] [(.int (2 : Int32))]) rfl (by rw [hml]; rfl) (lenOf pd_0 rfl) rfl (hb hby at_21) (Nat.le_of_eq rfl) ?_
      intro v32 T32 L32 X32 hQ32
      obtain ⟨hv32, M32, e32⟩ := hQ32
      have N32 := Fr.app N31 M32
      obtain rfl : v32 = some (.ref w_BLUE) := hv32.trans (by simp)
      show Go p e below _ (T32.setTop (mkF m 24 #[.val (.int p0), .val (.int p1), .val (.int (1 : Int32)), .val (.int (2 : Int32)), .val (.ref w_RED), .unset, .unset, .unset] [(.ref w_BLUE)]))
      refine Go.st (fun _ => XS.astore X32.here hx rfl (hb hby at_24) rfl rfl (l' := #[.val (.int p0), .val (.int p1), .val (.int (1 : Int32)), .val (.int (2 : Int32)), .val (.ref w_RED), .val (.ref w_BLUE), .unset, .unset]) rfl) ?_
      show Go p e below _ (T32.setTop (mkF m 26 #[.val (.int p0), .val (.int p1), .val (.int (1 : Int32)), .val (.int (2 : Int32)), .val (.ref w_RED), .val (.ref w_BLUE), .unset, .unset] []))
      refine Go.st (fun _ => XS.aload X32.here hx rfl (hb hby at_26) rfl rfl) ?_
      show Go p e below _ (T32.setTop (mkF m 28 #[.val (.int p0), .val (.int p1), .val (.int (1 : Int32)), .val (.int (2 : Int32)), .val (.ref w_RED), .val (.ref w_BLUE), .unset, .unset] [(.ref w_RED)]))
      refine Go.st (fun _ => XS.aload X32.here hx rfl (hb hby at_28) rfl rfl) ?_
      show Go p e below _ (T32.setTop (mkF m 30 #[.val (.int p0), .val (.int p1), .val (.int (1 : Int32)), .val (.int (2 : Int32)), .val (.ref w_RED), .val (.ref w_BLUE), .unset, .unset] [(.ref w_BLUE), (.ref w_RED)]))
      refine goVirt X32 hx hZ (y := (⟨"com/example/tryst/tryst/elimination/Side", "meets", "(Lcom/example/tryst/tryst/elimination/Side;)Z"⟩ : MethodName)) (z := (⟨"com/example/tryst/tryst/elimination/Side", "meets", "(Lcom/example/tryst/tryst/elimination/Side;)Z"⟩ : MethodName)) hown (hw _ (List.mem_of_getElem? (i := 8) rfl)) (hw _ (List.mem_of_getElem? (i := 9) rfl)) (notFace_of_selects (args := #[]) (mvT hZ (hw _ (List.mem_of_getElem? (i := 11) rfl)))) (hw _ (List.mem_of_getElem? (i := 11) rfl)) (hw _ (List.mem_of_getElem? (i := 10) rfl)) (hw _ (List.mem_of_getElem? (i := 6) rfl)) (hw _ (List.mem_of_getElem? (i := 12) rfl)) (by decide) (a := w_RED) (argsL := [(.ref w_BLUE)]) (rest := []) e32 E_w_RED (rm2 l Z a0 hw [] w_RED w_BLUE w_ANY h0 n0 O0 S_w_ANY) 0 (by decide) (by decide) (by decide) (by decide) (mkF m 30 #[.val (.int p0), .val (.int p1), .val (.int (1 : Int32)), .val (.int (2 : Int32)), .val (.ref w_RED), .val (.ref w_BLUE), .unset, .unset] [(.ref w_BLUE), (.ref w_RED)]) rfl (by rw [hml]; rfl) (lenOf pd_1 rfl) rfl (hb hby at_30) (Nat.le_of_eq rfl) ?_
      intro v33 T33 L33 X33 hQ33
      obtain ⟨hv33, M33, e33⟩ := hQ33
      have N33 := Fr.app N32 M33
      obtain rfl : v33 = some (.int 1) := hv33.trans (by simp [ne_w_ANY_w_RED, Ne.symm ne_w_ANY_w_RED, ne_w_ANY_w_BLUE, Ne.symm ne_w_ANY_w_BLUE, ne_w_RED_w_BLUE, Ne.symm ne_w_RED_w_BLUE])
      show Go p e below _ (T33.setTop (mkF m 33 #[.val (.int p0), .val (.int p1), .val (.int (1 : Int32)), .val (.int (2 : Int32)), .val (.ref w_RED), .val (.ref w_BLUE), .unset, .unset] [(.int (1 : Int32))]))
      refine Go.st (fun _ => XS.istore X33.here hx rfl (hb hby at_33) rfl (l' := #[.val (.int p0), .val (.int p1), .val (.int (1 : Int32)), .val (.int (2 : Int32)), .val (.ref w_RED), .val (.ref w_BLUE), .val (.int (1 : Int32)), .unset]) rfl) ?_
      show Go p e below _ (T33.setTop (mkF m 35 #[.val (.int p0), .val (.int p1), .val (.int (1 : Int32)), .val (.int (2 : Int32)), .val (.ref w_RED), .val (.ref w_BLUE), .val (.int (1 : Int32)), .unset] []))
      refine Go.st (fun _ => XS.aload X33.here hx rfl (hb hby at_35) rfl rfl) ?_
      show Go p e below _ (T33.setTop (mkF m 37 #[.val (.int p0), .val (.int p1), .val (.int (1 : Int32)), .val (.int (2 : Int32)), .val (.ref w_RED), .val (.ref w_BLUE), .val (.int (1 : Int32)), .unset] [(.ref w_BLUE)]))
      refine Go.st (fun _ => XS.aload X33.here hx rfl (hb hby at_37) rfl rfl) ?_
      show Go p e below _ (T33.setTop (mkF m 39 #[.val (.int p0), .val (.int p1), .val (.int (1 : Int32)), .val (.int (2 : Int32)), .val (.ref w_RED), .val (.ref w_BLUE), .val (.int (1 : Int32)), .unset] [(.ref w_RED), (.ref w_BLUE)]))
      refine goVirt X33 hx hZ (y := (⟨"com/example/tryst/tryst/elimination/Side", "meets", "(Lcom/example/tryst/tryst/elimination/Side;)Z"⟩ : MethodName)) (z := (⟨"com/example/tryst/tryst/elimination/Side", "meets", "(Lcom/example/tryst/tryst/elimination/Side;)Z"⟩ : MethodName)) hown (hw _ (List.mem_of_getElem? (i := 8) rfl)) (hw _ (List.mem_of_getElem? (i := 9) rfl)) (notFace_of_selects (args := #[]) (mvT hZ (hw _ (List.mem_of_getElem? (i := 11) rfl)))) (hw _ (List.mem_of_getElem? (i := 11) rfl)) (hw _ (List.mem_of_getElem? (i := 10) rfl)) (hw _ (List.mem_of_getElem? (i := 6) rfl)) (hw _ (List.mem_of_getElem? (i := 12) rfl)) (by decide) (a := w_BLUE) (argsL := [(.ref w_RED)]) (rest := []) e33 E_w_BLUE (rm2 l Z a0 hw [] w_BLUE w_RED w_ANY h0 n0 O0 S_w_ANY) 0 (by decide) (by decide) (by decide) (by decide) (mkF m 39 #[.val (.int p0), .val (.int p1), .val (.int (1 : Int32)), .val (.int (2 : Int32)), .val (.ref w_RED), .val (.ref w_BLUE), .val (.int (1 : Int32)), .unset] [(.ref w_RED), (.ref w_BLUE)]) rfl (by rw [hml]; rfl) (lenOf pd_1 rfl) rfl (hb hby at_39) (Nat.le_of_eq rfl) ?_
      intro v34 T34 L34 X34 hQ34
      obtain ⟨hv34, M34, e34⟩ := hQ34
      have N34 := Fr.app N33 M34
      obtain rfl : v34 = some (.int 1) := hv34.trans (by simp [ne_w_ANY_w_RED, Ne.symm ne_w_ANY_w_RED, ne_w_ANY_w_BLUE, Ne.symm ne_w_ANY_w_BLUE, ne_w_RED_w_BLUE, Ne.symm ne_w_RED_w_BLUE])
      show Go p e below _ (T34.setTop (mkF m 42 #[.val (.int p0), .val (.int p1), .val (.int (1 : Int32)), .val (.int (2 : Int32)), .val (.ref w_RED), .val (.ref w_BLUE), .val (.int (1 : Int32)), .unset] [(.int (1 : Int32))]))
      refine Go.st (fun _ => XS.istore X34.here hx rfl (hb hby at_42) rfl (l' := #[.val (.int p0), .val (.int p1), .val (.int (1 : Int32)), .val (.int (2 : Int32)), .val (.ref w_RED), .val (.ref w_BLUE), .val (.int (1 : Int32)), .val (.int (1 : Int32))]) rfl) ?_
      show Go p e below _ (T34.setTop (mkF m 44 #[.val (.int p0), .val (.int p1), .val (.int (1 : Int32)), .val (.int (2 : Int32)), .val (.ref w_RED), .val (.ref w_BLUE), .val (.int (1 : Int32)), .val (.int (1 : Int32))] []))
      refine Go.st (fun _ => XS.iload X34.here hx rfl (hb hby at_44) rfl) ?_
      show Go p e below _ (T34.setTop (mkF m 46 #[.val (.int p0), .val (.int p1), .val (.int (1 : Int32)), .val (.int (2 : Int32)), .val (.ref w_RED), .val (.ref w_BLUE), .val (.int (1 : Int32)), .val (.int (1 : Int32))] [(.int (1 : Int32))]))
      refine Go.st (fun _ => XS.iloadN X34.here hx rfl (hb hby at_46) rfl) ?_
      show Go p e below _ (T34.setTop (mkF m 47 #[.val (.int p0), .val (.int p1), .val (.int (1 : Int32)), .val (.int (2 : Int32)), .val (.ref w_RED), .val (.ref w_BLUE), .val (.int (1 : Int32)), .val (.int (1 : Int32))] [(.int (1 : Int32)), (.int (1 : Int32))]))
      refine Go.st (fun _ => XS.iloadN X34.here hx rfl (hb hby at_47) rfl) ?_
      show Go p e below _ (T34.setTop (mkF m 48 #[.val (.int p0), .val (.int p1), .val (.int (1 : Int32)), .val (.int (2 : Int32)), .val (.ref w_RED), .val (.ref w_BLUE), .val (.int (1 : Int32)), .val (.int (1 : Int32))] [(.int (2 : Int32)), (.int (1 : Int32)), (.int (1 : Int32))]))
      refine goCallS X34 hx hZ (y := (⟨"com/example/tryst/tryst/elimination/SideMeetsPinLaw", "expected", "(II)Z"⟩ : MethodName)) hown (hw _ (List.mem_of_getElem? (i := 14) rfl)) (hw _ (List.mem_of_getElem? (i := 15) rfl)) (hw _ (List.mem_of_getElem? (i := 3) rfl)) (hw _ (List.mem_of_getElem? (i := 16) rfl)) (by decide) (argsL := [(.int (1 : Int32)), (.int (2 : Int32))]) (rest := [(.int (1 : Int32))]) e34 (rm3 l Z a0 hw [] (1 : Int32) (2 : Int32) h0 n0 O0) 1 (by decide) (by decide) (by decide) (by decide) (mkF m 48 #[.val (.int p0), .val (.int p1), .val (.int (1 : Int32)), .val (.int (2 : Int32)), .val (.ref w_RED), .val (.ref w_BLUE), .val (.int (1 : Int32)), .val (.int (1 : Int32))] [(.int (2 : Int32)), (.int (1 : Int32)), (.int (1 : Int32))]) rfl (by rw [hml]; rfl) (lenOf pd_2 rfl) rfl (hb hby at_48) (Nat.le_of_eq rfl) ?_
      intro v35 T35 L35 X35 hQ35
      obtain ⟨hv35, M35, e35⟩ := hQ35
      have N35 := Fr.app N34 M35
      obtain rfl : v35 = some (.int 1) := hv35.trans (by simp)
      show Go p e below _ (T35.setTop (mkF m 51 #[.val (.int p0), .val (.int p1), .val (.int (1 : Int32)), .val (.int (2 : Int32)), .val (.ref w_RED), .val (.ref w_BLUE), .val (.int (1 : Int32)), .val (.int (1 : Int32))] [(.int (1 : Int32)), (.int (1 : Int32))]))
      refine Go.st (fun _ => XS.icmpNo X35.here hx rfl (hb hby at_51) rfl (teq (by decide : (1 : Int32) = (1 : Int32))).2) ?_
      show Go p e below _ (T35.setTop (mkF m 54 #[.val (.int p0), .val (.int p1), .val (.int (1 : Int32)), .val (.int (2 : Int32)), .val (.ref w_RED), .val (.ref w_BLUE), .val (.int (1 : Int32)), .val (.int (1 : Int32))] []))
      refine Go.st (fun _ => XS.iload X35.here hx rfl (hb hby at_54) rfl) ?_
      show Go p e below _ (T35.setTop (mkF m 56 #[.val (.int p0), .val (.int p1), .val (.int (1 : Int32)), .val (.int (2 : Int32)), .val (.ref w_RED), .val (.ref w_BLUE), .val (.int (1 : Int32)), .val (.int (1 : Int32))] [(.int (1 : Int32))]))
      refine Go.st (fun _ => XS.iloadN X35.here hx rfl (hb hby at_56) rfl) ?_
      show Go p e below _ (T35.setTop (mkF m 57 #[.val (.int p0), .val (.int p1), .val (.int (1 : Int32)), .val (.int (2 : Int32)), .val (.ref w_RED), .val (.ref w_BLUE), .val (.int (1 : Int32)), .val (.int (1 : Int32))] [(.int (2 : Int32)), (.int (1 : Int32))]))
      refine Go.st (fun _ => XS.iloadN X35.here hx rfl (hb hby at_57) rfl) ?_
      show Go p e below _ (T35.setTop (mkF m 58 #[.val (.int p0), .val (.int p1), .val (.int (1 : Int32)), .val (.int (2 : Int32)), .val (.ref w_RED), .val (.ref w_BLUE), .val (.int (1 : Int32)), .val (.int (1 : Int32))] [(.int (1 : Int32)), (.int (2 : Int32)), (.int (1 : Int32))]))
      refine goCallS X35 hx hZ (y := (⟨"com/example/tryst/tryst/elimination/SideMeetsPinLaw", "expected", "(II)Z"⟩ : MethodName)) hown (hw _ (List.mem_of_getElem? (i := 14) rfl)) (hw _ (List.mem_of_getElem? (i := 15) rfl)) (hw _ (List.mem_of_getElem? (i := 3) rfl)) (hw _ (List.mem_of_getElem? (i := 16) rfl)) (by decide) (argsL := [(.int (2 : Int32)), (.int (1 : Int32))]) (rest := [(.int (1 : Int32))]) e35 (rm3 l Z a0 hw [] (2 : Int32) (1 : Int32) h0 n0 O0) 1 (by decide) (by decide) (by decide) (by decide) (mkF m 58 #[.val (.int p0), .val (.int p1), .val (.int (1 : Int32)), .val (.int (2 : Int32)), .val (.ref w_RED), .val (.ref w_BLUE), .val (.int (1 : Int32)), .val (.int (1 : Int32))] [(.int (1 : Int32)), (.int (2 : Int32)), (.int (1 : Int32))]) rfl (by rw [hml]; rfl) (lenOf pd_2 rfl) rfl (hb hby at_58) (Nat.le_of_eq rfl) ?_
      intro v36 T36 L36 X36 hQ36
      obtain ⟨hv36, M36, e36⟩ := hQ36
      have N36 := Fr.app N35 M36
      obtain rfl : v36 = some (.int 1) := hv36.trans (by simp)
      show Go p e below _ (T36.setTop (mkF m 61 #[.val (.int p0), .val (.int p1), .val (.int (1 : Int32)), .val (.int (2 : Int32)), .val (.ref w_RED), .val (.ref w_BLUE), .val (.int (1 : Int32)), .val (.int (1 : Int32))] [(.int (1 : Int32)), (.int (1 : Int32))]))
      refine Go.st (fun _ => XS.icmpNo X36.here hx rfl (hb hby at_61) rfl (teq (by decide : (1 : Int32) = (1 : Int32))).2) ?_
      show Go p e below _ (T36.setTop (mkF m 64 #[.val (.int p0), .val (.int p1), .val (.int (1 : Int32)), .val (.int (2 : Int32)), .val (.ref w_RED), .val (.ref w_BLUE), .val (.int (1 : Int32)), .val (.int (1 : Int32))] []))
      refine Go.st (fun _ => XS.iload X36.here hx rfl (hb hby at_64) rfl) ?_
      show Go p e below _ (T36.setTop (mkF m 66 #[.val (.int p0), .val (.int p1), .val (.int (1 : Int32)), .val (.int (2 : Int32)), .val (.ref w_RED), .val (.ref w_BLUE), .val (.int (1 : Int32)), .val (.int (1 : Int32))] [(.int (1 : Int32))]))
      refine Go.st (fun _ => XS.iload X36.here hx rfl (hb hby at_66) rfl) ?_
      show Go p e below _ (T36.setTop (mkF m 68 #[.val (.int p0), .val (.int p1), .val (.int (1 : Int32)), .val (.int (2 : Int32)), .val (.ref w_RED), .val (.ref w_BLUE), .val (.int (1 : Int32)), .val (.int (1 : Int32))] [(.int (1 : Int32)), (.int (1 : Int32))]))
      refine Go.st (fun _ => XS.icmpNo X36.here hx rfl (hb hby at_68) rfl (teq (by decide : (1 : Int32) = (1 : Int32))).2) ?_
      show Go p e below _ (T36.setTop (mkF m 71 #[.val (.int p0), .val (.int p1), .val (.int (1 : Int32)), .val (.int (2 : Int32)), .val (.ref w_RED), .val (.ref w_BLUE), .val (.int (1 : Int32)), .val (.int (1 : Int32))] []))
      refine Go.st (fun _ => XS.iconst X36.here hx rfl (hb hby at_71)) ?_
      show Go p e below _ (T36.setTop (mkF m 72 #[.val (.int p0), .val (.int p1), .val (.int (1 : Int32)), .val (.int (2 : Int32)), .val (.ref w_RED), .val (.ref w_BLUE), .val (.int (1 : Int32)), .val (.int (1 : Int32))] [(.int (1 : Int32))]))
      refine Go.st (fun _ => XS.goto X36.here hx rfl (pc0 := 72) (pc' := 76) rfl (hb hby at_72) (by decide) (by decide)) ?_
      show Go p e below _ (T36.setTop (mkF m 76 #[.val (.int p0), .val (.int p1), .val (.int (1 : Int32)), .val (.int (2 : Int32)), .val (.ref w_RED), .val (.ref w_BLUE), .val (.int (1 : Int32)), .val (.int (1 : Int32))] [(.int (1 : Int32))]))
      exact goRetN X36 hx hlk hret (t := .boolean) (by simp) (w := (1 : Int32)) (by decide) e36 (hb hby at_76) (by decide) (by decide) ⟨rfl, N36⟩
  · rw [q0]
    rcases own_mod3 p1 with q1 | q1 | q1
    · rw [q1]
      show Go p e below _ (s₁.setTop (mkF m 14 #[.val (.int p0), .val (.int p1), .val (.int (2 : Int32)), .val (.int (0 : Int32)), .unset, .unset, .unset, .unset] []))
      refine Go.st (fun _ => XS.iloadN X0.here hx rfl (hb hby at_14) rfl) ?_
      show Go p e below _ (s₁.setTop (mkF m 15 #[.val (.int p0), .val (.int p1), .val (.int (2 : Int32)), .val (.int (0 : Int32)), .unset, .unset, .unset, .unset] [(.int (2 : Int32))]))
      refine goCallS X0 hx hZ (y := (⟨"com/example/tryst/tryst/elimination/SideMeetsPinLaw", "side", "(I)Lcom/example/tryst/tryst/elimination/Side;"⟩ : MethodName)) hown (hw _ (List.mem_of_getElem? (i := 1) rfl)) (hw _ (List.mem_of_getElem? (i := 2) rfl)) (hw _ (List.mem_of_getElem? (i := 3) rfl)) (hw _ (List.mem_of_getElem? (i := 4) rfl)) (by decide) (argsL := [(.int (2 : Int32))]) (rest := []) e0 (rm1 l Z a0 hw [] (2 : Int32) w_ANY w_RED w_BLUE h0 n0 O0 S_w_ANY S_w_RED S_w_BLUE) 0 (by decide) (by decide) (by decide) (by decide) (mkF m 15 #[.val (.int p0), .val (.int p1), .val (.int (2 : Int32)), .val (.int (0 : Int32)), .unset, .unset, .unset, .unset] [(.int (2 : Int32))]) rfl (by rw [hml]; rfl) (lenOf pd_0 rfl) rfl (hb hby at_15) (Nat.le_of_eq rfl) ?_
      intro v37 T37 L37 X37 hQ37
      obtain ⟨hv37, M37, e37⟩ := hQ37
      have N37 := Fr.app N0 M37
      obtain rfl : v37 = some (.ref w_BLUE) := hv37.trans (by simp)
      show Go p e below _ (T37.setTop (mkF m 18 #[.val (.int p0), .val (.int p1), .val (.int (2 : Int32)), .val (.int (0 : Int32)), .unset, .unset, .unset, .unset] [(.ref w_BLUE)]))
      refine Go.st (fun _ => XS.astore X37.here hx rfl (hb hby at_18) rfl rfl (l' := #[.val (.int p0), .val (.int p1), .val (.int (2 : Int32)), .val (.int (0 : Int32)), .val (.ref w_BLUE), .unset, .unset, .unset]) rfl) ?_
      show Go p e below _ (T37.setTop (mkF m 20 #[.val (.int p0), .val (.int p1), .val (.int (2 : Int32)), .val (.int (0 : Int32)), .val (.ref w_BLUE), .unset, .unset, .unset] []))
      refine Go.st (fun _ => XS.iloadN X37.here hx rfl (hb hby at_20) rfl) ?_
      show Go p e below _ (T37.setTop (mkF m 21 #[.val (.int p0), .val (.int p1), .val (.int (2 : Int32)), .val (.int (0 : Int32)), .val (.ref w_BLUE), .unset, .unset, .unset] [(.int (0 : Int32))]))
      refine goCallS X37 hx hZ (y := (⟨"com/example/tryst/tryst/elimination/SideMeetsPinLaw", "side", "(I)Lcom/example/tryst/tryst/elimination/Side;"⟩ : MethodName)) hown (hw _ (List.mem_of_getElem? (i := 1) rfl)) (hw _ (List.mem_of_getElem? (i := 2) rfl)) (hw _ (List.mem_of_getElem? (i := 3) rfl)) (hw _ (List.mem_of_getElem? (i := 4) rfl)) (by decide) (argsL := [(.int (0 : Int32))]) (rest := []) e37 (rm1 l Z a0 hw [] (0 : Int32) w_ANY w_RED w_BLUE h0 n0 O0 S_w_ANY S_w_RED S_w_BLUE) 0 (by decide) (by decide) (by decide) (by decide) (mkF m 21 #[.val (.int p0), .val (.int p1), .val (.int (2 : Int32)), .val (.int (0 : Int32)), .val (.ref w_BLUE), .unset, .unset, .unset] [(.int (0 : Int32))]) rfl (by rw [hml]; rfl) (lenOf pd_0 rfl) rfl (hb hby at_21) (Nat.le_of_eq rfl) ?_
      intro v38 T38 L38 X38 hQ38
      obtain ⟨hv38, M38, e38⟩ := hQ38
      have N38 := Fr.app N37 M38
      obtain rfl : v38 = some (.ref w_ANY) := hv38.trans (by simp)
      show Go p e below _ (T38.setTop (mkF m 24 #[.val (.int p0), .val (.int p1), .val (.int (2 : Int32)), .val (.int (0 : Int32)), .val (.ref w_BLUE), .unset, .unset, .unset] [(.ref w_ANY)]))
      refine Go.st (fun _ => XS.astore X38.here hx rfl (hb hby at_24) rfl rfl (l' := #[.val (.int p0), .val (.int p1), .val (.int (2 : Int32)), .val (.int (0 : Int32)), .val (.ref w_BLUE), .val (.ref w_ANY), .unset, .unset]) rfl) ?_
      show Go p e below _ (T38.setTop (mkF m 26 #[.val (.int p0), .val (.int p1), .val (.int (2 : Int32)), .val (.int (0 : Int32)), .val (.ref w_BLUE), .val (.ref w_ANY), .unset, .unset] []))
      refine Go.st (fun _ => XS.aload X38.here hx rfl (hb hby at_26) rfl rfl) ?_
      show Go p e below _ (T38.setTop (mkF m 28 #[.val (.int p0), .val (.int p1), .val (.int (2 : Int32)), .val (.int (0 : Int32)), .val (.ref w_BLUE), .val (.ref w_ANY), .unset, .unset] [(.ref w_BLUE)]))
      refine Go.st (fun _ => XS.aload X38.here hx rfl (hb hby at_28) rfl rfl) ?_
      show Go p e below _ (T38.setTop (mkF m 30 #[.val (.int p0), .val (.int p1), .val (.int (2 : Int32)), .val (.int (0 : Int32)), .val (.ref w_BLUE), .val (.ref w_ANY), .unset, .unset] [(.ref w_ANY), (.ref w_BLUE)]))
      refine goVirt X38 hx hZ (y := (⟨"com/example/tryst/tryst/elimination/Side", "meets", "(Lcom/example/tryst/tryst/elimination/Side;)Z"⟩ : MethodName)) (z := (⟨"com/example/tryst/tryst/elimination/Side", "meets", "(Lcom/example/tryst/tryst/elimination/Side;)Z"⟩ : MethodName)) hown (hw _ (List.mem_of_getElem? (i := 8) rfl)) (hw _ (List.mem_of_getElem? (i := 9) rfl)) (notFace_of_selects (args := #[]) (mvT hZ (hw _ (List.mem_of_getElem? (i := 11) rfl)))) (hw _ (List.mem_of_getElem? (i := 11) rfl)) (hw _ (List.mem_of_getElem? (i := 10) rfl)) (hw _ (List.mem_of_getElem? (i := 6) rfl)) (hw _ (List.mem_of_getElem? (i := 12) rfl)) (by decide) (a := w_BLUE) (argsL := [(.ref w_ANY)]) (rest := []) e38 E_w_BLUE (rm2 l Z a0 hw [] w_BLUE w_ANY w_ANY h0 n0 O0 S_w_ANY) 0 (by decide) (by decide) (by decide) (by decide) (mkF m 30 #[.val (.int p0), .val (.int p1), .val (.int (2 : Int32)), .val (.int (0 : Int32)), .val (.ref w_BLUE), .val (.ref w_ANY), .unset, .unset] [(.ref w_ANY), (.ref w_BLUE)]) rfl (by rw [hml]; rfl) (lenOf pd_1 rfl) rfl (hb hby at_30) (Nat.le_of_eq rfl) ?_
      intro v39 T39 L39 X39 hQ39
      obtain ⟨hv39, M39, e39⟩ := hQ39
      have N39 := Fr.app N38 M39
      obtain rfl : v39 = some (.int 1) := hv39.trans (by simp [ne_w_ANY_w_RED, Ne.symm ne_w_ANY_w_RED, ne_w_ANY_w_BLUE, Ne.symm ne_w_ANY_w_BLUE, ne_w_RED_w_BLUE, Ne.symm ne_w_RED_w_BLUE])
      show Go p e below _ (T39.setTop (mkF m 33 #[.val (.int p0), .val (.int p1), .val (.int (2 : Int32)), .val (.int (0 : Int32)), .val (.ref w_BLUE), .val (.ref w_ANY), .unset, .unset] [(.int (1 : Int32))]))
      refine Go.st (fun _ => XS.istore X39.here hx rfl (hb hby at_33) rfl (l' := #[.val (.int p0), .val (.int p1), .val (.int (2 : Int32)), .val (.int (0 : Int32)), .val (.ref w_BLUE), .val (.ref w_ANY), .val (.int (1 : Int32)), .unset]) rfl) ?_
      show Go p e below _ (T39.setTop (mkF m 35 #[.val (.int p0), .val (.int p1), .val (.int (2 : Int32)), .val (.int (0 : Int32)), .val (.ref w_BLUE), .val (.ref w_ANY), .val (.int (1 : Int32)), .unset] []))
      refine Go.st (fun _ => XS.aload X39.here hx rfl (hb hby at_35) rfl rfl) ?_
      show Go p e below _ (T39.setTop (mkF m 37 #[.val (.int p0), .val (.int p1), .val (.int (2 : Int32)), .val (.int (0 : Int32)), .val (.ref w_BLUE), .val (.ref w_ANY), .val (.int (1 : Int32)), .unset] [(.ref w_ANY)]))
      refine Go.st (fun _ => XS.aload X39.here hx rfl (hb hby at_37) rfl rfl) ?_
      show Go p e below _ (T39.setTop (mkF m 39 #[.val (.int p0), .val (.int p1), .val (.int (2 : Int32)), .val (.int (0 : Int32)), .val (.ref w_BLUE), .val (.ref w_ANY), .val (.int (1 : Int32)), .unset] [(.ref w_BLUE), (.ref w_ANY)]))
      refine goVirt X39 hx hZ (y := (⟨"com/example/tryst/tryst/elimination/Side", "meets", "(Lcom/example/tryst/tryst/elimination/Side;)Z"⟩ : MethodName)) (z := (⟨"com/example/tryst/tryst/elimination/Side", "meets", "(Lcom/example/tryst/tryst/elimination/Side;)Z"⟩ : MethodName)) hown (hw _ (List.mem_of_getElem? (i := 8) rfl)) (hw _ (List.mem_of_getElem? (i := 9) rfl)) (notFace_of_selects (args := #[]) (mvT hZ (hw _ (List.mem_of_getElem? (i := 11) rfl)))) (hw _ (List.mem_of_getElem? (i := 11) rfl)) (hw _ (List.mem_of_getElem? (i := 10) rfl)) (hw _ (List.mem_of_getElem? (i := 6) rfl)) (hw _ (List.mem_of_getElem? (i := 12) rfl)) (by decide) (a := w_ANY) (argsL := [(.ref w_BLUE)]) (rest := []) e39 E_w_ANY (rm2 l Z a0 hw [] w_ANY w_BLUE w_ANY h0 n0 O0 S_w_ANY) 0 (by decide) (by decide) (by decide) (by decide) (mkF m 39 #[.val (.int p0), .val (.int p1), .val (.int (2 : Int32)), .val (.int (0 : Int32)), .val (.ref w_BLUE), .val (.ref w_ANY), .val (.int (1 : Int32)), .unset] [(.ref w_BLUE), (.ref w_ANY)]) rfl (by rw [hml]; rfl) (lenOf pd_1 rfl) rfl (hb hby at_39) (Nat.le_of_eq rfl) ?_
      intro v40 T40 L40 X40 hQ40
      obtain ⟨hv40, M40, e40⟩ := hQ40
      have N40 := Fr.app N39 M40
      obtain rfl : v40 = some (.int 1) := hv40.trans (by simp [ne_w_ANY_w_RED, Ne.symm ne_w_ANY_w_RED, ne_w_ANY_w_BLUE, Ne.symm ne_w_ANY_w_BLUE, ne_w_RED_w_BLUE, Ne.symm ne_w_RED_w_BLUE])
      show Go p e below _ (T40.setTop (mkF m 42 #[.val (.int p0), .val (.int p1), .val (.int (2 : Int32)), .val (.int (0 : Int32)), .val (.ref w_BLUE), .val (.ref w_ANY), .val (.int (1 : Int32)), .unset] [(.int (1 : Int32))]))
      refine Go.st (fun _ => XS.istore X40.here hx rfl (hb hby at_42) rfl (l' := #[.val (.int p0), .val (.int p1), .val (.int (2 : Int32)), .val (.int (0 : Int32)), .val (.ref w_BLUE), .val (.ref w_ANY), .val (.int (1 : Int32)), .val (.int (1 : Int32))]) rfl) ?_
      show Go p e below _ (T40.setTop (mkF m 44 #[.val (.int p0), .val (.int p1), .val (.int (2 : Int32)), .val (.int (0 : Int32)), .val (.ref w_BLUE), .val (.ref w_ANY), .val (.int (1 : Int32)), .val (.int (1 : Int32))] []))
      refine Go.st (fun _ => XS.iload X40.here hx rfl (hb hby at_44) rfl) ?_
      show Go p e below _ (T40.setTop (mkF m 46 #[.val (.int p0), .val (.int p1), .val (.int (2 : Int32)), .val (.int (0 : Int32)), .val (.ref w_BLUE), .val (.ref w_ANY), .val (.int (1 : Int32)), .val (.int (1 : Int32))] [(.int (1 : Int32))]))
      refine Go.st (fun _ => XS.iloadN X40.here hx rfl (hb hby at_46) rfl) ?_
      show Go p e below _ (T40.setTop (mkF m 47 #[.val (.int p0), .val (.int p1), .val (.int (2 : Int32)), .val (.int (0 : Int32)), .val (.ref w_BLUE), .val (.ref w_ANY), .val (.int (1 : Int32)), .val (.int (1 : Int32))] [(.int (2 : Int32)), (.int (1 : Int32))]))
      refine Go.st (fun _ => XS.iloadN X40.here hx rfl (hb hby at_47) rfl) ?_
      show Go p e below _ (T40.setTop (mkF m 48 #[.val (.int p0), .val (.int p1), .val (.int (2 : Int32)), .val (.int (0 : Int32)), .val (.ref w_BLUE), .val (.ref w_ANY), .val (.int (1 : Int32)), .val (.int (1 : Int32))] [(.int (0 : Int32)), (.int (2 : Int32)), (.int (1 : Int32))]))
      refine goCallS X40 hx hZ (y := (⟨"com/example/tryst/tryst/elimination/SideMeetsPinLaw", "expected", "(II)Z"⟩ : MethodName)) hown (hw _ (List.mem_of_getElem? (i := 14) rfl)) (hw _ (List.mem_of_getElem? (i := 15) rfl)) (hw _ (List.mem_of_getElem? (i := 3) rfl)) (hw _ (List.mem_of_getElem? (i := 16) rfl)) (by decide) (argsL := [(.int (2 : Int32)), (.int (0 : Int32))]) (rest := [(.int (1 : Int32))]) e40 (rm3 l Z a0 hw [] (2 : Int32) (0 : Int32) h0 n0 O0) 1 (by decide) (by decide) (by decide) (by decide) (mkF m 48 #[.val (.int p0), .val (.int p1), .val (.int (2 : Int32)), .val (.int (0 : Int32)), .val (.ref w_BLUE), .val (.ref w_ANY), .val (.int (1 : Int32)), .val (.int (1 : Int32))] [(.int (0 : Int32)), (.int (2 : Int32)), (.int (1 : Int32))]) rfl (by rw [hml]; rfl) (lenOf pd_2 rfl) rfl (hb hby at_48) (Nat.le_of_eq rfl) ?_
      intro v41 T41 L41 X41 hQ41
      obtain ⟨hv41, M41, e41⟩ := hQ41
      have N41 := Fr.app N40 M41
      obtain rfl : v41 = some (.int 1) := hv41.trans (by simp)
      show Go p e below _ (T41.setTop (mkF m 51 #[.val (.int p0), .val (.int p1), .val (.int (2 : Int32)), .val (.int (0 : Int32)), .val (.ref w_BLUE), .val (.ref w_ANY), .val (.int (1 : Int32)), .val (.int (1 : Int32))] [(.int (1 : Int32)), (.int (1 : Int32))]))
      refine Go.st (fun _ => XS.icmpNo X41.here hx rfl (hb hby at_51) rfl (teq (by decide : (1 : Int32) = (1 : Int32))).2) ?_
      show Go p e below _ (T41.setTop (mkF m 54 #[.val (.int p0), .val (.int p1), .val (.int (2 : Int32)), .val (.int (0 : Int32)), .val (.ref w_BLUE), .val (.ref w_ANY), .val (.int (1 : Int32)), .val (.int (1 : Int32))] []))
      refine Go.st (fun _ => XS.iload X41.here hx rfl (hb hby at_54) rfl) ?_
      show Go p e below _ (T41.setTop (mkF m 56 #[.val (.int p0), .val (.int p1), .val (.int (2 : Int32)), .val (.int (0 : Int32)), .val (.ref w_BLUE), .val (.ref w_ANY), .val (.int (1 : Int32)), .val (.int (1 : Int32))] [(.int (1 : Int32))]))
      refine Go.st (fun _ => XS.iloadN X41.here hx rfl (hb hby at_56) rfl) ?_
      show Go p e below _ (T41.setTop (mkF m 57 #[.val (.int p0), .val (.int p1), .val (.int (2 : Int32)), .val (.int (0 : Int32)), .val (.ref w_BLUE), .val (.ref w_ANY), .val (.int (1 : Int32)), .val (.int (1 : Int32))] [(.int (0 : Int32)), (.int (1 : Int32))]))
      refine Go.st (fun _ => XS.iloadN X41.here hx rfl (hb hby at_57) rfl) ?_
      show Go p e below _ (T41.setTop (mkF m 58 #[.val (.int p0), .val (.int p1), .val (.int (2 : Int32)), .val (.int (0 : Int32)), .val (.ref w_BLUE), .val (.ref w_ANY), .val (.int (1 : Int32)), .val (.int (1 : Int32))] [(.int (2 : Int32)), (.int (0 : Int32)), (.int (1 : Int32))]))
      refine goCallS X41 hx hZ (y := (⟨"com/example/tryst/tryst/elimination/SideMeetsPinLaw", "expected", "(II)Z"⟩ : MethodName)) hown (hw _ (List.mem_of_getElem? (i := 14) rfl)) (hw _ (List.mem_of_getElem? (i := 15) rfl)) (hw _ (List.mem_of_getElem? (i := 3) rfl)) (hw _ (List.mem_of_getElem? (i := 16) rfl)) (by decide) (argsL := [(.int (0 : Int32)), (.int (2 : Int32))]) (rest := [(.int (1 : Int32))]) e41 (rm3 l Z a0 hw [] (0 : Int32) (2 : Int32) h0 n0 O0) 1 (by decide) (by decide) (by decide) (by decide) (mkF m 58 #[.val (.int p0), .val (.int p1), .val (.int (2 : Int32)), .val (.int (0 : Int32)), .val (.ref w_BLUE), .val (.ref w_ANY), .val (.int (1 : Int32)), .val (.int (1 : Int32))] [(.int (2 : Int32)), (.int (0 : Int32)), (.int (1 : Int32))]) rfl (by rw [hml]; rfl) (lenOf pd_2 rfl) rfl (hb hby at_58) (Nat.le_of_eq rfl) ?_
      intro v42 T42 L42 X42 hQ42
      obtain ⟨hv42, M42, e42⟩ := hQ42
      have N42 := Fr.app N41 M42
      obtain rfl : v42 = some (.int 1) := hv42.trans (by simp)
      show Go p e below _ (T42.setTop (mkF m 61 #[.val (.int p0), .val (.int p1), .val (.int (2 : Int32)), .val (.int (0 : Int32)), .val (.ref w_BLUE), .val (.ref w_ANY), .val (.int (1 : Int32)), .val (.int (1 : Int32))] [(.int (1 : Int32)), (.int (1 : Int32))]))
      refine Go.st (fun _ => XS.icmpNo X42.here hx rfl (hb hby at_61) rfl (teq (by decide : (1 : Int32) = (1 : Int32))).2) ?_
      show Go p e below _ (T42.setTop (mkF m 64 #[.val (.int p0), .val (.int p1), .val (.int (2 : Int32)), .val (.int (0 : Int32)), .val (.ref w_BLUE), .val (.ref w_ANY), .val (.int (1 : Int32)), .val (.int (1 : Int32))] []))
      refine Go.st (fun _ => XS.iload X42.here hx rfl (hb hby at_64) rfl) ?_
      show Go p e below _ (T42.setTop (mkF m 66 #[.val (.int p0), .val (.int p1), .val (.int (2 : Int32)), .val (.int (0 : Int32)), .val (.ref w_BLUE), .val (.ref w_ANY), .val (.int (1 : Int32)), .val (.int (1 : Int32))] [(.int (1 : Int32))]))
      refine Go.st (fun _ => XS.iload X42.here hx rfl (hb hby at_66) rfl) ?_
      show Go p e below _ (T42.setTop (mkF m 68 #[.val (.int p0), .val (.int p1), .val (.int (2 : Int32)), .val (.int (0 : Int32)), .val (.ref w_BLUE), .val (.ref w_ANY), .val (.int (1 : Int32)), .val (.int (1 : Int32))] [(.int (1 : Int32)), (.int (1 : Int32))]))
      refine Go.st (fun _ => XS.icmpNo X42.here hx rfl (hb hby at_68) rfl (teq (by decide : (1 : Int32) = (1 : Int32))).2) ?_
      show Go p e below _ (T42.setTop (mkF m 71 #[.val (.int p0), .val (.int p1), .val (.int (2 : Int32)), .val (.int (0 : Int32)), .val (.ref w_BLUE), .val (.ref w_ANY), .val (.int (1 : Int32)), .val (.int (1 : Int32))] []))
      refine Go.st (fun _ => XS.iconst X42.here hx rfl (hb hby at_71)) ?_
      show Go p e below _ (T42.setTop (mkF m 72 #[.val (.int p0), .val (.int p1), .val (.int (2 : Int32)), .val (.int (0 : Int32)), .val (.ref w_BLUE), .val (.ref w_ANY), .val (.int (1 : Int32)), .val (.int (1 : Int32))] [(.int (1 : Int32))]))
      refine Go.st (fun _ => XS.goto X42.here hx rfl (pc0 := 72) (pc' := 76) rfl (hb hby at_72) (by decide) (by decide)) ?_
      show Go p e below _ (T42.setTop (mkF m 76 #[.val (.int p0), .val (.int p1), .val (.int (2 : Int32)), .val (.int (0 : Int32)), .val (.ref w_BLUE), .val (.ref w_ANY), .val (.int (1 : Int32)), .val (.int (1 : Int32))] [(.int (1 : Int32))]))
      exact goRetN X42 hx hlk hret (t := .boolean) (by simp) (w := (1 : Int32)) (by decide) e42 (hb hby at_76) (by decide) (by decide) ⟨rfl, N42⟩
    · rw [q1]
      show Go p e below _ (s₁.setTop (mkF m 14 #[.val (.int p0), .val (.int p1), .val (.int (2 : Int32)), .val (.int (1 : Int32)), .unset, .unset, .unset, .unset] []))
      refine Go.st (fun _ => XS.iloadN X0.here hx rfl (hb hby at_14) rfl) ?_
      show Go p e below _ (s₁.setTop (mkF m 15 #[.val (.int p0), .val (.int p1), .val (.int (2 : Int32)), .val (.int (1 : Int32)), .unset, .unset, .unset, .unset] [(.int (2 : Int32))]))
      refine goCallS X0 hx hZ (y := (⟨"com/example/tryst/tryst/elimination/SideMeetsPinLaw", "side", "(I)Lcom/example/tryst/tryst/elimination/Side;"⟩ : MethodName)) hown (hw _ (List.mem_of_getElem? (i := 1) rfl)) (hw _ (List.mem_of_getElem? (i := 2) rfl)) (hw _ (List.mem_of_getElem? (i := 3) rfl)) (hw _ (List.mem_of_getElem? (i := 4) rfl)) (by decide) (argsL := [(.int (2 : Int32))]) (rest := []) e0 (rm1 l Z a0 hw [] (2 : Int32) w_ANY w_RED w_BLUE h0 n0 O0 S_w_ANY S_w_RED S_w_BLUE) 0 (by decide) (by decide) (by decide) (by decide) (mkF m 15 #[.val (.int p0), .val (.int p1), .val (.int (2 : Int32)), .val (.int (1 : Int32)), .unset, .unset, .unset, .unset] [(.int (2 : Int32))]) rfl (by rw [hml]; rfl) (lenOf pd_0 rfl) rfl (hb hby at_15) (Nat.le_of_eq rfl) ?_
      intro v43 T43 L43 X43 hQ43
      obtain ⟨hv43, M43, e43⟩ := hQ43
      have N43 := Fr.app N0 M43
      obtain rfl : v43 = some (.ref w_BLUE) := hv43.trans (by simp)
      show Go p e below _ (T43.setTop (mkF m 18 #[.val (.int p0), .val (.int p1), .val (.int (2 : Int32)), .val (.int (1 : Int32)), .unset, .unset, .unset, .unset] [(.ref w_BLUE)]))
      refine Go.st (fun _ => XS.astore X43.here hx rfl (hb hby at_18) rfl rfl (l' := #[.val (.int p0), .val (.int p1), .val (.int (2 : Int32)), .val (.int (1 : Int32)), .val (.ref w_BLUE), .unset, .unset, .unset]) rfl) ?_
      show Go p e below _ (T43.setTop (mkF m 20 #[.val (.int p0), .val (.int p1), .val (.int (2 : Int32)), .val (.int (1 : Int32)), .val (.ref w_BLUE), .unset, .unset, .unset] []))
      refine Go.st (fun _ => XS.iloadN X43.here hx rfl (hb hby at_20) rfl) ?_
      show Go p e below _ (T43.setTop (mkF m 21 #[.val (.int p0), .val (.int p1), .val (.int (2 : Int32)), .val (.int (1 : Int32)), .val (.ref w_BLUE), .unset, .unset, .unset] [(.int (1 : Int32))]))
      refine goCallS X43 hx hZ (y := (⟨"com/example/tryst/tryst/elimination/SideMeetsPinLaw", "side", "(I)Lcom/example/tryst/tryst/elimination/Side;"⟩ : MethodName)) hown (hw _ (List.mem_of_getElem? (i := 1) rfl)) (hw _ (List.mem_of_getElem? (i := 2) rfl)) (hw _ (List.mem_of_getElem? (i := 3) rfl)) (hw _ (List.mem_of_getElem? (i := 4) rfl)) (by decide) (argsL := [(.int (1 : Int32))]) (rest := []) e43 (rm1 l Z a0 hw [] (1 : Int32) w_ANY w_RED w_BLUE h0 n0 O0 S_w_ANY S_w_RED S_w_BLUE) 0 (by decide) (by decide) (by decide) (by decide) (mkF m 21 #[.val (.int p0), .val (.int p1), .val (.int (2 : Int32)), .val (.int (1 : Int32)), .val (.ref w_BLUE), .unset, .unset, .unset] [(.int (1 : Int32))]) rfl (by rw [hml]; rfl) (lenOf pd_0 rfl) rfl (hb hby at_21) (Nat.le_of_eq rfl) ?_
      intro v44 T44 L44 X44 hQ44
      obtain ⟨hv44, M44, e44⟩ := hQ44
      have N44 := Fr.app N43 M44
      obtain rfl : v44 = some (.ref w_RED) := hv44.trans (by simp)
      show Go p e below _ (T44.setTop (mkF m 24 #[.val (.int p0), .val (.int p1), .val (.int (2 : Int32)), .val (.int (1 : Int32)), .val (.ref w_BLUE), .unset, .unset, .unset] [(.ref w_RED)]))
      refine Go.st (fun _ => XS.astore X44.here hx rfl (hb hby at_24) rfl rfl (l' := #[.val (.int p0), .val (.int p1), .val (.int (2 : Int32)), .val (.int (1 : Int32)), .val (.ref w_BLUE), .val (.ref w_RED), .unset, .unset]) rfl) ?_
      show Go p e below _ (T44.setTop (mkF m 26 #[.val (.int p0), .val (.int p1), .val (.int (2 : Int32)), .val (.int (1 : Int32)), .val (.ref w_BLUE), .val (.ref w_RED), .unset, .unset] []))
      refine Go.st (fun _ => XS.aload X44.here hx rfl (hb hby at_26) rfl rfl) ?_
      show Go p e below _ (T44.setTop (mkF m 28 #[.val (.int p0), .val (.int p1), .val (.int (2 : Int32)), .val (.int (1 : Int32)), .val (.ref w_BLUE), .val (.ref w_RED), .unset, .unset] [(.ref w_BLUE)]))
      refine Go.st (fun _ => XS.aload X44.here hx rfl (hb hby at_28) rfl rfl) ?_
      show Go p e below _ (T44.setTop (mkF m 30 #[.val (.int p0), .val (.int p1), .val (.int (2 : Int32)), .val (.int (1 : Int32)), .val (.ref w_BLUE), .val (.ref w_RED), .unset, .unset] [(.ref w_RED), (.ref w_BLUE)]))
      refine goVirt X44 hx hZ (y := (⟨"com/example/tryst/tryst/elimination/Side", "meets", "(Lcom/example/tryst/tryst/elimination/Side;)Z"⟩ : MethodName)) (z := (⟨"com/example/tryst/tryst/elimination/Side", "meets", "(Lcom/example/tryst/tryst/elimination/Side;)Z"⟩ : MethodName)) hown (hw _ (List.mem_of_getElem? (i := 8) rfl)) (hw _ (List.mem_of_getElem? (i := 9) rfl)) (notFace_of_selects (args := #[]) (mvT hZ (hw _ (List.mem_of_getElem? (i := 11) rfl)))) (hw _ (List.mem_of_getElem? (i := 11) rfl)) (hw _ (List.mem_of_getElem? (i := 10) rfl)) (hw _ (List.mem_of_getElem? (i := 6) rfl)) (hw _ (List.mem_of_getElem? (i := 12) rfl)) (by decide) (a := w_BLUE) (argsL := [(.ref w_RED)]) (rest := []) e44 E_w_BLUE (rm2 l Z a0 hw [] w_BLUE w_RED w_ANY h0 n0 O0 S_w_ANY) 0 (by decide) (by decide) (by decide) (by decide) (mkF m 30 #[.val (.int p0), .val (.int p1), .val (.int (2 : Int32)), .val (.int (1 : Int32)), .val (.ref w_BLUE), .val (.ref w_RED), .unset, .unset] [(.ref w_RED), (.ref w_BLUE)]) rfl (by rw [hml]; rfl) (lenOf pd_1 rfl) rfl (hb hby at_30) (Nat.le_of_eq rfl) ?_
      intro v45 T45 L45 X45 hQ45
      obtain ⟨hv45, M45, e45⟩ := hQ45
      have N45 := Fr.app N44 M45
      obtain rfl : v45 = some (.int 1) := hv45.trans (by simp [ne_w_ANY_w_RED, Ne.symm ne_w_ANY_w_RED, ne_w_ANY_w_BLUE, Ne.symm ne_w_ANY_w_BLUE, ne_w_RED_w_BLUE, Ne.symm ne_w_RED_w_BLUE])
      show Go p e below _ (T45.setTop (mkF m 33 #[.val (.int p0), .val (.int p1), .val (.int (2 : Int32)), .val (.int (1 : Int32)), .val (.ref w_BLUE), .val (.ref w_RED), .unset, .unset] [(.int (1 : Int32))]))
      refine Go.st (fun _ => XS.istore X45.here hx rfl (hb hby at_33) rfl (l' := #[.val (.int p0), .val (.int p1), .val (.int (2 : Int32)), .val (.int (1 : Int32)), .val (.ref w_BLUE), .val (.ref w_RED), .val (.int (1 : Int32)), .unset]) rfl) ?_
      show Go p e below _ (T45.setTop (mkF m 35 #[.val (.int p0), .val (.int p1), .val (.int (2 : Int32)), .val (.int (1 : Int32)), .val (.ref w_BLUE), .val (.ref w_RED), .val (.int (1 : Int32)), .unset] []))
      refine Go.st (fun _ => XS.aload X45.here hx rfl (hb hby at_35) rfl rfl) ?_
      show Go p e below _ (T45.setTop (mkF m 37 #[.val (.int p0), .val (.int p1), .val (.int (2 : Int32)), .val (.int (1 : Int32)), .val (.ref w_BLUE), .val (.ref w_RED), .val (.int (1 : Int32)), .unset] [(.ref w_RED)]))
      refine Go.st (fun _ => XS.aload X45.here hx rfl (hb hby at_37) rfl rfl) ?_
      show Go p e below _ (T45.setTop (mkF m 39 #[.val (.int p0), .val (.int p1), .val (.int (2 : Int32)), .val (.int (1 : Int32)), .val (.ref w_BLUE), .val (.ref w_RED), .val (.int (1 : Int32)), .unset] [(.ref w_BLUE), (.ref w_RED)]))
      refine goVirt X45 hx hZ (y := (⟨"com/example/tryst/tryst/elimination/Side", "meets", "(Lcom/example/tryst/tryst/elimination/Side;)Z"⟩ : MethodName)) (z := (⟨"com/example/tryst/tryst/elimination/Side", "meets", "(Lcom/example/tryst/tryst/elimination/Side;)Z"⟩ : MethodName)) hown (hw _ (List.mem_of_getElem? (i := 8) rfl)) (hw _ (List.mem_of_getElem? (i := 9) rfl)) (notFace_of_selects (args := #[]) (mvT hZ (hw _ (List.mem_of_getElem? (i := 11) rfl)))) (hw _ (List.mem_of_getElem? (i := 11) rfl)) (hw _ (List.mem_of_getElem? (i := 10) rfl)) (hw _ (List.mem_of_getElem? (i := 6) rfl)) (hw _ (List.mem_of_getElem? (i := 12) rfl)) (by decide) (a := w_RED) (argsL := [(.ref w_BLUE)]) (rest := []) e45 E_w_RED (rm2 l Z a0 hw [] w_RED w_BLUE w_ANY h0 n0 O0 S_w_ANY) 0 (by decide) (by decide) (by decide) (by decide) (mkF m 39 #[.val (.int p0), .val (.int p1), .val (.int (2 : Int32)), .val (.int (1 : Int32)), .val (.ref w_BLUE), .val (.ref w_RED), .val (.int (1 : Int32)), .unset] [(.ref w_BLUE), (.ref w_RED)]) rfl (by rw [hml]; rfl) (lenOf pd_1 rfl) rfl (hb hby at_39) (Nat.le_of_eq rfl) ?_
      intro v46 T46 L46 X46 hQ46
      obtain ⟨hv46, M46, e46⟩ := hQ46
      have N46 := Fr.app N45 M46
      obtain rfl : v46 = some (.int 1) := hv46.trans (by simp [ne_w_ANY_w_RED, Ne.symm ne_w_ANY_w_RED, ne_w_ANY_w_BLUE, Ne.symm ne_w_ANY_w_BLUE, ne_w_RED_w_BLUE, Ne.symm ne_w_RED_w_BLUE])
      show Go p e below _ (T46.setTop (mkF m 42 #[.val (.int p0), .val (.int p1), .val (.int (2 : Int32)), .val (.int (1 : Int32)), .val (.ref w_BLUE), .val (.ref w_RED), .val (.int (1 : Int32)), .unset] [(.int (1 : Int32))]))
      refine Go.st (fun _ => XS.istore X46.here hx rfl (hb hby at_42) rfl (l' := #[.val (.int p0), .val (.int p1), .val (.int (2 : Int32)), .val (.int (1 : Int32)), .val (.ref w_BLUE), .val (.ref w_RED), .val (.int (1 : Int32)), .val (.int (1 : Int32))]) rfl) ?_
      show Go p e below _ (T46.setTop (mkF m 44 #[.val (.int p0), .val (.int p1), .val (.int (2 : Int32)), .val (.int (1 : Int32)), .val (.ref w_BLUE), .val (.ref w_RED), .val (.int (1 : Int32)), .val (.int (1 : Int32))] []))
      refine Go.st (fun _ => XS.iload X46.here hx rfl (hb hby at_44) rfl) ?_
      show Go p e below _ (T46.setTop (mkF m 46 #[.val (.int p0), .val (.int p1), .val (.int (2 : Int32)), .val (.int (1 : Int32)), .val (.ref w_BLUE), .val (.ref w_RED), .val (.int (1 : Int32)), .val (.int (1 : Int32))] [(.int (1 : Int32))]))
      refine Go.st (fun _ => XS.iloadN X46.here hx rfl (hb hby at_46) rfl) ?_
      show Go p e below _ (T46.setTop (mkF m 47 #[.val (.int p0), .val (.int p1), .val (.int (2 : Int32)), .val (.int (1 : Int32)), .val (.ref w_BLUE), .val (.ref w_RED), .val (.int (1 : Int32)), .val (.int (1 : Int32))] [(.int (2 : Int32)), (.int (1 : Int32))]))
      refine Go.st (fun _ => XS.iloadN X46.here hx rfl (hb hby at_47) rfl) ?_
      show Go p e below _ (T46.setTop (mkF m 48 #[.val (.int p0), .val (.int p1), .val (.int (2 : Int32)), .val (.int (1 : Int32)), .val (.ref w_BLUE), .val (.ref w_RED), .val (.int (1 : Int32)), .val (.int (1 : Int32))] [(.int (1 : Int32)), (.int (2 : Int32)), (.int (1 : Int32))]))
      refine goCallS X46 hx hZ (y := (⟨"com/example/tryst/tryst/elimination/SideMeetsPinLaw", "expected", "(II)Z"⟩ : MethodName)) hown (hw _ (List.mem_of_getElem? (i := 14) rfl)) (hw _ (List.mem_of_getElem? (i := 15) rfl)) (hw _ (List.mem_of_getElem? (i := 3) rfl)) (hw _ (List.mem_of_getElem? (i := 16) rfl)) (by decide) (argsL := [(.int (2 : Int32)), (.int (1 : Int32))]) (rest := [(.int (1 : Int32))]) e46 (rm3 l Z a0 hw [] (2 : Int32) (1 : Int32) h0 n0 O0) 1 (by decide) (by decide) (by decide) (by decide) (mkF m 48 #[.val (.int p0), .val (.int p1), .val (.int (2 : Int32)), .val (.int (1 : Int32)), .val (.ref w_BLUE), .val (.ref w_RED), .val (.int (1 : Int32)), .val (.int (1 : Int32))] [(.int (1 : Int32)), (.int (2 : Int32)), (.int (1 : Int32))]) rfl (by rw [hml]; rfl) (lenOf pd_2 rfl) rfl (hb hby at_48) (Nat.le_of_eq rfl) ?_
      intro v47 T47 L47 X47 hQ47
      obtain ⟨hv47, M47, e47⟩ := hQ47
      have N47 := Fr.app N46 M47
      obtain rfl : v47 = some (.int 1) := hv47.trans (by simp)
      show Go p e below _ (T47.setTop (mkF m 51 #[.val (.int p0), .val (.int p1), .val (.int (2 : Int32)), .val (.int (1 : Int32)), .val (.ref w_BLUE), .val (.ref w_RED), .val (.int (1 : Int32)), .val (.int (1 : Int32))] [(.int (1 : Int32)), (.int (1 : Int32))]))
      refine Go.st (fun _ => XS.icmpNo X47.here hx rfl (hb hby at_51) rfl (teq (by decide : (1 : Int32) = (1 : Int32))).2) ?_
      show Go p e below _ (T47.setTop (mkF m 54 #[.val (.int p0), .val (.int p1), .val (.int (2 : Int32)), .val (.int (1 : Int32)), .val (.ref w_BLUE), .val (.ref w_RED), .val (.int (1 : Int32)), .val (.int (1 : Int32))] []))
      refine Go.st (fun _ => XS.iload X47.here hx rfl (hb hby at_54) rfl) ?_
      show Go p e below _ (T47.setTop (mkF m 56 #[.val (.int p0), .val (.int p1), .val (.int (2 : Int32)), .val (.int (1 : Int32)), .val (.ref w_BLUE), .val (.ref w_RED), .val (.int (1 : Int32)), .val (.int (1 : Int32))] [(.int (1 : Int32))]))
      refine Go.st (fun _ => XS.iloadN X47.here hx rfl (hb hby at_56) rfl) ?_
      show Go p e below _ (T47.setTop (mkF m 57 #[.val (.int p0), .val (.int p1), .val (.int (2 : Int32)), .val (.int (1 : Int32)), .val (.ref w_BLUE), .val (.ref w_RED), .val (.int (1 : Int32)), .val (.int (1 : Int32))] [(.int (1 : Int32)), (.int (1 : Int32))]))
      refine Go.st (fun _ => XS.iloadN X47.here hx rfl (hb hby at_57) rfl) ?_
      show Go p e below _ (T47.setTop (mkF m 58 #[.val (.int p0), .val (.int p1), .val (.int (2 : Int32)), .val (.int (1 : Int32)), .val (.ref w_BLUE), .val (.ref w_RED), .val (.int (1 : Int32)), .val (.int (1 : Int32))] [(.int (2 : Int32)), (.int (1 : Int32)), (.int (1 : Int32))]))
      refine goCallS X47 hx hZ (y := (⟨"com/example/tryst/tryst/elimination/SideMeetsPinLaw", "expected", "(II)Z"⟩ : MethodName)) hown (hw _ (List.mem_of_getElem? (i := 14) rfl)) (hw _ (List.mem_of_getElem? (i := 15) rfl)) (hw _ (List.mem_of_getElem? (i := 3) rfl)) (hw _ (List.mem_of_getElem? (i := 16) rfl)) (by decide) (argsL := [(.int (1 : Int32)), (.int (2 : Int32))]) (rest := [(.int (1 : Int32))]) e47 (rm3 l Z a0 hw [] (1 : Int32) (2 : Int32) h0 n0 O0) 1 (by decide) (by decide) (by decide) (by decide) (mkF m 58 #[.val (.int p0), .val (.int p1), .val (.int (2 : Int32)), .val (.int (1 : Int32)), .val (.ref w_BLUE), .val (.ref w_RED), .val (.int (1 : Int32)), .val (.int (1 : Int32))] [(.int (2 : Int32)), (.int (1 : Int32)), (.int (1 : Int32))]) rfl (by rw [hml]; rfl) (lenOf pd_2 rfl) rfl (hb hby at_58) (Nat.le_of_eq rfl) ?_
      intro v48 T48 L48 X48 hQ48
      obtain ⟨hv48, M48, e48⟩ := hQ48
      have N48 := Fr.app N47 M48
      obtain rfl : v48 = some (.int 1) := hv48.trans (by simp)
      show Go p e below _ (T48.setTop (mkF m 61 #[.val (.int p0), .val (.int p1), .val (.int (2 : Int32)), .val (.int (1 : Int32)), .val (.ref w_BLUE), .val (.ref w_RED), .val (.int (1 : Int32)), .val (.int (1 : Int32))] [(.int (1 : Int32)), (.int (1 : Int32))]))
      refine Go.st (fun _ => XS.icmpNo X48.here hx rfl (hb hby at_61) rfl (teq (by decide : (1 : Int32) = (1 : Int32))).2) ?_
      show Go p e below _ (T48.setTop (mkF m 64 #[.val (.int p0), .val (.int p1), .val (.int (2 : Int32)), .val (.int (1 : Int32)), .val (.ref w_BLUE), .val (.ref w_RED), .val (.int (1 : Int32)), .val (.int (1 : Int32))] []))
      refine Go.st (fun _ => XS.iload X48.here hx rfl (hb hby at_64) rfl) ?_
      show Go p e below _ (T48.setTop (mkF m 66 #[.val (.int p0), .val (.int p1), .val (.int (2 : Int32)), .val (.int (1 : Int32)), .val (.ref w_BLUE), .val (.ref w_RED), .val (.int (1 : Int32)), .val (.int (1 : Int32))] [(.int (1 : Int32))]))
      refine Go.st (fun _ => XS.iload X48.here hx rfl (hb hby at_66) rfl) ?_
      show Go p e below _ (T48.setTop (mkF m 68 #[.val (.int p0), .val (.int p1), .val (.int (2 : Int32)), .val (.int (1 : Int32)), .val (.ref w_BLUE), .val (.ref w_RED), .val (.int (1 : Int32)), .val (.int (1 : Int32))] [(.int (1 : Int32)), (.int (1 : Int32))]))
      refine Go.st (fun _ => XS.icmpNo X48.here hx rfl (hb hby at_68) rfl (teq (by decide : (1 : Int32) = (1 : Int32))).2) ?_
      show Go p e below _ (T48.setTop (mkF m 71 #[.val (.int p0), .val (.int p1), .val (.int (2 : Int32)), .val (.int (1 : Int32)), .val (.ref w_BLUE), .val (.ref w_RED), .val (.int (1 : Int32)), .val (.int (1 : Int32))] []))
      refine Go.st (fun _ => XS.iconst X48.here hx rfl (hb hby at_71)) ?_
      show Go p e below _ (T48.setTop (mkF m 72 #[.val (.int p0), .val (.int p1), .val (.int (2 : Int32)), .val (.int (1 : Int32)), .val (.ref w_BLUE), .val (.ref w_RED), .val (.int (1 : Int32)), .val (.int (1 : Int32))] [(.int (1 : Int32))]))
      refine Go.st (fun _ => XS.goto X48.here hx rfl (pc0 := 72) (pc' := 76) rfl (hb hby at_72) (by decide) (by decide)) ?_
      show Go p e below _ (T48.setTop (mkF m 76 #[.val (.int p0), .val (.int p1), .val (.int (2 : Int32)), .val (.int (1 : Int32)), .val (.ref w_BLUE), .val (.ref w_RED), .val (.int (1 : Int32)), .val (.int (1 : Int32))] [(.int (1 : Int32))]))
      exact goRetN X48 hx hlk hret (t := .boolean) (by simp) (w := (1 : Int32)) (by decide) e48 (hb hby at_76) (by decide) (by decide) ⟨rfl, N48⟩
    · rw [q1]
      show Go p e below _ (s₁.setTop (mkF m 14 #[.val (.int p0), .val (.int p1), .val (.int (2 : Int32)), .val (.int (2 : Int32)), .unset, .unset, .unset, .unset] []))
      refine Go.st (fun _ => XS.iloadN X0.here hx rfl (hb hby at_14) rfl) ?_
      show Go p e below _ (s₁.setTop (mkF m 15 #[.val (.int p0), .val (.int p1), .val (.int (2 : Int32)), .val (.int (2 : Int32)), .unset, .unset, .unset, .unset] [(.int (2 : Int32))]))
      refine goCallS X0 hx hZ (y := (⟨"com/example/tryst/tryst/elimination/SideMeetsPinLaw", "side", "(I)Lcom/example/tryst/tryst/elimination/Side;"⟩ : MethodName)) hown (hw _ (List.mem_of_getElem? (i := 1) rfl)) (hw _ (List.mem_of_getElem? (i := 2) rfl)) (hw _ (List.mem_of_getElem? (i := 3) rfl)) (hw _ (List.mem_of_getElem? (i := 4) rfl)) (by decide) (argsL := [(.int (2 : Int32))]) (rest := []) e0 (rm1 l Z a0 hw [] (2 : Int32) w_ANY w_RED w_BLUE h0 n0 O0 S_w_ANY S_w_RED S_w_BLUE) 0 (by decide) (by decide) (by decide) (by decide) (mkF m 15 #[.val (.int p0), .val (.int p1), .val (.int (2 : Int32)), .val (.int (2 : Int32)), .unset, .unset, .unset, .unset] [(.int (2 : Int32))]) rfl (by rw [hml]; rfl) (lenOf pd_0 rfl) rfl (hb hby at_15) (Nat.le_of_eq rfl) ?_
      intro v49 T49 L49 X49 hQ49
      obtain ⟨hv49, M49, e49⟩ := hQ49
      have N49 := Fr.app N0 M49
      obtain rfl : v49 = some (.ref w_BLUE) := hv49.trans (by simp)
      show Go p e below _ (T49.setTop (mkF m 18 #[.val (.int p0), .val (.int p1), .val (.int (2 : Int32)), .val (.int (2 : Int32)), .unset, .unset, .unset, .unset] [(.ref w_BLUE)]))
      refine Go.st (fun _ => XS.astore X49.here hx rfl (hb hby at_18) rfl rfl (l' := #[.val (.int p0), .val (.int p1), .val (.int (2 : Int32)), .val (.int (2 : Int32)), .val (.ref w_BLUE), .unset, .unset, .unset]) rfl) ?_
      show Go p e below _ (T49.setTop (mkF m 20 #[.val (.int p0), .val (.int p1), .val (.int (2 : Int32)), .val (.int (2 : Int32)), .val (.ref w_BLUE), .unset, .unset, .unset] []))
      refine Go.st (fun _ => XS.iloadN X49.here hx rfl (hb hby at_20) rfl) ?_
      show Go p e below _ (T49.setTop (mkF m 21 #[.val (.int p0), .val (.int p1), .val (.int (2 : Int32)), .val (.int (2 : Int32)), .val (.ref w_BLUE), .unset, .unset, .unset] [(.int (2 : Int32))]))
      refine goCallS X49 hx hZ (y := (⟨"com/example/tryst/tryst/elimination/SideMeetsPinLaw", "side", "(I)Lcom/example/tryst/tryst/elimination/Side;"⟩ : MethodName)) hown (hw _ (List.mem_of_getElem? (i := 1) rfl)) (hw _ (List.mem_of_getElem? (i := 2) rfl)) (hw _ (List.mem_of_getElem? (i := 3) rfl)) (hw _ (List.mem_of_getElem? (i := 4) rfl)) (by decide) (argsL := [(.int (2 : Int32))]) (rest := []) e49 (rm1 l Z a0 hw [] (2 : Int32) w_ANY w_RED w_BLUE h0 n0 O0 S_w_ANY S_w_RED S_w_BLUE) 0 (by decide) (by decide) (by decide) (by decide) (mkF m 21 #[.val (.int p0), .val (.int p1), .val (.int (2 : Int32)), .val (.int (2 : Int32)), .val (.ref w_BLUE), .unset, .unset, .unset] [(.int (2 : Int32))]) rfl (by rw [hml]; rfl) (lenOf pd_0 rfl) rfl (hb hby at_21) (Nat.le_of_eq rfl) ?_
      intro v50 T50 L50 X50 hQ50
      obtain ⟨hv50, M50, e50⟩ := hQ50
      have N50 := Fr.app N49 M50
      obtain rfl : v50 = some (.ref w_BLUE) := hv50.trans (by simp)
      show Go p e below _ (T50.setTop (mkF m 24 #[.val (.int p0), .val (.int p1), .val (.int (2 : Int32)), .val (.int (2 : Int32)), .val (.ref w_BLUE), .unset, .unset, .unset] [(.ref w_BLUE)]))
      refine Go.st (fun _ => XS.astore X50.here hx rfl (hb hby at_24) rfl rfl (l' := #[.val (.int p0), .val (.int p1), .val (.int (2 : Int32)), .val (.int (2 : Int32)), .val (.ref w_BLUE), .val (.ref w_BLUE), .unset, .unset]) rfl) ?_
      show Go p e below _ (T50.setTop (mkF m 26 #[.val (.int p0), .val (.int p1), .val (.int (2 : Int32)), .val (.int (2 : Int32)), .val (.ref w_BLUE), .val (.ref w_BLUE), .unset, .unset] []))
      refine Go.st (fun _ => XS.aload X50.here hx rfl (hb hby at_26) rfl rfl) ?_
      show Go p e below _ (T50.setTop (mkF m 28 #[.val (.int p0), .val (.int p1), .val (.int (2 : Int32)), .val (.int (2 : Int32)), .val (.ref w_BLUE), .val (.ref w_BLUE), .unset, .unset] [(.ref w_BLUE)]))
      refine Go.st (fun _ => XS.aload X50.here hx rfl (hb hby at_28) rfl rfl) ?_
      show Go p e below _ (T50.setTop (mkF m 30 #[.val (.int p0), .val (.int p1), .val (.int (2 : Int32)), .val (.int (2 : Int32)), .val (.ref w_BLUE), .val (.ref w_BLUE), .unset, .unset] [(.ref w_BLUE), (.ref w_BLUE)]))
      refine goVirt X50 hx hZ (y := (⟨"com/example/tryst/tryst/elimination/Side", "meets", "(Lcom/example/tryst/tryst/elimination/Side;)Z"⟩ : MethodName)) (z := (⟨"com/example/tryst/tryst/elimination/Side", "meets", "(Lcom/example/tryst/tryst/elimination/Side;)Z"⟩ : MethodName)) hown (hw _ (List.mem_of_getElem? (i := 8) rfl)) (hw _ (List.mem_of_getElem? (i := 9) rfl)) (notFace_of_selects (args := #[]) (mvT hZ (hw _ (List.mem_of_getElem? (i := 11) rfl)))) (hw _ (List.mem_of_getElem? (i := 11) rfl)) (hw _ (List.mem_of_getElem? (i := 10) rfl)) (hw _ (List.mem_of_getElem? (i := 6) rfl)) (hw _ (List.mem_of_getElem? (i := 12) rfl)) (by decide) (a := w_BLUE) (argsL := [(.ref w_BLUE)]) (rest := []) e50 E_w_BLUE (rm2 l Z a0 hw [] w_BLUE w_BLUE w_ANY h0 n0 O0 S_w_ANY) 0 (by decide) (by decide) (by decide) (by decide) (mkF m 30 #[.val (.int p0), .val (.int p1), .val (.int (2 : Int32)), .val (.int (2 : Int32)), .val (.ref w_BLUE), .val (.ref w_BLUE), .unset, .unset] [(.ref w_BLUE), (.ref w_BLUE)]) rfl (by rw [hml]; rfl) (lenOf pd_1 rfl) rfl (hb hby at_30) (Nat.le_of_eq rfl) ?_
      intro v51 T51 L51 X51 hQ51
      obtain ⟨hv51, M51, e51⟩ := hQ51
      have N51 := Fr.app N50 M51
      obtain rfl : v51 = some (.int 0) := hv51.trans (by simp [ne_w_ANY_w_RED, Ne.symm ne_w_ANY_w_RED, ne_w_ANY_w_BLUE, Ne.symm ne_w_ANY_w_BLUE, ne_w_RED_w_BLUE, Ne.symm ne_w_RED_w_BLUE])
      show Go p e below _ (T51.setTop (mkF m 33 #[.val (.int p0), .val (.int p1), .val (.int (2 : Int32)), .val (.int (2 : Int32)), .val (.ref w_BLUE), .val (.ref w_BLUE), .unset, .unset] [(.int (0 : Int32))]))
      refine Go.st (fun _ => XS.istore X51.here hx rfl (hb hby at_33) rfl (l' := #[.val (.int p0), .val (.int p1), .val (.int (2 : Int32)), .val (.int (2 : Int32)), .val (.ref w_BLUE), .val (.ref w_BLUE), .val (.int (0 : Int32)), .unset]) rfl) ?_
      show Go p e below _ (T51.setTop (mkF m 35 #[.val (.int p0), .val (.int p1), .val (.int (2 : Int32)), .val (.int (2 : Int32)), .val (.ref w_BLUE), .val (.ref w_BLUE), .val (.int (0 : Int32)), .unset] []))
      refine Go.st (fun _ => XS.aload X51.here hx rfl (hb hby at_35) rfl rfl) ?_
      show Go p e below _ (T51.setTop (mkF m 37 #[.val (.int p0), .val (.int p1), .val (.int (2 : Int32)), .val (.int (2 : Int32)), .val (.ref w_BLUE), .val (.ref w_BLUE), .val (.int (0 : Int32)), .unset] [(.ref w_BLUE)]))
      refine Go.st (fun _ => XS.aload X51.here hx rfl (hb hby at_37) rfl rfl) ?_
      show Go p e below _ (T51.setTop (mkF m 39 #[.val (.int p0), .val (.int p1), .val (.int (2 : Int32)), .val (.int (2 : Int32)), .val (.ref w_BLUE), .val (.ref w_BLUE), .val (.int (0 : Int32)), .unset] [(.ref w_BLUE), (.ref w_BLUE)]))
      refine goVirt X51 hx hZ (y := (⟨"com/example/tryst/tryst/elimination/Side", "meets", "(Lcom/example/tryst/tryst/elimination/Side;)Z"⟩ : MethodName)) (z := (⟨"com/example/tryst/tryst/elimination/Side", "meets", "(Lcom/example/tryst/tryst/elimination/Side;)Z"⟩ : MethodName)) hown (hw _ (List.mem_of_getElem? (i := 8) rfl)) (hw _ (List.mem_of_getElem? (i := 9) rfl)) (notFace_of_selects (args := #[]) (mvT hZ (hw _ (List.mem_of_getElem? (i := 11) rfl)))) (hw _ (List.mem_of_getElem? (i := 11) rfl)) (hw _ (List.mem_of_getElem? (i := 10) rfl)) (hw _ (List.mem_of_getElem? (i := 6) rfl)) (hw _ (List.mem_of_getElem? (i := 12) rfl)) (by decide) (a := w_BLUE) (argsL := [(.ref w_BLUE)]) (rest := []) e51 E_w_BLUE (rm2 l Z a0 hw [] w_BLUE w_BLUE w_ANY h0 n0 O0 S_w_ANY) 0 (by decide) (by decide) (by decide) (by decide) (mkF m 39 #[.val (.int p0), .val (.int p1), .val (.int (2 : Int32)), .val (.int (2 : Int32)), .val (.ref w_BLUE), .val (.ref w_BLUE), .val (.int (0 : Int32)), .unset] [(.ref w_BLUE), (.ref w_BLUE)]) rfl (by rw [hml]; rfl) (lenOf pd_1 rfl) rfl (hb hby at_39) (Nat.le_of_eq rfl) ?_
      intro v52 T52 L52 X52 hQ52
      obtain ⟨hv52, M52, e52⟩ := hQ52
      have N52 := Fr.app N51 M52
      obtain rfl : v52 = some (.int 0) := hv52.trans (by simp [ne_w_ANY_w_RED, Ne.symm ne_w_ANY_w_RED, ne_w_ANY_w_BLUE, Ne.symm ne_w_ANY_w_BLUE, ne_w_RED_w_BLUE, Ne.symm ne_w_RED_w_BLUE])
      show Go p e below _ (T52.setTop (mkF m 42 #[.val (.int p0), .val (.int p1), .val (.int (2 : Int32)), .val (.int (2 : Int32)), .val (.ref w_BLUE), .val (.ref w_BLUE), .val (.int (0 : Int32)), .unset] [(.int (0 : Int32))]))
      refine Go.st (fun _ => XS.istore X52.here hx rfl (hb hby at_42) rfl (l' := #[.val (.int p0), .val (.int p1), .val (.int (2 : Int32)), .val (.int (2 : Int32)), .val (.ref w_BLUE), .val (.ref w_BLUE), .val (.int (0 : Int32)), .val (.int (0 : Int32))]) rfl) ?_
      show Go p e below _ (T52.setTop (mkF m 44 #[.val (.int p0), .val (.int p1), .val (.int (2 : Int32)), .val (.int (2 : Int32)), .val (.ref w_BLUE), .val (.ref w_BLUE), .val (.int (0 : Int32)), .val (.int (0 : Int32))] []))
      refine Go.st (fun _ => XS.iload X52.here hx rfl (hb hby at_44) rfl) ?_
      show Go p e below _ (T52.setTop (mkF m 46 #[.val (.int p0), .val (.int p1), .val (.int (2 : Int32)), .val (.int (2 : Int32)), .val (.ref w_BLUE), .val (.ref w_BLUE), .val (.int (0 : Int32)), .val (.int (0 : Int32))] [(.int (0 : Int32))]))
      refine Go.st (fun _ => XS.iloadN X52.here hx rfl (hb hby at_46) rfl) ?_
      show Go p e below _ (T52.setTop (mkF m 47 #[.val (.int p0), .val (.int p1), .val (.int (2 : Int32)), .val (.int (2 : Int32)), .val (.ref w_BLUE), .val (.ref w_BLUE), .val (.int (0 : Int32)), .val (.int (0 : Int32))] [(.int (2 : Int32)), (.int (0 : Int32))]))
      refine Go.st (fun _ => XS.iloadN X52.here hx rfl (hb hby at_47) rfl) ?_
      show Go p e below _ (T52.setTop (mkF m 48 #[.val (.int p0), .val (.int p1), .val (.int (2 : Int32)), .val (.int (2 : Int32)), .val (.ref w_BLUE), .val (.ref w_BLUE), .val (.int (0 : Int32)), .val (.int (0 : Int32))] [(.int (2 : Int32)), (.int (2 : Int32)), (.int (0 : Int32))]))
      refine goCallS X52 hx hZ (y := (⟨"com/example/tryst/tryst/elimination/SideMeetsPinLaw", "expected", "(II)Z"⟩ : MethodName)) hown (hw _ (List.mem_of_getElem? (i := 14) rfl)) (hw _ (List.mem_of_getElem? (i := 15) rfl)) (hw _ (List.mem_of_getElem? (i := 3) rfl)) (hw _ (List.mem_of_getElem? (i := 16) rfl)) (by decide) (argsL := [(.int (2 : Int32)), (.int (2 : Int32))]) (rest := [(.int (0 : Int32))]) e52 (rm3 l Z a0 hw [] (2 : Int32) (2 : Int32) h0 n0 O0) 1 (by decide) (by decide) (by decide) (by decide) (mkF m 48 #[.val (.int p0), .val (.int p1), .val (.int (2 : Int32)), .val (.int (2 : Int32)), .val (.ref w_BLUE), .val (.ref w_BLUE), .val (.int (0 : Int32)), .val (.int (0 : Int32))] [(.int (2 : Int32)), (.int (2 : Int32)), (.int (0 : Int32))]) rfl (by rw [hml]; rfl) (lenOf pd_2 rfl) rfl (hb hby at_48) (Nat.le_of_eq rfl) ?_
      intro v53 T53 L53 X53 hQ53
      obtain ⟨hv53, M53, e53⟩ := hQ53
      have N53 := Fr.app N52 M53
      obtain rfl : v53 = some (.int 0) := hv53.trans (by simp)
      show Go p e below _ (T53.setTop (mkF m 51 #[.val (.int p0), .val (.int p1), .val (.int (2 : Int32)), .val (.int (2 : Int32)), .val (.ref w_BLUE), .val (.ref w_BLUE), .val (.int (0 : Int32)), .val (.int (0 : Int32))] [(.int (0 : Int32)), (.int (0 : Int32))]))
      refine Go.st (fun _ => XS.icmpNo X53.here hx rfl (hb hby at_51) rfl (teq (by decide : (0 : Int32) = (0 : Int32))).2) ?_
      show Go p e below _ (T53.setTop (mkF m 54 #[.val (.int p0), .val (.int p1), .val (.int (2 : Int32)), .val (.int (2 : Int32)), .val (.ref w_BLUE), .val (.ref w_BLUE), .val (.int (0 : Int32)), .val (.int (0 : Int32))] []))
      refine Go.st (fun _ => XS.iload X53.here hx rfl (hb hby at_54) rfl) ?_
      show Go p e below _ (T53.setTop (mkF m 56 #[.val (.int p0), .val (.int p1), .val (.int (2 : Int32)), .val (.int (2 : Int32)), .val (.ref w_BLUE), .val (.ref w_BLUE), .val (.int (0 : Int32)), .val (.int (0 : Int32))] [(.int (0 : Int32))]))
      refine Go.st (fun _ => XS.iloadN X53.here hx rfl (hb hby at_56) rfl) ?_
      show Go p e below _ (T53.setTop (mkF m 57 #[.val (.int p0), .val (.int p1), .val (.int (2 : Int32)), .val (.int (2 : Int32)), .val (.ref w_BLUE), .val (.ref w_BLUE), .val (.int (0 : Int32)), .val (.int (0 : Int32))] [(.int (2 : Int32)), (.int (0 : Int32))]))
      refine Go.st (fun _ => XS.iloadN X53.here hx rfl (hb hby at_57) rfl) ?_
      show Go p e below _ (T53.setTop (mkF m 58 #[.val (.int p0), .val (.int p1), .val (.int (2 : Int32)), .val (.int (2 : Int32)), .val (.ref w_BLUE), .val (.ref w_BLUE), .val (.int (0 : Int32)), .val (.int (0 : Int32))] [(.int (2 : Int32)), (.int (2 : Int32)), (.int (0 : Int32))]))
      refine goCallS X53 hx hZ (y := (⟨"com/example/tryst/tryst/elimination/SideMeetsPinLaw", "expected", "(II)Z"⟩ : MethodName)) hown (hw _ (List.mem_of_getElem? (i := 14) rfl)) (hw _ (List.mem_of_getElem? (i := 15) rfl)) (hw _ (List.mem_of_getElem? (i := 3) rfl)) (hw _ (List.mem_of_getElem? (i := 16) rfl)) (by decide) (argsL := [(.int (2 : Int32)), (.int (2 : Int32))]) (rest := [(.int (0 : Int32))]) e53 (rm3 l Z a0 hw [] (2 : Int32) (2 : Int32) h0 n0 O0) 1 (by decide) (by decide) (by decide) (by decide) (mkF m 58 #[.val (.int p0), .val (.int p1), .val (.int (2 : Int32)), .val (.int (2 : Int32)), .val (.ref w_BLUE), .val (.ref w_BLUE), .val (.int (0 : Int32)), .val (.int (0 : Int32))] [(.int (2 : Int32)), (.int (2 : Int32)), (.int (0 : Int32))]) rfl (by rw [hml]; rfl) (lenOf pd_2 rfl) rfl (hb hby at_58) (Nat.le_of_eq rfl) ?_
      intro v54 T54 L54 X54 hQ54
      obtain ⟨hv54, M54, e54⟩ := hQ54
      have N54 := Fr.app N53 M54
      obtain rfl : v54 = some (.int 0) := hv54.trans (by simp)
      show Go p e below _ (T54.setTop (mkF m 61 #[.val (.int p0), .val (.int p1), .val (.int (2 : Int32)), .val (.int (2 : Int32)), .val (.ref w_BLUE), .val (.ref w_BLUE), .val (.int (0 : Int32)), .val (.int (0 : Int32))] [(.int (0 : Int32)), (.int (0 : Int32))]))
      refine Go.st (fun _ => XS.icmpNo X54.here hx rfl (hb hby at_61) rfl (teq (by decide : (0 : Int32) = (0 : Int32))).2) ?_
      show Go p e below _ (T54.setTop (mkF m 64 #[.val (.int p0), .val (.int p1), .val (.int (2 : Int32)), .val (.int (2 : Int32)), .val (.ref w_BLUE), .val (.ref w_BLUE), .val (.int (0 : Int32)), .val (.int (0 : Int32))] []))
      refine Go.st (fun _ => XS.iload X54.here hx rfl (hb hby at_64) rfl) ?_
      show Go p e below _ (T54.setTop (mkF m 66 #[.val (.int p0), .val (.int p1), .val (.int (2 : Int32)), .val (.int (2 : Int32)), .val (.ref w_BLUE), .val (.ref w_BLUE), .val (.int (0 : Int32)), .val (.int (0 : Int32))] [(.int (0 : Int32))]))
      refine Go.st (fun _ => XS.iload X54.here hx rfl (hb hby at_66) rfl) ?_
      show Go p e below _ (T54.setTop (mkF m 68 #[.val (.int p0), .val (.int p1), .val (.int (2 : Int32)), .val (.int (2 : Int32)), .val (.ref w_BLUE), .val (.ref w_BLUE), .val (.int (0 : Int32)), .val (.int (0 : Int32))] [(.int (0 : Int32)), (.int (0 : Int32))]))
      refine Go.st (fun _ => XS.icmpNo X54.here hx rfl (hb hby at_68) rfl (teq (by decide : (0 : Int32) = (0 : Int32))).2) ?_
      show Go p e below _ (T54.setTop (mkF m 71 #[.val (.int p0), .val (.int p1), .val (.int (2 : Int32)), .val (.int (2 : Int32)), .val (.ref w_BLUE), .val (.ref w_BLUE), .val (.int (0 : Int32)), .val (.int (0 : Int32))] []))
      refine Go.st (fun _ => XS.iconst X54.here hx rfl (hb hby at_71)) ?_
      show Go p e below _ (T54.setTop (mkF m 72 #[.val (.int p0), .val (.int p1), .val (.int (2 : Int32)), .val (.int (2 : Int32)), .val (.ref w_BLUE), .val (.ref w_BLUE), .val (.int (0 : Int32)), .val (.int (0 : Int32))] [(.int (1 : Int32))]))
      refine Go.st (fun _ => XS.goto X54.here hx rfl (pc0 := 72) (pc' := 76) rfl (hb hby at_72) (by decide) (by decide)) ?_
      show Go p e below _ (T54.setTop (mkF m 76 #[.val (.int p0), .val (.int p1), .val (.int (2 : Int32)), .val (.int (2 : Int32)), .val (.ref w_BLUE), .val (.ref w_BLUE), .val (.int (0 : Int32)), .val (.int (0 : Int32))] [(.int (1 : Int32))]))
      exact goRetN X54 hx hlk hret (t := .boolean) (by simp) (w := (1 : Int32)) (by decide) e54 (hb hby at_76) (by decide) (by decide) ⟨rfl, N54⟩
set_option maxRecDepth 65536 in
set_option maxHeartbeats 40000000 in
theorem comes_1 {Post : Tables → Env → Array Value → State → Outcome → State → Prop} (hpost : ∀ tb e args s v u, (limb_1_1.after args s (.returned v) u = true ∧ limb_1_2.after args s (.returned v) u = true ∧ True) → FrameEnd s (.returned v) u (Jvm.fieldLocs frame_1_writes args s ++ Jvm.arrayLocs frame_1_arrays args s ++ Jvm.staticLocs frame_1_statics s) 0 0 → Post tb e args s (.returned v) u) :
    ArmFor flags0 classFile x code maxLocals ret World_1 tables_1 room_1 Calls_1 rest_1 Pre_1 Post := by
  intro l hfl _ _ p e ha hc hk s m args below hf hA hF happ hP
  obtain ⟨hcalls, hrest, hpre⟩ := hP
  obtain ⟨-, -, -, hnamed, -, -, -, hat⟩ := (Spec.applies_iff hf).mp happ
  obtain ⟨hg, hn⟩ := and_e (Cond.before_iff.mp (show (Jvm.Cond.and given_1 narrow_1).before args s = true from hpre))
  obtain ⟨g1, g2⟩ := and_e hg
  obtain ⟨g3, g4⟩ := and_e g2
  obtain ⟨w0, w1, rfl⟩ : ∃ w0 w1 : Value, args = #[w0, w1] := by
    have hs : args.size = 2 := by simpa [Cond.value, given_1] using g1
    obtain ⟨L⟩ := args
    match L, hs with
    | [w0, w1], _ => exact ⟨w0, w1, rfl⟩
  have hw := fun d (hd : d ∈ tables_1) => atoms_spec (ws := Jvm.Cond.code x code maxLocals ret :: tables_1) hat d (List.mem_cons_of_mem _ hd)
  have hfit : Fit s := fun {y c} hc i hi => by
    obtain ⟨ha, rfl⟩ := Array.getElem?_eq_some_iff.mp hc
    have q := List.all_eq_true.mp ((Array.all_eq_true_iff_forall_mem.mp hF) _ (Array.getElem_mem ha)) i (List.mem_range.mpr hi)
    simpa [Array.getElem?_eq_getElem hi] using q
  obtain ⟨i0, ei0⟩ := is_v g3
  obtain rfl : w0 = (.int i0) := Option.some.inj ei0
  obtain ⟨i1, ei1⟩ := is_v g4
  obtain rfl : w1 = (.int i1) := Option.some.inj ei1
  obtain ⟨g5, g6⟩ := and_e hn
  obtain ⟨w_ANY, ev_ANY⟩ := exa_v g5
  have S_w_ANY := Sta.start ev_ANY (Or.inr ⟨(hw _ (List.mem_of_getElem? (i := 6) rfl)), (hw _ (List.mem_of_getElem? (i := 7) rfl))⟩)
  have E_w_ANY := Exa.start ev_ANY g5
  obtain ⟨g7, g8⟩ := and_e g6
  obtain ⟨w_BLUE, ev_BLUE⟩ := exa_v g7
  have S_w_BLUE := Sta.start ev_BLUE (Or.inr ⟨(hw _ (List.mem_of_getElem? (i := 6) rfl)), (hw _ (List.mem_of_getElem? (i := 18) rfl))⟩)
  have E_w_BLUE := Exa.start ev_BLUE g7
  obtain ⟨g9, g10⟩ := and_e g8
  obtain ⟨w_RED, ev_RED⟩ := exa_v g9
  have S_w_RED := Sta.start ev_RED (Or.inr ⟨(hw _ (List.mem_of_getElem? (i := 6) rfl)), (hw _ (List.mem_of_getElem? (i := 20) rfl))⟩)
  have E_w_RED := Exa.start ev_RED g9
  obtain ⟨g11, g12⟩ := and_e g10
  have F_w_BLUE_ordinal := fldStart ev_BLUE g11
  obtain ⟨g13, g14⟩ := and_e g12
  have F_w_ANY_ordinal := fldStart ev_ANY g13
  have F_w_RED_ordinal := fldStart ev_RED g14
  have ne_w_ANY_w_RED : w_ANY ≠ w_RED := Fld.ne F_w_ANY_ordinal F_w_RED_ordinal (by decide)
  have ne_w_ANY_w_BLUE : w_ANY ≠ w_BLUE := Fld.ne F_w_ANY_ordinal F_w_BLUE_ordinal (by decide)
  have ne_w_RED_w_BLUE : w_RED ≠ w_BLUE := Fld.ne F_w_RED_ordinal F_w_BLUE_ordinal (by decide)
  obtain ⟨n, o, h1, h2, h3, _, L, rfl, ⟨rfl, N⟩, hq⟩ := rm0 l s _ hw tables_1 i0 i1 w_ANY w_RED w_BLUE s.heap s.heap.size (Old.start s) S_w_ANY S_w_RED S_w_BLUE E_w_ANY E_w_RED E_w_BLUE ne_w_ANY_w_RED ne_w_ANY_w_BLUE ne_w_RED_w_BLUE p e ha hc hk s m _ below hf ((Spec.applies_iff_loose hf).mp happ).1 ⟨rfl, State.Warmed39.refl s, rfl⟩ trivial
  refine ⟨n, _, h1, h2, h3, hpost _ _ _ _ _ _ ⟨Cond.after_iff.mpr rfl, Cond.after_iff.mpr (eq_i res_at (Term.int_eval (1)) rfl), trivial⟩ ⟨hq.1, hq.2.1, (hq.2.2.sift fun y hy => Or.inr (N y hy)).mono (by decide) (by decide)⟩⟩
theorem main_1_1 : Claimed_1_1 := comes_1 fun _ _ _ _ _ _ h hF => ⟨h.1, hF⟩
theorem main_1_2 : Claimed_1_2 := comes_1 fun _ _ _ _ _ _ h hF => ⟨h.2.1, hF⟩
end Jvm.Pilot.@@N@@
namespace Jvm.Pilot.@@N@@
open Jvm Jvm.ClassFile Sem Op Lib Jvm.Free Jvm.Stand Jvm.Pilot.@@N@@.Jvm.D
/-! MADE BY PROGRAM (witnessworld.py) out of the Statement's table words and the real class files: 12 classes; the members and pool entries that the words name. The judged class is class 1, her method 3. -/
namespace start1
open Jvm.ClassFile
def u (s : String) : CpInfo := .utf8 (stringToUtf16 s)
/-- a pool by its gaps: so many unusable entries, then the entry; so many at the end -/
def gap : Nat → List CpInfo → List CpInfo
  | 0, r => r
  | n + 1, r => .unusable :: gap n r
def poolList (es : List (Nat × CpInfo)) (last : Nat) : List CpInfo := es.foldr (fun e r => gap e.1 (e.2 :: r)) (gap last [])
def pool (es : List (Nat × CpInfo)) (last : Nat) : Array CpInfo := ⟨poolList es last⟩
def fileOf (pool : Array CpInfo) (this : Nat) (attrs : Array Attribute := #[]) (ms : Array MethodInfo := #[]) (fl : Nat := 33) (sup : Nat := 0) (ifs : Array Nat := #[]) (fds : Array FieldInfo := #[]) : ClassFile where
  minorVersion := 0
  majorVersion := 65
  constantPool := pool
  accessFlags := fl
  thisClass := this
  superClass := sup
  interfaces := ifs
  fields := fds
  methods := ms
  attributes := attrs
def plain (name : String) (sup : Option ClassId) : Class where
  name := name
  kind := .ordinary
  loader := none
  accessFlags := 33
  super := sup
  interfaces := #[]
  cf := none
  fields := #[]
  methods := #[]
  instanceTypes := #[]
  staticTypes := #[]
  resolved := #[]
  callSites := []
  init := .initialized
  statics := none
  mirror := none

def pool0 : Array CpInfo := pool [(5, u "<init>"), (0, u "()V"), (1, .class_ 10), (1, u "java/lang/Object")] 113

def k0m0 : Method := { name := "<init>", desc := "()V", sig := { parameters := [], returnType := none }, accessFlags := 1, code := none }
/-- java/lang/Object -/
def k0 : Class := { plain "java/lang/Object" none with
  accessFlags := 33
  interfaces := #[]
  cf := some (fileOf pool0 8 #[] #[{ accessFlags := 1, nameIndex := 5, descriptorIndex := 6, attributes := #[] }] 33 0 #[] #[])
  fields := #[]
  methods := #[k0m0]
  instanceTypes := #[]
  staticTypes := #[]
  resolved := Array.replicate 124 none
  statics := none }

def pool1 : Array CpInfo := pool [(2, .class_ 4), (1, u "java/lang/Object"), (0, u "<init>"), (0, u "()V"), (0, .fieldref 8 9), (0, .class_ 10), (0, .nameAndType 11 12), (0, u "com/example/tryst/tryst/elimination/Side"), (0, u "ANY"), (0, u "Lcom/example/tryst/tryst/elimination/Side;"), (0, .fieldref 8 14), (0, .nameAndType 15 12), (0, u "RED"), (0, .fieldref 8 17), (0, .nameAndType 18 12), (0, u "BLUE"), (0, .integer 2147483647), (0, .methodref 21 22), (0, .class_ 23), (0, .nameAndType 24 25), (0, u "com/example/tryst/tryst/elimination/SideMeetsPinLaw"), (0, u "side"), (0, u "(I)Lcom/example/tryst/tryst/elimination/Side;"), (0, .methodref 8 27), (0, .nameAndType 28 29), (0, u "meets"), (0, u "(Lcom/example/tryst/tryst/elimination/Side;)Z"), (0, .methodref 21 31), (0, .nameAndType 32 33), (0, u "expected"), (0, u "(II)Z"), (3, u "law")] 2

def k1m0 : Method := { name := "<init>", desc := "()V", sig := { parameters := [], returnType := none }, accessFlags := 1, code := none }
def k1c1 : Code := { maxStack := 2, maxLocals := 1, code := method_2_code, exceptionTable := #[], attributes := #[] }
def k1m1 : Method := { name := "side", desc := "(I)Lcom/example/tryst/tryst/elimination/Side;", sig := { parameters := [.int], returnType := some (.object "com/example/tryst/tryst/elimination/Side") }, accessFlags := 10, code := some k1c1 }
def k1c2 : Code := { maxStack := 2, maxLocals := 2, code := method_3_code, exceptionTable := #[], attributes := #[] }
def k1m2 : Method := { name := "expected", desc := "(II)Z", sig := { parameters := [.int, .int], returnType := some .boolean }, accessFlags := 10, code := some k1c2 }
def k1c3 : Code := { maxStack := 3, maxLocals := 8, code := code, exceptionTable := #[], attributes := #[] }
def k1m3 : Method := { name := "law", desc := "(II)Z", sig := { parameters := [.int, .int], returnType := some .boolean }, accessFlags := 9, code := some k1c3 }
/-- com/example/tryst/tryst/elimination/SideMeetsPinLaw -/
def k1 : Class := { plain "com/example/tryst/tryst/elimination/SideMeetsPinLaw" (some 0) with
  accessFlags := 49
  interfaces := #[]
  cf := some (fileOf pool1 21 #[] #[{ accessFlags := 1, nameIndex := 5, descriptorIndex := 6, attributes := #[] }, { accessFlags := 10, nameIndex := 24, descriptorIndex := 25, attributes := #[] }, { accessFlags := 10, nameIndex := 32, descriptorIndex := 33, attributes := #[] }, { accessFlags := 9, nameIndex := 37, descriptorIndex := 33, attributes := #[] }] 49 2 #[] #[])
  fields := #[]
  methods := #[k1m0, k1m1, k1m2, k1m3]
  instanceTypes := #[]
  staticTypes := #[]
  resolved := Array.replicate 40 none
  statics := none }

def pool2 : Array CpInfo := pool [(1, .class_ 2), (0, u "java/lang/constant/Constable"), (0, .class_ 4), (0, u "java/lang/Object")] 6

/-- java/lang/constant/Constable -/
def k2 : Class := { plain "java/lang/constant/Constable" (some 0) with
  accessFlags := 1537
  interfaces := #[]
  cf := some (fileOf pool2 1 #[] #[] 1537 3 #[] #[])
  fields := #[]
  methods := #[]
  instanceTypes := #[]
  staticTypes := #[]
  resolved := Array.replicate 11 none
  statics := none }

def pool3 : Array CpInfo := pool [(1, .class_ 2), (0, u "java/lang/Comparable"), (0, .class_ 4), (0, u "java/lang/Object")] 7

/-- java/lang/Comparable -/
def k3 : Class := { plain "java/lang/Comparable" (some 0) with
  accessFlags := 1537
  interfaces := #[]
  cf := some (fileOf pool3 1 #[] #[] 1537 3 #[] #[])
  fields := #[]
  methods := #[]
  instanceTypes := #[]
  staticTypes := #[]
  resolved := Array.replicate 12 none
  statics := none }

def pool4 : Array CpInfo := pool [(1, .class_ 2), (0, u "java/io/Serializable"), (0, .class_ 4), (0, u "java/lang/Object")] 2

/-- java/io/Serializable -/
def k4 : Class := { plain "java/io/Serializable" (some 0) with
  accessFlags := 1537
  interfaces := #[]
  cf := some (fileOf pool4 1 #[] #[] 1537 3 #[] #[])
  fields := #[]
  methods := #[]
  instanceTypes := #[]
  staticTypes := #[]
  resolved := Array.replicate 7 none
  statics := none }

def pool5 : Array CpInfo := pool [(2, .class_ 4), (1, u "java/lang/Enum"), (0, u "name"), (0, u "Ljava/lang/String;"), (2, u "ordinal"), (0, u "I"), (1, .class_ 14), (1, u "java/lang/Object"), (4, u "hash"), (86, .class_ 108), (1, u "java/lang/Enum$EnumDesc"), (2, .class_ 112), (0, u "java/lang/constant/Constable"), (0, .class_ 114), (0, u "java/lang/Comparable"), (0, .class_ 116), (0, u "java/io/Serializable")] 87

/-- java/lang/Enum -/
def k5 : Class := { plain "java/lang/Enum" (some 0) with
  accessFlags := 1057
  interfaces := #[2, 3, 4]
  cf := some (fileOf pool5 2 #[.nestMembers #[106]] #[] 1057 12 #[111, 113, 115] #[{ accessFlags := 18, nameIndex := 5, descriptorIndex := 6, attributes := #[] }, { accessFlags := 18, nameIndex := 9, descriptorIndex := 10, attributes := #[] }, { accessFlags := 2, nameIndex := 19, descriptorIndex := 10, attributes := #[] }])
  fields := #[{ name := "name", type := (.object "java/lang/String"), accessFlags := 18, slot := 0, constantValue := 0 }, { name := "ordinal", type := .int, accessFlags := 18, slot := 1, constantValue := 0 }, { name := "hash", type := .int, accessFlags := 2, slot := 2, constantValue := 0 }]
  methods := #[]
  instanceTypes := #[(.object "java/lang/String"), .int, .int]
  staticTypes := #[]
  resolved := Array.replicate 204 none
  statics := none }

def pool6 : Array CpInfo := pool [(1, .class_ 2), (0, u "com/example/tryst/tryst/elimination/Side"), (0, .fieldref 1 4), (0, .nameAndType 5 6), (0, u "ANY"), (0, u "Lcom/example/tryst/tryst/elimination/Side;"), (2, u "RED"), (2, u "BLUE"), (2, u "$VALUES"), (0, u "[Lcom/example/tryst/tryst/elimination/Side;"), (6, .class_ 25), (1, u "java/lang/Enum"), (21, u "meets"), (0, u "(Lcom/example/tryst/tryst/elimination/Side;)Z")] 5

def k6c0 : Code := { maxStack := 2, maxLocals := 2, code := prog_5_method_4_code, exceptionTable := #[], attributes := #[] }
def k6m0 : Method := { name := "meets", desc := "(Lcom/example/tryst/tryst/elimination/Side;)Z", sig := { parameters := [(.object "com/example/tryst/tryst/elimination/Side")], returnType := some .boolean }, accessFlags := 0, code := some k6c0 }
/-- com/example/tryst/tryst/elimination/Side -/
def k6 : Class := { plain "com/example/tryst/tryst/elimination/Side" (some 5) with
  accessFlags := 16433
  interfaces := #[]
  cf := some (fileOf pool6 1 #[] #[{ accessFlags := 0, nameIndex := 47, descriptorIndex := 48, attributes := #[] }] 16433 23 #[] #[{ accessFlags := 16409, nameIndex := 5, descriptorIndex := 6, attributes := #[] }, { accessFlags := 16409, nameIndex := 9, descriptorIndex := 6, attributes := #[] }, { accessFlags := 16409, nameIndex := 12, descriptorIndex := 6, attributes := #[] }, { accessFlags := 4122, nameIndex := 15, descriptorIndex := 16, attributes := #[] }])
  fields := #[{ name := "ANY", type := (.object "com/example/tryst/tryst/elimination/Side"), accessFlags := 16409, slot := 0, constantValue := 0 }, { name := "RED", type := (.object "com/example/tryst/tryst/elimination/Side"), accessFlags := 16409, slot := 1, constantValue := 0 }, { name := "BLUE", type := (.object "com/example/tryst/tryst/elimination/Side"), accessFlags := 16409, slot := 2, constantValue := 0 }, { name := "$VALUES", type := (.array (.object "com/example/tryst/tryst/elimination/Side")), accessFlags := 4122, slot := 3, constantValue := 0 }]
  methods := #[k6m0]
  instanceTypes := #[(.object "java/lang/String"), .int, .int]
  staticTypes := #[(.object "com/example/tryst/tryst/elimination/Side"), (.object "com/example/tryst/tryst/elimination/Side"), (.object "com/example/tryst/tryst/elimination/Side"), (.array (.object "com/example/tryst/tryst/elimination/Side"))]
  resolved := Array.replicate 54 none
  statics := some 0 }

def pool7 : Array CpInfo := pool [(1, u "java/lang/Cloneable"), (0, .class_ 1), (0, u "java/lang/Object"), (0, .class_ 3)] 3

/-- java/lang/Cloneable -/
def k7 : Class := { plain "java/lang/Cloneable" (some 0) with
  accessFlags := 1537
  interfaces := #[]
  cf := some (fileOf pool7 2 #[] #[] 1537 4 #[] #[])
  fields := #[]
  methods := #[]
  instanceTypes := #[]
  staticTypes := #[]
  resolved := Array.replicate 8 none
  statics := none }

/-- the primitive byte -/
def k8 : Class := { plain "byte" none with kind := .primitive 'B', accessFlags := 0x411 }
/-- [B -/
def k9 : Class := { plain "[B" (some 0) with kind := .array 8 .byte, interfaces := #[7, 4], accessFlags := 1041 }

/-- the primitive int -/
def k10 : Class := { plain "int" none with kind := .primitive 'I', accessFlags := 0x411 }
/-- [I -/
def k11 : Class := { plain "[I" (some 0) with kind := .array 10 .int, interfaces := #[7, 4], accessFlags := 1041 }

def heap : Heap := #[{ cls := 6, slots := #[.ref 1, .ref 2, .ref 3, .null], vm := .statics 6 },
  { cls := 6, slots := #[.null, .int 0, .int 0], vm := .none },
  { cls := 6, slots := #[.null, .int 1, .int 0], vm := .none },
  { cls := 6, slots := #[.null, .int 2, .int 0], vm := .none }]
def classes : Array Class := #[k0, k1, k2, k3, k4, k5, k6, k7, k8, k9, k10, k11]
def interned : List (Array UInt16 × Addr) := []
def slotsUsed : Nat := 13
def theMethod : MethodId := ⟨1, 3⟩
def args0 : Array Value := #[.int 5, .int 4]
def aboutOver (below : List Frame) : State where
  vm := { classes := classes, interned := interned.toArray }
  heap := heap
  slotsUsed := slotsUsed
  threads := #[{ frames := .invoking theMethod args0 :: below }]
def below0 : List Frame := [.native { method := ⟨0, 0⟩, args := #[] }]
def about1 : State := aboutOver below0
def p0 : Program := .bare "" "" ""
def e0 : Env := launch0.env 0 0 0
theorem w_frames : about1.frames = Frame.invoking theMethod args0 :: below0 := rfl
set_option maxRecDepth 65536 in
theorem w_args : argsFit about1.vm theMethod args0 = true := by decide +kernel
set_option maxRecDepth 65536 in
theorem w_heap : heapFits about1 = true := by decide +kernel
set_option maxRecDepth 65536 in
theorem w_runnable : about1.curStatus? = some .runnable := by decide +kernel
set_option maxRecDepth 65536 in
theorem w_alone : about1.alone = true := by decide +kernel
set_option maxRecDepth 65536 in
theorem w_named : about1.methodNamed? x = some theMethod := by decide +kernel
set_option maxRecDepth 65536 in
theorem w_hears : about1.hears theMethod below0 = true := by decide +kernel
set_option maxRecDepth 65536 in
theorem w_ripe : about1.ripe theMethod args0 below0 = true := by decide +kernel
theorem w_running : about1.status = .running := rfl
set_option maxRecDepth 65536 in
theorem w_room : about1.hasRoom e0.platform room_1 = true :=
  launch0.hasRoom_least _ room_1 (by decide +kernel) (by decide +kernel) (by decide +kernel) (by decide +kernel) (by decide +kernel) (by decide +kernel)
theorem allAtoms_all (ts : List Jvm.Cond) (a : Array Jvm.Value) (st : Jvm.State) : (allAtoms ts).before a st = ts.all (fun c => c.before a st) := by
  induction ts with
  | nil => rfl
  | cons c t ih =>
    show (Jvm.Cond.and c (allAtoms t)).before a st = _
    rw [Jvm.Cond.before_and, ih, List.all_cons]
def words1 : List Jvm.Cond := Jvm.Cond.code x code maxLocals ret :: tables_1
/-- a 'code' word, met by the world's own term for the bytes: nothing is compared byte by byte -/
theorem code_word {y : MethodName} {bytes : ByteArray} {mx : Nat} {rt : Option FieldType} {a : Array Value} {s : State} {m : MethodId} {meth : Method} {c : Code} (h1 : s.methodNamed? y = some m) (h2 : s.vm.method? m = some meth) (h3 : meth.code = some c) (h4 : c.code = bytes)
    (h5 : (c.maxLocals == mx && c.exceptionTable.isEmpty && decide (c.maxStack ≤ mostOperands) && decide (meth.sig.returnType = rt) && !meth.locks && decide (parseMethodDescriptor y.desc = some meth.sig)) = true) : (Jvm.Cond.code y bytes mx rt).before a s = true := by
  simp only [Bool.and_eq_true, beq_iff_eq, Bool.not_eq_true', decide_eq_true_eq] at h5
  obtain ⟨⟨⟨⟨⟨g1, g2⟩, g3⟩, g4⟩, g5⟩, g6⟩ := h5
  simp [Cond.before, Cond.holds, Cond.value, h1, h2, h3, h4, g1, g2, g3, g4, g5, g6]
def isCode : Jvm.Cond → Bool
  | .code _ _ _ _ => true
  | _ => false
theorem all_split {L : List Jvm.Cond} {P : Jvm.Cond → Bool} (h1 : L.all (fun c => isCode c || P c) = true) (h2 : ∀ c ∈ L.filter isCode, P c = true) : L.all P = true := by
  refine List.all_eq_true.mpr fun c hc => ?_
  have h := List.all_eq_true.mp h1 c hc
  rcases Bool.eq_false_or_eq_true (isCode c) with hi | hi
  · exact h2 c (List.mem_filter.mpr ⟨hc, hi⟩)
  · simpa [hi] using h
set_option maxRecDepth 65536 in
theorem w_c0 : (Jvm.Cond.code x code maxLocals ret).before args0 about1 = true := code_word (m := ⟨1, 3⟩) (meth := k1m3) (c := k1c3) (by decide +kernel) rfl rfl rfl (by decide +kernel)
set_option maxRecDepth 65536 in
theorem w_c1 : (Jvm.Cond.code ({ cls := "com/example/tryst/tryst/elimination/SideMeetsPinLaw", name := "side", desc := "(I)Lcom/example/tryst/tryst/elimination/Side;" } : Jvm.MethodName) method_2_code (1 : Nat) (Option.some (Jvm.ClassFile.FieldType.object "com/example/tryst/tryst/elimination/Side"))).before args0 about1 = true := code_word (m := ⟨1, 1⟩) (meth := k1m1) (c := k1c1) (by decide +kernel) rfl rfl rfl (by decide +kernel)
set_option maxRecDepth 65536 in
theorem w_c2 : (Jvm.Cond.code ({ cls := "com/example/tryst/tryst/elimination/Side", name := "meets", desc := "(Lcom/example/tryst/tryst/elimination/Side;)Z" } : Jvm.MethodName) prog_5_method_4_code (2 : Nat) (Option.some Jvm.ClassFile.FieldType.boolean)).before args0 about1 = true := code_word (m := ⟨6, 0⟩) (meth := k6m0) (c := k6c0) (by decide +kernel) rfl rfl rfl (by decide +kernel)
set_option maxRecDepth 65536 in
theorem w_c3 : (Jvm.Cond.code ({ cls := "com/example/tryst/tryst/elimination/SideMeetsPinLaw", name := "expected", desc := "(II)Z" } : Jvm.MethodName) method_3_code (2 : Nat) (Option.some Jvm.ClassFile.FieldType.boolean)).before args0 about1 = true := code_word (m := ⟨1, 2⟩) (meth := k1m2) (c := k1c2) (by decide +kernel) rfl rfl rfl (by decide +kernel)
def codes1 : List Jvm.Cond := [Jvm.Cond.code x code maxLocals ret, Jvm.Cond.code ({ cls := "com/example/tryst/tryst/elimination/SideMeetsPinLaw", name := "side", desc := "(I)Lcom/example/tryst/tryst/elimination/Side;" } : Jvm.MethodName) method_2_code (1 : Nat) (Option.some (Jvm.ClassFile.FieldType.object "com/example/tryst/tryst/elimination/Side")), Jvm.Cond.code ({ cls := "com/example/tryst/tryst/elimination/Side", name := "meets", desc := "(Lcom/example/tryst/tryst/elimination/Side;)Z" } : Jvm.MethodName) prog_5_method_4_code (2 : Nat) (Option.some Jvm.ClassFile.FieldType.boolean), Jvm.Cond.code ({ cls := "com/example/tryst/tryst/elimination/SideMeetsPinLaw", name := "expected", desc := "(II)Z" } : Jvm.MethodName) method_3_code (2 : Nat) (Option.some Jvm.ClassFile.FieldType.boolean)]
set_option maxRecDepth 65536 in
theorem codes_eq : words1.filter isCode = codes1 := rfl
theorem w_codes : ∀ c ∈ words1.filter isCode, c.before args0 about1 = true := by
  rw [codes_eq]
  intro c hc
  simp only [codes1, List.mem_cons, List.not_mem_nil, or_false] at hc
  rcases hc with rfl | rfl | rfl | rfl
  · exact w_c0
  · exact w_c1
  · exact w_c2
  · exact w_c3
set_option maxRecDepth 65536 in
theorem w_t1 : words1.all (fun c => isCode c || c.before args0 about1) = true := by decide +kernel
theorem w_tables : (allAtoms (Jvm.Cond.code x code maxLocals ret :: tables_1)).before args0 about1 = true := by
  rw [allAtoms_all]
  show words1.all (fun c => c.before args0 about1) = true
  refine all_split ?_ w_codes
  rw [w_t1]
set_option maxRecDepth 65536 in
theorem w_case : (Jvm.Cond.and given_1 narrow_1).before args0 about1 = true := by decide +kernel
theorem w_applies : (headSpec (Jvm.Cond.code x code maxLocals ret :: tables_1) room_1).applies x e0.platform about1 = true :=
  (Spec.applies_iff w_frames).mpr ⟨w_running, w_runnable, w_alone, w_named, w_hears, w_ripe, w_room, w_tables⟩
theorem atStart : AtStart classFile x code maxLocals ret World_1 tables_1 room_1 Calls_1 rest_1 Pre_1 launch0 p0 e0 about1 theMethod args0 below0 :=
  ⟨lists_1, trivial, launch0.admits_env _ _ _, launch0.least_env, fairChoices_fair.cas, fairChoices_fair.clock, w_frames, w_args, w_heap, w_applies, trivial, trivial, w_case⟩
end start1
theorem witness_1 : WitnessClaimed_1 := ⟨start1.p0, start1.e0, start1.about1, start1.theMethod, start1.args0, start1.below0, start1.atStart⟩
end Jvm.Pilot.@@N@@
