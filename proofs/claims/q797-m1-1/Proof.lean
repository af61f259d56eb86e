import JvmDerived
import JvmDerived.Pilot.@@N@@Statement
import JvmDerived.Pilot.@@N@@Code
set_option linter.unusedVariables false
set_option linter.unusedSimpArgs false
namespace Jvm.Pilot.@@N@@
open Jvm Jvm.ClassFile Sem Op Lib Jvm.Free Jvm.Stand Jvm.LawKit Jvm.RoadKit Bundle Jvm.Pilot.@@N@@.Jvm.D
section Own
variable {p : Program} {l : Launch} {e : Env} {R : Room} {s : State} {m : MethodId} {args : Array Value} {below : List Frame} {meth : Method} {c : Code} {T : State} {locs : List Loc} {cells slots : Nat} {K : Outcome → State → Prop} {Z : State} {a0 : Array Value}
/-- from S the run comes to an end of which K is true -/
def Go (p : Program) (e : Env) (below : List Frame) (K : Outcome → State → Prop) (S : State) : Prop := ∃ s₂ o, Steps p.tables e below S s₂ ∧ s₂.status = .running ∧ Ended s₂ below o ∧ K o s₂
theorem Go.st {S S' : State} (h : ∀ t, Steps p.tables e below S' t → Steps p.tables e below S t) (k : Go p e below K S') : Go p e below K S := by
  obtain ⟨a, o, h1, r⟩ := k; exact ⟨a, o, h _ h1, r⟩
theorem Go.tr {S S' : State} (h : Steps p.tables e below S S') (k : Go p e below K S') : Go p e below K S := by
  obtain ⟨a, o, h1, r⟩ := k; exact ⟨a, o, h.trans h1, r⟩
def EndQ (s : State) (Q : Option Value → Heap → List Loc → Prop) (ce sl : Nat) (o : Outcome) (U : State) : Prop := ∃ v L, o = .returned v ∧ Q v U.heap L ∧ FrameEnd s o U L ce sl
theorem goRet {v : Option Value} {ce sl : Nat} {Q : Option Value → Heap → List Loc → Prop} {S : State} {h : Heap} (X : Stand p l e R s m args below meth c T locs cells slots) (hlk : meth.locks = false) (hv : meth.sig.returnType = none → v = none) (eT : T.heap = h)
    (step : ∀ fs, (∀ (f : JFrame) (acts : List Action), f.method = m → f.locked = none → f.entered = [] → (doReturn e (T.setTop f) acts v).1 = T.setFrames fs) → Steps p.tables e below S (T.setFrames fs))
    (hc : cells ≤ ce) (hs : slots ≤ sl) (hQ : Q v h locs) : Go p e below (EndQ s Q ce sl) S := by
  obtain ⟨fs, hr, hrun, hended, hW, hsame⟩ := X.leave (v := v) hv hlk
  subst eT
  exact ⟨_, _, step fs hr, hrun, hended, _, _, rfl, hQ, ⟨_, rfl⟩, hW, hsame.mono hc hs⟩
/-- ireturn of a boolean, byte, char, short -/
theorem goRetN {ce sl : Nat} {Q : Option Value → Heap → List Loc → Prop} {pc : Nat} {Ls : Array Slot} {z w : Int32} {rest : List Value} {t : FieldType} {h : Heap} (X : Stand p l e R s m args below meth c T locs cells slots) (hx : p.tables.exec = Jvm.exec) (hlk : meth.locks = false) (hret : meth.sig.returnType = some t) (ht : t = .boolean ∨ t = .byte ∨ t = .char ∨ t = .short) (hw : nar t z = w) (eT : T.heap = h)
    (hd : decode c.code pc = .ok (.ireturn, 1)) (hc : cells ≤ ce) (hs : slots ≤ sl) (hQ : Q (some (.int w)) h locs) : Go p e below (EndQ s Q ce sl) (T.setTop (mkF m pc Ls (.int z :: rest))) := by
  subst hw
  exact goRet X hlk (fun h => by rw [hret] at h; cases h) eT (fun fs hr => retN X hx hret ht hd hr) hc hs hQ
theorem goRetI {ce sl : Nat} {Q : Option Value → Heap → List Loc → Prop} {pc : Nat} {Ls : Array Slot} {z : Int32} {rest : List Value} {h : Heap} (X : Stand p l e R s m args below meth c T locs cells slots) (hx : p.tables.exec = Jvm.exec) (hlk : meth.locks = false) (hret : meth.sig.returnType = some .int) (eT : T.heap = h)
    (hd : decode c.code pc = .ok (.ireturn, 1)) (hc : cells ≤ ce) (hs : slots ≤ sl) (hQ : Q (some (.int z)) h locs) : Go p e below (EndQ s Q ce sl) (T.setTop (mkF m pc Ls (.int z :: rest))) :=
  goRet X hlk (fun h => by rw [hret] at h; cases h) eT (fun fs hr => retOut X hx hret rfl (Or.inl ⟨rfl, Or.inl rfl, z, rfl⟩) hd hr) hc hs hQ
theorem goRetJ {ce sl : Nat} {Q : Option Value → Heap → List Loc → Prop} {pc : Nat} {Ls : Array Slot} {z : Int64} {rest : List Value} {h : Heap} (X : Stand p l e R s m args below meth c T locs cells slots) (hx : p.tables.exec = Jvm.exec) (hlk : meth.locks = false) (hret : meth.sig.returnType = some .long) (eT : T.heap = h)
    (hd : decode c.code pc = .ok (.lreturn, 1)) (hc : cells ≤ ce) (hs : slots ≤ sl) (hQ : Q (some (.long z)) h locs) : Go p e below (EndQ s Q ce sl) (T.setTop (mkF m pc Ls (.long z :: rest))) :=
  goRet X hlk (fun h => by rw [hret] at h; cases h) eT (fun fs hr => retOut X hx hret rfl (Or.inr (Or.inl ⟨rfl, rfl, z, rfl⟩)) hd hr) hc hs hQ
theorem goRetA {ce sl : Nat} {Q : Option Value → Heap → List Loc → Prop} {pc : Nat} {Ls : Array Slot} {w : Value} {rest : List Value} {t : FieldType} {h : Heap} (X : Stand p l e R s m args below meth c T locs cells slots) (hx : p.tables.exec = Jvm.exec) (hlk : meth.locks = false) (hret : meth.sig.returnType = some t) (ht : t.isReference = true) (hw : w.isRef = true) (hn : narrow t w = w) (eT : T.heap = h)
    (hd : decode c.code pc = .ok (.areturn, 1)) (hc : cells ≤ ce) (hs : slots ≤ sl) (hQ : Q (some w) h locs) : Go p e below (EndQ s Q ce sl) (T.setTop (mkF m pc Ls (w :: rest))) :=
  goRet X hlk (fun h => by rw [hret] at h; cases h) eT (fun fs hr => retOut X hx hret hn (Or.inr (Or.inr (Or.inr (Or.inr ⟨rfl, ht, hw⟩)))) hd hr) hc hs hQ
theorem goRetV {ce sl : Nat} {Q : Option Value → Heap → List Loc → Prop} {pc : Nat} {Ls : Array Slot} {h : Heap} (X : Stand p l e R s m args below meth c T locs cells slots) (hx : p.tables.exec = Jvm.exec) (hlk : meth.locks = false) (hret : meth.sig.returnType = none) (eT : T.heap = h)
    (hd : decode c.code pc = .ok (.return_, 1)) (hc : cells ≤ ce) (hs : slots ≤ sl) (hQ : Q none h locs) : Go p e below (EndQ s Q ce sl) (T.setTop (mkF m pc Ls [])) :=
  goRet X hlk (fun _ => rfl) eT (fun fs hr => X.returnOut hx hret hd hr) hc hs hQ
/-- a method's contract, in the form that a caller takes -/
abbrev Ctr (l : Launch) (y : MethodName) (bytes : ByteArray) (maxL : Nat) (ret : Option FieldType) (ws : List Jvm.Cond) (rm : Room) (as : Array Value) (Z : State) (h0 : Heap) (Q : Option Value → Heap → List Loc → Prop) : Prop :=
  MetFree l y (head1 (Jvm.Cond.code y bytes maxL ret :: ws) rm) (fun a U => a = as ∧ Z.Warmed39 U.vm ∧ U.heap = h0) (fun _ _ _ _ _ => True) (fun _ U o U' => ∃ v L, o = .returned v ∧ Q v U'.heap L ∧ FrameEnd U o U' L rm.cells rm.slots)
theorem Ctr.of {y : MethodName} {bytes : ByteArray} {maxL : Nat} {ret : Option FieldType} {ws : List Jvm.Cond} {rm : Room} {as : Array Value} {h0 : Heap} {Q : Option Value → Heap → List Loc → Prop} (hpl : plainFor y = true)
    (body : ∀ (p : Program) (e : Env) (s : State) (m : MethodId) (below : List Frame) (meth : Method) (c : Code) (s₁ : State), p.tables.exec = Jvm.exec → Z.Warmed39 s.vm → c.code = bytes → c.maxLocals = maxL → s.vm.findClass y.cls = some m.cls → meth.name = y.name → meth.sig.returnType = ret → meth.locks = false →
      Stand p l e rm s m as below meth c s₁ [] 0 0 → s₁.heap = h0 → Go p e below (EndQ s Q rm.cells rm.slots) (s₁.setTop (entryFrame m as maxL))) :
    Ctr l y bytes maxL ret ws rm as Z h0 Q := by
  refine MetFree.of_bodySF hpl hisR ?_
  intro p e s m args below meth c s₁ Bd hml hP _
  obtain ⟨rfl, hZ, hh⟩ := hP
  exact body p e s m below meth c s₁ Bd.exec hZ Bd.bytes hml (findClass_of_methodNamed Bd.named) (name_of_methodNamed Bd.named Bd.method).1 Bd.returns Bd.notSynchronized (Stand.of_body Bd) (by rw [← hh, Bd.state]; rfl)
theorem goCallS (X : Stand p l e R s m args below meth c T locs cells slots) (hx : p.tables.exec = Jvm.exec) (hZ : Z.Warmed39 s.vm) {own : String} {index : Nat} {y : MethodName} {bytes : ByteArray} {maxL : Nat} {ret : Option FieldType} (hown : s.vm.findClass own = some m.cls)
    (w1 : (Jvm.Cond.methodLink own index y).before a0 Z = true) (w2 : (Jvm.Cond.static y).before a0 Z = true) (w3 : (Jvm.Cond.initialized y.cls).before a0 Z = true) (w4 : (Jvm.Cond.code y bytes maxL ret).before a0 Z = true) (hy : y.cls ≠ "java/lang/invoke/MethodHandle" ∧ y.cls ≠ "java/lang/invoke/VarHandle")
    {h : Heap} {rm : Room} {argsL rest : List Value} {Q : Option Value → Heap → List Loc → Prop} (eT : T.heap = h) (hC : Ctr l y bytes maxL ret [] rm argsL.toArray Z h Q) (W : Nat) (hf : rm.frames + 1 ≤ R.frames) (hl : W + (maxL + 11) + rm.locals ≤ R.locals) (hcl : cells + rm.cells ≤ R.cells) (hsl : slots + rm.slots ≤ R.slots)
    (g : JFrame) (hg : g.method = m) (hsize : g.locals.size = c.maxLocals) (hlen : ∀ sig, parseMethodDescriptor y.desc = some sig → argsL.length = sig.parameters.length) (hst : g.stack = argsL.reverse ++ rest) (hd : decode c.code g.pc = .ok (.invokestatic index, 3))
    (hW : 2 * g.monitorRoom + (rest.map fun v => v.category).sum ≤ W)
    (next : ∀ (v : Option Value) (T' : State) (L : List Loc), Stand p l e R s m args below meth c T' (locs ++ L) (cells + rm.cells) (slots + rm.slots) → Q v T'.heap L → Go p e below K (T'.setTop { g with pc := g.pc + 3, stack := v.toList ++ rest })) :
    Go p e below K (T.setTop g) := by
  subst eT
  obtain ⟨v, _, ⟨T', L', k', n'⟩, -, X', ⟨L, hQ, l1, y1, z1⟩, stp⟩ := Jvm.LawKit.callS X hx hown (mvT hZ w1) (mvT hZ w2) (mvT hZ w3) (mvT hZ w4) hy (backOf (W := W) hC hZ w4 w3 hf hl) (g := g) hg hsize hlen hst hW hd (fun _ _ => ⟨rfl, rfl, hcl, hsl⟩)
  dsimp only [Pt.U, Pt.locs, Pt.cells, Pt.slots] at X' l1 y1 z1 stp hQ
  subst l1 y1 z1
  exact Go.st stp (next v T' L X' hQ)
theorem goInit (X : Stand p l e R s m args below meth c T locs cells slots) (hx : p.tables.exec = Jvm.exec) (hZ : Z.Warmed39 s.vm) {own : String} {index : Nat} {y : MethodName} {bytes : ByteArray} {maxL : Nat} (hy1 : y.name = "<init>") (hown : s.vm.findClass own = some m.cls)
    (w1 : (Jvm.Cond.methodLink own index y).before a0 Z = true) (w2 : (Jvm.Cond.instanceMethod y).before a0 Z = true) (w3 : (Jvm.Cond.initialized y.cls).before a0 Z = true) (w4 : (Jvm.Cond.code y bytes maxL none).before a0 Z = true) (hy : y.cls ≠ "java/lang/invoke/MethodHandle" ∧ y.cls ≠ "java/lang/invoke/VarHandle")
    {h : Heap} {rm : Room} {a : Addr} {argsL rest : List Value} {Q : Option Value → Heap → List Loc → Prop} (eT : T.heap = h) (hC : Ctr l y bytes maxL none [] rm (.ref a :: argsL).toArray Z h Q) (W : Nat) (hf : rm.frames + 1 ≤ R.frames) (hl : W + (maxL + 11) + rm.locals ≤ R.locals) (hcl : cells + rm.cells ≤ R.cells) (hsl : slots + rm.slots ≤ R.slots)
    (g : JFrame) (hg : g.method = m) (hsize : g.locals.size = c.maxLocals) (hlen : ∀ sig, parseMethodDescriptor y.desc = some sig → argsL.length = sig.parameters.length) (hst : g.stack = argsL.reverse ++ .ref a :: rest) (hd : decode c.code g.pc = .ok (.invokespecial index, 3))
    (hW : 2 * g.monitorRoom + (rest.map fun v => v.category).sum ≤ W)
    (next : ∀ (v : Option Value) (T' : State) (L : List Loc), Stand p l e R s m args below meth c T' (locs ++ L) (cells + rm.cells) (slots + rm.slots) → Q v T'.heap L → Go p e below K (T'.setTop { g with pc := g.pc + 3, stack := v.toList ++ rest })) :
    Go p e below K (T.setTop g) := by
  subst eT
  obtain ⟨v, _, ⟨T', L', k', n'⟩, -, X', ⟨L, hQ, l1, y1, z1⟩, stp⟩ := X.specialBack hx hy1 hown (mvT hZ w1) (mvT hZ w2) (mvT hZ w4) hy (backOf (W := W) hC hZ w4 w3 hf hl) (g := g) hg hsize (Steps.refl _) hlen hst hW hd (fun _ _ => ⟨rfl, rfl, hcl, hsl⟩)
  dsimp only [Pt.U, Pt.locs, Pt.cells, Pt.slots] at X' l1 y1 z1 stp hQ
  subst l1 y1 z1
  exact Go.tr stp (next v T' L X' hQ)
theorem goVirt (X : Stand p l e R s m args below meth c T locs cells slots) (hx : p.tables.exec = Jvm.exec) (hZ : Z.Warmed39 s.vm) {own C : String} {index : Nat} {y z : MethodName} {bytes : ByteArray} {maxL : Nat} {ret : Option FieldType} (hown : s.vm.findClass own = some m.cls)
    (w1 : (Jvm.Cond.methodLink own index y).before a0 Z = true) (w2 : (Jvm.Cond.declares y).before a0 Z = true) (hnf : NotFace s y) (w5 : (Jvm.Cond.selects C y z).before a0 Z = true) (w6 : (Jvm.Cond.instanceMethod z).before a0 Z = true) (w3 : (Jvm.Cond.initialized z.cls).before a0 Z = true) (w4 : (Jvm.Cond.code z bytes maxL ret).before a0 Z = true) (hy : y.cls ≠ "java/lang/invoke/MethodHandle" ∧ y.cls ≠ "java/lang/invoke/VarHandle")
    {h : Heap} {rm : Room} {a : Addr} {argsL rest : List Value} {Q : Option Value → Heap → List Loc → Prop} (eT : T.heap = h) (E : Exa Z h a C) (hC : Ctr l z bytes maxL ret [] rm (.ref a :: argsL).toArray Z h Q) (W : Nat) (hf : rm.frames + 1 ≤ R.frames) (hl : W + (maxL + 11) + rm.locals ≤ R.locals) (hcl : cells + rm.cells ≤ R.cells) (hsl : slots + rm.slots ≤ R.slots)
    (g : JFrame) (hg : g.method = m) (hsize : g.locals.size = c.maxLocals) (hlen : ∀ sig, parseMethodDescriptor y.desc = some sig → argsL.length = sig.parameters.length) (hst : g.stack = argsL.reverse ++ .ref a :: rest) (hd : decode c.code g.pc = .ok (.invokevirtual index, 3))
    (hW : 2 * g.monitorRoom + (rest.map fun v => v.category).sum ≤ W)
    (next : ∀ (v : Option Value) (T' : State) (L : List Loc), Stand p l e R s m args below meth c T' (locs ++ L) (cells + rm.cells) (slots + rm.slots) → Q v T'.heap L → Go p e below K (T'.setTop { g with pc := g.pc + 3, stack := v.toList ++ rest })) :
    Go p e below K (T.setTop g) := by
  subst eT
  obtain ⟨cq, kq, qa, qb, qc⟩ := isOf (T := T) hZ rfl E
  obtain ⟨v, _, ⟨T', L', k', n'⟩, -, X', ⟨L, hQ, l1, y1, z1⟩, stp⟩ := X.virtualBack hx hown (mvT hZ w1) (mvT hZ w2) hnf (mvT hZ w5) (mvT hZ w6) hy (backOf (W := W) hC hZ w4 w3 hf hl) qa qc (g := g) hg hsize (Steps.refl _) hlen hst hW hd (fun _ _ => ⟨rfl, rfl, hcl, hsl⟩)
  dsimp only [Pt.U, Pt.locs, Pt.cells, Pt.slots] at X' l1 y1 z1 stp hQ
  subst l1 y1 z1
  exact Go.tr stp (next v T' L X' hQ)
theorem oldGe {h : Heap} {n0 : Nat} {b : Addr} (O : Old Z n0 h) (g : b = h.size) : n0 ≤ b := by rw [g, ← O.1]; exact O.2.1
theorem oldSta {h : Heap} {n0 : Nat} {C n d : String} {v : Value} (O : Old Z n0 h) (S : Sta Z Z.heap C n d v) : Sta Z h C n d v := S.ext O.2
theorem oldExa {h : Heap} {n0 : Nat} {C : String} {a : Addr} (O : Old Z n0 h) (S : Exa Z Z.heap a C) : Exa Z h a C := S.ext O.2
theorem oldFld {h : Heap} {n0 : Nat} {a : Addr} {C n d : String} {v : Value} (O : Old Z n0 h) (S : Fld Z Z.heap a C n d v) : Fld Z h a C n d v := S.ext O.2
end Own
theorem fldStart {args : Array Value} {Z : State} {t : Term} {a : Addr} {C n d : String} {v : Int32} (ev : t.eval args Z none [] Z = some (.ref a)) (h : (Jvm.Cond.eq (.field t C n d) (.int v)).value args Z none Z [] = some true) : Fld Z Z.heap a C n d (.int v) := by
  cases hf : Z.fieldOf? a C n d with
  | none => simp [Cond.value, Term.eval, ev, hf] at h
  | some x =>
    cases x <;> simp [Cond.value, Term.eval, ev, hf] at h
    exact Fld.start (by rw [hf, h])
theorem staInt {args : Array Value} {Z : State} {C n d : String} {v : Int32} (h : (Jvm.Cond.eq (.static C n d) (.int v)).value args Z none Z [] = some true) : (Term.static C n d).eval args Z none [] Z = some (.int v) := by
  obtain ⟨x, y, h1, h2, k1, k2⟩ := cmp_v (Or.inl h)
  cases (Term.int_eval v (args := args) (first := Z) (o := none) (idx := []) (s := Z)).symm.trans h2
  obtain ⟨z, rfl⟩ := k2
  rw [h1]
  simp [Cond.value, h1, Term.int_eval] at h
  rw [h]
theorem narZ {z : Int32} (h : z = 0 ∨ z = 1) : nar .boolean z = z := by rcases h with rfl | rfl <;> decide
theorem goJoin {p : Program} {e : Env} {below : List Frame} {K : Outcome → State → Prop} {S : State} {α : Type} {P : α → Prop} {F : α → State} (h1 : ∀ z, P z → Go p e below K (F z)) (h2 : (∀ z, P z → Go p e below K (F z)) → Go p e below K S) : Go p e below K S := h2 h1
theorem own_bit {z : Int32} {P : Prop} [Decidable P] (h : z = (if P then (1 : Int32) else 0)) : z = 0 ∨ z = 1 := by rw [h]; by_cases q : P <;> simp [q]
theorem lenStart {args : Array Value} {Z : State} {t : Term} {a : Addr} {cl : Cell} {n : Int32} (ev : t.eval args Z none [] Z = some (.ref a)) (ha : Z.arrayAt? a = some cl) (h : (Jvm.Cond.eq (.length t) (.int n)).value args Z none Z [] = some true) : cl.slots.size < 2 ^ 31 ∧ cl.slots.size.toInt32 = n := by
  have h1 := eqv_i (Term.int_eval n) h
  by_cases q : cl.slots.size < 2 ^ 31
  · rw [len_f ev ha q] at h1
    exact ⟨q, by simpa using h1⟩
  · simp [Term.eval, ev, ha, q] at h1
theorem nsRoot {Z : State} {a0 : Array Value} {O K : String} {n : Nat} (w : (Jvm.Cond.noSuperclass O).before a0 Z = true) (wi : (Jvm.Cond.instantiable K n).before a0 Z = true) (hn : O ≠ K) : NS Z O K := by
  obtain ⟨c, k, h1, h2, h3, -, -⟩ := Cond.noSuperclass_spec w
  obtain ⟨t, k', g1, -⟩ := Cond.instantiable_spec wi
  have ne := ids_ne h1 g1 hn
  refine ⟨c, t, h1, g1, fun fuel => ?_⟩
  cases fuel with
  | zero => rfl
  | succ f => simp [Vm.isSubclassAux, ne, h2, h3]
theorem nsNo {Z : State} {a0 : Array Value} {C S K : String} {n : Nat} (w : (Jvm.Cond.superclass C S).before a0 Z = true) (wi : (Jvm.Cond.instantiable K n).before a0 Z = true) (nn : NS Z C K) (hn : C ≠ K) : ∃ c t, Z.vm.findClass C = some c ∧ Z.vm.findClass K = some t ∧ Z.vm.assignable c t = false := by
  obtain ⟨c, t, h0, g0, n3⟩ := nn
  obtain ⟨p, k, kp, h1, h2, h3, h4, h5, -, h7⟩ := Cond.superclass_spec h0 w
  obtain ⟨t', k', g1, g2, g5, g6, -⟩ := Cond.instantiable_spec wi
  cases g0.symm.trans g1
  have g7 : k'.isInterface = false := by
    cases hq : k'.isInterface with
    | false => rfl
    | true => rw [hq] at g6; simp at g6
  have ne := ids_ne h0 g0 hn
  refine ⟨c, t, h0, g0, ?_⟩
  show Z.vm.assignableAux (255 + 1) c t = false
  simp [Vm.assignableAux, ne, h2, g2, h5, g5, g7, Vm.isSubclass, n3]
theorem subAt {args : Array Value} {Z : State} {a b : Term} {idx : List Nat} {x y : Int32} (ha : a.eval args Z none idx Z = some (.int x)) (hb : b.eval args Z none idx Z = some (.int y)) : (Term.sub a b).eval args Z none idx Z = some (.int (x - y)) := by simp [Term.eval, ha, hb]
theorem elemStart {args : Array Value} {Z : State} {t u : Term} {a w : Addr} {cl : Cell} {ty : FieldType} {j : Int32} (ev : t.eval args Z none [] Z = some (.ref a)) (A : Arr Z Z.heap a cl ty) (evu : u.eval args Z none [] Z = some (.ref w)) (h : (Jvm.Cond.eq (.elem t (.int j)) u).value args Z none Z [] = some true) : cl.slots[j.toNatClampNeg]? = some (.ref w) := by
  obtain ⟨x, y, h1, h2, k1, k2⟩ := cmp_v (Or.inl h)
  cases evu.symm.trans h2
  have hx : x.isRef = true := k2.2
  have e : x = .ref w := gotT (eq_R h1 h2 hx rfl) h
  rw [← e]
  exact (elem_in h1 ev (Term.int_eval j) A.1).2
theorem own_ite {P Q : Prop} [Decidable P] [Decidable Q] (h : P ↔ Q) : (if P then (1 : Int32) else 0) = (if Q then (1 : Int32) else 0) := by
  by_cases p : P
  · rw [if_pos p, if_pos (h.mp p)]
  · rw [if_neg p, if_neg (fun q => p (h.mpr q))]
section OwnSync
variable {p : Program} {l : Launch} {e : Env} {R : Room} {s s0 : State} {m : MethodId} {args : Array Value} {below : List Frame} {meth : Method} {c : Code} {T : State} {locs : List Loc} {cells slots : Nat} {K : Outcome → State → Prop} {Z : State} {a0 : Array Value}
theorem keepSet {h : Heap} {a : Addr} {cl cl' : Cell} (hc : h[a]? = some cl) (h1 : cl'.cls = cl.cls) (h2 : cl'.vm = cl.vm) (h3 : cl'.slots.size = cl.slots.size) : Keep h (h.setIfInBounds a cl') [a] := by
  refine ⟨by simp, fun x c q r => ?_, fun x c q => ?_⟩
  · rw [Array.getElem?_setIfInBounds_ne (fun z => r (by rw [← z]; exact List.mem_singleton_self _))]; exact q
  · by_cases z : a = x
    · subst z
      cases hc.symm.trans q
      exact ⟨cl', by simp [(Array.getElem?_eq_some_iff.mp hc).1], h1, h2, h3⟩
    · exact ⟨c, by rw [Array.getElem?_setIfInBounds_ne z]; exact q, rfl, rfl, rfl⟩
theorem left_same (D : Cell) : D.left.cls = D.cls ∧ D.left.vm = D.vm ∧ D.left.slots = D.slots := by unfold Cell.left; split <;> exact ⟨rfl, rfl, rfl⟩
/-- the contract of a synchronized instance method -/
abbrev CtrS (l : Launch) (y : MethodName) (bytes : ByteArray) (maxL : Nat) (ret : Option FieldType) (rm : Room) (as : Array Value) (Z : State) (h0 : Heap) (Q : Option Value → Heap → List Loc → Prop) : Prop :=
  MetFree l y (head1 [Jvm.Cond.codeSync y bytes maxL ret, Jvm.Cond.instanceMethod y] rm) (fun a U => a = as ∧ Z.Warmed39 U.vm ∧ U.heap = h0) (fun _ _ _ _ _ => True) (fun _ U o U' => ∃ v L, o = .returned v ∧ Q v U'.heap L ∧ FrameEnd U o U' L rm.cells rm.slots)
theorem CtrS.of {y : MethodName} {bytes : ByteArray} {maxL : Nat} {ret : Option FieldType} {rm : Room} {as : Array Value} {a : Addr} {h0 : Heap} {Q : Option Value → Heap → List Loc → Prop} (hpl : plainFor y = true) (has : as[0]? = some (.ref a)) (N : Unt h0 a)
    (body : ∀ (p : Program) (e : Env) (s0 s : State) (m : MethodId) (below : List Frame) (meth : Method) (c : Code) (s₁ : State) (cell : Cell), p.tables.exec = Jvm.exec → Z.Warmed39 s.vm → c.code = bytes → c.maxLocals = maxL → s.vm.findClass y.cls = some m.cls → meth.name = y.name → meth.sig.returnType = ret → meth.locks = true →
      s = s0.setCell a (cell.withEntry s0.cur) → s0.heap[a]? = some cell → cell.monitor = {} → Stand p l e rm s m as below meth c s₁ [] 0 0 → Mon h0 s₁.heap → Keep h0 s₁.heap [a] → Go p e below (EndQ s0 Q rm.cells rm.slots) (s₁.setTop (entryFrameSync m as maxL a))) :
    CtrS l y bytes maxL ret rm as Z h0 Q := by
  obtain ⟨cl, u1, u2, u3⟩ := N
  have hent : ∀ t, cl.enterable t := fun t => by rw [Cell.enterable, u3]; simp
  refine MetFree.of_bodySync hpl (hisS (List.mem_cons_self ..)) (fun _ s _ ⟨h1, _, h2⟩ => ⟨a, cl, by rw [h1]; exact has, by rw [h2]; exact u1, hent _⟩) ?_
  intro p e s0 m args below meth c a' cell s₁ Bd hml hP _
  obtain ⟨rfl, hZ, hh⟩ := hP
  cases has.symm.trans Bd.receiver
  subst hh
  cases u1.symm.trans Bd.object
  exact body p e s0 (s0.setCell a (cl.withEntry s0.cur)) m below meth c s₁ cl Bd.exec hZ Bd.bytes hml (findClass_of_methodNamed Bd.named) (name_of_methodNamed Bd.named Bd.method).1 Bd.returns Bd.synchronized rfl u1 u3 (Stand.of_bodySync Bd) (by rw [Bd.state]; exact mon_set u1 _) (by rw [Bd.state]; exact keepSet u1 rfl rfl rfl)
theorem goRetS {v : Option Value} {ce sl : Nat} {Q : Option Value → Heap → List Loc → Prop} {S : State} {h : Heap} {a : Addr} {cell : Cell} (X : Stand p l e R s m args below meth c T locs cells slots) (hs : s = s0.setCell a (cell.withEntry s0.cur)) (hc : s0.heap[a]? = some cell) (hm : cell.monitor = {}) (hlk : meth.locks = true) (hv : meth.sig.returnType = none → v = none) (eT : T.heap = h)
    (step : ∀ V, (∀ (f : JFrame) (acts : List Action), f.method = m → f.locked = some a → f.entered = [] → (doReturn e (T.setTop f) acts v).1 = V) → Steps p.tables e below S V)
    (hce : cells ≤ ce) (hsl : slots ≤ sl) (hQ : ∀ h', Mon h h' → Keep h h' [a] → (∀ c' : Cell, h'[a]? = some c' → c'.monitor = {}) → Q v h' locs) : Go p e below (EndQ s0 Q ce sl) S := by
  subst hs eT
  have ho : cell.enterable s0.cur := by rw [Cell.enterable, hm]; simp
  obtain ⟨fs, cT, hcT, hr, hrun, hend, h1, h2⟩ := X.leaveSync hc ho hlk hv
  obtain ⟨DT, w1, w2, -⟩ := X.cellAt (State.heap_setCell_self (x := cell.withEntry s0.cur) hc)
  cases hcT.symm.trans w1
  have hmo : cT.left.monitor = cell.monitor := by
    have := congrArg Cell.monitor (Cell.left_withEntry' ho)
    unfold Cell.left at this ⊢; rw [w2]; split <;> rename_i q <;> simp only [q, if_true, if_false] at this <;> exact this
  refine ⟨_, _, step _ hr, hrun, hend, v, locs, rfl, hQ _ ?_ ?_ ?_, ⟨_, rfl⟩, h1, h2.mono hce hsl⟩
  · show Mon T.heap (T.heap.setIfInBounds a cT.left)
    unfold Cell.left
    split <;> exact mon_set hcT _
  · exact keepSet hcT (left_same cT).1 (left_same cT).2.1 (by rw [(left_same cT).2.2])
  · intro c' hc'
    have e1 : (T.heap.setIfInBounds a cT.left)[a]? = some cT.left := by simp [(Array.getElem?_eq_some_iff.mp hcT).1]
    cases e1.symm.trans hc'
    rw [hmo, hm]
theorem backOfSync {y : MethodName} {bytes : ByteArray} {maxL : Nat} {ret : Option FieldType} {rm : Room} {len W : Nat} {as' : Array Value} {h : Heap} {Q : Option Value → Heap → List Loc → Prop} (hM : CtrS l y bytes maxL ret rm as' Z h Q)
    (hZ : Z.Warmed39 s.vm) (wc : (Jvm.Cond.codeSync y bytes maxL ret).before a0 Z = true) (wi : (Jvm.Cond.instanceMethod y).before a0 Z = true) (wz : (Jvm.Cond.initialized y.cls).before a0 Z = true) (hf : rm.frames + 1 ≤ R.frames) (hl : W + (maxL + 11) + rm.locals ≤ R.locals) :
    Back l R p e below s args y len W (fun A a => a = as' ∧ A.U.heap = h ∧ A.cells + rm.cells ≤ R.cells ∧ A.slots + rm.slots ≤ R.slots)
      (fun A _ v B => ∃ L, Q v B.U.heap L ∧ B.locs = A.locs ++ L ∧ B.cells = A.cells + rm.cells ∧ B.slots = A.slots + rm.slots) :=
  Jvm.Free.XT.back_of_sync (bytes := bytes) (maxL := maxL) (ret := ret) (E := fun _ _ o t L k n => k = rm.cells ∧ n = rm.slots ∧ ∃ v, o = .returned v ∧ Q v t.heap L) hM hf hl
    (fun m meth c A as Y hp => have hU : Z.Warmed39 A.U.vm := wtrans hZ Y.warmed
      ⟨by show (Jvm.Cond.and _ (Jvm.Cond.and _ .tt)).before as A.U = true; rw [Cond.before_and, Cond.before_and, mv hU wc, mv hU wi]; rfl, mv hU wc, mv hU wz, hp.2.2.1, hp.2.2.2⟩)
    (fun m meth c A as g mk Y hp => ⟨hp.1, wtrans hZ Y.warmed, hp.2.1⟩) (fun _ _ _ _ _ _ _ _ _ => trivial)
    (fun _ _ _ _ ⟨v, L, h1, h2, h3⟩ => ⟨L, _, _, h3, rfl, rfl, v, h1, h2⟩)
    (fun m meth c A as g mk v t L k n Y hp _ _ ⟨e1, e2, v', e3, e4⟩ => by cases e3; subst e1 e2; exact ⟨L, e4, rfl, rfl, rfl⟩)
theorem goVirtS (X : Stand p l e R s m args below meth c T locs cells slots) (hx : p.tables.exec = Jvm.exec) (hZ : Z.Warmed39 s.vm) {own C : String} {index : Nat} {y z : MethodName} {bytes : ByteArray} {maxL : Nat} {ret : Option FieldType} (hown : s.vm.findClass own = some m.cls)
    (w1 : (Jvm.Cond.methodLink own index y).before a0 Z = true) (w2 : (Jvm.Cond.declares y).before a0 Z = true) (hnf : NotFace s y) (w5 : (Jvm.Cond.selects C y z).before a0 Z = true) (w6 : (Jvm.Cond.instanceMethod z).before a0 Z = true) (w3 : (Jvm.Cond.initialized z.cls).before a0 Z = true) (w4 : (Jvm.Cond.codeSync z bytes maxL ret).before a0 Z = true) (hy : y.cls ≠ "java/lang/invoke/MethodHandle" ∧ y.cls ≠ "java/lang/invoke/VarHandle")
    {h : Heap} {rm : Room} {a : Addr} {argsL rest : List Value} {Q : Option Value → Heap → List Loc → Prop} (eT : T.heap = h) (E : Exa Z h a C) (hC : CtrS l z bytes maxL ret rm (.ref a :: argsL).toArray Z h Q) (W : Nat) (hf : rm.frames + 1 ≤ R.frames) (hl : W + (maxL + 11) + rm.locals ≤ R.locals) (hcl : cells + rm.cells ≤ R.cells) (hsl : slots + rm.slots ≤ R.slots)
    (g : JFrame) (hg : g.method = m) (hsize : g.locals.size = c.maxLocals) (hlen : ∀ sig, parseMethodDescriptor y.desc = some sig → argsL.length = sig.parameters.length) (hst : g.stack = argsL.reverse ++ .ref a :: rest) (hd : decode c.code g.pc = .ok (.invokevirtual index, 3))
    (hW : 2 * g.monitorRoom + (rest.map fun v => v.category).sum ≤ W)
    (next : ∀ (v : Option Value) (T' : State) (L : List Loc), Stand p l e R s m args below meth c T' (locs ++ L) (cells + rm.cells) (slots + rm.slots) → Q v T'.heap L → Go p e below K (T'.setTop { g with pc := g.pc + 3, stack := v.toList ++ rest })) :
    Go p e below K (T.setTop g) := by
  subst eT
  obtain ⟨cq, kq, qa, qb, qc⟩ := isOf (T := T) hZ rfl E
  obtain ⟨v, _, ⟨T', L', k', n'⟩, -, X', ⟨L, hQ, l1, y1, z1⟩, stp⟩ := X.virtualBack hx hown (mvT hZ w1) (mvT hZ w2) hnf (mvT hZ w5) (mvT hZ w6) hy (backOfSync (W := W) hC hZ w4 w6 w3 hf hl) qa qc (g := g) hg hsize (Steps.refl _) hlen hst hW hd (fun _ _ => ⟨rfl, rfl, hcl, hsl⟩)
  dsimp only [Pt.U, Pt.locs, Pt.cells, Pt.slots] at X' l1 y1 z1 stp hQ
  subst l1 y1 z1
  exact Go.tr stp (next v T' L X' hQ)
theorem untKeep {h h' : Heap} {a : Addr} {ws : List Addr} (N : Unt h a) (K : Keep h h' ws) (q : a ∉ ws) : Unt h' a := by obtain ⟨cl, u1, r⟩ := N; exact ⟨cl, K.2.1 _ _ u1 q, r⟩
theorem untEnd {h h' : Heap} {a : Addr} {ws : List Addr} (N : Unt h a) (K : Keep h h' ws) (hm : ∀ c' : Cell, h'[a]? = some c' → c'.monitor = {}) : Unt h' a := by
  obtain ⟨cl, u1, u2, u3⟩ := N
  obtain ⟨c', q1, -, q3, -⟩ := K.2.2 _ _ u1
  exact ⟨c', q1, by rw [q3, u2], hm _ q1⟩
end OwnSync
theorem ownBxI {Z : State} {wc : Addr} {cl : Cell} {K : String} {q : Int32} (BX : Bxs Z wc cl K "I" 256 (fun j => .int (j - 128))) (h1 : ¬ q < (-128 : Int32)) (h2 : ¬ (127 : Int32) < q) :
    ¬ (q + (128 : Int32) < 0 ∨ cl.slots.size ≤ (q + (128 : Int32)).toNatClampNeg) ∧ ∃ r, cl.slots[(q + (128 : Int32)).toNatClampNeg]? = some (.ref r) ∧ Exa Z Z.heap r K ∧ Fld Z Z.heap r K "value" "I" (.int q) := by
  rw [Int32.lt_iff_toInt_lt, show (-128 : Int32).toInt = -128 from rfl] at h1
  rw [Int32.lt_iff_toInt_lt, show (127 : Int32).toInt = 127 from rfl] at h2
  have e1 : (q + (128 : Int32)).toInt = q.toInt + 128 := by
    rw [Int32.toInt_add, show (128 : Int32).toInt = 128 from rfl]; exact Int.bmod_eq_of_le (by omega) (by omega)
  have hin : ¬ (q + (128 : Int32) < 0 ∨ cl.slots.size ≤ (q + (128 : Int32)).toNatClampNeg) := by
    refine inb_of BX.2.1 ⟨?_, ?_⟩
    · rw [Int32.lt_iff_toInt_lt, e1, show (0 : Int32).toInt = 0 from rfl]; omega
    · rw [Int32.lt_iff_toInt_lt, e1, show (256 : Int32).toInt = 256 from rfl]; omega
  obtain ⟨r, r1, r2, r3⟩ := BX.2.2.2 _ hin
  refine ⟨hin, r, r1, r2, ?_⟩
  have e2 : q + 128 - 128 = q := by
    apply Int32.toInt_inj.mp
    rw [Int32.toInt_sub, e1, show (128 : Int32).toInt = 128 from rfl]
    rw [Int.bmod_eq_of_le (by omega) (by omega)]; omega
  simpa only [e2] using r3
theorem own_and3 (y : Int32) : y &&& (3 : Int32) = (0 : Int32) ∨ y &&& (3 : Int32) = (1 : Int32) ∨ y &&& (3 : Int32) = (2 : Int32) ∨ y &&& (3 : Int32) = (3 : Int32) := by
  have h1 := c_mask y 3 2 (by decide) (by decide)
  generalize y &&& (3 : Int32) = z at h1
  have h3 : z.toInt = 0 ∨ z.toInt = 1 ∨ z.toInt = 2 ∨ z.toInt = 3 := by omega
  rcases h3 with h | h | h | h
  · exact Or.inl (Int32.toInt_inj.mp h)
  · exact Or.inr (Or.inl (Int32.toInt_inj.mp h))
  · exact Or.inr (Or.inr (Or.inl (Int32.toInt_inj.mp h)))
  · exact Or.inr (Or.inr (Or.inr (Int32.toInt_inj.mp h)))
def own_ob (Z : State) (h : Heap) (a : Addr) (cb : Value) (z eb : Int32) (en oc : Value) : Prop := Exa Z h a "com/example/sidelane/sidelane/Cancellation" ∧ Unt h a ∧ Fld Z h a "com/example/sidelane/sidelane/Cancellation" "claimedBy" "Lcom/example/sidelane/sidelane/Cancellation$Claimant;" cb ∧ Fld Z h a "com/example/sidelane/sidelane/Cancellation" "cancelled" "Z" (.int z) ∧ Fld Z h a "com/example/sidelane/sidelane/Cancellation" "endingBegun" "Z" (.int eb) ∧ Fld Z h a "com/example/sidelane/sidelane/Cancellation" "queued" "Z" (.int 0) ∧ Fld Z h a "com/example/sidelane/sidelane/Cancellation" "runner" "Ljava/lang/Thread;" .null ∧ Fld Z h a "com/example/sidelane/sidelane/Cancellation" "cancelEnding" "Ljava/lang/Object;" en ∧ Fld Z h a "com/example/sidelane/sidelane/Cancellation" "cancelOutcome" "Lcom/example/sidelane/sidelane/Cancellation$Outcome;" oc
def own_inv (Z : State) (h : Heap) (a : Addr) (s : Int32) (w_EXECUTE w_ADOPTER : Addr) : Prop := ∃ (cb en oc : Value) (z : Int32), own_ob Z h a cb z 0 en oc ∧ ((s = 0 ∧ cb = .null ∧ z = 0) ∨ (s = 1 ∧ cb = .ref w_EXECUTE ∧ z = 0) ∨ (s = 2 ∧ cb = .ref w_ADOPTER ∧ z = 0) ∨ (s = 4 ∧ cb = .null ∧ z = 1 ∧ (en = .null ∨ ∃ r, en = .ref r) ∧ ∃ r, oc = .ref r) ∨ (s = 5 ∧ cb = .ref w_EXECUTE ∧ z = 1 ∧ (en = .null ∨ ∃ r, en = .ref r) ∧ ∃ r, oc = .ref r))

theorem pd_0 : parseMethodDescriptor "()V" = some ⟨[], none⟩ := by decide +kernel
theorem pd_1 : parseMethodDescriptor "(I)V" = some ⟨[.int], none⟩ := by decide +kernel
theorem pd_2 : parseMethodDescriptor "()Z" = some ⟨[], some .boolean⟩ := by decide +kernel
theorem pd_3 : parseMethodDescriptor "(Lcom/example/sidelane/sidelane/Cancellation$Claimant;)Z" = some ⟨[(.object "com/example/sidelane/sidelane/Cancellation$Claimant")], some .boolean⟩ := by decide +kernel
theorem pd_4 : parseMethodDescriptor "(ZLjava/lang/Object;)Lcom/example/sidelane/sidelane/Cancellation$Outcome;" = some ⟨[.boolean, (.object "java/lang/Object")], some (.object "com/example/sidelane/sidelane/Cancellation$Outcome")⟩ := by decide +kernel
theorem pd_5 : parseMethodDescriptor "(I)Ljava/lang/Integer;" = some ⟨[.int], some (.object "java/lang/Integer")⟩ := by decide +kernel
theorem pd_6 : parseMethodDescriptor "(Lcom/example/sidelane/sidelane/Cancellation;II)I" = some ⟨[(.object "com/example/sidelane/sidelane/Cancellation"), .int, .int], some .int⟩ := by decide +kernel
theorem d9_0 : decode jdk_18_method_1_code 0 = .ok (.aload_n 0, 1) := by decide +kernel
theorem d9_1 : decode jdk_18_method_1_code 1 = .ok (.invokespecial 1, 3) := by decide +kernel
theorem d9_4 : decode jdk_18_method_1_code 4 = .ok (.return_, 1) := by decide +kernel
theorem pn_9 : plainName "java/lang/Number" = true := by first | (simp [plainName, overriddenIn]; done) | decide +kernel
set_option maxRecDepth 65536 in
set_option maxHeartbeats 40000000 in
theorem rmNum (l : Launch) (Z : State) (a0 : Array Value) (hw : ∀ d ∈ tables_1, d.before a0 Z = true) (ws : List Jvm.Cond) (a1 : Addr) (h0 : Heap) (n0 : Nat) (O0 : Old Z n0 h0) :
    Ctr l (⟨"java/lang/Number", "<init>", "()V"⟩ : MethodName) jdk_18_method_1_code 1 none ws ({ frames := 1, cells := 0, slots := 0, locals := 12 } : Room) #[(.ref a1)] Z h0 (fun v h L => v = none ∧ Fr n0 L ∧ h = h0) := by
  have ef : ∀ m : MethodId, entryFrame m #[(.ref a1)] 1 = mkF m 0 #[.val (.ref a1)] [] := fun m => by first | (simp [entryFrame, mkF, argsToLocals, Value.category]; done) | rfl
  refine Ctr.of (plainFor_of_name pn_9) ?_
  intro p e s m below meth c s₁ hx hZ hby hml hown0 hnm hret hlk X0 e0
  have hown : s.vm.findClass "java/lang/Number" = some m.cls := hown0
  have N0 := Fr.nil n0
  refine Go.st (fun t k => castTop (ef m) k) ?_
  show Go p e below _ (s₁.setTop (mkF m 0 #[.val (.ref a1)] []))
  refine Go.st (fun _ => XS.aloadN X0.here hx rfl (hb hby d9_0) rfl rfl) ?_
  show Go p e below _ (s₁.setTop (mkF m 1 #[.val (.ref a1)] [(.ref a1)]))
  obtain ⟨T1, X1, e1, st1⟩ := initO X0 hx hZ hown (hw _ (List.mem_of_getElem? (i := 74) rfl)) (hw _ (List.mem_of_getElem? (i := 7) rfl)) (hw _ (List.mem_of_getElem? (i := 8) rfl)) e0 (g := (mkF m 1 #[.val (.ref a1)] [(.ref a1)])) rfl (by rw [hml]; rfl) rfl (hb hby d9_1) (by decide) (W := 0) (by show 2 * 0 + _ ≤ _; exact Nat.le_of_eq rfl) (by decide)
  refine Go.st st1 ?_
  show Go p e below _ (T1.setTop (mkF m 4 #[.val (.ref a1)] []))
  exact goRetV X1 hx hlk hret e1 (hb hby d9_4) (by decide) (by decide) ⟨rfl, N0, rfl⟩
theorem d8_0 : decode jdk_33_method_23_code 0 = .ok (.aload_n 0, 1) := by decide +kernel
theorem d8_1 : decode jdk_33_method_23_code 1 = .ok (.invokespecial 202, 3) := by decide +kernel
theorem d8_4 : decode jdk_33_method_23_code 4 = .ok (.aload_n 0, 1) := by decide +kernel
theorem d8_5 : decode jdk_33_method_23_code 5 = .ok (.iload_n 1, 1) := by decide +kernel
theorem d8_6 : decode jdk_33_method_23_code 6 = .ok (.putfield 205, 3) := by decide +kernel
theorem d8_9 : decode jdk_33_method_23_code 9 = .ok (.return_, 1) := by decide +kernel
theorem pn_8 : plainName "java/lang/Integer" = true := by first | (simp [plainName, overriddenIn]; done) | decide +kernel
set_option maxRecDepth 65536 in
set_option maxHeartbeats 40000000 in
theorem rmBoxInit (l : Launch) (Z : State) (a0 : Array Value) (hw : ∀ d ∈ tables_1, d.before a0 Z = true) (ws : List Jvm.Cond) (a1 : Addr) (q2 : Int32) (h0 : Heap) (n0 : Nat) (O0 : Old Z n0 h0) (A1 : Exa Z h0 a1 "java/lang/Integer") (F1 : Fld Z h0 a1 "java/lang/Integer" "value" "I" (.int (0 : Int32))) (g1 : n0 ≤ a1) :
    Ctr l (⟨"java/lang/Integer", "<init>", "(I)V"⟩ : MethodName) jdk_33_method_23_code 2 none ws ({ frames := 2, cells := 0, slots := 0, locals := 24 } : Room) #[(.ref a1), (.int q2)] Z h0 (fun v h L => v = none ∧ Fr n0 L ∧ Keep h0 h [a1] ∧ Fld Z h a1 "java/lang/Integer" "value" "I" (.int q2)) := by
  have ef : ∀ m : MethodId, entryFrame m #[(.ref a1), (.int q2)] 2 = mkF m 0 #[.val (.ref a1), .val (.int q2)] [] := fun m => by first | (simp [entryFrame, mkF, argsToLocals, Value.category]; done) | rfl
  refine Ctr.of (plainFor_of_name pn_8) ?_
  intro p e s m below meth c s₁ hx hZ hby hml hown0 hnm hret hlk X0 e0
  have hown : s.vm.findClass "java/lang/Integer" = some m.cls := hown0
  have N0 := Fr.nil n0
  refine Go.st (fun t k => castTop (ef m) k) ?_
  show Go p e below _ (s₁.setTop (mkF m 0 #[.val (.ref a1), .val (.int q2)] []))
  refine Go.st (fun _ => XS.aloadN X0.here hx rfl (hb hby d8_0) rfl rfl) ?_
  show Go p e below _ (s₁.setTop (mkF m 1 #[.val (.ref a1), .val (.int q2)] [(.ref a1)]))
  refine goInit X0 hx hZ (y := (⟨"java/lang/Number", "<init>", "()V"⟩ : MethodName)) rfl hown (hw _ (List.mem_of_getElem? (i := 68) rfl)) (hw _ (List.mem_of_getElem? (i := 69) rfl)) (hw _ (List.mem_of_getElem? (i := 72) rfl)) (hw _ (List.mem_of_getElem? (i := 73) rfl)) (by decide) (a := a1) (argsL := []) (rest := []) e0 (rmNum l Z a0 hw [] a1 h0 n0 O0) 0 (by decide) (by decide) (by decide) (by decide) (mkF m 1 #[.val (.ref a1), .val (.int q2)] [(.ref a1)]) rfl (by rw [hml]; rfl) (lenOf pd_0 rfl) rfl (hb hby d8_1) (Nat.le_of_eq rfl) ?_
  intro v1 T1 L1 X1 hQ1
  obtain ⟨rfl, M1, e1⟩ := hQ1
  have N1 := Fr.app N0 M1
  show Go p e below _ (T1.setTop (mkF m 4 #[.val (.ref a1), .val (.int q2)] []))
  refine Go.st (fun _ => XS.aloadN X1.here hx rfl (hb hby d8_4) rfl rfl) ?_
  show Go p e below _ (T1.setTop (mkF m 5 #[.val (.ref a1), .val (.int q2)] [(.ref a1)]))
  refine Go.st (fun _ => XS.iloadN X1.here hx rfl (hb hby d8_5) rfl) ?_
  show Go p e below _ (T1.setTop (mkF m 6 #[.val (.ref a1), .val (.int q2)] [(.int q2), (.ref a1)]))
  obtain ⟨T2, h2, X2, e2, W2, st2⟩ := putF X1 hx hZ hown (host := "") (Or.inl (hw _ (List.mem_of_getElem? (i := 75) rfl))) Via.refl e1 F1 A1 (Or.inr ⟨(hw _ (List.mem_of_getElem? (i := 76) rfl)), rfl, hnm⟩) (hw _ (List.mem_of_getElem? (i := 63) rfl)) (ty := .int) (by decide) rfl rfl (g := (mkF m 6 #[.val (.ref a1), .val (.int q2)] [(.int q2), (.ref a1)])) rfl rfl (hb hby d8_6)
  refine Go.st st2 ?_
  have O3 : Old Z n0 h2 := O0.wr W2 g1
  have E_4 : Exa Z h2 a1 "java/lang/Integer" := A1.wr W2
  have K5 : Keep h0 h2 [a1] := (Keep.refl h0 [a1]).wr W2 (Or.inl (List.mem_of_getElem? (i := 0) rfl))
  have F6 : Fld Z h2 a1 "java/lang/Integer" "value" "I" (.int q2) := F1.same W2
  have N2 := Fr.snoc X2 N1 g1
  show Go p e below _ (T2.setTop (mkF m 9 #[.val (.ref a1), .val (.int q2)] []))
  exact goRetV X2 hx hlk hret e2 (hb hby d8_9) (by decide) (by decide) ⟨rfl, N2, K5, F6⟩
theorem d6_0 : decode jdk_33_method_22_code 0 = .ok (.iload_n 0, 1) := by decide +kernel
theorem d6_1 : decode jdk_33_method_22_code 1 = .ok (.bipush (-128), 2) := by decide +kernel
theorem d6_3 : decode jdk_33_method_22_code 3 = .ok (.if_icmp .lt 20, 3) := by decide +kernel
theorem d6_6 : decode jdk_33_method_22_code 6 = .ok (.iload_n 0, 1) := by decide +kernel
theorem d6_7 : decode jdk_33_method_22_code 7 = .ok (.getstatic 191, 3) := by decide +kernel
theorem d6_10 : decode jdk_33_method_22_code 10 = .ok (.if_icmp .gt 13, 3) := by decide +kernel
theorem d6_13 : decode jdk_33_method_22_code 13 = .ok (.getstatic 195, 3) := by decide +kernel
theorem d6_16 : decode jdk_33_method_22_code 16 = .ok (.iload_n 0, 1) := by decide +kernel
theorem d6_17 : decode jdk_33_method_22_code 17 = .ok (.sipush 128, 3) := by decide +kernel
theorem d6_20 : decode jdk_33_method_22_code 20 = .ok (.iadd, 1) := by decide +kernel
theorem d6_21 : decode jdk_33_method_22_code 21 = .ok (.aaload, 1) := by decide +kernel
theorem d6_22 : decode jdk_33_method_22_code 22 = .ok (.areturn, 1) := by decide +kernel
theorem d6_23 : decode jdk_33_method_22_code 23 = .ok (.new 1, 3) := by decide +kernel
theorem d6_26 : decode jdk_33_method_22_code 26 = .ok (.dup, 1) := by decide +kernel
theorem d6_27 : decode jdk_33_method_22_code 27 = .ok (.iload_n 0, 1) := by decide +kernel
theorem d6_28 : decode jdk_33_method_22_code 28 = .ok (.invokespecial 199, 3) := by decide +kernel
theorem d6_31 : decode jdk_33_method_22_code 31 = .ok (.areturn, 1) := by decide +kernel
theorem pn_6 : plainName "java/lang/Integer" = true := by first | (simp [plainName, overriddenIn]; done) | decide +kernel
set_option maxRecDepth 65536 in
set_option maxHeartbeats 40000000 in
theorem rmBox (l : Launch) (Z : State) (a0 : Array Value) (hw : ∀ d ∈ tables_1, d.before a0 Z = true) (ws : List Jvm.Cond) (q1 : Int32) (wc : Addr) (cl : Cell) (h0 : Heap) (n0 : Nat) (O0 : Old Z n0 h0) (S_cache : Sta Z Z.heap "java/lang/Integer$IntegerCache" "cache" "[Ljava/lang/Integer;" (.ref wc)) (S_high : Sta Z Z.heap "java/lang/Integer$IntegerCache" "high" "I" (.int (127 : Int32))) (BX : Bxs Z wc cl "java/lang/Integer" "I" 256 (fun j => (.int (j - 128)))) :
    Ctr l (⟨"java/lang/Integer", "valueOf", "(I)Ljava/lang/Integer;"⟩ : MethodName) jdk_33_method_22_code 1 (some (.object "java/lang/Integer")) ws ({ frames := 3, cells := 1, slots := 1, locals := 39 } : Room) #[(.int q1)] Z h0 (fun v h L => (∃ r, v = some (.ref r) ∧ Exa Z h r "java/lang/Integer" ∧ Fld Z h r "java/lang/Integer" "value" "I" (.int q1)) ∧ Fr n0 L ∧ Keep h0 h []) := by
  have ef : ∀ m : MethodId, entryFrame m #[(.int q1)] 1 = mkF m 0 #[.val (.int q1)] [] := fun m => by first | (simp [entryFrame, mkF, argsToLocals, Value.category]; done) | rfl
  refine Ctr.of (plainFor_of_name pn_6) ?_
  intro p e s m below meth c s₁ hx hZ hby hml hown0 hnm hret hlk X0 e0
  have hown : s.vm.findClass "java/lang/Integer" = some m.cls := hown0
  have N0 := Fr.nil n0
  refine Go.st (fun t k => castTop (ef m) k) ?_
  show Go p e below _ (s₁.setTop (mkF m 0 #[.val (.int q1)] []))
  refine Go.st (fun _ => XS.iloadN X0.here hx rfl (hb hby d6_0) rfl) ?_
  show Go p e below _ (s₁.setTop (mkF m 1 #[.val (.int q1)] [(.int q1)]))
  refine Go.st (fun _ => XS.bipush X0.here hx rfl (hb hby d6_1)) ?_
  show Go p e below _ (s₁.setTop (mkF m 3 #[.val (.int q1)] [(.int (-128 : Int32)), (.int q1)]))
  by_cases hc1 : q1 < (-128 : Int32)
  · refine Go.st (fun _ => XS.icmpYes X0.here hx rfl (pc0 := 3) (pc' := 23) rfl (hb hby d6_3) rfl (tlt hc1).1 (by decide) (by decide)) ?_
    show Go p e below _ (s₁.setTop (mkF m 23 #[.val (.int q1)] []))
    obtain ⟨T2, h2, X2, e2, E2, A2, D2, U2, st2⟩ := newO X0 hx hZ hown (hw _ (List.mem_of_getElem? (i := 62) rfl)) (hw _ (List.mem_of_getElem? (i := 63) rfl)) (hw _ (List.mem_of_getElem? (i := 33) rfl)) e0 (g := (mkF m 23 #[.val (.int q1)] [])) rfl (hb hby d6_23) (by decide) (by decide)
    obtain ⟨b2, g2⟩ : ∃ z, z = h0.size := ⟨_, rfl⟩
    rw [← g2] at A2 D2 U2 st2
    refine Go.st st2 ?_
    have gn2 : n0 ≤ b2 := oldGe O0 g2
    have sz2 : h0.size ≤ b2 := Nat.le_trans (Keep.refl h0 []).1 (Nat.le_of_eq g2.symm)
    have O3 : Old Z n0 h2 := O0.ext E2
    have K4 : Keep h0 h2 [] := (Keep.refl h0 []).ext E2
    have F5 : Fld Z h2 b2 "java/lang/Integer" "value" "I" (.int (0 : Int32)) := D2 (Or.inr (hw _ (List.mem_of_getElem? (i := 76) rfl))) (ty := .int) (by decide)
    show Go p e below _ (T2.setTop (mkF m 26 #[.val (.int q1)] [(.ref b2)]))
    refine Go.st (fun _ => XS.dup X2.here hx rfl (hb hby d6_26) rfl rfl) ?_
    show Go p e below _ (T2.setTop (mkF m 27 #[.val (.int q1)] [(.ref b2), (.ref b2)]))
    refine Go.st (fun _ => XS.iloadN X2.here hx rfl (hb hby d6_27) rfl) ?_
    show Go p e below _ (T2.setTop (mkF m 28 #[.val (.int q1)] [(.int q1), (.ref b2), (.ref b2)]))
    refine goInit X2 hx hZ (y := (⟨"java/lang/Integer", "<init>", "(I)V"⟩ : MethodName)) rfl hown (hw _ (List.mem_of_getElem? (i := 64) rfl)) (hw _ (List.mem_of_getElem? (i := 65) rfl)) (hw _ (List.mem_of_getElem? (i := 33) rfl)) (hw _ (List.mem_of_getElem? (i := 67) rfl)) (by decide) (a := b2) (argsL := [(.int q1)]) (rest := [(.ref b2)]) e2 (rmBoxInit l Z a0 hw [] b2 q1 h2 n0 O3 A2 F5 gn2) 1 (by decide) (by decide) (by decide) (by decide) (mkF m 28 #[.val (.int q1)] [(.int q1), (.ref b2), (.ref b2)]) rfl (by rw [hml]; rfl) (lenOf pd_1 rfl) rfl (hb hby d6_28) (Nat.le_of_eq rfl) ?_
    intro v6 T6 L6 X6 hQ6
    obtain ⟨rfl, M6, K6, G6⟩ := hQ6
    have N6 := Fr.app N0 M6
    have O7 : Old Z n0 T6.heap := O3.keep K6 (allS gn2 all0)
    have K8 : Keep h0 T6.heap [] := K4.trans K6 (allS (Or.inr sz2) all0)
    have E_9 : Exa Z T6.heap b2 "java/lang/Integer" := A2.keep K6
    show Go p e below _ (T6.setTop (mkF m 31 #[.val (.int q1)] [(.ref b2)]))
    exact goRetA X6 hx hlk hret rfl rfl rfl rfl (hb hby d6_31) (by decide) (by decide) ⟨⟨b2, rfl, E_9, G6⟩, N6, K8⟩
  · refine Go.st (fun _ => XS.icmpNo X0.here hx rfl (hb hby d6_3) rfl (flt hc1).1) ?_
    show Go p e below _ (s₁.setTop (mkF m 6 #[.val (.int q1)] []))
    refine Go.st (fun _ => XS.iloadN X0.here hx rfl (hb hby d6_6) rfl) ?_
    show Go p e below _ (s₁.setTop (mkF m 7 #[.val (.int q1)] [(.int q1)]))
    obtain ⟨T10, X10, e10, st10⟩ := getS2 X0 hx hZ hown (host := "") (Or.inl (hw _ (List.mem_of_getElem? (i := 35) rfl))) Via.refl e0 (oldSta O0 S_high) (g := (mkF m 7 #[.val (.int q1)] [(.int q1)])) rfl (hb hby d6_7)
    refine Go.st st10 ?_
    show Go p e below _ (T10.setTop (mkF m 10 #[.val (.int q1)] [(.int (127 : Int32)), (.int q1)]))
    by_cases hc11 : (127 : Int32) < q1
    · refine Go.st (fun _ => XS.icmpYes X10.here hx rfl (pc0 := 10) (pc' := 23) rfl (hb hby d6_10) rfl (tlt hc11).2.2.1 (by decide) (by decide)) ?_
      show Go p e below _ (T10.setTop (mkF m 23 #[.val (.int q1)] []))
      obtain ⟨T12, h12, X12, e12, E12, A12, D12, U12, st12⟩ := newO X10 hx hZ hown (hw _ (List.mem_of_getElem? (i := 62) rfl)) (hw _ (List.mem_of_getElem? (i := 63) rfl)) (hw _ (List.mem_of_getElem? (i := 33) rfl)) e10 (g := (mkF m 23 #[.val (.int q1)] [])) rfl (hb hby d6_23) (by decide) (by decide)
      obtain ⟨b12, g12⟩ : ∃ z, z = h0.size := ⟨_, rfl⟩
      rw [← g12] at A12 D12 U12 st12
      refine Go.st st12 ?_
      have gn12 : n0 ≤ b12 := oldGe O0 g12
      have sz12 : h0.size ≤ b12 := Nat.le_trans (Keep.refl h0 []).1 (Nat.le_of_eq g12.symm)
      have O13 : Old Z n0 h12 := O0.ext E12
      have K14 : Keep h0 h12 [] := (Keep.refl h0 []).ext E12
      have F15 : Fld Z h12 b12 "java/lang/Integer" "value" "I" (.int (0 : Int32)) := D12 (Or.inr (hw _ (List.mem_of_getElem? (i := 76) rfl))) (ty := .int) (by decide)
      show Go p e below _ (T12.setTop (mkF m 26 #[.val (.int q1)] [(.ref b12)]))
      refine Go.st (fun _ => XS.dup X12.here hx rfl (hb hby d6_26) rfl rfl) ?_
      show Go p e below _ (T12.setTop (mkF m 27 #[.val (.int q1)] [(.ref b12), (.ref b12)]))
      refine Go.st (fun _ => XS.iloadN X12.here hx rfl (hb hby d6_27) rfl) ?_
      show Go p e below _ (T12.setTop (mkF m 28 #[.val (.int q1)] [(.int q1), (.ref b12), (.ref b12)]))
      refine goInit X12 hx hZ (y := (⟨"java/lang/Integer", "<init>", "(I)V"⟩ : MethodName)) rfl hown (hw _ (List.mem_of_getElem? (i := 64) rfl)) (hw _ (List.mem_of_getElem? (i := 65) rfl)) (hw _ (List.mem_of_getElem? (i := 33) rfl)) (hw _ (List.mem_of_getElem? (i := 67) rfl)) (by decide) (a := b12) (argsL := [(.int q1)]) (rest := [(.ref b12)]) e12 (rmBoxInit l Z a0 hw [] b12 q1 h12 n0 O13 A12 F15 gn12) 1 (by decide) (by decide) (by decide) (by decide) (mkF m 28 #[.val (.int q1)] [(.int q1), (.ref b12), (.ref b12)]) rfl (by rw [hml]; rfl) (lenOf pd_1 rfl) rfl (hb hby d6_28) (Nat.le_of_eq rfl) ?_
      intro v16 T16 L16 X16 hQ16
      obtain ⟨rfl, M16, K16, G16⟩ := hQ16
      have N16 := Fr.app N0 M16
      have O17 : Old Z n0 T16.heap := O13.keep K16 (allS gn12 all0)
      have K18 : Keep h0 T16.heap [] := K14.trans K16 (allS (Or.inr sz12) all0)
      have E_19 : Exa Z T16.heap b12 "java/lang/Integer" := A12.keep K16
      show Go p e below _ (T16.setTop (mkF m 31 #[.val (.int q1)] [(.ref b12)]))
      exact goRetA X16 hx hlk hret rfl rfl rfl rfl (hb hby d6_31) (by decide) (by decide) ⟨⟨b12, rfl, E_19, G16⟩, N16, K18⟩
    · refine Go.st (fun _ => XS.icmpNo X10.here hx rfl (hb hby d6_10) rfl (flt hc11).2.2.1) ?_
      show Go p e below _ (T10.setTop (mkF m 13 #[.val (.int q1)] []))
      obtain ⟨T20, X20, e20, st20⟩ := getS2 X10 hx hZ hown (host := "") (Or.inl (hw _ (List.mem_of_getElem? (i := 37) rfl))) Via.refl e10 (oldSta O0 S_cache) (g := (mkF m 13 #[.val (.int q1)] [])) rfl (hb hby d6_13)
      refine Go.st st20 ?_
      show Go p e below _ (T20.setTop (mkF m 16 #[.val (.int q1)] [(.ref wc)]))
      refine Go.st (fun _ => XS.iloadN X20.here hx rfl (hb hby d6_16) rfl) ?_
      show Go p e below _ (T20.setTop (mkF m 17 #[.val (.int q1)] [(.int q1), (.ref wc)]))
      refine Go.st (fun _ => XS.sipush X20.here hx rfl (hb hby d6_17)) ?_
      show Go p e below _ (T20.setTop (mkF m 20 #[.val (.int q1)] [(.int (128 : Int32)), (.int q1), (.ref wc)]))
      refine Go.st (fun _ => XS.iadd X20.here hx rfl (hb hby d6_20) rfl) ?_
      show Go p e below _ (T20.setTop (mkF m 21 #[.val (.int q1)] [(.int (q1 + (128 : Int32))), (.ref wc)]))
      obtain ⟨hin, r, hat, Er, Fr0⟩ := ownBxI BX hc1 hc11
      have Er1 := oldExa O0 Er
      have Fr1 := oldFld O0 Fr0
      refine Go.st (fun _ => X20.aaload hx (j := (q1 + (128 : Int32))) (v := .ref r) (by rw [e20]; exact (BX.1.ext O0.2).1) (State.isArrayOf_alike hZ.alike BX.1.2.1) rfl BX.1.2.2 hin hat (g := (mkF m 21 #[.val (.int q1)] [(.int (q1 + (128 : Int32))), (.ref wc)])) rfl rfl (hb hby d6_21) _) ?_
      show Go p e below _ (T20.setTop (mkF m 22 #[.val (.int q1)] [(.ref r)]))
      exact goRetA X20 hx hlk hret rfl rfl rfl e20 (hb hby d6_22) (by decide) (by decide) ⟨⟨r, rfl, Er1, Fr1⟩, N0, (Keep.refl h0 [])⟩
theorem d3_0 : decode prog_3_method_5_code 0 = .ok (.aload_n 0, 1) := by decide +kernel
theorem d3_1 : decode prog_3_method_5_code 1 = .ok (.getfield 7, 3) := by decide +kernel
theorem d3_4 : decode prog_3_method_5_code 4 = .ok (.ifnonnull 10, 3) := by decide +kernel
theorem d3_7 : decode prog_3_method_5_code 7 = .ok (.aload_n 0, 1) := by decide +kernel
theorem d3_8 : decode prog_3_method_5_code 8 = .ok (.getfield 24, 3) := by decide +kernel
theorem d3_11 : decode prog_3_method_5_code 11 = .ok (.ifCond .eq 7, 3) := by decide +kernel
theorem d3_14 : decode prog_3_method_5_code 14 = .ok (.iconst 1, 1) := by decide +kernel
theorem d3_15 : decode prog_3_method_5_code 15 = .ok (.goto 4, 3) := by decide +kernel
theorem d3_18 : decode prog_3_method_5_code 18 = .ok (.iconst 0, 1) := by decide +kernel
theorem d3_19 : decode prog_3_method_5_code 19 = .ok (.ireturn, 1) := by decide +kernel
theorem pn_3 : plainName "com/example/sidelane/sidelane/Cancellation" = true := by first | (simp [plainName, overriddenIn]; done) | decide +kernel
theorem d5_0 : decode prog_3_method_4_code 0 = .ok (.aload_n 0, 1) := by decide +kernel
theorem d5_1 : decode prog_3_method_4_code 1 = .ok (.invokevirtual 68, 3) := by decide +kernel
theorem d5_4 : decode prog_3_method_4_code 4 = .ok (.ifCond .eq 5, 3) := by decide +kernel
theorem d5_7 : decode prog_3_method_4_code 7 = .ok (.iconst 0, 1) := by decide +kernel
theorem d5_8 : decode prog_3_method_4_code 8 = .ok (.ireturn, 1) := by decide +kernel
theorem d5_9 : decode prog_3_method_4_code 9 = .ok (.aload_n 0, 1) := by decide +kernel
theorem d5_10 : decode prog_3_method_4_code 10 = .ok (.aload_n 1, 1) := by decide +kernel
theorem d5_11 : decode prog_3_method_4_code 11 = .ok (.putfield 7, 3) := by decide +kernel
theorem d5_14 : decode prog_3_method_4_code 14 = .ok (.iconst 1, 1) := by decide +kernel
theorem d5_15 : decode prog_3_method_4_code 15 = .ok (.ireturn, 1) := by decide +kernel
theorem pn_5 : plainName "com/example/sidelane/sidelane/Cancellation" = true := by first | (simp [plainName, overriddenIn]; done) | decide +kernel
theorem d7_0 : decode prog_3_method_2_code 0 = .ok (.aload_n 0, 1) := by decide +kernel
theorem d7_1 : decode prog_3_method_2_code 1 = .ok (.getfield 7, 3) := by decide +kernel
theorem d7_4 : decode prog_3_method_2_code 4 = .ok (.getstatic 13, 3) := by decide +kernel
theorem d7_7 : decode prog_3_method_2_code 7 = .ok (.if_acmp .ne 7, 3) := by decide +kernel
theorem d7_10 : decode prog_3_method_2_code 10 = .ok (.getstatic 18, 3) := by decide +kernel
theorem d7_13 : decode prog_3_method_2_code 13 = .ok (.areturn, 1) := by decide +kernel
theorem d7_14 : decode prog_3_method_2_code 14 = .ok (.aload_n 0, 1) := by decide +kernel
theorem d7_15 : decode prog_3_method_2_code 15 = .ok (.getfield 24, 3) := by decide +kernel
theorem d7_18 : decode prog_3_method_2_code 18 = .ok (.ifCond .eq 26, 3) := by decide +kernel
theorem d7_21 : decode prog_3_method_2_code 21 = .ok (.aload_n 2, 1) := by decide +kernel
theorem d7_22 : decode prog_3_method_2_code 22 = .ok (.ifnull 18, 3) := by decide +kernel
theorem d7_25 : decode prog_3_method_2_code 25 = .ok (.aload_n 2, 1) := by decide +kernel
theorem d7_26 : decode prog_3_method_2_code 26 = .ok (.aload_n 0, 1) := by decide +kernel
theorem d7_27 : decode prog_3_method_2_code 27 = .ok (.getfield 28, 3) := by decide +kernel
theorem d7_30 : decode prog_3_method_2_code 30 = .ok (.if_acmp .ne 10, 3) := by decide +kernel
theorem d7_33 : decode prog_3_method_2_code 33 = .ok (.aload_n 0, 1) := by decide +kernel
theorem d7_34 : decode prog_3_method_2_code 34 = .ok (.getfield 32, 3) := by decide +kernel
theorem d7_37 : decode prog_3_method_2_code 37 = .ok (.goto 6, 3) := by decide +kernel
theorem d7_40 : decode prog_3_method_2_code 40 = .ok (.getstatic 35, 3) := by decide +kernel
theorem d7_43 : decode prog_3_method_2_code 43 = .ok (.areturn, 1) := by decide +kernel
theorem d7_44 : decode prog_3_method_2_code 44 = .ok (.aload_n 0, 1) := by decide +kernel
theorem d7_45 : decode prog_3_method_2_code 45 = .ok (.getfield 38, 3) := by decide +kernel
theorem d7_48 : decode prog_3_method_2_code 48 = .ok (.ifCond .eq 7, 3) := by decide +kernel
theorem d7_51 : decode prog_3_method_2_code 51 = .ok (.getstatic 35, 3) := by decide +kernel
theorem d7_54 : decode prog_3_method_2_code 54 = .ok (.areturn, 1) := by decide +kernel
theorem d7_55 : decode prog_3_method_2_code 55 = .ok (.aload_n 0, 1) := by decide +kernel
theorem d7_56 : decode prog_3_method_2_code 56 = .ok (.getfield 7, 3) := by decide +kernel
theorem d7_59 : decode prog_3_method_2_code 59 = .ok (.getstatic 41, 3) := by decide +kernel
theorem d7_62 : decode prog_3_method_2_code 62 = .ok (.if_acmp .ne 7, 3) := by decide +kernel
theorem d7_65 : decode prog_3_method_2_code 65 = .ok (.iconst 1, 1) := by decide +kernel
theorem d7_66 : decode prog_3_method_2_code 66 = .ok (.goto 4, 3) := by decide +kernel
theorem d7_69 : decode prog_3_method_2_code 69 = .ok (.iconst 0, 1) := by decide +kernel
theorem d7_70 : decode prog_3_method_2_code 70 = .ok (.istore_n 3, 1) := by decide +kernel
theorem d7_71 : decode prog_3_method_2_code 71 = .ok (.iload_n 3, 1) := by decide +kernel
theorem d7_72 : decode prog_3_method_2_code 72 = .ok (.ifCond .eq 10, 3) := by decide +kernel
theorem d7_75 : decode prog_3_method_2_code 75 = .ok (.aload_n 0, 1) := by decide +kernel
theorem d7_76 : decode prog_3_method_2_code 76 = .ok (.getfield 44, 3) := by decide +kernel
theorem d7_79 : decode prog_3_method_2_code 79 = .ok (.ifCond .eq 7, 3) := by decide +kernel
theorem d7_82 : decode prog_3_method_2_code 82 = .ok (.iconst 1, 1) := by decide +kernel
theorem d7_83 : decode prog_3_method_2_code 83 = .ok (.goto 4, 3) := by decide +kernel
theorem d7_86 : decode prog_3_method_2_code 86 = .ok (.iconst 0, 1) := by decide +kernel
theorem d7_87 : decode prog_3_method_2_code 87 = .ok (.istore 4, 2) := by decide +kernel
theorem d7_89 : decode prog_3_method_2_code 89 = .ok (.iload 4, 2) := by decide +kernel
theorem d7_91 : decode prog_3_method_2_code 91 = .ok (.ifCond .eq 11, 3) := by decide +kernel
theorem d7_94 : decode prog_3_method_2_code 94 = .ok (.aload_n 2, 1) := by decide +kernel
theorem d7_95 : decode prog_3_method_2_code 95 = .ok (.ifnonnull 7, 3) := by decide +kernel
theorem d7_98 : decode prog_3_method_2_code 98 = .ok (.getstatic 47, 3) := by decide +kernel
theorem d7_101 : decode prog_3_method_2_code 101 = .ok (.areturn, 1) := by decide +kernel
theorem d7_102 : decode prog_3_method_2_code 102 = .ok (.aload_n 0, 1) := by decide +kernel
theorem d7_103 : decode prog_3_method_2_code 103 = .ok (.iconst 1, 1) := by decide +kernel
theorem d7_104 : decode prog_3_method_2_code 104 = .ok (.putfield 24, 3) := by decide +kernel
theorem d7_107 : decode prog_3_method_2_code 107 = .ok (.iload_n 1, 1) := by decide +kernel
theorem d7_108 : decode prog_3_method_2_code 108 = .ok (.ifCond .eq 17, 3) := by decide +kernel
theorem d7_111 : decode prog_3_method_2_code 111 = .ok (.aload_n 0, 1) := by decide +kernel
theorem d7_112 : decode prog_3_method_2_code 112 = .ok (.getfield 50, 3) := by decide +kernel
theorem d7_115 : decode prog_3_method_2_code 115 = .ok (.ifnull 10, 3) := by decide +kernel
theorem d7_118 : decode prog_3_method_2_code 118 = .ok (.aload_n 0, 1) := by decide +kernel
theorem d7_119 : decode prog_3_method_2_code 119 = .ok (.getfield 50, 3) := by decide +kernel
theorem d7_122 : decode prog_3_method_2_code 122 = .ok (.invokevirtual 54, 3) := by decide +kernel
theorem d7_125 : decode prog_3_method_2_code 125 = .ok (.iload_n 3, 1) := by decide +kernel
theorem d7_126 : decode prog_3_method_2_code 126 = .ok (.ifCond .ne 13, 3) := by decide +kernel
theorem d7_129 : decode prog_3_method_2_code 129 = .ok (.aload_n 0, 1) := by decide +kernel
theorem d7_130 : decode prog_3_method_2_code 130 = .ok (.getstatic 59, 3) := by decide +kernel
theorem d7_133 : decode prog_3_method_2_code 133 = .ok (.putfield 32, 3) := by decide +kernel
theorem d7_136 : decode prog_3_method_2_code 136 = .ok (.goto 27, 3) := by decide +kernel
theorem d7_139 : decode prog_3_method_2_code 139 = .ok (.aload_n 0, 1) := by decide +kernel
theorem d7_140 : decode prog_3_method_2_code 140 = .ok (.getfield 44, 3) := by decide +kernel
theorem d7_143 : decode prog_3_method_2_code 143 = .ok (.ifCond .eq 13, 3) := by decide +kernel
theorem d7_146 : decode prog_3_method_2_code 146 = .ok (.aload_n 0, 1) := by decide +kernel
theorem d7_147 : decode prog_3_method_2_code 147 = .ok (.getstatic 62, 3) := by decide +kernel
theorem d7_150 : decode prog_3_method_2_code 150 = .ok (.putfield 32, 3) := by decide +kernel
theorem d7_153 : decode prog_3_method_2_code 153 = .ok (.goto 10, 3) := by decide +kernel
theorem d7_156 : decode prog_3_method_2_code 156 = .ok (.aload_n 0, 1) := by decide +kernel
theorem d7_157 : decode prog_3_method_2_code 157 = .ok (.getstatic 65, 3) := by decide +kernel
theorem d7_160 : decode prog_3_method_2_code 160 = .ok (.putfield 32, 3) := by decide +kernel
theorem d7_163 : decode prog_3_method_2_code 163 = .ok (.aload_n 0, 1) := by decide +kernel
theorem d7_164 : decode prog_3_method_2_code 164 = .ok (.aload_n 2, 1) := by decide +kernel
theorem d7_165 : decode prog_3_method_2_code 165 = .ok (.putfield 28, 3) := by decide +kernel
theorem d7_168 : decode prog_3_method_2_code 168 = .ok (.aload_n 0, 1) := by decide +kernel
theorem d7_169 : decode prog_3_method_2_code 169 = .ok (.getfield 32, 3) := by decide +kernel
theorem d7_172 : decode prog_3_method_2_code 172 = .ok (.areturn, 1) := by decide +kernel
theorem pn_7 : plainName "com/example/sidelane/sidelane/Cancellation" = true := by first | (simp [plainName, overriddenIn]; done) | decide +kernel
set_option maxRecDepth 65536 in
set_option maxHeartbeats 40000000 in
theorem ic00 (l : Launch) (Z : State) (a0 : Array Value) (hw : ∀ d ∈ tables_1, d.before a0 Z = true) (ws : List Jvm.Cond) (a1 : Addr) (h0 : Heap) (n0 : Nat) (O0 : Old Z n0 h0) (F_claimedBy : Fld Z h0 a1 "com/example/sidelane/sidelane/Cancellation" "claimedBy" "Lcom/example/sidelane/sidelane/Cancellation$Claimant;" .null) (F_cancelled : Fld Z h0 a1 "com/example/sidelane/sidelane/Cancellation" "cancelled" "Z" (.int (0 : Int32))) :
    Ctr l (⟨"com/example/sidelane/sidelane/Cancellation", "isClaimed", "()Z"⟩ : MethodName) prog_3_method_5_code 1 (some .boolean) ws ({ frames := 0, cells := 0, slots := 0, locals := 0 } : Room) #[(.ref a1)] Z h0 (fun v h L => v = some (.int 0) ∧ Fr n0 L ∧ h = h0) := by
  have ef : ∀ m : MethodId, entryFrame m #[(.ref a1)] 1 = mkF m 0 #[.val (.ref a1)] [] := fun m => by first | (simp [entryFrame, mkF, argsToLocals, Value.category]; done) | rfl
  refine Ctr.of (plainFor_of_name pn_3) ?_
  intro p e s m below meth c s₁ hx hZ hby hml hown0 hnm hret hlk X0 e0
  have hown : s.vm.findClass "com/example/sidelane/sidelane/Cancellation" = some m.cls := hown0
  have N0 := Fr.nil n0
  refine Go.st (fun t k => castTop (ef m) k) ?_
  show Go p e below _ (s₁.setTop (mkF m 0 #[.val (.ref a1)] []))
  refine Go.st (fun _ => XS.aloadN X0.here hx rfl (hb hby d3_0) rfl rfl) ?_
  show Go p e below _ (s₁.setTop (mkF m 1 #[.val (.ref a1)] [(.ref a1)]))
  obtain ⟨T1, X1, e1, st1⟩ := getF X0 hx hZ hown (host := "") (Or.inl (hw _ (List.mem_of_getElem? (i := 14) rfl))) Via.refl e0 F_claimedBy (g := (mkF m 1 #[.val (.ref a1)] [(.ref a1)])) rfl rfl (hb hby d3_1)
  refine Go.st st1 ?_
  show Go p e below _ (T1.setTop (mkF m 4 #[.val (.ref a1)] [.null]))
  refine Go.st (fun _ => XS.ifnonnullNo X1.here hx rfl (hb hby d3_4) rfl) ?_
  show Go p e below _ (T1.setTop (mkF m 7 #[.val (.ref a1)] []))
  refine Go.st (fun _ => XS.aloadN X1.here hx rfl (hb hby d3_7) rfl rfl) ?_
  show Go p e below _ (T1.setTop (mkF m 8 #[.val (.ref a1)] [(.ref a1)]))
  obtain ⟨T2, X2, e2, st2⟩ := getF X1 hx hZ hown (host := "") (Or.inl (hw _ (List.mem_of_getElem? (i := 16) rfl))) Via.refl e1 F_cancelled (g := (mkF m 8 #[.val (.ref a1)] [(.ref a1)])) rfl rfl (hb hby d3_8)
  refine Go.st st2 ?_
  show Go p e below _ (T2.setTop (mkF m 11 #[.val (.ref a1)] [(.int (0 : Int32))]))
  refine Go.st (fun _ => XS.ifYes X2.here hx rfl (pc0 := 11) (pc' := 18) rfl (hb hby d3_11) rfl ((if0 _ _).trans (teq (by decide : (0 : Int32) = (0 : Int32))).1) (by decide) (by decide)) ?_
  show Go p e below _ (T2.setTop (mkF m 18 #[.val (.ref a1)] []))
  refine Go.st (fun _ => XS.iconst X2.here hx rfl (hb hby d3_18)) ?_
  show Go p e below _ (T2.setTop (mkF m 19 #[.val (.ref a1)] [(.int (0 : Int32))]))
  exact goRetN X2 hx hlk hret (t := .boolean) (by simp) (w := (0 : Int32)) (by decide) e2 (hb hby d3_19) (by decide) (by decide) ⟨rfl, N0, rfl⟩
set_option maxRecDepth 65536 in
set_option maxHeartbeats 40000000 in
theorem ic01 (l : Launch) (Z : State) (a0 : Array Value) (hw : ∀ d ∈ tables_1, d.before a0 Z = true) (ws : List Jvm.Cond) (a1 : Addr) (h0 : Heap) (n0 : Nat) (O0 : Old Z n0 h0) (F_claimedBy : Fld Z h0 a1 "com/example/sidelane/sidelane/Cancellation" "claimedBy" "Lcom/example/sidelane/sidelane/Cancellation$Claimant;" .null) (F_cancelled : Fld Z h0 a1 "com/example/sidelane/sidelane/Cancellation" "cancelled" "Z" (.int (1 : Int32))) :
    Ctr l (⟨"com/example/sidelane/sidelane/Cancellation", "isClaimed", "()Z"⟩ : MethodName) prog_3_method_5_code 1 (some .boolean) ws ({ frames := 0, cells := 0, slots := 0, locals := 0 } : Room) #[(.ref a1)] Z h0 (fun v h L => v = some (.int 1) ∧ Fr n0 L ∧ h = h0) := by
  have ef : ∀ m : MethodId, entryFrame m #[(.ref a1)] 1 = mkF m 0 #[.val (.ref a1)] [] := fun m => by first | (simp [entryFrame, mkF, argsToLocals, Value.category]; done) | rfl
  refine Ctr.of (plainFor_of_name pn_3) ?_
  intro p e s m below meth c s₁ hx hZ hby hml hown0 hnm hret hlk X0 e0
  have hown : s.vm.findClass "com/example/sidelane/sidelane/Cancellation" = some m.cls := hown0
  have N0 := Fr.nil n0
  refine Go.st (fun t k => castTop (ef m) k) ?_
  show Go p e below _ (s₁.setTop (mkF m 0 #[.val (.ref a1)] []))
  refine Go.st (fun _ => XS.aloadN X0.here hx rfl (hb hby d3_0) rfl rfl) ?_
  show Go p e below _ (s₁.setTop (mkF m 1 #[.val (.ref a1)] [(.ref a1)]))
  obtain ⟨T1, X1, e1, st1⟩ := getF X0 hx hZ hown (host := "") (Or.inl (hw _ (List.mem_of_getElem? (i := 14) rfl))) Via.refl e0 F_claimedBy (g := (mkF m 1 #[.val (.ref a1)] [(.ref a1)])) rfl rfl (hb hby d3_1)
  refine Go.st st1 ?_
  show Go p e below _ (T1.setTop (mkF m 4 #[.val (.ref a1)] [.null]))
  refine Go.st (fun _ => XS.ifnonnullNo X1.here hx rfl (hb hby d3_4) rfl) ?_
  show Go p e below _ (T1.setTop (mkF m 7 #[.val (.ref a1)] []))
  refine Go.st (fun _ => XS.aloadN X1.here hx rfl (hb hby d3_7) rfl rfl) ?_
  show Go p e below _ (T1.setTop (mkF m 8 #[.val (.ref a1)] [(.ref a1)]))
  obtain ⟨T2, X2, e2, st2⟩ := getF X1 hx hZ hown (host := "") (Or.inl (hw _ (List.mem_of_getElem? (i := 16) rfl))) Via.refl e1 F_cancelled (g := (mkF m 8 #[.val (.ref a1)] [(.ref a1)])) rfl rfl (hb hby d3_8)
  refine Go.st st2 ?_
  show Go p e below _ (T2.setTop (mkF m 11 #[.val (.ref a1)] [(.int (1 : Int32))]))
  refine Go.st (fun _ => XS.ifNo X2.here hx rfl (hb hby d3_11) rfl ((if0 _ _).trans (feq (by decide : ¬ ((1 : Int32) = (0 : Int32)))).1)) ?_
  show Go p e below _ (T2.setTop (mkF m 14 #[.val (.ref a1)] []))
  refine Go.st (fun _ => XS.iconst X2.here hx rfl (hb hby d3_14)) ?_
  show Go p e below _ (T2.setTop (mkF m 15 #[.val (.ref a1)] [(.int (1 : Int32))]))
  refine Go.st (fun _ => XS.goto X2.here hx rfl (pc0 := 15) (pc' := 19) rfl (hb hby d3_15) (by decide) (by decide)) ?_
  show Go p e below _ (T2.setTop (mkF m 19 #[.val (.ref a1)] [(.int (1 : Int32))]))
  exact goRetN X2 hx hlk hret (t := .boolean) (by simp) (w := (1 : Int32)) (by decide) e2 (hb hby d3_19) (by decide) (by decide) ⟨rfl, N0, rfl⟩
set_option maxRecDepth 65536 in
set_option maxHeartbeats 40000000 in
theorem icR0 (l : Launch) (Z : State) (a0 : Array Value) (hw : ∀ d ∈ tables_1, d.before a0 Z = true) (ws : List Jvm.Cond) (a1 a5 : Addr) (h0 : Heap) (n0 : Nat) (O0 : Old Z n0 h0) (F_claimedBy : Fld Z h0 a1 "com/example/sidelane/sidelane/Cancellation" "claimedBy" "Lcom/example/sidelane/sidelane/Cancellation$Claimant;" (.ref a5)) (F_cancelled : Fld Z h0 a1 "com/example/sidelane/sidelane/Cancellation" "cancelled" "Z" (.int (0 : Int32))) :
    Ctr l (⟨"com/example/sidelane/sidelane/Cancellation", "isClaimed", "()Z"⟩ : MethodName) prog_3_method_5_code 1 (some .boolean) ws ({ frames := 0, cells := 0, slots := 0, locals := 0 } : Room) #[(.ref a1)] Z h0 (fun v h L => v = some (.int 1) ∧ Fr n0 L ∧ h = h0) := by
  have ef : ∀ m : MethodId, entryFrame m #[(.ref a1)] 1 = mkF m 0 #[.val (.ref a1)] [] := fun m => by first | (simp [entryFrame, mkF, argsToLocals, Value.category]; done) | rfl
  refine Ctr.of (plainFor_of_name pn_3) ?_
  intro p e s m below meth c s₁ hx hZ hby hml hown0 hnm hret hlk X0 e0
  have hown : s.vm.findClass "com/example/sidelane/sidelane/Cancellation" = some m.cls := hown0
  have N0 := Fr.nil n0
  refine Go.st (fun t k => castTop (ef m) k) ?_
  show Go p e below _ (s₁.setTop (mkF m 0 #[.val (.ref a1)] []))
  refine Go.st (fun _ => XS.aloadN X0.here hx rfl (hb hby d3_0) rfl rfl) ?_
  show Go p e below _ (s₁.setTop (mkF m 1 #[.val (.ref a1)] [(.ref a1)]))
  obtain ⟨T1, X1, e1, st1⟩ := getF X0 hx hZ hown (host := "") (Or.inl (hw _ (List.mem_of_getElem? (i := 14) rfl))) Via.refl e0 F_claimedBy (g := (mkF m 1 #[.val (.ref a1)] [(.ref a1)])) rfl rfl (hb hby d3_1)
  refine Go.st st1 ?_
  show Go p e below _ (T1.setTop (mkF m 4 #[.val (.ref a1)] [(.ref a5)]))
  refine Go.st (fun _ => XS.ifnonnullYes X1.here hx rfl (pc0 := 4) (pc' := 14) rfl (hb hby d3_4) rfl (by decide) (by decide)) ?_
  show Go p e below _ (T1.setTop (mkF m 14 #[.val (.ref a1)] []))
  refine Go.st (fun _ => XS.iconst X1.here hx rfl (hb hby d3_14)) ?_
  show Go p e below _ (T1.setTop (mkF m 15 #[.val (.ref a1)] [(.int (1 : Int32))]))
  refine Go.st (fun _ => XS.goto X1.here hx rfl (pc0 := 15) (pc' := 19) rfl (hb hby d3_15) (by decide) (by decide)) ?_
  show Go p e below _ (T1.setTop (mkF m 19 #[.val (.ref a1)] [(.int (1 : Int32))]))
  exact goRetN X1 hx hlk hret (t := .boolean) (by simp) (w := (1 : Int32)) (by decide) e1 (hb hby d3_19) (by decide) (by decide) ⟨rfl, N0, rfl⟩
set_option maxRecDepth 65536 in
set_option maxHeartbeats 40000000 in
theorem icR1 (l : Launch) (Z : State) (a0 : Array Value) (hw : ∀ d ∈ tables_1, d.before a0 Z = true) (ws : List Jvm.Cond) (a1 a5 : Addr) (h0 : Heap) (n0 : Nat) (O0 : Old Z n0 h0) (F_claimedBy : Fld Z h0 a1 "com/example/sidelane/sidelane/Cancellation" "claimedBy" "Lcom/example/sidelane/sidelane/Cancellation$Claimant;" (.ref a5)) (F_cancelled : Fld Z h0 a1 "com/example/sidelane/sidelane/Cancellation" "cancelled" "Z" (.int (1 : Int32))) :
    Ctr l (⟨"com/example/sidelane/sidelane/Cancellation", "isClaimed", "()Z"⟩ : MethodName) prog_3_method_5_code 1 (some .boolean) ws ({ frames := 0, cells := 0, slots := 0, locals := 0 } : Room) #[(.ref a1)] Z h0 (fun v h L => v = some (.int 1) ∧ Fr n0 L ∧ h = h0) := by
  have ef : ∀ m : MethodId, entryFrame m #[(.ref a1)] 1 = mkF m 0 #[.val (.ref a1)] [] := fun m => by first | (simp [entryFrame, mkF, argsToLocals, Value.category]; done) | rfl
  refine Ctr.of (plainFor_of_name pn_3) ?_
  intro p e s m below meth c s₁ hx hZ hby hml hown0 hnm hret hlk X0 e0
  have hown : s.vm.findClass "com/example/sidelane/sidelane/Cancellation" = some m.cls := hown0
  have N0 := Fr.nil n0
  refine Go.st (fun t k => castTop (ef m) k) ?_
  show Go p e below _ (s₁.setTop (mkF m 0 #[.val (.ref a1)] []))
  refine Go.st (fun _ => XS.aloadN X0.here hx rfl (hb hby d3_0) rfl rfl) ?_
  show Go p e below _ (s₁.setTop (mkF m 1 #[.val (.ref a1)] [(.ref a1)]))
  obtain ⟨T1, X1, e1, st1⟩ := getF X0 hx hZ hown (host := "") (Or.inl (hw _ (List.mem_of_getElem? (i := 14) rfl))) Via.refl e0 F_claimedBy (g := (mkF m 1 #[.val (.ref a1)] [(.ref a1)])) rfl rfl (hb hby d3_1)
  refine Go.st st1 ?_
  show Go p e below _ (T1.setTop (mkF m 4 #[.val (.ref a1)] [(.ref a5)]))
  refine Go.st (fun _ => XS.ifnonnullYes X1.here hx rfl (pc0 := 4) (pc' := 14) rfl (hb hby d3_4) rfl (by decide) (by decide)) ?_
  show Go p e below _ (T1.setTop (mkF m 14 #[.val (.ref a1)] []))
  refine Go.st (fun _ => XS.iconst X1.here hx rfl (hb hby d3_14)) ?_
  show Go p e below _ (T1.setTop (mkF m 15 #[.val (.ref a1)] [(.int (1 : Int32))]))
  refine Go.st (fun _ => XS.goto X1.here hx rfl (pc0 := 15) (pc' := 19) rfl (hb hby d3_15) (by decide) (by decide)) ?_
  show Go p e below _ (T1.setTop (mkF m 19 #[.val (.ref a1)] [(.int (1 : Int32))]))
  exact goRetN X1 hx hlk hret (t := .boolean) (by simp) (w := (1 : Int32)) (by decide) e1 (hb hby d3_19) (by decide) (by decide) ⟨rfl, N0, rfl⟩
set_option maxRecDepth 65536 in
set_option maxHeartbeats 40000000 in
theorem cm00 (l : Launch) (Z : State) (a0 : Array Value) (hw : ∀ d ∈ tables_1, d.before a0 Z = true) (a1 a2 : Addr) (en oc : Value) (h0 : Heap) (n0 : Nat) (O0 : Old Z n0 h0) (U0 : Unt h0 a1) (g_a1 : n0 ≤ a1) (A_a1 : Exa Z h0 a1 "com/example/sidelane/sidelane/Cancellation") (F_claimedBy : Fld Z h0 a1 "com/example/sidelane/sidelane/Cancellation" "claimedBy" "Lcom/example/sidelane/sidelane/Cancellation$Claimant;" .null) (F_cancelled : Fld Z h0 a1 "com/example/sidelane/sidelane/Cancellation" "cancelled" "Z" (.int (0 : Int32))) (F_endingBegun : Fld Z h0 a1 "com/example/sidelane/sidelane/Cancellation" "endingBegun" "Z" (.int (0 : Int32))) (F_queued : Fld Z h0 a1 "com/example/sidelane/sidelane/Cancellation" "queued" "Z" (.int (0 : Int32))) (F_runner : Fld Z h0 a1 "com/example/sidelane/sidelane/Cancellation" "runner" "Ljava/lang/Thread;" .null) (F_cancelEnding : Fld Z h0 a1 "com/example/sidelane/sidelane/Cancellation" "cancelEnding" "Ljava/lang/Object;" en) (F_cancelOutcome : Fld Z h0 a1 "com/example/sidelane/sidelane/Cancellation" "cancelOutcome" "Lcom/example/sidelane/sidelane/Cancellation$Outcome;" oc) :
    CtrS l (⟨"com/example/sidelane/sidelane/Cancellation", "claim", "(Lcom/example/sidelane/sidelane/Cancellation$Claimant;)Z"⟩ : MethodName) prog_3_method_4_code 2 (some .boolean) ({ frames := 1, cells := 0, slots := 0, locals := 16 } : Room) #[(.ref a1), (.ref a2)] Z h0 (fun v h L => v = some (.int 1) ∧ Fr n0 L ∧ Keep h0 h [a1] ∧ own_ob Z h a1 (.ref a2) (0 : Int32) (0 : Int32) en oc) := by
  have ef : ∀ m : MethodId, entryFrameSync m #[(.ref a1), (.ref a2)] 2 a1 = mkL a1 m 0 #[.val (.ref a1), .val (.ref a2)] [] := fun m => by first | rfl | (simp [entryFrameSync, mkL, argsToLocals, Value.category]; done)
  refine CtrS.of (a := a1) (plainFor_of_name pn_5) rfl U0 ?_
  intro p e s0 s m below meth c s₁ cell hx hZ hby hml hown0 hnm hret hlk hs hcell hmon X0 M0 K0
  have hown : s.vm.findClass "com/example/sidelane/sidelane/Cancellation" = some m.cls := hown0
  have N0 := Fr.nil n0
  obtain ⟨h1, e0⟩ : ∃ z, s₁.heap = z := ⟨_, rfl⟩
  rw [e0] at M0 K0
  have O1 := O0.keep K0 (allS g_a1 all0)
  refine Go.st (fun t k => castTop (ef m) k) ?_
  have A_a1' : Exa Z h1 a1 "com/example/sidelane/sidelane/Cancellation" := A_a1.mon M0
  have F_claimedBy' : Fld Z h1 a1 "com/example/sidelane/sidelane/Cancellation" "claimedBy" "Lcom/example/sidelane/sidelane/Cancellation$Claimant;" .null := F_claimedBy.mon M0
  have F_cancelled' : Fld Z h1 a1 "com/example/sidelane/sidelane/Cancellation" "cancelled" "Z" (.int (0 : Int32)) := F_cancelled.mon M0
  have F_endingBegun' : Fld Z h1 a1 "com/example/sidelane/sidelane/Cancellation" "endingBegun" "Z" (.int (0 : Int32)) := F_endingBegun.mon M0
  have F_queued' : Fld Z h1 a1 "com/example/sidelane/sidelane/Cancellation" "queued" "Z" (.int (0 : Int32)) := F_queued.mon M0
  have F_runner' : Fld Z h1 a1 "com/example/sidelane/sidelane/Cancellation" "runner" "Ljava/lang/Thread;" .null := F_runner.mon M0
  have F_cancelEnding' : Fld Z h1 a1 "com/example/sidelane/sidelane/Cancellation" "cancelEnding" "Ljava/lang/Object;" en := F_cancelEnding.mon M0
  have F_cancelOutcome' : Fld Z h1 a1 "com/example/sidelane/sidelane/Cancellation" "cancelOutcome" "Lcom/example/sidelane/sidelane/Cancellation$Outcome;" oc := F_cancelOutcome.mon M0
  show Go p e below _ (s₁.setTop (mkL a1 m 0 #[.val (.ref a1), .val (.ref a2)] []))
  refine Go.st (fun _ => XS.aloadN X0.here hx rfl (hb hby d5_0) rfl rfl) ?_
  show Go p e below _ (s₁.setTop (mkL a1 m 1 #[.val (.ref a1), .val (.ref a2)] [(.ref a1)]))
  refine goVirt X0 hx hZ (y := (⟨"com/example/sidelane/sidelane/Cancellation", "isClaimed", "()Z"⟩ : MethodName)) (z := (⟨"com/example/sidelane/sidelane/Cancellation", "isClaimed", "()Z"⟩ : MethodName)) hown (hw _ (List.mem_of_getElem? (i := 30) rfl)) (hw _ (List.mem_of_getElem? (i := 10) rfl)) (notFace_of_selects (args := #[]) (mvT hZ (hw _ (List.mem_of_getElem? (i := 12) rfl)))) (hw _ (List.mem_of_getElem? (i := 12) rfl)) (hw _ (List.mem_of_getElem? (i := 11) rfl)) (hw _ (List.mem_of_getElem? (i := 2) rfl)) (hw _ (List.mem_of_getElem? (i := 13) rfl)) (by decide) (a := a1) (argsL := []) (rest := []) e0 A_a1' (ic00 l Z a0 hw [] a1 h1 n0 O1 F_claimedBy' F_cancelled') 2 (by decide) (by decide) (by decide) (by decide) (mkL a1 m 1 #[.val (.ref a1), .val (.ref a2)] [(.ref a1)]) rfl (by rw [hml]; rfl) (lenOf pd_2 rfl) rfl (hb hby d5_1) (Nat.le_of_eq rfl) ?_
  intro v1 T1 L1 X1 hQ1
  obtain ⟨rfl, M1, e1⟩ := hQ1
  have N1 := Fr.app N0 M1
  show Go p e below _ (T1.setTop (mkL a1 m 4 #[.val (.ref a1), .val (.ref a2)] [(.int (0 : Int32))]))
  refine Go.st (fun _ => XS.ifYes X1.here hx rfl (pc0 := 4) (pc' := 9) rfl (hb hby d5_4) rfl ((if0 _ _).trans (teq (by decide : (0 : Int32) = (0 : Int32))).1) (by decide) (by decide)) ?_
  show Go p e below _ (T1.setTop (mkL a1 m 9 #[.val (.ref a1), .val (.ref a2)] []))
  refine Go.st (fun _ => XS.aloadN X1.here hx rfl (hb hby d5_9) rfl rfl) ?_
  show Go p e below _ (T1.setTop (mkL a1 m 10 #[.val (.ref a1), .val (.ref a2)] [(.ref a1)]))
  refine Go.st (fun _ => XS.aloadN X1.here hx rfl (hb hby d5_10) rfl rfl) ?_
  show Go p e below _ (T1.setTop (mkL a1 m 11 #[.val (.ref a1), .val (.ref a2)] [(.ref a2), (.ref a1)]))
  obtain ⟨T2, h2, X2, e2, W2, st2⟩ := putF X1 hx hZ hown (host := "") (Or.inl (hw _ (List.mem_of_getElem? (i := 14) rfl))) Via.refl e1 F_claimedBy' A_a1' (Or.inl (hw _ (List.mem_of_getElem? (i := 15) rfl))) (hw _ (List.mem_of_getElem? (i := 1) rfl)) (ty := (.object "com/example/sidelane/sidelane/Cancellation$Claimant")) (by decide) rfl rfl (g := (mkL a1 m 11 #[.val (.ref a1), .val (.ref a2)] [(.ref a2), (.ref a1)])) rfl rfl (hb hby d5_11)
  refine Go.st st2 ?_
  have O3 : Old Z n0 h2 := O1.wr W2 g_a1
  have K4 : Keep h0 h2 [a1] := K0.wr W2 (Or.inl (List.mem_of_getElem? (i := 0) rfl))
  have E_5 : Exa Z h2 a1 "com/example/sidelane/sidelane/Cancellation" := A_a1'.wr W2
  have F6 : Fld Z h2 a1 "com/example/sidelane/sidelane/Cancellation" "cancelled" "Z" (.int (0 : Int32)) := F_cancelled'.other W2 (Or.inr (slot_ne (Or.inl (hw _ (List.mem_of_getElem? (i := 17) rfl))) (Or.inl (hw _ (List.mem_of_getElem? (i := 15) rfl))) (by decide) (t := .boolean) (t' := (.object "com/example/sidelane/sidelane/Cancellation$Claimant")) (by decide) (by decide)))
  have F7 : Fld Z h2 a1 "com/example/sidelane/sidelane/Cancellation" "endingBegun" "Z" (.int (0 : Int32)) := F_endingBegun'.other W2 (Or.inr (slot_ne (Or.inl (hw _ (List.mem_of_getElem? (i := 46) rfl))) (Or.inl (hw _ (List.mem_of_getElem? (i := 15) rfl))) (by decide) (t := .boolean) (t' := (.object "com/example/sidelane/sidelane/Cancellation$Claimant")) (by decide) (by decide)))
  have F8 : Fld Z h2 a1 "com/example/sidelane/sidelane/Cancellation" "queued" "Z" (.int (0 : Int32)) := F_queued'.other W2 (Or.inr (slot_ne (Or.inl (hw _ (List.mem_of_getElem? (i := 49) rfl))) (Or.inl (hw _ (List.mem_of_getElem? (i := 15) rfl))) (by decide) (t := .boolean) (t' := (.object "com/example/sidelane/sidelane/Cancellation$Claimant")) (by decide) (by decide)))
  have F9 : Fld Z h2 a1 "com/example/sidelane/sidelane/Cancellation" "runner" "Ljava/lang/Thread;" .null := F_runner'.other W2 (Or.inr (slot_ne (Or.inl (hw _ (List.mem_of_getElem? (i := 78) rfl))) (Or.inl (hw _ (List.mem_of_getElem? (i := 15) rfl))) (by decide) (t := (.object "java/lang/Thread")) (t' := (.object "com/example/sidelane/sidelane/Cancellation$Claimant")) (by decide) (by decide)))
  have F10 : Fld Z h2 a1 "com/example/sidelane/sidelane/Cancellation" "cancelEnding" "Ljava/lang/Object;" en := F_cancelEnding'.other W2 (Or.inr (slot_ne (Or.inl (hw _ (List.mem_of_getElem? (i := 56) rfl))) (Or.inl (hw _ (List.mem_of_getElem? (i := 15) rfl))) (by decide) (t := (.object "java/lang/Object")) (t' := (.object "com/example/sidelane/sidelane/Cancellation$Claimant")) (by decide) (by decide)))
  have F11 : Fld Z h2 a1 "com/example/sidelane/sidelane/Cancellation" "cancelOutcome" "Lcom/example/sidelane/sidelane/Cancellation$Outcome;" oc := F_cancelOutcome'.other W2 (Or.inr (slot_ne (Or.inl (hw _ (List.mem_of_getElem? (i := 54) rfl))) (Or.inl (hw _ (List.mem_of_getElem? (i := 15) rfl))) (by decide) (t := (.object "com/example/sidelane/sidelane/Cancellation$Outcome")) (t' := (.object "com/example/sidelane/sidelane/Cancellation$Claimant")) (by decide) (by decide)))
  have F12 : Fld Z h2 a1 "com/example/sidelane/sidelane/Cancellation" "claimedBy" "Lcom/example/sidelane/sidelane/Cancellation$Claimant;" (.ref a2) := F_claimedBy'.same W2
  have N2 := Fr.snoc X2 N1 g_a1
  show Go p e below _ (T2.setTop (mkL a1 m 14 #[.val (.ref a1), .val (.ref a2)] []))
  refine Go.st (fun _ => XS.iconst X2.here hx rfl (hb hby d5_14)) ?_
  show Go p e below _ (T2.setTop (mkL a1 m 15 #[.val (.ref a1), .val (.ref a2)] [(.int (1 : Int32))]))
  refine goRetS (v := some (.int (1 : Int32))) X2 hs hcell hmon hlk (fun h => by rw [hret] at h; cases h) e2 (fun V hV => retS X2 hx hret rfl (Or.inl ⟨rfl, Or.inr (Or.inl rfl), _, rfl⟩) (hb hby d5_15) hV) (by decide) (by decide) (fun h' M' K' hm' => ?_)
  exact ⟨rfl, N2, (K4.trans K' (allS (Or.inl (List.mem_singleton_self _)) all0)), ⟨(E_5.mon M'), (untEnd U0 (K4.trans K' (allS (Or.inl (List.mem_singleton_self _)) all0)) hm'), (F12.mon M'), (F6.mon M'), (F7.mon M'), (F8.mon M'), (F9.mon M'), (F10.mon M'), (F11.mon M')⟩⟩
set_option maxRecDepth 65536 in
set_option maxHeartbeats 40000000 in
theorem cm01 (l : Launch) (Z : State) (a0 : Array Value) (hw : ∀ d ∈ tables_1, d.before a0 Z = true) (a1 a2 : Addr) (en oc : Value) (h0 : Heap) (n0 : Nat) (O0 : Old Z n0 h0) (U0 : Unt h0 a1) (g_a1 : n0 ≤ a1) (A_a1 : Exa Z h0 a1 "com/example/sidelane/sidelane/Cancellation") (F_claimedBy : Fld Z h0 a1 "com/example/sidelane/sidelane/Cancellation" "claimedBy" "Lcom/example/sidelane/sidelane/Cancellation$Claimant;" .null) (F_cancelled : Fld Z h0 a1 "com/example/sidelane/sidelane/Cancellation" "cancelled" "Z" (.int (1 : Int32))) (F_endingBegun : Fld Z h0 a1 "com/example/sidelane/sidelane/Cancellation" "endingBegun" "Z" (.int (0 : Int32))) (F_queued : Fld Z h0 a1 "com/example/sidelane/sidelane/Cancellation" "queued" "Z" (.int (0 : Int32))) (F_runner : Fld Z h0 a1 "com/example/sidelane/sidelane/Cancellation" "runner" "Ljava/lang/Thread;" .null) (F_cancelEnding : Fld Z h0 a1 "com/example/sidelane/sidelane/Cancellation" "cancelEnding" "Ljava/lang/Object;" en) (F_cancelOutcome : Fld Z h0 a1 "com/example/sidelane/sidelane/Cancellation" "cancelOutcome" "Lcom/example/sidelane/sidelane/Cancellation$Outcome;" oc) :
    CtrS l (⟨"com/example/sidelane/sidelane/Cancellation", "claim", "(Lcom/example/sidelane/sidelane/Cancellation$Claimant;)Z"⟩ : MethodName) prog_3_method_4_code 2 (some .boolean) ({ frames := 1, cells := 0, slots := 0, locals := 16 } : Room) #[(.ref a1), (.ref a2)] Z h0 (fun v h L => v = some (.int 0) ∧ Fr n0 L ∧ Keep h0 h [a1] ∧ own_ob Z h a1 .null (1 : Int32) (0 : Int32) en oc) := by
  have ef : ∀ m : MethodId, entryFrameSync m #[(.ref a1), (.ref a2)] 2 a1 = mkL a1 m 0 #[.val (.ref a1), .val (.ref a2)] [] := fun m => by first | rfl | (simp [entryFrameSync, mkL, argsToLocals, Value.category]; done)
  refine CtrS.of (a := a1) (plainFor_of_name pn_5) rfl U0 ?_
  intro p e s0 s m below meth c s₁ cell hx hZ hby hml hown0 hnm hret hlk hs hcell hmon X0 M0 K0
  have hown : s.vm.findClass "com/example/sidelane/sidelane/Cancellation" = some m.cls := hown0
  have N0 := Fr.nil n0
  obtain ⟨h1, e0⟩ : ∃ z, s₁.heap = z := ⟨_, rfl⟩
  rw [e0] at M0 K0
  have O1 := O0.keep K0 (allS g_a1 all0)
  refine Go.st (fun t k => castTop (ef m) k) ?_
  have A_a1' : Exa Z h1 a1 "com/example/sidelane/sidelane/Cancellation" := A_a1.mon M0
  have F_claimedBy' : Fld Z h1 a1 "com/example/sidelane/sidelane/Cancellation" "claimedBy" "Lcom/example/sidelane/sidelane/Cancellation$Claimant;" .null := F_claimedBy.mon M0
  have F_cancelled' : Fld Z h1 a1 "com/example/sidelane/sidelane/Cancellation" "cancelled" "Z" (.int (1 : Int32)) := F_cancelled.mon M0
  have F_endingBegun' : Fld Z h1 a1 "com/example/sidelane/sidelane/Cancellation" "endingBegun" "Z" (.int (0 : Int32)) := F_endingBegun.mon M0
  have F_queued' : Fld Z h1 a1 "com/example/sidelane/sidelane/Cancellation" "queued" "Z" (.int (0 : Int32)) := F_queued.mon M0
  have F_runner' : Fld Z h1 a1 "com/example/sidelane/sidelane/Cancellation" "runner" "Ljava/lang/Thread;" .null := F_runner.mon M0
  have F_cancelEnding' : Fld Z h1 a1 "com/example/sidelane/sidelane/Cancellation" "cancelEnding" "Ljava/lang/Object;" en := F_cancelEnding.mon M0
  have F_cancelOutcome' : Fld Z h1 a1 "com/example/sidelane/sidelane/Cancellation" "cancelOutcome" "Lcom/example/sidelane/sidelane/Cancellation$Outcome;" oc := F_cancelOutcome.mon M0
  show Go p e below _ (s₁.setTop (mkL a1 m 0 #[.val (.ref a1), .val (.ref a2)] []))
  refine Go.st (fun _ => XS.aloadN X0.here hx rfl (hb hby d5_0) rfl rfl) ?_
  show Go p e below _ (s₁.setTop (mkL a1 m 1 #[.val (.ref a1), .val (.ref a2)] [(.ref a1)]))
  refine goVirt X0 hx hZ (y := (⟨"com/example/sidelane/sidelane/Cancellation", "isClaimed", "()Z"⟩ : MethodName)) (z := (⟨"com/example/sidelane/sidelane/Cancellation", "isClaimed", "()Z"⟩ : MethodName)) hown (hw _ (List.mem_of_getElem? (i := 30) rfl)) (hw _ (List.mem_of_getElem? (i := 10) rfl)) (notFace_of_selects (args := #[]) (mvT hZ (hw _ (List.mem_of_getElem? (i := 12) rfl)))) (hw _ (List.mem_of_getElem? (i := 12) rfl)) (hw _ (List.mem_of_getElem? (i := 11) rfl)) (hw _ (List.mem_of_getElem? (i := 2) rfl)) (hw _ (List.mem_of_getElem? (i := 13) rfl)) (by decide) (a := a1) (argsL := []) (rest := []) e0 A_a1' (ic01 l Z a0 hw [] a1 h1 n0 O1 F_claimedBy' F_cancelled') 2 (by decide) (by decide) (by decide) (by decide) (mkL a1 m 1 #[.val (.ref a1), .val (.ref a2)] [(.ref a1)]) rfl (by rw [hml]; rfl) (lenOf pd_2 rfl) rfl (hb hby d5_1) (Nat.le_of_eq rfl) ?_
  intro v1 T1 L1 X1 hQ1
  obtain ⟨rfl, M1, e1⟩ := hQ1
  have N1 := Fr.app N0 M1
  show Go p e below _ (T1.setTop (mkL a1 m 4 #[.val (.ref a1), .val (.ref a2)] [(.int (1 : Int32))]))
  refine Go.st (fun _ => XS.ifNo X1.here hx rfl (hb hby d5_4) rfl ((if0 _ _).trans (feq (by decide : ¬ ((1 : Int32) = (0 : Int32)))).1)) ?_
  show Go p e below _ (T1.setTop (mkL a1 m 7 #[.val (.ref a1), .val (.ref a2)] []))
  refine Go.st (fun _ => XS.iconst X1.here hx rfl (hb hby d5_7)) ?_
  show Go p e below _ (T1.setTop (mkL a1 m 8 #[.val (.ref a1), .val (.ref a2)] [(.int (0 : Int32))]))
  refine goRetS (v := some (.int (0 : Int32))) X1 hs hcell hmon hlk (fun h => by rw [hret] at h; cases h) e1 (fun V hV => retS X1 hx hret rfl (Or.inl ⟨rfl, Or.inr (Or.inl rfl), _, rfl⟩) (hb hby d5_8) hV) (by decide) (by decide) (fun h' M' K' hm' => ?_)
  exact ⟨rfl, N1, (K0.trans K' (allS (Or.inl (List.mem_singleton_self _)) all0)), ⟨(A_a1'.mon M'), (untEnd U0 (K0.trans K' (allS (Or.inl (List.mem_singleton_self _)) all0)) hm'), (F_claimedBy'.mon M'), (F_cancelled'.mon M'), (F_endingBegun'.mon M'), (F_queued'.mon M'), (F_runner'.mon M'), (F_cancelEnding'.mon M'), (F_cancelOutcome'.mon M')⟩⟩
set_option maxRecDepth 65536 in
set_option maxHeartbeats 40000000 in
theorem cmR0 (l : Launch) (Z : State) (a0 : Array Value) (hw : ∀ d ∈ tables_1, d.before a0 Z = true) (a1 a2 a5 : Addr) (en oc : Value) (h0 : Heap) (n0 : Nat) (O0 : Old Z n0 h0) (U0 : Unt h0 a1) (g_a1 : n0 ≤ a1) (A_a1 : Exa Z h0 a1 "com/example/sidelane/sidelane/Cancellation") (F_claimedBy : Fld Z h0 a1 "com/example/sidelane/sidelane/Cancellation" "claimedBy" "Lcom/example/sidelane/sidelane/Cancellation$Claimant;" (.ref a5)) (F_cancelled : Fld Z h0 a1 "com/example/sidelane/sidelane/Cancellation" "cancelled" "Z" (.int (0 : Int32))) (F_endingBegun : Fld Z h0 a1 "com/example/sidelane/sidelane/Cancellation" "endingBegun" "Z" (.int (0 : Int32))) (F_queued : Fld Z h0 a1 "com/example/sidelane/sidelane/Cancellation" "queued" "Z" (.int (0 : Int32))) (F_runner : Fld Z h0 a1 "com/example/sidelane/sidelane/Cancellation" "runner" "Ljava/lang/Thread;" .null) (F_cancelEnding : Fld Z h0 a1 "com/example/sidelane/sidelane/Cancellation" "cancelEnding" "Ljava/lang/Object;" en) (F_cancelOutcome : Fld Z h0 a1 "com/example/sidelane/sidelane/Cancellation" "cancelOutcome" "Lcom/example/sidelane/sidelane/Cancellation$Outcome;" oc) :
    CtrS l (⟨"com/example/sidelane/sidelane/Cancellation", "claim", "(Lcom/example/sidelane/sidelane/Cancellation$Claimant;)Z"⟩ : MethodName) prog_3_method_4_code 2 (some .boolean) ({ frames := 1, cells := 0, slots := 0, locals := 16 } : Room) #[(.ref a1), (.ref a2)] Z h0 (fun v h L => v = some (.int 0) ∧ Fr n0 L ∧ Keep h0 h [a1] ∧ own_ob Z h a1 (.ref a5) (0 : Int32) (0 : Int32) en oc) := by
  have ef : ∀ m : MethodId, entryFrameSync m #[(.ref a1), (.ref a2)] 2 a1 = mkL a1 m 0 #[.val (.ref a1), .val (.ref a2)] [] := fun m => by first | rfl | (simp [entryFrameSync, mkL, argsToLocals, Value.category]; done)
  refine CtrS.of (a := a1) (plainFor_of_name pn_5) rfl U0 ?_
  intro p e s0 s m below meth c s₁ cell hx hZ hby hml hown0 hnm hret hlk hs hcell hmon X0 M0 K0
  have hown : s.vm.findClass "com/example/sidelane/sidelane/Cancellation" = some m.cls := hown0
  have N0 := Fr.nil n0
  obtain ⟨h1, e0⟩ : ∃ z, s₁.heap = z := ⟨_, rfl⟩
  rw [e0] at M0 K0
  have O1 := O0.keep K0 (allS g_a1 all0)
  refine Go.st (fun t k => castTop (ef m) k) ?_
  have A_a1' : Exa Z h1 a1 "com/example/sidelane/sidelane/Cancellation" := A_a1.mon M0
  have F_claimedBy' : Fld Z h1 a1 "com/example/sidelane/sidelane/Cancellation" "claimedBy" "Lcom/example/sidelane/sidelane/Cancellation$Claimant;" (.ref a5) := F_claimedBy.mon M0
  have F_cancelled' : Fld Z h1 a1 "com/example/sidelane/sidelane/Cancellation" "cancelled" "Z" (.int (0 : Int32)) := F_cancelled.mon M0
  have F_endingBegun' : Fld Z h1 a1 "com/example/sidelane/sidelane/Cancellation" "endingBegun" "Z" (.int (0 : Int32)) := F_endingBegun.mon M0
  have F_queued' : Fld Z h1 a1 "com/example/sidelane/sidelane/Cancellation" "queued" "Z" (.int (0 : Int32)) := F_queued.mon M0
  have F_runner' : Fld Z h1 a1 "com/example/sidelane/sidelane/Cancellation" "runner" "Ljava/lang/Thread;" .null := F_runner.mon M0
  have F_cancelEnding' : Fld Z h1 a1 "com/example/sidelane/sidelane/Cancellation" "cancelEnding" "Ljava/lang/Object;" en := F_cancelEnding.mon M0
  have F_cancelOutcome' : Fld Z h1 a1 "com/example/sidelane/sidelane/Cancellation" "cancelOutcome" "Lcom/example/sidelane/sidelane/Cancellation$Outcome;" oc := F_cancelOutcome.mon M0
  show Go p e below _ (s₁.setTop (mkL a1 m 0 #[.val (.ref a1), .val (.ref a2)] []))
  refine Go.st (fun _ => XS.aloadN X0.here hx rfl (hb hby d5_0) rfl rfl) ?_
  show Go p e below _ (s₁.setTop (mkL a1 m 1 #[.val (.ref a1), .val (.ref a2)] [(.ref a1)]))
  refine goVirt X0 hx hZ (y := (⟨"com/example/sidelane/sidelane/Cancellation", "isClaimed", "()Z"⟩ : MethodName)) (z := (⟨"com/example/sidelane/sidelane/Cancellation", "isClaimed", "()Z"⟩ : MethodName)) hown (hw _ (List.mem_of_getElem? (i := 30) rfl)) (hw _ (List.mem_of_getElem? (i := 10) rfl)) (notFace_of_selects (args := #[]) (mvT hZ (hw _ (List.mem_of_getElem? (i := 12) rfl)))) (hw _ (List.mem_of_getElem? (i := 12) rfl)) (hw _ (List.mem_of_getElem? (i := 11) rfl)) (hw _ (List.mem_of_getElem? (i := 2) rfl)) (hw _ (List.mem_of_getElem? (i := 13) rfl)) (by decide) (a := a1) (argsL := []) (rest := []) e0 A_a1' (icR0 l Z a0 hw [] a1 a5 h1 n0 O1 F_claimedBy' F_cancelled') 2 (by decide) (by decide) (by decide) (by decide) (mkL a1 m 1 #[.val (.ref a1), .val (.ref a2)] [(.ref a1)]) rfl (by rw [hml]; rfl) (lenOf pd_2 rfl) rfl (hb hby d5_1) (Nat.le_of_eq rfl) ?_
  intro v1 T1 L1 X1 hQ1
  obtain ⟨rfl, M1, e1⟩ := hQ1
  have N1 := Fr.app N0 M1
  show Go p e below _ (T1.setTop (mkL a1 m 4 #[.val (.ref a1), .val (.ref a2)] [(.int (1 : Int32))]))
  refine Go.st (fun _ => XS.ifNo X1.here hx rfl (hb hby d5_4) rfl ((if0 _ _).trans (feq (by decide : ¬ ((1 : Int32) = (0 : Int32)))).1)) ?_
  show Go p e below _ (T1.setTop (mkL a1 m 7 #[.val (.ref a1), .val (.ref a2)] []))
  refine Go.st (fun _ => XS.iconst X1.here hx rfl (hb hby d5_7)) ?_
  show Go p e below _ (T1.setTop (mkL a1 m 8 #[.val (.ref a1), .val (.ref a2)] [(.int (0 : Int32))]))
  refine goRetS (v := some (.int (0 : Int32))) X1 hs hcell hmon hlk (fun h => by rw [hret] at h; cases h) e1 (fun V hV => retS X1 hx hret rfl (Or.inl ⟨rfl, Or.inr (Or.inl rfl), _, rfl⟩) (hb hby d5_8) hV) (by decide) (by decide) (fun h' M' K' hm' => ?_)
  exact ⟨rfl, N1, (K0.trans K' (allS (Or.inl (List.mem_singleton_self _)) all0)), ⟨(A_a1'.mon M'), (untEnd U0 (K0.trans K' (allS (Or.inl (List.mem_singleton_self _)) all0)) hm'), (F_claimedBy'.mon M'), (F_cancelled'.mon M'), (F_endingBegun'.mon M'), (F_queued'.mon M'), (F_runner'.mon M'), (F_cancelEnding'.mon M'), (F_cancelOutcome'.mon M')⟩⟩
set_option maxRecDepth 65536 in
set_option maxHeartbeats 40000000 in
theorem cmR1 (l : Launch) (Z : State) (a0 : Array Value) (hw : ∀ d ∈ tables_1, d.before a0 Z = true) (a1 a2 a5 : Addr) (en oc : Value) (h0 : Heap) (n0 : Nat) (O0 : Old Z n0 h0) (U0 : Unt h0 a1) (g_a1 : n0 ≤ a1) (A_a1 : Exa Z h0 a1 "com/example/sidelane/sidelane/Cancellation") (F_claimedBy : Fld Z h0 a1 "com/example/sidelane/sidelane/Cancellation" "claimedBy" "Lcom/example/sidelane/sidelane/Cancellation$Claimant;" (.ref a5)) (F_cancelled : Fld Z h0 a1 "com/example/sidelane/sidelane/Cancellation" "cancelled" "Z" (.int (1 : Int32))) (F_endingBegun : Fld Z h0 a1 "com/example/sidelane/sidelane/Cancellation" "endingBegun" "Z" (.int (0 : Int32))) (F_queued : Fld Z h0 a1 "com/example/sidelane/sidelane/Cancellation" "queued" "Z" (.int (0 : Int32))) (F_runner : Fld Z h0 a1 "com/example/sidelane/sidelane/Cancellation" "runner" "Ljava/lang/Thread;" .null) (F_cancelEnding : Fld Z h0 a1 "com/example/sidelane/sidelane/Cancellation" "cancelEnding" "Ljava/lang/Object;" en) (F_cancelOutcome : Fld Z h0 a1 "com/example/sidelane/sidelane/Cancellation" "cancelOutcome" "Lcom/example/sidelane/sidelane/Cancellation$Outcome;" oc) :
    CtrS l (⟨"com/example/sidelane/sidelane/Cancellation", "claim", "(Lcom/example/sidelane/sidelane/Cancellation$Claimant;)Z"⟩ : MethodName) prog_3_method_4_code 2 (some .boolean) ({ frames := 1, cells := 0, slots := 0, locals := 16 } : Room) #[(.ref a1), (.ref a2)] Z h0 (fun v h L => v = some (.int 0) ∧ Fr n0 L ∧ Keep h0 h [a1] ∧ own_ob Z h a1 (.ref a5) (1 : Int32) (0 : Int32) en oc) := by
  have ef : ∀ m : MethodId, entryFrameSync m #[(.ref a1), (.ref a2)] 2 a1 = mkL a1 m 0 #[.val (.ref a1), .val (.ref a2)] [] := fun m => by first | rfl | (simp [entryFrameSync, mkL, argsToLocals, Value.category]; done)
  refine CtrS.of (a := a1) (plainFor_of_name pn_5) rfl U0 ?_
  intro p e s0 s m below meth c s₁ cell hx hZ hby hml hown0 hnm hret hlk hs hcell hmon X0 M0 K0
  have hown : s.vm.findClass "com/example/sidelane/sidelane/Cancellation" = some m.cls := hown0
  have N0 := Fr.nil n0
  obtain ⟨h1, e0⟩ : ∃ z, s₁.heap = z := ⟨_, rfl⟩
  rw [e0] at M0 K0
  have O1 := O0.keep K0 (allS g_a1 all0)
  refine Go.st (fun t k => castTop (ef m) k) ?_
  have A_a1' : Exa Z h1 a1 "com/example/sidelane/sidelane/Cancellation" := A_a1.mon M0
  have F_claimedBy' : Fld Z h1 a1 "com/example/sidelane/sidelane/Cancellation" "claimedBy" "Lcom/example/sidelane/sidelane/Cancellation$Claimant;" (.ref a5) := F_claimedBy.mon M0
  have F_cancelled' : Fld Z h1 a1 "com/example/sidelane/sidelane/Cancellation" "cancelled" "Z" (.int (1 : Int32)) := F_cancelled.mon M0
  have F_endingBegun' : Fld Z h1 a1 "com/example/sidelane/sidelane/Cancellation" "endingBegun" "Z" (.int (0 : Int32)) := F_endingBegun.mon M0
  have F_queued' : Fld Z h1 a1 "com/example/sidelane/sidelane/Cancellation" "queued" "Z" (.int (0 : Int32)) := F_queued.mon M0
  have F_runner' : Fld Z h1 a1 "com/example/sidelane/sidelane/Cancellation" "runner" "Ljava/lang/Thread;" .null := F_runner.mon M0
  have F_cancelEnding' : Fld Z h1 a1 "com/example/sidelane/sidelane/Cancellation" "cancelEnding" "Ljava/lang/Object;" en := F_cancelEnding.mon M0
  have F_cancelOutcome' : Fld Z h1 a1 "com/example/sidelane/sidelane/Cancellation" "cancelOutcome" "Lcom/example/sidelane/sidelane/Cancellation$Outcome;" oc := F_cancelOutcome.mon M0
  show Go p e below _ (s₁.setTop (mkL a1 m 0 #[.val (.ref a1), .val (.ref a2)] []))
  refine Go.st (fun _ => XS.aloadN X0.here hx rfl (hb hby d5_0) rfl rfl) ?_
  show Go p e below _ (s₁.setTop (mkL a1 m 1 #[.val (.ref a1), .val (.ref a2)] [(.ref a1)]))
  refine goVirt X0 hx hZ (y := (⟨"com/example/sidelane/sidelane/Cancellation", "isClaimed", "()Z"⟩ : MethodName)) (z := (⟨"com/example/sidelane/sidelane/Cancellation", "isClaimed", "()Z"⟩ : MethodName)) hown (hw _ (List.mem_of_getElem? (i := 30) rfl)) (hw _ (List.mem_of_getElem? (i := 10) rfl)) (notFace_of_selects (args := #[]) (mvT hZ (hw _ (List.mem_of_getElem? (i := 12) rfl)))) (hw _ (List.mem_of_getElem? (i := 12) rfl)) (hw _ (List.mem_of_getElem? (i := 11) rfl)) (hw _ (List.mem_of_getElem? (i := 2) rfl)) (hw _ (List.mem_of_getElem? (i := 13) rfl)) (by decide) (a := a1) (argsL := []) (rest := []) e0 A_a1' (icR1 l Z a0 hw [] a1 a5 h1 n0 O1 F_claimedBy' F_cancelled') 2 (by decide) (by decide) (by decide) (by decide) (mkL a1 m 1 #[.val (.ref a1), .val (.ref a2)] [(.ref a1)]) rfl (by rw [hml]; rfl) (lenOf pd_2 rfl) rfl (hb hby d5_1) (Nat.le_of_eq rfl) ?_
  intro v1 T1 L1 X1 hQ1
  obtain ⟨rfl, M1, e1⟩ := hQ1
  have N1 := Fr.app N0 M1
  show Go p e below _ (T1.setTop (mkL a1 m 4 #[.val (.ref a1), .val (.ref a2)] [(.int (1 : Int32))]))
  refine Go.st (fun _ => XS.ifNo X1.here hx rfl (hb hby d5_4) rfl ((if0 _ _).trans (feq (by decide : ¬ ((1 : Int32) = (0 : Int32)))).1)) ?_
  show Go p e below _ (T1.setTop (mkL a1 m 7 #[.val (.ref a1), .val (.ref a2)] []))
  refine Go.st (fun _ => XS.iconst X1.here hx rfl (hb hby d5_7)) ?_
  show Go p e below _ (T1.setTop (mkL a1 m 8 #[.val (.ref a1), .val (.ref a2)] [(.int (0 : Int32))]))
  refine goRetS (v := some (.int (0 : Int32))) X1 hs hcell hmon hlk (fun h => by rw [hret] at h; cases h) e1 (fun V hV => retS X1 hx hret rfl (Or.inl ⟨rfl, Or.inr (Or.inl rfl), _, rfl⟩) (hb hby d5_8) hV) (by decide) (by decide) (fun h' M' K' hm' => ?_)
  exact ⟨rfl, N1, (K0.trans K' (allS (Or.inl (List.mem_singleton_self _)) all0)), ⟨(A_a1'.mon M'), (untEnd U0 (K0.trans K' (allS (Or.inl (List.mem_singleton_self _)) all0)) hm'), (F_claimedBy'.mon M'), (F_cancelled'.mon M'), (F_endingBegun'.mon M'), (F_queued'.mon M'), (F_runner'.mon M'), (F_cancelEnding'.mon M'), (F_cancelOutcome'.mon M')⟩⟩
set_option maxRecDepth 65536 in
set_option maxHeartbeats 40000000 in
theorem caAN (l : Launch) (Z : State) (a0 : Array Value) (hw : ∀ d ∈ tables_1, d.before a0 Z = true) (a1 : Addr) (p2 : Int32) (en oc : Value) (w_EXECUTE w_ADOPTER w_CANCELLED w_REFUSED w_HANDED_OVER w_CANCELLED_UNEXECUTED w_ENDING_NEEDED : Addr) (h0 : Heap) (n0 : Nat) (O0 : Old Z n0 h0) (U0 : Unt h0 a1) (g_a1 : n0 ≤ a1) (A_a1 : Exa Z h0 a1 "com/example/sidelane/sidelane/Cancellation") (F_claimedBy : Fld Z h0 a1 "com/example/sidelane/sidelane/Cancellation" "claimedBy" "Lcom/example/sidelane/sidelane/Cancellation$Claimant;" (.ref w_ADOPTER)) (F_cancelled : Fld Z h0 a1 "com/example/sidelane/sidelane/Cancellation" "cancelled" "Z" (.int (0 : Int32))) (F_endingBegun : Fld Z h0 a1 "com/example/sidelane/sidelane/Cancellation" "endingBegun" "Z" (.int (0 : Int32))) (F_queued : Fld Z h0 a1 "com/example/sidelane/sidelane/Cancellation" "queued" "Z" (.int (0 : Int32))) (F_runner : Fld Z h0 a1 "com/example/sidelane/sidelane/Cancellation" "runner" "Ljava/lang/Thread;" .null) (F_cancelEnding : Fld Z h0 a1 "com/example/sidelane/sidelane/Cancellation" "cancelEnding" "Ljava/lang/Object;" en) (F_cancelOutcome : Fld Z h0 a1 "com/example/sidelane/sidelane/Cancellation" "cancelOutcome" "Lcom/example/sidelane/sidelane/Cancellation$Outcome;" oc) (S_w_EXECUTE : Sta Z Z.heap "com/example/sidelane/sidelane/Cancellation$Claimant" "EXECUTE" "Lcom/example/sidelane/sidelane/Cancellation$Claimant;" (.ref w_EXECUTE)) (S_w_ADOPTER : Sta Z Z.heap "com/example/sidelane/sidelane/Cancellation$Claimant" "ADOPTER" "Lcom/example/sidelane/sidelane/Cancellation$Claimant;" (.ref w_ADOPTER)) (S_w_CANCELLED : Sta Z Z.heap "com/example/sidelane/sidelane/Cancellation$Outcome" "CANCELLED" "Lcom/example/sidelane/sidelane/Cancellation$Outcome;" (.ref w_CANCELLED)) (S_w_REFUSED : Sta Z Z.heap "com/example/sidelane/sidelane/Cancellation$Outcome" "REFUSED" "Lcom/example/sidelane/sidelane/Cancellation$Outcome;" (.ref w_REFUSED)) (S_w_HANDED_OVER : Sta Z Z.heap "com/example/sidelane/sidelane/Cancellation$Outcome" "HANDED_OVER" "Lcom/example/sidelane/sidelane/Cancellation$Outcome;" (.ref w_HANDED_OVER)) (S_w_CANCELLED_UNEXECUTED : Sta Z Z.heap "com/example/sidelane/sidelane/Cancellation$Outcome" "CANCELLED_UNEXECUTED" "Lcom/example/sidelane/sidelane/Cancellation$Outcome;" (.ref w_CANCELLED_UNEXECUTED)) (S_w_ENDING_NEEDED : Sta Z Z.heap "com/example/sidelane/sidelane/Cancellation$Outcome" "ENDING_NEEDED" "Lcom/example/sidelane/sidelane/Cancellation$Outcome;" (.ref w_ENDING_NEEDED)) (ne_w_EXECUTE_w_ADOPTER : w_EXECUTE ≠ w_ADOPTER) :
    CtrS l (⟨"com/example/sidelane/sidelane/Cancellation", "cancel", "(ZLjava/lang/Object;)Lcom/example/sidelane/sidelane/Cancellation$Outcome;"⟩ : MethodName) prog_3_method_2_code 5 (some (.object "com/example/sidelane/sidelane/Cancellation$Outcome")) ({ frames := 0, cells := 0, slots := 0, locals := 0 } : Room) #[(.ref a1), (.int p2), .null] Z h0 (fun v h L => (∃ r, v = some (.ref r)) ∧ Fr n0 L ∧ Keep h0 h [a1] ∧ own_ob Z h a1 (.ref w_ADOPTER) (0 : Int32) (0 : Int32) en oc) := by
  have ef : ∀ m : MethodId, entryFrameSync m #[(.ref a1), (.int p2), .null] 5 a1 = mkL a1 m 0 #[.val (.ref a1), .val (.int p2), .val .null, .unset, .unset] [] := fun m => by first | rfl | (simp [entryFrameSync, mkL, argsToLocals, Value.category]; done)
  refine CtrS.of (a := a1) (plainFor_of_name pn_7) rfl U0 ?_
  intro p e s0 s m below meth c s₁ cell hx hZ hby hml hown0 hnm hret hlk hs hcell hmon X0 M0 K0
  have hown : s.vm.findClass "com/example/sidelane/sidelane/Cancellation" = some m.cls := hown0
  have N0 := Fr.nil n0
  obtain ⟨h1, e0⟩ : ∃ z, s₁.heap = z := ⟨_, rfl⟩
  rw [e0] at M0 K0
  have O1 := O0.keep K0 (allS g_a1 all0)
  refine Go.st (fun t k => castTop (ef m) k) ?_
  have A_a1' : Exa Z h1 a1 "com/example/sidelane/sidelane/Cancellation" := A_a1.mon M0
  have F_claimedBy' : Fld Z h1 a1 "com/example/sidelane/sidelane/Cancellation" "claimedBy" "Lcom/example/sidelane/sidelane/Cancellation$Claimant;" (.ref w_ADOPTER) := F_claimedBy.mon M0
  have F_cancelled' : Fld Z h1 a1 "com/example/sidelane/sidelane/Cancellation" "cancelled" "Z" (.int (0 : Int32)) := F_cancelled.mon M0
  have F_endingBegun' : Fld Z h1 a1 "com/example/sidelane/sidelane/Cancellation" "endingBegun" "Z" (.int (0 : Int32)) := F_endingBegun.mon M0
  have F_queued' : Fld Z h1 a1 "com/example/sidelane/sidelane/Cancellation" "queued" "Z" (.int (0 : Int32)) := F_queued.mon M0
  have F_runner' : Fld Z h1 a1 "com/example/sidelane/sidelane/Cancellation" "runner" "Ljava/lang/Thread;" .null := F_runner.mon M0
  have F_cancelEnding' : Fld Z h1 a1 "com/example/sidelane/sidelane/Cancellation" "cancelEnding" "Ljava/lang/Object;" en := F_cancelEnding.mon M0
  have F_cancelOutcome' : Fld Z h1 a1 "com/example/sidelane/sidelane/Cancellation" "cancelOutcome" "Lcom/example/sidelane/sidelane/Cancellation$Outcome;" oc := F_cancelOutcome.mon M0
  show Go p e below _ (s₁.setTop (mkL a1 m 0 #[.val (.ref a1), .val (.int p2), .val .null, .unset, .unset] []))
  refine Go.st (fun _ => XS.aloadN X0.here hx rfl (hb hby d7_0) rfl rfl) ?_
  show Go p e below _ (s₁.setTop (mkL a1 m 1 #[.val (.ref a1), .val (.int p2), .val .null, .unset, .unset] [(.ref a1)]))
  obtain ⟨T1, X1, e1, st1⟩ := getF X0 hx hZ hown (host := "") (Or.inl (hw _ (List.mem_of_getElem? (i := 14) rfl))) Via.refl e0 F_claimedBy' (g := (mkL a1 m 1 #[.val (.ref a1), .val (.int p2), .val .null, .unset, .unset] [(.ref a1)])) rfl rfl (hb hby d7_1)
  refine Go.st st1 ?_
  show Go p e below _ (T1.setTop (mkL a1 m 4 #[.val (.ref a1), .val (.int p2), .val .null, .unset, .unset] [(.ref w_ADOPTER)]))
  obtain ⟨T2, X2, e2, st2⟩ := getS2 X1 hx hZ hown (host := "") (Or.inl (hw _ (List.mem_of_getElem? (i := 43) rfl))) Via.refl e1 (oldSta O1 S_w_ADOPTER) (g := (mkL a1 m 4 #[.val (.ref a1), .val (.int p2), .val .null, .unset, .unset] [(.ref w_ADOPTER)])) rfl (hb hby d7_4)
  refine Go.st st2 ?_
  show Go p e below _ (T2.setTop (mkL a1 m 7 #[.val (.ref a1), .val (.int p2), .val .null, .unset, .unset] [(.ref w_ADOPTER), (.ref w_ADOPTER)]))
  refine Go.st (fun _ => fun k => Jvm.RoadKit.acmp (g := (mkL a1 m 7 #[.val (.ref a1), .val (.int p2), .val .null, .unset, .unset] [(.ref w_ADOPTER), (.ref w_ADOPTER)])) X2 hx rfl rfl rfl (pc0 := 7) (pc' := 10) (same := true) rfl (hb hby d7_7) rfl (decide_eq_true rfl) (by decide) (by decide) k) ?_
  show Go p e below _ (T2.setTop (mkL a1 m 10 #[.val (.ref a1), .val (.int p2), .val .null, .unset, .unset] []))
  obtain ⟨T3, X3, e3, st3⟩ := getS2 X2 hx hZ hown (host := "") (Or.inl (hw _ (List.mem_of_getElem? (i := 60) rfl))) Via.refl e2 (oldSta O1 S_w_HANDED_OVER) (g := (mkL a1 m 10 #[.val (.ref a1), .val (.int p2), .val .null, .unset, .unset] [])) rfl (hb hby d7_10)
  refine Go.st st3 ?_
  show Go p e below _ (T3.setTop (mkL a1 m 13 #[.val (.ref a1), .val (.int p2), .val .null, .unset, .unset] [(.ref w_HANDED_OVER)]))
  refine goRetS (v := some (.ref w_HANDED_OVER)) X3 hs hcell hmon hlk (fun h => by rw [hret] at h; cases h) e3 (fun V hV => retS X3 hx hret rfl (Or.inr (Or.inr (Or.inr (Or.inr ⟨rfl, rfl, rfl⟩)))) (hb hby d7_13) hV) (by decide) (by decide) (fun h' M' K' hm' => ?_)
  exact ⟨⟨_, rfl⟩, N0, (K0.trans K' (allS (Or.inl (List.mem_singleton_self _)) all0)), ⟨(A_a1'.mon M'), (untEnd U0 (K0.trans K' (allS (Or.inl (List.mem_singleton_self _)) all0)) hm'), (F_claimedBy'.mon M'), (F_cancelled'.mon M'), (F_endingBegun'.mon M'), (F_queued'.mon M'), (F_runner'.mon M'), (F_cancelEnding'.mon M'), (F_cancelOutcome'.mon M')⟩⟩
set_option maxRecDepth 65536 in
set_option maxHeartbeats 40000000 in
theorem caGN (l : Launch) (Z : State) (a0 : Array Value) (hw : ∀ d ∈ tables_1, d.before a0 Z = true) (a1 : Addr) (p2 : Int32) (en oc : Value) (w_EXECUTE w_ADOPTER w_CANCELLED w_REFUSED w_HANDED_OVER w_CANCELLED_UNEXECUTED w_ENDING_NEEDED : Addr) (h0 : Heap) (n0 : Nat) (O0 : Old Z n0 h0) (U0 : Unt h0 a1) (g_a1 : n0 ≤ a1) (A_a1 : Exa Z h0 a1 "com/example/sidelane/sidelane/Cancellation") (F_claimedBy : Fld Z h0 a1 "com/example/sidelane/sidelane/Cancellation" "claimedBy" "Lcom/example/sidelane/sidelane/Cancellation$Claimant;" (.ref w_EXECUTE)) (F_cancelled : Fld Z h0 a1 "com/example/sidelane/sidelane/Cancellation" "cancelled" "Z" (.int (0 : Int32))) (F_endingBegun : Fld Z h0 a1 "com/example/sidelane/sidelane/Cancellation" "endingBegun" "Z" (.int (0 : Int32))) (F_queued : Fld Z h0 a1 "com/example/sidelane/sidelane/Cancellation" "queued" "Z" (.int (0 : Int32))) (F_runner : Fld Z h0 a1 "com/example/sidelane/sidelane/Cancellation" "runner" "Ljava/lang/Thread;" .null) (F_cancelEnding : Fld Z h0 a1 "com/example/sidelane/sidelane/Cancellation" "cancelEnding" "Ljava/lang/Object;" en) (F_cancelOutcome : Fld Z h0 a1 "com/example/sidelane/sidelane/Cancellation" "cancelOutcome" "Lcom/example/sidelane/sidelane/Cancellation$Outcome;" oc) (S_w_EXECUTE : Sta Z Z.heap "com/example/sidelane/sidelane/Cancellation$Claimant" "EXECUTE" "Lcom/example/sidelane/sidelane/Cancellation$Claimant;" (.ref w_EXECUTE)) (S_w_ADOPTER : Sta Z Z.heap "com/example/sidelane/sidelane/Cancellation$Claimant" "ADOPTER" "Lcom/example/sidelane/sidelane/Cancellation$Claimant;" (.ref w_ADOPTER)) (S_w_CANCELLED : Sta Z Z.heap "com/example/sidelane/sidelane/Cancellation$Outcome" "CANCELLED" "Lcom/example/sidelane/sidelane/Cancellation$Outcome;" (.ref w_CANCELLED)) (S_w_REFUSED : Sta Z Z.heap "com/example/sidelane/sidelane/Cancellation$Outcome" "REFUSED" "Lcom/example/sidelane/sidelane/Cancellation$Outcome;" (.ref w_REFUSED)) (S_w_HANDED_OVER : Sta Z Z.heap "com/example/sidelane/sidelane/Cancellation$Outcome" "HANDED_OVER" "Lcom/example/sidelane/sidelane/Cancellation$Outcome;" (.ref w_HANDED_OVER)) (S_w_CANCELLED_UNEXECUTED : Sta Z Z.heap "com/example/sidelane/sidelane/Cancellation$Outcome" "CANCELLED_UNEXECUTED" "Lcom/example/sidelane/sidelane/Cancellation$Outcome;" (.ref w_CANCELLED_UNEXECUTED)) (S_w_ENDING_NEEDED : Sta Z Z.heap "com/example/sidelane/sidelane/Cancellation$Outcome" "ENDING_NEEDED" "Lcom/example/sidelane/sidelane/Cancellation$Outcome;" (.ref w_ENDING_NEEDED)) (ne_w_EXECUTE_w_ADOPTER : w_EXECUTE ≠ w_ADOPTER) :
    CtrS l (⟨"com/example/sidelane/sidelane/Cancellation", "cancel", "(ZLjava/lang/Object;)Lcom/example/sidelane/sidelane/Cancellation$Outcome;"⟩ : MethodName) prog_3_method_2_code 5 (some (.object "com/example/sidelane/sidelane/Cancellation$Outcome")) ({ frames := 0, cells := 0, slots := 0, locals := 0 } : Room) #[(.ref a1), (.int p2), .null] Z h0 (fun v h L => (∃ r, v = some (.ref r)) ∧ Fr n0 L ∧ Keep h0 h [a1] ∧ own_ob Z h a1 (.ref w_EXECUTE) (1 : Int32) (0 : Int32) .null (.ref w_CANCELLED)) := by
  have ef : ∀ m : MethodId, entryFrameSync m #[(.ref a1), (.int p2), .null] 5 a1 = mkL a1 m 0 #[.val (.ref a1), .val (.int p2), .val .null, .unset, .unset] [] := fun m => by first | rfl | (simp [entryFrameSync, mkL, argsToLocals, Value.category]; done)
  refine CtrS.of (a := a1) (plainFor_of_name pn_7) rfl U0 ?_
  intro p e s0 s m below meth c s₁ cell hx hZ hby hml hown0 hnm hret hlk hs hcell hmon X0 M0 K0
  have hown : s.vm.findClass "com/example/sidelane/sidelane/Cancellation" = some m.cls := hown0
  have N0 := Fr.nil n0
  obtain ⟨h1, e0⟩ : ∃ z, s₁.heap = z := ⟨_, rfl⟩
  rw [e0] at M0 K0
  have O1 := O0.keep K0 (allS g_a1 all0)
  refine Go.st (fun t k => castTop (ef m) k) ?_
  have A_a1' : Exa Z h1 a1 "com/example/sidelane/sidelane/Cancellation" := A_a1.mon M0
  have F_claimedBy' : Fld Z h1 a1 "com/example/sidelane/sidelane/Cancellation" "claimedBy" "Lcom/example/sidelane/sidelane/Cancellation$Claimant;" (.ref w_EXECUTE) := F_claimedBy.mon M0
  have F_cancelled' : Fld Z h1 a1 "com/example/sidelane/sidelane/Cancellation" "cancelled" "Z" (.int (0 : Int32)) := F_cancelled.mon M0
  have F_endingBegun' : Fld Z h1 a1 "com/example/sidelane/sidelane/Cancellation" "endingBegun" "Z" (.int (0 : Int32)) := F_endingBegun.mon M0
  have F_queued' : Fld Z h1 a1 "com/example/sidelane/sidelane/Cancellation" "queued" "Z" (.int (0 : Int32)) := F_queued.mon M0
  have F_runner' : Fld Z h1 a1 "com/example/sidelane/sidelane/Cancellation" "runner" "Ljava/lang/Thread;" .null := F_runner.mon M0
  have F_cancelEnding' : Fld Z h1 a1 "com/example/sidelane/sidelane/Cancellation" "cancelEnding" "Ljava/lang/Object;" en := F_cancelEnding.mon M0
  have F_cancelOutcome' : Fld Z h1 a1 "com/example/sidelane/sidelane/Cancellation" "cancelOutcome" "Lcom/example/sidelane/sidelane/Cancellation$Outcome;" oc := F_cancelOutcome.mon M0
  show Go p e below _ (s₁.setTop (mkL a1 m 0 #[.val (.ref a1), .val (.int p2), .val .null, .unset, .unset] []))
  refine Go.st (fun _ => XS.aloadN X0.here hx rfl (hb hby d7_0) rfl rfl) ?_
  show Go p e below _ (s₁.setTop (mkL a1 m 1 #[.val (.ref a1), .val (.int p2), .val .null, .unset, .unset] [(.ref a1)]))
  obtain ⟨T1, X1, e1, st1⟩ := getF X0 hx hZ hown (host := "") (Or.inl (hw _ (List.mem_of_getElem? (i := 14) rfl))) Via.refl e0 F_claimedBy' (g := (mkL a1 m 1 #[.val (.ref a1), .val (.int p2), .val .null, .unset, .unset] [(.ref a1)])) rfl rfl (hb hby d7_1)
  refine Go.st st1 ?_
  show Go p e below _ (T1.setTop (mkL a1 m 4 #[.val (.ref a1), .val (.int p2), .val .null, .unset, .unset] [(.ref w_EXECUTE)]))
  obtain ⟨T2, X2, e2, st2⟩ := getS2 X1 hx hZ hown (host := "") (Or.inl (hw _ (List.mem_of_getElem? (i := 43) rfl))) Via.refl e1 (oldSta O1 S_w_ADOPTER) (g := (mkL a1 m 4 #[.val (.ref a1), .val (.int p2), .val .null, .unset, .unset] [(.ref w_EXECUTE)])) rfl (hb hby d7_4)
  refine Go.st st2 ?_
  show Go p e below _ (T2.setTop (mkL a1 m 7 #[.val (.ref a1), .val (.int p2), .val .null, .unset, .unset] [(.ref w_ADOPTER), (.ref w_EXECUTE)]))
  refine Go.st (fun _ => fun k => Jvm.RoadKit.acmp (g := (mkL a1 m 7 #[.val (.ref a1), .val (.int p2), .val .null, .unset, .unset] [(.ref w_ADOPTER), (.ref w_EXECUTE)])) X2 hx rfl rfl rfl (pc0 := 7) (pc' := 14) (same := false) rfl (hb hby d7_7) rfl (decide_eq_false fun q => ne_w_EXECUTE_w_ADOPTER (Value.ref.inj q)) (by decide) (by decide) k) ?_
  show Go p e below _ (T2.setTop (mkL a1 m 14 #[.val (.ref a1), .val (.int p2), .val .null, .unset, .unset] []))
  refine Go.st (fun _ => XS.aloadN X2.here hx rfl (hb hby d7_14) rfl rfl) ?_
  show Go p e below _ (T2.setTop (mkL a1 m 15 #[.val (.ref a1), .val (.int p2), .val .null, .unset, .unset] [(.ref a1)]))
  obtain ⟨T3, X3, e3, st3⟩ := getF X2 hx hZ hown (host := "") (Or.inl (hw _ (List.mem_of_getElem? (i := 16) rfl))) Via.refl e2 F_cancelled' (g := (mkL a1 m 15 #[.val (.ref a1), .val (.int p2), .val .null, .unset, .unset] [(.ref a1)])) rfl rfl (hb hby d7_15)
  refine Go.st st3 ?_
  show Go p e below _ (T3.setTop (mkL a1 m 18 #[.val (.ref a1), .val (.int p2), .val .null, .unset, .unset] [(.int (0 : Int32))]))
  refine Go.st (fun _ => XS.ifYes X3.here hx rfl (pc0 := 18) (pc' := 44) rfl (hb hby d7_18) rfl ((if0 _ _).trans (teq (by decide : (0 : Int32) = (0 : Int32))).1) (by decide) (by decide)) ?_
  show Go p e below _ (T3.setTop (mkL a1 m 44 #[.val (.ref a1), .val (.int p2), .val .null, .unset, .unset] []))
  refine Go.st (fun _ => XS.aloadN X3.here hx rfl (hb hby d7_44) rfl rfl) ?_
  show Go p e below _ (T3.setTop (mkL a1 m 45 #[.val (.ref a1), .val (.int p2), .val .null, .unset, .unset] [(.ref a1)]))
  obtain ⟨T4, X4, e4, st4⟩ := getF X3 hx hZ hown (host := "") (Or.inl (hw _ (List.mem_of_getElem? (i := 45) rfl))) Via.refl e3 F_endingBegun' (g := (mkL a1 m 45 #[.val (.ref a1), .val (.int p2), .val .null, .unset, .unset] [(.ref a1)])) rfl rfl (hb hby d7_45)
  refine Go.st st4 ?_
  show Go p e below _ (T4.setTop (mkL a1 m 48 #[.val (.ref a1), .val (.int p2), .val .null, .unset, .unset] [(.int (0 : Int32))]))
  refine Go.st (fun _ => XS.ifYes X4.here hx rfl (pc0 := 48) (pc' := 55) rfl (hb hby d7_48) rfl ((if0 _ _).trans (teq (by decide : (0 : Int32) = (0 : Int32))).1) (by decide) (by decide)) ?_
  show Go p e below _ (T4.setTop (mkL a1 m 55 #[.val (.ref a1), .val (.int p2), .val .null, .unset, .unset] []))
  refine Go.st (fun _ => XS.aloadN X4.here hx rfl (hb hby d7_55) rfl rfl) ?_
  show Go p e below _ (T4.setTop (mkL a1 m 56 #[.val (.ref a1), .val (.int p2), .val .null, .unset, .unset] [(.ref a1)]))
  obtain ⟨T5, X5, e5, st5⟩ := getF X4 hx hZ hown (host := "") (Or.inl (hw _ (List.mem_of_getElem? (i := 14) rfl))) Via.refl e4 F_claimedBy' (g := (mkL a1 m 56 #[.val (.ref a1), .val (.int p2), .val .null, .unset, .unset] [(.ref a1)])) rfl rfl (hb hby d7_56)
  refine Go.st st5 ?_
  show Go p e below _ (T5.setTop (mkL a1 m 59 #[.val (.ref a1), .val (.int p2), .val .null, .unset, .unset] [(.ref w_EXECUTE)]))
  obtain ⟨T6, X6, e6, st6⟩ := getS2 X5 hx hZ hown (host := "") (Or.inl (hw _ (List.mem_of_getElem? (i := 47) rfl))) Via.refl e5 (oldSta O1 S_w_EXECUTE) (g := (mkL a1 m 59 #[.val (.ref a1), .val (.int p2), .val .null, .unset, .unset] [(.ref w_EXECUTE)])) rfl (hb hby d7_59)
  refine Go.st st6 ?_
  show Go p e below _ (T6.setTop (mkL a1 m 62 #[.val (.ref a1), .val (.int p2), .val .null, .unset, .unset] [(.ref w_EXECUTE), (.ref w_EXECUTE)]))
  refine Go.st (fun _ => fun k => Jvm.RoadKit.acmp (g := (mkL a1 m 62 #[.val (.ref a1), .val (.int p2), .val .null, .unset, .unset] [(.ref w_EXECUTE), (.ref w_EXECUTE)])) X6 hx rfl rfl rfl (pc0 := 62) (pc' := 65) (same := true) rfl (hb hby d7_62) rfl (decide_eq_true rfl) (by decide) (by decide) k) ?_
  show Go p e below _ (T6.setTop (mkL a1 m 65 #[.val (.ref a1), .val (.int p2), .val .null, .unset, .unset] []))
  refine Go.st (fun _ => XS.iconst X6.here hx rfl (hb hby d7_65)) ?_
  show Go p e below _ (T6.setTop (mkL a1 m 66 #[.val (.ref a1), .val (.int p2), .val .null, .unset, .unset] [(.int (1 : Int32))]))
  refine Go.st (fun _ => XS.goto X6.here hx rfl (pc0 := 66) (pc' := 70) rfl (hb hby d7_66) (by decide) (by decide)) ?_
  show Go p e below _ (T6.setTop (mkL a1 m 70 #[.val (.ref a1), .val (.int p2), .val .null, .unset, .unset] [(.int (1 : Int32))]))
  refine Go.st (fun _ => XS.istoreN X6.here hx rfl (hb hby d7_70) rfl (l' := #[.val (.ref a1), .val (.int p2), .val .null, .val (.int (1 : Int32)), .unset]) rfl) ?_
  show Go p e below _ (T6.setTop (mkL a1 m 71 #[.val (.ref a1), .val (.int p2), .val .null, .val (.int (1 : Int32)), .unset] []))
  refine Go.st (fun _ => XS.iloadN X6.here hx rfl (hb hby d7_71) rfl) ?_
  show Go p e below _ (T6.setTop (mkL a1 m 72 #[.val (.ref a1), .val (.int p2), .val .null, .val (.int (1 : Int32)), .unset] [(.int (1 : Int32))]))
  refine Go.st (fun _ => XS.ifNo X6.here hx rfl (hb hby d7_72) rfl ((if0 _ _).trans (feq (by decide : ¬ ((1 : Int32) = (0 : Int32)))).1)) ?_
  show Go p e below _ (T6.setTop (mkL a1 m 75 #[.val (.ref a1), .val (.int p2), .val .null, .val (.int (1 : Int32)), .unset] []))
  refine Go.st (fun _ => XS.aloadN X6.here hx rfl (hb hby d7_75) rfl rfl) ?_
  show Go p e below _ (T6.setTop (mkL a1 m 76 #[.val (.ref a1), .val (.int p2), .val .null, .val (.int (1 : Int32)), .unset] [(.ref a1)]))
  obtain ⟨T7, X7, e7, st7⟩ := getF X6 hx hZ hown (host := "") (Or.inl (hw _ (List.mem_of_getElem? (i := 48) rfl))) Via.refl e6 F_queued' (g := (mkL a1 m 76 #[.val (.ref a1), .val (.int p2), .val .null, .val (.int (1 : Int32)), .unset] [(.ref a1)])) rfl rfl (hb hby d7_76)
  refine Go.st st7 ?_
  show Go p e below _ (T7.setTop (mkL a1 m 79 #[.val (.ref a1), .val (.int p2), .val .null, .val (.int (1 : Int32)), .unset] [(.int (0 : Int32))]))
  refine Go.st (fun _ => XS.ifYes X7.here hx rfl (pc0 := 79) (pc' := 86) rfl (hb hby d7_79) rfl ((if0 _ _).trans (teq (by decide : (0 : Int32) = (0 : Int32))).1) (by decide) (by decide)) ?_
  show Go p e below _ (T7.setTop (mkL a1 m 86 #[.val (.ref a1), .val (.int p2), .val .null, .val (.int (1 : Int32)), .unset] []))
  refine Go.st (fun _ => XS.iconst X7.here hx rfl (hb hby d7_86)) ?_
  show Go p e below _ (T7.setTop (mkL a1 m 87 #[.val (.ref a1), .val (.int p2), .val .null, .val (.int (1 : Int32)), .unset] [(.int (0 : Int32))]))
  refine Go.st (fun _ => XS.istore X7.here hx rfl (hb hby d7_87) rfl (l' := #[.val (.ref a1), .val (.int p2), .val .null, .val (.int (1 : Int32)), .val (.int (0 : Int32))]) rfl) ?_
  show Go p e below _ (T7.setTop (mkL a1 m 89 #[.val (.ref a1), .val (.int p2), .val .null, .val (.int (1 : Int32)), .val (.int (0 : Int32))] []))
  refine Go.st (fun _ => XS.iload X7.here hx rfl (hb hby d7_89) rfl) ?_
  show Go p e below _ (T7.setTop (mkL a1 m 91 #[.val (.ref a1), .val (.int p2), .val .null, .val (.int (1 : Int32)), .val (.int (0 : Int32))] [(.int (0 : Int32))]))
  refine Go.st (fun _ => XS.ifYes X7.here hx rfl (pc0 := 91) (pc' := 102) rfl (hb hby d7_91) rfl ((if0 _ _).trans (teq (by decide : (0 : Int32) = (0 : Int32))).1) (by decide) (by decide)) ?_
  show Go p e below _ (T7.setTop (mkL a1 m 102 #[.val (.ref a1), .val (.int p2), .val .null, .val (.int (1 : Int32)), .val (.int (0 : Int32))] []))
  refine Go.st (fun _ => XS.aloadN X7.here hx rfl (hb hby d7_102) rfl rfl) ?_
  show Go p e below _ (T7.setTop (mkL a1 m 103 #[.val (.ref a1), .val (.int p2), .val .null, .val (.int (1 : Int32)), .val (.int (0 : Int32))] [(.ref a1)]))
  refine Go.st (fun _ => XS.iconst X7.here hx rfl (hb hby d7_103)) ?_
  show Go p e below _ (T7.setTop (mkL a1 m 104 #[.val (.ref a1), .val (.int p2), .val .null, .val (.int (1 : Int32)), .val (.int (0 : Int32))] [(.int (1 : Int32)), (.ref a1)]))
  obtain ⟨T8, h8, X8, e8, W8, st8⟩ := putFN X7 hx hZ hown (hw _ (List.mem_of_getElem? (i := 16) rfl)) Via.refl e7 F_cancelled' A_a1' (Or.inl (hw _ (List.mem_of_getElem? (i := 17) rfl))) (hw _ (List.mem_of_getElem? (i := 1) rfl)) (ty := .boolean) (v' := .int (nar .boolean (1 : Int32))) (by decide) rfl (fits_nar_bool _) (g := (mkL a1 m 104 #[.val (.ref a1), .val (.int p2), .val .null, .val (.int (1 : Int32)), .val (.int (0 : Int32))] [(.int (1 : Int32)), (.ref a1)])) rfl rfl (hb hby d7_104)
  refine Go.st st8 ?_
  have O9 : Old Z n0 h8 := O1.wr W8 g_a1
  have K10 : Keep h0 h8 [a1] := K0.wr W8 (Or.inl (List.mem_of_getElem? (i := 0) rfl))
  have E_11 : Exa Z h8 a1 "com/example/sidelane/sidelane/Cancellation" := A_a1'.wr W8
  have F12 : Fld Z h8 a1 "com/example/sidelane/sidelane/Cancellation" "claimedBy" "Lcom/example/sidelane/sidelane/Cancellation$Claimant;" (.ref w_EXECUTE) := F_claimedBy'.other W8 (Or.inr (slot_ne (Or.inl (hw _ (List.mem_of_getElem? (i := 15) rfl))) (Or.inl (hw _ (List.mem_of_getElem? (i := 17) rfl))) (by decide) (t := (.object "com/example/sidelane/sidelane/Cancellation$Claimant")) (t' := .boolean) (by decide) (by decide)))
  have F13 : Fld Z h8 a1 "com/example/sidelane/sidelane/Cancellation" "endingBegun" "Z" (.int (0 : Int32)) := F_endingBegun'.other W8 (Or.inr (slot_ne (Or.inl (hw _ (List.mem_of_getElem? (i := 46) rfl))) (Or.inl (hw _ (List.mem_of_getElem? (i := 17) rfl))) (by decide) (t := .boolean) (t' := .boolean) (by decide) (by decide)))
  have F14 : Fld Z h8 a1 "com/example/sidelane/sidelane/Cancellation" "queued" "Z" (.int (0 : Int32)) := F_queued'.other W8 (Or.inr (slot_ne (Or.inl (hw _ (List.mem_of_getElem? (i := 49) rfl))) (Or.inl (hw _ (List.mem_of_getElem? (i := 17) rfl))) (by decide) (t := .boolean) (t' := .boolean) (by decide) (by decide)))
  have F15 : Fld Z h8 a1 "com/example/sidelane/sidelane/Cancellation" "runner" "Ljava/lang/Thread;" .null := F_runner'.other W8 (Or.inr (slot_ne (Or.inl (hw _ (List.mem_of_getElem? (i := 78) rfl))) (Or.inl (hw _ (List.mem_of_getElem? (i := 17) rfl))) (by decide) (t := (.object "java/lang/Thread")) (t' := .boolean) (by decide) (by decide)))
  have F16 : Fld Z h8 a1 "com/example/sidelane/sidelane/Cancellation" "cancelEnding" "Ljava/lang/Object;" en := F_cancelEnding'.other W8 (Or.inr (slot_ne (Or.inl (hw _ (List.mem_of_getElem? (i := 56) rfl))) (Or.inl (hw _ (List.mem_of_getElem? (i := 17) rfl))) (by decide) (t := (.object "java/lang/Object")) (t' := .boolean) (by decide) (by decide)))
  have F17 : Fld Z h8 a1 "com/example/sidelane/sidelane/Cancellation" "cancelOutcome" "Lcom/example/sidelane/sidelane/Cancellation$Outcome;" oc := F_cancelOutcome'.other W8 (Or.inr (slot_ne (Or.inl (hw _ (List.mem_of_getElem? (i := 54) rfl))) (Or.inl (hw _ (List.mem_of_getElem? (i := 17) rfl))) (by decide) (t := (.object "com/example/sidelane/sidelane/Cancellation$Outcome")) (t' := .boolean) (by decide) (by decide)))
  have F18 : Fld Z h8 a1 "com/example/sidelane/sidelane/Cancellation" "cancelled" "Z" (.int (1 : Int32)) := F_cancelled'.same W8
  have N8 := Fr.snoc X8 N0 g_a1
  show Go p e below _ (T8.setTop (mkL a1 m 107 #[.val (.ref a1), .val (.int p2), .val .null, .val (.int (1 : Int32)), .val (.int (0 : Int32))] []))
  refine Go.st (fun _ => XS.iloadN X8.here hx rfl (hb hby d7_107) rfl) ?_
  show Go p e below _ (T8.setTop (mkL a1 m 108 #[.val (.ref a1), .val (.int p2), .val .null, .val (.int (1 : Int32)), .val (.int (0 : Int32))] [(.int p2)]))
  by_cases hc19 : p2 = (0 : Int32)
  · refine Go.st (fun _ => XS.ifYes X8.here hx rfl (pc0 := 108) (pc' := 125) rfl (hb hby d7_108) rfl ((if0 _ _).trans (teq hc19).1) (by decide) (by decide)) ?_
    show Go p e below _ (T8.setTop (mkL a1 m 125 #[.val (.ref a1), .val (.int p2), .val .null, .val (.int (1 : Int32)), .val (.int (0 : Int32))] []))
    refine Go.st (fun _ => XS.iloadN X8.here hx rfl (hb hby d7_125) rfl) ?_
    show Go p e below _ (T8.setTop (mkL a1 m 126 #[.val (.ref a1), .val (.int p2), .val .null, .val (.int (1 : Int32)), .val (.int (0 : Int32))] [(.int (1 : Int32))]))
    refine Go.st (fun _ => XS.ifYes X8.here hx rfl (pc0 := 126) (pc' := 139) rfl (hb hby d7_126) rfl ((if0 _ _).trans (feq (by decide : ¬ ((1 : Int32) = (0 : Int32)))).2) (by decide) (by decide)) ?_
    show Go p e below _ (T8.setTop (mkL a1 m 139 #[.val (.ref a1), .val (.int p2), .val .null, .val (.int (1 : Int32)), .val (.int (0 : Int32))] []))
    refine Go.st (fun _ => XS.aloadN X8.here hx rfl (hb hby d7_139) rfl rfl) ?_
    show Go p e below _ (T8.setTop (mkL a1 m 140 #[.val (.ref a1), .val (.int p2), .val .null, .val (.int (1 : Int32)), .val (.int (0 : Int32))] [(.ref a1)]))
    obtain ⟨T20, X20, e20, st20⟩ := getF X8 hx hZ hown (host := "") (Or.inl (hw _ (List.mem_of_getElem? (i := 48) rfl))) Via.refl e8 F14 (g := (mkL a1 m 140 #[.val (.ref a1), .val (.int p2), .val .null, .val (.int (1 : Int32)), .val (.int (0 : Int32))] [(.ref a1)])) rfl rfl (hb hby d7_140)
    refine Go.st st20 ?_
    show Go p e below _ (T20.setTop (mkL a1 m 143 #[.val (.ref a1), .val (.int p2), .val .null, .val (.int (1 : Int32)), .val (.int (0 : Int32))] [(.int (0 : Int32))]))
    refine Go.st (fun _ => XS.ifYes X20.here hx rfl (pc0 := 143) (pc' := 156) rfl (hb hby d7_143) rfl ((if0 _ _).trans (teq (by decide : (0 : Int32) = (0 : Int32))).1) (by decide) (by decide)) ?_
    show Go p e below _ (T20.setTop (mkL a1 m 156 #[.val (.ref a1), .val (.int p2), .val .null, .val (.int (1 : Int32)), .val (.int (0 : Int32))] []))
    refine Go.st (fun _ => XS.aloadN X20.here hx rfl (hb hby d7_156) rfl rfl) ?_
    show Go p e below _ (T20.setTop (mkL a1 m 157 #[.val (.ref a1), .val (.int p2), .val .null, .val (.int (1 : Int32)), .val (.int (0 : Int32))] [(.ref a1)]))
    obtain ⟨T21, X21, e21, st21⟩ := getS2 X20 hx hZ hown (host := "") (Or.inl (hw _ (List.mem_of_getElem? (i := 50) rfl))) Via.refl e20 (oldSta O9 S_w_CANCELLED) (g := (mkL a1 m 157 #[.val (.ref a1), .val (.int p2), .val .null, .val (.int (1 : Int32)), .val (.int (0 : Int32))] [(.ref a1)])) rfl (hb hby d7_157)
    refine Go.st st21 ?_
    show Go p e below _ (T21.setTop (mkL a1 m 160 #[.val (.ref a1), .val (.int p2), .val .null, .val (.int (1 : Int32)), .val (.int (0 : Int32))] [(.ref w_CANCELLED), (.ref a1)]))
    obtain ⟨T22, h22, X22, e22, W22, st22⟩ := putF X21 hx hZ hown (host := "") (Or.inl (hw _ (List.mem_of_getElem? (i := 53) rfl))) Via.refl e21 F17 E_11 (Or.inl (hw _ (List.mem_of_getElem? (i := 54) rfl))) (hw _ (List.mem_of_getElem? (i := 1) rfl)) (ty := (.object "com/example/sidelane/sidelane/Cancellation$Outcome")) (by decide) rfl rfl (g := (mkL a1 m 160 #[.val (.ref a1), .val (.int p2), .val .null, .val (.int (1 : Int32)), .val (.int (0 : Int32))] [(.ref w_CANCELLED), (.ref a1)])) rfl rfl (hb hby d7_160)
    refine Go.st st22 ?_
    have O23 : Old Z n0 h22 := O9.wr W22 g_a1
    have K24 : Keep h0 h22 [a1] := K10.wr W22 (Or.inl (List.mem_of_getElem? (i := 0) rfl))
    have E_25 : Exa Z h22 a1 "com/example/sidelane/sidelane/Cancellation" := E_11.wr W22
    have F26 : Fld Z h22 a1 "com/example/sidelane/sidelane/Cancellation" "claimedBy" "Lcom/example/sidelane/sidelane/Cancellation$Claimant;" (.ref w_EXECUTE) := F12.other W22 (Or.inr (slot_ne (Or.inl (hw _ (List.mem_of_getElem? (i := 15) rfl))) (Or.inl (hw _ (List.mem_of_getElem? (i := 54) rfl))) (by decide) (t := (.object "com/example/sidelane/sidelane/Cancellation$Claimant")) (t' := (.object "com/example/sidelane/sidelane/Cancellation$Outcome")) (by decide) (by decide)))
    have F27 : Fld Z h22 a1 "com/example/sidelane/sidelane/Cancellation" "endingBegun" "Z" (.int (0 : Int32)) := F13.other W22 (Or.inr (slot_ne (Or.inl (hw _ (List.mem_of_getElem? (i := 46) rfl))) (Or.inl (hw _ (List.mem_of_getElem? (i := 54) rfl))) (by decide) (t := .boolean) (t' := (.object "com/example/sidelane/sidelane/Cancellation$Outcome")) (by decide) (by decide)))
    have F28 : Fld Z h22 a1 "com/example/sidelane/sidelane/Cancellation" "queued" "Z" (.int (0 : Int32)) := F14.other W22 (Or.inr (slot_ne (Or.inl (hw _ (List.mem_of_getElem? (i := 49) rfl))) (Or.inl (hw _ (List.mem_of_getElem? (i := 54) rfl))) (by decide) (t := .boolean) (t' := (.object "com/example/sidelane/sidelane/Cancellation$Outcome")) (by decide) (by decide)))
    have F29 : Fld Z h22 a1 "com/example/sidelane/sidelane/Cancellation" "runner" "Ljava/lang/Thread;" .null := F15.other W22 (Or.inr (slot_ne (Or.inl (hw _ (List.mem_of_getElem? (i := 78) rfl))) (Or.inl (hw _ (List.mem_of_getElem? (i := 54) rfl))) (by decide) (t := (.object "java/lang/Thread")) (t' := (.object "com/example/sidelane/sidelane/Cancellation$Outcome")) (by decide) (by decide)))
    have F30 : Fld Z h22 a1 "com/example/sidelane/sidelane/Cancellation" "cancelEnding" "Ljava/lang/Object;" en := F16.other W22 (Or.inr (slot_ne (Or.inl (hw _ (List.mem_of_getElem? (i := 56) rfl))) (Or.inl (hw _ (List.mem_of_getElem? (i := 54) rfl))) (by decide) (t := (.object "java/lang/Object")) (t' := (.object "com/example/sidelane/sidelane/Cancellation$Outcome")) (by decide) (by decide)))
    have F31 : Fld Z h22 a1 "com/example/sidelane/sidelane/Cancellation" "cancelled" "Z" (.int (1 : Int32)) := F18.other W22 (Or.inr (slot_ne (Or.inl (hw _ (List.mem_of_getElem? (i := 17) rfl))) (Or.inl (hw _ (List.mem_of_getElem? (i := 54) rfl))) (by decide) (t := .boolean) (t' := (.object "com/example/sidelane/sidelane/Cancellation$Outcome")) (by decide) (by decide)))
    have F32 : Fld Z h22 a1 "com/example/sidelane/sidelane/Cancellation" "cancelOutcome" "Lcom/example/sidelane/sidelane/Cancellation$Outcome;" (.ref w_CANCELLED) := F17.same W22
    have N22 := Fr.snoc X22 N8 g_a1
    show Go p e below _ (T22.setTop (mkL a1 m 163 #[.val (.ref a1), .val (.int p2), .val .null, .val (.int (1 : Int32)), .val (.int (0 : Int32))] []))
    refine Go.st (fun _ => XS.aloadN X22.here hx rfl (hb hby d7_163) rfl rfl) ?_
    show Go p e below _ (T22.setTop (mkL a1 m 164 #[.val (.ref a1), .val (.int p2), .val .null, .val (.int (1 : Int32)), .val (.int (0 : Int32))] [(.ref a1)]))
    refine Go.st (fun _ => XS.aloadN X22.here hx rfl (hb hby d7_164) rfl rfl) ?_
    show Go p e below _ (T22.setTop (mkL a1 m 165 #[.val (.ref a1), .val (.int p2), .val .null, .val (.int (1 : Int32)), .val (.int (0 : Int32))] [.null, (.ref a1)]))
    obtain ⟨T33, h33, X33, e33, W33, st33⟩ := putF X22 hx hZ hown (host := "") (Or.inl (hw _ (List.mem_of_getElem? (i := 55) rfl))) Via.refl e22 F30 E_25 (Or.inl (hw _ (List.mem_of_getElem? (i := 56) rfl))) (hw _ (List.mem_of_getElem? (i := 1) rfl)) (ty := (.object "java/lang/Object")) (by decide) rfl rfl (g := (mkL a1 m 165 #[.val (.ref a1), .val (.int p2), .val .null, .val (.int (1 : Int32)), .val (.int (0 : Int32))] [.null, (.ref a1)])) rfl rfl (hb hby d7_165)
    refine Go.st st33 ?_
    have O34 : Old Z n0 h33 := O23.wr W33 g_a1
    have K35 : Keep h0 h33 [a1] := K24.wr W33 (Or.inl (List.mem_of_getElem? (i := 0) rfl))
    have E_36 : Exa Z h33 a1 "com/example/sidelane/sidelane/Cancellation" := E_25.wr W33
    have F37 : Fld Z h33 a1 "com/example/sidelane/sidelane/Cancellation" "claimedBy" "Lcom/example/sidelane/sidelane/Cancellation$Claimant;" (.ref w_EXECUTE) := F26.other W33 (Or.inr (slot_ne (Or.inl (hw _ (List.mem_of_getElem? (i := 15) rfl))) (Or.inl (hw _ (List.mem_of_getElem? (i := 56) rfl))) (by decide) (t := (.object "com/example/sidelane/sidelane/Cancellation$Claimant")) (t' := (.object "java/lang/Object")) (by decide) (by decide)))
    have F38 : Fld Z h33 a1 "com/example/sidelane/sidelane/Cancellation" "endingBegun" "Z" (.int (0 : Int32)) := F27.other W33 (Or.inr (slot_ne (Or.inl (hw _ (List.mem_of_getElem? (i := 46) rfl))) (Or.inl (hw _ (List.mem_of_getElem? (i := 56) rfl))) (by decide) (t := .boolean) (t' := (.object "java/lang/Object")) (by decide) (by decide)))
    have F39 : Fld Z h33 a1 "com/example/sidelane/sidelane/Cancellation" "queued" "Z" (.int (0 : Int32)) := F28.other W33 (Or.inr (slot_ne (Or.inl (hw _ (List.mem_of_getElem? (i := 49) rfl))) (Or.inl (hw _ (List.mem_of_getElem? (i := 56) rfl))) (by decide) (t := .boolean) (t' := (.object "java/lang/Object")) (by decide) (by decide)))
    have F40 : Fld Z h33 a1 "com/example/sidelane/sidelane/Cancellation" "runner" "Ljava/lang/Thread;" .null := F29.other W33 (Or.inr (slot_ne (Or.inl (hw _ (List.mem_of_getElem? (i := 78) rfl))) (Or.inl (hw _ (List.mem_of_getElem? (i := 56) rfl))) (by decide) (t := (.object "java/lang/Thread")) (t' := (.object "java/lang/Object")) (by decide) (by decide)))
    have F41 : Fld Z h33 a1 "com/example/sidelane/sidelane/Cancellation" "cancelled" "Z" (.int (1 : Int32)) := F31.other W33 (Or.inr (slot_ne (Or.inl (hw _ (List.mem_of_getElem? (i := 17) rfl))) (Or.inl (hw _ (List.mem_of_getElem? (i := 56) rfl))) (by decide) (t := .boolean) (t' := (.object "java/lang/Object")) (by decide) (by decide)))
    have F42 : Fld Z h33 a1 "com/example/sidelane/sidelane/Cancellation" "cancelOutcome" "Lcom/example/sidelane/sidelane/Cancellation$Outcome;" (.ref w_CANCELLED) := F32.other W33 (Or.inr (slot_ne (Or.inl (hw _ (List.mem_of_getElem? (i := 54) rfl))) (Or.inl (hw _ (List.mem_of_getElem? (i := 56) rfl))) (by decide) (t := (.object "com/example/sidelane/sidelane/Cancellation$Outcome")) (t' := (.object "java/lang/Object")) (by decide) (by decide)))
    have F43 : Fld Z h33 a1 "com/example/sidelane/sidelane/Cancellation" "cancelEnding" "Ljava/lang/Object;" .null := F30.same W33
    have N33 := Fr.snoc X33 N22 g_a1
    show Go p e below _ (T33.setTop (mkL a1 m 168 #[.val (.ref a1), .val (.int p2), .val .null, .val (.int (1 : Int32)), .val (.int (0 : Int32))] []))
    refine Go.st (fun _ => XS.aloadN X33.here hx rfl (hb hby d7_168) rfl rfl) ?_
    show Go p e below _ (T33.setTop (mkL a1 m 169 #[.val (.ref a1), .val (.int p2), .val .null, .val (.int (1 : Int32)), .val (.int (0 : Int32))] [(.ref a1)]))
    obtain ⟨T44, X44, e44, st44⟩ := getF X33 hx hZ hown (host := "") (Or.inl (hw _ (List.mem_of_getElem? (i := 53) rfl))) Via.refl e33 F42 (g := (mkL a1 m 169 #[.val (.ref a1), .val (.int p2), .val .null, .val (.int (1 : Int32)), .val (.int (0 : Int32))] [(.ref a1)])) rfl rfl (hb hby d7_169)
    refine Go.st st44 ?_
    show Go p e below _ (T44.setTop (mkL a1 m 172 #[.val (.ref a1), .val (.int p2), .val .null, .val (.int (1 : Int32)), .val (.int (0 : Int32))] [(.ref w_CANCELLED)]))
    refine goRetS (v := some (.ref w_CANCELLED)) X44 hs hcell hmon hlk (fun h => by rw [hret] at h; cases h) e44 (fun V hV => retS X44 hx hret rfl (Or.inr (Or.inr (Or.inr (Or.inr ⟨rfl, rfl, rfl⟩)))) (hb hby d7_172) hV) (by decide) (by decide) (fun h' M' K' hm' => ?_)
    exact ⟨⟨_, rfl⟩, N33, (K35.trans K' (allS (Or.inl (List.mem_singleton_self _)) all0)), ⟨(E_36.mon M'), (untEnd U0 (K35.trans K' (allS (Or.inl (List.mem_singleton_self _)) all0)) hm'), (F37.mon M'), (F41.mon M'), (F38.mon M'), (F39.mon M'), (F40.mon M'), (F43.mon M'), (F42.mon M')⟩⟩
  · refine Go.st (fun _ => XS.ifNo X8.here hx rfl (hb hby d7_108) rfl ((if0 _ _).trans (feq hc19).1)) ?_
    show Go p e below _ (T8.setTop (mkL a1 m 111 #[.val (.ref a1), .val (.int p2), .val .null, .val (.int (1 : Int32)), .val (.int (0 : Int32))] []))
    refine Go.st (fun _ => XS.aloadN X8.here hx rfl (hb hby d7_111) rfl rfl) ?_
    show Go p e below _ (T8.setTop (mkL a1 m 112 #[.val (.ref a1), .val (.int p2), .val .null, .val (.int (1 : Int32)), .val (.int (0 : Int32))] [(.ref a1)]))
    obtain ⟨T45, X45, e45, st45⟩ := getF X8 hx hZ hown (host := "") (Or.inl (hw _ (List.mem_of_getElem? (i := 77) rfl))) Via.refl e8 F15 (g := (mkL a1 m 112 #[.val (.ref a1), .val (.int p2), .val .null, .val (.int (1 : Int32)), .val (.int (0 : Int32))] [(.ref a1)])) rfl rfl (hb hby d7_112)
    refine Go.st st45 ?_
    show Go p e below _ (T45.setTop (mkL a1 m 115 #[.val (.ref a1), .val (.int p2), .val .null, .val (.int (1 : Int32)), .val (.int (0 : Int32))] [.null]))
    refine Go.st (fun _ => XS.ifnullYes X45.here hx rfl (pc0 := 115) (pc' := 125) rfl (hb hby d7_115) rfl (by decide) (by decide)) ?_
    show Go p e below _ (T45.setTop (mkL a1 m 125 #[.val (.ref a1), .val (.int p2), .val .null, .val (.int (1 : Int32)), .val (.int (0 : Int32))] []))
    refine Go.st (fun _ => XS.iloadN X45.here hx rfl (hb hby d7_125) rfl) ?_
    show Go p e below _ (T45.setTop (mkL a1 m 126 #[.val (.ref a1), .val (.int p2), .val .null, .val (.int (1 : Int32)), .val (.int (0 : Int32))] [(.int (1 : Int32))]))
    refine Go.st (fun _ => XS.ifYes X45.here hx rfl (pc0 := 126) (pc' := 139) rfl (hb hby d7_126) rfl ((if0 _ _).trans (feq (by decide : ¬ ((1 : Int32) = (0 : Int32)))).2) (by decide) (by decide)) ?_
    show Go p e below _ (T45.setTop (mkL a1 m 139 #[.val (.ref a1), .val (.int p2), .val .null, .val (.int (1 : Int32)), .val (.int (0 : Int32))] []))
    refine Go.st (fun _ => XS.aloadN X45.here hx rfl (hb hby d7_139) rfl rfl) ?_
    show Go p e below _ (T45.setTop (mkL a1 m 140 #[.val (.ref a1), .val (.int p2), .val .null, .val (.int (1 : Int32)), .val (.int (0 : Int32))] [(.ref a1)]))
    obtain ⟨T46, X46, e46, st46⟩ := getF X45 hx hZ hown (host := "") (Or.inl (hw _ (List.mem_of_getElem? (i := 48) rfl))) Via.refl e45 F14 (g := (mkL a1 m 140 #[.val (.ref a1), .val (.int p2), .val .null, .val (.int (1 : Int32)), .val (.int (0 : Int32))] [(.ref a1)])) rfl rfl (hb hby d7_140)
    refine Go.st st46 ?_
    show Go p e below _ (T46.setTop (mkL a1 m 143 #[.val (.ref a1), .val (.int p2), .val .null, .val (.int (1 : Int32)), .val (.int (0 : Int32))] [(.int (0 : Int32))]))
    refine Go.st (fun _ => XS.ifYes X46.here hx rfl (pc0 := 143) (pc' := 156) rfl (hb hby d7_143) rfl ((if0 _ _).trans (teq (by decide : (0 : Int32) = (0 : Int32))).1) (by decide) (by decide)) ?_
    show Go p e below _ (T46.setTop (mkL a1 m 156 #[.val (.ref a1), .val (.int p2), .val .null, .val (.int (1 : Int32)), .val (.int (0 : Int32))] []))
    refine Go.st (fun _ => XS.aloadN X46.here hx rfl (hb hby d7_156) rfl rfl) ?_
    show Go p e below _ (T46.setTop (mkL a1 m 157 #[.val (.ref a1), .val (.int p2), .val .null, .val (.int (1 : Int32)), .val (.int (0 : Int32))] [(.ref a1)]))
    obtain ⟨T47, X47, e47, st47⟩ := getS2 X46 hx hZ hown (host := "") (Or.inl (hw _ (List.mem_of_getElem? (i := 50) rfl))) Via.refl e46 (oldSta O9 S_w_CANCELLED) (g := (mkL a1 m 157 #[.val (.ref a1), .val (.int p2), .val .null, .val (.int (1 : Int32)), .val (.int (0 : Int32))] [(.ref a1)])) rfl (hb hby d7_157)
    refine Go.st st47 ?_
    show Go p e below _ (T47.setTop (mkL a1 m 160 #[.val (.ref a1), .val (.int p2), .val .null, .val (.int (1 : Int32)), .val (.int (0 : Int32))] [(.ref w_CANCELLED), (.ref a1)]))
    obtain ⟨T48, h48, X48, e48, W48, st48⟩ := putF X47 hx hZ hown (host := "") (Or.inl (hw _ (List.mem_of_getElem? (i := 53) rfl))) Via.refl e47 F17 E_11 (Or.inl (hw _ (List.mem_of_getElem? (i := 54) rfl))) (hw _ (List.mem_of_getElem? (i := 1) rfl)) (ty := (.object "com/example/sidelane/sidelane/Cancellation$Outcome")) (by decide) rfl rfl (g := (mkL a1 m 160 #[.val (.ref a1), .val (.int p2), .val .null, .val (.int (1 : Int32)), .val (.int (0 : Int32))] [(.ref w_CANCELLED), (.ref a1)])) rfl rfl (hb hby d7_160)
    refine Go.st st48 ?_
    have O49 : Old Z n0 h48 := O9.wr W48 g_a1
    have K50 : Keep h0 h48 [a1] := K10.wr W48 (Or.inl (List.mem_of_getElem? (i := 0) rfl))
    have E_51 : Exa Z h48 a1 "com/example/sidelane/sidelane/Cancellation" := E_11.wr W48
    have F52 : Fld Z h48 a1 "com/example/sidelane/sidelane/Cancellation" "claimedBy" "Lcom/example/sidelane/sidelane/Cancellation$Claimant;" (.ref w_EXECUTE) := F12.other W48 (Or.inr (slot_ne (Or.inl (hw _ (List.mem_of_getElem? (i := 15) rfl))) (Or.inl (hw _ (List.mem_of_getElem? (i := 54) rfl))) (by decide) (t := (.object "com/example/sidelane/sidelane/Cancellation$Claimant")) (t' := (.object "com/example/sidelane/sidelane/Cancellation$Outcome")) (by decide) (by decide)))
    have F53 : Fld Z h48 a1 "com/example/sidelane/sidelane/Cancellation" "endingBegun" "Z" (.int (0 : Int32)) := F13.other W48 (Or.inr (slot_ne (Or.inl (hw _ (List.mem_of_getElem? (i := 46) rfl))) (Or.inl (hw _ (List.mem_of_getElem? (i := 54) rfl))) (by decide) (t := .boolean) (t' := (.object "com/example/sidelane/sidelane/Cancellation$Outcome")) (by decide) (by decide)))
    have F54 : Fld Z h48 a1 "com/example/sidelane/sidelane/Cancellation" "queued" "Z" (.int (0 : Int32)) := F14.other W48 (Or.inr (slot_ne (Or.inl (hw _ (List.mem_of_getElem? (i := 49) rfl))) (Or.inl (hw _ (List.mem_of_getElem? (i := 54) rfl))) (by decide) (t := .boolean) (t' := (.object "com/example/sidelane/sidelane/Cancellation$Outcome")) (by decide) (by decide)))
    have F55 : Fld Z h48 a1 "com/example/sidelane/sidelane/Cancellation" "runner" "Ljava/lang/Thread;" .null := F15.other W48 (Or.inr (slot_ne (Or.inl (hw _ (List.mem_of_getElem? (i := 78) rfl))) (Or.inl (hw _ (List.mem_of_getElem? (i := 54) rfl))) (by decide) (t := (.object "java/lang/Thread")) (t' := (.object "com/example/sidelane/sidelane/Cancellation$Outcome")) (by decide) (by decide)))
    have F56 : Fld Z h48 a1 "com/example/sidelane/sidelane/Cancellation" "cancelEnding" "Ljava/lang/Object;" en := F16.other W48 (Or.inr (slot_ne (Or.inl (hw _ (List.mem_of_getElem? (i := 56) rfl))) (Or.inl (hw _ (List.mem_of_getElem? (i := 54) rfl))) (by decide) (t := (.object "java/lang/Object")) (t' := (.object "com/example/sidelane/sidelane/Cancellation$Outcome")) (by decide) (by decide)))
    have F57 : Fld Z h48 a1 "com/example/sidelane/sidelane/Cancellation" "cancelled" "Z" (.int (1 : Int32)) := F18.other W48 (Or.inr (slot_ne (Or.inl (hw _ (List.mem_of_getElem? (i := 17) rfl))) (Or.inl (hw _ (List.mem_of_getElem? (i := 54) rfl))) (by decide) (t := .boolean) (t' := (.object "com/example/sidelane/sidelane/Cancellation$Outcome")) (by decide) (by decide)))
    have F58 : Fld Z h48 a1 "com/example/sidelane/sidelane/Cancellation" "cancelOutcome" "Lcom/example/sidelane/sidelane/Cancellation$Outcome;" (.ref w_CANCELLED) := F17.same W48
    have N48 := Fr.snoc X48 N8 g_a1
    show Go p e below _ (T48.setTop (mkL a1 m 163 #[.val (.ref a1), .val (.int p2), .val .null, .val (.int (1 : Int32)), .val (.int (0 : Int32))] []))
    refine Go.st (fun _ => XS.aloadN X48.here hx rfl (hb hby d7_163) rfl rfl) ?_
    show Go p e below _ (T48.setTop (mkL a1 m 164 #[.val (.ref a1), .val (.int p2), .val .null, .val (.int (1 : Int32)), .val (.int (0 : Int32))] [(.ref a1)]))
    refine Go.st (fun _ => XS.aloadN X48.here hx rfl (hb hby d7_164) rfl rfl) ?_
    show Go p e below _ (T48.setTop (mkL a1 m 165 #[.val (.ref a1), .val (.int p2), .val .null, .val (.int (1 : Int32)), .val (.int (0 : Int32))] [.null, (.ref a1)]))
    obtain ⟨T59, h59, X59, e59, W59, st59⟩ := putF X48 hx hZ hown (host := "") (Or.inl (hw _ (List.mem_of_getElem? (i := 55) rfl))) Via.refl e48 F56 E_51 (Or.inl (hw _ (List.mem_of_getElem? (i := 56) rfl))) (hw _ (List.mem_of_getElem? (i := 1) rfl)) (ty := (.object "java/lang/Object")) (by decide) rfl rfl (g := (mkL a1 m 165 #[.val (.ref a1), .val (.int p2), .val .null, .val (.int (1 : Int32)), .val (.int (0 : Int32))] [.null, (.ref a1)])) rfl rfl (hb hby d7_165)
    refine Go.st st59 ?_
    have O60 : Old Z n0 h59 := O49.wr W59 g_a1
    have K61 : Keep h0 h59 [a1] := K50.wr W59 (Or.inl (List.mem_of_getElem? (i := 0) rfl))
    have E_62 : Exa Z h59 a1 "com/example/sidelane/sidelane/Cancellation" := E_51.wr W59
    have F63 : Fld Z h59 a1 "com/example/sidelane/sidelane/Cancellation" "claimedBy" "Lcom/example/sidelane/sidelane/Cancellation$Claimant;" (.ref w_EXECUTE) := F52.other W59 (Or.inr (slot_ne (Or.inl (hw _ (List.mem_of_getElem? (i := 15) rfl))) (Or.inl (hw _ (List.mem_of_getElem? (i := 56) rfl))) (by decide) (t := (.object "com/example/sidelane/sidelane/Cancellation$Claimant")) (t' := (.object "java/lang/Object")) (by decide) (by decide)))
    have F64 : Fld Z h59 a1 "com/example/sidelane/sidelane/Cancellation" "endingBegun" "Z" (.int (0 : Int32)) := F53.other W59 (Or.inr (slot_ne (Or.inl (hw _ (List.mem_of_getElem? (i := 46) rfl))) (Or.inl (hw _ (List.mem_of_getElem? (i := 56) rfl))) (by decide) (t := .boolean) (t' := (.object "java/lang/Object")) (by decide) (by decide)))
    have F65 : Fld Z h59 a1 "com/example/sidelane/sidelane/Cancellation" "queued" "Z" (.int (0 : Int32)) := F54.other W59 (Or.inr (slot_ne (Or.inl (hw _ (List.mem_of_getElem? (i := 49) rfl))) (Or.inl (hw _ (List.mem_of_getElem? (i := 56) rfl))) (by decide) (t := .boolean) (t' := (.object "java/lang/Object")) (by decide) (by decide)))
    have F66 : Fld Z h59 a1 "com/example/sidelane/sidelane/Cancellation" "runner" "Ljava/lang/Thread;" .null := F55.other W59 (Or.inr (slot_ne (Or.inl (hw _ (List.mem_of_getElem? (i := 78) rfl))) (Or.inl (hw _ (List.mem_of_getElem? (i := 56) rfl))) (by decide) (t := (.object "java/lang/Thread")) (t' := (.object "java/lang/Object")) (by decide) (by decide)))
    have F67 : Fld Z h59 a1 "com/example/sidelane/sidelane/Cancellation" "cancelled" "Z" (.int (1 : Int32)) := F57.other W59 (Or.inr (slot_ne (Or.inl (hw _ (List.mem_of_getElem? (i := 17) rfl))) (Or.inl (hw _ (List.mem_of_getElem? (i := 56) rfl))) (by decide) (t := .boolean) (t' := (.object "java/lang/Object")) (by decide) (by decide)))
    have F68 : Fld Z h59 a1 "com/example/sidelane/sidelane/Cancellation" "cancelOutcome" "Lcom/example/sidelane/sidelane/Cancellation$Outcome;" (.ref w_CANCELLED) := F58.other W59 (Or.inr (slot_ne (Or.inl (hw _ (List.mem_of_getElem? (i := 54) rfl))) (Or.inl (hw _ (List.mem_of_getElem? (i := 56) rfl))) (by decide) (t := (.object "com/example/sidelane/sidelane/Cancellation$Outcome")) (t' := (.object "java/lang/Object")) (by decide) (by decide)))
    have F69 : Fld Z h59 a1 "com/example/sidelane/sidelane/Cancellation" "cancelEnding" "Ljava/lang/Object;" .null := F56.same W59
    have N59 := Fr.snoc X59 N48 g_a1
    show Go p e below _ (T59.setTop (mkL a1 m 168 #[.val (.ref a1), .val (.int p2), .val .null, .val (.int (1 : Int32)), .val (.int (0 : Int32))] []))
    refine Go.st (fun _ => XS.aloadN X59.here hx rfl (hb hby d7_168) rfl rfl) ?_
    show Go p e below _ (T59.setTop (mkL a1 m 169 #[.val (.ref a1), .val (.int p2), .val .null, .val (.int (1 : Int32)), .val (.int (0 : Int32))] [(.ref a1)]))
    obtain ⟨T70, X70, e70, st70⟩ := getF X59 hx hZ hown (host := "") (Or.inl (hw _ (List.mem_of_getElem? (i := 53) rfl))) Via.refl e59 F68 (g := (mkL a1 m 169 #[.val (.ref a1), .val (.int p2), .val .null, .val (.int (1 : Int32)), .val (.int (0 : Int32))] [(.ref a1)])) rfl rfl (hb hby d7_169)
    refine Go.st st70 ?_
    show Go p e below _ (T70.setTop (mkL a1 m 172 #[.val (.ref a1), .val (.int p2), .val .null, .val (.int (1 : Int32)), .val (.int (0 : Int32))] [(.ref w_CANCELLED)]))
    refine goRetS (v := some (.ref w_CANCELLED)) X70 hs hcell hmon hlk (fun h => by rw [hret] at h; cases h) e70 (fun V hV => retS X70 hx hret rfl (Or.inr (Or.inr (Or.inr (Or.inr ⟨rfl, rfl, rfl⟩)))) (hb hby d7_172) hV) (by decide) (by decide) (fun h' M' K' hm' => ?_)
    exact ⟨⟨_, rfl⟩, N59, (K61.trans K' (allS (Or.inl (List.mem_singleton_self _)) all0)), ⟨(E_62.mon M'), (untEnd U0 (K61.trans K' (allS (Or.inl (List.mem_singleton_self _)) all0)) hm'), (F63.mon M'), (F67.mon M'), (F64.mon M'), (F65.mon M'), (F66.mon M'), (F69.mon M'), (F68.mon M')⟩⟩
set_option maxRecDepth 65536 in
set_option maxHeartbeats 40000000 in
theorem caAR (l : Launch) (Z : State) (a0 : Array Value) (hw : ∀ d ∈ tables_1, d.before a0 Z = true) (a1 : Addr) (p2 : Int32) (a3 : Addr) (en oc : Value) (w_EXECUTE w_ADOPTER w_CANCELLED w_REFUSED w_HANDED_OVER w_CANCELLED_UNEXECUTED w_ENDING_NEEDED : Addr) (h0 : Heap) (n0 : Nat) (O0 : Old Z n0 h0) (U0 : Unt h0 a1) (g_a1 : n0 ≤ a1) (A_a1 : Exa Z h0 a1 "com/example/sidelane/sidelane/Cancellation") (F_claimedBy : Fld Z h0 a1 "com/example/sidelane/sidelane/Cancellation" "claimedBy" "Lcom/example/sidelane/sidelane/Cancellation$Claimant;" (.ref w_ADOPTER)) (F_cancelled : Fld Z h0 a1 "com/example/sidelane/sidelane/Cancellation" "cancelled" "Z" (.int (0 : Int32))) (F_endingBegun : Fld Z h0 a1 "com/example/sidelane/sidelane/Cancellation" "endingBegun" "Z" (.int (0 : Int32))) (F_queued : Fld Z h0 a1 "com/example/sidelane/sidelane/Cancellation" "queued" "Z" (.int (0 : Int32))) (F_runner : Fld Z h0 a1 "com/example/sidelane/sidelane/Cancellation" "runner" "Ljava/lang/Thread;" .null) (F_cancelEnding : Fld Z h0 a1 "com/example/sidelane/sidelane/Cancellation" "cancelEnding" "Ljava/lang/Object;" en) (F_cancelOutcome : Fld Z h0 a1 "com/example/sidelane/sidelane/Cancellation" "cancelOutcome" "Lcom/example/sidelane/sidelane/Cancellation$Outcome;" oc) (S_w_EXECUTE : Sta Z Z.heap "com/example/sidelane/sidelane/Cancellation$Claimant" "EXECUTE" "Lcom/example/sidelane/sidelane/Cancellation$Claimant;" (.ref w_EXECUTE)) (S_w_ADOPTER : Sta Z Z.heap "com/example/sidelane/sidelane/Cancellation$Claimant" "ADOPTER" "Lcom/example/sidelane/sidelane/Cancellation$Claimant;" (.ref w_ADOPTER)) (S_w_CANCELLED : Sta Z Z.heap "com/example/sidelane/sidelane/Cancellation$Outcome" "CANCELLED" "Lcom/example/sidelane/sidelane/Cancellation$Outcome;" (.ref w_CANCELLED)) (S_w_REFUSED : Sta Z Z.heap "com/example/sidelane/sidelane/Cancellation$Outcome" "REFUSED" "Lcom/example/sidelane/sidelane/Cancellation$Outcome;" (.ref w_REFUSED)) (S_w_HANDED_OVER : Sta Z Z.heap "com/example/sidelane/sidelane/Cancellation$Outcome" "HANDED_OVER" "Lcom/example/sidelane/sidelane/Cancellation$Outcome;" (.ref w_HANDED_OVER)) (S_w_CANCELLED_UNEXECUTED : Sta Z Z.heap "com/example/sidelane/sidelane/Cancellation$Outcome" "CANCELLED_UNEXECUTED" "Lcom/example/sidelane/sidelane/Cancellation$Outcome;" (.ref w_CANCELLED_UNEXECUTED)) (S_w_ENDING_NEEDED : Sta Z Z.heap "com/example/sidelane/sidelane/Cancellation$Outcome" "ENDING_NEEDED" "Lcom/example/sidelane/sidelane/Cancellation$Outcome;" (.ref w_ENDING_NEEDED)) (ne_w_EXECUTE_w_ADOPTER : w_EXECUTE ≠ w_ADOPTER) :
    CtrS l (⟨"com/example/sidelane/sidelane/Cancellation", "cancel", "(ZLjava/lang/Object;)Lcom/example/sidelane/sidelane/Cancellation$Outcome;"⟩ : MethodName) prog_3_method_2_code 5 (some (.object "com/example/sidelane/sidelane/Cancellation$Outcome")) ({ frames := 0, cells := 0, slots := 0, locals := 0 } : Room) #[(.ref a1), (.int p2), (.ref a3)] Z h0 (fun v h L => (∃ r, v = some (.ref r)) ∧ Fr n0 L ∧ Keep h0 h [a1] ∧ own_ob Z h a1 (.ref w_ADOPTER) (0 : Int32) (0 : Int32) en oc) := by
  have ef : ∀ m : MethodId, entryFrameSync m #[(.ref a1), (.int p2), (.ref a3)] 5 a1 = mkL a1 m 0 #[.val (.ref a1), .val (.int p2), .val (.ref a3), .unset, .unset] [] := fun m => by first | rfl | (simp [entryFrameSync, mkL, argsToLocals, Value.category]; done)
  refine CtrS.of (a := a1) (plainFor_of_name pn_7) rfl U0 ?_
  intro p e s0 s m below meth c s₁ cell hx hZ hby hml hown0 hnm hret hlk hs hcell hmon X0 M0 K0
  have hown : s.vm.findClass "com/example/sidelane/sidelane/Cancellation" = some m.cls := hown0
  have N0 := Fr.nil n0
  obtain ⟨h1, e0⟩ : ∃ z, s₁.heap = z := ⟨_, rfl⟩
  rw [e0] at M0 K0
  have O1 := O0.keep K0 (allS g_a1 all0)
  refine Go.st (fun t k => castTop (ef m) k) ?_
  have A_a1' : Exa Z h1 a1 "com/example/sidelane/sidelane/Cancellation" := A_a1.mon M0
  have F_claimedBy' : Fld Z h1 a1 "com/example/sidelane/sidelane/Cancellation" "claimedBy" "Lcom/example/sidelane/sidelane/Cancellation$Claimant;" (.ref w_ADOPTER) := F_claimedBy.mon M0
  have F_cancelled' : Fld Z h1 a1 "com/example/sidelane/sidelane/Cancellation" "cancelled" "Z" (.int (0 : Int32)) := F_cancelled.mon M0
  have F_endingBegun' : Fld Z h1 a1 "com/example/sidelane/sidelane/Cancellation" "endingBegun" "Z" (.int (0 : Int32)) := F_endingBegun.mon M0
  have F_queued' : Fld Z h1 a1 "com/example/sidelane/sidelane/Cancellation" "queued" "Z" (.int (0 : Int32)) := F_queued.mon M0
  have F_runner' : Fld Z h1 a1 "com/example/sidelane/sidelane/Cancellation" "runner" "Ljava/lang/Thread;" .null := F_runner.mon M0
  have F_cancelEnding' : Fld Z h1 a1 "com/example/sidelane/sidelane/Cancellation" "cancelEnding" "Ljava/lang/Object;" en := F_cancelEnding.mon M0
  have F_cancelOutcome' : Fld Z h1 a1 "com/example/sidelane/sidelane/Cancellation" "cancelOutcome" "Lcom/example/sidelane/sidelane/Cancellation$Outcome;" oc := F_cancelOutcome.mon M0
  show Go p e below _ (s₁.setTop (mkL a1 m 0 #[.val (.ref a1), .val (.int p2), .val (.ref a3), .unset, .unset] []))
  refine Go.st (fun _ => XS.aloadN X0.here hx rfl (hb hby d7_0) rfl rfl) ?_
  show Go p e below _ (s₁.setTop (mkL a1 m 1 #[.val (.ref a1), .val (.int p2), .val (.ref a3), .unset, .unset] [(.ref a1)]))
  obtain ⟨T1, X1, e1, st1⟩ := getF X0 hx hZ hown (host := "") (Or.inl (hw _ (List.mem_of_getElem? (i := 14) rfl))) Via.refl e0 F_claimedBy' (g := (mkL a1 m 1 #[.val (.ref a1), .val (.int p2), .val (.ref a3), .unset, .unset] [(.ref a1)])) rfl rfl (hb hby d7_1)
  refine Go.st st1 ?_
  show Go p e below _ (T1.setTop (mkL a1 m 4 #[.val (.ref a1), .val (.int p2), .val (.ref a3), .unset, .unset] [(.ref w_ADOPTER)]))
  obtain ⟨T2, X2, e2, st2⟩ := getS2 X1 hx hZ hown (host := "") (Or.inl (hw _ (List.mem_of_getElem? (i := 43) rfl))) Via.refl e1 (oldSta O1 S_w_ADOPTER) (g := (mkL a1 m 4 #[.val (.ref a1), .val (.int p2), .val (.ref a3), .unset, .unset] [(.ref w_ADOPTER)])) rfl (hb hby d7_4)
  refine Go.st st2 ?_
  show Go p e below _ (T2.setTop (mkL a1 m 7 #[.val (.ref a1), .val (.int p2), .val (.ref a3), .unset, .unset] [(.ref w_ADOPTER), (.ref w_ADOPTER)]))
  refine Go.st (fun _ => fun k => Jvm.RoadKit.acmp (g := (mkL a1 m 7 #[.val (.ref a1), .val (.int p2), .val (.ref a3), .unset, .unset] [(.ref w_ADOPTER), (.ref w_ADOPTER)])) X2 hx rfl rfl rfl (pc0 := 7) (pc' := 10) (same := true) rfl (hb hby d7_7) rfl (decide_eq_true rfl) (by decide) (by decide) k) ?_
  show Go p e below _ (T2.setTop (mkL a1 m 10 #[.val (.ref a1), .val (.int p2), .val (.ref a3), .unset, .unset] []))
  obtain ⟨T3, X3, e3, st3⟩ := getS2 X2 hx hZ hown (host := "") (Or.inl (hw _ (List.mem_of_getElem? (i := 60) rfl))) Via.refl e2 (oldSta O1 S_w_HANDED_OVER) (g := (mkL a1 m 10 #[.val (.ref a1), .val (.int p2), .val (.ref a3), .unset, .unset] [])) rfl (hb hby d7_10)
  refine Go.st st3 ?_
  show Go p e below _ (T3.setTop (mkL a1 m 13 #[.val (.ref a1), .val (.int p2), .val (.ref a3), .unset, .unset] [(.ref w_HANDED_OVER)]))
  refine goRetS (v := some (.ref w_HANDED_OVER)) X3 hs hcell hmon hlk (fun h => by rw [hret] at h; cases h) e3 (fun V hV => retS X3 hx hret rfl (Or.inr (Or.inr (Or.inr (Or.inr ⟨rfl, rfl, rfl⟩)))) (hb hby d7_13) hV) (by decide) (by decide) (fun h' M' K' hm' => ?_)
  exact ⟨⟨_, rfl⟩, N0, (K0.trans K' (allS (Or.inl (List.mem_singleton_self _)) all0)), ⟨(A_a1'.mon M'), (untEnd U0 (K0.trans K' (allS (Or.inl (List.mem_singleton_self _)) all0)) hm'), (F_claimedBy'.mon M'), (F_cancelled'.mon M'), (F_endingBegun'.mon M'), (F_queued'.mon M'), (F_runner'.mon M'), (F_cancelEnding'.mon M'), (F_cancelOutcome'.mon M')⟩⟩
set_option maxRecDepth 65536 in
set_option maxHeartbeats 40000000 in
theorem caGR (l : Launch) (Z : State) (a0 : Array Value) (hw : ∀ d ∈ tables_1, d.before a0 Z = true) (a1 : Addr) (p2 : Int32) (a3 : Addr) (en oc : Value) (w_EXECUTE w_ADOPTER w_CANCELLED w_REFUSED w_HANDED_OVER w_CANCELLED_UNEXECUTED w_ENDING_NEEDED : Addr) (h0 : Heap) (n0 : Nat) (O0 : Old Z n0 h0) (U0 : Unt h0 a1) (g_a1 : n0 ≤ a1) (A_a1 : Exa Z h0 a1 "com/example/sidelane/sidelane/Cancellation") (F_claimedBy : Fld Z h0 a1 "com/example/sidelane/sidelane/Cancellation" "claimedBy" "Lcom/example/sidelane/sidelane/Cancellation$Claimant;" (.ref w_EXECUTE)) (F_cancelled : Fld Z h0 a1 "com/example/sidelane/sidelane/Cancellation" "cancelled" "Z" (.int (0 : Int32))) (F_endingBegun : Fld Z h0 a1 "com/example/sidelane/sidelane/Cancellation" "endingBegun" "Z" (.int (0 : Int32))) (F_queued : Fld Z h0 a1 "com/example/sidelane/sidelane/Cancellation" "queued" "Z" (.int (0 : Int32))) (F_runner : Fld Z h0 a1 "com/example/sidelane/sidelane/Cancellation" "runner" "Ljava/lang/Thread;" .null) (F_cancelEnding : Fld Z h0 a1 "com/example/sidelane/sidelane/Cancellation" "cancelEnding" "Ljava/lang/Object;" en) (F_cancelOutcome : Fld Z h0 a1 "com/example/sidelane/sidelane/Cancellation" "cancelOutcome" "Lcom/example/sidelane/sidelane/Cancellation$Outcome;" oc) (S_w_EXECUTE : Sta Z Z.heap "com/example/sidelane/sidelane/Cancellation$Claimant" "EXECUTE" "Lcom/example/sidelane/sidelane/Cancellation$Claimant;" (.ref w_EXECUTE)) (S_w_ADOPTER : Sta Z Z.heap "com/example/sidelane/sidelane/Cancellation$Claimant" "ADOPTER" "Lcom/example/sidelane/sidelane/Cancellation$Claimant;" (.ref w_ADOPTER)) (S_w_CANCELLED : Sta Z Z.heap "com/example/sidelane/sidelane/Cancellation$Outcome" "CANCELLED" "Lcom/example/sidelane/sidelane/Cancellation$Outcome;" (.ref w_CANCELLED)) (S_w_REFUSED : Sta Z Z.heap "com/example/sidelane/sidelane/Cancellation$Outcome" "REFUSED" "Lcom/example/sidelane/sidelane/Cancellation$Outcome;" (.ref w_REFUSED)) (S_w_HANDED_OVER : Sta Z Z.heap "com/example/sidelane/sidelane/Cancellation$Outcome" "HANDED_OVER" "Lcom/example/sidelane/sidelane/Cancellation$Outcome;" (.ref w_HANDED_OVER)) (S_w_CANCELLED_UNEXECUTED : Sta Z Z.heap "com/example/sidelane/sidelane/Cancellation$Outcome" "CANCELLED_UNEXECUTED" "Lcom/example/sidelane/sidelane/Cancellation$Outcome;" (.ref w_CANCELLED_UNEXECUTED)) (S_w_ENDING_NEEDED : Sta Z Z.heap "com/example/sidelane/sidelane/Cancellation$Outcome" "ENDING_NEEDED" "Lcom/example/sidelane/sidelane/Cancellation$Outcome;" (.ref w_ENDING_NEEDED)) (ne_w_EXECUTE_w_ADOPTER : w_EXECUTE ≠ w_ADOPTER) :
    CtrS l (⟨"com/example/sidelane/sidelane/Cancellation", "cancel", "(ZLjava/lang/Object;)Lcom/example/sidelane/sidelane/Cancellation$Outcome;"⟩ : MethodName) prog_3_method_2_code 5 (some (.object "com/example/sidelane/sidelane/Cancellation$Outcome")) ({ frames := 0, cells := 0, slots := 0, locals := 0 } : Room) #[(.ref a1), (.int p2), (.ref a3)] Z h0 (fun v h L => (∃ r, v = some (.ref r)) ∧ Fr n0 L ∧ Keep h0 h [a1] ∧ own_ob Z h a1 (.ref w_EXECUTE) (1 : Int32) (0 : Int32) (.ref a3) (.ref w_CANCELLED)) := by
  have ef : ∀ m : MethodId, entryFrameSync m #[(.ref a1), (.int p2), (.ref a3)] 5 a1 = mkL a1 m 0 #[.val (.ref a1), .val (.int p2), .val (.ref a3), .unset, .unset] [] := fun m => by first | rfl | (simp [entryFrameSync, mkL, argsToLocals, Value.category]; done)
  refine CtrS.of (a := a1) (plainFor_of_name pn_7) rfl U0 ?_
  intro p e s0 s m below meth c s₁ cell hx hZ hby hml hown0 hnm hret hlk hs hcell hmon X0 M0 K0
  have hown : s.vm.findClass "com/example/sidelane/sidelane/Cancellation" = some m.cls := hown0
  have N0 := Fr.nil n0
  obtain ⟨h1, e0⟩ : ∃ z, s₁.heap = z := ⟨_, rfl⟩
  rw [e0] at M0 K0
  have O1 := O0.keep K0 (allS g_a1 all0)
  refine Go.st (fun t k => castTop (ef m) k) ?_
  have A_a1' : Exa Z h1 a1 "com/example/sidelane/sidelane/Cancellation" := A_a1.mon M0
  have F_claimedBy' : Fld Z h1 a1 "com/example/sidelane/sidelane/Cancellation" "claimedBy" "Lcom/example/sidelane/sidelane/Cancellation$Claimant;" (.ref w_EXECUTE) := F_claimedBy.mon M0
  have F_cancelled' : Fld Z h1 a1 "com/example/sidelane/sidelane/Cancellation" "cancelled" "Z" (.int (0 : Int32)) := F_cancelled.mon M0
  have F_endingBegun' : Fld Z h1 a1 "com/example/sidelane/sidelane/Cancellation" "endingBegun" "Z" (.int (0 : Int32)) := F_endingBegun.mon M0
  have F_queued' : Fld Z h1 a1 "com/example/sidelane/sidelane/Cancellation" "queued" "Z" (.int (0 : Int32)) := F_queued.mon M0
  have F_runner' : Fld Z h1 a1 "com/example/sidelane/sidelane/Cancellation" "runner" "Ljava/lang/Thread;" .null := F_runner.mon M0
  have F_cancelEnding' : Fld Z h1 a1 "com/example/sidelane/sidelane/Cancellation" "cancelEnding" "Ljava/lang/Object;" en := F_cancelEnding.mon M0
  have F_cancelOutcome' : Fld Z h1 a1 "com/example/sidelane/sidelane/Cancellation" "cancelOutcome" "Lcom/example/sidelane/sidelane/Cancellation$Outcome;" oc := F_cancelOutcome.mon M0
  show Go p e below _ (s₁.setTop (mkL a1 m 0 #[.val (.ref a1), .val (.int p2), .val (.ref a3), .unset, .unset] []))
  refine Go.st (fun _ => XS.aloadN X0.here hx rfl (hb hby d7_0) rfl rfl) ?_
  show Go p e below _ (s₁.setTop (mkL a1 m 1 #[.val (.ref a1), .val (.int p2), .val (.ref a3), .unset, .unset] [(.ref a1)]))
  obtain ⟨T1, X1, e1, st1⟩ := getF X0 hx hZ hown (host := "") (Or.inl (hw _ (List.mem_of_getElem? (i := 14) rfl))) Via.refl e0 F_claimedBy' (g := (mkL a1 m 1 #[.val (.ref a1), .val (.int p2), .val (.ref a3), .unset, .unset] [(.ref a1)])) rfl rfl (hb hby d7_1)
  refine Go.st st1 ?_
  show Go p e below _ (T1.setTop (mkL a1 m 4 #[.val (.ref a1), .val (.int p2), .val (.ref a3), .unset, .unset] [(.ref w_EXECUTE)]))
  obtain ⟨T2, X2, e2, st2⟩ := getS2 X1 hx hZ hown (host := "") (Or.inl (hw _ (List.mem_of_getElem? (i := 43) rfl))) Via.refl e1 (oldSta O1 S_w_ADOPTER) (g := (mkL a1 m 4 #[.val (.ref a1), .val (.int p2), .val (.ref a3), .unset, .unset] [(.ref w_EXECUTE)])) rfl (hb hby d7_4)
  refine Go.st st2 ?_
  show Go p e below _ (T2.setTop (mkL a1 m 7 #[.val (.ref a1), .val (.int p2), .val (.ref a3), .unset, .unset] [(.ref w_ADOPTER), (.ref w_EXECUTE)]))
  refine Go.st (fun _ => fun k => Jvm.RoadKit.acmp (g := (mkL a1 m 7 #[.val (.ref a1), .val (.int p2), .val (.ref a3), .unset, .unset] [(.ref w_ADOPTER), (.ref w_EXECUTE)])) X2 hx rfl rfl rfl (pc0 := 7) (pc' := 14) (same := false) rfl (hb hby d7_7) rfl (decide_eq_false fun q => ne_w_EXECUTE_w_ADOPTER (Value.ref.inj q)) (by decide) (by decide) k) ?_
  show Go p e below _ (T2.setTop (mkL a1 m 14 #[.val (.ref a1), .val (.int p2), .val (.ref a3), .unset, .unset] []))
  refine Go.st (fun _ => XS.aloadN X2.here hx rfl (hb hby d7_14) rfl rfl) ?_
  show Go p e below _ (T2.setTop (mkL a1 m 15 #[.val (.ref a1), .val (.int p2), .val (.ref a3), .unset, .unset] [(.ref a1)]))
  obtain ⟨T3, X3, e3, st3⟩ := getF X2 hx hZ hown (host := "") (Or.inl (hw _ (List.mem_of_getElem? (i := 16) rfl))) Via.refl e2 F_cancelled' (g := (mkL a1 m 15 #[.val (.ref a1), .val (.int p2), .val (.ref a3), .unset, .unset] [(.ref a1)])) rfl rfl (hb hby d7_15)
  refine Go.st st3 ?_
  show Go p e below _ (T3.setTop (mkL a1 m 18 #[.val (.ref a1), .val (.int p2), .val (.ref a3), .unset, .unset] [(.int (0 : Int32))]))
  refine Go.st (fun _ => XS.ifYes X3.here hx rfl (pc0 := 18) (pc' := 44) rfl (hb hby d7_18) rfl ((if0 _ _).trans (teq (by decide : (0 : Int32) = (0 : Int32))).1) (by decide) (by decide)) ?_
  show Go p e below _ (T3.setTop (mkL a1 m 44 #[.val (.ref a1), .val (.int p2), .val (.ref a3), .unset, .unset] []))
  refine Go.st (fun _ => XS.aloadN X3.here hx rfl (hb hby d7_44) rfl rfl) ?_
  show Go p e below _ (T3.setTop (mkL a1 m 45 #[.val (.ref a1), .val (.int p2), .val (.ref a3), .unset, .unset] [(.ref a1)]))
  obtain ⟨T4, X4, e4, st4⟩ := getF X3 hx hZ hown (host := "") (Or.inl (hw _ (List.mem_of_getElem? (i := 45) rfl))) Via.refl e3 F_endingBegun' (g := (mkL a1 m 45 #[.val (.ref a1), .val (.int p2), .val (.ref a3), .unset, .unset] [(.ref a1)])) rfl rfl (hb hby d7_45)
  refine Go.st st4 ?_
  show Go p e below _ (T4.setTop (mkL a1 m 48 #[.val (.ref a1), .val (.int p2), .val (.ref a3), .unset, .unset] [(.int (0 : Int32))]))
  refine Go.st (fun _ => XS.ifYes X4.here hx rfl (pc0 := 48) (pc' := 55) rfl (hb hby d7_48) rfl ((if0 _ _).trans (teq (by decide : (0 : Int32) = (0 : Int32))).1) (by decide) (by decide)) ?_
  show Go p e below _ (T4.setTop (mkL a1 m 55 #[.val (.ref a1), .val (.int p2), .val (.ref a3), .unset, .unset] []))
  refine Go.st (fun _ => XS.aloadN X4.here hx rfl (hb hby d7_55) rfl rfl) ?_
  show Go p e below _ (T4.setTop (mkL a1 m 56 #[.val (.ref a1), .val (.int p2), .val (.ref a3), .unset, .unset] [(.ref a1)]))
  obtain ⟨T5, X5, e5, st5⟩ := getF X4 hx hZ hown (host := "") (Or.inl (hw _ (List.mem_of_getElem? (i := 14) rfl))) Via.refl e4 F_claimedBy' (g := (mkL a1 m 56 #[.val (.ref a1), .val (.int p2), .val (.ref a3), .unset, .unset] [(.ref a1)])) rfl rfl (hb hby d7_56)
  refine Go.st st5 ?_
  show Go p e below _ (T5.setTop (mkL a1 m 59 #[.val (.ref a1), .val (.int p2), .val (.ref a3), .unset, .unset] [(.ref w_EXECUTE)]))
  obtain ⟨T6, X6, e6, st6⟩ := getS2 X5 hx hZ hown (host := "") (Or.inl (hw _ (List.mem_of_getElem? (i := 47) rfl))) Via.refl e5 (oldSta O1 S_w_EXECUTE) (g := (mkL a1 m 59 #[.val (.ref a1), .val (.int p2), .val (.ref a3), .unset, .unset] [(.ref w_EXECUTE)])) rfl (hb hby d7_59)
  refine Go.st st6 ?_
  show Go p e below _ (T6.setTop (mkL a1 m 62 #[.val (.ref a1), .val (.int p2), .val (.ref a3), .unset, .unset] [(.ref w_EXECUTE), (.ref w_EXECUTE)]))
  refine Go.st (fun _ => fun k => Jvm.RoadKit.acmp (g := (mkL a1 m 62 #[.val (.ref a1), .val (.int p2), .val (.ref a3), .unset, .unset] [(.ref w_EXECUTE), (.ref w_EXECUTE)])) X6 hx rfl rfl rfl (pc0 := 62) (pc' := 65) (same := true) rfl (hb hby d7_62) rfl (decide_eq_true rfl) (by decide) (by decide) k) ?_
  show Go p e below _ (T6.setTop (mkL a1 m 65 #[.val (.ref a1), .val (.int p2), .val (.ref a3), .unset, .unset] []))
  refine Go.st (fun _ => XS.iconst X6.here hx rfl (hb hby d7_65)) ?_
  show Go p e below _ (T6.setTop (mkL a1 m 66 #[.val (.ref a1), .val (.int p2), .val (.ref a3), .unset, .unset] [(.int (1 : Int32))]))
  refine Go.st (fun _ => XS.goto X6.here hx rfl (pc0 := 66) (pc' := 70) rfl (hb hby d7_66) (by decide) (by decide)) ?_
  show Go p e below _ (T6.setTop (mkL a1 m 70 #[.val (.ref a1), .val (.int p2), .val (.ref a3), .unset, .unset] [(.int (1 : Int32))]))
  refine Go.st (fun _ => XS.istoreN X6.here hx rfl (hb hby d7_70) rfl (l' := #[.val (.ref a1), .val (.int p2), .val (.ref a3), .val (.int (1 : Int32)), .unset]) rfl) ?_
  show Go p e below _ (T6.setTop (mkL a1 m 71 #[.val (.ref a1), .val (.int p2), .val (.ref a3), .val (.int (1 : Int32)), .unset] []))
  refine Go.st (fun _ => XS.iloadN X6.here hx rfl (hb hby d7_71) rfl) ?_
  show Go p e below _ (T6.setTop (mkL a1 m 72 #[.val (.ref a1), .val (.int p2), .val (.ref a3), .val (.int (1 : Int32)), .unset] [(.int (1 : Int32))]))
  refine Go.st (fun _ => XS.ifNo X6.here hx rfl (hb hby d7_72) rfl ((if0 _ _).trans (feq (by decide : ¬ ((1 : Int32) = (0 : Int32)))).1)) ?_
  show Go p e below _ (T6.setTop (mkL a1 m 75 #[.val (.ref a1), .val (.int p2), .val (.ref a3), .val (.int (1 : Int32)), .unset] []))
  refine Go.st (fun _ => XS.aloadN X6.here hx rfl (hb hby d7_75) rfl rfl) ?_
  show Go p e below _ (T6.setTop (mkL a1 m 76 #[.val (.ref a1), .val (.int p2), .val (.ref a3), .val (.int (1 : Int32)), .unset] [(.ref a1)]))
  obtain ⟨T7, X7, e7, st7⟩ := getF X6 hx hZ hown (host := "") (Or.inl (hw _ (List.mem_of_getElem? (i := 48) rfl))) Via.refl e6 F_queued' (g := (mkL a1 m 76 #[.val (.ref a1), .val (.int p2), .val (.ref a3), .val (.int (1 : Int32)), .unset] [(.ref a1)])) rfl rfl (hb hby d7_76)
  refine Go.st st7 ?_
  show Go p e below _ (T7.setTop (mkL a1 m 79 #[.val (.ref a1), .val (.int p2), .val (.ref a3), .val (.int (1 : Int32)), .unset] [(.int (0 : Int32))]))
  refine Go.st (fun _ => XS.ifYes X7.here hx rfl (pc0 := 79) (pc' := 86) rfl (hb hby d7_79) rfl ((if0 _ _).trans (teq (by decide : (0 : Int32) = (0 : Int32))).1) (by decide) (by decide)) ?_
  show Go p e below _ (T7.setTop (mkL a1 m 86 #[.val (.ref a1), .val (.int p2), .val (.ref a3), .val (.int (1 : Int32)), .unset] []))
  refine Go.st (fun _ => XS.iconst X7.here hx rfl (hb hby d7_86)) ?_
  show Go p e below _ (T7.setTop (mkL a1 m 87 #[.val (.ref a1), .val (.int p2), .val (.ref a3), .val (.int (1 : Int32)), .unset] [(.int (0 : Int32))]))
  refine Go.st (fun _ => XS.istore X7.here hx rfl (hb hby d7_87) rfl (l' := #[.val (.ref a1), .val (.int p2), .val (.ref a3), .val (.int (1 : Int32)), .val (.int (0 : Int32))]) rfl) ?_
  show Go p e below _ (T7.setTop (mkL a1 m 89 #[.val (.ref a1), .val (.int p2), .val (.ref a3), .val (.int (1 : Int32)), .val (.int (0 : Int32))] []))
  refine Go.st (fun _ => XS.iload X7.here hx rfl (hb hby d7_89) rfl) ?_
  show Go p e below _ (T7.setTop (mkL a1 m 91 #[.val (.ref a1), .val (.int p2), .val (.ref a3), .val (.int (1 : Int32)), .val (.int (0 : Int32))] [(.int (0 : Int32))]))
  refine Go.st (fun _ => XS.ifYes X7.here hx rfl (pc0 := 91) (pc' := 102) rfl (hb hby d7_91) rfl ((if0 _ _).trans (teq (by decide : (0 : Int32) = (0 : Int32))).1) (by decide) (by decide)) ?_
  show Go p e below _ (T7.setTop (mkL a1 m 102 #[.val (.ref a1), .val (.int p2), .val (.ref a3), .val (.int (1 : Int32)), .val (.int (0 : Int32))] []))
  refine Go.st (fun _ => XS.aloadN X7.here hx rfl (hb hby d7_102) rfl rfl) ?_
  show Go p e below _ (T7.setTop (mkL a1 m 103 #[.val (.ref a1), .val (.int p2), .val (.ref a3), .val (.int (1 : Int32)), .val (.int (0 : Int32))] [(.ref a1)]))
  refine Go.st (fun _ => XS.iconst X7.here hx rfl (hb hby d7_103)) ?_
  show Go p e below _ (T7.setTop (mkL a1 m 104 #[.val (.ref a1), .val (.int p2), .val (.ref a3), .val (.int (1 : Int32)), .val (.int (0 : Int32))] [(.int (1 : Int32)), (.ref a1)]))
  obtain ⟨T8, h8, X8, e8, W8, st8⟩ := putFN X7 hx hZ hown (hw _ (List.mem_of_getElem? (i := 16) rfl)) Via.refl e7 F_cancelled' A_a1' (Or.inl (hw _ (List.mem_of_getElem? (i := 17) rfl))) (hw _ (List.mem_of_getElem? (i := 1) rfl)) (ty := .boolean) (v' := .int (nar .boolean (1 : Int32))) (by decide) rfl (fits_nar_bool _) (g := (mkL a1 m 104 #[.val (.ref a1), .val (.int p2), .val (.ref a3), .val (.int (1 : Int32)), .val (.int (0 : Int32))] [(.int (1 : Int32)), (.ref a1)])) rfl rfl (hb hby d7_104)
  refine Go.st st8 ?_
  have O9 : Old Z n0 h8 := O1.wr W8 g_a1
  have K10 : Keep h0 h8 [a1] := K0.wr W8 (Or.inl (List.mem_of_getElem? (i := 0) rfl))
  have E_11 : Exa Z h8 a1 "com/example/sidelane/sidelane/Cancellation" := A_a1'.wr W8
  have F12 : Fld Z h8 a1 "com/example/sidelane/sidelane/Cancellation" "claimedBy" "Lcom/example/sidelane/sidelane/Cancellation$Claimant;" (.ref w_EXECUTE) := F_claimedBy'.other W8 (Or.inr (slot_ne (Or.inl (hw _ (List.mem_of_getElem? (i := 15) rfl))) (Or.inl (hw _ (List.mem_of_getElem? (i := 17) rfl))) (by decide) (t := (.object "com/example/sidelane/sidelane/Cancellation$Claimant")) (t' := .boolean) (by decide) (by decide)))
  have F13 : Fld Z h8 a1 "com/example/sidelane/sidelane/Cancellation" "endingBegun" "Z" (.int (0 : Int32)) := F_endingBegun'.other W8 (Or.inr (slot_ne (Or.inl (hw _ (List.mem_of_getElem? (i := 46) rfl))) (Or.inl (hw _ (List.mem_of_getElem? (i := 17) rfl))) (by decide) (t := .boolean) (t' := .boolean) (by decide) (by decide)))
  have F14 : Fld Z h8 a1 "com/example/sidelane/sidelane/Cancellation" "queued" "Z" (.int (0 : Int32)) := F_queued'.other W8 (Or.inr (slot_ne (Or.inl (hw _ (List.mem_of_getElem? (i := 49) rfl))) (Or.inl (hw _ (List.mem_of_getElem? (i := 17) rfl))) (by decide) (t := .boolean) (t' := .boolean) (by decide) (by decide)))
  have F15 : Fld Z h8 a1 "com/example/sidelane/sidelane/Cancellation" "runner" "Ljava/lang/Thread;" .null := F_runner'.other W8 (Or.inr (slot_ne (Or.inl (hw _ (List.mem_of_getElem? (i := 78) rfl))) (Or.inl (hw _ (List.mem_of_getElem? (i := 17) rfl))) (by decide) (t := (.object "java/lang/Thread")) (t' := .boolean) (by decide) (by decide)))
  have F16 : Fld Z h8 a1 "com/example/sidelane/sidelane/Cancellation" "cancelEnding" "Ljava/lang/Object;" en := F_cancelEnding'.other W8 (Or.inr (slot_ne (Or.inl (hw _ (List.mem_of_getElem? (i := 56) rfl))) (Or.inl (hw _ (List.mem_of_getElem? (i := 17) rfl))) (by decide) (t := (.object "java/lang/Object")) (t' := .boolean) (by decide) (by decide)))
  have F17 : Fld Z h8 a1 "com/example/sidelane/sidelane/Cancellation" "cancelOutcome" "Lcom/example/sidelane/sidelane/Cancellation$Outcome;" oc := F_cancelOutcome'.other W8 (Or.inr (slot_ne (Or.inl (hw _ (List.mem_of_getElem? (i := 54) rfl))) (Or.inl (hw _ (List.mem_of_getElem? (i := 17) rfl))) (by decide) (t := (.object "com/example/sidelane/sidelane/Cancellation$Outcome")) (t' := .boolean) (by decide) (by decide)))
  have F18 : Fld Z h8 a1 "com/example/sidelane/sidelane/Cancellation" "cancelled" "Z" (.int (1 : Int32)) := F_cancelled'.same W8
  have N8 := Fr.snoc X8 N0 g_a1
  show Go p e below _ (T8.setTop (mkL a1 m 107 #[.val (.ref a1), .val (.int p2), .val (.ref a3), .val (.int (1 : Int32)), .val (.int (0 : Int32))] []))
  refine Go.st (fun _ => XS.iloadN X8.here hx rfl (hb hby d7_107) rfl) ?_
  show Go p e below _ (T8.setTop (mkL a1 m 108 #[.val (.ref a1), .val (.int p2), .val (.ref a3), .val (.int (1 : Int32)), .val (.int (0 : Int32))] [(.int p2)]))
  by_cases hc19 : p2 = (0 : Int32)
  · refine Go.st (fun _ => XS.ifYes X8.here hx rfl (pc0 := 108) (pc' := 125) rfl (hb hby d7_108) rfl ((if0 _ _).trans (teq hc19).1) (by decide) (by decide)) ?_
    show Go p e below _ (T8.setTop (mkL a1 m 125 #[.val (.ref a1), .val (.int p2), .val (.ref a3), .val (.int (1 : Int32)), .val (.int (0 : Int32))] []))
    refine Go.st (fun _ => XS.iloadN X8.here hx rfl (hb hby d7_125) rfl) ?_
    show Go p e below _ (T8.setTop (mkL a1 m 126 #[.val (.ref a1), .val (.int p2), .val (.ref a3), .val (.int (1 : Int32)), .val (.int (0 : Int32))] [(.int (1 : Int32))]))
    refine Go.st (fun _ => XS.ifYes X8.here hx rfl (pc0 := 126) (pc' := 139) rfl (hb hby d7_126) rfl ((if0 _ _).trans (feq (by decide : ¬ ((1 : Int32) = (0 : Int32)))).2) (by decide) (by decide)) ?_
    show Go p e below _ (T8.setTop (mkL a1 m 139 #[.val (.ref a1), .val (.int p2), .val (.ref a3), .val (.int (1 : Int32)), .val (.int (0 : Int32))] []))
    refine Go.st (fun _ => XS.aloadN X8.here hx rfl (hb hby d7_139) rfl rfl) ?_
    show Go p e below _ (T8.setTop (mkL a1 m 140 #[.val (.ref a1), .val (.int p2), .val (.ref a3), .val (.int (1 : Int32)), .val (.int (0 : Int32))] [(.ref a1)]))
    obtain ⟨T20, X20, e20, st20⟩ := getF X8 hx hZ hown (host := "") (Or.inl (hw _ (List.mem_of_getElem? (i := 48) rfl))) Via.refl e8 F14 (g := (mkL a1 m 140 #[.val (.ref a1), .val (.int p2), .val (.ref a3), .val (.int (1 : Int32)), .val (.int (0 : Int32))] [(.ref a1)])) rfl rfl (hb hby d7_140)
    refine Go.st st20 ?_
    show Go p e below _ (T20.setTop (mkL a1 m 143 #[.val (.ref a1), .val (.int p2), .val (.ref a3), .val (.int (1 : Int32)), .val (.int (0 : Int32))] [(.int (0 : Int32))]))
    refine Go.st (fun _ => XS.ifYes X20.here hx rfl (pc0 := 143) (pc' := 156) rfl (hb hby d7_143) rfl ((if0 _ _).trans (teq (by decide : (0 : Int32) = (0 : Int32))).1) (by decide) (by decide)) ?_
    show Go p e below _ (T20.setTop (mkL a1 m 156 #[.val (.ref a1), .val (.int p2), .val (.ref a3), .val (.int (1 : Int32)), .val (.int (0 : Int32))] []))
    refine Go.st (fun _ => XS.aloadN X20.here hx rfl (hb hby d7_156) rfl rfl) ?_
    show Go p e below _ (T20.setTop (mkL a1 m 157 #[.val (.ref a1), .val (.int p2), .val (.ref a3), .val (.int (1 : Int32)), .val (.int (0 : Int32))] [(.ref a1)]))
    obtain ⟨T21, X21, e21, st21⟩ := getS2 X20 hx hZ hown (host := "") (Or.inl (hw _ (List.mem_of_getElem? (i := 50) rfl))) Via.refl e20 (oldSta O9 S_w_CANCELLED) (g := (mkL a1 m 157 #[.val (.ref a1), .val (.int p2), .val (.ref a3), .val (.int (1 : Int32)), .val (.int (0 : Int32))] [(.ref a1)])) rfl (hb hby d7_157)
    refine Go.st st21 ?_
    show Go p e below _ (T21.setTop (mkL a1 m 160 #[.val (.ref a1), .val (.int p2), .val (.ref a3), .val (.int (1 : Int32)), .val (.int (0 : Int32))] [(.ref w_CANCELLED), (.ref a1)]))
    obtain ⟨T22, h22, X22, e22, W22, st22⟩ := putF X21 hx hZ hown (host := "") (Or.inl (hw _ (List.mem_of_getElem? (i := 53) rfl))) Via.refl e21 F17 E_11 (Or.inl (hw _ (List.mem_of_getElem? (i := 54) rfl))) (hw _ (List.mem_of_getElem? (i := 1) rfl)) (ty := (.object "com/example/sidelane/sidelane/Cancellation$Outcome")) (by decide) rfl rfl (g := (mkL a1 m 160 #[.val (.ref a1), .val (.int p2), .val (.ref a3), .val (.int (1 : Int32)), .val (.int (0 : Int32))] [(.ref w_CANCELLED), (.ref a1)])) rfl rfl (hb hby d7_160)
    refine Go.st st22 ?_
    have O23 : Old Z n0 h22 := O9.wr W22 g_a1
    have K24 : Keep h0 h22 [a1] := K10.wr W22 (Or.inl (List.mem_of_getElem? (i := 0) rfl))
    have E_25 : Exa Z h22 a1 "com/example/sidelane/sidelane/Cancellation" := E_11.wr W22
    have F26 : Fld Z h22 a1 "com/example/sidelane/sidelane/Cancellation" "claimedBy" "Lcom/example/sidelane/sidelane/Cancellation$Claimant;" (.ref w_EXECUTE) := F12.other W22 (Or.inr (slot_ne (Or.inl (hw _ (List.mem_of_getElem? (i := 15) rfl))) (Or.inl (hw _ (List.mem_of_getElem? (i := 54) rfl))) (by decide) (t := (.object "com/example/sidelane/sidelane/Cancellation$Claimant")) (t' := (.object "com/example/sidelane/sidelane/Cancellation$Outcome")) (by decide) (by decide)))
    have F27 : Fld Z h22 a1 "com/example/sidelane/sidelane/Cancellation" "endingBegun" "Z" (.int (0 : Int32)) := F13.other W22 (Or.inr (slot_ne (Or.inl (hw _ (List.mem_of_getElem? (i := 46) rfl))) (Or.inl (hw _ (List.mem_of_getElem? (i := 54) rfl))) (by decide) (t := .boolean) (t' := (.object "com/example/sidelane/sidelane/Cancellation$Outcome")) (by decide) (by decide)))
    have F28 : Fld Z h22 a1 "com/example/sidelane/sidelane/Cancellation" "queued" "Z" (.int (0 : Int32)) := F14.other W22 (Or.inr (slot_ne (Or.inl (hw _ (List.mem_of_getElem? (i := 49) rfl))) (Or.inl (hw _ (List.mem_of_getElem? (i := 54) rfl))) (by decide) (t := .boolean) (t' := (.object "com/example/sidelane/sidelane/Cancellation$Outcome")) (by decide) (by decide)))
    have F29 : Fld Z h22 a1 "com/example/sidelane/sidelane/Cancellation" "runner" "Ljava/lang/Thread;" .null := F15.other W22 (Or.inr (slot_ne (Or.inl (hw _ (List.mem_of_getElem? (i := 78) rfl))) (Or.inl (hw _ (List.mem_of_getElem? (i := 54) rfl))) (by decide) (t := (.object "java/lang/Thread")) (t' := (.object "com/example/sidelane/sidelane/Cancellation$Outcome")) (by decide) (by decide)))
    have F30 : Fld Z h22 a1 "com/example/sidelane/sidelane/Cancellation" "cancelEnding" "Ljava/lang/Object;" en := F16.other W22 (Or.inr (slot_ne (Or.inl (hw _ (List.mem_of_getElem? (i := 56) rfl))) (Or.inl (hw _ (List.mem_of_getElem? (i := 54) rfl))) (by decide) (t := (.object "java/lang/Object")) (t' := (.object "com/example/sidelane/sidelane/Cancellation$Outcome")) (by decide) (by decide)))
    have F31 : Fld Z h22 a1 "com/example/sidelane/sidelane/Cancellation" "cancelled" "Z" (.int (1 : Int32)) := F18.other W22 (Or.inr (slot_ne (Or.inl (hw _ (List.mem_of_getElem? (i := 17) rfl))) (Or.inl (hw _ (List.mem_of_getElem? (i := 54) rfl))) (by decide) (t := .boolean) (t' := (.object "com/example/sidelane/sidelane/Cancellation$Outcome")) (by decide) (by decide)))
    have F32 : Fld Z h22 a1 "com/example/sidelane/sidelane/Cancellation" "cancelOutcome" "Lcom/example/sidelane/sidelane/Cancellation$Outcome;" (.ref w_CANCELLED) := F17.same W22
    have N22 := Fr.snoc X22 N8 g_a1
    show Go p e below _ (T22.setTop (mkL a1 m 163 #[.val (.ref a1), .val (.int p2), .val (.ref a3), .val (.int (1 : Int32)), .val (.int (0 : Int32))] []))
    refine Go.st (fun _ => XS.aloadN X22.here hx rfl (hb hby d7_163) rfl rfl) ?_
    show Go p e below _ (T22.setTop (mkL a1 m 164 #[.val (.ref a1), .val (.int p2), .val (.ref a3), .val (.int (1 : Int32)), .val (.int (0 : Int32))] [(.ref a1)]))
    refine Go.st (fun _ => XS.aloadN X22.here hx rfl (hb hby d7_164) rfl rfl) ?_
    show Go p e below _ (T22.setTop (mkL a1 m 165 #[.val (.ref a1), .val (.int p2), .val (.ref a3), .val (.int (1 : Int32)), .val (.int (0 : Int32))] [(.ref a3), (.ref a1)]))
    obtain ⟨T33, h33, X33, e33, W33, st33⟩ := putF X22 hx hZ hown (host := "") (Or.inl (hw _ (List.mem_of_getElem? (i := 55) rfl))) Via.refl e22 F30 E_25 (Or.inl (hw _ (List.mem_of_getElem? (i := 56) rfl))) (hw _ (List.mem_of_getElem? (i := 1) rfl)) (ty := (.object "java/lang/Object")) (by decide) rfl rfl (g := (mkL a1 m 165 #[.val (.ref a1), .val (.int p2), .val (.ref a3), .val (.int (1 : Int32)), .val (.int (0 : Int32))] [(.ref a3), (.ref a1)])) rfl rfl (hb hby d7_165)
    refine Go.st st33 ?_
    have O34 : Old Z n0 h33 := O23.wr W33 g_a1
    have K35 : Keep h0 h33 [a1] := K24.wr W33 (Or.inl (List.mem_of_getElem? (i := 0) rfl))
    have E_36 : Exa Z h33 a1 "com/example/sidelane/sidelane/Cancellation" := E_25.wr W33
    have F37 : Fld Z h33 a1 "com/example/sidelane/sidelane/Cancellation" "claimedBy" "Lcom/example/sidelane/sidelane/Cancellation$Claimant;" (.ref w_EXECUTE) := F26.other W33 (Or.inr (slot_ne (Or.inl (hw _ (List.mem_of_getElem? (i := 15) rfl))) (Or.inl (hw _ (List.mem_of_getElem? (i := 56) rfl))) (by decide) (t := (.object "com/example/sidelane/sidelane/Cancellation$Claimant")) (t' := (.object "java/lang/Object")) (by decide) (by decide)))
    have F38 : Fld Z h33 a1 "com/example/sidelane/sidelane/Cancellation" "endingBegun" "Z" (.int (0 : Int32)) := F27.other W33 (Or.inr (slot_ne (Or.inl (hw _ (List.mem_of_getElem? (i := 46) rfl))) (Or.inl (hw _ (List.mem_of_getElem? (i := 56) rfl))) (by decide) (t := .boolean) (t' := (.object "java/lang/Object")) (by decide) (by decide)))
    have F39 : Fld Z h33 a1 "com/example/sidelane/sidelane/Cancellation" "queued" "Z" (.int (0 : Int32)) := F28.other W33 (Or.inr (slot_ne (Or.inl (hw _ (List.mem_of_getElem? (i := 49) rfl))) (Or.inl (hw _ (List.mem_of_getElem? (i := 56) rfl))) (by decide) (t := .boolean) (t' := (.object "java/lang/Object")) (by decide) (by decide)))
    have F40 : Fld Z h33 a1 "com/example/sidelane/sidelane/Cancellation" "runner" "Ljava/lang/Thread;" .null := F29.other W33 (Or.inr (slot_ne (Or.inl (hw _ (List.mem_of_getElem? (i := 78) rfl))) (Or.inl (hw _ (List.mem_of_getElem? (i := 56) rfl))) (by decide) (t := (.object "java/lang/Thread")) (t' := (.object "java/lang/Object")) (by decide) (by decide)))
    have F41 : Fld Z h33 a1 "com/example/sidelane/sidelane/Cancellation" "cancelled" "Z" (.int (1 : Int32)) := F31.other W33 (Or.inr (slot_ne (Or.inl (hw _ (List.mem_of_getElem? (i := 17) rfl))) (Or.inl (hw _ (List.mem_of_getElem? (i := 56) rfl))) (by decide) (t := .boolean) (t' := (.object "java/lang/Object")) (by decide) (by decide)))
    have F42 : Fld Z h33 a1 "com/example/sidelane/sidelane/Cancellation" "cancelOutcome" "Lcom/example/sidelane/sidelane/Cancellation$Outcome;" (.ref w_CANCELLED) := F32.other W33 (Or.inr (slot_ne (Or.inl (hw _ (List.mem_of_getElem? (i := 54) rfl))) (Or.inl (hw _ (List.mem_of_getElem? (i := 56) rfl))) (by decide) (t := (.object "com/example/sidelane/sidelane/Cancellation$Outcome")) (t' := (.object "java/lang/Object")) (by decide) (by decide)))
    have F43 : Fld Z h33 a1 "com/example/sidelane/sidelane/Cancellation" "cancelEnding" "Ljava/lang/Object;" (.ref a3) := F30.same W33
    have N33 := Fr.snoc X33 N22 g_a1
    show Go p e below _ (T33.setTop (mkL a1 m 168 #[.val (.ref a1), .val (.int p2), .val (.ref a3), .val (.int (1 : Int32)), .val (.int (0 : Int32))] []))
    refine Go.st (fun _ => XS.aloadN X33.here hx rfl (hb hby d7_168) rfl rfl) ?_
    show Go p e below _ (T33.setTop (mkL a1 m 169 #[.val (.ref a1), .val (.int p2), .val (.ref a3), .val (.int (1 : Int32)), .val (.int (0 : Int32))] [(.ref a1)]))
    obtain ⟨T44, X44, e44, st44⟩ := getF X33 hx hZ hown (host := "") (Or.inl (hw _ (List.mem_of_getElem? (i := 53) rfl))) Via.refl e33 F42 (g := (mkL a1 m 169 #[.val (.ref a1), .val (.int p2), .val (.ref a3), .val (.int (1 : Int32)), .val (.int (0 : Int32))] [(.ref a1)])) rfl rfl (hb hby d7_169)
    refine Go.st st44 ?_
    show Go p e below _ (T44.setTop (mkL a1 m 172 #[.val (.ref a1), .val (.int p2), .val (.ref a3), .val (.int (1 : Int32)), .val (.int (0 : Int32))] [(.ref w_CANCELLED)]))
    refine goRetS (v := some (.ref w_CANCELLED)) X44 hs hcell hmon hlk (fun h => by rw [hret] at h; cases h) e44 (fun V hV => retS X44 hx hret rfl (Or.inr (Or.inr (Or.inr (Or.inr ⟨rfl, rfl, rfl⟩)))) (hb hby d7_172) hV) (by decide) (by decide) (fun h' M' K' hm' => ?_)
    exact ⟨⟨_, rfl⟩, N33, (K35.trans K' (allS (Or.inl (List.mem_singleton_self _)) all0)), ⟨(E_36.mon M'), (untEnd U0 (K35.trans K' (allS (Or.inl (List.mem_singleton_self _)) all0)) hm'), (F37.mon M'), (F41.mon M'), (F38.mon M'), (F39.mon M'), (F40.mon M'), (F43.mon M'), (F42.mon M')⟩⟩
  · refine Go.st (fun _ => XS.ifNo X8.here hx rfl (hb hby d7_108) rfl ((if0 _ _).trans (feq hc19).1)) ?_
    show Go p e below _ (T8.setTop (mkL a1 m 111 #[.val (.ref a1), .val (.int p2), .val (.ref a3), .val (.int (1 : Int32)), .val (.int (0 : Int32))] []))
    refine Go.st (fun _ => XS.aloadN X8.here hx rfl (hb hby d7_111) rfl rfl) ?_
    show Go p e below _ (T8.setTop (mkL a1 m 112 #[.val (.ref a1), .val (.int p2), .val (.ref a3), .val (.int (1 : Int32)), .val (.int (0 : Int32))] [(.ref a1)]))
    obtain ⟨T45, X45, e45, st45⟩ := getF X8 hx hZ hown (host := "") (Or.inl (hw _ (List.mem_of_getElem? (i := 77) rfl))) Via.refl e8 F15 (g := (mkL a1 m 112 #[.val (.ref a1), .val (.int p2), .val (.ref a3), .val (.int (1 : Int32)), .val (.int (0 : Int32))] [(.ref a1)])) rfl rfl (hb hby d7_112)
    refine Go.st st45 ?_
    show Go p e below _ (T45.setTop (mkL a1 m 115 #[.val (.ref a1), .val (.int p2), .val (.ref a3), .val (.int (1 : Int32)), .val (.int (0 : Int32))] [.null]))
    refine Go.st (fun _ => XS.ifnullYes X45.here hx rfl (pc0 := 115) (pc' := 125) rfl (hb hby d7_115) rfl (by decide) (by decide)) ?_
    show Go p e below _ (T45.setTop (mkL a1 m 125 #[.val (.ref a1), .val (.int p2), .val (.ref a3), .val (.int (1 : Int32)), .val (.int (0 : Int32))] []))
    refine Go.st (fun _ => XS.iloadN X45.here hx rfl (hb hby d7_125) rfl) ?_
    show Go p e below _ (T45.setTop (mkL a1 m 126 #[.val (.ref a1), .val (.int p2), .val (.ref a3), .val (.int (1 : Int32)), .val (.int (0 : Int32))] [(.int (1 : Int32))]))
    refine Go.st (fun _ => XS.ifYes X45.here hx rfl (pc0 := 126) (pc' := 139) rfl (hb hby d7_126) rfl ((if0 _ _).trans (feq (by decide : ¬ ((1 : Int32) = (0 : Int32)))).2) (by decide) (by decide)) ?_
    show Go p e below _ (T45.setTop (mkL a1 m 139 #[.val (.ref a1), .val (.int p2), .val (.ref a3), .val (.int (1 : Int32)), .val (.int (0 : Int32))] []))
    refine Go.st (fun _ => XS.aloadN X45.here hx rfl (hb hby d7_139) rfl rfl) ?_
    show Go p e below _ (T45.setTop (mkL a1 m 140 #[.val (.ref a1), .val (.int p2), .val (.ref a3), .val (.int (1 : Int32)), .val (.int (0 : Int32))] [(.ref a1)]))
    obtain ⟨T46, X46, e46, st46⟩ := getF X45 hx hZ hown (host := "") (Or.inl (hw _ (List.mem_of_getElem? (i := 48) rfl))) Via.refl e45 F14 (g := (mkL a1 m 140 #[.val (.ref a1), .val (.int p2), .val (.ref a3), .val (.int (1 : Int32)), .val (.int (0 : Int32))] [(.ref a1)])) rfl rfl (hb hby d7_140)
    refine Go.st st46 ?_
    show Go p e below _ (T46.setTop (mkL a1 m 143 #[.val (.ref a1), .val (.int p2), .val (.ref a3), .val (.int (1 : Int32)), .val (.int (0 : Int32))] [(.int (0 : Int32))]))
    refine Go.st (fun _ => XS.ifYes X46.here hx rfl (pc0 := 143) (pc' := 156) rfl (hb hby d7_143) rfl ((if0 _ _).trans (teq (by decide : (0 : Int32) = (0 : Int32))).1) (by decide) (by decide)) ?_
    show Go p e below _ (T46.setTop (mkL a1 m 156 #[.val (.ref a1), .val (.int p2), .val (.ref a3), .val (.int (1 : Int32)), .val (.int (0 : Int32))] []))
    refine Go.st (fun _ => XS.aloadN X46.here hx rfl (hb hby d7_156) rfl rfl) ?_
    show Go p e below _ (T46.setTop (mkL a1 m 157 #[.val (.ref a1), .val (.int p2), .val (.ref a3), .val (.int (1 : Int32)), .val (.int (0 : Int32))] [(.ref a1)]))
    obtain ⟨T47, X47, e47, st47⟩ := getS2 X46 hx hZ hown (host := "") (Or.inl (hw _ (List.mem_of_getElem? (i := 50) rfl))) Via.refl e46 (oldSta O9 S_w_CANCELLED) (g := (mkL a1 m 157 #[.val (.ref a1), .val (.int p2), .val (.ref a3), .val (.int (1 : Int32)), .val (.int (0 : Int32))] [(.ref a1)])) rfl (hb hby d7_157)
    refine Go.st st47 ?_
    show Go p e below _ (T47.setTop (mkL a1 m 160 #[.val (.ref a1), .val (.int p2), .val (.ref a3), .val (.int (1 : Int32)), .val (.int (0 : Int32))] [(.ref w_CANCELLED), (.ref a1)]))
    obtain ⟨T48, h48, X48, e48, W48, st48⟩ := putF X47 hx hZ hown (host := "") (Or.inl (hw _ (List.mem_of_getElem? (i := 53) rfl))) Via.refl e47 F17 E_11 (Or.inl (hw _ (List.mem_of_getElem? (i := 54) rfl))) (hw _ (List.mem_of_getElem? (i := 1) rfl)) (ty := (.object "com/example/sidelane/sidelane/Cancellation$Outcome")) (by decide) rfl rfl (g := (mkL a1 m 160 #[.val (.ref a1), .val (.int p2), .val (.ref a3), .val (.int (1 : Int32)), .val (.int (0 : Int32))] [(.ref w_CANCELLED), (.ref a1)])) rfl rfl (hb hby d7_160)
    refine Go.st st48 ?_
    have O49 : Old Z n0 h48 := O9.wr W48 g_a1
    have K50 : Keep h0 h48 [a1] := K10.wr W48 (Or.inl (List.mem_of_getElem? (i := 0) rfl))
    have E_51 : Exa Z h48 a1 "com/example/sidelane/sidelane/Cancellation" := E_11.wr W48
    have F52 : Fld Z h48 a1 "com/example/sidelane/sidelane/Cancellation" "claimedBy" "Lcom/example/sidelane/sidelane/Cancellation$Claimant;" (.ref w_EXECUTE) := F12.other W48 (Or.inr (slot_ne (Or.inl (hw _ (List.mem_of_getElem? (i := 15) rfl))) (Or.inl (hw _ (List.mem_of_getElem? (i := 54) rfl))) (by decide) (t := (.object "com/example/sidelane/sidelane/Cancellation$Claimant")) (t' := (.object "com/example/sidelane/sidelane/Cancellation$Outcome")) (by decide) (by decide)))
    have F53 : Fld Z h48 a1 "com/example/sidelane/sidelane/Cancellation" "endingBegun" "Z" (.int (0 : Int32)) := F13.other W48 (Or.inr (slot_ne (Or.inl (hw _ (List.mem_of_getElem? (i := 46) rfl))) (Or.inl (hw _ (List.mem_of_getElem? (i := 54) rfl))) (by decide) (t := .boolean) (t' := (.object "com/example/sidelane/sidelane/Cancellation$Outcome")) (by decide) (by decide)))
    have F54 : Fld Z h48 a1 "com/example/sidelane/sidelane/Cancellation" "queued" "Z" (.int (0 : Int32)) := F14.other W48 (Or.inr (slot_ne (Or.inl (hw _ (List.mem_of_getElem? (i := 49) rfl))) (Or.inl (hw _ (List.mem_of_getElem? (i := 54) rfl))) (by decide) (t := .boolean) (t' := (.object "com/example/sidelane/sidelane/Cancellation$Outcome")) (by decide) (by decide)))
    have F55 : Fld Z h48 a1 "com/example/sidelane/sidelane/Cancellation" "runner" "Ljava/lang/Thread;" .null := F15.other W48 (Or.inr (slot_ne (Or.inl (hw _ (List.mem_of_getElem? (i := 78) rfl))) (Or.inl (hw _ (List.mem_of_getElem? (i := 54) rfl))) (by decide) (t := (.object "java/lang/Thread")) (t' := (.object "com/example/sidelane/sidelane/Cancellation$Outcome")) (by decide) (by decide)))
    have F56 : Fld Z h48 a1 "com/example/sidelane/sidelane/Cancellation" "cancelEnding" "Ljava/lang/Object;" en := F16.other W48 (Or.inr (slot_ne (Or.inl (hw _ (List.mem_of_getElem? (i := 56) rfl))) (Or.inl (hw _ (List.mem_of_getElem? (i := 54) rfl))) (by decide) (t := (.object "java/lang/Object")) (t' := (.object "com/example/sidelane/sidelane/Cancellation$Outcome")) (by decide) (by decide)))
    have F57 : Fld Z h48 a1 "com/example/sidelane/sidelane/Cancellation" "cancelled" "Z" (.int (1 : Int32)) := F18.other W48 (Or.inr (slot_ne (Or.inl (hw _ (List.mem_of_getElem? (i := 17) rfl))) (Or.inl (hw _ (List.mem_of_getElem? (i := 54) rfl))) (by decide) (t := .boolean) (t' := (.object "com/example/sidelane/sidelane/Cancellation$Outcome")) (by decide) (by decide)))
    have F58 : Fld Z h48 a1 "com/example/sidelane/sidelane/Cancellation" "cancelOutcome" "Lcom/example/sidelane/sidelane/Cancellation$Outcome;" (.ref w_CANCELLED) := F17.same W48
    have N48 := Fr.snoc X48 N8 g_a1
    show Go p e below _ (T48.setTop (mkL a1 m 163 #[.val (.ref a1), .val (.int p2), .val (.ref a3), .val (.int (1 : Int32)), .val (.int (0 : Int32))] []))
    refine Go.st (fun _ => XS.aloadN X48.here hx rfl (hb hby d7_163) rfl rfl) ?_
    show Go p e below _ (T48.setTop (mkL a1 m 164 #[.val (.ref a1), .val (.int p2), .val (.ref a3), .val (.int (1 : Int32)), .val (.int (0 : Int32))] [(.ref a1)]))
    refine Go.st (fun _ => XS.aloadN X48.here hx rfl (hb hby d7_164) rfl rfl) ?_
    show Go p e below _ (T48.setTop (mkL a1 m 165 #[.val (.ref a1), .val (.int p2), .val (.ref a3), .val (.int (1 : Int32)), .val (.int (0 : Int32))] [(.ref a3), (.ref a1)]))
    obtain ⟨T59, h59, X59, e59, W59, st59⟩ := putF X48 hx hZ hown (host := "") (Or.inl (hw _ (List.mem_of_getElem? (i := 55) rfl))) Via.refl e48 F56 E_51 (Or.inl (hw _ (List.mem_of_getElem? (i := 56) rfl))) (hw _ (List.mem_of_getElem? (i := 1) rfl)) (ty := (.object "java/lang/Object")) (by decide) rfl rfl (g := (mkL a1 m 165 #[.val (.ref a1), .val (.int p2), .val (.ref a3), .val (.int (1 : Int32)), .val (.int (0 : Int32))] [(.ref a3), (.ref a1)])) rfl rfl (hb hby d7_165)
    refine Go.st st59 ?_
    have O60 : Old Z n0 h59 := O49.wr W59 g_a1
    have K61 : Keep h0 h59 [a1] := K50.wr W59 (Or.inl (List.mem_of_getElem? (i := 0) rfl))
    have E_62 : Exa Z h59 a1 "com/example/sidelane/sidelane/Cancellation" := E_51.wr W59
    have F63 : Fld Z h59 a1 "com/example/sidelane/sidelane/Cancellation" "claimedBy" "Lcom/example/sidelane/sidelane/Cancellation$Claimant;" (.ref w_EXECUTE) := F52.other W59 (Or.inr (slot_ne (Or.inl (hw _ (List.mem_of_getElem? (i := 15) rfl))) (Or.inl (hw _ (List.mem_of_getElem? (i := 56) rfl))) (by decide) (t := (.object "com/example/sidelane/sidelane/Cancellation$Claimant")) (t' := (.object "java/lang/Object")) (by decide) (by decide)))
    have F64 : Fld Z h59 a1 "com/example/sidelane/sidelane/Cancellation" "endingBegun" "Z" (.int (0 : Int32)) := F53.other W59 (Or.inr (slot_ne (Or.inl (hw _ (List.mem_of_getElem? (i := 46) rfl))) (Or.inl (hw _ (List.mem_of_getElem? (i := 56) rfl))) (by decide) (t := .boolean) (t' := (.object "java/lang/Object")) (by decide) (by decide)))
    have F65 : Fld Z h59 a1 "com/example/sidelane/sidelane/Cancellation" "queued" "Z" (.int (0 : Int32)) := F54.other W59 (Or.inr (slot_ne (Or.inl (hw _ (List.mem_of_getElem? (i := 49) rfl))) (Or.inl (hw _ (List.mem_of_getElem? (i := 56) rfl))) (by decide) (t := .boolean) (t' := (.object "java/lang/Object")) (by decide) (by decide)))
    have F66 : Fld Z h59 a1 "com/example/sidelane/sidelane/Cancellation" "runner" "Ljava/lang/Thread;" .null := F55.other W59 (Or.inr (slot_ne (Or.inl (hw _ (List.mem_of_getElem? (i := 78) rfl))) (Or.inl (hw _ (List.mem_of_getElem? (i := 56) rfl))) (by decide) (t := (.object "java/lang/Thread")) (t' := (.object "java/lang/Object")) (by decide) (by decide)))
    have F67 : Fld Z h59 a1 "com/example/sidelane/sidelane/Cancellation" "cancelled" "Z" (.int (1 : Int32)) := F57.other W59 (Or.inr (slot_ne (Or.inl (hw _ (List.mem_of_getElem? (i := 17) rfl))) (Or.inl (hw _ (List.mem_of_getElem? (i := 56) rfl))) (by decide) (t := .boolean) (t' := (.object "java/lang/Object")) (by decide) (by decide)))
    have F68 : Fld Z h59 a1 "com/example/sidelane/sidelane/Cancellation" "cancelOutcome" "Lcom/example/sidelane/sidelane/Cancellation$Outcome;" (.ref w_CANCELLED) := F58.other W59 (Or.inr (slot_ne (Or.inl (hw _ (List.mem_of_getElem? (i := 54) rfl))) (Or.inl (hw _ (List.mem_of_getElem? (i := 56) rfl))) (by decide) (t := (.object "com/example/sidelane/sidelane/Cancellation$Outcome")) (t' := (.object "java/lang/Object")) (by decide) (by decide)))
    have F69 : Fld Z h59 a1 "com/example/sidelane/sidelane/Cancellation" "cancelEnding" "Ljava/lang/Object;" (.ref a3) := F56.same W59
    have N59 := Fr.snoc X59 N48 g_a1
    show Go p e below _ (T59.setTop (mkL a1 m 168 #[.val (.ref a1), .val (.int p2), .val (.ref a3), .val (.int (1 : Int32)), .val (.int (0 : Int32))] []))
    refine Go.st (fun _ => XS.aloadN X59.here hx rfl (hb hby d7_168) rfl rfl) ?_
    show Go p e below _ (T59.setTop (mkL a1 m 169 #[.val (.ref a1), .val (.int p2), .val (.ref a3), .val (.int (1 : Int32)), .val (.int (0 : Int32))] [(.ref a1)]))
    obtain ⟨T70, X70, e70, st70⟩ := getF X59 hx hZ hown (host := "") (Or.inl (hw _ (List.mem_of_getElem? (i := 53) rfl))) Via.refl e59 F68 (g := (mkL a1 m 169 #[.val (.ref a1), .val (.int p2), .val (.ref a3), .val (.int (1 : Int32)), .val (.int (0 : Int32))] [(.ref a1)])) rfl rfl (hb hby d7_169)
    refine Go.st st70 ?_
    show Go p e below _ (T70.setTop (mkL a1 m 172 #[.val (.ref a1), .val (.int p2), .val (.ref a3), .val (.int (1 : Int32)), .val (.int (0 : Int32))] [(.ref w_CANCELLED)]))
    refine goRetS (v := some (.ref w_CANCELLED)) X70 hs hcell hmon hlk (fun h => by rw [hret] at h; cases h) e70 (fun V hV => retS X70 hx hret rfl (Or.inr (Or.inr (Or.inr (Or.inr ⟨rfl, rfl, rfl⟩)))) (hb hby d7_172) hV) (by decide) (by decide) (fun h' M' K' hm' => ?_)
    exact ⟨⟨_, rfl⟩, N59, (K61.trans K' (allS (Or.inl (List.mem_singleton_self _)) all0)), ⟨(E_62.mon M'), (untEnd U0 (K61.trans K' (allS (Or.inl (List.mem_singleton_self _)) all0)) hm'), (F63.mon M'), (F67.mon M'), (F64.mon M'), (F65.mon M'), (F66.mon M'), (F69.mon M'), (F68.mon M')⟩⟩
set_option maxRecDepth 65536 in
set_option maxHeartbeats 40000000 in
theorem caB0 (l : Launch) (Z : State) (a0 : Array Value) (hw : ∀ d ∈ tables_1, d.before a0 Z = true) (a1 : Addr) (p2 : Int32) (en oc : Value) (w_EXECUTE w_ADOPTER w_CANCELLED w_REFUSED w_HANDED_OVER w_CANCELLED_UNEXECUTED w_ENDING_NEEDED : Addr) (h0 : Heap) (n0 : Nat) (O0 : Old Z n0 h0) (U0 : Unt h0 a1) (g_a1 : n0 ≤ a1) (A_a1 : Exa Z h0 a1 "com/example/sidelane/sidelane/Cancellation") (F_claimedBy : Fld Z h0 a1 "com/example/sidelane/sidelane/Cancellation" "claimedBy" "Lcom/example/sidelane/sidelane/Cancellation$Claimant;" .null) (F_cancelled : Fld Z h0 a1 "com/example/sidelane/sidelane/Cancellation" "cancelled" "Z" (.int (1 : Int32))) (F_endingBegun : Fld Z h0 a1 "com/example/sidelane/sidelane/Cancellation" "endingBegun" "Z" (.int (0 : Int32))) (F_queued : Fld Z h0 a1 "com/example/sidelane/sidelane/Cancellation" "queued" "Z" (.int (0 : Int32))) (F_runner : Fld Z h0 a1 "com/example/sidelane/sidelane/Cancellation" "runner" "Ljava/lang/Thread;" .null) (F_cancelEnding : Fld Z h0 a1 "com/example/sidelane/sidelane/Cancellation" "cancelEnding" "Ljava/lang/Object;" en) (F_cancelOutcome : Fld Z h0 a1 "com/example/sidelane/sidelane/Cancellation" "cancelOutcome" "Lcom/example/sidelane/sidelane/Cancellation$Outcome;" oc) (S_w_EXECUTE : Sta Z Z.heap "com/example/sidelane/sidelane/Cancellation$Claimant" "EXECUTE" "Lcom/example/sidelane/sidelane/Cancellation$Claimant;" (.ref w_EXECUTE)) (S_w_ADOPTER : Sta Z Z.heap "com/example/sidelane/sidelane/Cancellation$Claimant" "ADOPTER" "Lcom/example/sidelane/sidelane/Cancellation$Claimant;" (.ref w_ADOPTER)) (S_w_CANCELLED : Sta Z Z.heap "com/example/sidelane/sidelane/Cancellation$Outcome" "CANCELLED" "Lcom/example/sidelane/sidelane/Cancellation$Outcome;" (.ref w_CANCELLED)) (S_w_REFUSED : Sta Z Z.heap "com/example/sidelane/sidelane/Cancellation$Outcome" "REFUSED" "Lcom/example/sidelane/sidelane/Cancellation$Outcome;" (.ref w_REFUSED)) (S_w_HANDED_OVER : Sta Z Z.heap "com/example/sidelane/sidelane/Cancellation$Outcome" "HANDED_OVER" "Lcom/example/sidelane/sidelane/Cancellation$Outcome;" (.ref w_HANDED_OVER)) (S_w_CANCELLED_UNEXECUTED : Sta Z Z.heap "com/example/sidelane/sidelane/Cancellation$Outcome" "CANCELLED_UNEXECUTED" "Lcom/example/sidelane/sidelane/Cancellation$Outcome;" (.ref w_CANCELLED_UNEXECUTED)) (S_w_ENDING_NEEDED : Sta Z Z.heap "com/example/sidelane/sidelane/Cancellation$Outcome" "ENDING_NEEDED" "Lcom/example/sidelane/sidelane/Cancellation$Outcome;" (.ref w_ENDING_NEEDED)) (ne_w_EXECUTE_w_ADOPTER : w_EXECUTE ≠ w_ADOPTER) :
    CtrS l (⟨"com/example/sidelane/sidelane/Cancellation", "cancel", "(ZLjava/lang/Object;)Lcom/example/sidelane/sidelane/Cancellation$Outcome;"⟩ : MethodName) prog_3_method_2_code 5 (some (.object "com/example/sidelane/sidelane/Cancellation$Outcome")) ({ frames := 0, cells := 0, slots := 0, locals := 0 } : Room) #[(.ref a1), (.int p2), .null] Z h0 (fun v h L => (∃ r, v = some (.ref r)) ∧ Fr n0 L ∧ Keep h0 h [a1] ∧ own_ob Z h a1 .null (1 : Int32) (0 : Int32) en oc) := by
  have ef : ∀ m : MethodId, entryFrameSync m #[(.ref a1), (.int p2), .null] 5 a1 = mkL a1 m 0 #[.val (.ref a1), .val (.int p2), .val .null, .unset, .unset] [] := fun m => by first | rfl | (simp [entryFrameSync, mkL, argsToLocals, Value.category]; done)
  refine CtrS.of (a := a1) (plainFor_of_name pn_7) rfl U0 ?_
  intro p e s0 s m below meth c s₁ cell hx hZ hby hml hown0 hnm hret hlk hs hcell hmon X0 M0 K0
  have hown : s.vm.findClass "com/example/sidelane/sidelane/Cancellation" = some m.cls := hown0
  have N0 := Fr.nil n0
  obtain ⟨h1, e0⟩ : ∃ z, s₁.heap = z := ⟨_, rfl⟩
  rw [e0] at M0 K0
  have O1 := O0.keep K0 (allS g_a1 all0)
  refine Go.st (fun t k => castTop (ef m) k) ?_
  have A_a1' : Exa Z h1 a1 "com/example/sidelane/sidelane/Cancellation" := A_a1.mon M0
  have F_claimedBy' : Fld Z h1 a1 "com/example/sidelane/sidelane/Cancellation" "claimedBy" "Lcom/example/sidelane/sidelane/Cancellation$Claimant;" .null := F_claimedBy.mon M0
  have F_cancelled' : Fld Z h1 a1 "com/example/sidelane/sidelane/Cancellation" "cancelled" "Z" (.int (1 : Int32)) := F_cancelled.mon M0
  have F_endingBegun' : Fld Z h1 a1 "com/example/sidelane/sidelane/Cancellation" "endingBegun" "Z" (.int (0 : Int32)) := F_endingBegun.mon M0
  have F_queued' : Fld Z h1 a1 "com/example/sidelane/sidelane/Cancellation" "queued" "Z" (.int (0 : Int32)) := F_queued.mon M0
  have F_runner' : Fld Z h1 a1 "com/example/sidelane/sidelane/Cancellation" "runner" "Ljava/lang/Thread;" .null := F_runner.mon M0
  have F_cancelEnding' : Fld Z h1 a1 "com/example/sidelane/sidelane/Cancellation" "cancelEnding" "Ljava/lang/Object;" en := F_cancelEnding.mon M0
  have F_cancelOutcome' : Fld Z h1 a1 "com/example/sidelane/sidelane/Cancellation" "cancelOutcome" "Lcom/example/sidelane/sidelane/Cancellation$Outcome;" oc := F_cancelOutcome.mon M0
  show Go p e below _ (s₁.setTop (mkL a1 m 0 #[.val (.ref a1), .val (.int p2), .val .null, .unset, .unset] []))
  refine Go.st (fun _ => XS.aloadN X0.here hx rfl (hb hby d7_0) rfl rfl) ?_
  show Go p e below _ (s₁.setTop (mkL a1 m 1 #[.val (.ref a1), .val (.int p2), .val .null, .unset, .unset] [(.ref a1)]))
  obtain ⟨T1, X1, e1, st1⟩ := getF X0 hx hZ hown (host := "") (Or.inl (hw _ (List.mem_of_getElem? (i := 14) rfl))) Via.refl e0 F_claimedBy' (g := (mkL a1 m 1 #[.val (.ref a1), .val (.int p2), .val .null, .unset, .unset] [(.ref a1)])) rfl rfl (hb hby d7_1)
  refine Go.st st1 ?_
  show Go p e below _ (T1.setTop (mkL a1 m 4 #[.val (.ref a1), .val (.int p2), .val .null, .unset, .unset] [.null]))
  obtain ⟨T2, X2, e2, st2⟩ := getS2 X1 hx hZ hown (host := "") (Or.inl (hw _ (List.mem_of_getElem? (i := 43) rfl))) Via.refl e1 (oldSta O1 S_w_ADOPTER) (g := (mkL a1 m 4 #[.val (.ref a1), .val (.int p2), .val .null, .unset, .unset] [.null])) rfl (hb hby d7_4)
  refine Go.st st2 ?_
  show Go p e below _ (T2.setTop (mkL a1 m 7 #[.val (.ref a1), .val (.int p2), .val .null, .unset, .unset] [(.ref w_ADOPTER), .null]))
  refine Go.st (fun _ => fun k => Jvm.RoadKit.acmp (g := (mkL a1 m 7 #[.val (.ref a1), .val (.int p2), .val .null, .unset, .unset] [(.ref w_ADOPTER), .null])) X2 hx rfl rfl rfl (pc0 := 7) (pc' := 14) (same := false) rfl (hb hby d7_7) rfl (decide_eq_false nofun) (by decide) (by decide) k) ?_
  show Go p e below _ (T2.setTop (mkL a1 m 14 #[.val (.ref a1), .val (.int p2), .val .null, .unset, .unset] []))
  refine Go.st (fun _ => XS.aloadN X2.here hx rfl (hb hby d7_14) rfl rfl) ?_
  show Go p e below _ (T2.setTop (mkL a1 m 15 #[.val (.ref a1), .val (.int p2), .val .null, .unset, .unset] [(.ref a1)]))
  obtain ⟨T3, X3, e3, st3⟩ := getF X2 hx hZ hown (host := "") (Or.inl (hw _ (List.mem_of_getElem? (i := 16) rfl))) Via.refl e2 F_cancelled' (g := (mkL a1 m 15 #[.val (.ref a1), .val (.int p2), .val .null, .unset, .unset] [(.ref a1)])) rfl rfl (hb hby d7_15)
  refine Go.st st3 ?_
  show Go p e below _ (T3.setTop (mkL a1 m 18 #[.val (.ref a1), .val (.int p2), .val .null, .unset, .unset] [(.int (1 : Int32))]))
  refine Go.st (fun _ => XS.ifNo X3.here hx rfl (hb hby d7_18) rfl ((if0 _ _).trans (feq (by decide : ¬ ((1 : Int32) = (0 : Int32)))).1)) ?_
  show Go p e below _ (T3.setTop (mkL a1 m 21 #[.val (.ref a1), .val (.int p2), .val .null, .unset, .unset] []))
  refine Go.st (fun _ => XS.aloadN X3.here hx rfl (hb hby d7_21) rfl rfl) ?_
  show Go p e below _ (T3.setTop (mkL a1 m 22 #[.val (.ref a1), .val (.int p2), .val .null, .unset, .unset] [.null]))
  refine Go.st (fun _ => XS.ifnullYes X3.here hx rfl (pc0 := 22) (pc' := 40) rfl (hb hby d7_22) rfl (by decide) (by decide)) ?_
  show Go p e below _ (T3.setTop (mkL a1 m 40 #[.val (.ref a1), .val (.int p2), .val .null, .unset, .unset] []))
  obtain ⟨T4, X4, e4, st4⟩ := getS2 X3 hx hZ hown (host := "") (Or.inl (hw _ (List.mem_of_getElem? (i := 57) rfl))) Via.refl e3 (oldSta O1 S_w_REFUSED) (g := (mkL a1 m 40 #[.val (.ref a1), .val (.int p2), .val .null, .unset, .unset] [])) rfl (hb hby d7_40)
  refine Go.st st4 ?_
  show Go p e below _ (T4.setTop (mkL a1 m 43 #[.val (.ref a1), .val (.int p2), .val .null, .unset, .unset] [(.ref w_REFUSED)]))
  refine goRetS (v := some (.ref w_REFUSED)) X4 hs hcell hmon hlk (fun h => by rw [hret] at h; cases h) e4 (fun V hV => retS X4 hx hret rfl (Or.inr (Or.inr (Or.inr (Or.inr ⟨rfl, rfl, rfl⟩)))) (hb hby d7_43) hV) (by decide) (by decide) (fun h' M' K' hm' => ?_)
  exact ⟨⟨_, rfl⟩, N0, (K0.trans K' (allS (Or.inl (List.mem_singleton_self _)) all0)), ⟨(A_a1'.mon M'), (untEnd U0 (K0.trans K' (allS (Or.inl (List.mem_singleton_self _)) all0)) hm'), (F_claimedBy'.mon M'), (F_cancelled'.mon M'), (F_endingBegun'.mon M'), (F_queued'.mon M'), (F_runner'.mon M'), (F_cancelEnding'.mon M'), (F_cancelOutcome'.mon M')⟩⟩
set_option maxRecDepth 65536 in
set_option maxHeartbeats 40000000 in
theorem caC0 (l : Launch) (Z : State) (a0 : Array Value) (hw : ∀ d ∈ tables_1, d.before a0 Z = true) (a1 : Addr) (p2 : Int32) (a3 : Addr) (oc : Value) (w_EXECUTE w_ADOPTER w_CANCELLED w_REFUSED w_HANDED_OVER w_CANCELLED_UNEXECUTED w_ENDING_NEEDED : Addr) (h0 : Heap) (n0 : Nat) (O0 : Old Z n0 h0) (U0 : Unt h0 a1) (g_a1 : n0 ≤ a1) (A_a1 : Exa Z h0 a1 "com/example/sidelane/sidelane/Cancellation") (F_claimedBy : Fld Z h0 a1 "com/example/sidelane/sidelane/Cancellation" "claimedBy" "Lcom/example/sidelane/sidelane/Cancellation$Claimant;" .null) (F_cancelled : Fld Z h0 a1 "com/example/sidelane/sidelane/Cancellation" "cancelled" "Z" (.int (1 : Int32))) (F_endingBegun : Fld Z h0 a1 "com/example/sidelane/sidelane/Cancellation" "endingBegun" "Z" (.int (0 : Int32))) (F_queued : Fld Z h0 a1 "com/example/sidelane/sidelane/Cancellation" "queued" "Z" (.int (0 : Int32))) (F_runner : Fld Z h0 a1 "com/example/sidelane/sidelane/Cancellation" "runner" "Ljava/lang/Thread;" .null) (F_cancelEnding : Fld Z h0 a1 "com/example/sidelane/sidelane/Cancellation" "cancelEnding" "Ljava/lang/Object;" .null) (F_cancelOutcome : Fld Z h0 a1 "com/example/sidelane/sidelane/Cancellation" "cancelOutcome" "Lcom/example/sidelane/sidelane/Cancellation$Outcome;" oc) (S_w_EXECUTE : Sta Z Z.heap "com/example/sidelane/sidelane/Cancellation$Claimant" "EXECUTE" "Lcom/example/sidelane/sidelane/Cancellation$Claimant;" (.ref w_EXECUTE)) (S_w_ADOPTER : Sta Z Z.heap "com/example/sidelane/sidelane/Cancellation$Claimant" "ADOPTER" "Lcom/example/sidelane/sidelane/Cancellation$Claimant;" (.ref w_ADOPTER)) (S_w_CANCELLED : Sta Z Z.heap "com/example/sidelane/sidelane/Cancellation$Outcome" "CANCELLED" "Lcom/example/sidelane/sidelane/Cancellation$Outcome;" (.ref w_CANCELLED)) (S_w_REFUSED : Sta Z Z.heap "com/example/sidelane/sidelane/Cancellation$Outcome" "REFUSED" "Lcom/example/sidelane/sidelane/Cancellation$Outcome;" (.ref w_REFUSED)) (S_w_HANDED_OVER : Sta Z Z.heap "com/example/sidelane/sidelane/Cancellation$Outcome" "HANDED_OVER" "Lcom/example/sidelane/sidelane/Cancellation$Outcome;" (.ref w_HANDED_OVER)) (S_w_CANCELLED_UNEXECUTED : Sta Z Z.heap "com/example/sidelane/sidelane/Cancellation$Outcome" "CANCELLED_UNEXECUTED" "Lcom/example/sidelane/sidelane/Cancellation$Outcome;" (.ref w_CANCELLED_UNEXECUTED)) (S_w_ENDING_NEEDED : Sta Z Z.heap "com/example/sidelane/sidelane/Cancellation$Outcome" "ENDING_NEEDED" "Lcom/example/sidelane/sidelane/Cancellation$Outcome;" (.ref w_ENDING_NEEDED)) (ne_w_EXECUTE_w_ADOPTER : w_EXECUTE ≠ w_ADOPTER) :
    CtrS l (⟨"com/example/sidelane/sidelane/Cancellation", "cancel", "(ZLjava/lang/Object;)Lcom/example/sidelane/sidelane/Cancellation$Outcome;"⟩ : MethodName) prog_3_method_2_code 5 (some (.object "com/example/sidelane/sidelane/Cancellation$Outcome")) ({ frames := 0, cells := 0, slots := 0, locals := 0 } : Room) #[(.ref a1), (.int p2), (.ref a3)] Z h0 (fun v h L => (∃ r, v = some (.ref r)) ∧ Fr n0 L ∧ Keep h0 h [a1] ∧ own_ob Z h a1 .null (1 : Int32) (0 : Int32) .null oc) := by
  have ef : ∀ m : MethodId, entryFrameSync m #[(.ref a1), (.int p2), (.ref a3)] 5 a1 = mkL a1 m 0 #[.val (.ref a1), .val (.int p2), .val (.ref a3), .unset, .unset] [] := fun m => by first | rfl | (simp [entryFrameSync, mkL, argsToLocals, Value.category]; done)
  refine CtrS.of (a := a1) (plainFor_of_name pn_7) rfl U0 ?_
  intro p e s0 s m below meth c s₁ cell hx hZ hby hml hown0 hnm hret hlk hs hcell hmon X0 M0 K0
  have hown : s.vm.findClass "com/example/sidelane/sidelane/Cancellation" = some m.cls := hown0
  have N0 := Fr.nil n0
  obtain ⟨h1, e0⟩ : ∃ z, s₁.heap = z := ⟨_, rfl⟩
  rw [e0] at M0 K0
  have O1 := O0.keep K0 (allS g_a1 all0)
  refine Go.st (fun t k => castTop (ef m) k) ?_
  have A_a1' : Exa Z h1 a1 "com/example/sidelane/sidelane/Cancellation" := A_a1.mon M0
  have F_claimedBy' : Fld Z h1 a1 "com/example/sidelane/sidelane/Cancellation" "claimedBy" "Lcom/example/sidelane/sidelane/Cancellation$Claimant;" .null := F_claimedBy.mon M0
  have F_cancelled' : Fld Z h1 a1 "com/example/sidelane/sidelane/Cancellation" "cancelled" "Z" (.int (1 : Int32)) := F_cancelled.mon M0
  have F_endingBegun' : Fld Z h1 a1 "com/example/sidelane/sidelane/Cancellation" "endingBegun" "Z" (.int (0 : Int32)) := F_endingBegun.mon M0
  have F_queued' : Fld Z h1 a1 "com/example/sidelane/sidelane/Cancellation" "queued" "Z" (.int (0 : Int32)) := F_queued.mon M0
  have F_runner' : Fld Z h1 a1 "com/example/sidelane/sidelane/Cancellation" "runner" "Ljava/lang/Thread;" .null := F_runner.mon M0
  have F_cancelEnding' : Fld Z h1 a1 "com/example/sidelane/sidelane/Cancellation" "cancelEnding" "Ljava/lang/Object;" .null := F_cancelEnding.mon M0
  have F_cancelOutcome' : Fld Z h1 a1 "com/example/sidelane/sidelane/Cancellation" "cancelOutcome" "Lcom/example/sidelane/sidelane/Cancellation$Outcome;" oc := F_cancelOutcome.mon M0
  show Go p e below _ (s₁.setTop (mkL a1 m 0 #[.val (.ref a1), .val (.int p2), .val (.ref a3), .unset, .unset] []))
  refine Go.st (fun _ => XS.aloadN X0.here hx rfl (hb hby d7_0) rfl rfl) ?_
  show Go p e below _ (s₁.setTop (mkL a1 m 1 #[.val (.ref a1), .val (.int p2), .val (.ref a3), .unset, .unset] [(.ref a1)]))
  obtain ⟨T1, X1, e1, st1⟩ := getF X0 hx hZ hown (host := "") (Or.inl (hw _ (List.mem_of_getElem? (i := 14) rfl))) Via.refl e0 F_claimedBy' (g := (mkL a1 m 1 #[.val (.ref a1), .val (.int p2), .val (.ref a3), .unset, .unset] [(.ref a1)])) rfl rfl (hb hby d7_1)
  refine Go.st st1 ?_
  show Go p e below _ (T1.setTop (mkL a1 m 4 #[.val (.ref a1), .val (.int p2), .val (.ref a3), .unset, .unset] [.null]))
  obtain ⟨T2, X2, e2, st2⟩ := getS2 X1 hx hZ hown (host := "") (Or.inl (hw _ (List.mem_of_getElem? (i := 43) rfl))) Via.refl e1 (oldSta O1 S_w_ADOPTER) (g := (mkL a1 m 4 #[.val (.ref a1), .val (.int p2), .val (.ref a3), .unset, .unset] [.null])) rfl (hb hby d7_4)
  refine Go.st st2 ?_
  show Go p e below _ (T2.setTop (mkL a1 m 7 #[.val (.ref a1), .val (.int p2), .val (.ref a3), .unset, .unset] [(.ref w_ADOPTER), .null]))
  refine Go.st (fun _ => fun k => Jvm.RoadKit.acmp (g := (mkL a1 m 7 #[.val (.ref a1), .val (.int p2), .val (.ref a3), .unset, .unset] [(.ref w_ADOPTER), .null])) X2 hx rfl rfl rfl (pc0 := 7) (pc' := 14) (same := false) rfl (hb hby d7_7) rfl (decide_eq_false nofun) (by decide) (by decide) k) ?_
  show Go p e below _ (T2.setTop (mkL a1 m 14 #[.val (.ref a1), .val (.int p2), .val (.ref a3), .unset, .unset] []))
  refine Go.st (fun _ => XS.aloadN X2.here hx rfl (hb hby d7_14) rfl rfl) ?_
  show Go p e below _ (T2.setTop (mkL a1 m 15 #[.val (.ref a1), .val (.int p2), .val (.ref a3), .unset, .unset] [(.ref a1)]))
  obtain ⟨T3, X3, e3, st3⟩ := getF X2 hx hZ hown (host := "") (Or.inl (hw _ (List.mem_of_getElem? (i := 16) rfl))) Via.refl e2 F_cancelled' (g := (mkL a1 m 15 #[.val (.ref a1), .val (.int p2), .val (.ref a3), .unset, .unset] [(.ref a1)])) rfl rfl (hb hby d7_15)
  refine Go.st st3 ?_
  show Go p e below _ (T3.setTop (mkL a1 m 18 #[.val (.ref a1), .val (.int p2), .val (.ref a3), .unset, .unset] [(.int (1 : Int32))]))
  refine Go.st (fun _ => XS.ifNo X3.here hx rfl (hb hby d7_18) rfl ((if0 _ _).trans (feq (by decide : ¬ ((1 : Int32) = (0 : Int32)))).1)) ?_
  show Go p e below _ (T3.setTop (mkL a1 m 21 #[.val (.ref a1), .val (.int p2), .val (.ref a3), .unset, .unset] []))
  refine Go.st (fun _ => XS.aloadN X3.here hx rfl (hb hby d7_21) rfl rfl) ?_
  show Go p e below _ (T3.setTop (mkL a1 m 22 #[.val (.ref a1), .val (.int p2), .val (.ref a3), .unset, .unset] [(.ref a3)]))
  refine Go.st (fun _ => XS.ifnullNo X3.here hx rfl (hb hby d7_22) rfl) ?_
  show Go p e below _ (T3.setTop (mkL a1 m 25 #[.val (.ref a1), .val (.int p2), .val (.ref a3), .unset, .unset] []))
  refine Go.st (fun _ => XS.aloadN X3.here hx rfl (hb hby d7_25) rfl rfl) ?_
  show Go p e below _ (T3.setTop (mkL a1 m 26 #[.val (.ref a1), .val (.int p2), .val (.ref a3), .unset, .unset] [(.ref a3)]))
  refine Go.st (fun _ => XS.aloadN X3.here hx rfl (hb hby d7_26) rfl rfl) ?_
  show Go p e below _ (T3.setTop (mkL a1 m 27 #[.val (.ref a1), .val (.int p2), .val (.ref a3), .unset, .unset] [(.ref a1), (.ref a3)]))
  obtain ⟨T4, X4, e4, st4⟩ := getF X3 hx hZ hown (host := "") (Or.inl (hw _ (List.mem_of_getElem? (i := 55) rfl))) Via.refl e3 F_cancelEnding' (g := (mkL a1 m 27 #[.val (.ref a1), .val (.int p2), .val (.ref a3), .unset, .unset] [(.ref a1), (.ref a3)])) rfl rfl (hb hby d7_27)
  refine Go.st st4 ?_
  show Go p e below _ (T4.setTop (mkL a1 m 30 #[.val (.ref a1), .val (.int p2), .val (.ref a3), .unset, .unset] [.null, (.ref a3)]))
  refine Go.st (fun _ => fun k => Jvm.RoadKit.acmp (g := (mkL a1 m 30 #[.val (.ref a1), .val (.int p2), .val (.ref a3), .unset, .unset] [.null, (.ref a3)])) X4 hx rfl rfl rfl (pc0 := 30) (pc' := 40) (same := false) rfl (hb hby d7_30) rfl (decide_eq_false nofun) (by decide) (by decide) k) ?_
  show Go p e below _ (T4.setTop (mkL a1 m 40 #[.val (.ref a1), .val (.int p2), .val (.ref a3), .unset, .unset] []))
  obtain ⟨T5, X5, e5, st5⟩ := getS2 X4 hx hZ hown (host := "") (Or.inl (hw _ (List.mem_of_getElem? (i := 57) rfl))) Via.refl e4 (oldSta O1 S_w_REFUSED) (g := (mkL a1 m 40 #[.val (.ref a1), .val (.int p2), .val (.ref a3), .unset, .unset] [])) rfl (hb hby d7_40)
  refine Go.st st5 ?_
  show Go p e below _ (T5.setTop (mkL a1 m 43 #[.val (.ref a1), .val (.int p2), .val (.ref a3), .unset, .unset] [(.ref w_REFUSED)]))
  refine goRetS (v := some (.ref w_REFUSED)) X5 hs hcell hmon hlk (fun h => by rw [hret] at h; cases h) e5 (fun V hV => retS X5 hx hret rfl (Or.inr (Or.inr (Or.inr (Or.inr ⟨rfl, rfl, rfl⟩)))) (hb hby d7_43) hV) (by decide) (by decide) (fun h' M' K' hm' => ?_)
  exact ⟨⟨_, rfl⟩, N0, (K0.trans K' (allS (Or.inl (List.mem_singleton_self _)) all0)), ⟨(A_a1'.mon M'), (untEnd U0 (K0.trans K' (allS (Or.inl (List.mem_singleton_self _)) all0)) hm'), (F_claimedBy'.mon M'), (F_cancelled'.mon M'), (F_endingBegun'.mon M'), (F_queued'.mon M'), (F_runner'.mon M'), (F_cancelEnding'.mon M'), (F_cancelOutcome'.mon M')⟩⟩
set_option maxRecDepth 65536 in
set_option maxHeartbeats 40000000 in
theorem caD0 (l : Launch) (Z : State) (a0 : Array Value) (hw : ∀ d ∈ tables_1, d.before a0 Z = true) (a1 : Addr) (p2 : Int32) (a3 a4 a6 : Addr) (w_EXECUTE w_ADOPTER w_CANCELLED w_REFUSED w_HANDED_OVER w_CANCELLED_UNEXECUTED w_ENDING_NEEDED : Addr) (h0 : Heap) (n0 : Nat) (O0 : Old Z n0 h0) (U0 : Unt h0 a1) (g_a1 : n0 ≤ a1) (A_a1 : Exa Z h0 a1 "com/example/sidelane/sidelane/Cancellation") (F_claimedBy : Fld Z h0 a1 "com/example/sidelane/sidelane/Cancellation" "claimedBy" "Lcom/example/sidelane/sidelane/Cancellation$Claimant;" .null) (F_cancelled : Fld Z h0 a1 "com/example/sidelane/sidelane/Cancellation" "cancelled" "Z" (.int (1 : Int32))) (F_endingBegun : Fld Z h0 a1 "com/example/sidelane/sidelane/Cancellation" "endingBegun" "Z" (.int (0 : Int32))) (F_queued : Fld Z h0 a1 "com/example/sidelane/sidelane/Cancellation" "queued" "Z" (.int (0 : Int32))) (F_runner : Fld Z h0 a1 "com/example/sidelane/sidelane/Cancellation" "runner" "Ljava/lang/Thread;" .null) (F_cancelEnding : Fld Z h0 a1 "com/example/sidelane/sidelane/Cancellation" "cancelEnding" "Ljava/lang/Object;" (.ref a4)) (F_cancelOutcome : Fld Z h0 a1 "com/example/sidelane/sidelane/Cancellation" "cancelOutcome" "Lcom/example/sidelane/sidelane/Cancellation$Outcome;" (.ref a6)) (S_w_EXECUTE : Sta Z Z.heap "com/example/sidelane/sidelane/Cancellation$Claimant" "EXECUTE" "Lcom/example/sidelane/sidelane/Cancellation$Claimant;" (.ref w_EXECUTE)) (S_w_ADOPTER : Sta Z Z.heap "com/example/sidelane/sidelane/Cancellation$Claimant" "ADOPTER" "Lcom/example/sidelane/sidelane/Cancellation$Claimant;" (.ref w_ADOPTER)) (S_w_CANCELLED : Sta Z Z.heap "com/example/sidelane/sidelane/Cancellation$Outcome" "CANCELLED" "Lcom/example/sidelane/sidelane/Cancellation$Outcome;" (.ref w_CANCELLED)) (S_w_REFUSED : Sta Z Z.heap "com/example/sidelane/sidelane/Cancellation$Outcome" "REFUSED" "Lcom/example/sidelane/sidelane/Cancellation$Outcome;" (.ref w_REFUSED)) (S_w_HANDED_OVER : Sta Z Z.heap "com/example/sidelane/sidelane/Cancellation$Outcome" "HANDED_OVER" "Lcom/example/sidelane/sidelane/Cancellation$Outcome;" (.ref w_HANDED_OVER)) (S_w_CANCELLED_UNEXECUTED : Sta Z Z.heap "com/example/sidelane/sidelane/Cancellation$Outcome" "CANCELLED_UNEXECUTED" "Lcom/example/sidelane/sidelane/Cancellation$Outcome;" (.ref w_CANCELLED_UNEXECUTED)) (S_w_ENDING_NEEDED : Sta Z Z.heap "com/example/sidelane/sidelane/Cancellation$Outcome" "ENDING_NEEDED" "Lcom/example/sidelane/sidelane/Cancellation$Outcome;" (.ref w_ENDING_NEEDED)) (ne_w_EXECUTE_w_ADOPTER : w_EXECUTE ≠ w_ADOPTER) :
    CtrS l (⟨"com/example/sidelane/sidelane/Cancellation", "cancel", "(ZLjava/lang/Object;)Lcom/example/sidelane/sidelane/Cancellation$Outcome;"⟩ : MethodName) prog_3_method_2_code 5 (some (.object "com/example/sidelane/sidelane/Cancellation$Outcome")) ({ frames := 0, cells := 0, slots := 0, locals := 0 } : Room) #[(.ref a1), (.int p2), (.ref a3)] Z h0 (fun v h L => (∃ r, v = some (.ref r)) ∧ Fr n0 L ∧ Keep h0 h [a1] ∧ own_ob Z h a1 .null (1 : Int32) (0 : Int32) (.ref a4) (.ref a6)) := by
  have ef : ∀ m : MethodId, entryFrameSync m #[(.ref a1), (.int p2), (.ref a3)] 5 a1 = mkL a1 m 0 #[.val (.ref a1), .val (.int p2), .val (.ref a3), .unset, .unset] [] := fun m => by first | rfl | (simp [entryFrameSync, mkL, argsToLocals, Value.category]; done)
  refine CtrS.of (a := a1) (plainFor_of_name pn_7) rfl U0 ?_
  intro p e s0 s m below meth c s₁ cell hx hZ hby hml hown0 hnm hret hlk hs hcell hmon X0 M0 K0
  have hown : s.vm.findClass "com/example/sidelane/sidelane/Cancellation" = some m.cls := hown0
  have N0 := Fr.nil n0
  obtain ⟨h1, e0⟩ : ∃ z, s₁.heap = z := ⟨_, rfl⟩
  rw [e0] at M0 K0
  have O1 := O0.keep K0 (allS g_a1 all0)
  refine Go.st (fun t k => castTop (ef m) k) ?_
  have A_a1' : Exa Z h1 a1 "com/example/sidelane/sidelane/Cancellation" := A_a1.mon M0
  have F_claimedBy' : Fld Z h1 a1 "com/example/sidelane/sidelane/Cancellation" "claimedBy" "Lcom/example/sidelane/sidelane/Cancellation$Claimant;" .null := F_claimedBy.mon M0
  have F_cancelled' : Fld Z h1 a1 "com/example/sidelane/sidelane/Cancellation" "cancelled" "Z" (.int (1 : Int32)) := F_cancelled.mon M0
  have F_endingBegun' : Fld Z h1 a1 "com/example/sidelane/sidelane/Cancellation" "endingBegun" "Z" (.int (0 : Int32)) := F_endingBegun.mon M0
  have F_queued' : Fld Z h1 a1 "com/example/sidelane/sidelane/Cancellation" "queued" "Z" (.int (0 : Int32)) := F_queued.mon M0
  have F_runner' : Fld Z h1 a1 "com/example/sidelane/sidelane/Cancellation" "runner" "Ljava/lang/Thread;" .null := F_runner.mon M0
  have F_cancelEnding' : Fld Z h1 a1 "com/example/sidelane/sidelane/Cancellation" "cancelEnding" "Ljava/lang/Object;" (.ref a4) := F_cancelEnding.mon M0
  have F_cancelOutcome' : Fld Z h1 a1 "com/example/sidelane/sidelane/Cancellation" "cancelOutcome" "Lcom/example/sidelane/sidelane/Cancellation$Outcome;" (.ref a6) := F_cancelOutcome.mon M0
  show Go p e below _ (s₁.setTop (mkL a1 m 0 #[.val (.ref a1), .val (.int p2), .val (.ref a3), .unset, .unset] []))
  refine Go.st (fun _ => XS.aloadN X0.here hx rfl (hb hby d7_0) rfl rfl) ?_
  show Go p e below _ (s₁.setTop (mkL a1 m 1 #[.val (.ref a1), .val (.int p2), .val (.ref a3), .unset, .unset] [(.ref a1)]))
  obtain ⟨T1, X1, e1, st1⟩ := getF X0 hx hZ hown (host := "") (Or.inl (hw _ (List.mem_of_getElem? (i := 14) rfl))) Via.refl e0 F_claimedBy' (g := (mkL a1 m 1 #[.val (.ref a1), .val (.int p2), .val (.ref a3), .unset, .unset] [(.ref a1)])) rfl rfl (hb hby d7_1)
  refine Go.st st1 ?_
  show Go p e below _ (T1.setTop (mkL a1 m 4 #[.val (.ref a1), .val (.int p2), .val (.ref a3), .unset, .unset] [.null]))
  obtain ⟨T2, X2, e2, st2⟩ := getS2 X1 hx hZ hown (host := "") (Or.inl (hw _ (List.mem_of_getElem? (i := 43) rfl))) Via.refl e1 (oldSta O1 S_w_ADOPTER) (g := (mkL a1 m 4 #[.val (.ref a1), .val (.int p2), .val (.ref a3), .unset, .unset] [.null])) rfl (hb hby d7_4)
  refine Go.st st2 ?_
  show Go p e below _ (T2.setTop (mkL a1 m 7 #[.val (.ref a1), .val (.int p2), .val (.ref a3), .unset, .unset] [(.ref w_ADOPTER), .null]))
  refine Go.st (fun _ => fun k => Jvm.RoadKit.acmp (g := (mkL a1 m 7 #[.val (.ref a1), .val (.int p2), .val (.ref a3), .unset, .unset] [(.ref w_ADOPTER), .null])) X2 hx rfl rfl rfl (pc0 := 7) (pc' := 14) (same := false) rfl (hb hby d7_7) rfl (decide_eq_false nofun) (by decide) (by decide) k) ?_
  show Go p e below _ (T2.setTop (mkL a1 m 14 #[.val (.ref a1), .val (.int p2), .val (.ref a3), .unset, .unset] []))
  refine Go.st (fun _ => XS.aloadN X2.here hx rfl (hb hby d7_14) rfl rfl) ?_
  show Go p e below _ (T2.setTop (mkL a1 m 15 #[.val (.ref a1), .val (.int p2), .val (.ref a3), .unset, .unset] [(.ref a1)]))
  obtain ⟨T3, X3, e3, st3⟩ := getF X2 hx hZ hown (host := "") (Or.inl (hw _ (List.mem_of_getElem? (i := 16) rfl))) Via.refl e2 F_cancelled' (g := (mkL a1 m 15 #[.val (.ref a1), .val (.int p2), .val (.ref a3), .unset, .unset] [(.ref a1)])) rfl rfl (hb hby d7_15)
  refine Go.st st3 ?_
  show Go p e below _ (T3.setTop (mkL a1 m 18 #[.val (.ref a1), .val (.int p2), .val (.ref a3), .unset, .unset] [(.int (1 : Int32))]))
  refine Go.st (fun _ => XS.ifNo X3.here hx rfl (hb hby d7_18) rfl ((if0 _ _).trans (feq (by decide : ¬ ((1 : Int32) = (0 : Int32)))).1)) ?_
  show Go p e below _ (T3.setTop (mkL a1 m 21 #[.val (.ref a1), .val (.int p2), .val (.ref a3), .unset, .unset] []))
  refine Go.st (fun _ => XS.aloadN X3.here hx rfl (hb hby d7_21) rfl rfl) ?_
  show Go p e below _ (T3.setTop (mkL a1 m 22 #[.val (.ref a1), .val (.int p2), .val (.ref a3), .unset, .unset] [(.ref a3)]))
  refine Go.st (fun _ => XS.ifnullNo X3.here hx rfl (hb hby d7_22) rfl) ?_
  show Go p e below _ (T3.setTop (mkL a1 m 25 #[.val (.ref a1), .val (.int p2), .val (.ref a3), .unset, .unset] []))
  refine Go.st (fun _ => XS.aloadN X3.here hx rfl (hb hby d7_25) rfl rfl) ?_
  show Go p e below _ (T3.setTop (mkL a1 m 26 #[.val (.ref a1), .val (.int p2), .val (.ref a3), .unset, .unset] [(.ref a3)]))
  refine Go.st (fun _ => XS.aloadN X3.here hx rfl (hb hby d7_26) rfl rfl) ?_
  show Go p e below _ (T3.setTop (mkL a1 m 27 #[.val (.ref a1), .val (.int p2), .val (.ref a3), .unset, .unset] [(.ref a1), (.ref a3)]))
  obtain ⟨T4, X4, e4, st4⟩ := getF X3 hx hZ hown (host := "") (Or.inl (hw _ (List.mem_of_getElem? (i := 55) rfl))) Via.refl e3 F_cancelEnding' (g := (mkL a1 m 27 #[.val (.ref a1), .val (.int p2), .val (.ref a3), .unset, .unset] [(.ref a1), (.ref a3)])) rfl rfl (hb hby d7_27)
  refine Go.st st4 ?_
  show Go p e below _ (T4.setTop (mkL a1 m 30 #[.val (.ref a1), .val (.int p2), .val (.ref a3), .unset, .unset] [(.ref a4), (.ref a3)]))
  by_cases hc5 : a3 = a4
  · refine Go.st (fun _ => fun k => Jvm.RoadKit.acmp (g := (mkL a1 m 30 #[.val (.ref a1), .val (.int p2), .val (.ref a3), .unset, .unset] [(.ref a4), (.ref a3)])) X4 hx rfl rfl rfl (pc0 := 30) (pc' := 33) (same := true) rfl (hb hby d7_30) rfl (decide_eq_true (congrArg Value.ref hc5)) (by decide) (by decide) k) ?_
    show Go p e below _ (T4.setTop (mkL a1 m 33 #[.val (.ref a1), .val (.int p2), .val (.ref a3), .unset, .unset] []))
    refine Go.st (fun _ => XS.aloadN X4.here hx rfl (hb hby d7_33) rfl rfl) ?_
    show Go p e below _ (T4.setTop (mkL a1 m 34 #[.val (.ref a1), .val (.int p2), .val (.ref a3), .unset, .unset] [(.ref a1)]))
    obtain ⟨T6, X6, e6, st6⟩ := getF X4 hx hZ hown (host := "") (Or.inl (hw _ (List.mem_of_getElem? (i := 53) rfl))) Via.refl e4 F_cancelOutcome' (g := (mkL a1 m 34 #[.val (.ref a1), .val (.int p2), .val (.ref a3), .unset, .unset] [(.ref a1)])) rfl rfl (hb hby d7_34)
    refine Go.st st6 ?_
    show Go p e below _ (T6.setTop (mkL a1 m 37 #[.val (.ref a1), .val (.int p2), .val (.ref a3), .unset, .unset] [(.ref a6)]))
    refine Go.st (fun _ => XS.goto X6.here hx rfl (pc0 := 37) (pc' := 43) rfl (hb hby d7_37) (by decide) (by decide)) ?_
    show Go p e below _ (T6.setTop (mkL a1 m 43 #[.val (.ref a1), .val (.int p2), .val (.ref a3), .unset, .unset] [(.ref a6)]))
    refine goRetS (v := some (.ref a6)) X6 hs hcell hmon hlk (fun h => by rw [hret] at h; cases h) e6 (fun V hV => retS X6 hx hret rfl (Or.inr (Or.inr (Or.inr (Or.inr ⟨rfl, rfl, rfl⟩)))) (hb hby d7_43) hV) (by decide) (by decide) (fun h' M' K' hm' => ?_)
    exact ⟨⟨_, rfl⟩, N0, (K0.trans K' (allS (Or.inl (List.mem_singleton_self _)) all0)), ⟨(A_a1'.mon M'), (untEnd U0 (K0.trans K' (allS (Or.inl (List.mem_singleton_self _)) all0)) hm'), (F_claimedBy'.mon M'), (F_cancelled'.mon M'), (F_endingBegun'.mon M'), (F_queued'.mon M'), (F_runner'.mon M'), (F_cancelEnding'.mon M'), (F_cancelOutcome'.mon M')⟩⟩
  · refine Go.st (fun _ => fun k => Jvm.RoadKit.acmp (g := (mkL a1 m 30 #[.val (.ref a1), .val (.int p2), .val (.ref a3), .unset, .unset] [(.ref a4), (.ref a3)])) X4 hx rfl rfl rfl (pc0 := 30) (pc' := 40) (same := false) rfl (hb hby d7_30) rfl (decide_eq_false fun q => hc5 (Value.ref.inj q)) (by decide) (by decide) k) ?_
    show Go p e below _ (T4.setTop (mkL a1 m 40 #[.val (.ref a1), .val (.int p2), .val (.ref a3), .unset, .unset] []))
    obtain ⟨T7, X7, e7, st7⟩ := getS2 X4 hx hZ hown (host := "") (Or.inl (hw _ (List.mem_of_getElem? (i := 57) rfl))) Via.refl e4 (oldSta O1 S_w_REFUSED) (g := (mkL a1 m 40 #[.val (.ref a1), .val (.int p2), .val (.ref a3), .unset, .unset] [])) rfl (hb hby d7_40)
    refine Go.st st7 ?_
    show Go p e below _ (T7.setTop (mkL a1 m 43 #[.val (.ref a1), .val (.int p2), .val (.ref a3), .unset, .unset] [(.ref w_REFUSED)]))
    refine goRetS (v := some (.ref w_REFUSED)) X7 hs hcell hmon hlk (fun h => by rw [hret] at h; cases h) e7 (fun V hV => retS X7 hx hret rfl (Or.inr (Or.inr (Or.inr (Or.inr ⟨rfl, rfl, rfl⟩)))) (hb hby d7_43) hV) (by decide) (by decide) (fun h' M' K' hm' => ?_)
    exact ⟨⟨_, rfl⟩, N0, (K0.trans K' (allS (Or.inl (List.mem_singleton_self _)) all0)), ⟨(A_a1'.mon M'), (untEnd U0 (K0.trans K' (allS (Or.inl (List.mem_singleton_self _)) all0)) hm'), (F_claimedBy'.mon M'), (F_cancelled'.mon M'), (F_endingBegun'.mon M'), (F_queued'.mon M'), (F_runner'.mon M'), (F_cancelEnding'.mon M'), (F_cancelOutcome'.mon M')⟩⟩
set_option maxRecDepth 65536 in
set_option maxHeartbeats 40000000 in
theorem caBE (l : Launch) (Z : State) (a0 : Array Value) (hw : ∀ d ∈ tables_1, d.before a0 Z = true) (a1 : Addr) (p2 : Int32) (en oc : Value) (w_EXECUTE w_ADOPTER w_CANCELLED w_REFUSED w_HANDED_OVER w_CANCELLED_UNEXECUTED w_ENDING_NEEDED : Addr) (h0 : Heap) (n0 : Nat) (O0 : Old Z n0 h0) (U0 : Unt h0 a1) (g_a1 : n0 ≤ a1) (A_a1 : Exa Z h0 a1 "com/example/sidelane/sidelane/Cancellation") (F_claimedBy : Fld Z h0 a1 "com/example/sidelane/sidelane/Cancellation" "claimedBy" "Lcom/example/sidelane/sidelane/Cancellation$Claimant;" (.ref w_EXECUTE)) (F_cancelled : Fld Z h0 a1 "com/example/sidelane/sidelane/Cancellation" "cancelled" "Z" (.int (1 : Int32))) (F_endingBegun : Fld Z h0 a1 "com/example/sidelane/sidelane/Cancellation" "endingBegun" "Z" (.int (0 : Int32))) (F_queued : Fld Z h0 a1 "com/example/sidelane/sidelane/Cancellation" "queued" "Z" (.int (0 : Int32))) (F_runner : Fld Z h0 a1 "com/example/sidelane/sidelane/Cancellation" "runner" "Ljava/lang/Thread;" .null) (F_cancelEnding : Fld Z h0 a1 "com/example/sidelane/sidelane/Cancellation" "cancelEnding" "Ljava/lang/Object;" en) (F_cancelOutcome : Fld Z h0 a1 "com/example/sidelane/sidelane/Cancellation" "cancelOutcome" "Lcom/example/sidelane/sidelane/Cancellation$Outcome;" oc) (S_w_EXECUTE : Sta Z Z.heap "com/example/sidelane/sidelane/Cancellation$Claimant" "EXECUTE" "Lcom/example/sidelane/sidelane/Cancellation$Claimant;" (.ref w_EXECUTE)) (S_w_ADOPTER : Sta Z Z.heap "com/example/sidelane/sidelane/Cancellation$Claimant" "ADOPTER" "Lcom/example/sidelane/sidelane/Cancellation$Claimant;" (.ref w_ADOPTER)) (S_w_CANCELLED : Sta Z Z.heap "com/example/sidelane/sidelane/Cancellation$Outcome" "CANCELLED" "Lcom/example/sidelane/sidelane/Cancellation$Outcome;" (.ref w_CANCELLED)) (S_w_REFUSED : Sta Z Z.heap "com/example/sidelane/sidelane/Cancellation$Outcome" "REFUSED" "Lcom/example/sidelane/sidelane/Cancellation$Outcome;" (.ref w_REFUSED)) (S_w_HANDED_OVER : Sta Z Z.heap "com/example/sidelane/sidelane/Cancellation$Outcome" "HANDED_OVER" "Lcom/example/sidelane/sidelane/Cancellation$Outcome;" (.ref w_HANDED_OVER)) (S_w_CANCELLED_UNEXECUTED : Sta Z Z.heap "com/example/sidelane/sidelane/Cancellation$Outcome" "CANCELLED_UNEXECUTED" "Lcom/example/sidelane/sidelane/Cancellation$Outcome;" (.ref w_CANCELLED_UNEXECUTED)) (S_w_ENDING_NEEDED : Sta Z Z.heap "com/example/sidelane/sidelane/Cancellation$Outcome" "ENDING_NEEDED" "Lcom/example/sidelane/sidelane/Cancellation$Outcome;" (.ref w_ENDING_NEEDED)) (ne_w_EXECUTE_w_ADOPTER : w_EXECUTE ≠ w_ADOPTER) :
    CtrS l (⟨"com/example/sidelane/sidelane/Cancellation", "cancel", "(ZLjava/lang/Object;)Lcom/example/sidelane/sidelane/Cancellation$Outcome;"⟩ : MethodName) prog_3_method_2_code 5 (some (.object "com/example/sidelane/sidelane/Cancellation$Outcome")) ({ frames := 0, cells := 0, slots := 0, locals := 0 } : Room) #[(.ref a1), (.int p2), .null] Z h0 (fun v h L => (∃ r, v = some (.ref r)) ∧ Fr n0 L ∧ Keep h0 h [a1] ∧ own_ob Z h a1 (.ref w_EXECUTE) (1 : Int32) (0 : Int32) en oc) := by
  have ef : ∀ m : MethodId, entryFrameSync m #[(.ref a1), (.int p2), .null] 5 a1 = mkL a1 m 0 #[.val (.ref a1), .val (.int p2), .val .null, .unset, .unset] [] := fun m => by first | rfl | (simp [entryFrameSync, mkL, argsToLocals, Value.category]; done)
  refine CtrS.of (a := a1) (plainFor_of_name pn_7) rfl U0 ?_
  intro p e s0 s m below meth c s₁ cell hx hZ hby hml hown0 hnm hret hlk hs hcell hmon X0 M0 K0
  have hown : s.vm.findClass "com/example/sidelane/sidelane/Cancellation" = some m.cls := hown0
  have N0 := Fr.nil n0
  obtain ⟨h1, e0⟩ : ∃ z, s₁.heap = z := ⟨_, rfl⟩
  rw [e0] at M0 K0
  have O1 := O0.keep K0 (allS g_a1 all0)
  refine Go.st (fun t k => castTop (ef m) k) ?_
  have A_a1' : Exa Z h1 a1 "com/example/sidelane/sidelane/Cancellation" := A_a1.mon M0
  have F_claimedBy' : Fld Z h1 a1 "com/example/sidelane/sidelane/Cancellation" "claimedBy" "Lcom/example/sidelane/sidelane/Cancellation$Claimant;" (.ref w_EXECUTE) := F_claimedBy.mon M0
  have F_cancelled' : Fld Z h1 a1 "com/example/sidelane/sidelane/Cancellation" "cancelled" "Z" (.int (1 : Int32)) := F_cancelled.mon M0
  have F_endingBegun' : Fld Z h1 a1 "com/example/sidelane/sidelane/Cancellation" "endingBegun" "Z" (.int (0 : Int32)) := F_endingBegun.mon M0
  have F_queued' : Fld Z h1 a1 "com/example/sidelane/sidelane/Cancellation" "queued" "Z" (.int (0 : Int32)) := F_queued.mon M0
  have F_runner' : Fld Z h1 a1 "com/example/sidelane/sidelane/Cancellation" "runner" "Ljava/lang/Thread;" .null := F_runner.mon M0
  have F_cancelEnding' : Fld Z h1 a1 "com/example/sidelane/sidelane/Cancellation" "cancelEnding" "Ljava/lang/Object;" en := F_cancelEnding.mon M0
  have F_cancelOutcome' : Fld Z h1 a1 "com/example/sidelane/sidelane/Cancellation" "cancelOutcome" "Lcom/example/sidelane/sidelane/Cancellation$Outcome;" oc := F_cancelOutcome.mon M0
  show Go p e below _ (s₁.setTop (mkL a1 m 0 #[.val (.ref a1), .val (.int p2), .val .null, .unset, .unset] []))
  refine Go.st (fun _ => XS.aloadN X0.here hx rfl (hb hby d7_0) rfl rfl) ?_
  show Go p e below _ (s₁.setTop (mkL a1 m 1 #[.val (.ref a1), .val (.int p2), .val .null, .unset, .unset] [(.ref a1)]))
  obtain ⟨T1, X1, e1, st1⟩ := getF X0 hx hZ hown (host := "") (Or.inl (hw _ (List.mem_of_getElem? (i := 14) rfl))) Via.refl e0 F_claimedBy' (g := (mkL a1 m 1 #[.val (.ref a1), .val (.int p2), .val .null, .unset, .unset] [(.ref a1)])) rfl rfl (hb hby d7_1)
  refine Go.st st1 ?_
  show Go p e below _ (T1.setTop (mkL a1 m 4 #[.val (.ref a1), .val (.int p2), .val .null, .unset, .unset] [(.ref w_EXECUTE)]))
  obtain ⟨T2, X2, e2, st2⟩ := getS2 X1 hx hZ hown (host := "") (Or.inl (hw _ (List.mem_of_getElem? (i := 43) rfl))) Via.refl e1 (oldSta O1 S_w_ADOPTER) (g := (mkL a1 m 4 #[.val (.ref a1), .val (.int p2), .val .null, .unset, .unset] [(.ref w_EXECUTE)])) rfl (hb hby d7_4)
  refine Go.st st2 ?_
  show Go p e below _ (T2.setTop (mkL a1 m 7 #[.val (.ref a1), .val (.int p2), .val .null, .unset, .unset] [(.ref w_ADOPTER), (.ref w_EXECUTE)]))
  refine Go.st (fun _ => fun k => Jvm.RoadKit.acmp (g := (mkL a1 m 7 #[.val (.ref a1), .val (.int p2), .val .null, .unset, .unset] [(.ref w_ADOPTER), (.ref w_EXECUTE)])) X2 hx rfl rfl rfl (pc0 := 7) (pc' := 14) (same := false) rfl (hb hby d7_7) rfl (decide_eq_false fun q => ne_w_EXECUTE_w_ADOPTER (Value.ref.inj q)) (by decide) (by decide) k) ?_
  show Go p e below _ (T2.setTop (mkL a1 m 14 #[.val (.ref a1), .val (.int p2), .val .null, .unset, .unset] []))
  refine Go.st (fun _ => XS.aloadN X2.here hx rfl (hb hby d7_14) rfl rfl) ?_
  show Go p e below _ (T2.setTop (mkL a1 m 15 #[.val (.ref a1), .val (.int p2), .val .null, .unset, .unset] [(.ref a1)]))
  obtain ⟨T3, X3, e3, st3⟩ := getF X2 hx hZ hown (host := "") (Or.inl (hw _ (List.mem_of_getElem? (i := 16) rfl))) Via.refl e2 F_cancelled' (g := (mkL a1 m 15 #[.val (.ref a1), .val (.int p2), .val .null, .unset, .unset] [(.ref a1)])) rfl rfl (hb hby d7_15)
  refine Go.st st3 ?_
  show Go p e below _ (T3.setTop (mkL a1 m 18 #[.val (.ref a1), .val (.int p2), .val .null, .unset, .unset] [(.int (1 : Int32))]))
  refine Go.st (fun _ => XS.ifNo X3.here hx rfl (hb hby d7_18) rfl ((if0 _ _).trans (feq (by decide : ¬ ((1 : Int32) = (0 : Int32)))).1)) ?_
  show Go p e below _ (T3.setTop (mkL a1 m 21 #[.val (.ref a1), .val (.int p2), .val .null, .unset, .unset] []))
  refine Go.st (fun _ => XS.aloadN X3.here hx rfl (hb hby d7_21) rfl rfl) ?_
  show Go p e below _ (T3.setTop (mkL a1 m 22 #[.val (.ref a1), .val (.int p2), .val .null, .unset, .unset] [.null]))
  refine Go.st (fun _ => XS.ifnullYes X3.here hx rfl (pc0 := 22) (pc' := 40) rfl (hb hby d7_22) rfl (by decide) (by decide)) ?_
  show Go p e below _ (T3.setTop (mkL a1 m 40 #[.val (.ref a1), .val (.int p2), .val .null, .unset, .unset] []))
  obtain ⟨T4, X4, e4, st4⟩ := getS2 X3 hx hZ hown (host := "") (Or.inl (hw _ (List.mem_of_getElem? (i := 57) rfl))) Via.refl e3 (oldSta O1 S_w_REFUSED) (g := (mkL a1 m 40 #[.val (.ref a1), .val (.int p2), .val .null, .unset, .unset] [])) rfl (hb hby d7_40)
  refine Go.st st4 ?_
  show Go p e below _ (T4.setTop (mkL a1 m 43 #[.val (.ref a1), .val (.int p2), .val .null, .unset, .unset] [(.ref w_REFUSED)]))
  refine goRetS (v := some (.ref w_REFUSED)) X4 hs hcell hmon hlk (fun h => by rw [hret] at h; cases h) e4 (fun V hV => retS X4 hx hret rfl (Or.inr (Or.inr (Or.inr (Or.inr ⟨rfl, rfl, rfl⟩)))) (hb hby d7_43) hV) (by decide) (by decide) (fun h' M' K' hm' => ?_)
  exact ⟨⟨_, rfl⟩, N0, (K0.trans K' (allS (Or.inl (List.mem_singleton_self _)) all0)), ⟨(A_a1'.mon M'), (untEnd U0 (K0.trans K' (allS (Or.inl (List.mem_singleton_self _)) all0)) hm'), (F_claimedBy'.mon M'), (F_cancelled'.mon M'), (F_endingBegun'.mon M'), (F_queued'.mon M'), (F_runner'.mon M'), (F_cancelEnding'.mon M'), (F_cancelOutcome'.mon M')⟩⟩
set_option maxRecDepth 65536 in
set_option maxHeartbeats 40000000 in
theorem caCE (l : Launch) (Z : State) (a0 : Array Value) (hw : ∀ d ∈ tables_1, d.before a0 Z = true) (a1 : Addr) (p2 : Int32) (a3 : Addr) (oc : Value) (w_EXECUTE w_ADOPTER w_CANCELLED w_REFUSED w_HANDED_OVER w_CANCELLED_UNEXECUTED w_ENDING_NEEDED : Addr) (h0 : Heap) (n0 : Nat) (O0 : Old Z n0 h0) (U0 : Unt h0 a1) (g_a1 : n0 ≤ a1) (A_a1 : Exa Z h0 a1 "com/example/sidelane/sidelane/Cancellation") (F_claimedBy : Fld Z h0 a1 "com/example/sidelane/sidelane/Cancellation" "claimedBy" "Lcom/example/sidelane/sidelane/Cancellation$Claimant;" (.ref w_EXECUTE)) (F_cancelled : Fld Z h0 a1 "com/example/sidelane/sidelane/Cancellation" "cancelled" "Z" (.int (1 : Int32))) (F_endingBegun : Fld Z h0 a1 "com/example/sidelane/sidelane/Cancellation" "endingBegun" "Z" (.int (0 : Int32))) (F_queued : Fld Z h0 a1 "com/example/sidelane/sidelane/Cancellation" "queued" "Z" (.int (0 : Int32))) (F_runner : Fld Z h0 a1 "com/example/sidelane/sidelane/Cancellation" "runner" "Ljava/lang/Thread;" .null) (F_cancelEnding : Fld Z h0 a1 "com/example/sidelane/sidelane/Cancellation" "cancelEnding" "Ljava/lang/Object;" .null) (F_cancelOutcome : Fld Z h0 a1 "com/example/sidelane/sidelane/Cancellation" "cancelOutcome" "Lcom/example/sidelane/sidelane/Cancellation$Outcome;" oc) (S_w_EXECUTE : Sta Z Z.heap "com/example/sidelane/sidelane/Cancellation$Claimant" "EXECUTE" "Lcom/example/sidelane/sidelane/Cancellation$Claimant;" (.ref w_EXECUTE)) (S_w_ADOPTER : Sta Z Z.heap "com/example/sidelane/sidelane/Cancellation$Claimant" "ADOPTER" "Lcom/example/sidelane/sidelane/Cancellation$Claimant;" (.ref w_ADOPTER)) (S_w_CANCELLED : Sta Z Z.heap "com/example/sidelane/sidelane/Cancellation$Outcome" "CANCELLED" "Lcom/example/sidelane/sidelane/Cancellation$Outcome;" (.ref w_CANCELLED)) (S_w_REFUSED : Sta Z Z.heap "com/example/sidelane/sidelane/Cancellation$Outcome" "REFUSED" "Lcom/example/sidelane/sidelane/Cancellation$Outcome;" (.ref w_REFUSED)) (S_w_HANDED_OVER : Sta Z Z.heap "com/example/sidelane/sidelane/Cancellation$Outcome" "HANDED_OVER" "Lcom/example/sidelane/sidelane/Cancellation$Outcome;" (.ref w_HANDED_OVER)) (S_w_CANCELLED_UNEXECUTED : Sta Z Z.heap "com/example/sidelane/sidelane/Cancellation$Outcome" "CANCELLED_UNEXECUTED" "Lcom/example/sidelane/sidelane/Cancellation$Outcome;" (.ref w_CANCELLED_UNEXECUTED)) (S_w_ENDING_NEEDED : Sta Z Z.heap "com/example/sidelane/sidelane/Cancellation$Outcome" "ENDING_NEEDED" "Lcom/example/sidelane/sidelane/Cancellation$Outcome;" (.ref w_ENDING_NEEDED)) (ne_w_EXECUTE_w_ADOPTER : w_EXECUTE ≠ w_ADOPTER) :
    CtrS l (⟨"com/example/sidelane/sidelane/Cancellation", "cancel", "(ZLjava/lang/Object;)Lcom/example/sidelane/sidelane/Cancellation$Outcome;"⟩ : MethodName) prog_3_method_2_code 5 (some (.object "com/example/sidelane/sidelane/Cancellation$Outcome")) ({ frames := 0, cells := 0, slots := 0, locals := 0 } : Room) #[(.ref a1), (.int p2), (.ref a3)] Z h0 (fun v h L => (∃ r, v = some (.ref r)) ∧ Fr n0 L ∧ Keep h0 h [a1] ∧ own_ob Z h a1 (.ref w_EXECUTE) (1 : Int32) (0 : Int32) .null oc) := by
  have ef : ∀ m : MethodId, entryFrameSync m #[(.ref a1), (.int p2), (.ref a3)] 5 a1 = mkL a1 m 0 #[.val (.ref a1), .val (.int p2), .val (.ref a3), .unset, .unset] [] := fun m => by first | rfl | (simp [entryFrameSync, mkL, argsToLocals, Value.category]; done)
  refine CtrS.of (a := a1) (plainFor_of_name pn_7) rfl U0 ?_
  intro p e s0 s m below meth c s₁ cell hx hZ hby hml hown0 hnm hret hlk hs hcell hmon X0 M0 K0
  have hown : s.vm.findClass "com/example/sidelane/sidelane/Cancellation" = some m.cls := hown0
  have N0 := Fr.nil n0
  obtain ⟨h1, e0⟩ : ∃ z, s₁.heap = z := ⟨_, rfl⟩
  rw [e0] at M0 K0
  have O1 := O0.keep K0 (allS g_a1 all0)
  refine Go.st (fun t k => castTop (ef m) k) ?_
  have A_a1' : Exa Z h1 a1 "com/example/sidelane/sidelane/Cancellation" := A_a1.mon M0
  have F_claimedBy' : Fld Z h1 a1 "com/example/sidelane/sidelane/Cancellation" "claimedBy" "Lcom/example/sidelane/sidelane/Cancellation$Claimant;" (.ref w_EXECUTE) := F_claimedBy.mon M0
  have F_cancelled' : Fld Z h1 a1 "com/example/sidelane/sidelane/Cancellation" "cancelled" "Z" (.int (1 : Int32)) := F_cancelled.mon M0
  have F_endingBegun' : Fld Z h1 a1 "com/example/sidelane/sidelane/Cancellation" "endingBegun" "Z" (.int (0 : Int32)) := F_endingBegun.mon M0
  have F_queued' : Fld Z h1 a1 "com/example/sidelane/sidelane/Cancellation" "queued" "Z" (.int (0 : Int32)) := F_queued.mon M0
  have F_runner' : Fld Z h1 a1 "com/example/sidelane/sidelane/Cancellation" "runner" "Ljava/lang/Thread;" .null := F_runner.mon M0
  have F_cancelEnding' : Fld Z h1 a1 "com/example/sidelane/sidelane/Cancellation" "cancelEnding" "Ljava/lang/Object;" .null := F_cancelEnding.mon M0
  have F_cancelOutcome' : Fld Z h1 a1 "com/example/sidelane/sidelane/Cancellation" "cancelOutcome" "Lcom/example/sidelane/sidelane/Cancellation$Outcome;" oc := F_cancelOutcome.mon M0
  show Go p e below _ (s₁.setTop (mkL a1 m 0 #[.val (.ref a1), .val (.int p2), .val (.ref a3), .unset, .unset] []))
  refine Go.st (fun _ => XS.aloadN X0.here hx rfl (hb hby d7_0) rfl rfl) ?_
  show Go p e below _ (s₁.setTop (mkL a1 m 1 #[.val (.ref a1), .val (.int p2), .val (.ref a3), .unset, .unset] [(.ref a1)]))
  obtain ⟨T1, X1, e1, st1⟩ := getF X0 hx hZ hown (host := "") (Or.inl (hw _ (List.mem_of_getElem? (i := 14) rfl))) Via.refl e0 F_claimedBy' (g := (mkL a1 m 1 #[.val (.ref a1), .val (.int p2), .val (.ref a3), .unset, .unset] [(.ref a1)])) rfl rfl (hb hby d7_1)
  refine Go.st st1 ?_
  show Go p e below _ (T1.setTop (mkL a1 m 4 #[.val (.ref a1), .val (.int p2), .val (.ref a3), .unset, .unset] [(.ref w_EXECUTE)]))
  obtain ⟨T2, X2, e2, st2⟩ := getS2 X1 hx hZ hown (host := "") (Or.inl (hw _ (List.mem_of_getElem? (i := 43) rfl))) Via.refl e1 (oldSta O1 S_w_ADOPTER) (g := (mkL a1 m 4 #[.val (.ref a1), .val (.int p2), .val (.ref a3), .unset, .unset] [(.ref w_EXECUTE)])) rfl (hb hby d7_4)
  refine Go.st st2 ?_
  show Go p e below _ (T2.setTop (mkL a1 m 7 #[.val (.ref a1), .val (.int p2), .val (.ref a3), .unset, .unset] [(.ref w_ADOPTER), (.ref w_EXECUTE)]))
  refine Go.st (fun _ => fun k => Jvm.RoadKit.acmp (g := (mkL a1 m 7 #[.val (.ref a1), .val (.int p2), .val (.ref a3), .unset, .unset] [(.ref w_ADOPTER), (.ref w_EXECUTE)])) X2 hx rfl rfl rfl (pc0 := 7) (pc' := 14) (same := false) rfl (hb hby d7_7) rfl (decide_eq_false fun q => ne_w_EXECUTE_w_ADOPTER (Value.ref.inj q)) (by decide) (by decide) k) ?_
  show Go p e below _ (T2.setTop (mkL a1 m 14 #[.val (.ref a1), .val (.int p2), .val (.ref a3), .unset, .unset] []))
  refine Go.st (fun _ => XS.aloadN X2.here hx rfl (hb hby d7_14) rfl rfl) ?_
  show Go p e below _ (T2.setTop (mkL a1 m 15 #[.val (.ref a1), .val (.int p2), .val (.ref a3), .unset, .unset] [(.ref a1)]))
  obtain ⟨T3, X3, e3, st3⟩ := getF X2 hx hZ hown (host := "") (Or.inl (hw _ (List.mem_of_getElem? (i := 16) rfl))) Via.refl e2 F_cancelled' (g := (mkL a1 m 15 #[.val (.ref a1), .val (.int p2), .val (.ref a3), .unset, .unset] [(.ref a1)])) rfl rfl (hb hby d7_15)
  refine Go.st st3 ?_
  show Go p e below _ (T3.setTop (mkL a1 m 18 #[.val (.ref a1), .val (.int p2), .val (.ref a3), .unset, .unset] [(.int (1 : Int32))]))
  refine Go.st (fun _ => XS.ifNo X3.here hx rfl (hb hby d7_18) rfl ((if0 _ _).trans (feq (by decide : ¬ ((1 : Int32) = (0 : Int32)))).1)) ?_
  show Go p e below _ (T3.setTop (mkL a1 m 21 #[.val (.ref a1), .val (.int p2), .val (.ref a3), .unset, .unset] []))
  refine Go.st (fun _ => XS.aloadN X3.here hx rfl (hb hby d7_21) rfl rfl) ?_
  show Go p e below _ (T3.setTop (mkL a1 m 22 #[.val (.ref a1), .val (.int p2), .val (.ref a3), .unset, .unset] [(.ref a3)]))
  refine Go.st (fun _ => XS.ifnullNo X3.here hx rfl (hb hby d7_22) rfl) ?_
  show Go p e below _ (T3.setTop (mkL a1 m 25 #[.val (.ref a1), .val (.int p2), .val (.ref a3), .unset, .unset] []))
  refine Go.st (fun _ => XS.aloadN X3.here hx rfl (hb hby d7_25) rfl rfl) ?_
  show Go p e below _ (T3.setTop (mkL a1 m 26 #[.val (.ref a1), .val (.int p2), .val (.ref a3), .unset, .unset] [(.ref a3)]))
  refine Go.st (fun _ => XS.aloadN X3.here hx rfl (hb hby d7_26) rfl rfl) ?_
  show Go p e below _ (T3.setTop (mkL a1 m 27 #[.val (.ref a1), .val (.int p2), .val (.ref a3), .unset, .unset] [(.ref a1), (.ref a3)]))
  obtain ⟨T4, X4, e4, st4⟩ := getF X3 hx hZ hown (host := "") (Or.inl (hw _ (List.mem_of_getElem? (i := 55) rfl))) Via.refl e3 F_cancelEnding' (g := (mkL a1 m 27 #[.val (.ref a1), .val (.int p2), .val (.ref a3), .unset, .unset] [(.ref a1), (.ref a3)])) rfl rfl (hb hby d7_27)
  refine Go.st st4 ?_
  show Go p e below _ (T4.setTop (mkL a1 m 30 #[.val (.ref a1), .val (.int p2), .val (.ref a3), .unset, .unset] [.null, (.ref a3)]))
  refine Go.st (fun _ => fun k => Jvm.RoadKit.acmp (g := (mkL a1 m 30 #[.val (.ref a1), .val (.int p2), .val (.ref a3), .unset, .unset] [.null, (.ref a3)])) X4 hx rfl rfl rfl (pc0 := 30) (pc' := 40) (same := false) rfl (hb hby d7_30) rfl (decide_eq_false nofun) (by decide) (by decide) k) ?_
  show Go p e below _ (T4.setTop (mkL a1 m 40 #[.val (.ref a1), .val (.int p2), .val (.ref a3), .unset, .unset] []))
  obtain ⟨T5, X5, e5, st5⟩ := getS2 X4 hx hZ hown (host := "") (Or.inl (hw _ (List.mem_of_getElem? (i := 57) rfl))) Via.refl e4 (oldSta O1 S_w_REFUSED) (g := (mkL a1 m 40 #[.val (.ref a1), .val (.int p2), .val (.ref a3), .unset, .unset] [])) rfl (hb hby d7_40)
  refine Go.st st5 ?_
  show Go p e below _ (T5.setTop (mkL a1 m 43 #[.val (.ref a1), .val (.int p2), .val (.ref a3), .unset, .unset] [(.ref w_REFUSED)]))
  refine goRetS (v := some (.ref w_REFUSED)) X5 hs hcell hmon hlk (fun h => by rw [hret] at h; cases h) e5 (fun V hV => retS X5 hx hret rfl (Or.inr (Or.inr (Or.inr (Or.inr ⟨rfl, rfl, rfl⟩)))) (hb hby d7_43) hV) (by decide) (by decide) (fun h' M' K' hm' => ?_)
  exact ⟨⟨_, rfl⟩, N0, (K0.trans K' (allS (Or.inl (List.mem_singleton_self _)) all0)), ⟨(A_a1'.mon M'), (untEnd U0 (K0.trans K' (allS (Or.inl (List.mem_singleton_self _)) all0)) hm'), (F_claimedBy'.mon M'), (F_cancelled'.mon M'), (F_endingBegun'.mon M'), (F_queued'.mon M'), (F_runner'.mon M'), (F_cancelEnding'.mon M'), (F_cancelOutcome'.mon M')⟩⟩
set_option maxRecDepth 65536 in
set_option maxHeartbeats 40000000 in
theorem caDE (l : Launch) (Z : State) (a0 : Array Value) (hw : ∀ d ∈ tables_1, d.before a0 Z = true) (a1 : Addr) (p2 : Int32) (a3 a4 a6 : Addr) (w_EXECUTE w_ADOPTER w_CANCELLED w_REFUSED w_HANDED_OVER w_CANCELLED_UNEXECUTED w_ENDING_NEEDED : Addr) (h0 : Heap) (n0 : Nat) (O0 : Old Z n0 h0) (U0 : Unt h0 a1) (g_a1 : n0 ≤ a1) (A_a1 : Exa Z h0 a1 "com/example/sidelane/sidelane/Cancellation") (F_claimedBy : Fld Z h0 a1 "com/example/sidelane/sidelane/Cancellation" "claimedBy" "Lcom/example/sidelane/sidelane/Cancellation$Claimant;" (.ref w_EXECUTE)) (F_cancelled : Fld Z h0 a1 "com/example/sidelane/sidelane/Cancellation" "cancelled" "Z" (.int (1 : Int32))) (F_endingBegun : Fld Z h0 a1 "com/example/sidelane/sidelane/Cancellation" "endingBegun" "Z" (.int (0 : Int32))) (F_queued : Fld Z h0 a1 "com/example/sidelane/sidelane/Cancellation" "queued" "Z" (.int (0 : Int32))) (F_runner : Fld Z h0 a1 "com/example/sidelane/sidelane/Cancellation" "runner" "Ljava/lang/Thread;" .null) (F_cancelEnding : Fld Z h0 a1 "com/example/sidelane/sidelane/Cancellation" "cancelEnding" "Ljava/lang/Object;" (.ref a4)) (F_cancelOutcome : Fld Z h0 a1 "com/example/sidelane/sidelane/Cancellation" "cancelOutcome" "Lcom/example/sidelane/sidelane/Cancellation$Outcome;" (.ref a6)) (S_w_EXECUTE : Sta Z Z.heap "com/example/sidelane/sidelane/Cancellation$Claimant" "EXECUTE" "Lcom/example/sidelane/sidelane/Cancellation$Claimant;" (.ref w_EXECUTE)) (S_w_ADOPTER : Sta Z Z.heap "com/example/sidelane/sidelane/Cancellation$Claimant" "ADOPTER" "Lcom/example/sidelane/sidelane/Cancellation$Claimant;" (.ref w_ADOPTER)) (S_w_CANCELLED : Sta Z Z.heap "com/example/sidelane/sidelane/Cancellation$Outcome" "CANCELLED" "Lcom/example/sidelane/sidelane/Cancellation$Outcome;" (.ref w_CANCELLED)) (S_w_REFUSED : Sta Z Z.heap "com/example/sidelane/sidelane/Cancellation$Outcome" "REFUSED" "Lcom/example/sidelane/sidelane/Cancellation$Outcome;" (.ref w_REFUSED)) (S_w_HANDED_OVER : Sta Z Z.heap "com/example/sidelane/sidelane/Cancellation$Outcome" "HANDED_OVER" "Lcom/example/sidelane/sidelane/Cancellation$Outcome;" (.ref w_HANDED_OVER)) (S_w_CANCELLED_UNEXECUTED : Sta Z Z.heap "com/example/sidelane/sidelane/Cancellation$Outcome" "CANCELLED_UNEXECUTED" "Lcom/example/sidelane/sidelane/Cancellation$Outcome;" (.ref w_CANCELLED_UNEXECUTED)) (S_w_ENDING_NEEDED : Sta Z Z.heap "com/example/sidelane/sidelane/Cancellation$Outcome" "ENDING_NEEDED" "Lcom/example/sidelane/sidelane/Cancellation$Outcome;" (.ref w_ENDING_NEEDED)) (ne_w_EXECUTE_w_ADOPTER : w_EXECUTE ≠ w_ADOPTER) :
    CtrS l (⟨"com/example/sidelane/sidelane/Cancellation", "cancel", "(ZLjava/lang/Object;)Lcom/example/sidelane/sidelane/Cancellation$Outcome;"⟩ : MethodName) prog_3_method_2_code 5 (some (.object "com/example/sidelane/sidelane/Cancellation$Outcome")) ({ frames := 0, cells := 0, slots := 0, locals := 0 } : Room) #[(.ref a1), (.int p2), (.ref a3)] Z h0 (fun v h L => (∃ r, v = some (.ref r)) ∧ Fr n0 L ∧ Keep h0 h [a1] ∧ own_ob Z h a1 (.ref w_EXECUTE) (1 : Int32) (0 : Int32) (.ref a4) (.ref a6)) := by
  have ef : ∀ m : MethodId, entryFrameSync m #[(.ref a1), (.int p2), (.ref a3)] 5 a1 = mkL a1 m 0 #[.val (.ref a1), .val (.int p2), .val (.ref a3), .unset, .unset] [] := fun m => by first | rfl | (simp [entryFrameSync, mkL, argsToLocals, Value.category]; done)
  refine CtrS.of (a := a1) (plainFor_of_name pn_7) rfl U0 ?_
  intro p e s0 s m below meth c s₁ cell hx hZ hby hml hown0 hnm hret hlk hs hcell hmon X0 M0 K0
  have hown : s.vm.findClass "com/example/sidelane/sidelane/Cancellation" = some m.cls := hown0
  have N0 := Fr.nil n0
  obtain ⟨h1, e0⟩ : ∃ z, s₁.heap = z := ⟨_, rfl⟩
  rw [e0] at M0 K0
  have O1 := O0.keep K0 (allS g_a1 all0)
  refine Go.st (fun t k => castTop (ef m) k) ?_
  have A_a1' : Exa Z h1 a1 "com/example/sidelane/sidelane/Cancellation" := A_a1.mon M0
  have F_claimedBy' : Fld Z h1 a1 "com/example/sidelane/sidelane/Cancellation" "claimedBy" "Lcom/example/sidelane/sidelane/Cancellation$Claimant;" (.ref w_EXECUTE) := F_claimedBy.mon M0
  have F_cancelled' : Fld Z h1 a1 "com/example/sidelane/sidelane/Cancellation" "cancelled" "Z" (.int (1 : Int32)) := F_cancelled.mon M0
  have F_endingBegun' : Fld Z h1 a1 "com/example/sidelane/sidelane/Cancellation" "endingBegun" "Z" (.int (0 : Int32)) := F_endingBegun.mon M0
  have F_queued' : Fld Z h1 a1 "com/example/sidelane/sidelane/Cancellation" "queued" "Z" (.int (0 : Int32)) := F_queued.mon M0
  have F_runner' : Fld Z h1 a1 "com/example/sidelane/sidelane/Cancellation" "runner" "Ljava/lang/Thread;" .null := F_runner.mon M0
  have F_cancelEnding' : Fld Z h1 a1 "com/example/sidelane/sidelane/Cancellation" "cancelEnding" "Ljava/lang/Object;" (.ref a4) := F_cancelEnding.mon M0
  have F_cancelOutcome' : Fld Z h1 a1 "com/example/sidelane/sidelane/Cancellation" "cancelOutcome" "Lcom/example/sidelane/sidelane/Cancellation$Outcome;" (.ref a6) := F_cancelOutcome.mon M0
  show Go p e below _ (s₁.setTop (mkL a1 m 0 #[.val (.ref a1), .val (.int p2), .val (.ref a3), .unset, .unset] []))
  refine Go.st (fun _ => XS.aloadN X0.here hx rfl (hb hby d7_0) rfl rfl) ?_
  show Go p e below _ (s₁.setTop (mkL a1 m 1 #[.val (.ref a1), .val (.int p2), .val (.ref a3), .unset, .unset] [(.ref a1)]))
  obtain ⟨T1, X1, e1, st1⟩ := getF X0 hx hZ hown (host := "") (Or.inl (hw _ (List.mem_of_getElem? (i := 14) rfl))) Via.refl e0 F_claimedBy' (g := (mkL a1 m 1 #[.val (.ref a1), .val (.int p2), .val (.ref a3), .unset, .unset] [(.ref a1)])) rfl rfl (hb hby d7_1)
  refine Go.st st1 ?_
  show Go p e below _ (T1.setTop (mkL a1 m 4 #[.val (.ref a1), .val (.int p2), .val (.ref a3), .unset, .unset] [(.ref w_EXECUTE)]))
  obtain ⟨T2, X2, e2, st2⟩ := getS2 X1 hx hZ hown (host := "") (Or.inl (hw _ (List.mem_of_getElem? (i := 43) rfl))) Via.refl e1 (oldSta O1 S_w_ADOPTER) (g := (mkL a1 m 4 #[.val (.ref a1), .val (.int p2), .val (.ref a3), .unset, .unset] [(.ref w_EXECUTE)])) rfl (hb hby d7_4)
  refine Go.st st2 ?_
  show Go p e below _ (T2.setTop (mkL a1 m 7 #[.val (.ref a1), .val (.int p2), .val (.ref a3), .unset, .unset] [(.ref w_ADOPTER), (.ref w_EXECUTE)]))
  refine Go.st (fun _ => fun k => Jvm.RoadKit.acmp (g := (mkL a1 m 7 #[.val (.ref a1), .val (.int p2), .val (.ref a3), .unset, .unset] [(.ref w_ADOPTER), (.ref w_EXECUTE)])) X2 hx rfl rfl rfl (pc0 := 7) (pc' := 14) (same := false) rfl (hb hby d7_7) rfl (decide_eq_false fun q => ne_w_EXECUTE_w_ADOPTER (Value.ref.inj q)) (by decide) (by decide) k) ?_
  show Go p e below _ (T2.setTop (mkL a1 m 14 #[.val (.ref a1), .val (.int p2), .val (.ref a3), .unset, .unset] []))
  refine Go.st (fun _ => XS.aloadN X2.here hx rfl (hb hby d7_14) rfl rfl) ?_
  show Go p e below _ (T2.setTop (mkL a1 m 15 #[.val (.ref a1), .val (.int p2), .val (.ref a3), .unset, .unset] [(.ref a1)]))
  obtain ⟨T3, X3, e3, st3⟩ := getF X2 hx hZ hown (host := "") (Or.inl (hw _ (List.mem_of_getElem? (i := 16) rfl))) Via.refl e2 F_cancelled' (g := (mkL a1 m 15 #[.val (.ref a1), .val (.int p2), .val (.ref a3), .unset, .unset] [(.ref a1)])) rfl rfl (hb hby d7_15)
  refine Go.st st3 ?_
  show Go p e below _ (T3.setTop (mkL a1 m 18 #[.val (.ref a1), .val (.int p2), .val (.ref a3), .unset, .unset] [(.int (1 : Int32))]))
  refine Go.st (fun _ => XS.ifNo X3.here hx rfl (hb hby d7_18) rfl ((if0 _ _).trans (feq (by decide : ¬ ((1 : Int32) = (0 : Int32)))).1)) ?_
  show Go p e below _ (T3.setTop (mkL a1 m 21 #[.val (.ref a1), .val (.int p2), .val (.ref a3), .unset, .unset] []))
  refine Go.st (fun _ => XS.aloadN X3.here hx rfl (hb hby d7_21) rfl rfl) ?_
  show Go p e below _ (T3.setTop (mkL a1 m 22 #[.val (.ref a1), .val (.int p2), .val (.ref a3), .unset, .unset] [(.ref a3)]))
  refine Go.st (fun _ => XS.ifnullNo X3.here hx rfl (hb hby d7_22) rfl) ?_
  show Go p e below _ (T3.setTop (mkL a1 m 25 #[.val (.ref a1), .val (.int p2), .val (.ref a3), .unset, .unset] []))
  refine Go.st (fun _ => XS.aloadN X3.here hx rfl (hb hby d7_25) rfl rfl) ?_
  show Go p e below _ (T3.setTop (mkL a1 m 26 #[.val (.ref a1), .val (.int p2), .val (.ref a3), .unset, .unset] [(.ref a3)]))
  refine Go.st (fun _ => XS.aloadN X3.here hx rfl (hb hby d7_26) rfl rfl) ?_
  show Go p e below _ (T3.setTop (mkL a1 m 27 #[.val (.ref a1), .val (.int p2), .val (.ref a3), .unset, .unset] [(.ref a1), (.ref a3)]))
  obtain ⟨T4, X4, e4, st4⟩ := getF X3 hx hZ hown (host := "") (Or.inl (hw _ (List.mem_of_getElem? (i := 55) rfl))) Via.refl e3 F_cancelEnding' (g := (mkL a1 m 27 #[.val (.ref a1), .val (.int p2), .val (.ref a3), .unset, .unset] [(.ref a1), (.ref a3)])) rfl rfl (hb hby d7_27)
  refine Go.st st4 ?_
  show Go p e below _ (T4.setTop (mkL a1 m 30 #[.val (.ref a1), .val (.int p2), .val (.ref a3), .unset, .unset] [(.ref a4), (.ref a3)]))
  by_cases hc5 : a3 = a4
  · refine Go.st (fun _ => fun k => Jvm.RoadKit.acmp (g := (mkL a1 m 30 #[.val (.ref a1), .val (.int p2), .val (.ref a3), .unset, .unset] [(.ref a4), (.ref a3)])) X4 hx rfl rfl rfl (pc0 := 30) (pc' := 33) (same := true) rfl (hb hby d7_30) rfl (decide_eq_true (congrArg Value.ref hc5)) (by decide) (by decide) k) ?_
    show Go p e below _ (T4.setTop (mkL a1 m 33 #[.val (.ref a1), .val (.int p2), .val (.ref a3), .unset, .unset] []))
    refine Go.st (fun _ => XS.aloadN X4.here hx rfl (hb hby d7_33) rfl rfl) ?_
    show Go p e below _ (T4.setTop (mkL a1 m 34 #[.val (.ref a1), .val (.int p2), .val (.ref a3), .unset, .unset] [(.ref a1)]))
    obtain ⟨T6, X6, e6, st6⟩ := getF X4 hx hZ hown (host := "") (Or.inl (hw _ (List.mem_of_getElem? (i := 53) rfl))) Via.refl e4 F_cancelOutcome' (g := (mkL a1 m 34 #[.val (.ref a1), .val (.int p2), .val (.ref a3), .unset, .unset] [(.ref a1)])) rfl rfl (hb hby d7_34)
    refine Go.st st6 ?_
    show Go p e below _ (T6.setTop (mkL a1 m 37 #[.val (.ref a1), .val (.int p2), .val (.ref a3), .unset, .unset] [(.ref a6)]))
    refine Go.st (fun _ => XS.goto X6.here hx rfl (pc0 := 37) (pc' := 43) rfl (hb hby d7_37) (by decide) (by decide)) ?_
    show Go p e below _ (T6.setTop (mkL a1 m 43 #[.val (.ref a1), .val (.int p2), .val (.ref a3), .unset, .unset] [(.ref a6)]))
    refine goRetS (v := some (.ref a6)) X6 hs hcell hmon hlk (fun h => by rw [hret] at h; cases h) e6 (fun V hV => retS X6 hx hret rfl (Or.inr (Or.inr (Or.inr (Or.inr ⟨rfl, rfl, rfl⟩)))) (hb hby d7_43) hV) (by decide) (by decide) (fun h' M' K' hm' => ?_)
    exact ⟨⟨_, rfl⟩, N0, (K0.trans K' (allS (Or.inl (List.mem_singleton_self _)) all0)), ⟨(A_a1'.mon M'), (untEnd U0 (K0.trans K' (allS (Or.inl (List.mem_singleton_self _)) all0)) hm'), (F_claimedBy'.mon M'), (F_cancelled'.mon M'), (F_endingBegun'.mon M'), (F_queued'.mon M'), (F_runner'.mon M'), (F_cancelEnding'.mon M'), (F_cancelOutcome'.mon M')⟩⟩
  · refine Go.st (fun _ => fun k => Jvm.RoadKit.acmp (g := (mkL a1 m 30 #[.val (.ref a1), .val (.int p2), .val (.ref a3), .unset, .unset] [(.ref a4), (.ref a3)])) X4 hx rfl rfl rfl (pc0 := 30) (pc' := 40) (same := false) rfl (hb hby d7_30) rfl (decide_eq_false fun q => hc5 (Value.ref.inj q)) (by decide) (by decide) k) ?_
    show Go p e below _ (T4.setTop (mkL a1 m 40 #[.val (.ref a1), .val (.int p2), .val (.ref a3), .unset, .unset] []))
    obtain ⟨T7, X7, e7, st7⟩ := getS2 X4 hx hZ hown (host := "") (Or.inl (hw _ (List.mem_of_getElem? (i := 57) rfl))) Via.refl e4 (oldSta O1 S_w_REFUSED) (g := (mkL a1 m 40 #[.val (.ref a1), .val (.int p2), .val (.ref a3), .unset, .unset] [])) rfl (hb hby d7_40)
    refine Go.st st7 ?_
    show Go p e below _ (T7.setTop (mkL a1 m 43 #[.val (.ref a1), .val (.int p2), .val (.ref a3), .unset, .unset] [(.ref w_REFUSED)]))
    refine goRetS (v := some (.ref w_REFUSED)) X7 hs hcell hmon hlk (fun h => by rw [hret] at h; cases h) e7 (fun V hV => retS X7 hx hret rfl (Or.inr (Or.inr (Or.inr (Or.inr ⟨rfl, rfl, rfl⟩)))) (hb hby d7_43) hV) (by decide) (by decide) (fun h' M' K' hm' => ?_)
    exact ⟨⟨_, rfl⟩, N0, (K0.trans K' (allS (Or.inl (List.mem_singleton_self _)) all0)), ⟨(A_a1'.mon M'), (untEnd U0 (K0.trans K' (allS (Or.inl (List.mem_singleton_self _)) all0)) hm'), (F_claimedBy'.mon M'), (F_cancelled'.mon M'), (F_endingBegun'.mon M'), (F_queued'.mon M'), (F_runner'.mon M'), (F_cancelEnding'.mon M'), (F_cancelOutcome'.mon M')⟩⟩
set_option maxRecDepth 65536 in
set_option maxHeartbeats 40000000 in
theorem caE (l : Launch) (Z : State) (a0 : Array Value) (hw : ∀ d ∈ tables_1, d.before a0 Z = true) (a1 : Addr) (p2 : Int32) (en oc : Value) (w_EXECUTE w_ADOPTER w_CANCELLED w_REFUSED w_HANDED_OVER w_CANCELLED_UNEXECUTED w_ENDING_NEEDED : Addr) (h0 : Heap) (n0 : Nat) (O0 : Old Z n0 h0) (U0 : Unt h0 a1) (g_a1 : n0 ≤ a1) (A_a1 : Exa Z h0 a1 "com/example/sidelane/sidelane/Cancellation") (F_claimedBy : Fld Z h0 a1 "com/example/sidelane/sidelane/Cancellation" "claimedBy" "Lcom/example/sidelane/sidelane/Cancellation$Claimant;" .null) (F_cancelled : Fld Z h0 a1 "com/example/sidelane/sidelane/Cancellation" "cancelled" "Z" (.int (0 : Int32))) (F_endingBegun : Fld Z h0 a1 "com/example/sidelane/sidelane/Cancellation" "endingBegun" "Z" (.int (0 : Int32))) (F_queued : Fld Z h0 a1 "com/example/sidelane/sidelane/Cancellation" "queued" "Z" (.int (0 : Int32))) (F_runner : Fld Z h0 a1 "com/example/sidelane/sidelane/Cancellation" "runner" "Ljava/lang/Thread;" .null) (F_cancelEnding : Fld Z h0 a1 "com/example/sidelane/sidelane/Cancellation" "cancelEnding" "Ljava/lang/Object;" en) (F_cancelOutcome : Fld Z h0 a1 "com/example/sidelane/sidelane/Cancellation" "cancelOutcome" "Lcom/example/sidelane/sidelane/Cancellation$Outcome;" oc) (S_w_EXECUTE : Sta Z Z.heap "com/example/sidelane/sidelane/Cancellation$Claimant" "EXECUTE" "Lcom/example/sidelane/sidelane/Cancellation$Claimant;" (.ref w_EXECUTE)) (S_w_ADOPTER : Sta Z Z.heap "com/example/sidelane/sidelane/Cancellation$Claimant" "ADOPTER" "Lcom/example/sidelane/sidelane/Cancellation$Claimant;" (.ref w_ADOPTER)) (S_w_CANCELLED : Sta Z Z.heap "com/example/sidelane/sidelane/Cancellation$Outcome" "CANCELLED" "Lcom/example/sidelane/sidelane/Cancellation$Outcome;" (.ref w_CANCELLED)) (S_w_REFUSED : Sta Z Z.heap "com/example/sidelane/sidelane/Cancellation$Outcome" "REFUSED" "Lcom/example/sidelane/sidelane/Cancellation$Outcome;" (.ref w_REFUSED)) (S_w_HANDED_OVER : Sta Z Z.heap "com/example/sidelane/sidelane/Cancellation$Outcome" "HANDED_OVER" "Lcom/example/sidelane/sidelane/Cancellation$Outcome;" (.ref w_HANDED_OVER)) (S_w_CANCELLED_UNEXECUTED : Sta Z Z.heap "com/example/sidelane/sidelane/Cancellation$Outcome" "CANCELLED_UNEXECUTED" "Lcom/example/sidelane/sidelane/Cancellation$Outcome;" (.ref w_CANCELLED_UNEXECUTED)) (S_w_ENDING_NEEDED : Sta Z Z.heap "com/example/sidelane/sidelane/Cancellation$Outcome" "ENDING_NEEDED" "Lcom/example/sidelane/sidelane/Cancellation$Outcome;" (.ref w_ENDING_NEEDED)) (ne_w_EXECUTE_w_ADOPTER : w_EXECUTE ≠ w_ADOPTER) :
    CtrS l (⟨"com/example/sidelane/sidelane/Cancellation", "cancel", "(ZLjava/lang/Object;)Lcom/example/sidelane/sidelane/Cancellation$Outcome;"⟩ : MethodName) prog_3_method_2_code 5 (some (.object "com/example/sidelane/sidelane/Cancellation$Outcome")) ({ frames := 0, cells := 0, slots := 0, locals := 0 } : Room) #[(.ref a1), (.int p2), .null] Z h0 (fun v h L => (∃ r, v = some (.ref r)) ∧ Fr n0 L ∧ Keep h0 h [a1] ∧ own_ob Z h a1 .null (0 : Int32) (0 : Int32) en oc) := by
  have ef : ∀ m : MethodId, entryFrameSync m #[(.ref a1), (.int p2), .null] 5 a1 = mkL a1 m 0 #[.val (.ref a1), .val (.int p2), .val .null, .unset, .unset] [] := fun m => by first | rfl | (simp [entryFrameSync, mkL, argsToLocals, Value.category]; done)
  refine CtrS.of (a := a1) (plainFor_of_name pn_7) rfl U0 ?_
  intro p e s0 s m below meth c s₁ cell hx hZ hby hml hown0 hnm hret hlk hs hcell hmon X0 M0 K0
  have hown : s.vm.findClass "com/example/sidelane/sidelane/Cancellation" = some m.cls := hown0
  have N0 := Fr.nil n0
  obtain ⟨h1, e0⟩ : ∃ z, s₁.heap = z := ⟨_, rfl⟩
  rw [e0] at M0 K0
  have O1 := O0.keep K0 (allS g_a1 all0)
  refine Go.st (fun t k => castTop (ef m) k) ?_
  have A_a1' : Exa Z h1 a1 "com/example/sidelane/sidelane/Cancellation" := A_a1.mon M0
  have F_claimedBy' : Fld Z h1 a1 "com/example/sidelane/sidelane/Cancellation" "claimedBy" "Lcom/example/sidelane/sidelane/Cancellation$Claimant;" .null := F_claimedBy.mon M0
  have F_cancelled' : Fld Z h1 a1 "com/example/sidelane/sidelane/Cancellation" "cancelled" "Z" (.int (0 : Int32)) := F_cancelled.mon M0
  have F_endingBegun' : Fld Z h1 a1 "com/example/sidelane/sidelane/Cancellation" "endingBegun" "Z" (.int (0 : Int32)) := F_endingBegun.mon M0
  have F_queued' : Fld Z h1 a1 "com/example/sidelane/sidelane/Cancellation" "queued" "Z" (.int (0 : Int32)) := F_queued.mon M0
  have F_runner' : Fld Z h1 a1 "com/example/sidelane/sidelane/Cancellation" "runner" "Ljava/lang/Thread;" .null := F_runner.mon M0
  have F_cancelEnding' : Fld Z h1 a1 "com/example/sidelane/sidelane/Cancellation" "cancelEnding" "Ljava/lang/Object;" en := F_cancelEnding.mon M0
  have F_cancelOutcome' : Fld Z h1 a1 "com/example/sidelane/sidelane/Cancellation" "cancelOutcome" "Lcom/example/sidelane/sidelane/Cancellation$Outcome;" oc := F_cancelOutcome.mon M0
  show Go p e below _ (s₁.setTop (mkL a1 m 0 #[.val (.ref a1), .val (.int p2), .val .null, .unset, .unset] []))
  refine Go.st (fun _ => XS.aloadN X0.here hx rfl (hb hby d7_0) rfl rfl) ?_
  show Go p e below _ (s₁.setTop (mkL a1 m 1 #[.val (.ref a1), .val (.int p2), .val .null, .unset, .unset] [(.ref a1)]))
  obtain ⟨T1, X1, e1, st1⟩ := getF X0 hx hZ hown (host := "") (Or.inl (hw _ (List.mem_of_getElem? (i := 14) rfl))) Via.refl e0 F_claimedBy' (g := (mkL a1 m 1 #[.val (.ref a1), .val (.int p2), .val .null, .unset, .unset] [(.ref a1)])) rfl rfl (hb hby d7_1)
  refine Go.st st1 ?_
  show Go p e below _ (T1.setTop (mkL a1 m 4 #[.val (.ref a1), .val (.int p2), .val .null, .unset, .unset] [.null]))
  obtain ⟨T2, X2, e2, st2⟩ := getS2 X1 hx hZ hown (host := "") (Or.inl (hw _ (List.mem_of_getElem? (i := 43) rfl))) Via.refl e1 (oldSta O1 S_w_ADOPTER) (g := (mkL a1 m 4 #[.val (.ref a1), .val (.int p2), .val .null, .unset, .unset] [.null])) rfl (hb hby d7_4)
  refine Go.st st2 ?_
  show Go p e below _ (T2.setTop (mkL a1 m 7 #[.val (.ref a1), .val (.int p2), .val .null, .unset, .unset] [(.ref w_ADOPTER), .null]))
  refine Go.st (fun _ => fun k => Jvm.RoadKit.acmp (g := (mkL a1 m 7 #[.val (.ref a1), .val (.int p2), .val .null, .unset, .unset] [(.ref w_ADOPTER), .null])) X2 hx rfl rfl rfl (pc0 := 7) (pc' := 14) (same := false) rfl (hb hby d7_7) rfl (decide_eq_false nofun) (by decide) (by decide) k) ?_
  show Go p e below _ (T2.setTop (mkL a1 m 14 #[.val (.ref a1), .val (.int p2), .val .null, .unset, .unset] []))
  refine Go.st (fun _ => XS.aloadN X2.here hx rfl (hb hby d7_14) rfl rfl) ?_
  show Go p e below _ (T2.setTop (mkL a1 m 15 #[.val (.ref a1), .val (.int p2), .val .null, .unset, .unset] [(.ref a1)]))
  obtain ⟨T3, X3, e3, st3⟩ := getF X2 hx hZ hown (host := "") (Or.inl (hw _ (List.mem_of_getElem? (i := 16) rfl))) Via.refl e2 F_cancelled' (g := (mkL a1 m 15 #[.val (.ref a1), .val (.int p2), .val .null, .unset, .unset] [(.ref a1)])) rfl rfl (hb hby d7_15)
  refine Go.st st3 ?_
  show Go p e below _ (T3.setTop (mkL a1 m 18 #[.val (.ref a1), .val (.int p2), .val .null, .unset, .unset] [(.int (0 : Int32))]))
  refine Go.st (fun _ => XS.ifYes X3.here hx rfl (pc0 := 18) (pc' := 44) rfl (hb hby d7_18) rfl ((if0 _ _).trans (teq (by decide : (0 : Int32) = (0 : Int32))).1) (by decide) (by decide)) ?_
  show Go p e below _ (T3.setTop (mkL a1 m 44 #[.val (.ref a1), .val (.int p2), .val .null, .unset, .unset] []))
  refine Go.st (fun _ => XS.aloadN X3.here hx rfl (hb hby d7_44) rfl rfl) ?_
  show Go p e below _ (T3.setTop (mkL a1 m 45 #[.val (.ref a1), .val (.int p2), .val .null, .unset, .unset] [(.ref a1)]))
  obtain ⟨T4, X4, e4, st4⟩ := getF X3 hx hZ hown (host := "") (Or.inl (hw _ (List.mem_of_getElem? (i := 45) rfl))) Via.refl e3 F_endingBegun' (g := (mkL a1 m 45 #[.val (.ref a1), .val (.int p2), .val .null, .unset, .unset] [(.ref a1)])) rfl rfl (hb hby d7_45)
  refine Go.st st4 ?_
  show Go p e below _ (T4.setTop (mkL a1 m 48 #[.val (.ref a1), .val (.int p2), .val .null, .unset, .unset] [(.int (0 : Int32))]))
  refine Go.st (fun _ => XS.ifYes X4.here hx rfl (pc0 := 48) (pc' := 55) rfl (hb hby d7_48) rfl ((if0 _ _).trans (teq (by decide : (0 : Int32) = (0 : Int32))).1) (by decide) (by decide)) ?_
  show Go p e below _ (T4.setTop (mkL a1 m 55 #[.val (.ref a1), .val (.int p2), .val .null, .unset, .unset] []))
  refine Go.st (fun _ => XS.aloadN X4.here hx rfl (hb hby d7_55) rfl rfl) ?_
  show Go p e below _ (T4.setTop (mkL a1 m 56 #[.val (.ref a1), .val (.int p2), .val .null, .unset, .unset] [(.ref a1)]))
  obtain ⟨T5, X5, e5, st5⟩ := getF X4 hx hZ hown (host := "") (Or.inl (hw _ (List.mem_of_getElem? (i := 14) rfl))) Via.refl e4 F_claimedBy' (g := (mkL a1 m 56 #[.val (.ref a1), .val (.int p2), .val .null, .unset, .unset] [(.ref a1)])) rfl rfl (hb hby d7_56)
  refine Go.st st5 ?_
  show Go p e below _ (T5.setTop (mkL a1 m 59 #[.val (.ref a1), .val (.int p2), .val .null, .unset, .unset] [.null]))
  obtain ⟨T6, X6, e6, st6⟩ := getS2 X5 hx hZ hown (host := "") (Or.inl (hw _ (List.mem_of_getElem? (i := 47) rfl))) Via.refl e5 (oldSta O1 S_w_EXECUTE) (g := (mkL a1 m 59 #[.val (.ref a1), .val (.int p2), .val .null, .unset, .unset] [.null])) rfl (hb hby d7_59)
  refine Go.st st6 ?_
  show Go p e below _ (T6.setTop (mkL a1 m 62 #[.val (.ref a1), .val (.int p2), .val .null, .unset, .unset] [(.ref w_EXECUTE), .null]))
  refine Go.st (fun _ => fun k => Jvm.RoadKit.acmp (g := (mkL a1 m 62 #[.val (.ref a1), .val (.int p2), .val .null, .unset, .unset] [(.ref w_EXECUTE), .null])) X6 hx rfl rfl rfl (pc0 := 62) (pc' := 69) (same := false) rfl (hb hby d7_62) rfl (decide_eq_false nofun) (by decide) (by decide) k) ?_
  show Go p e below _ (T6.setTop (mkL a1 m 69 #[.val (.ref a1), .val (.int p2), .val .null, .unset, .unset] []))
  refine Go.st (fun _ => XS.iconst X6.here hx rfl (hb hby d7_69)) ?_
  show Go p e below _ (T6.setTop (mkL a1 m 70 #[.val (.ref a1), .val (.int p2), .val .null, .unset, .unset] [(.int (0 : Int32))]))
  refine Go.st (fun _ => XS.istoreN X6.here hx rfl (hb hby d7_70) rfl (l' := #[.val (.ref a1), .val (.int p2), .val .null, .val (.int (0 : Int32)), .unset]) rfl) ?_
  show Go p e below _ (T6.setTop (mkL a1 m 71 #[.val (.ref a1), .val (.int p2), .val .null, .val (.int (0 : Int32)), .unset] []))
  refine Go.st (fun _ => XS.iloadN X6.here hx rfl (hb hby d7_71) rfl) ?_
  show Go p e below _ (T6.setTop (mkL a1 m 72 #[.val (.ref a1), .val (.int p2), .val .null, .val (.int (0 : Int32)), .unset] [(.int (0 : Int32))]))
  refine Go.st (fun _ => XS.ifYes X6.here hx rfl (pc0 := 72) (pc' := 82) rfl (hb hby d7_72) rfl ((if0 _ _).trans (teq (by decide : (0 : Int32) = (0 : Int32))).1) (by decide) (by decide)) ?_
  show Go p e below _ (T6.setTop (mkL a1 m 82 #[.val (.ref a1), .val (.int p2), .val .null, .val (.int (0 : Int32)), .unset] []))
  refine Go.st (fun _ => XS.iconst X6.here hx rfl (hb hby d7_82)) ?_
  show Go p e below _ (T6.setTop (mkL a1 m 83 #[.val (.ref a1), .val (.int p2), .val .null, .val (.int (0 : Int32)), .unset] [(.int (1 : Int32))]))
  refine Go.st (fun _ => XS.goto X6.here hx rfl (pc0 := 83) (pc' := 87) rfl (hb hby d7_83) (by decide) (by decide)) ?_
  show Go p e below _ (T6.setTop (mkL a1 m 87 #[.val (.ref a1), .val (.int p2), .val .null, .val (.int (0 : Int32)), .unset] [(.int (1 : Int32))]))
  refine Go.st (fun _ => XS.istore X6.here hx rfl (hb hby d7_87) rfl (l' := #[.val (.ref a1), .val (.int p2), .val .null, .val (.int (0 : Int32)), .val (.int (1 : Int32))]) rfl) ?_
  show Go p e below _ (T6.setTop (mkL a1 m 89 #[.val (.ref a1), .val (.int p2), .val .null, .val (.int (0 : Int32)), .val (.int (1 : Int32))] []))
  refine Go.st (fun _ => XS.iload X6.here hx rfl (hb hby d7_89) rfl) ?_
  show Go p e below _ (T6.setTop (mkL a1 m 91 #[.val (.ref a1), .val (.int p2), .val .null, .val (.int (0 : Int32)), .val (.int (1 : Int32))] [(.int (1 : Int32))]))
  refine Go.st (fun _ => XS.ifNo X6.here hx rfl (hb hby d7_91) rfl ((if0 _ _).trans (feq (by decide : ¬ ((1 : Int32) = (0 : Int32)))).1)) ?_
  show Go p e below _ (T6.setTop (mkL a1 m 94 #[.val (.ref a1), .val (.int p2), .val .null, .val (.int (0 : Int32)), .val (.int (1 : Int32))] []))
  refine Go.st (fun _ => XS.aloadN X6.here hx rfl (hb hby d7_94) rfl rfl) ?_
  show Go p e below _ (T6.setTop (mkL a1 m 95 #[.val (.ref a1), .val (.int p2), .val .null, .val (.int (0 : Int32)), .val (.int (1 : Int32))] [.null]))
  refine Go.st (fun _ => XS.ifnonnullNo X6.here hx rfl (hb hby d7_95) rfl) ?_
  show Go p e below _ (T6.setTop (mkL a1 m 98 #[.val (.ref a1), .val (.int p2), .val .null, .val (.int (0 : Int32)), .val (.int (1 : Int32))] []))
  obtain ⟨T7, X7, e7, st7⟩ := getS2 X6 hx hZ hown (host := "") (Or.inl (hw _ (List.mem_of_getElem? (i := 81) rfl))) Via.refl e6 (oldSta O1 S_w_ENDING_NEEDED) (g := (mkL a1 m 98 #[.val (.ref a1), .val (.int p2), .val .null, .val (.int (0 : Int32)), .val (.int (1 : Int32))] [])) rfl (hb hby d7_98)
  refine Go.st st7 ?_
  show Go p e below _ (T7.setTop (mkL a1 m 101 #[.val (.ref a1), .val (.int p2), .val .null, .val (.int (0 : Int32)), .val (.int (1 : Int32))] [(.ref w_ENDING_NEEDED)]))
  refine goRetS (v := some (.ref w_ENDING_NEEDED)) X7 hs hcell hmon hlk (fun h => by rw [hret] at h; cases h) e7 (fun V hV => retS X7 hx hret rfl (Or.inr (Or.inr (Or.inr (Or.inr ⟨rfl, rfl, rfl⟩)))) (hb hby d7_101) hV) (by decide) (by decide) (fun h' M' K' hm' => ?_)
  exact ⟨⟨_, rfl⟩, N0, (K0.trans K' (allS (Or.inl (List.mem_singleton_self _)) all0)), ⟨(A_a1'.mon M'), (untEnd U0 (K0.trans K' (allS (Or.inl (List.mem_singleton_self _)) all0)) hm'), (F_claimedBy'.mon M'), (F_cancelled'.mon M'), (F_endingBegun'.mon M'), (F_queued'.mon M'), (F_runner'.mon M'), (F_cancelEnding'.mon M'), (F_cancelOutcome'.mon M')⟩⟩
set_option maxRecDepth 65536 in
set_option maxHeartbeats 40000000 in
theorem caF (l : Launch) (Z : State) (a0 : Array Value) (hw : ∀ d ∈ tables_1, d.before a0 Z = true) (a1 : Addr) (p2 : Int32) (a3 : Addr) (en oc : Value) (w_EXECUTE w_ADOPTER w_CANCELLED w_REFUSED w_HANDED_OVER w_CANCELLED_UNEXECUTED w_ENDING_NEEDED : Addr) (h0 : Heap) (n0 : Nat) (O0 : Old Z n0 h0) (U0 : Unt h0 a1) (g_a1 : n0 ≤ a1) (A_a1 : Exa Z h0 a1 "com/example/sidelane/sidelane/Cancellation") (F_claimedBy : Fld Z h0 a1 "com/example/sidelane/sidelane/Cancellation" "claimedBy" "Lcom/example/sidelane/sidelane/Cancellation$Claimant;" .null) (F_cancelled : Fld Z h0 a1 "com/example/sidelane/sidelane/Cancellation" "cancelled" "Z" (.int (0 : Int32))) (F_endingBegun : Fld Z h0 a1 "com/example/sidelane/sidelane/Cancellation" "endingBegun" "Z" (.int (0 : Int32))) (F_queued : Fld Z h0 a1 "com/example/sidelane/sidelane/Cancellation" "queued" "Z" (.int (0 : Int32))) (F_runner : Fld Z h0 a1 "com/example/sidelane/sidelane/Cancellation" "runner" "Ljava/lang/Thread;" .null) (F_cancelEnding : Fld Z h0 a1 "com/example/sidelane/sidelane/Cancellation" "cancelEnding" "Ljava/lang/Object;" en) (F_cancelOutcome : Fld Z h0 a1 "com/example/sidelane/sidelane/Cancellation" "cancelOutcome" "Lcom/example/sidelane/sidelane/Cancellation$Outcome;" oc) (S_w_EXECUTE : Sta Z Z.heap "com/example/sidelane/sidelane/Cancellation$Claimant" "EXECUTE" "Lcom/example/sidelane/sidelane/Cancellation$Claimant;" (.ref w_EXECUTE)) (S_w_ADOPTER : Sta Z Z.heap "com/example/sidelane/sidelane/Cancellation$Claimant" "ADOPTER" "Lcom/example/sidelane/sidelane/Cancellation$Claimant;" (.ref w_ADOPTER)) (S_w_CANCELLED : Sta Z Z.heap "com/example/sidelane/sidelane/Cancellation$Outcome" "CANCELLED" "Lcom/example/sidelane/sidelane/Cancellation$Outcome;" (.ref w_CANCELLED)) (S_w_REFUSED : Sta Z Z.heap "com/example/sidelane/sidelane/Cancellation$Outcome" "REFUSED" "Lcom/example/sidelane/sidelane/Cancellation$Outcome;" (.ref w_REFUSED)) (S_w_HANDED_OVER : Sta Z Z.heap "com/example/sidelane/sidelane/Cancellation$Outcome" "HANDED_OVER" "Lcom/example/sidelane/sidelane/Cancellation$Outcome;" (.ref w_HANDED_OVER)) (S_w_CANCELLED_UNEXECUTED : Sta Z Z.heap "com/example/sidelane/sidelane/Cancellation$Outcome" "CANCELLED_UNEXECUTED" "Lcom/example/sidelane/sidelane/Cancellation$Outcome;" (.ref w_CANCELLED_UNEXECUTED)) (S_w_ENDING_NEEDED : Sta Z Z.heap "com/example/sidelane/sidelane/Cancellation$Outcome" "ENDING_NEEDED" "Lcom/example/sidelane/sidelane/Cancellation$Outcome;" (.ref w_ENDING_NEEDED)) (ne_w_EXECUTE_w_ADOPTER : w_EXECUTE ≠ w_ADOPTER) :
    CtrS l (⟨"com/example/sidelane/sidelane/Cancellation", "cancel", "(ZLjava/lang/Object;)Lcom/example/sidelane/sidelane/Cancellation$Outcome;"⟩ : MethodName) prog_3_method_2_code 5 (some (.object "com/example/sidelane/sidelane/Cancellation$Outcome")) ({ frames := 0, cells := 0, slots := 0, locals := 0 } : Room) #[(.ref a1), (.int p2), (.ref a3)] Z h0 (fun v h L => (∃ r, v = some (.ref r)) ∧ Fr n0 L ∧ Keep h0 h [a1] ∧ own_ob Z h a1 .null (1 : Int32) (0 : Int32) (.ref a3) (.ref w_CANCELLED_UNEXECUTED)) := by
  have ef : ∀ m : MethodId, entryFrameSync m #[(.ref a1), (.int p2), (.ref a3)] 5 a1 = mkL a1 m 0 #[.val (.ref a1), .val (.int p2), .val (.ref a3), .unset, .unset] [] := fun m => by first | rfl | (simp [entryFrameSync, mkL, argsToLocals, Value.category]; done)
  refine CtrS.of (a := a1) (plainFor_of_name pn_7) rfl U0 ?_
  intro p e s0 s m below meth c s₁ cell hx hZ hby hml hown0 hnm hret hlk hs hcell hmon X0 M0 K0
  have hown : s.vm.findClass "com/example/sidelane/sidelane/Cancellation" = some m.cls := hown0
  have N0 := Fr.nil n0
  obtain ⟨h1, e0⟩ : ∃ z, s₁.heap = z := ⟨_, rfl⟩
  rw [e0] at M0 K0
  have O1 := O0.keep K0 (allS g_a1 all0)
  refine Go.st (fun t k => castTop (ef m) k) ?_
  have A_a1' : Exa Z h1 a1 "com/example/sidelane/sidelane/Cancellation" := A_a1.mon M0
  have F_claimedBy' : Fld Z h1 a1 "com/example/sidelane/sidelane/Cancellation" "claimedBy" "Lcom/example/sidelane/sidelane/Cancellation$Claimant;" .null := F_claimedBy.mon M0
  have F_cancelled' : Fld Z h1 a1 "com/example/sidelane/sidelane/Cancellation" "cancelled" "Z" (.int (0 : Int32)) := F_cancelled.mon M0
  have F_endingBegun' : Fld Z h1 a1 "com/example/sidelane/sidelane/Cancellation" "endingBegun" "Z" (.int (0 : Int32)) := F_endingBegun.mon M0
  have F_queued' : Fld Z h1 a1 "com/example/sidelane/sidelane/Cancellation" "queued" "Z" (.int (0 : Int32)) := F_queued.mon M0
  have F_runner' : Fld Z h1 a1 "com/example/sidelane/sidelane/Cancellation" "runner" "Ljava/lang/Thread;" .null := F_runner.mon M0
  have F_cancelEnding' : Fld Z h1 a1 "com/example/sidelane/sidelane/Cancellation" "cancelEnding" "Ljava/lang/Object;" en := F_cancelEnding.mon M0
  have F_cancelOutcome' : Fld Z h1 a1 "com/example/sidelane/sidelane/Cancellation" "cancelOutcome" "Lcom/example/sidelane/sidelane/Cancellation$Outcome;" oc := F_cancelOutcome.mon M0
  show Go p e below _ (s₁.setTop (mkL a1 m 0 #[.val (.ref a1), .val (.int p2), .val (.ref a3), .unset, .unset] []))
  refine Go.st (fun _ => XS.aloadN X0.here hx rfl (hb hby d7_0) rfl rfl) ?_
  show Go p e below _ (s₁.setTop (mkL a1 m 1 #[.val (.ref a1), .val (.int p2), .val (.ref a3), .unset, .unset] [(.ref a1)]))
  obtain ⟨T1, X1, e1, st1⟩ := getF X0 hx hZ hown (host := "") (Or.inl (hw _ (List.mem_of_getElem? (i := 14) rfl))) Via.refl e0 F_claimedBy' (g := (mkL a1 m 1 #[.val (.ref a1), .val (.int p2), .val (.ref a3), .unset, .unset] [(.ref a1)])) rfl rfl (hb hby d7_1)
  refine Go.st st1 ?_
  show Go p e below _ (T1.setTop (mkL a1 m 4 #[.val (.ref a1), .val (.int p2), .val (.ref a3), .unset, .unset] [.null]))
  obtain ⟨T2, X2, e2, st2⟩ := getS2 X1 hx hZ hown (host := "") (Or.inl (hw _ (List.mem_of_getElem? (i := 43) rfl))) Via.refl e1 (oldSta O1 S_w_ADOPTER) (g := (mkL a1 m 4 #[.val (.ref a1), .val (.int p2), .val (.ref a3), .unset, .unset] [.null])) rfl (hb hby d7_4)
  refine Go.st st2 ?_
  show Go p e below _ (T2.setTop (mkL a1 m 7 #[.val (.ref a1), .val (.int p2), .val (.ref a3), .unset, .unset] [(.ref w_ADOPTER), .null]))
  refine Go.st (fun _ => fun k => Jvm.RoadKit.acmp (g := (mkL a1 m 7 #[.val (.ref a1), .val (.int p2), .val (.ref a3), .unset, .unset] [(.ref w_ADOPTER), .null])) X2 hx rfl rfl rfl (pc0 := 7) (pc' := 14) (same := false) rfl (hb hby d7_7) rfl (decide_eq_false nofun) (by decide) (by decide) k) ?_
  show Go p e below _ (T2.setTop (mkL a1 m 14 #[.val (.ref a1), .val (.int p2), .val (.ref a3), .unset, .unset] []))
  refine Go.st (fun _ => XS.aloadN X2.here hx rfl (hb hby d7_14) rfl rfl) ?_
  show Go p e below _ (T2.setTop (mkL a1 m 15 #[.val (.ref a1), .val (.int p2), .val (.ref a3), .unset, .unset] [(.ref a1)]))
  obtain ⟨T3, X3, e3, st3⟩ := getF X2 hx hZ hown (host := "") (Or.inl (hw _ (List.mem_of_getElem? (i := 16) rfl))) Via.refl e2 F_cancelled' (g := (mkL a1 m 15 #[.val (.ref a1), .val (.int p2), .val (.ref a3), .unset, .unset] [(.ref a1)])) rfl rfl (hb hby d7_15)
  refine Go.st st3 ?_
  show Go p e below _ (T3.setTop (mkL a1 m 18 #[.val (.ref a1), .val (.int p2), .val (.ref a3), .unset, .unset] [(.int (0 : Int32))]))
  refine Go.st (fun _ => XS.ifYes X3.here hx rfl (pc0 := 18) (pc' := 44) rfl (hb hby d7_18) rfl ((if0 _ _).trans (teq (by decide : (0 : Int32) = (0 : Int32))).1) (by decide) (by decide)) ?_
  show Go p e below _ (T3.setTop (mkL a1 m 44 #[.val (.ref a1), .val (.int p2), .val (.ref a3), .unset, .unset] []))
  refine Go.st (fun _ => XS.aloadN X3.here hx rfl (hb hby d7_44) rfl rfl) ?_
  show Go p e below _ (T3.setTop (mkL a1 m 45 #[.val (.ref a1), .val (.int p2), .val (.ref a3), .unset, .unset] [(.ref a1)]))
  obtain ⟨T4, X4, e4, st4⟩ := getF X3 hx hZ hown (host := "") (Or.inl (hw _ (List.mem_of_getElem? (i := 45) rfl))) Via.refl e3 F_endingBegun' (g := (mkL a1 m 45 #[.val (.ref a1), .val (.int p2), .val (.ref a3), .unset, .unset] [(.ref a1)])) rfl rfl (hb hby d7_45)
  refine Go.st st4 ?_
  show Go p e below _ (T4.setTop (mkL a1 m 48 #[.val (.ref a1), .val (.int p2), .val (.ref a3), .unset, .unset] [(.int (0 : Int32))]))
  refine Go.st (fun _ => XS.ifYes X4.here hx rfl (pc0 := 48) (pc' := 55) rfl (hb hby d7_48) rfl ((if0 _ _).trans (teq (by decide : (0 : Int32) = (0 : Int32))).1) (by decide) (by decide)) ?_
  show Go p e below _ (T4.setTop (mkL a1 m 55 #[.val (.ref a1), .val (.int p2), .val (.ref a3), .unset, .unset] []))
  refine Go.st (fun _ => XS.aloadN X4.here hx rfl (hb hby d7_55) rfl rfl) ?_
  show Go p e below _ (T4.setTop (mkL a1 m 56 #[.val (.ref a1), .val (.int p2), .val (.ref a3), .unset, .unset] [(.ref a1)]))
  obtain ⟨T5, X5, e5, st5⟩ := getF X4 hx hZ hown (host := "") (Or.inl (hw _ (List.mem_of_getElem? (i := 14) rfl))) Via.refl e4 F_claimedBy' (g := (mkL a1 m 56 #[.val (.ref a1), .val (.int p2), .val (.ref a3), .unset, .unset] [(.ref a1)])) rfl rfl (hb hby d7_56)
  refine Go.st st5 ?_
  show Go p e below _ (T5.setTop (mkL a1 m 59 #[.val (.ref a1), .val (.int p2), .val (.ref a3), .unset, .unset] [.null]))
  obtain ⟨T6, X6, e6, st6⟩ := getS2 X5 hx hZ hown (host := "") (Or.inl (hw _ (List.mem_of_getElem? (i := 47) rfl))) Via.refl e5 (oldSta O1 S_w_EXECUTE) (g := (mkL a1 m 59 #[.val (.ref a1), .val (.int p2), .val (.ref a3), .unset, .unset] [.null])) rfl (hb hby d7_59)
  refine Go.st st6 ?_
  show Go p e below _ (T6.setTop (mkL a1 m 62 #[.val (.ref a1), .val (.int p2), .val (.ref a3), .unset, .unset] [(.ref w_EXECUTE), .null]))
  refine Go.st (fun _ => fun k => Jvm.RoadKit.acmp (g := (mkL a1 m 62 #[.val (.ref a1), .val (.int p2), .val (.ref a3), .unset, .unset] [(.ref w_EXECUTE), .null])) X6 hx rfl rfl rfl (pc0 := 62) (pc' := 69) (same := false) rfl (hb hby d7_62) rfl (decide_eq_false nofun) (by decide) (by decide) k) ?_
  show Go p e below _ (T6.setTop (mkL a1 m 69 #[.val (.ref a1), .val (.int p2), .val (.ref a3), .unset, .unset] []))
  refine Go.st (fun _ => XS.iconst X6.here hx rfl (hb hby d7_69)) ?_
  show Go p e below _ (T6.setTop (mkL a1 m 70 #[.val (.ref a1), .val (.int p2), .val (.ref a3), .unset, .unset] [(.int (0 : Int32))]))
  refine Go.st (fun _ => XS.istoreN X6.here hx rfl (hb hby d7_70) rfl (l' := #[.val (.ref a1), .val (.int p2), .val (.ref a3), .val (.int (0 : Int32)), .unset]) rfl) ?_
  show Go p e below _ (T6.setTop (mkL a1 m 71 #[.val (.ref a1), .val (.int p2), .val (.ref a3), .val (.int (0 : Int32)), .unset] []))
  refine Go.st (fun _ => XS.iloadN X6.here hx rfl (hb hby d7_71) rfl) ?_
  show Go p e below _ (T6.setTop (mkL a1 m 72 #[.val (.ref a1), .val (.int p2), .val (.ref a3), .val (.int (0 : Int32)), .unset] [(.int (0 : Int32))]))
  refine Go.st (fun _ => XS.ifYes X6.here hx rfl (pc0 := 72) (pc' := 82) rfl (hb hby d7_72) rfl ((if0 _ _).trans (teq (by decide : (0 : Int32) = (0 : Int32))).1) (by decide) (by decide)) ?_
  show Go p e below _ (T6.setTop (mkL a1 m 82 #[.val (.ref a1), .val (.int p2), .val (.ref a3), .val (.int (0 : Int32)), .unset] []))
  refine Go.st (fun _ => XS.iconst X6.here hx rfl (hb hby d7_82)) ?_
  show Go p e below _ (T6.setTop (mkL a1 m 83 #[.val (.ref a1), .val (.int p2), .val (.ref a3), .val (.int (0 : Int32)), .unset] [(.int (1 : Int32))]))
  refine Go.st (fun _ => XS.goto X6.here hx rfl (pc0 := 83) (pc' := 87) rfl (hb hby d7_83) (by decide) (by decide)) ?_
  show Go p e below _ (T6.setTop (mkL a1 m 87 #[.val (.ref a1), .val (.int p2), .val (.ref a3), .val (.int (0 : Int32)), .unset] [(.int (1 : Int32))]))
  refine Go.st (fun _ => XS.istore X6.here hx rfl (hb hby d7_87) rfl (l' := #[.val (.ref a1), .val (.int p2), .val (.ref a3), .val (.int (0 : Int32)), .val (.int (1 : Int32))]) rfl) ?_
  show Go p e below _ (T6.setTop (mkL a1 m 89 #[.val (.ref a1), .val (.int p2), .val (.ref a3), .val (.int (0 : Int32)), .val (.int (1 : Int32))] []))
  refine Go.st (fun _ => XS.iload X6.here hx rfl (hb hby d7_89) rfl) ?_
  show Go p e below _ (T6.setTop (mkL a1 m 91 #[.val (.ref a1), .val (.int p2), .val (.ref a3), .val (.int (0 : Int32)), .val (.int (1 : Int32))] [(.int (1 : Int32))]))
  refine Go.st (fun _ => XS.ifNo X6.here hx rfl (hb hby d7_91) rfl ((if0 _ _).trans (feq (by decide : ¬ ((1 : Int32) = (0 : Int32)))).1)) ?_
  show Go p e below _ (T6.setTop (mkL a1 m 94 #[.val (.ref a1), .val (.int p2), .val (.ref a3), .val (.int (0 : Int32)), .val (.int (1 : Int32))] []))
  refine Go.st (fun _ => XS.aloadN X6.here hx rfl (hb hby d7_94) rfl rfl) ?_
  show Go p e below _ (T6.setTop (mkL a1 m 95 #[.val (.ref a1), .val (.int p2), .val (.ref a3), .val (.int (0 : Int32)), .val (.int (1 : Int32))] [(.ref a3)]))
  refine Go.st (fun _ => XS.ifnonnullYes X6.here hx rfl (pc0 := 95) (pc' := 102) rfl (hb hby d7_95) rfl (by decide) (by decide)) ?_
  show Go p e below _ (T6.setTop (mkL a1 m 102 #[.val (.ref a1), .val (.int p2), .val (.ref a3), .val (.int (0 : Int32)), .val (.int (1 : Int32))] []))
  refine Go.st (fun _ => XS.aloadN X6.here hx rfl (hb hby d7_102) rfl rfl) ?_
  show Go p e below _ (T6.setTop (mkL a1 m 103 #[.val (.ref a1), .val (.int p2), .val (.ref a3), .val (.int (0 : Int32)), .val (.int (1 : Int32))] [(.ref a1)]))
  refine Go.st (fun _ => XS.iconst X6.here hx rfl (hb hby d7_103)) ?_
  show Go p e below _ (T6.setTop (mkL a1 m 104 #[.val (.ref a1), .val (.int p2), .val (.ref a3), .val (.int (0 : Int32)), .val (.int (1 : Int32))] [(.int (1 : Int32)), (.ref a1)]))
  obtain ⟨T7, h7, X7, e7, W7, st7⟩ := putFN X6 hx hZ hown (hw _ (List.mem_of_getElem? (i := 16) rfl)) Via.refl e6 F_cancelled' A_a1' (Or.inl (hw _ (List.mem_of_getElem? (i := 17) rfl))) (hw _ (List.mem_of_getElem? (i := 1) rfl)) (ty := .boolean) (v' := .int (nar .boolean (1 : Int32))) (by decide) rfl (fits_nar_bool _) (g := (mkL a1 m 104 #[.val (.ref a1), .val (.int p2), .val (.ref a3), .val (.int (0 : Int32)), .val (.int (1 : Int32))] [(.int (1 : Int32)), (.ref a1)])) rfl rfl (hb hby d7_104)
  refine Go.st st7 ?_
  have O8 : Old Z n0 h7 := O1.wr W7 g_a1
  have K9 : Keep h0 h7 [a1] := K0.wr W7 (Or.inl (List.mem_of_getElem? (i := 0) rfl))
  have E_10 : Exa Z h7 a1 "com/example/sidelane/sidelane/Cancellation" := A_a1'.wr W7
  have F11 : Fld Z h7 a1 "com/example/sidelane/sidelane/Cancellation" "claimedBy" "Lcom/example/sidelane/sidelane/Cancellation$Claimant;" .null := F_claimedBy'.other W7 (Or.inr (slot_ne (Or.inl (hw _ (List.mem_of_getElem? (i := 15) rfl))) (Or.inl (hw _ (List.mem_of_getElem? (i := 17) rfl))) (by decide) (t := (.object "com/example/sidelane/sidelane/Cancellation$Claimant")) (t' := .boolean) (by decide) (by decide)))
  have F12 : Fld Z h7 a1 "com/example/sidelane/sidelane/Cancellation" "endingBegun" "Z" (.int (0 : Int32)) := F_endingBegun'.other W7 (Or.inr (slot_ne (Or.inl (hw _ (List.mem_of_getElem? (i := 46) rfl))) (Or.inl (hw _ (List.mem_of_getElem? (i := 17) rfl))) (by decide) (t := .boolean) (t' := .boolean) (by decide) (by decide)))
  have F13 : Fld Z h7 a1 "com/example/sidelane/sidelane/Cancellation" "queued" "Z" (.int (0 : Int32)) := F_queued'.other W7 (Or.inr (slot_ne (Or.inl (hw _ (List.mem_of_getElem? (i := 49) rfl))) (Or.inl (hw _ (List.mem_of_getElem? (i := 17) rfl))) (by decide) (t := .boolean) (t' := .boolean) (by decide) (by decide)))
  have F14 : Fld Z h7 a1 "com/example/sidelane/sidelane/Cancellation" "runner" "Ljava/lang/Thread;" .null := F_runner'.other W7 (Or.inr (slot_ne (Or.inl (hw _ (List.mem_of_getElem? (i := 78) rfl))) (Or.inl (hw _ (List.mem_of_getElem? (i := 17) rfl))) (by decide) (t := (.object "java/lang/Thread")) (t' := .boolean) (by decide) (by decide)))
  have F15 : Fld Z h7 a1 "com/example/sidelane/sidelane/Cancellation" "cancelEnding" "Ljava/lang/Object;" en := F_cancelEnding'.other W7 (Or.inr (slot_ne (Or.inl (hw _ (List.mem_of_getElem? (i := 56) rfl))) (Or.inl (hw _ (List.mem_of_getElem? (i := 17) rfl))) (by decide) (t := (.object "java/lang/Object")) (t' := .boolean) (by decide) (by decide)))
  have F16 : Fld Z h7 a1 "com/example/sidelane/sidelane/Cancellation" "cancelOutcome" "Lcom/example/sidelane/sidelane/Cancellation$Outcome;" oc := F_cancelOutcome'.other W7 (Or.inr (slot_ne (Or.inl (hw _ (List.mem_of_getElem? (i := 54) rfl))) (Or.inl (hw _ (List.mem_of_getElem? (i := 17) rfl))) (by decide) (t := (.object "com/example/sidelane/sidelane/Cancellation$Outcome")) (t' := .boolean) (by decide) (by decide)))
  have F17 : Fld Z h7 a1 "com/example/sidelane/sidelane/Cancellation" "cancelled" "Z" (.int (1 : Int32)) := F_cancelled'.same W7
  have N7 := Fr.snoc X7 N0 g_a1
  show Go p e below _ (T7.setTop (mkL a1 m 107 #[.val (.ref a1), .val (.int p2), .val (.ref a3), .val (.int (0 : Int32)), .val (.int (1 : Int32))] []))
  refine Go.st (fun _ => XS.iloadN X7.here hx rfl (hb hby d7_107) rfl) ?_
  show Go p e below _ (T7.setTop (mkL a1 m 108 #[.val (.ref a1), .val (.int p2), .val (.ref a3), .val (.int (0 : Int32)), .val (.int (1 : Int32))] [(.int p2)]))
  by_cases hc18 : p2 = (0 : Int32)
  · refine Go.st (fun _ => XS.ifYes X7.here hx rfl (pc0 := 108) (pc' := 125) rfl (hb hby d7_108) rfl ((if0 _ _).trans (teq hc18).1) (by decide) (by decide)) ?_
    show Go p e below _ (T7.setTop (mkL a1 m 125 #[.val (.ref a1), .val (.int p2), .val (.ref a3), .val (.int (0 : Int32)), .val (.int (1 : Int32))] []))
    refine Go.st (fun _ => XS.iloadN X7.here hx rfl (hb hby d7_125) rfl) ?_
    show Go p e below _ (T7.setTop (mkL a1 m 126 #[.val (.ref a1), .val (.int p2), .val (.ref a3), .val (.int (0 : Int32)), .val (.int (1 : Int32))] [(.int (0 : Int32))]))
    refine Go.st (fun _ => XS.ifNo X7.here hx rfl (hb hby d7_126) rfl ((if0 _ _).trans (teq (by decide : (0 : Int32) = (0 : Int32))).2)) ?_
    show Go p e below _ (T7.setTop (mkL a1 m 129 #[.val (.ref a1), .val (.int p2), .val (.ref a3), .val (.int (0 : Int32)), .val (.int (1 : Int32))] []))
    refine Go.st (fun _ => XS.aloadN X7.here hx rfl (hb hby d7_129) rfl rfl) ?_
    show Go p e below _ (T7.setTop (mkL a1 m 130 #[.val (.ref a1), .val (.int p2), .val (.ref a3), .val (.int (0 : Int32)), .val (.int (1 : Int32))] [(.ref a1)]))
    obtain ⟨T19, X19, e19, st19⟩ := getS2 X7 hx hZ hown (host := "") (Or.inl (hw _ (List.mem_of_getElem? (i := 79) rfl))) Via.refl e7 (oldSta O8 S_w_CANCELLED_UNEXECUTED) (g := (mkL a1 m 130 #[.val (.ref a1), .val (.int p2), .val (.ref a3), .val (.int (0 : Int32)), .val (.int (1 : Int32))] [(.ref a1)])) rfl (hb hby d7_130)
    refine Go.st st19 ?_
    show Go p e below _ (T19.setTop (mkL a1 m 133 #[.val (.ref a1), .val (.int p2), .val (.ref a3), .val (.int (0 : Int32)), .val (.int (1 : Int32))] [(.ref w_CANCELLED_UNEXECUTED), (.ref a1)]))
    obtain ⟨T20, h20, X20, e20, W20, st20⟩ := putF X19 hx hZ hown (host := "") (Or.inl (hw _ (List.mem_of_getElem? (i := 53) rfl))) Via.refl e19 F16 E_10 (Or.inl (hw _ (List.mem_of_getElem? (i := 54) rfl))) (hw _ (List.mem_of_getElem? (i := 1) rfl)) (ty := (.object "com/example/sidelane/sidelane/Cancellation$Outcome")) (by decide) rfl rfl (g := (mkL a1 m 133 #[.val (.ref a1), .val (.int p2), .val (.ref a3), .val (.int (0 : Int32)), .val (.int (1 : Int32))] [(.ref w_CANCELLED_UNEXECUTED), (.ref a1)])) rfl rfl (hb hby d7_133)
    refine Go.st st20 ?_
    have O21 : Old Z n0 h20 := O8.wr W20 g_a1
    have K22 : Keep h0 h20 [a1] := K9.wr W20 (Or.inl (List.mem_of_getElem? (i := 0) rfl))
    have E_23 : Exa Z h20 a1 "com/example/sidelane/sidelane/Cancellation" := E_10.wr W20
    have F24 : Fld Z h20 a1 "com/example/sidelane/sidelane/Cancellation" "claimedBy" "Lcom/example/sidelane/sidelane/Cancellation$Claimant;" .null := F11.other W20 (Or.inr (slot_ne (Or.inl (hw _ (List.mem_of_getElem? (i := 15) rfl))) (Or.inl (hw _ (List.mem_of_getElem? (i := 54) rfl))) (by decide) (t := (.object "com/example/sidelane/sidelane/Cancellation$Claimant")) (t' := (.object "com/example/sidelane/sidelane/Cancellation$Outcome")) (by decide) (by decide)))
    have F25 : Fld Z h20 a1 "com/example/sidelane/sidelane/Cancellation" "endingBegun" "Z" (.int (0 : Int32)) := F12.other W20 (Or.inr (slot_ne (Or.inl (hw _ (List.mem_of_getElem? (i := 46) rfl))) (Or.inl (hw _ (List.mem_of_getElem? (i := 54) rfl))) (by decide) (t := .boolean) (t' := (.object "com/example/sidelane/sidelane/Cancellation$Outcome")) (by decide) (by decide)))
    have F26 : Fld Z h20 a1 "com/example/sidelane/sidelane/Cancellation" "queued" "Z" (.int (0 : Int32)) := F13.other W20 (Or.inr (slot_ne (Or.inl (hw _ (List.mem_of_getElem? (i := 49) rfl))) (Or.inl (hw _ (List.mem_of_getElem? (i := 54) rfl))) (by decide) (t := .boolean) (t' := (.object "com/example/sidelane/sidelane/Cancellation$Outcome")) (by decide) (by decide)))
    have F27 : Fld Z h20 a1 "com/example/sidelane/sidelane/Cancellation" "runner" "Ljava/lang/Thread;" .null := F14.other W20 (Or.inr (slot_ne (Or.inl (hw _ (List.mem_of_getElem? (i := 78) rfl))) (Or.inl (hw _ (List.mem_of_getElem? (i := 54) rfl))) (by decide) (t := (.object "java/lang/Thread")) (t' := (.object "com/example/sidelane/sidelane/Cancellation$Outcome")) (by decide) (by decide)))
    have F28 : Fld Z h20 a1 "com/example/sidelane/sidelane/Cancellation" "cancelEnding" "Ljava/lang/Object;" en := F15.other W20 (Or.inr (slot_ne (Or.inl (hw _ (List.mem_of_getElem? (i := 56) rfl))) (Or.inl (hw _ (List.mem_of_getElem? (i := 54) rfl))) (by decide) (t := (.object "java/lang/Object")) (t' := (.object "com/example/sidelane/sidelane/Cancellation$Outcome")) (by decide) (by decide)))
    have F29 : Fld Z h20 a1 "com/example/sidelane/sidelane/Cancellation" "cancelled" "Z" (.int (1 : Int32)) := F17.other W20 (Or.inr (slot_ne (Or.inl (hw _ (List.mem_of_getElem? (i := 17) rfl))) (Or.inl (hw _ (List.mem_of_getElem? (i := 54) rfl))) (by decide) (t := .boolean) (t' := (.object "com/example/sidelane/sidelane/Cancellation$Outcome")) (by decide) (by decide)))
    have F30 : Fld Z h20 a1 "com/example/sidelane/sidelane/Cancellation" "cancelOutcome" "Lcom/example/sidelane/sidelane/Cancellation$Outcome;" (.ref w_CANCELLED_UNEXECUTED) := F16.same W20
    have N20 := Fr.snoc X20 N7 g_a1
    show Go p e below _ (T20.setTop (mkL a1 m 136 #[.val (.ref a1), .val (.int p2), .val (.ref a3), .val (.int (0 : Int32)), .val (.int (1 : Int32))] []))
    refine Go.st (fun _ => XS.goto X20.here hx rfl (pc0 := 136) (pc' := 163) rfl (hb hby d7_136) (by decide) (by decide)) ?_
    show Go p e below _ (T20.setTop (mkL a1 m 163 #[.val (.ref a1), .val (.int p2), .val (.ref a3), .val (.int (0 : Int32)), .val (.int (1 : Int32))] []))
    refine Go.st (fun _ => XS.aloadN X20.here hx rfl (hb hby d7_163) rfl rfl) ?_
    show Go p e below _ (T20.setTop (mkL a1 m 164 #[.val (.ref a1), .val (.int p2), .val (.ref a3), .val (.int (0 : Int32)), .val (.int (1 : Int32))] [(.ref a1)]))
    refine Go.st (fun _ => XS.aloadN X20.here hx rfl (hb hby d7_164) rfl rfl) ?_
    show Go p e below _ (T20.setTop (mkL a1 m 165 #[.val (.ref a1), .val (.int p2), .val (.ref a3), .val (.int (0 : Int32)), .val (.int (1 : Int32))] [(.ref a3), (.ref a1)]))
    obtain ⟨T31, h31, X31, e31, W31, st31⟩ := putF X20 hx hZ hown (host := "") (Or.inl (hw _ (List.mem_of_getElem? (i := 55) rfl))) Via.refl e20 F28 E_23 (Or.inl (hw _ (List.mem_of_getElem? (i := 56) rfl))) (hw _ (List.mem_of_getElem? (i := 1) rfl)) (ty := (.object "java/lang/Object")) (by decide) rfl rfl (g := (mkL a1 m 165 #[.val (.ref a1), .val (.int p2), .val (.ref a3), .val (.int (0 : Int32)), .val (.int (1 : Int32))] [(.ref a3), (.ref a1)])) rfl rfl (hb hby d7_165)
    refine Go.st st31 ?_
    have O32 : Old Z n0 h31 := O21.wr W31 g_a1
    have K33 : Keep h0 h31 [a1] := K22.wr W31 (Or.inl (List.mem_of_getElem? (i := 0) rfl))
    have E_34 : Exa Z h31 a1 "com/example/sidelane/sidelane/Cancellation" := E_23.wr W31
    have F35 : Fld Z h31 a1 "com/example/sidelane/sidelane/Cancellation" "claimedBy" "Lcom/example/sidelane/sidelane/Cancellation$Claimant;" .null := F24.other W31 (Or.inr (slot_ne (Or.inl (hw _ (List.mem_of_getElem? (i := 15) rfl))) (Or.inl (hw _ (List.mem_of_getElem? (i := 56) rfl))) (by decide) (t := (.object "com/example/sidelane/sidelane/Cancellation$Claimant")) (t' := (.object "java/lang/Object")) (by decide) (by decide)))
    have F36 : Fld Z h31 a1 "com/example/sidelane/sidelane/Cancellation" "endingBegun" "Z" (.int (0 : Int32)) := F25.other W31 (Or.inr (slot_ne (Or.inl (hw _ (List.mem_of_getElem? (i := 46) rfl))) (Or.inl (hw _ (List.mem_of_getElem? (i := 56) rfl))) (by decide) (t := .boolean) (t' := (.object "java/lang/Object")) (by decide) (by decide)))
    have F37 : Fld Z h31 a1 "com/example/sidelane/sidelane/Cancellation" "queued" "Z" (.int (0 : Int32)) := F26.other W31 (Or.inr (slot_ne (Or.inl (hw _ (List.mem_of_getElem? (i := 49) rfl))) (Or.inl (hw _ (List.mem_of_getElem? (i := 56) rfl))) (by decide) (t := .boolean) (t' := (.object "java/lang/Object")) (by decide) (by decide)))
    have F38 : Fld Z h31 a1 "com/example/sidelane/sidelane/Cancellation" "runner" "Ljava/lang/Thread;" .null := F27.other W31 (Or.inr (slot_ne (Or.inl (hw _ (List.mem_of_getElem? (i := 78) rfl))) (Or.inl (hw _ (List.mem_of_getElem? (i := 56) rfl))) (by decide) (t := (.object "java/lang/Thread")) (t' := (.object "java/lang/Object")) (by decide) (by decide)))
    have F39 : Fld Z h31 a1 "com/example/sidelane/sidelane/Cancellation" "cancelled" "Z" (.int (1 : Int32)) := F29.other W31 (Or.inr (slot_ne (Or.inl (hw _ (List.mem_of_getElem? (i := 17) rfl))) (Or.inl (hw _ (List.mem_of_getElem? (i := 56) rfl))) (by decide) (t := .boolean) (t' := (.object "java/lang/Object")) (by decide) (by decide)))
    have F40 : Fld Z h31 a1 "com/example/sidelane/sidelane/Cancellation" "cancelOutcome" "Lcom/example/sidelane/sidelane/Cancellation$Outcome;" (.ref w_CANCELLED_UNEXECUTED) := F30.other W31 (Or.inr (slot_ne (Or.inl (hw _ (List.mem_of_getElem? (i := 54) rfl))) (Or.inl (hw _ (List.mem_of_getElem? (i := 56) rfl))) (by decide) (t := (.object "com/example/sidelane/sidelane/Cancellation$Outcome")) (t' := (.object "java/lang/Object")) (by decide) (by decide)))
    have F41 : Fld Z h31 a1 "com/example/sidelane/sidelane/Cancellation" "cancelEnding" "Ljava/lang/Object;" (.ref a3) := F28.same W31
    have N31 := Fr.snoc X31 N20 g_a1
    show Go p e below _ (T31.setTop (mkL a1 m 168 #[.val (.ref a1), .val (.int p2), .val (.ref a3), .val (.int (0 : Int32)), .val (.int (1 : Int32))] []))
    refine Go.st (fun _ => XS.aloadN X31.here hx rfl (hb hby d7_168) rfl rfl) ?_
    show Go p e below _ (T31.setTop (mkL a1 m 169 #[.val (.ref a1), .val (.int p2), .val (.ref a3), .val (.int (0 : Int32)), .val (.int (1 : Int32))] [(.ref a1)]))
    obtain ⟨T42, X42, e42, st42⟩ := getF X31 hx hZ hown (host := "") (Or.inl (hw _ (List.mem_of_getElem? (i := 53) rfl))) Via.refl e31 F40 (g := (mkL a1 m 169 #[.val (.ref a1), .val (.int p2), .val (.ref a3), .val (.int (0 : Int32)), .val (.int (1 : Int32))] [(.ref a1)])) rfl rfl (hb hby d7_169)
    refine Go.st st42 ?_
    show Go p e below _ (T42.setTop (mkL a1 m 172 #[.val (.ref a1), .val (.int p2), .val (.ref a3), .val (.int (0 : Int32)), .val (.int (1 : Int32))] [(.ref w_CANCELLED_UNEXECUTED)]))
    refine goRetS (v := some (.ref w_CANCELLED_UNEXECUTED)) X42 hs hcell hmon hlk (fun h => by rw [hret] at h; cases h) e42 (fun V hV => retS X42 hx hret rfl (Or.inr (Or.inr (Or.inr (Or.inr ⟨rfl, rfl, rfl⟩)))) (hb hby d7_172) hV) (by decide) (by decide) (fun h' M' K' hm' => ?_)
    exact ⟨⟨_, rfl⟩, N31, (K33.trans K' (allS (Or.inl (List.mem_singleton_self _)) all0)), ⟨(E_34.mon M'), (untEnd U0 (K33.trans K' (allS (Or.inl (List.mem_singleton_self _)) all0)) hm'), (F35.mon M'), (F39.mon M'), (F36.mon M'), (F37.mon M'), (F38.mon M'), (F41.mon M'), (F40.mon M')⟩⟩
  · refine Go.st (fun _ => XS.ifNo X7.here hx rfl (hb hby d7_108) rfl ((if0 _ _).trans (feq hc18).1)) ?_
    show Go p e below _ (T7.setTop (mkL a1 m 111 #[.val (.ref a1), .val (.int p2), .val (.ref a3), .val (.int (0 : Int32)), .val (.int (1 : Int32))] []))
    refine Go.st (fun _ => XS.aloadN X7.here hx rfl (hb hby d7_111) rfl rfl) ?_
    show Go p e below _ (T7.setTop (mkL a1 m 112 #[.val (.ref a1), .val (.int p2), .val (.ref a3), .val (.int (0 : Int32)), .val (.int (1 : Int32))] [(.ref a1)]))
    obtain ⟨T43, X43, e43, st43⟩ := getF X7 hx hZ hown (host := "") (Or.inl (hw _ (List.mem_of_getElem? (i := 77) rfl))) Via.refl e7 F14 (g := (mkL a1 m 112 #[.val (.ref a1), .val (.int p2), .val (.ref a3), .val (.int (0 : Int32)), .val (.int (1 : Int32))] [(.ref a1)])) rfl rfl (hb hby d7_112)
    refine Go.st st43 ?_
    show Go p e below _ (T43.setTop (mkL a1 m 115 #[.val (.ref a1), .val (.int p2), .val (.ref a3), .val (.int (0 : Int32)), .val (.int (1 : Int32))] [.null]))
    refine Go.st (fun _ => XS.ifnullYes X43.here hx rfl (pc0 := 115) (pc' := 125) rfl (hb hby d7_115) rfl (by decide) (by decide)) ?_
    show Go p e below _ (T43.setTop (mkL a1 m 125 #[.val (.ref a1), .val (.int p2), .val (.ref a3), .val (.int (0 : Int32)), .val (.int (1 : Int32))] []))
    refine Go.st (fun _ => XS.iloadN X43.here hx rfl (hb hby d7_125) rfl) ?_
    show Go p e below _ (T43.setTop (mkL a1 m 126 #[.val (.ref a1), .val (.int p2), .val (.ref a3), .val (.int (0 : Int32)), .val (.int (1 : Int32))] [(.int (0 : Int32))]))
    refine Go.st (fun _ => XS.ifNo X43.here hx rfl (hb hby d7_126) rfl ((if0 _ _).trans (teq (by decide : (0 : Int32) = (0 : Int32))).2)) ?_
    show Go p e below _ (T43.setTop (mkL a1 m 129 #[.val (.ref a1), .val (.int p2), .val (.ref a3), .val (.int (0 : Int32)), .val (.int (1 : Int32))] []))
    refine Go.st (fun _ => XS.aloadN X43.here hx rfl (hb hby d7_129) rfl rfl) ?_
    show Go p e below _ (T43.setTop (mkL a1 m 130 #[.val (.ref a1), .val (.int p2), .val (.ref a3), .val (.int (0 : Int32)), .val (.int (1 : Int32))] [(.ref a1)]))
    obtain ⟨T44, X44, e44, st44⟩ := getS2 X43 hx hZ hown (host := "") (Or.inl (hw _ (List.mem_of_getElem? (i := 79) rfl))) Via.refl e43 (oldSta O8 S_w_CANCELLED_UNEXECUTED) (g := (mkL a1 m 130 #[.val (.ref a1), .val (.int p2), .val (.ref a3), .val (.int (0 : Int32)), .val (.int (1 : Int32))] [(.ref a1)])) rfl (hb hby d7_130)
    refine Go.st st44 ?_
    show Go p e below _ (T44.setTop (mkL a1 m 133 #[.val (.ref a1), .val (.int p2), .val (.ref a3), .val (.int (0 : Int32)), .val (.int (1 : Int32))] [(.ref w_CANCELLED_UNEXECUTED), (.ref a1)]))
    obtain ⟨T45, h45, X45, e45, W45, st45⟩ := putF X44 hx hZ hown (host := "") (Or.inl (hw _ (List.mem_of_getElem? (i := 53) rfl))) Via.refl e44 F16 E_10 (Or.inl (hw _ (List.mem_of_getElem? (i := 54) rfl))) (hw _ (List.mem_of_getElem? (i := 1) rfl)) (ty := (.object "com/example/sidelane/sidelane/Cancellation$Outcome")) (by decide) rfl rfl (g := (mkL a1 m 133 #[.val (.ref a1), .val (.int p2), .val (.ref a3), .val (.int (0 : Int32)), .val (.int (1 : Int32))] [(.ref w_CANCELLED_UNEXECUTED), (.ref a1)])) rfl rfl (hb hby d7_133)
    refine Go.st st45 ?_
    have O46 : Old Z n0 h45 := O8.wr W45 g_a1
    have K47 : Keep h0 h45 [a1] := K9.wr W45 (Or.inl (List.mem_of_getElem? (i := 0) rfl))
    have E_48 : Exa Z h45 a1 "com/example/sidelane/sidelane/Cancellation" := E_10.wr W45
    have F49 : Fld Z h45 a1 "com/example/sidelane/sidelane/Cancellation" "claimedBy" "Lcom/example/sidelane/sidelane/Cancellation$Claimant;" .null := F11.other W45 (Or.inr (slot_ne (Or.inl (hw _ (List.mem_of_getElem? (i := 15) rfl))) (Or.inl (hw _ (List.mem_of_getElem? (i := 54) rfl))) (by decide) (t := (.object "com/example/sidelane/sidelane/Cancellation$Claimant")) (t' := (.object "com/example/sidelane/sidelane/Cancellation$Outcome")) (by decide) (by decide)))
    have F50 : Fld Z h45 a1 "com/example/sidelane/sidelane/Cancellation" "endingBegun" "Z" (.int (0 : Int32)) := F12.other W45 (Or.inr (slot_ne (Or.inl (hw _ (List.mem_of_getElem? (i := 46) rfl))) (Or.inl (hw _ (List.mem_of_getElem? (i := 54) rfl))) (by decide) (t := .boolean) (t' := (.object "com/example/sidelane/sidelane/Cancellation$Outcome")) (by decide) (by decide)))
    have F51 : Fld Z h45 a1 "com/example/sidelane/sidelane/Cancellation" "queued" "Z" (.int (0 : Int32)) := F13.other W45 (Or.inr (slot_ne (Or.inl (hw _ (List.mem_of_getElem? (i := 49) rfl))) (Or.inl (hw _ (List.mem_of_getElem? (i := 54) rfl))) (by decide) (t := .boolean) (t' := (.object "com/example/sidelane/sidelane/Cancellation$Outcome")) (by decide) (by decide)))
    have F52 : Fld Z h45 a1 "com/example/sidelane/sidelane/Cancellation" "runner" "Ljava/lang/Thread;" .null := F14.other W45 (Or.inr (slot_ne (Or.inl (hw _ (List.mem_of_getElem? (i := 78) rfl))) (Or.inl (hw _ (List.mem_of_getElem? (i := 54) rfl))) (by decide) (t := (.object "java/lang/Thread")) (t' := (.object "com/example/sidelane/sidelane/Cancellation$Outcome")) (by decide) (by decide)))
    have F53 : Fld Z h45 a1 "com/example/sidelane/sidelane/Cancellation" "cancelEnding" "Ljava/lang/Object;" en := F15.other W45 (Or.inr (slot_ne (Or.inl (hw _ (List.mem_of_getElem? (i := 56) rfl))) (Or.inl (hw _ (List.mem_of_getElem? (i := 54) rfl))) (by decide) (t := (.object "java/lang/Object")) (t' := (.object "com/example/sidelane/sidelane/Cancellation$Outcome")) (by decide) (by decide)))
    have F54 : Fld Z h45 a1 "com/example/sidelane/sidelane/Cancellation" "cancelled" "Z" (.int (1 : Int32)) := F17.other W45 (Or.inr (slot_ne (Or.inl (hw _ (List.mem_of_getElem? (i := 17) rfl))) (Or.inl (hw _ (List.mem_of_getElem? (i := 54) rfl))) (by decide) (t := .boolean) (t' := (.object "com/example/sidelane/sidelane/Cancellation$Outcome")) (by decide) (by decide)))
    have F55 : Fld Z h45 a1 "com/example/sidelane/sidelane/Cancellation" "cancelOutcome" "Lcom/example/sidelane/sidelane/Cancellation$Outcome;" (.ref w_CANCELLED_UNEXECUTED) := F16.same W45
    have N45 := Fr.snoc X45 N7 g_a1
    show Go p e below _ (T45.setTop (mkL a1 m 136 #[.val (.ref a1), .val (.int p2), .val (.ref a3), .val (.int (0 : Int32)), .val (.int (1 : Int32))] []))
    refine Go.st (fun _ => XS.goto X45.here hx rfl (pc0 := 136) (pc' := 163) rfl (hb hby d7_136) (by decide) (by decide)) ?_
    show Go p e below _ (T45.setTop (mkL a1 m 163 #[.val (.ref a1), .val (.int p2), .val (.ref a3), .val (.int (0 : Int32)), .val (.int (1 : Int32))] []))
    refine Go.st (fun _ => XS.aloadN X45.here hx rfl (hb hby d7_163) rfl rfl) ?_
    show Go p e below _ (T45.setTop (mkL a1 m 164 #[.val (.ref a1), .val (.int p2), .val (.ref a3), .val (.int (0 : Int32)), .val (.int (1 : Int32))] [(.ref a1)]))
    refine Go.st (fun _ => XS.aloadN X45.here hx rfl (hb hby d7_164) rfl rfl) ?_
    show Go p e below _ (T45.setTop (mkL a1 m 165 #[.val (.ref a1), .val (.int p2), .val (.ref a3), .val (.int (0 : Int32)), .val (.int (1 : Int32))] [(.ref a3), (.ref a1)]))
    obtain ⟨T56, h56, X56, e56, W56, st56⟩ := putF X45 hx hZ hown (host := "") (Or.inl (hw _ (List.mem_of_getElem? (i := 55) rfl))) Via.refl e45 F53 E_48 (Or.inl (hw _ (List.mem_of_getElem? (i := 56) rfl))) (hw _ (List.mem_of_getElem? (i := 1) rfl)) (ty := (.object "java/lang/Object")) (by decide) rfl rfl (g := (mkL a1 m 165 #[.val (.ref a1), .val (.int p2), .val (.ref a3), .val (.int (0 : Int32)), .val (.int (1 : Int32))] [(.ref a3), (.ref a1)])) rfl rfl (hb hby d7_165)
    refine Go.st st56 ?_
    have O57 : Old Z n0 h56 := O46.wr W56 g_a1
    have K58 : Keep h0 h56 [a1] := K47.wr W56 (Or.inl (List.mem_of_getElem? (i := 0) rfl))
    have E_59 : Exa Z h56 a1 "com/example/sidelane/sidelane/Cancellation" := E_48.wr W56
    have F60 : Fld Z h56 a1 "com/example/sidelane/sidelane/Cancellation" "claimedBy" "Lcom/example/sidelane/sidelane/Cancellation$Claimant;" .null := F49.other W56 (Or.inr (slot_ne (Or.inl (hw _ (List.mem_of_getElem? (i := 15) rfl))) (Or.inl (hw _ (List.mem_of_getElem? (i := 56) rfl))) (by decide) (t := (.object "com/example/sidelane/sidelane/Cancellation$Claimant")) (t' := (.object "java/lang/Object")) (by decide) (by decide)))
    have F61 : Fld Z h56 a1 "com/example/sidelane/sidelane/Cancellation" "endingBegun" "Z" (.int (0 : Int32)) := F50.other W56 (Or.inr (slot_ne (Or.inl (hw _ (List.mem_of_getElem? (i := 46) rfl))) (Or.inl (hw _ (List.mem_of_getElem? (i := 56) rfl))) (by decide) (t := .boolean) (t' := (.object "java/lang/Object")) (by decide) (by decide)))
    have F62 : Fld Z h56 a1 "com/example/sidelane/sidelane/Cancellation" "queued" "Z" (.int (0 : Int32)) := F51.other W56 (Or.inr (slot_ne (Or.inl (hw _ (List.mem_of_getElem? (i := 49) rfl))) (Or.inl (hw _ (List.mem_of_getElem? (i := 56) rfl))) (by decide) (t := .boolean) (t' := (.object "java/lang/Object")) (by decide) (by decide)))
    have F63 : Fld Z h56 a1 "com/example/sidelane/sidelane/Cancellation" "runner" "Ljava/lang/Thread;" .null := F52.other W56 (Or.inr (slot_ne (Or.inl (hw _ (List.mem_of_getElem? (i := 78) rfl))) (Or.inl (hw _ (List.mem_of_getElem? (i := 56) rfl))) (by decide) (t := (.object "java/lang/Thread")) (t' := (.object "java/lang/Object")) (by decide) (by decide)))
    have F64 : Fld Z h56 a1 "com/example/sidelane/sidelane/Cancellation" "cancelled" "Z" (.int (1 : Int32)) := F54.other W56 (Or.inr (slot_ne (Or.inl (hw _ (List.mem_of_getElem? (i := 17) rfl))) (Or.inl (hw _ (List.mem_of_getElem? (i := 56) rfl))) (by decide) (t := .boolean) (t' := (.object "java/lang/Object")) (by decide) (by decide)))
    have F65 : Fld Z h56 a1 "com/example/sidelane/sidelane/Cancellation" "cancelOutcome" "Lcom/example/sidelane/sidelane/Cancellation$Outcome;" (.ref w_CANCELLED_UNEXECUTED) := F55.other W56 (Or.inr (slot_ne (Or.inl (hw _ (List.mem_of_getElem? (i := 54) rfl))) (Or.inl (hw _ (List.mem_of_getElem? (i := 56) rfl))) (by decide) (t := (.object "com/example/sidelane/sidelane/Cancellation$Outcome")) (t' := (.object "java/lang/Object")) (by decide) (by decide)))
    have F66 : Fld Z h56 a1 "com/example/sidelane/sidelane/Cancellation" "cancelEnding" "Ljava/lang/Object;" (.ref a3) := F53.same W56
    have N56 := Fr.snoc X56 N45 g_a1
    show Go p e below _ (T56.setTop (mkL a1 m 168 #[.val (.ref a1), .val (.int p2), .val (.ref a3), .val (.int (0 : Int32)), .val (.int (1 : Int32))] []))
    refine Go.st (fun _ => XS.aloadN X56.here hx rfl (hb hby d7_168) rfl rfl) ?_
    show Go p e below _ (T56.setTop (mkL a1 m 169 #[.val (.ref a1), .val (.int p2), .val (.ref a3), .val (.int (0 : Int32)), .val (.int (1 : Int32))] [(.ref a1)]))
    obtain ⟨T67, X67, e67, st67⟩ := getF X56 hx hZ hown (host := "") (Or.inl (hw _ (List.mem_of_getElem? (i := 53) rfl))) Via.refl e56 F65 (g := (mkL a1 m 169 #[.val (.ref a1), .val (.int p2), .val (.ref a3), .val (.int (0 : Int32)), .val (.int (1 : Int32))] [(.ref a1)])) rfl rfl (hb hby d7_169)
    refine Go.st st67 ?_
    show Go p e below _ (T67.setTop (mkL a1 m 172 #[.val (.ref a1), .val (.int p2), .val (.ref a3), .val (.int (0 : Int32)), .val (.int (1 : Int32))] [(.ref w_CANCELLED_UNEXECUTED)]))
    refine goRetS (v := some (.ref w_CANCELLED_UNEXECUTED)) X67 hs hcell hmon hlk (fun h => by rw [hret] at h; cases h) e67 (fun V hV => retS X67 hx hret rfl (Or.inr (Or.inr (Or.inr (Or.inr ⟨rfl, rfl, rfl⟩)))) (hb hby d7_172) hV) (by decide) (by decide) (fun h' M' K' hm' => ?_)
    exact ⟨⟨_, rfl⟩, N56, (K58.trans K' (allS (Or.inl (List.mem_singleton_self _)) all0)), ⟨(E_59.mon M'), (untEnd U0 (K58.trans K' (allS (Or.inl (List.mem_singleton_self _)) all0)) hm'), (F60.mon M'), (F64.mon M'), (F61.mon M'), (F62.mon M'), (F63.mon M'), (F66.mon M'), (F65.mon M')⟩⟩
set_option maxRecDepth 65536 in
set_option maxHeartbeats 40000000 in
theorem rmIC (l : Launch) (Z : State) (a0 : Array Value) (hw : ∀ d ∈ tables_1, d.before a0 Z = true) (ws : List Jvm.Cond) (a1 : Addr) (p2 : Int32) (w_EXECUTE w_ADOPTER : Addr) (h0 : Heap) (n0 : Nat) (O0 : Old Z n0 h0) (INV : own_inv Z h0 a1 p2 w_EXECUTE w_ADOPTER) :
    Ctr l (⟨"com/example/sidelane/sidelane/Cancellation", "isClaimed", "()Z"⟩ : MethodName) prog_3_method_5_code 1 (some .boolean) ws ({ frames := 0, cells := 0, slots := 0, locals := 0 } : Room) #[(.ref a1)] Z h0 (fun v h L => v = some (.int (if p2 = 0 then 0 else 1)) ∧ Fr n0 L ∧ h = h0) := by
  have ef : ∀ m : MethodId, entryFrame m #[(.ref a1)] 1 = mkF m 0 #[.val (.ref a1)] [] := fun m => by first | (simp [entryFrame, mkF, argsToLocals, Value.category]; done) | rfl
  refine Ctr.of (plainFor_of_name pn_3) ?_
  intro p e s m below meth c s₁ hx hZ hby hml hown0 hnm hret hlk X0 e0
  have hown : s.vm.findClass "com/example/sidelane/sidelane/Cancellation" = some m.cls := hown0
  have N0 := Fr.nil n0
  refine Go.st (fun t k => castTop (ef m) k) ?_
  show Go p e below _ (s₁.setTop (mkF m 0 #[.val (.ref a1)] []))
  obtain ⟨cb, en, oc, z, OBx, hst⟩ := INV
  obtain ⟨Eb, Ub, Fb0, Fb1, Fb2, Fb3, Fb4, Fb5, Fb6⟩ := OBx
  rcases hst with ⟨rfl, rfl, rfl⟩ | ⟨rfl, rfl, rfl⟩ | ⟨rfl, rfl, rfl⟩ | ⟨rfl, rfl, rfl, hen, ⟨a6, rfl⟩⟩ | ⟨rfl, rfl, rfl, hen, ⟨a6, rfl⟩⟩
  · show Go p e below _ (s₁.setTop (mkF m 0 #[.val (.ref a1)] []))
    refine Go.st (fun _ => XS.aloadN X0.here hx rfl (hb hby d3_0) rfl rfl) ?_
    show Go p e below _ (s₁.setTop (mkF m 1 #[.val (.ref a1)] [(.ref a1)]))
    obtain ⟨T1, X1, e1, st1⟩ := getF X0 hx hZ hown (host := "") (Or.inl (hw _ (List.mem_of_getElem? (i := 14) rfl))) Via.refl e0 Fb0 (g := (mkF m 1 #[.val (.ref a1)] [(.ref a1)])) rfl rfl (hb hby d3_1)
    refine Go.st st1 ?_
    show Go p e below _ (T1.setTop (mkF m 4 #[.val (.ref a1)] [.null]))
    refine Go.st (fun _ => XS.ifnonnullNo X1.here hx rfl (hb hby d3_4) rfl) ?_
    show Go p e below _ (T1.setTop (mkF m 7 #[.val (.ref a1)] []))
    refine Go.st (fun _ => XS.aloadN X1.here hx rfl (hb hby d3_7) rfl rfl) ?_
    show Go p e below _ (T1.setTop (mkF m 8 #[.val (.ref a1)] [(.ref a1)]))
    obtain ⟨T2, X2, e2, st2⟩ := getF X1 hx hZ hown (host := "") (Or.inl (hw _ (List.mem_of_getElem? (i := 16) rfl))) Via.refl e1 Fb1 (g := (mkF m 8 #[.val (.ref a1)] [(.ref a1)])) rfl rfl (hb hby d3_8)
    refine Go.st st2 ?_
    show Go p e below _ (T2.setTop (mkF m 11 #[.val (.ref a1)] [(.int (0 : Int32))]))
    refine Go.st (fun _ => XS.ifYes X2.here hx rfl (pc0 := 11) (pc' := 18) rfl (hb hby d3_11) rfl ((if0 _ _).trans (teq (by decide : (0 : Int32) = (0 : Int32))).1) (by decide) (by decide)) ?_
    show Go p e below _ (T2.setTop (mkF m 18 #[.val (.ref a1)] []))
    refine Go.st (fun _ => XS.iconst X2.here hx rfl (hb hby d3_18)) ?_
    show Go p e below _ (T2.setTop (mkF m 19 #[.val (.ref a1)] [(.int (0 : Int32))]))
    exact goRetN X2 hx hlk hret (t := .boolean) (by simp) (w := (0 : Int32)) (by decide) e2 (hb hby d3_19) (by decide) (by decide) ⟨by simp, N0, rfl⟩
  · show Go p e below _ (s₁.setTop (mkF m 0 #[.val (.ref a1)] []))
    refine Go.st (fun _ => XS.aloadN X0.here hx rfl (hb hby d3_0) rfl rfl) ?_
    show Go p e below _ (s₁.setTop (mkF m 1 #[.val (.ref a1)] [(.ref a1)]))
    obtain ⟨T3, X3, e3, st3⟩ := getF X0 hx hZ hown (host := "") (Or.inl (hw _ (List.mem_of_getElem? (i := 14) rfl))) Via.refl e0 Fb0 (g := (mkF m 1 #[.val (.ref a1)] [(.ref a1)])) rfl rfl (hb hby d3_1)
    refine Go.st st3 ?_
    show Go p e below _ (T3.setTop (mkF m 4 #[.val (.ref a1)] [(.ref w_EXECUTE)]))
    refine Go.st (fun _ => XS.ifnonnullYes X3.here hx rfl (pc0 := 4) (pc' := 14) rfl (hb hby d3_4) rfl (by decide) (by decide)) ?_
    show Go p e below _ (T3.setTop (mkF m 14 #[.val (.ref a1)] []))
    refine Go.st (fun _ => XS.iconst X3.here hx rfl (hb hby d3_14)) ?_
    show Go p e below _ (T3.setTop (mkF m 15 #[.val (.ref a1)] [(.int (1 : Int32))]))
    refine Go.st (fun _ => XS.goto X3.here hx rfl (pc0 := 15) (pc' := 19) rfl (hb hby d3_15) (by decide) (by decide)) ?_
    show Go p e below _ (T3.setTop (mkF m 19 #[.val (.ref a1)] [(.int (1 : Int32))]))
    exact goRetN X3 hx hlk hret (t := .boolean) (by simp) (w := (1 : Int32)) (by decide) e3 (hb hby d3_19) (by decide) (by decide) ⟨by simp, N0, rfl⟩
  · show Go p e below _ (s₁.setTop (mkF m 0 #[.val (.ref a1)] []))
    refine Go.st (fun _ => XS.aloadN X0.here hx rfl (hb hby d3_0) rfl rfl) ?_
    show Go p e below _ (s₁.setTop (mkF m 1 #[.val (.ref a1)] [(.ref a1)]))
    obtain ⟨T4, X4, e4, st4⟩ := getF X0 hx hZ hown (host := "") (Or.inl (hw _ (List.mem_of_getElem? (i := 14) rfl))) Via.refl e0 Fb0 (g := (mkF m 1 #[.val (.ref a1)] [(.ref a1)])) rfl rfl (hb hby d3_1)
    refine Go.st st4 ?_
    show Go p e below _ (T4.setTop (mkF m 4 #[.val (.ref a1)] [(.ref w_ADOPTER)]))
    refine Go.st (fun _ => XS.ifnonnullYes X4.here hx rfl (pc0 := 4) (pc' := 14) rfl (hb hby d3_4) rfl (by decide) (by decide)) ?_
    show Go p e below _ (T4.setTop (mkF m 14 #[.val (.ref a1)] []))
    refine Go.st (fun _ => XS.iconst X4.here hx rfl (hb hby d3_14)) ?_
    show Go p e below _ (T4.setTop (mkF m 15 #[.val (.ref a1)] [(.int (1 : Int32))]))
    refine Go.st (fun _ => XS.goto X4.here hx rfl (pc0 := 15) (pc' := 19) rfl (hb hby d3_15) (by decide) (by decide)) ?_
    show Go p e below _ (T4.setTop (mkF m 19 #[.val (.ref a1)] [(.int (1 : Int32))]))
    exact goRetN X4 hx hlk hret (t := .boolean) (by simp) (w := (1 : Int32)) (by decide) e4 (hb hby d3_19) (by decide) (by decide) ⟨by simp, N0, rfl⟩
  · show Go p e below _ (s₁.setTop (mkF m 0 #[.val (.ref a1)] []))
    refine Go.st (fun _ => XS.aloadN X0.here hx rfl (hb hby d3_0) rfl rfl) ?_
    show Go p e below _ (s₁.setTop (mkF m 1 #[.val (.ref a1)] [(.ref a1)]))
    obtain ⟨T5, X5, e5, st5⟩ := getF X0 hx hZ hown (host := "") (Or.inl (hw _ (List.mem_of_getElem? (i := 14) rfl))) Via.refl e0 Fb0 (g := (mkF m 1 #[.val (.ref a1)] [(.ref a1)])) rfl rfl (hb hby d3_1)
    refine Go.st st5 ?_
    show Go p e below _ (T5.setTop (mkF m 4 #[.val (.ref a1)] [.null]))
    refine Go.st (fun _ => XS.ifnonnullNo X5.here hx rfl (hb hby d3_4) rfl) ?_
    show Go p e below _ (T5.setTop (mkF m 7 #[.val (.ref a1)] []))
    refine Go.st (fun _ => XS.aloadN X5.here hx rfl (hb hby d3_7) rfl rfl) ?_
    show Go p e below _ (T5.setTop (mkF m 8 #[.val (.ref a1)] [(.ref a1)]))
    obtain ⟨T6, X6, e6, st6⟩ := getF X5 hx hZ hown (host := "") (Or.inl (hw _ (List.mem_of_getElem? (i := 16) rfl))) Via.refl e5 Fb1 (g := (mkF m 8 #[.val (.ref a1)] [(.ref a1)])) rfl rfl (hb hby d3_8)
    refine Go.st st6 ?_
    show Go p e below _ (T6.setTop (mkF m 11 #[.val (.ref a1)] [(.int (1 : Int32))]))
    refine Go.st (fun _ => XS.ifNo X6.here hx rfl (hb hby d3_11) rfl ((if0 _ _).trans (feq (by decide : ¬ ((1 : Int32) = (0 : Int32)))).1)) ?_
    show Go p e below _ (T6.setTop (mkF m 14 #[.val (.ref a1)] []))
    refine Go.st (fun _ => XS.iconst X6.here hx rfl (hb hby d3_14)) ?_
    show Go p e below _ (T6.setTop (mkF m 15 #[.val (.ref a1)] [(.int (1 : Int32))]))
    refine Go.st (fun _ => XS.goto X6.here hx rfl (pc0 := 15) (pc' := 19) rfl (hb hby d3_15) (by decide) (by decide)) ?_
    show Go p e below _ (T6.setTop (mkF m 19 #[.val (.ref a1)] [(.int (1 : Int32))]))
    exact goRetN X6 hx hlk hret (t := .boolean) (by simp) (w := (1 : Int32)) (by decide) e6 (hb hby d3_19) (by decide) (by decide) ⟨by simp, N0, rfl⟩
  · show Go p e below _ (s₁.setTop (mkF m 0 #[.val (.ref a1)] []))
    refine Go.st (fun _ => XS.aloadN X0.here hx rfl (hb hby d3_0) rfl rfl) ?_
    show Go p e below _ (s₁.setTop (mkF m 1 #[.val (.ref a1)] [(.ref a1)]))
    obtain ⟨T7, X7, e7, st7⟩ := getF X0 hx hZ hown (host := "") (Or.inl (hw _ (List.mem_of_getElem? (i := 14) rfl))) Via.refl e0 Fb0 (g := (mkF m 1 #[.val (.ref a1)] [(.ref a1)])) rfl rfl (hb hby d3_1)
    refine Go.st st7 ?_
    show Go p e below _ (T7.setTop (mkF m 4 #[.val (.ref a1)] [(.ref w_EXECUTE)]))
    refine Go.st (fun _ => XS.ifnonnullYes X7.here hx rfl (pc0 := 4) (pc' := 14) rfl (hb hby d3_4) rfl (by decide) (by decide)) ?_
    show Go p e below _ (T7.setTop (mkF m 14 #[.val (.ref a1)] []))
    refine Go.st (fun _ => XS.iconst X7.here hx rfl (hb hby d3_14)) ?_
    show Go p e below _ (T7.setTop (mkF m 15 #[.val (.ref a1)] [(.int (1 : Int32))]))
    refine Go.st (fun _ => XS.goto X7.here hx rfl (pc0 := 15) (pc' := 19) rfl (hb hby d3_15) (by decide) (by decide)) ?_
    show Go p e below _ (T7.setTop (mkF m 19 #[.val (.ref a1)] [(.int (1 : Int32))]))
    exact goRetN X7 hx hlk hret (t := .boolean) (by simp) (w := (1 : Int32)) (by decide) e7 (hb hby d3_19) (by decide) (by decide) ⟨by simp, N0, rfl⟩
theorem d4_0 : decode method_2_code 0 = .ok (.iload_n 2, 1) := by decide +kernel
theorem d4_1 : decode method_2_code 1 = .ok (.iconst 3, 1) := by decide +kernel
theorem d4_2 : decode method_2_code 2 = .ok (.iand, 1) := by decide +kernel
theorem d4_3 : decode method_2_code 3 = .ok (.istore_n 3, 1) := by decide +kernel
theorem d4_4 : decode method_2_code 4 = .ok (.iload_n 2, 1) := by decide +kernel
theorem d4_5 : decode method_2_code 5 = .ok (.iconst 4, 1) := by decide +kernel
theorem d4_6 : decode method_2_code 6 = .ok (.iand, 1) := by decide +kernel
theorem d4_7 : decode method_2_code 7 = .ok (.ifCond .eq 7, 3) := by decide +kernel
theorem d4_10 : decode method_2_code 10 = .ok (.iconst 1, 1) := by decide +kernel
theorem d4_11 : decode method_2_code 11 = .ok (.goto 4, 3) := by decide +kernel
theorem d4_14 : decode method_2_code 14 = .ok (.iconst 0, 1) := by decide +kernel
theorem d4_15 : decode method_2_code 15 = .ok (.istore 4, 2) := by decide +kernel
theorem d4_17 : decode method_2_code 17 = .ok (.iload_n 1, 1) := by decide +kernel
theorem d4_18 : decode method_2_code 18 = .ok (.iconst 3, 1) := by decide +kernel
theorem d4_19 : decode method_2_code 19 = .ok (.iand, 1) := by decide +kernel
theorem d4_20 : decode method_2_code 20 = .ok (.istore 5, 2) := by decide +kernel
theorem d4_22 : decode method_2_code 22 = .ok (.iload_n 1, 1) := by decide +kernel
theorem d4_23 : decode method_2_code 23 = .ok (.iconst 4, 1) := by decide +kernel
theorem d4_24 : decode method_2_code 24 = .ok (.iand, 1) := by decide +kernel
theorem d4_25 : decode method_2_code 25 = .ok (.ifCond .eq 7, 3) := by decide +kernel
theorem d4_28 : decode method_2_code 28 = .ok (.iconst 1, 1) := by decide +kernel
theorem d4_29 : decode method_2_code 29 = .ok (.goto 4, 3) := by decide +kernel
theorem d4_32 : decode method_2_code 32 = .ok (.iconst 0, 1) := by decide +kernel
theorem d4_33 : decode method_2_code 33 = .ok (.istore 6, 2) := by decide +kernel
theorem d4_35 : decode method_2_code 35 = .ok (.iload 5, 2) := by decide +kernel
theorem d4_37 : decode method_2_code 37 = .ok (.ifCond .eq 9, 3) := by decide +kernel
theorem d4_40 : decode method_2_code 40 = .ok (.iload 5, 2) := by decide +kernel
theorem d4_42 : decode method_2_code 42 = .ok (.iconst 1, 1) := by decide +kernel
theorem d4_43 : decode method_2_code 43 = .ok (.if_icmp .ne 65, 3) := by decide +kernel
theorem d4_46 : decode method_2_code 46 = .ok (.iload 5, 2) := by decide +kernel
theorem d4_48 : decode method_2_code 48 = .ok (.ifCond .ne 9, 3) := by decide +kernel
theorem d4_51 : decode method_2_code 51 = .ok (.getstatic 7, 3) := by decide +kernel
theorem d4_54 : decode method_2_code 54 = .ok (.goto 6, 3) := by decide +kernel
theorem d4_57 : decode method_2_code 57 = .ok (.getstatic 13, 3) := by decide +kernel
theorem d4_60 : decode method_2_code 60 = .ok (.astore 7, 2) := by decide +kernel
theorem d4_62 : decode method_2_code 62 = .ok (.aload_n 0, 1) := by decide +kernel
theorem d4_63 : decode method_2_code 63 = .ok (.aload 7, 2) := by decide +kernel
theorem d4_65 : decode method_2_code 65 = .ok (.invokevirtual 16, 3) := by decide +kernel
theorem d4_68 : decode method_2_code 68 = .ok (.istore 8, 2) := by decide +kernel
theorem d4_70 : decode method_2_code 70 = .ok (.iload_n 3, 1) := by decide +kernel
theorem d4_71 : decode method_2_code 71 = .ok (.ifCond .ne 12, 3) := by decide +kernel
theorem d4_74 : decode method_2_code 74 = .ok (.iload 4, 2) := by decide +kernel
theorem d4_76 : decode method_2_code 76 = .ok (.ifCond .ne 7, 3) := by decide +kernel
theorem d4_79 : decode method_2_code 79 = .ok (.iconst 1, 1) := by decide +kernel
theorem d4_80 : decode method_2_code 80 = .ok (.goto 4, 3) := by decide +kernel
theorem d4_83 : decode method_2_code 83 = .ok (.iconst 0, 1) := by decide +kernel
theorem d4_84 : decode method_2_code 84 = .ok (.istore 9, 2) := by decide +kernel
theorem d4_86 : decode method_2_code 86 = .ok (.iload 8, 2) := by decide +kernel
theorem d4_88 : decode method_2_code 88 = .ok (.iload 9, 2) := by decide +kernel
theorem d4_90 : decode method_2_code 90 = .ok (.if_icmp .eq 5, 3) := by decide +kernel
theorem d4_93 : decode method_2_code 93 = .ok (.iconst (-1), 1) := by decide +kernel
theorem d4_94 : decode method_2_code 94 = .ok (.ireturn, 1) := by decide +kernel
theorem d4_95 : decode method_2_code 95 = .ok (.iload 9, 2) := by decide +kernel
theorem d4_97 : decode method_2_code 97 = .ok (.ifCond .eq 8, 3) := by decide +kernel
theorem d4_100 : decode method_2_code 100 = .ok (.iload 5, 2) := by decide +kernel
theorem d4_102 : decode method_2_code 102 = .ok (.iconst 1, 1) := by decide +kernel
theorem d4_103 : decode method_2_code 103 = .ok (.iadd, 1) := by decide +kernel
theorem d4_104 : decode method_2_code 104 = .ok (.istore_n 3, 1) := by decide +kernel
theorem d4_105 : decode method_2_code 105 = .ok (.goto 51, 3) := by decide +kernel
theorem d4_108 : decode method_2_code 108 = .ok (.iload 5, 2) := by decide +kernel
theorem d4_110 : decode method_2_code 110 = .ok (.iconst 3, 1) := by decide +kernel
theorem d4_111 : decode method_2_code 111 = .ok (.if_icmp .ne 10, 3) := by decide +kernel
theorem d4_114 : decode method_2_code 114 = .ok (.iload_n 1, 1) := by decide +kernel
theorem d4_115 : decode method_2_code 115 = .ok (.invokestatic 22, 3) := by decide +kernel
theorem d4_118 : decode method_2_code 118 = .ok (.goto 4, 3) := by decide +kernel
theorem d4_121 : decode method_2_code 121 = .ok (.aconst_null, 1) := by decide +kernel
theorem d4_122 : decode method_2_code 122 = .ok (.astore 7, 2) := by decide +kernel
theorem d4_124 : decode method_2_code 124 = .ok (.aload_n 0, 1) := by decide +kernel
theorem d4_125 : decode method_2_code 125 = .ok (.iload 6, 2) := by decide +kernel
theorem d4_127 : decode method_2_code 127 = .ok (.aload 7, 2) := by decide +kernel
theorem d4_129 : decode method_2_code 129 = .ok (.invokevirtual 28, 3) := by decide +kernel
theorem d4_132 : decode method_2_code 132 = .ok (.pop, 1) := by decide +kernel
theorem d4_133 : decode method_2_code 133 = .ok (.iload_n 3, 1) := by decide +kernel
theorem d4_134 : decode method_2_code 134 = .ok (.iconst 2, 1) := by decide +kernel
theorem d4_135 : decode method_2_code 135 = .ok (.if_icmp .eq 21, 3) := by decide +kernel
theorem d4_138 : decode method_2_code 138 = .ok (.iload 4, 2) := by decide +kernel
theorem d4_140 : decode method_2_code 140 = .ok (.ifCond .ne 16, 3) := by decide +kernel
theorem d4_143 : decode method_2_code 143 = .ok (.iload_n 3, 1) := by decide +kernel
theorem d4_144 : decode method_2_code 144 = .ok (.iconst 1, 1) := by decide +kernel
theorem d4_145 : decode method_2_code 145 = .ok (.if_icmp .eq 8, 3) := by decide +kernel
theorem d4_148 : decode method_2_code 148 = .ok (.aload 7, 2) := by decide +kernel
theorem d4_150 : decode method_2_code 150 = .ok (.ifnull 6, 3) := by decide +kernel
theorem d4_153 : decode method_2_code 153 = .ok (.iconst 1, 1) := by decide +kernel
theorem d4_154 : decode method_2_code 154 = .ok (.istore 4, 2) := by decide +kernel
theorem d4_156 : decode method_2_code 156 = .ok (.iload_n 3, 1) := by decide +kernel
theorem d4_157 : decode method_2_code 157 = .ok (.iload 4, 2) := by decide +kernel
theorem d4_159 : decode method_2_code 159 = .ok (.ifCond .eq 7, 3) := by decide +kernel
theorem d4_162 : decode method_2_code 162 = .ok (.iconst 4, 1) := by decide +kernel
theorem d4_163 : decode method_2_code 163 = .ok (.goto 4, 3) := by decide +kernel
theorem d4_166 : decode method_2_code 166 = .ok (.iconst 0, 1) := by decide +kernel
theorem d4_167 : decode method_2_code 167 = .ok (.ior, 1) := by decide +kernel
theorem d4_168 : decode method_2_code 168 = .ok (.ireturn, 1) := by decide +kernel
theorem pn_4 : plainName "com/example/sidelane/sidelane/CancellationIsClaimedPinLaw" = true := by first | (simp [plainName, overriddenIn]; done) | decide +kernel
set_option maxRecDepth 65536 in
set_option maxHeartbeats 40000000 in
theorem rmStep (l : Launch) (Z : State) (a0 : Array Value) (hw : ∀ d ∈ tables_1, d.before a0 Z = true) (ws : List Jvm.Cond) (a1 : Addr) (p1 p2 : Int32) (wc : Addr) (cl : Cell) (w_EXECUTE w_ADOPTER w_CANCELLED w_REFUSED w_HANDED_OVER w_CANCELLED_UNEXECUTED w_ENDING_NEEDED : Addr) (h0 : Heap) (n0 : Nat) (O0 : Old Z n0 h0) (INV : own_inv Z h0 a1 p2 w_EXECUTE w_ADOPTER) (g1 : n0 ≤ a1) (S_w_EXECUTE : Sta Z Z.heap "com/example/sidelane/sidelane/Cancellation$Claimant" "EXECUTE" "Lcom/example/sidelane/sidelane/Cancellation$Claimant;" (.ref w_EXECUTE)) (S_w_ADOPTER : Sta Z Z.heap "com/example/sidelane/sidelane/Cancellation$Claimant" "ADOPTER" "Lcom/example/sidelane/sidelane/Cancellation$Claimant;" (.ref w_ADOPTER)) (S_w_CANCELLED : Sta Z Z.heap "com/example/sidelane/sidelane/Cancellation$Outcome" "CANCELLED" "Lcom/example/sidelane/sidelane/Cancellation$Outcome;" (.ref w_CANCELLED)) (S_w_REFUSED : Sta Z Z.heap "com/example/sidelane/sidelane/Cancellation$Outcome" "REFUSED" "Lcom/example/sidelane/sidelane/Cancellation$Outcome;" (.ref w_REFUSED)) (S_w_HANDED_OVER : Sta Z Z.heap "com/example/sidelane/sidelane/Cancellation$Outcome" "HANDED_OVER" "Lcom/example/sidelane/sidelane/Cancellation$Outcome;" (.ref w_HANDED_OVER)) (S_w_CANCELLED_UNEXECUTED : Sta Z Z.heap "com/example/sidelane/sidelane/Cancellation$Outcome" "CANCELLED_UNEXECUTED" "Lcom/example/sidelane/sidelane/Cancellation$Outcome;" (.ref w_CANCELLED_UNEXECUTED)) (S_w_ENDING_NEEDED : Sta Z Z.heap "com/example/sidelane/sidelane/Cancellation$Outcome" "ENDING_NEEDED" "Lcom/example/sidelane/sidelane/Cancellation$Outcome;" (.ref w_ENDING_NEEDED)) (ne_w_EXECUTE_w_ADOPTER : w_EXECUTE ≠ w_ADOPTER) (S_cache : Sta Z Z.heap "java/lang/Integer$IntegerCache" "cache" "[Ljava/lang/Integer;" (.ref wc)) (S_high : Sta Z Z.heap "java/lang/Integer$IntegerCache" "high" "I" (.int (127 : Int32))) (BX : Bxs Z wc cl "java/lang/Integer" "I" 256 (fun j => .int (j - 128))) :
    Ctr l (⟨"com/example/sidelane/sidelane/CancellationIsClaimedPinLaw", "step", "(Lcom/example/sidelane/sidelane/Cancellation;II)I"⟩ : MethodName) method_2_code 10 (some .int) ws ({ frames := 4, cells := 1, slots := 1, locals := 64 } : Room) #[(.ref a1), (.int p1), (.int p2)] Z h0 (fun v h L => ∃ r : Int32, v = some (.int r) ∧ ¬ r < 0 ∧ Fr n0 L ∧ Keep h0 h [a1] ∧ own_inv Z h a1 r w_EXECUTE w_ADOPTER) := by
  have ef : ∀ m : MethodId, entryFrame m #[(.ref a1), (.int p1), (.int p2)] 10 = mkF m 0 #[.val (.ref a1), .val (.int p1), .val (.int p2), .unset, .unset, .unset, .unset, .unset, .unset, .unset] [] := fun m => by first | (simp [entryFrame, mkF, argsToLocals, Value.category]; done) | rfl
  refine Ctr.of (plainFor_of_name pn_4) ?_
  intro p e s m below meth c s₁ hx hZ hby hml hown0 hnm hret hlk X0 e0
  have hown : s.vm.findClass "com/example/sidelane/sidelane/CancellationIsClaimedPinLaw" = some m.cls := hown0
  have N0 := Fr.nil n0
  refine Go.st (fun t k => castTop (ef m) k) ?_
  show Go p e below _ (s₁.setTop (mkF m 0 #[.val (.ref a1), .val (.int p1), .val (.int p2), .unset, .unset, .unset, .unset, .unset, .unset, .unset] []))
  obtain ⟨cb, en, oc, z, OBx, hst⟩ := INV
  obtain ⟨Eb, Ub, Fb0, Fb1, Fb2, Fb3, Fb4, Fb5, Fb6⟩ := OBx
  rcases hst with ⟨rfl, rfl, rfl⟩ | ⟨rfl, rfl, rfl⟩ | ⟨rfl, rfl, rfl⟩ | ⟨rfl, rfl, rfl, hen, ⟨a6, rfl⟩⟩ | ⟨rfl, rfl, rfl, hen, ⟨a6, rfl⟩⟩
  · show Go p e below _ (s₁.setTop (mkF m 0 #[.val (.ref a1), .val (.int p1), .val (.int (0 : Int32)), .unset, .unset, .unset, .unset, .unset, .unset, .unset] []))
    refine Go.st (fun _ => XS.iloadN X0.here hx rfl (hb hby d4_0) rfl) ?_
    show Go p e below _ (s₁.setTop (mkF m 1 #[.val (.ref a1), .val (.int p1), .val (.int (0 : Int32)), .unset, .unset, .unset, .unset, .unset, .unset, .unset] [(.int (0 : Int32))]))
    refine Go.st (fun _ => XS.iconst X0.here hx rfl (hb hby d4_1)) ?_
    show Go p e below _ (s₁.setTop (mkF m 2 #[.val (.ref a1), .val (.int p1), .val (.int (0 : Int32)), .unset, .unset, .unset, .unset, .unset, .unset, .unset] [(.int (3 : Int32)), (.int (0 : Int32))]))
    refine Go.st (fun _ => XS.iand X0.here hx rfl (hb hby d4_2) rfl) ?_
    show Go p e below _ (s₁.setTop (mkF m 3 #[.val (.ref a1), .val (.int p1), .val (.int (0 : Int32)), .unset, .unset, .unset, .unset, .unset, .unset, .unset] [(.int (0 : Int32))]))
    refine Go.st (fun _ => XS.istoreN X0.here hx rfl (hb hby d4_3) rfl (l' := #[.val (.ref a1), .val (.int p1), .val (.int (0 : Int32)), .val (.int (0 : Int32)), .unset, .unset, .unset, .unset, .unset, .unset]) rfl) ?_
    show Go p e below _ (s₁.setTop (mkF m 4 #[.val (.ref a1), .val (.int p1), .val (.int (0 : Int32)), .val (.int (0 : Int32)), .unset, .unset, .unset, .unset, .unset, .unset] []))
    refine Go.st (fun _ => XS.iloadN X0.here hx rfl (hb hby d4_4) rfl) ?_
    show Go p e below _ (s₁.setTop (mkF m 5 #[.val (.ref a1), .val (.int p1), .val (.int (0 : Int32)), .val (.int (0 : Int32)), .unset, .unset, .unset, .unset, .unset, .unset] [(.int (0 : Int32))]))
    refine Go.st (fun _ => XS.iconst X0.here hx rfl (hb hby d4_5)) ?_
    show Go p e below _ (s₁.setTop (mkF m 6 #[.val (.ref a1), .val (.int p1), .val (.int (0 : Int32)), .val (.int (0 : Int32)), .unset, .unset, .unset, .unset, .unset, .unset] [(.int (4 : Int32)), (.int (0 : Int32))]))
    refine Go.st (fun _ => XS.iand X0.here hx rfl (hb hby d4_6) rfl) ?_
    show Go p e below _ (s₁.setTop (mkF m 7 #[.val (.ref a1), .val (.int p1), .val (.int (0 : Int32)), .val (.int (0 : Int32)), .unset, .unset, .unset, .unset, .unset, .unset] [(.int (0 : Int32))]))
    refine Go.st (fun _ => XS.ifYes X0.here hx rfl (pc0 := 7) (pc' := 14) rfl (hb hby d4_7) rfl ((if0 _ _).trans (teq (by decide : (0 : Int32) = (0 : Int32))).1) (by decide) (by decide)) ?_
    show Go p e below _ (s₁.setTop (mkF m 14 #[.val (.ref a1), .val (.int p1), .val (.int (0 : Int32)), .val (.int (0 : Int32)), .unset, .unset, .unset, .unset, .unset, .unset] []))
    refine Go.st (fun _ => XS.iconst X0.here hx rfl (hb hby d4_14)) ?_
    show Go p e below _ (s₁.setTop (mkF m 15 #[.val (.ref a1), .val (.int p1), .val (.int (0 : Int32)), .val (.int (0 : Int32)), .unset, .unset, .unset, .unset, .unset, .unset] [(.int (0 : Int32))]))
    refine Go.st (fun _ => XS.istore X0.here hx rfl (hb hby d4_15) rfl (l' := #[.val (.ref a1), .val (.int p1), .val (.int (0 : Int32)), .val (.int (0 : Int32)), .val (.int (0 : Int32)), .unset, .unset, .unset, .unset, .unset]) rfl) ?_
    show Go p e below _ (s₁.setTop (mkF m 17 #[.val (.ref a1), .val (.int p1), .val (.int (0 : Int32)), .val (.int (0 : Int32)), .val (.int (0 : Int32)), .unset, .unset, .unset, .unset, .unset] []))
    refine Go.st (fun _ => XS.iloadN X0.here hx rfl (hb hby d4_17) rfl) ?_
    show Go p e below _ (s₁.setTop (mkF m 18 #[.val (.ref a1), .val (.int p1), .val (.int (0 : Int32)), .val (.int (0 : Int32)), .val (.int (0 : Int32)), .unset, .unset, .unset, .unset, .unset] [(.int p1)]))
    refine Go.st (fun _ => XS.iconst X0.here hx rfl (hb hby d4_18)) ?_
    show Go p e below _ (s₁.setTop (mkF m 19 #[.val (.ref a1), .val (.int p1), .val (.int (0 : Int32)), .val (.int (0 : Int32)), .val (.int (0 : Int32)), .unset, .unset, .unset, .unset, .unset] [(.int (3 : Int32)), (.int p1)]))
    refine Go.st (fun _ => XS.iand X0.here hx rfl (hb hby d4_19) rfl) ?_
    show Go p e below _ (s₁.setTop (mkF m 20 #[.val (.ref a1), .val (.int p1), .val (.int (0 : Int32)), .val (.int (0 : Int32)), .val (.int (0 : Int32)), .unset, .unset, .unset, .unset, .unset] [(.int (p1 &&& (3 : Int32)))]))
    rcases own_and3 p1 with q0 | q0 | q0 | q0
    · rw [q0]
      show Go p e below _ (s₁.setTop (mkF m 20 #[.val (.ref a1), .val (.int p1), .val (.int (0 : Int32)), .val (.int (0 : Int32)), .val (.int (0 : Int32)), .unset, .unset, .unset, .unset, .unset] [(.int (0 : Int32))]))
      refine Go.st (fun _ => XS.istore X0.here hx rfl (hb hby d4_20) rfl (l' := #[.val (.ref a1), .val (.int p1), .val (.int (0 : Int32)), .val (.int (0 : Int32)), .val (.int (0 : Int32)), .val (.int (0 : Int32)), .unset, .unset, .unset, .unset]) rfl) ?_
      show Go p e below _ (s₁.setTop (mkF m 22 #[.val (.ref a1), .val (.int p1), .val (.int (0 : Int32)), .val (.int (0 : Int32)), .val (.int (0 : Int32)), .val (.int (0 : Int32)), .unset, .unset, .unset, .unset] []))
      refine Go.st (fun _ => XS.iloadN X0.here hx rfl (hb hby d4_22) rfl) ?_
      show Go p e below _ (s₁.setTop (mkF m 23 #[.val (.ref a1), .val (.int p1), .val (.int (0 : Int32)), .val (.int (0 : Int32)), .val (.int (0 : Int32)), .val (.int (0 : Int32)), .unset, .unset, .unset, .unset] [(.int p1)]))
      refine Go.st (fun _ => XS.iconst X0.here hx rfl (hb hby d4_23)) ?_
      show Go p e below _ (s₁.setTop (mkF m 24 #[.val (.ref a1), .val (.int p1), .val (.int (0 : Int32)), .val (.int (0 : Int32)), .val (.int (0 : Int32)), .val (.int (0 : Int32)), .unset, .unset, .unset, .unset] [(.int (4 : Int32)), (.int p1)]))
      refine Go.st (fun _ => XS.iand X0.here hx rfl (hb hby d4_24) rfl) ?_
      show Go p e below _ (s₁.setTop (mkF m 25 #[.val (.ref a1), .val (.int p1), .val (.int (0 : Int32)), .val (.int (0 : Int32)), .val (.int (0 : Int32)), .val (.int (0 : Int32)), .unset, .unset, .unset, .unset] [(.int (p1 &&& (4 : Int32)))]))
      refine goJoin (P := fun z1 : Int32 => True) (F := fun z1 => s₁.setTop (mkF m 33 #[.val (.ref a1), .val (.int p1), .val (.int (0 : Int32)), .val (.int (0 : Int32)), .val (.int (0 : Int32)), .val (.int (0 : Int32)), .unset, .unset, .unset, .unset] [(.int z1)])) (fun z1 hz1 => ?_) (fun J1 => ?_)
      · show Go p e below _ (s₁.setTop (mkF m 33 #[.val (.ref a1), .val (.int p1), .val (.int (0 : Int32)), .val (.int (0 : Int32)), .val (.int (0 : Int32)), .val (.int (0 : Int32)), .unset, .unset, .unset, .unset] [(.int z1)]))
        refine Go.st (fun _ => XS.istore X0.here hx rfl (hb hby d4_33) rfl (l' := #[.val (.ref a1), .val (.int p1), .val (.int (0 : Int32)), .val (.int (0 : Int32)), .val (.int (0 : Int32)), .val (.int (0 : Int32)), .val (.int z1), .unset, .unset, .unset]) rfl) ?_
        show Go p e below _ (s₁.setTop (mkF m 35 #[.val (.ref a1), .val (.int p1), .val (.int (0 : Int32)), .val (.int (0 : Int32)), .val (.int (0 : Int32)), .val (.int (0 : Int32)), .val (.int z1), .unset, .unset, .unset] []))
        refine Go.st (fun _ => XS.iload X0.here hx rfl (hb hby d4_35) rfl) ?_
        show Go p e below _ (s₁.setTop (mkF m 37 #[.val (.ref a1), .val (.int p1), .val (.int (0 : Int32)), .val (.int (0 : Int32)), .val (.int (0 : Int32)), .val (.int (0 : Int32)), .val (.int z1), .unset, .unset, .unset] [(.int (0 : Int32))]))
        refine Go.st (fun _ => XS.ifYes X0.here hx rfl (pc0 := 37) (pc' := 46) rfl (hb hby d4_37) rfl ((if0 _ _).trans (teq (by decide : (0 : Int32) = (0 : Int32))).1) (by decide) (by decide)) ?_
        show Go p e below _ (s₁.setTop (mkF m 46 #[.val (.ref a1), .val (.int p1), .val (.int (0 : Int32)), .val (.int (0 : Int32)), .val (.int (0 : Int32)), .val (.int (0 : Int32)), .val (.int z1), .unset, .unset, .unset] []))
        refine Go.st (fun _ => XS.iload X0.here hx rfl (hb hby d4_46) rfl) ?_
        show Go p e below _ (s₁.setTop (mkF m 48 #[.val (.ref a1), .val (.int p1), .val (.int (0 : Int32)), .val (.int (0 : Int32)), .val (.int (0 : Int32)), .val (.int (0 : Int32)), .val (.int z1), .unset, .unset, .unset] [(.int (0 : Int32))]))
        refine Go.st (fun _ => XS.ifNo X0.here hx rfl (hb hby d4_48) rfl ((if0 _ _).trans (teq (by decide : (0 : Int32) = (0 : Int32))).2)) ?_
        show Go p e below _ (s₁.setTop (mkF m 51 #[.val (.ref a1), .val (.int p1), .val (.int (0 : Int32)), .val (.int (0 : Int32)), .val (.int (0 : Int32)), .val (.int (0 : Int32)), .val (.int z1), .unset, .unset, .unset] []))
        obtain ⟨T2, X2, e2, st2⟩ := getS2 X0 hx hZ hown (host := "") (Or.inl (hw _ (List.mem_of_getElem? (i := 22) rfl))) Via.refl e0 (oldSta O0 S_w_EXECUTE) (g := (mkF m 51 #[.val (.ref a1), .val (.int p1), .val (.int (0 : Int32)), .val (.int (0 : Int32)), .val (.int (0 : Int32)), .val (.int (0 : Int32)), .val (.int z1), .unset, .unset, .unset] [])) rfl (hb hby d4_51)
        refine Go.st st2 ?_
        show Go p e below _ (T2.setTop (mkF m 54 #[.val (.ref a1), .val (.int p1), .val (.int (0 : Int32)), .val (.int (0 : Int32)), .val (.int (0 : Int32)), .val (.int (0 : Int32)), .val (.int z1), .unset, .unset, .unset] [(.ref w_EXECUTE)]))
        refine Go.st (fun _ => XS.goto X2.here hx rfl (pc0 := 54) (pc' := 60) rfl (hb hby d4_54) (by decide) (by decide)) ?_
        show Go p e below _ (T2.setTop (mkF m 60 #[.val (.ref a1), .val (.int p1), .val (.int (0 : Int32)), .val (.int (0 : Int32)), .val (.int (0 : Int32)), .val (.int (0 : Int32)), .val (.int z1), .unset, .unset, .unset] [(.ref w_EXECUTE)]))
        refine Go.st (fun _ => XS.astore X2.here hx rfl (hb hby d4_60) rfl rfl (l' := #[.val (.ref a1), .val (.int p1), .val (.int (0 : Int32)), .val (.int (0 : Int32)), .val (.int (0 : Int32)), .val (.int (0 : Int32)), .val (.int z1), .val (.ref w_EXECUTE), .unset, .unset]) rfl) ?_
        show Go p e below _ (T2.setTop (mkF m 62 #[.val (.ref a1), .val (.int p1), .val (.int (0 : Int32)), .val (.int (0 : Int32)), .val (.int (0 : Int32)), .val (.int (0 : Int32)), .val (.int z1), .val (.ref w_EXECUTE), .unset, .unset] []))
        refine Go.st (fun _ => XS.aloadN X2.here hx rfl (hb hby d4_62) rfl rfl) ?_
        show Go p e below _ (T2.setTop (mkF m 63 #[.val (.ref a1), .val (.int p1), .val (.int (0 : Int32)), .val (.int (0 : Int32)), .val (.int (0 : Int32)), .val (.int (0 : Int32)), .val (.int z1), .val (.ref w_EXECUTE), .unset, .unset] [(.ref a1)]))
        refine Go.st (fun _ => XS.aload X2.here hx rfl (hb hby d4_63) rfl rfl) ?_
        show Go p e below _ (T2.setTop (mkF m 65 #[.val (.ref a1), .val (.int p1), .val (.int (0 : Int32)), .val (.int (0 : Int32)), .val (.int (0 : Int32)), .val (.int (0 : Int32)), .val (.int z1), .val (.ref w_EXECUTE), .unset, .unset] [(.ref w_EXECUTE), (.ref a1)]))
        refine goVirtS X2 hx hZ (y := (⟨"com/example/sidelane/sidelane/Cancellation", "claim", "(Lcom/example/sidelane/sidelane/Cancellation$Claimant;)Z"⟩ : MethodName)) (z := (⟨"com/example/sidelane/sidelane/Cancellation", "claim", "(Lcom/example/sidelane/sidelane/Cancellation$Claimant;)Z"⟩ : MethodName)) hown (hw _ (List.mem_of_getElem? (i := 25) rfl)) (hw _ (List.mem_of_getElem? (i := 26) rfl)) (notFace_of_selects (args := #[]) (mvT hZ (hw _ (List.mem_of_getElem? (i := 28) rfl)))) (hw _ (List.mem_of_getElem? (i := 28) rfl)) (hw _ (List.mem_of_getElem? (i := 27) rfl)) (hw _ (List.mem_of_getElem? (i := 2) rfl)) (hw _ (List.mem_of_getElem? (i := 29) rfl)) (by decide) (a := a1) (argsL := [(.ref w_EXECUTE)]) (rest := []) e2 Eb (cm00 l Z a0 hw a1 w_EXECUTE en oc h0 n0 O0 Ub g1 Eb Fb0 Fb1 Fb2 Fb3 Fb4 Fb5 Fb6) 0 (by decide) (by decide) (by decide) (by decide) (mkF m 65 #[.val (.ref a1), .val (.int p1), .val (.int (0 : Int32)), .val (.int (0 : Int32)), .val (.int (0 : Int32)), .val (.int (0 : Int32)), .val (.int z1), .val (.ref w_EXECUTE), .unset, .unset] [(.ref w_EXECUTE), (.ref a1)]) rfl (by rw [hml]; rfl) (lenOf pd_3 rfl) rfl (hb hby d4_65) (Nat.le_of_eq rfl) ?_
        intro v3 T3 L3 X3 hQ3
        obtain ⟨rfl, M3, K3, ⟨Eb3, Ub3, Fb0_3, Fb1_3, Fb2_3, Fb3_3, Fb4_3, Fb5_3, Fb6_3⟩⟩ := hQ3
        have N3 := Fr.app N0 M3
        have O4 : Old Z n0 T3.heap := O0.keep K3 (allS g1 all0)
        have K5 : Keep h0 T3.heap [a1] := (Keep.refl h0 [a1]).trans K3 (allS (Or.inl (List.mem_of_getElem? (i := 0) rfl)) all0)
        have E_6 : Exa Z T3.heap a1 "com/example/sidelane/sidelane/Cancellation" := Eb.keep K3
        show Go p e below _ (T3.setTop (mkF m 68 #[.val (.ref a1), .val (.int p1), .val (.int (0 : Int32)), .val (.int (0 : Int32)), .val (.int (0 : Int32)), .val (.int (0 : Int32)), .val (.int z1), .val (.ref w_EXECUTE), .unset, .unset] [(.int (1 : Int32))]))
        refine Go.st (fun _ => XS.istore X3.here hx rfl (hb hby d4_68) rfl (l' := #[.val (.ref a1), .val (.int p1), .val (.int (0 : Int32)), .val (.int (0 : Int32)), .val (.int (0 : Int32)), .val (.int (0 : Int32)), .val (.int z1), .val (.ref w_EXECUTE), .val (.int (1 : Int32)), .unset]) rfl) ?_
        show Go p e below _ (T3.setTop (mkF m 70 #[.val (.ref a1), .val (.int p1), .val (.int (0 : Int32)), .val (.int (0 : Int32)), .val (.int (0 : Int32)), .val (.int (0 : Int32)), .val (.int z1), .val (.ref w_EXECUTE), .val (.int (1 : Int32)), .unset] []))
        refine Go.st (fun _ => XS.iloadN X3.here hx rfl (hb hby d4_70) rfl) ?_
        show Go p e below _ (T3.setTop (mkF m 71 #[.val (.ref a1), .val (.int p1), .val (.int (0 : Int32)), .val (.int (0 : Int32)), .val (.int (0 : Int32)), .val (.int (0 : Int32)), .val (.int z1), .val (.ref w_EXECUTE), .val (.int (1 : Int32)), .unset] [(.int (0 : Int32))]))
        refine Go.st (fun _ => XS.ifNo X3.here hx rfl (hb hby d4_71) rfl ((if0 _ _).trans (teq (by decide : (0 : Int32) = (0 : Int32))).2)) ?_
        show Go p e below _ (T3.setTop (mkF m 74 #[.val (.ref a1), .val (.int p1), .val (.int (0 : Int32)), .val (.int (0 : Int32)), .val (.int (0 : Int32)), .val (.int (0 : Int32)), .val (.int z1), .val (.ref w_EXECUTE), .val (.int (1 : Int32)), .unset] []))
        refine Go.st (fun _ => XS.iload X3.here hx rfl (hb hby d4_74) rfl) ?_
        show Go p e below _ (T3.setTop (mkF m 76 #[.val (.ref a1), .val (.int p1), .val (.int (0 : Int32)), .val (.int (0 : Int32)), .val (.int (0 : Int32)), .val (.int (0 : Int32)), .val (.int z1), .val (.ref w_EXECUTE), .val (.int (1 : Int32)), .unset] [(.int (0 : Int32))]))
        refine Go.st (fun _ => XS.ifNo X3.here hx rfl (hb hby d4_76) rfl ((if0 _ _).trans (teq (by decide : (0 : Int32) = (0 : Int32))).2)) ?_
        show Go p e below _ (T3.setTop (mkF m 79 #[.val (.ref a1), .val (.int p1), .val (.int (0 : Int32)), .val (.int (0 : Int32)), .val (.int (0 : Int32)), .val (.int (0 : Int32)), .val (.int z1), .val (.ref w_EXECUTE), .val (.int (1 : Int32)), .unset] []))
        refine Go.st (fun _ => XS.iconst X3.here hx rfl (hb hby d4_79)) ?_
        show Go p e below _ (T3.setTop (mkF m 80 #[.val (.ref a1), .val (.int p1), .val (.int (0 : Int32)), .val (.int (0 : Int32)), .val (.int (0 : Int32)), .val (.int (0 : Int32)), .val (.int z1), .val (.ref w_EXECUTE), .val (.int (1 : Int32)), .unset] [(.int (1 : Int32))]))
        refine Go.st (fun _ => XS.goto X3.here hx rfl (pc0 := 80) (pc' := 84) rfl (hb hby d4_80) (by decide) (by decide)) ?_
        show Go p e below _ (T3.setTop (mkF m 84 #[.val (.ref a1), .val (.int p1), .val (.int (0 : Int32)), .val (.int (0 : Int32)), .val (.int (0 : Int32)), .val (.int (0 : Int32)), .val (.int z1), .val (.ref w_EXECUTE), .val (.int (1 : Int32)), .unset] [(.int (1 : Int32))]))
        refine Go.st (fun _ => XS.istore X3.here hx rfl (hb hby d4_84) rfl (l' := #[.val (.ref a1), .val (.int p1), .val (.int (0 : Int32)), .val (.int (0 : Int32)), .val (.int (0 : Int32)), .val (.int (0 : Int32)), .val (.int z1), .val (.ref w_EXECUTE), .val (.int (1 : Int32)), .val (.int (1 : Int32))]) rfl) ?_
        show Go p e below _ (T3.setTop (mkF m 86 #[.val (.ref a1), .val (.int p1), .val (.int (0 : Int32)), .val (.int (0 : Int32)), .val (.int (0 : Int32)), .val (.int (0 : Int32)), .val (.int z1), .val (.ref w_EXECUTE), .val (.int (1 : Int32)), .val (.int (1 : Int32))] []))
        refine Go.st (fun _ => XS.iload X3.here hx rfl (hb hby d4_86) rfl) ?_
        show Go p e below _ (T3.setTop (mkF m 88 #[.val (.ref a1), .val (.int p1), .val (.int (0 : Int32)), .val (.int (0 : Int32)), .val (.int (0 : Int32)), .val (.int (0 : Int32)), .val (.int z1), .val (.ref w_EXECUTE), .val (.int (1 : Int32)), .val (.int (1 : Int32))] [(.int (1 : Int32))]))
        refine Go.st (fun _ => XS.iload X3.here hx rfl (hb hby d4_88) rfl) ?_
        show Go p e below _ (T3.setTop (mkF m 90 #[.val (.ref a1), .val (.int p1), .val (.int (0 : Int32)), .val (.int (0 : Int32)), .val (.int (0 : Int32)), .val (.int (0 : Int32)), .val (.int z1), .val (.ref w_EXECUTE), .val (.int (1 : Int32)), .val (.int (1 : Int32))] [(.int (1 : Int32)), (.int (1 : Int32))]))
        refine Go.st (fun _ => XS.icmpYes X3.here hx rfl (pc0 := 90) (pc' := 95) rfl (hb hby d4_90) rfl (teq (by decide : (1 : Int32) = (1 : Int32))).1 (by decide) (by decide)) ?_
        show Go p e below _ (T3.setTop (mkF m 95 #[.val (.ref a1), .val (.int p1), .val (.int (0 : Int32)), .val (.int (0 : Int32)), .val (.int (0 : Int32)), .val (.int (0 : Int32)), .val (.int z1), .val (.ref w_EXECUTE), .val (.int (1 : Int32)), .val (.int (1 : Int32))] []))
        refine Go.st (fun _ => XS.iload X3.here hx rfl (hb hby d4_95) rfl) ?_
        show Go p e below _ (T3.setTop (mkF m 97 #[.val (.ref a1), .val (.int p1), .val (.int (0 : Int32)), .val (.int (0 : Int32)), .val (.int (0 : Int32)), .val (.int (0 : Int32)), .val (.int z1), .val (.ref w_EXECUTE), .val (.int (1 : Int32)), .val (.int (1 : Int32))] [(.int (1 : Int32))]))
        refine Go.st (fun _ => XS.ifNo X3.here hx rfl (hb hby d4_97) rfl ((if0 _ _).trans (feq (by decide : ¬ ((1 : Int32) = (0 : Int32)))).1)) ?_
        show Go p e below _ (T3.setTop (mkF m 100 #[.val (.ref a1), .val (.int p1), .val (.int (0 : Int32)), .val (.int (0 : Int32)), .val (.int (0 : Int32)), .val (.int (0 : Int32)), .val (.int z1), .val (.ref w_EXECUTE), .val (.int (1 : Int32)), .val (.int (1 : Int32))] []))
        refine Go.st (fun _ => XS.iload X3.here hx rfl (hb hby d4_100) rfl) ?_
        show Go p e below _ (T3.setTop (mkF m 102 #[.val (.ref a1), .val (.int p1), .val (.int (0 : Int32)), .val (.int (0 : Int32)), .val (.int (0 : Int32)), .val (.int (0 : Int32)), .val (.int z1), .val (.ref w_EXECUTE), .val (.int (1 : Int32)), .val (.int (1 : Int32))] [(.int (0 : Int32))]))
        refine Go.st (fun _ => XS.iconst X3.here hx rfl (hb hby d4_102)) ?_
        show Go p e below _ (T3.setTop (mkF m 103 #[.val (.ref a1), .val (.int p1), .val (.int (0 : Int32)), .val (.int (0 : Int32)), .val (.int (0 : Int32)), .val (.int (0 : Int32)), .val (.int z1), .val (.ref w_EXECUTE), .val (.int (1 : Int32)), .val (.int (1 : Int32))] [(.int (1 : Int32)), (.int (0 : Int32))]))
        refine Go.st (fun _ => XS.iadd X3.here hx rfl (hb hby d4_103) rfl) ?_
        show Go p e below _ (T3.setTop (mkF m 104 #[.val (.ref a1), .val (.int p1), .val (.int (0 : Int32)), .val (.int (0 : Int32)), .val (.int (0 : Int32)), .val (.int (0 : Int32)), .val (.int z1), .val (.ref w_EXECUTE), .val (.int (1 : Int32)), .val (.int (1 : Int32))] [(.int (1 : Int32))]))
        refine Go.st (fun _ => XS.istoreN X3.here hx rfl (hb hby d4_104) rfl (l' := #[.val (.ref a1), .val (.int p1), .val (.int (0 : Int32)), .val (.int (1 : Int32)), .val (.int (0 : Int32)), .val (.int (0 : Int32)), .val (.int z1), .val (.ref w_EXECUTE), .val (.int (1 : Int32)), .val (.int (1 : Int32))]) rfl) ?_
        show Go p e below _ (T3.setTop (mkF m 105 #[.val (.ref a1), .val (.int p1), .val (.int (0 : Int32)), .val (.int (1 : Int32)), .val (.int (0 : Int32)), .val (.int (0 : Int32)), .val (.int z1), .val (.ref w_EXECUTE), .val (.int (1 : Int32)), .val (.int (1 : Int32))] []))
        refine Go.st (fun _ => XS.goto X3.here hx rfl (pc0 := 105) (pc' := 156) rfl (hb hby d4_105) (by decide) (by decide)) ?_
        show Go p e below _ (T3.setTop (mkF m 156 #[.val (.ref a1), .val (.int p1), .val (.int (0 : Int32)), .val (.int (1 : Int32)), .val (.int (0 : Int32)), .val (.int (0 : Int32)), .val (.int z1), .val (.ref w_EXECUTE), .val (.int (1 : Int32)), .val (.int (1 : Int32))] []))
        refine Go.st (fun _ => XS.iloadN X3.here hx rfl (hb hby d4_156) rfl) ?_
        show Go p e below _ (T3.setTop (mkF m 157 #[.val (.ref a1), .val (.int p1), .val (.int (0 : Int32)), .val (.int (1 : Int32)), .val (.int (0 : Int32)), .val (.int (0 : Int32)), .val (.int z1), .val (.ref w_EXECUTE), .val (.int (1 : Int32)), .val (.int (1 : Int32))] [(.int (1 : Int32))]))
        refine Go.st (fun _ => XS.iload X3.here hx rfl (hb hby d4_157) rfl) ?_
        show Go p e below _ (T3.setTop (mkF m 159 #[.val (.ref a1), .val (.int p1), .val (.int (0 : Int32)), .val (.int (1 : Int32)), .val (.int (0 : Int32)), .val (.int (0 : Int32)), .val (.int z1), .val (.ref w_EXECUTE), .val (.int (1 : Int32)), .val (.int (1 : Int32))] [(.int (0 : Int32)), (.int (1 : Int32))]))
        refine Go.st (fun _ => XS.ifYes X3.here hx rfl (pc0 := 159) (pc' := 166) rfl (hb hby d4_159) rfl ((if0 _ _).trans (teq (by decide : (0 : Int32) = (0 : Int32))).1) (by decide) (by decide)) ?_
        show Go p e below _ (T3.setTop (mkF m 166 #[.val (.ref a1), .val (.int p1), .val (.int (0 : Int32)), .val (.int (1 : Int32)), .val (.int (0 : Int32)), .val (.int (0 : Int32)), .val (.int z1), .val (.ref w_EXECUTE), .val (.int (1 : Int32)), .val (.int (1 : Int32))] [(.int (1 : Int32))]))
        refine Go.st (fun _ => XS.iconst X3.here hx rfl (hb hby d4_166)) ?_
        show Go p e below _ (T3.setTop (mkF m 167 #[.val (.ref a1), .val (.int p1), .val (.int (0 : Int32)), .val (.int (1 : Int32)), .val (.int (0 : Int32)), .val (.int (0 : Int32)), .val (.int z1), .val (.ref w_EXECUTE), .val (.int (1 : Int32)), .val (.int (1 : Int32))] [(.int (0 : Int32)), (.int (1 : Int32))]))
        refine Go.st (fun _ => XS.ior X3.here hx rfl (hb hby d4_167) rfl) ?_
        show Go p e below _ (T3.setTop (mkF m 168 #[.val (.ref a1), .val (.int p1), .val (.int (0 : Int32)), .val (.int (1 : Int32)), .val (.int (0 : Int32)), .val (.int (0 : Int32)), .val (.int z1), .val (.ref w_EXECUTE), .val (.int (1 : Int32)), .val (.int (1 : Int32))] [(.int (1 : Int32))]))
        exact goRetI X3 hx hlk hret rfl (hb hby d4_168) (by decide) (by decide) ⟨_, rfl, by decide, N3, K5, ⟨_, _, _, _, ⟨Eb3, Ub3, Fb0_3, Fb1_3, Fb2_3, Fb3_3, Fb4_3, Fb5_3, Fb6_3⟩, Or.inr (Or.inl ⟨rfl, rfl, rfl⟩)⟩⟩
      · show Go p e below _ (s₁.setTop (mkF m 25 #[.val (.ref a1), .val (.int p1), .val (.int (0 : Int32)), .val (.int (0 : Int32)), .val (.int (0 : Int32)), .val (.int (0 : Int32)), .unset, .unset, .unset, .unset] [(.int (p1 &&& (4 : Int32)))]))
        by_cases hc7 : (p1 &&& (4 : Int32)) = (0 : Int32)
        · refine Go.st (fun _ => XS.ifYes X0.here hx rfl (pc0 := 25) (pc' := 32) rfl (hb hby d4_25) rfl ((if0 _ _).trans (teq hc7).1) (by decide) (by decide)) ?_
          show Go p e below _ (s₁.setTop (mkF m 32 #[.val (.ref a1), .val (.int p1), .val (.int (0 : Int32)), .val (.int (0 : Int32)), .val (.int (0 : Int32)), .val (.int (0 : Int32)), .unset, .unset, .unset, .unset] []))
          refine Go.st (fun _ => XS.iconst X0.here hx rfl (hb hby d4_32)) ?_
          exact J1 _ trivial
        · refine Go.st (fun _ => XS.ifNo X0.here hx rfl (hb hby d4_25) rfl ((if0 _ _).trans (feq hc7).1)) ?_
          show Go p e below _ (s₁.setTop (mkF m 28 #[.val (.ref a1), .val (.int p1), .val (.int (0 : Int32)), .val (.int (0 : Int32)), .val (.int (0 : Int32)), .val (.int (0 : Int32)), .unset, .unset, .unset, .unset] []))
          refine Go.st (fun _ => XS.iconst X0.here hx rfl (hb hby d4_28)) ?_
          show Go p e below _ (s₁.setTop (mkF m 29 #[.val (.ref a1), .val (.int p1), .val (.int (0 : Int32)), .val (.int (0 : Int32)), .val (.int (0 : Int32)), .val (.int (0 : Int32)), .unset, .unset, .unset, .unset] [(.int (1 : Int32))]))
          refine Go.st (fun _ => XS.goto X0.here hx rfl (pc0 := 29) (pc' := 33) rfl (hb hby d4_29) (by decide) (by decide)) ?_
          exact J1 _ trivial
    · rw [q0]
      show Go p e below _ (s₁.setTop (mkF m 20 #[.val (.ref a1), .val (.int p1), .val (.int (0 : Int32)), .val (.int (0 : Int32)), .val (.int (0 : Int32)), .unset, .unset, .unset, .unset, .unset] [(.int (1 : Int32))]))
      refine Go.st (fun _ => XS.istore X0.here hx rfl (hb hby d4_20) rfl (l' := #[.val (.ref a1), .val (.int p1), .val (.int (0 : Int32)), .val (.int (0 : Int32)), .val (.int (0 : Int32)), .val (.int (1 : Int32)), .unset, .unset, .unset, .unset]) rfl) ?_
      show Go p e below _ (s₁.setTop (mkF m 22 #[.val (.ref a1), .val (.int p1), .val (.int (0 : Int32)), .val (.int (0 : Int32)), .val (.int (0 : Int32)), .val (.int (1 : Int32)), .unset, .unset, .unset, .unset] []))
      refine Go.st (fun _ => XS.iloadN X0.here hx rfl (hb hby d4_22) rfl) ?_
      show Go p e below _ (s₁.setTop (mkF m 23 #[.val (.ref a1), .val (.int p1), .val (.int (0 : Int32)), .val (.int (0 : Int32)), .val (.int (0 : Int32)), .val (.int (1 : Int32)), .unset, .unset, .unset, .unset] [(.int p1)]))
      refine Go.st (fun _ => XS.iconst X0.here hx rfl (hb hby d4_23)) ?_
      show Go p e below _ (s₁.setTop (mkF m 24 #[.val (.ref a1), .val (.int p1), .val (.int (0 : Int32)), .val (.int (0 : Int32)), .val (.int (0 : Int32)), .val (.int (1 : Int32)), .unset, .unset, .unset, .unset] [(.int (4 : Int32)), (.int p1)]))
      refine Go.st (fun _ => XS.iand X0.here hx rfl (hb hby d4_24) rfl) ?_
      show Go p e below _ (s₁.setTop (mkF m 25 #[.val (.ref a1), .val (.int p1), .val (.int (0 : Int32)), .val (.int (0 : Int32)), .val (.int (0 : Int32)), .val (.int (1 : Int32)), .unset, .unset, .unset, .unset] [(.int (p1 &&& (4 : Int32)))]))
      refine goJoin (P := fun z8 : Int32 => True) (F := fun z8 => s₁.setTop (mkF m 33 #[.val (.ref a1), .val (.int p1), .val (.int (0 : Int32)), .val (.int (0 : Int32)), .val (.int (0 : Int32)), .val (.int (1 : Int32)), .unset, .unset, .unset, .unset] [(.int z8)])) (fun z8 hz8 => ?_) (fun J8 => ?_)
      · show Go p e below _ (s₁.setTop (mkF m 33 #[.val (.ref a1), .val (.int p1), .val (.int (0 : Int32)), .val (.int (0 : Int32)), .val (.int (0 : Int32)), .val (.int (1 : Int32)), .unset, .unset, .unset, .unset] [(.int z8)]))
        refine Go.st (fun _ => XS.istore X0.here hx rfl (hb hby d4_33) rfl (l' := #[.val (.ref a1), .val (.int p1), .val (.int (0 : Int32)), .val (.int (0 : Int32)), .val (.int (0 : Int32)), .val (.int (1 : Int32)), .val (.int z8), .unset, .unset, .unset]) rfl) ?_
        show Go p e below _ (s₁.setTop (mkF m 35 #[.val (.ref a1), .val (.int p1), .val (.int (0 : Int32)), .val (.int (0 : Int32)), .val (.int (0 : Int32)), .val (.int (1 : Int32)), .val (.int z8), .unset, .unset, .unset] []))
        refine Go.st (fun _ => XS.iload X0.here hx rfl (hb hby d4_35) rfl) ?_
        show Go p e below _ (s₁.setTop (mkF m 37 #[.val (.ref a1), .val (.int p1), .val (.int (0 : Int32)), .val (.int (0 : Int32)), .val (.int (0 : Int32)), .val (.int (1 : Int32)), .val (.int z8), .unset, .unset, .unset] [(.int (1 : Int32))]))
        refine Go.st (fun _ => XS.ifNo X0.here hx rfl (hb hby d4_37) rfl ((if0 _ _).trans (feq (by decide : ¬ ((1 : Int32) = (0 : Int32)))).1)) ?_
        show Go p e below _ (s₁.setTop (mkF m 40 #[.val (.ref a1), .val (.int p1), .val (.int (0 : Int32)), .val (.int (0 : Int32)), .val (.int (0 : Int32)), .val (.int (1 : Int32)), .val (.int z8), .unset, .unset, .unset] []))
        refine Go.st (fun _ => XS.iload X0.here hx rfl (hb hby d4_40) rfl) ?_
        show Go p e below _ (s₁.setTop (mkF m 42 #[.val (.ref a1), .val (.int p1), .val (.int (0 : Int32)), .val (.int (0 : Int32)), .val (.int (0 : Int32)), .val (.int (1 : Int32)), .val (.int z8), .unset, .unset, .unset] [(.int (1 : Int32))]))
        refine Go.st (fun _ => XS.iconst X0.here hx rfl (hb hby d4_42)) ?_
        show Go p e below _ (s₁.setTop (mkF m 43 #[.val (.ref a1), .val (.int p1), .val (.int (0 : Int32)), .val (.int (0 : Int32)), .val (.int (0 : Int32)), .val (.int (1 : Int32)), .val (.int z8), .unset, .unset, .unset] [(.int (1 : Int32)), (.int (1 : Int32))]))
        refine Go.st (fun _ => XS.icmpNo X0.here hx rfl (hb hby d4_43) rfl (teq (by decide : (1 : Int32) = (1 : Int32))).2) ?_
        show Go p e below _ (s₁.setTop (mkF m 46 #[.val (.ref a1), .val (.int p1), .val (.int (0 : Int32)), .val (.int (0 : Int32)), .val (.int (0 : Int32)), .val (.int (1 : Int32)), .val (.int z8), .unset, .unset, .unset] []))
        refine Go.st (fun _ => XS.iload X0.here hx rfl (hb hby d4_46) rfl) ?_
        show Go p e below _ (s₁.setTop (mkF m 48 #[.val (.ref a1), .val (.int p1), .val (.int (0 : Int32)), .val (.int (0 : Int32)), .val (.int (0 : Int32)), .val (.int (1 : Int32)), .val (.int z8), .unset, .unset, .unset] [(.int (1 : Int32))]))
        refine Go.st (fun _ => XS.ifYes X0.here hx rfl (pc0 := 48) (pc' := 57) rfl (hb hby d4_48) rfl ((if0 _ _).trans (feq (by decide : ¬ ((1 : Int32) = (0 : Int32)))).2) (by decide) (by decide)) ?_
        show Go p e below _ (s₁.setTop (mkF m 57 #[.val (.ref a1), .val (.int p1), .val (.int (0 : Int32)), .val (.int (0 : Int32)), .val (.int (0 : Int32)), .val (.int (1 : Int32)), .val (.int z8), .unset, .unset, .unset] []))
        obtain ⟨T9, X9, e9, st9⟩ := getS2 X0 hx hZ hown (host := "") (Or.inl (hw _ (List.mem_of_getElem? (i := 59) rfl))) Via.refl e0 (oldSta O0 S_w_ADOPTER) (g := (mkF m 57 #[.val (.ref a1), .val (.int p1), .val (.int (0 : Int32)), .val (.int (0 : Int32)), .val (.int (0 : Int32)), .val (.int (1 : Int32)), .val (.int z8), .unset, .unset, .unset] [])) rfl (hb hby d4_57)
        refine Go.st st9 ?_
        show Go p e below _ (T9.setTop (mkF m 60 #[.val (.ref a1), .val (.int p1), .val (.int (0 : Int32)), .val (.int (0 : Int32)), .val (.int (0 : Int32)), .val (.int (1 : Int32)), .val (.int z8), .unset, .unset, .unset] [(.ref w_ADOPTER)]))
        refine Go.st (fun _ => XS.astore X9.here hx rfl (hb hby d4_60) rfl rfl (l' := #[.val (.ref a1), .val (.int p1), .val (.int (0 : Int32)), .val (.int (0 : Int32)), .val (.int (0 : Int32)), .val (.int (1 : Int32)), .val (.int z8), .val (.ref w_ADOPTER), .unset, .unset]) rfl) ?_
        show Go p e below _ (T9.setTop (mkF m 62 #[.val (.ref a1), .val (.int p1), .val (.int (0 : Int32)), .val (.int (0 : Int32)), .val (.int (0 : Int32)), .val (.int (1 : Int32)), .val (.int z8), .val (.ref w_ADOPTER), .unset, .unset] []))
        refine Go.st (fun _ => XS.aloadN X9.here hx rfl (hb hby d4_62) rfl rfl) ?_
        show Go p e below _ (T9.setTop (mkF m 63 #[.val (.ref a1), .val (.int p1), .val (.int (0 : Int32)), .val (.int (0 : Int32)), .val (.int (0 : Int32)), .val (.int (1 : Int32)), .val (.int z8), .val (.ref w_ADOPTER), .unset, .unset] [(.ref a1)]))
        refine Go.st (fun _ => XS.aload X9.here hx rfl (hb hby d4_63) rfl rfl) ?_
        show Go p e below _ (T9.setTop (mkF m 65 #[.val (.ref a1), .val (.int p1), .val (.int (0 : Int32)), .val (.int (0 : Int32)), .val (.int (0 : Int32)), .val (.int (1 : Int32)), .val (.int z8), .val (.ref w_ADOPTER), .unset, .unset] [(.ref w_ADOPTER), (.ref a1)]))
        refine goVirtS X9 hx hZ (y := (⟨"com/example/sidelane/sidelane/Cancellation", "claim", "(Lcom/example/sidelane/sidelane/Cancellation$Claimant;)Z"⟩ : MethodName)) (z := (⟨"com/example/sidelane/sidelane/Cancellation", "claim", "(Lcom/example/sidelane/sidelane/Cancellation$Claimant;)Z"⟩ : MethodName)) hown (hw _ (List.mem_of_getElem? (i := 25) rfl)) (hw _ (List.mem_of_getElem? (i := 26) rfl)) (notFace_of_selects (args := #[]) (mvT hZ (hw _ (List.mem_of_getElem? (i := 28) rfl)))) (hw _ (List.mem_of_getElem? (i := 28) rfl)) (hw _ (List.mem_of_getElem? (i := 27) rfl)) (hw _ (List.mem_of_getElem? (i := 2) rfl)) (hw _ (List.mem_of_getElem? (i := 29) rfl)) (by decide) (a := a1) (argsL := [(.ref w_ADOPTER)]) (rest := []) e9 Eb (cm00 l Z a0 hw a1 w_ADOPTER en oc h0 n0 O0 Ub g1 Eb Fb0 Fb1 Fb2 Fb3 Fb4 Fb5 Fb6) 0 (by decide) (by decide) (by decide) (by decide) (mkF m 65 #[.val (.ref a1), .val (.int p1), .val (.int (0 : Int32)), .val (.int (0 : Int32)), .val (.int (0 : Int32)), .val (.int (1 : Int32)), .val (.int z8), .val (.ref w_ADOPTER), .unset, .unset] [(.ref w_ADOPTER), (.ref a1)]) rfl (by rw [hml]; rfl) (lenOf pd_3 rfl) rfl (hb hby d4_65) (Nat.le_of_eq rfl) ?_
        intro v10 T10 L10 X10 hQ10
        obtain ⟨rfl, M10, K10, ⟨Eb10, Ub10, Fb0_10, Fb1_10, Fb2_10, Fb3_10, Fb4_10, Fb5_10, Fb6_10⟩⟩ := hQ10
        have N10 := Fr.app N0 M10
        have O11 : Old Z n0 T10.heap := O0.keep K10 (allS g1 all0)
        have K12 : Keep h0 T10.heap [a1] := (Keep.refl h0 [a1]).trans K10 (allS (Or.inl (List.mem_of_getElem? (i := 0) rfl)) all0)
        have E_13 : Exa Z T10.heap a1 "com/example/sidelane/sidelane/Cancellation" := Eb.keep K10
        show Go p e below _ (T10.setTop (mkF m 68 #[.val (.ref a1), .val (.int p1), .val (.int (0 : Int32)), .val (.int (0 : Int32)), .val (.int (0 : Int32)), .val (.int (1 : Int32)), .val (.int z8), .val (.ref w_ADOPTER), .unset, .unset] [(.int (1 : Int32))]))
        refine Go.st (fun _ => XS.istore X10.here hx rfl (hb hby d4_68) rfl (l' := #[.val (.ref a1), .val (.int p1), .val (.int (0 : Int32)), .val (.int (0 : Int32)), .val (.int (0 : Int32)), .val (.int (1 : Int32)), .val (.int z8), .val (.ref w_ADOPTER), .val (.int (1 : Int32)), .unset]) rfl) ?_
        show Go p e below _ (T10.setTop (mkF m 70 #[.val (.ref a1), .val (.int p1), .val (.int (0 : Int32)), .val (.int (0 : Int32)), .val (.int (0 : Int32)), .val (.int (1 : Int32)), .val (.int z8), .val (.ref w_ADOPTER), .val (.int (1 : Int32)), .unset] []))
        refine Go.st (fun _ => XS.iloadN X10.here hx rfl (hb hby d4_70) rfl) ?_
        show Go p e below _ (T10.setTop (mkF m 71 #[.val (.ref a1), .val (.int p1), .val (.int (0 : Int32)), .val (.int (0 : Int32)), .val (.int (0 : Int32)), .val (.int (1 : Int32)), .val (.int z8), .val (.ref w_ADOPTER), .val (.int (1 : Int32)), .unset] [(.int (0 : Int32))]))
        refine Go.st (fun _ => XS.ifNo X10.here hx rfl (hb hby d4_71) rfl ((if0 _ _).trans (teq (by decide : (0 : Int32) = (0 : Int32))).2)) ?_
        show Go p e below _ (T10.setTop (mkF m 74 #[.val (.ref a1), .val (.int p1), .val (.int (0 : Int32)), .val (.int (0 : Int32)), .val (.int (0 : Int32)), .val (.int (1 : Int32)), .val (.int z8), .val (.ref w_ADOPTER), .val (.int (1 : Int32)), .unset] []))
        refine Go.st (fun _ => XS.iload X10.here hx rfl (hb hby d4_74) rfl) ?_
        show Go p e below _ (T10.setTop (mkF m 76 #[.val (.ref a1), .val (.int p1), .val (.int (0 : Int32)), .val (.int (0 : Int32)), .val (.int (0 : Int32)), .val (.int (1 : Int32)), .val (.int z8), .val (.ref w_ADOPTER), .val (.int (1 : Int32)), .unset] [(.int (0 : Int32))]))
        refine Go.st (fun _ => XS.ifNo X10.here hx rfl (hb hby d4_76) rfl ((if0 _ _).trans (teq (by decide : (0 : Int32) = (0 : Int32))).2)) ?_
        show Go p e below _ (T10.setTop (mkF m 79 #[.val (.ref a1), .val (.int p1), .val (.int (0 : Int32)), .val (.int (0 : Int32)), .val (.int (0 : Int32)), .val (.int (1 : Int32)), .val (.int z8), .val (.ref w_ADOPTER), .val (.int (1 : Int32)), .unset] []))
        refine Go.st (fun _ => XS.iconst X10.here hx rfl (hb hby d4_79)) ?_
        show Go p e below _ (T10.setTop (mkF m 80 #[.val (.ref a1), .val (.int p1), .val (.int (0 : Int32)), .val (.int (0 : Int32)), .val (.int (0 : Int32)), .val (.int (1 : Int32)), .val (.int z8), .val (.ref w_ADOPTER), .val (.int (1 : Int32)), .unset] [(.int (1 : Int32))]))
        refine Go.st (fun _ => XS.goto X10.here hx rfl (pc0 := 80) (pc' := 84) rfl (hb hby d4_80) (by decide) (by decide)) ?_
        show Go p e below _ (T10.setTop (mkF m 84 #[.val (.ref a1), .val (.int p1), .val (.int (0 : Int32)), .val (.int (0 : Int32)), .val (.int (0 : Int32)), .val (.int (1 : Int32)), .val (.int z8), .val (.ref w_ADOPTER), .val (.int (1 : Int32)), .unset] [(.int (1 : Int32))]))
        refine Go.st (fun _ => XS.istore X10.here hx rfl (hb hby d4_84) rfl (l' := #[.val (.ref a1), .val (.int p1), .val (.int (0 : Int32)), .val (.int (0 : Int32)), .val (.int (0 : Int32)), .val (.int (1 : Int32)), .val (.int z8), .val (.ref w_ADOPTER), .val (.int (1 : Int32)), .val (.int (1 : Int32))]) rfl) ?_
        show Go p e below _ (T10.setTop (mkF m 86 #[.val (.ref a1), .val (.int p1), .val (.int (0 : Int32)), .val (.int (0 : Int32)), .val (.int (0 : Int32)), .val (.int (1 : Int32)), .val (.int z8), .val (.ref w_ADOPTER), .val (.int (1 : Int32)), .val (.int (1 : Int32))] []))
        refine Go.st (fun _ => XS.iload X10.here hx rfl (hb hby d4_86) rfl) ?_
        show Go p e below _ (T10.setTop (mkF m 88 #[.val (.ref a1), .val (.int p1), .val (.int (0 : Int32)), .val (.int (0 : Int32)), .val (.int (0 : Int32)), .val (.int (1 : Int32)), .val (.int z8), .val (.ref w_ADOPTER), .val (.int (1 : Int32)), .val (.int (1 : Int32))] [(.int (1 : Int32))]))
        refine Go.st (fun _ => XS.iload X10.here hx rfl (hb hby d4_88) rfl) ?_
        show Go p e below _ (T10.setTop (mkF m 90 #[.val (.ref a1), .val (.int p1), .val (.int (0 : Int32)), .val (.int (0 : Int32)), .val (.int (0 : Int32)), .val (.int (1 : Int32)), .val (.int z8), .val (.ref w_ADOPTER), .val (.int (1 : Int32)), .val (.int (1 : Int32))] [(.int (1 : Int32)), (.int (1 : Int32))]))
        refine Go.st (fun _ => XS.icmpYes X10.here hx rfl (pc0 := 90) (pc' := 95) rfl (hb hby d4_90) rfl (teq (by decide : (1 : Int32) = (1 : Int32))).1 (by decide) (by decide)) ?_
        show Go p e below _ (T10.setTop (mkF m 95 #[.val (.ref a1), .val (.int p1), .val (.int (0 : Int32)), .val (.int (0 : Int32)), .val (.int (0 : Int32)), .val (.int (1 : Int32)), .val (.int z8), .val (.ref w_ADOPTER), .val (.int (1 : Int32)), .val (.int (1 : Int32))] []))
        refine Go.st (fun _ => XS.iload X10.here hx rfl (hb hby d4_95) rfl) ?_
        show Go p e below _ (T10.setTop (mkF m 97 #[.val (.ref a1), .val (.int p1), .val (.int (0 : Int32)), .val (.int (0 : Int32)), .val (.int (0 : Int32)), .val (.int (1 : Int32)), .val (.int z8), .val (.ref w_ADOPTER), .val (.int (1 : Int32)), .val (.int (1 : Int32))] [(.int (1 : Int32))]))
        refine Go.st (fun _ => XS.ifNo X10.here hx rfl (hb hby d4_97) rfl ((if0 _ _).trans (feq (by decide : ¬ ((1 : Int32) = (0 : Int32)))).1)) ?_
        show Go p e below _ (T10.setTop (mkF m 100 #[.val (.ref a1), .val (.int p1), .val (.int (0 : Int32)), .val (.int (0 : Int32)), .val (.int (0 : Int32)), .val (.int (1 : Int32)), .val (.int z8), .val (.ref w_ADOPTER), .val (.int (1 : Int32)), .val (.int (1 : Int32))] []))
        refine Go.st (fun _ => XS.iload X10.here hx rfl (hb hby d4_100) rfl) ?_
        show Go p e below _ (T10.setTop (mkF m 102 #[.val (.ref a1), .val (.int p1), .val (.int (0 : Int32)), .val (.int (0 : Int32)), .val (.int (0 : Int32)), .val (.int (1 : Int32)), .val (.int z8), .val (.ref w_ADOPTER), .val (.int (1 : Int32)), .val (.int (1 : Int32))] [(.int (1 : Int32))]))
        refine Go.st (fun _ => XS.iconst X10.here hx rfl (hb hby d4_102)) ?_
        show Go p e below _ (T10.setTop (mkF m 103 #[.val (.ref a1), .val (.int p1), .val (.int (0 : Int32)), .val (.int (0 : Int32)), .val (.int (0 : Int32)), .val (.int (1 : Int32)), .val (.int z8), .val (.ref w_ADOPTER), .val (.int (1 : Int32)), .val (.int (1 : Int32))] [(.int (1 : Int32)), (.int (1 : Int32))]))
        refine Go.st (fun _ => XS.iadd X10.here hx rfl (hb hby d4_103) rfl) ?_
        show Go p e below _ (T10.setTop (mkF m 104 #[.val (.ref a1), .val (.int p1), .val (.int (0 : Int32)), .val (.int (0 : Int32)), .val (.int (0 : Int32)), .val (.int (1 : Int32)), .val (.int z8), .val (.ref w_ADOPTER), .val (.int (1 : Int32)), .val (.int (1 : Int32))] [(.int (2 : Int32))]))
        refine Go.st (fun _ => XS.istoreN X10.here hx rfl (hb hby d4_104) rfl (l' := #[.val (.ref a1), .val (.int p1), .val (.int (0 : Int32)), .val (.int (2 : Int32)), .val (.int (0 : Int32)), .val (.int (1 : Int32)), .val (.int z8), .val (.ref w_ADOPTER), .val (.int (1 : Int32)), .val (.int (1 : Int32))]) rfl) ?_
        show Go p e below _ (T10.setTop (mkF m 105 #[.val (.ref a1), .val (.int p1), .val (.int (0 : Int32)), .val (.int (2 : Int32)), .val (.int (0 : Int32)), .val (.int (1 : Int32)), .val (.int z8), .val (.ref w_ADOPTER), .val (.int (1 : Int32)), .val (.int (1 : Int32))] []))
        refine Go.st (fun _ => XS.goto X10.here hx rfl (pc0 := 105) (pc' := 156) rfl (hb hby d4_105) (by decide) (by decide)) ?_
        show Go p e below _ (T10.setTop (mkF m 156 #[.val (.ref a1), .val (.int p1), .val (.int (0 : Int32)), .val (.int (2 : Int32)), .val (.int (0 : Int32)), .val (.int (1 : Int32)), .val (.int z8), .val (.ref w_ADOPTER), .val (.int (1 : Int32)), .val (.int (1 : Int32))] []))
        refine Go.st (fun _ => XS.iloadN X10.here hx rfl (hb hby d4_156) rfl) ?_
        show Go p e below _ (T10.setTop (mkF m 157 #[.val (.ref a1), .val (.int p1), .val (.int (0 : Int32)), .val (.int (2 : Int32)), .val (.int (0 : Int32)), .val (.int (1 : Int32)), .val (.int z8), .val (.ref w_ADOPTER), .val (.int (1 : Int32)), .val (.int (1 : Int32))] [(.int (2 : Int32))]))
        refine Go.st (fun _ => XS.iload X10.here hx rfl (hb hby d4_157) rfl) ?_
        show Go p e below _ (T10.setTop (mkF m 159 #[.val (.ref a1), .val (.int p1), .val (.int (0 : Int32)), .val (.int (2 : Int32)), .val (.int (0 : Int32)), .val (.int (1 : Int32)), .val (.int z8), .val (.ref w_ADOPTER), .val (.int (1 : Int32)), .val (.int (1 : Int32))] [(.int (0 : Int32)), (.int (2 : Int32))]))
        refine Go.st (fun _ => XS.ifYes X10.here hx rfl (pc0 := 159) (pc' := 166) rfl (hb hby d4_159) rfl ((if0 _ _).trans (teq (by decide : (0 : Int32) = (0 : Int32))).1) (by decide) (by decide)) ?_
        show Go p e below _ (T10.setTop (mkF m 166 #[.val (.ref a1), .val (.int p1), .val (.int (0 : Int32)), .val (.int (2 : Int32)), .val (.int (0 : Int32)), .val (.int (1 : Int32)), .val (.int z8), .val (.ref w_ADOPTER), .val (.int (1 : Int32)), .val (.int (1 : Int32))] [(.int (2 : Int32))]))
        refine Go.st (fun _ => XS.iconst X10.here hx rfl (hb hby d4_166)) ?_
        show Go p e below _ (T10.setTop (mkF m 167 #[.val (.ref a1), .val (.int p1), .val (.int (0 : Int32)), .val (.int (2 : Int32)), .val (.int (0 : Int32)), .val (.int (1 : Int32)), .val (.int z8), .val (.ref w_ADOPTER), .val (.int (1 : Int32)), .val (.int (1 : Int32))] [(.int (0 : Int32)), (.int (2 : Int32))]))
        refine Go.st (fun _ => XS.ior X10.here hx rfl (hb hby d4_167) rfl) ?_
        show Go p e below _ (T10.setTop (mkF m 168 #[.val (.ref a1), .val (.int p1), .val (.int (0 : Int32)), .val (.int (2 : Int32)), .val (.int (0 : Int32)), .val (.int (1 : Int32)), .val (.int z8), .val (.ref w_ADOPTER), .val (.int (1 : Int32)), .val (.int (1 : Int32))] [(.int (2 : Int32))]))
        exact goRetI X10 hx hlk hret rfl (hb hby d4_168) (by decide) (by decide) ⟨_, rfl, by decide, N10, K12, ⟨_, _, _, _, ⟨Eb10, Ub10, Fb0_10, Fb1_10, Fb2_10, Fb3_10, Fb4_10, Fb5_10, Fb6_10⟩, Or.inr (Or.inr (Or.inl ⟨rfl, rfl, rfl⟩))⟩⟩
      · show Go p e below _ (s₁.setTop (mkF m 25 #[.val (.ref a1), .val (.int p1), .val (.int (0 : Int32)), .val (.int (0 : Int32)), .val (.int (0 : Int32)), .val (.int (1 : Int32)), .unset, .unset, .unset, .unset] [(.int (p1 &&& (4 : Int32)))]))
        by_cases hc14 : (p1 &&& (4 : Int32)) = (0 : Int32)
        · refine Go.st (fun _ => XS.ifYes X0.here hx rfl (pc0 := 25) (pc' := 32) rfl (hb hby d4_25) rfl ((if0 _ _).trans (teq hc14).1) (by decide) (by decide)) ?_
          show Go p e below _ (s₁.setTop (mkF m 32 #[.val (.ref a1), .val (.int p1), .val (.int (0 : Int32)), .val (.int (0 : Int32)), .val (.int (0 : Int32)), .val (.int (1 : Int32)), .unset, .unset, .unset, .unset] []))
          refine Go.st (fun _ => XS.iconst X0.here hx rfl (hb hby d4_32)) ?_
          exact J8 _ trivial
        · refine Go.st (fun _ => XS.ifNo X0.here hx rfl (hb hby d4_25) rfl ((if0 _ _).trans (feq hc14).1)) ?_
          show Go p e below _ (s₁.setTop (mkF m 28 #[.val (.ref a1), .val (.int p1), .val (.int (0 : Int32)), .val (.int (0 : Int32)), .val (.int (0 : Int32)), .val (.int (1 : Int32)), .unset, .unset, .unset, .unset] []))
          refine Go.st (fun _ => XS.iconst X0.here hx rfl (hb hby d4_28)) ?_
          show Go p e below _ (s₁.setTop (mkF m 29 #[.val (.ref a1), .val (.int p1), .val (.int (0 : Int32)), .val (.int (0 : Int32)), .val (.int (0 : Int32)), .val (.int (1 : Int32)), .unset, .unset, .unset, .unset] [(.int (1 : Int32))]))
          refine Go.st (fun _ => XS.goto X0.here hx rfl (pc0 := 29) (pc' := 33) rfl (hb hby d4_29) (by decide) (by decide)) ?_
          exact J8 _ trivial
    · rw [q0]
      show Go p e below _ (s₁.setTop (mkF m 20 #[.val (.ref a1), .val (.int p1), .val (.int (0 : Int32)), .val (.int (0 : Int32)), .val (.int (0 : Int32)), .unset, .unset, .unset, .unset, .unset] [(.int (2 : Int32))]))
      refine Go.st (fun _ => XS.istore X0.here hx rfl (hb hby d4_20) rfl (l' := #[.val (.ref a1), .val (.int p1), .val (.int (0 : Int32)), .val (.int (0 : Int32)), .val (.int (0 : Int32)), .val (.int (2 : Int32)), .unset, .unset, .unset, .unset]) rfl) ?_
      show Go p e below _ (s₁.setTop (mkF m 22 #[.val (.ref a1), .val (.int p1), .val (.int (0 : Int32)), .val (.int (0 : Int32)), .val (.int (0 : Int32)), .val (.int (2 : Int32)), .unset, .unset, .unset, .unset] []))
      refine Go.st (fun _ => XS.iloadN X0.here hx rfl (hb hby d4_22) rfl) ?_
      show Go p e below _ (s₁.setTop (mkF m 23 #[.val (.ref a1), .val (.int p1), .val (.int (0 : Int32)), .val (.int (0 : Int32)), .val (.int (0 : Int32)), .val (.int (2 : Int32)), .unset, .unset, .unset, .unset] [(.int p1)]))
      refine Go.st (fun _ => XS.iconst X0.here hx rfl (hb hby d4_23)) ?_
      show Go p e below _ (s₁.setTop (mkF m 24 #[.val (.ref a1), .val (.int p1), .val (.int (0 : Int32)), .val (.int (0 : Int32)), .val (.int (0 : Int32)), .val (.int (2 : Int32)), .unset, .unset, .unset, .unset] [(.int (4 : Int32)), (.int p1)]))
      refine Go.st (fun _ => XS.iand X0.here hx rfl (hb hby d4_24) rfl) ?_
      show Go p e below _ (s₁.setTop (mkF m 25 #[.val (.ref a1), .val (.int p1), .val (.int (0 : Int32)), .val (.int (0 : Int32)), .val (.int (0 : Int32)), .val (.int (2 : Int32)), .unset, .unset, .unset, .unset] [(.int (p1 &&& (4 : Int32)))]))
      refine goJoin (P := fun z15 : Int32 => True) (F := fun z15 => s₁.setTop (mkF m 33 #[.val (.ref a1), .val (.int p1), .val (.int (0 : Int32)), .val (.int (0 : Int32)), .val (.int (0 : Int32)), .val (.int (2 : Int32)), .unset, .unset, .unset, .unset] [(.int z15)])) (fun z15 hz15 => ?_) (fun J15 => ?_)
      · show Go p e below _ (s₁.setTop (mkF m 33 #[.val (.ref a1), .val (.int p1), .val (.int (0 : Int32)), .val (.int (0 : Int32)), .val (.int (0 : Int32)), .val (.int (2 : Int32)), .unset, .unset, .unset, .unset] [(.int z15)]))
        refine Go.st (fun _ => XS.istore X0.here hx rfl (hb hby d4_33) rfl (l' := #[.val (.ref a1), .val (.int p1), .val (.int (0 : Int32)), .val (.int (0 : Int32)), .val (.int (0 : Int32)), .val (.int (2 : Int32)), .val (.int z15), .unset, .unset, .unset]) rfl) ?_
        show Go p e below _ (s₁.setTop (mkF m 35 #[.val (.ref a1), .val (.int p1), .val (.int (0 : Int32)), .val (.int (0 : Int32)), .val (.int (0 : Int32)), .val (.int (2 : Int32)), .val (.int z15), .unset, .unset, .unset] []))
        refine Go.st (fun _ => XS.iload X0.here hx rfl (hb hby d4_35) rfl) ?_
        show Go p e below _ (s₁.setTop (mkF m 37 #[.val (.ref a1), .val (.int p1), .val (.int (0 : Int32)), .val (.int (0 : Int32)), .val (.int (0 : Int32)), .val (.int (2 : Int32)), .val (.int z15), .unset, .unset, .unset] [(.int (2 : Int32))]))
        refine Go.st (fun _ => XS.ifNo X0.here hx rfl (hb hby d4_37) rfl ((if0 _ _).trans (feq (by decide : ¬ ((2 : Int32) = (0 : Int32)))).1)) ?_
        show Go p e below _ (s₁.setTop (mkF m 40 #[.val (.ref a1), .val (.int p1), .val (.int (0 : Int32)), .val (.int (0 : Int32)), .val (.int (0 : Int32)), .val (.int (2 : Int32)), .val (.int z15), .unset, .unset, .unset] []))
        refine Go.st (fun _ => XS.iload X0.here hx rfl (hb hby d4_40) rfl) ?_
        show Go p e below _ (s₁.setTop (mkF m 42 #[.val (.ref a1), .val (.int p1), .val (.int (0 : Int32)), .val (.int (0 : Int32)), .val (.int (0 : Int32)), .val (.int (2 : Int32)), .val (.int z15), .unset, .unset, .unset] [(.int (2 : Int32))]))
        refine Go.st (fun _ => XS.iconst X0.here hx rfl (hb hby d4_42)) ?_
        show Go p e below _ (s₁.setTop (mkF m 43 #[.val (.ref a1), .val (.int p1), .val (.int (0 : Int32)), .val (.int (0 : Int32)), .val (.int (0 : Int32)), .val (.int (2 : Int32)), .val (.int z15), .unset, .unset, .unset] [(.int (1 : Int32)), (.int (2 : Int32))]))
        refine Go.st (fun _ => XS.icmpYes X0.here hx rfl (pc0 := 43) (pc' := 108) rfl (hb hby d4_43) rfl (feq (by decide : ¬ ((2 : Int32) = (1 : Int32)))).2 (by decide) (by decide)) ?_
        show Go p e below _ (s₁.setTop (mkF m 108 #[.val (.ref a1), .val (.int p1), .val (.int (0 : Int32)), .val (.int (0 : Int32)), .val (.int (0 : Int32)), .val (.int (2 : Int32)), .val (.int z15), .unset, .unset, .unset] []))
        refine Go.st (fun _ => XS.iload X0.here hx rfl (hb hby d4_108) rfl) ?_
        show Go p e below _ (s₁.setTop (mkF m 110 #[.val (.ref a1), .val (.int p1), .val (.int (0 : Int32)), .val (.int (0 : Int32)), .val (.int (0 : Int32)), .val (.int (2 : Int32)), .val (.int z15), .unset, .unset, .unset] [(.int (2 : Int32))]))
        refine Go.st (fun _ => XS.iconst X0.here hx rfl (hb hby d4_110)) ?_
        show Go p e below _ (s₁.setTop (mkF m 111 #[.val (.ref a1), .val (.int p1), .val (.int (0 : Int32)), .val (.int (0 : Int32)), .val (.int (0 : Int32)), .val (.int (2 : Int32)), .val (.int z15), .unset, .unset, .unset] [(.int (3 : Int32)), (.int (2 : Int32))]))
        refine Go.st (fun _ => XS.icmpYes X0.here hx rfl (pc0 := 111) (pc' := 121) rfl (hb hby d4_111) rfl (feq (by decide : ¬ ((2 : Int32) = (3 : Int32)))).2 (by decide) (by decide)) ?_
        show Go p e below _ (s₁.setTop (mkF m 121 #[.val (.ref a1), .val (.int p1), .val (.int (0 : Int32)), .val (.int (0 : Int32)), .val (.int (0 : Int32)), .val (.int (2 : Int32)), .val (.int z15), .unset, .unset, .unset] []))
        refine Go.st (fun _ => XS.aconstNull X0.here hx rfl (hb hby d4_121)) ?_
        show Go p e below _ (s₁.setTop (mkF m 122 #[.val (.ref a1), .val (.int p1), .val (.int (0 : Int32)), .val (.int (0 : Int32)), .val (.int (0 : Int32)), .val (.int (2 : Int32)), .val (.int z15), .unset, .unset, .unset] [.null]))
        refine Go.st (fun _ => XS.astore X0.here hx rfl (hb hby d4_122) rfl rfl (l' := #[.val (.ref a1), .val (.int p1), .val (.int (0 : Int32)), .val (.int (0 : Int32)), .val (.int (0 : Int32)), .val (.int (2 : Int32)), .val (.int z15), .val .null, .unset, .unset]) rfl) ?_
        show Go p e below _ (s₁.setTop (mkF m 124 #[.val (.ref a1), .val (.int p1), .val (.int (0 : Int32)), .val (.int (0 : Int32)), .val (.int (0 : Int32)), .val (.int (2 : Int32)), .val (.int z15), .val .null, .unset, .unset] []))
        refine Go.st (fun _ => XS.aloadN X0.here hx rfl (hb hby d4_124) rfl rfl) ?_
        show Go p e below _ (s₁.setTop (mkF m 125 #[.val (.ref a1), .val (.int p1), .val (.int (0 : Int32)), .val (.int (0 : Int32)), .val (.int (0 : Int32)), .val (.int (2 : Int32)), .val (.int z15), .val .null, .unset, .unset] [(.ref a1)]))
        refine Go.st (fun _ => XS.iload X0.here hx rfl (hb hby d4_125) rfl) ?_
        show Go p e below _ (s₁.setTop (mkF m 127 #[.val (.ref a1), .val (.int p1), .val (.int (0 : Int32)), .val (.int (0 : Int32)), .val (.int (0 : Int32)), .val (.int (2 : Int32)), .val (.int z15), .val .null, .unset, .unset] [(.int z15), (.ref a1)]))
        refine Go.st (fun _ => XS.aload X0.here hx rfl (hb hby d4_127) rfl rfl) ?_
        show Go p e below _ (s₁.setTop (mkF m 129 #[.val (.ref a1), .val (.int p1), .val (.int (0 : Int32)), .val (.int (0 : Int32)), .val (.int (0 : Int32)), .val (.int (2 : Int32)), .val (.int z15), .val .null, .unset, .unset] [.null, (.int z15), (.ref a1)]))
        refine goVirtS X0 hx hZ (y := (⟨"com/example/sidelane/sidelane/Cancellation", "cancel", "(ZLjava/lang/Object;)Lcom/example/sidelane/sidelane/Cancellation$Outcome;"⟩ : MethodName)) (z := (⟨"com/example/sidelane/sidelane/Cancellation", "cancel", "(ZLjava/lang/Object;)Lcom/example/sidelane/sidelane/Cancellation$Outcome;"⟩ : MethodName)) hown (hw _ (List.mem_of_getElem? (i := 38) rfl)) (hw _ (List.mem_of_getElem? (i := 39) rfl)) (notFace_of_selects (args := #[]) (mvT hZ (hw _ (List.mem_of_getElem? (i := 41) rfl)))) (hw _ (List.mem_of_getElem? (i := 41) rfl)) (hw _ (List.mem_of_getElem? (i := 40) rfl)) (hw _ (List.mem_of_getElem? (i := 2) rfl)) (hw _ (List.mem_of_getElem? (i := 42) rfl)) (by decide) (a := a1) (argsL := [(.int z15), .null]) (rest := []) e0 Eb (caE l Z a0 hw a1 z15  en oc w_EXECUTE w_ADOPTER w_CANCELLED w_REFUSED w_HANDED_OVER w_CANCELLED_UNEXECUTED w_ENDING_NEEDED h0 n0 O0 Ub g1 Eb Fb0 Fb1 Fb2 Fb3 Fb4 Fb5 Fb6 S_w_EXECUTE S_w_ADOPTER S_w_CANCELLED S_w_REFUSED S_w_HANDED_OVER S_w_CANCELLED_UNEXECUTED S_w_ENDING_NEEDED ne_w_EXECUTE_w_ADOPTER) 0 (by decide) (by decide) (by decide) (by decide) (mkF m 129 #[.val (.ref a1), .val (.int p1), .val (.int (0 : Int32)), .val (.int (0 : Int32)), .val (.int (0 : Int32)), .val (.int (2 : Int32)), .val (.int z15), .val .null, .unset, .unset] [.null, (.int z15), (.ref a1)]) rfl (by rw [hml]; rfl) (lenOf pd_4 rfl) rfl (hb hby d4_129) (Nat.le_of_eq rfl) ?_
        intro v16 T16 L16 X16 hQ16
        obtain ⟨⟨r16, rfl⟩, M16, K16, ⟨Eb16, Ub16, Fb0_16, Fb1_16, Fb2_16, Fb3_16, Fb4_16, Fb5_16, Fb6_16⟩⟩ := hQ16
        have N16 := Fr.app N0 M16
        have O17 : Old Z n0 T16.heap := O0.keep K16 (allS g1 all0)
        have K18 : Keep h0 T16.heap [a1] := (Keep.refl h0 [a1]).trans K16 (allS (Or.inl (List.mem_of_getElem? (i := 0) rfl)) all0)
        have E_19 : Exa Z T16.heap a1 "com/example/sidelane/sidelane/Cancellation" := Eb.keep K16
        show Go p e below _ (T16.setTop (mkF m 132 #[.val (.ref a1), .val (.int p1), .val (.int (0 : Int32)), .val (.int (0 : Int32)), .val (.int (0 : Int32)), .val (.int (2 : Int32)), .val (.int z15), .val .null, .unset, .unset] [(.ref r16)]))
        refine Go.st (fun _ => XS.pop X16.here hx rfl (hb hby d4_132) rfl rfl) ?_
        show Go p e below _ (T16.setTop (mkF m 133 #[.val (.ref a1), .val (.int p1), .val (.int (0 : Int32)), .val (.int (0 : Int32)), .val (.int (0 : Int32)), .val (.int (2 : Int32)), .val (.int z15), .val .null, .unset, .unset] []))
        refine Go.st (fun _ => XS.iloadN X16.here hx rfl (hb hby d4_133) rfl) ?_
        show Go p e below _ (T16.setTop (mkF m 134 #[.val (.ref a1), .val (.int p1), .val (.int (0 : Int32)), .val (.int (0 : Int32)), .val (.int (0 : Int32)), .val (.int (2 : Int32)), .val (.int z15), .val .null, .unset, .unset] [(.int (0 : Int32))]))
        refine Go.st (fun _ => XS.iconst X16.here hx rfl (hb hby d4_134)) ?_
        show Go p e below _ (T16.setTop (mkF m 135 #[.val (.ref a1), .val (.int p1), .val (.int (0 : Int32)), .val (.int (0 : Int32)), .val (.int (0 : Int32)), .val (.int (2 : Int32)), .val (.int z15), .val .null, .unset, .unset] [(.int (2 : Int32)), (.int (0 : Int32))]))
        refine Go.st (fun _ => XS.icmpNo X16.here hx rfl (hb hby d4_135) rfl (feq (by decide : ¬ ((0 : Int32) = (2 : Int32)))).1) ?_
        show Go p e below _ (T16.setTop (mkF m 138 #[.val (.ref a1), .val (.int p1), .val (.int (0 : Int32)), .val (.int (0 : Int32)), .val (.int (0 : Int32)), .val (.int (2 : Int32)), .val (.int z15), .val .null, .unset, .unset] []))
        refine Go.st (fun _ => XS.iload X16.here hx rfl (hb hby d4_138) rfl) ?_
        show Go p e below _ (T16.setTop (mkF m 140 #[.val (.ref a1), .val (.int p1), .val (.int (0 : Int32)), .val (.int (0 : Int32)), .val (.int (0 : Int32)), .val (.int (2 : Int32)), .val (.int z15), .val .null, .unset, .unset] [(.int (0 : Int32))]))
        refine Go.st (fun _ => XS.ifNo X16.here hx rfl (hb hby d4_140) rfl ((if0 _ _).trans (teq (by decide : (0 : Int32) = (0 : Int32))).2)) ?_
        show Go p e below _ (T16.setTop (mkF m 143 #[.val (.ref a1), .val (.int p1), .val (.int (0 : Int32)), .val (.int (0 : Int32)), .val (.int (0 : Int32)), .val (.int (2 : Int32)), .val (.int z15), .val .null, .unset, .unset] []))
        refine Go.st (fun _ => XS.iloadN X16.here hx rfl (hb hby d4_143) rfl) ?_
        show Go p e below _ (T16.setTop (mkF m 144 #[.val (.ref a1), .val (.int p1), .val (.int (0 : Int32)), .val (.int (0 : Int32)), .val (.int (0 : Int32)), .val (.int (2 : Int32)), .val (.int z15), .val .null, .unset, .unset] [(.int (0 : Int32))]))
        refine Go.st (fun _ => XS.iconst X16.here hx rfl (hb hby d4_144)) ?_
        show Go p e below _ (T16.setTop (mkF m 145 #[.val (.ref a1), .val (.int p1), .val (.int (0 : Int32)), .val (.int (0 : Int32)), .val (.int (0 : Int32)), .val (.int (2 : Int32)), .val (.int z15), .val .null, .unset, .unset] [(.int (1 : Int32)), (.int (0 : Int32))]))
        refine Go.st (fun _ => XS.icmpNo X16.here hx rfl (hb hby d4_145) rfl (feq (by decide : ¬ ((0 : Int32) = (1 : Int32)))).1) ?_
        show Go p e below _ (T16.setTop (mkF m 148 #[.val (.ref a1), .val (.int p1), .val (.int (0 : Int32)), .val (.int (0 : Int32)), .val (.int (0 : Int32)), .val (.int (2 : Int32)), .val (.int z15), .val .null, .unset, .unset] []))
        refine Go.st (fun _ => XS.aload X16.here hx rfl (hb hby d4_148) rfl rfl) ?_
        show Go p e below _ (T16.setTop (mkF m 150 #[.val (.ref a1), .val (.int p1), .val (.int (0 : Int32)), .val (.int (0 : Int32)), .val (.int (0 : Int32)), .val (.int (2 : Int32)), .val (.int z15), .val .null, .unset, .unset] [.null]))
        refine Go.st (fun _ => XS.ifnullYes X16.here hx rfl (pc0 := 150) (pc' := 156) rfl (hb hby d4_150) rfl (by decide) (by decide)) ?_
        show Go p e below _ (T16.setTop (mkF m 156 #[.val (.ref a1), .val (.int p1), .val (.int (0 : Int32)), .val (.int (0 : Int32)), .val (.int (0 : Int32)), .val (.int (2 : Int32)), .val (.int z15), .val .null, .unset, .unset] []))
        refine Go.st (fun _ => XS.iloadN X16.here hx rfl (hb hby d4_156) rfl) ?_
        show Go p e below _ (T16.setTop (mkF m 157 #[.val (.ref a1), .val (.int p1), .val (.int (0 : Int32)), .val (.int (0 : Int32)), .val (.int (0 : Int32)), .val (.int (2 : Int32)), .val (.int z15), .val .null, .unset, .unset] [(.int (0 : Int32))]))
        refine Go.st (fun _ => XS.iload X16.here hx rfl (hb hby d4_157) rfl) ?_
        show Go p e below _ (T16.setTop (mkF m 159 #[.val (.ref a1), .val (.int p1), .val (.int (0 : Int32)), .val (.int (0 : Int32)), .val (.int (0 : Int32)), .val (.int (2 : Int32)), .val (.int z15), .val .null, .unset, .unset] [(.int (0 : Int32)), (.int (0 : Int32))]))
        refine Go.st (fun _ => XS.ifYes X16.here hx rfl (pc0 := 159) (pc' := 166) rfl (hb hby d4_159) rfl ((if0 _ _).trans (teq (by decide : (0 : Int32) = (0 : Int32))).1) (by decide) (by decide)) ?_
        show Go p e below _ (T16.setTop (mkF m 166 #[.val (.ref a1), .val (.int p1), .val (.int (0 : Int32)), .val (.int (0 : Int32)), .val (.int (0 : Int32)), .val (.int (2 : Int32)), .val (.int z15), .val .null, .unset, .unset] [(.int (0 : Int32))]))
        refine Go.st (fun _ => XS.iconst X16.here hx rfl (hb hby d4_166)) ?_
        show Go p e below _ (T16.setTop (mkF m 167 #[.val (.ref a1), .val (.int p1), .val (.int (0 : Int32)), .val (.int (0 : Int32)), .val (.int (0 : Int32)), .val (.int (2 : Int32)), .val (.int z15), .val .null, .unset, .unset] [(.int (0 : Int32)), (.int (0 : Int32))]))
        refine Go.st (fun _ => XS.ior X16.here hx rfl (hb hby d4_167) rfl) ?_
        show Go p e below _ (T16.setTop (mkF m 168 #[.val (.ref a1), .val (.int p1), .val (.int (0 : Int32)), .val (.int (0 : Int32)), .val (.int (0 : Int32)), .val (.int (2 : Int32)), .val (.int z15), .val .null, .unset, .unset] [(.int (0 : Int32))]))
        exact goRetI X16 hx hlk hret rfl (hb hby d4_168) (by decide) (by decide) ⟨_, rfl, by decide, N16, K18, ⟨_, _, _, _, ⟨Eb16, Ub16, Fb0_16, Fb1_16, Fb2_16, Fb3_16, Fb4_16, Fb5_16, Fb6_16⟩, Or.inl ⟨rfl, rfl, rfl⟩⟩⟩
      · show Go p e below _ (s₁.setTop (mkF m 25 #[.val (.ref a1), .val (.int p1), .val (.int (0 : Int32)), .val (.int (0 : Int32)), .val (.int (0 : Int32)), .val (.int (2 : Int32)), .unset, .unset, .unset, .unset] [(.int (p1 &&& (4 : Int32)))]))
        by_cases hc20 : (p1 &&& (4 : Int32)) = (0 : Int32)
        · refine Go.st (fun _ => XS.ifYes X0.here hx rfl (pc0 := 25) (pc' := 32) rfl (hb hby d4_25) rfl ((if0 _ _).trans (teq hc20).1) (by decide) (by decide)) ?_
          show Go p e below _ (s₁.setTop (mkF m 32 #[.val (.ref a1), .val (.int p1), .val (.int (0 : Int32)), .val (.int (0 : Int32)), .val (.int (0 : Int32)), .val (.int (2 : Int32)), .unset, .unset, .unset, .unset] []))
          refine Go.st (fun _ => XS.iconst X0.here hx rfl (hb hby d4_32)) ?_
          exact J15 _ trivial
        · refine Go.st (fun _ => XS.ifNo X0.here hx rfl (hb hby d4_25) rfl ((if0 _ _).trans (feq hc20).1)) ?_
          show Go p e below _ (s₁.setTop (mkF m 28 #[.val (.ref a1), .val (.int p1), .val (.int (0 : Int32)), .val (.int (0 : Int32)), .val (.int (0 : Int32)), .val (.int (2 : Int32)), .unset, .unset, .unset, .unset] []))
          refine Go.st (fun _ => XS.iconst X0.here hx rfl (hb hby d4_28)) ?_
          show Go p e below _ (s₁.setTop (mkF m 29 #[.val (.ref a1), .val (.int p1), .val (.int (0 : Int32)), .val (.int (0 : Int32)), .val (.int (0 : Int32)), .val (.int (2 : Int32)), .unset, .unset, .unset, .unset] [(.int (1 : Int32))]))
          refine Go.st (fun _ => XS.goto X0.here hx rfl (pc0 := 29) (pc' := 33) rfl (hb hby d4_29) (by decide) (by decide)) ?_
          exact J15 _ trivial
    · rw [q0]
      show Go p e below _ (s₁.setTop (mkF m 20 #[.val (.ref a1), .val (.int p1), .val (.int (0 : Int32)), .val (.int (0 : Int32)), .val (.int (0 : Int32)), .unset, .unset, .unset, .unset, .unset] [(.int (3 : Int32))]))
      refine Go.st (fun _ => XS.istore X0.here hx rfl (hb hby d4_20) rfl (l' := #[.val (.ref a1), .val (.int p1), .val (.int (0 : Int32)), .val (.int (0 : Int32)), .val (.int (0 : Int32)), .val (.int (3 : Int32)), .unset, .unset, .unset, .unset]) rfl) ?_
      show Go p e below _ (s₁.setTop (mkF m 22 #[.val (.ref a1), .val (.int p1), .val (.int (0 : Int32)), .val (.int (0 : Int32)), .val (.int (0 : Int32)), .val (.int (3 : Int32)), .unset, .unset, .unset, .unset] []))
      refine Go.st (fun _ => XS.iloadN X0.here hx rfl (hb hby d4_22) rfl) ?_
      show Go p e below _ (s₁.setTop (mkF m 23 #[.val (.ref a1), .val (.int p1), .val (.int (0 : Int32)), .val (.int (0 : Int32)), .val (.int (0 : Int32)), .val (.int (3 : Int32)), .unset, .unset, .unset, .unset] [(.int p1)]))
      refine Go.st (fun _ => XS.iconst X0.here hx rfl (hb hby d4_23)) ?_
      show Go p e below _ (s₁.setTop (mkF m 24 #[.val (.ref a1), .val (.int p1), .val (.int (0 : Int32)), .val (.int (0 : Int32)), .val (.int (0 : Int32)), .val (.int (3 : Int32)), .unset, .unset, .unset, .unset] [(.int (4 : Int32)), (.int p1)]))
      refine Go.st (fun _ => XS.iand X0.here hx rfl (hb hby d4_24) rfl) ?_
      show Go p e below _ (s₁.setTop (mkF m 25 #[.val (.ref a1), .val (.int p1), .val (.int (0 : Int32)), .val (.int (0 : Int32)), .val (.int (0 : Int32)), .val (.int (3 : Int32)), .unset, .unset, .unset, .unset] [(.int (p1 &&& (4 : Int32)))]))
      refine goJoin (P := fun z21 : Int32 => True) (F := fun z21 => s₁.setTop (mkF m 33 #[.val (.ref a1), .val (.int p1), .val (.int (0 : Int32)), .val (.int (0 : Int32)), .val (.int (0 : Int32)), .val (.int (3 : Int32)), .unset, .unset, .unset, .unset] [(.int z21)])) (fun z21 hz21 => ?_) (fun J21 => ?_)
      · show Go p e below _ (s₁.setTop (mkF m 33 #[.val (.ref a1), .val (.int p1), .val (.int (0 : Int32)), .val (.int (0 : Int32)), .val (.int (0 : Int32)), .val (.int (3 : Int32)), .unset, .unset, .unset, .unset] [(.int z21)]))
        refine Go.st (fun _ => XS.istore X0.here hx rfl (hb hby d4_33) rfl (l' := #[.val (.ref a1), .val (.int p1), .val (.int (0 : Int32)), .val (.int (0 : Int32)), .val (.int (0 : Int32)), .val (.int (3 : Int32)), .val (.int z21), .unset, .unset, .unset]) rfl) ?_
        show Go p e below _ (s₁.setTop (mkF m 35 #[.val (.ref a1), .val (.int p1), .val (.int (0 : Int32)), .val (.int (0 : Int32)), .val (.int (0 : Int32)), .val (.int (3 : Int32)), .val (.int z21), .unset, .unset, .unset] []))
        refine Go.st (fun _ => XS.iload X0.here hx rfl (hb hby d4_35) rfl) ?_
        show Go p e below _ (s₁.setTop (mkF m 37 #[.val (.ref a1), .val (.int p1), .val (.int (0 : Int32)), .val (.int (0 : Int32)), .val (.int (0 : Int32)), .val (.int (3 : Int32)), .val (.int z21), .unset, .unset, .unset] [(.int (3 : Int32))]))
        refine Go.st (fun _ => XS.ifNo X0.here hx rfl (hb hby d4_37) rfl ((if0 _ _).trans (feq (by decide : ¬ ((3 : Int32) = (0 : Int32)))).1)) ?_
        show Go p e below _ (s₁.setTop (mkF m 40 #[.val (.ref a1), .val (.int p1), .val (.int (0 : Int32)), .val (.int (0 : Int32)), .val (.int (0 : Int32)), .val (.int (3 : Int32)), .val (.int z21), .unset, .unset, .unset] []))
        refine Go.st (fun _ => XS.iload X0.here hx rfl (hb hby d4_40) rfl) ?_
        show Go p e below _ (s₁.setTop (mkF m 42 #[.val (.ref a1), .val (.int p1), .val (.int (0 : Int32)), .val (.int (0 : Int32)), .val (.int (0 : Int32)), .val (.int (3 : Int32)), .val (.int z21), .unset, .unset, .unset] [(.int (3 : Int32))]))
        refine Go.st (fun _ => XS.iconst X0.here hx rfl (hb hby d4_42)) ?_
        show Go p e below _ (s₁.setTop (mkF m 43 #[.val (.ref a1), .val (.int p1), .val (.int (0 : Int32)), .val (.int (0 : Int32)), .val (.int (0 : Int32)), .val (.int (3 : Int32)), .val (.int z21), .unset, .unset, .unset] [(.int (1 : Int32)), (.int (3 : Int32))]))
        refine Go.st (fun _ => XS.icmpYes X0.here hx rfl (pc0 := 43) (pc' := 108) rfl (hb hby d4_43) rfl (feq (by decide : ¬ ((3 : Int32) = (1 : Int32)))).2 (by decide) (by decide)) ?_
        show Go p e below _ (s₁.setTop (mkF m 108 #[.val (.ref a1), .val (.int p1), .val (.int (0 : Int32)), .val (.int (0 : Int32)), .val (.int (0 : Int32)), .val (.int (3 : Int32)), .val (.int z21), .unset, .unset, .unset] []))
        refine Go.st (fun _ => XS.iload X0.here hx rfl (hb hby d4_108) rfl) ?_
        show Go p e below _ (s₁.setTop (mkF m 110 #[.val (.ref a1), .val (.int p1), .val (.int (0 : Int32)), .val (.int (0 : Int32)), .val (.int (0 : Int32)), .val (.int (3 : Int32)), .val (.int z21), .unset, .unset, .unset] [(.int (3 : Int32))]))
        refine Go.st (fun _ => XS.iconst X0.here hx rfl (hb hby d4_110)) ?_
        show Go p e below _ (s₁.setTop (mkF m 111 #[.val (.ref a1), .val (.int p1), .val (.int (0 : Int32)), .val (.int (0 : Int32)), .val (.int (0 : Int32)), .val (.int (3 : Int32)), .val (.int z21), .unset, .unset, .unset] [(.int (3 : Int32)), (.int (3 : Int32))]))
        refine Go.st (fun _ => XS.icmpNo X0.here hx rfl (hb hby d4_111) rfl (teq (by decide : (3 : Int32) = (3 : Int32))).2) ?_
        show Go p e below _ (s₁.setTop (mkF m 114 #[.val (.ref a1), .val (.int p1), .val (.int (0 : Int32)), .val (.int (0 : Int32)), .val (.int (0 : Int32)), .val (.int (3 : Int32)), .val (.int z21), .unset, .unset, .unset] []))
        refine Go.st (fun _ => XS.iloadN X0.here hx rfl (hb hby d4_114) rfl) ?_
        show Go p e below _ (s₁.setTop (mkF m 115 #[.val (.ref a1), .val (.int p1), .val (.int (0 : Int32)), .val (.int (0 : Int32)), .val (.int (0 : Int32)), .val (.int (3 : Int32)), .val (.int z21), .unset, .unset, .unset] [(.int p1)]))
        refine goCallS X0 hx hZ (y := (⟨"java/lang/Integer", "valueOf", "(I)Ljava/lang/Integer;"⟩ : MethodName)) hown (hw _ (List.mem_of_getElem? (i := 31) rfl)) (hw _ (List.mem_of_getElem? (i := 32) rfl)) (hw _ (List.mem_of_getElem? (i := 33) rfl)) (hw _ (List.mem_of_getElem? (i := 34) rfl)) (by decide) (argsL := [(.int p1)]) (rest := []) e0 (rmBox l Z a0 hw [] p1 wc cl h0 n0 O0 S_cache S_high BX) 0 (by decide) (by decide) (by decide) (by decide) (mkF m 115 #[.val (.ref a1), .val (.int p1), .val (.int (0 : Int32)), .val (.int (0 : Int32)), .val (.int (0 : Int32)), .val (.int (3 : Int32)), .val (.int z21), .unset, .unset, .unset] [(.int p1)]) rfl (by rw [hml]; rfl) (lenOf pd_5 rfl) rfl (hb hby d4_115) (Nat.le_of_eq rfl) ?_
        intro v22 T22 L22 X22 hQ22
        obtain ⟨⟨r22, rfl, Er22, Gr22⟩, M22, K22⟩ := hQ22
        have N22 := Fr.app N0 M22
        have O23 : Old Z n0 T22.heap := O0.keep K22 all0
        have K24 : Keep h0 T22.heap [a1] := (Keep.refl h0 [a1]).trans K22 all0
        have E_25 : Exa Z T22.heap a1 "com/example/sidelane/sidelane/Cancellation" := Eb.keep K22
        have Y26 : Unt T22.heap a1 := untKeep Ub K22 nin0
        have F27 : Fld Z T22.heap a1 "com/example/sidelane/sidelane/Cancellation" "claimedBy" "Lcom/example/sidelane/sidelane/Cancellation$Claimant;" .null := Fb0.keep K22 nin0
        have F28 : Fld Z T22.heap a1 "com/example/sidelane/sidelane/Cancellation" "cancelled" "Z" (.int (0 : Int32)) := Fb1.keep K22 nin0
        have F29 : Fld Z T22.heap a1 "com/example/sidelane/sidelane/Cancellation" "endingBegun" "Z" (.int (0 : Int32)) := Fb2.keep K22 nin0
        have F30 : Fld Z T22.heap a1 "com/example/sidelane/sidelane/Cancellation" "queued" "Z" (.int (0 : Int32)) := Fb3.keep K22 nin0
        have F31 : Fld Z T22.heap a1 "com/example/sidelane/sidelane/Cancellation" "runner" "Ljava/lang/Thread;" .null := Fb4.keep K22 nin0
        have F32 : Fld Z T22.heap a1 "com/example/sidelane/sidelane/Cancellation" "cancelEnding" "Ljava/lang/Object;" en := Fb5.keep K22 nin0
        have F33 : Fld Z T22.heap a1 "com/example/sidelane/sidelane/Cancellation" "cancelOutcome" "Lcom/example/sidelane/sidelane/Cancellation$Outcome;" oc := Fb6.keep K22 nin0
        show Go p e below _ (T22.setTop (mkF m 118 #[.val (.ref a1), .val (.int p1), .val (.int (0 : Int32)), .val (.int (0 : Int32)), .val (.int (0 : Int32)), .val (.int (3 : Int32)), .val (.int z21), .unset, .unset, .unset] [(.ref r22)]))
        refine Go.st (fun _ => XS.goto X22.here hx rfl (pc0 := 118) (pc' := 122) rfl (hb hby d4_118) (by decide) (by decide)) ?_
        show Go p e below _ (T22.setTop (mkF m 122 #[.val (.ref a1), .val (.int p1), .val (.int (0 : Int32)), .val (.int (0 : Int32)), .val (.int (0 : Int32)), .val (.int (3 : Int32)), .val (.int z21), .unset, .unset, .unset] [(.ref r22)]))
        refine Go.st (fun _ => XS.astore X22.here hx rfl (hb hby d4_122) rfl rfl (l' := #[.val (.ref a1), .val (.int p1), .val (.int (0 : Int32)), .val (.int (0 : Int32)), .val (.int (0 : Int32)), .val (.int (3 : Int32)), .val (.int z21), .val (.ref r22), .unset, .unset]) rfl) ?_
        show Go p e below _ (T22.setTop (mkF m 124 #[.val (.ref a1), .val (.int p1), .val (.int (0 : Int32)), .val (.int (0 : Int32)), .val (.int (0 : Int32)), .val (.int (3 : Int32)), .val (.int z21), .val (.ref r22), .unset, .unset] []))
        refine Go.st (fun _ => XS.aloadN X22.here hx rfl (hb hby d4_124) rfl rfl) ?_
        show Go p e below _ (T22.setTop (mkF m 125 #[.val (.ref a1), .val (.int p1), .val (.int (0 : Int32)), .val (.int (0 : Int32)), .val (.int (0 : Int32)), .val (.int (3 : Int32)), .val (.int z21), .val (.ref r22), .unset, .unset] [(.ref a1)]))
        refine Go.st (fun _ => XS.iload X22.here hx rfl (hb hby d4_125) rfl) ?_
        show Go p e below _ (T22.setTop (mkF m 127 #[.val (.ref a1), .val (.int p1), .val (.int (0 : Int32)), .val (.int (0 : Int32)), .val (.int (0 : Int32)), .val (.int (3 : Int32)), .val (.int z21), .val (.ref r22), .unset, .unset] [(.int z21), (.ref a1)]))
        refine Go.st (fun _ => XS.aload X22.here hx rfl (hb hby d4_127) rfl rfl) ?_
        show Go p e below _ (T22.setTop (mkF m 129 #[.val (.ref a1), .val (.int p1), .val (.int (0 : Int32)), .val (.int (0 : Int32)), .val (.int (0 : Int32)), .val (.int (3 : Int32)), .val (.int z21), .val (.ref r22), .unset, .unset] [(.ref r22), (.int z21), (.ref a1)]))
        refine goVirtS X22 hx hZ (y := (⟨"com/example/sidelane/sidelane/Cancellation", "cancel", "(ZLjava/lang/Object;)Lcom/example/sidelane/sidelane/Cancellation$Outcome;"⟩ : MethodName)) (z := (⟨"com/example/sidelane/sidelane/Cancellation", "cancel", "(ZLjava/lang/Object;)Lcom/example/sidelane/sidelane/Cancellation$Outcome;"⟩ : MethodName)) hown (hw _ (List.mem_of_getElem? (i := 38) rfl)) (hw _ (List.mem_of_getElem? (i := 39) rfl)) (notFace_of_selects (args := #[]) (mvT hZ (hw _ (List.mem_of_getElem? (i := 41) rfl)))) (hw _ (List.mem_of_getElem? (i := 41) rfl)) (hw _ (List.mem_of_getElem? (i := 40) rfl)) (hw _ (List.mem_of_getElem? (i := 2) rfl)) (hw _ (List.mem_of_getElem? (i := 42) rfl)) (by decide) (a := a1) (argsL := [(.int z21), (.ref r22)]) (rest := []) rfl E_25 (caF l Z a0 hw a1 z21 r22 en oc w_EXECUTE w_ADOPTER w_CANCELLED w_REFUSED w_HANDED_OVER w_CANCELLED_UNEXECUTED w_ENDING_NEEDED T22.heap n0 O23 Y26 g1 E_25 F27 F28 F29 F30 F31 F32 F33 S_w_EXECUTE S_w_ADOPTER S_w_CANCELLED S_w_REFUSED S_w_HANDED_OVER S_w_CANCELLED_UNEXECUTED S_w_ENDING_NEEDED ne_w_EXECUTE_w_ADOPTER) 0 (by decide) (by decide) (by decide) (by decide) (mkF m 129 #[.val (.ref a1), .val (.int p1), .val (.int (0 : Int32)), .val (.int (0 : Int32)), .val (.int (0 : Int32)), .val (.int (3 : Int32)), .val (.int z21), .val (.ref r22), .unset, .unset] [(.ref r22), (.int z21), (.ref a1)]) rfl (by rw [hml]; rfl) (lenOf pd_4 rfl) rfl (hb hby d4_129) (Nat.le_of_eq rfl) ?_
        intro v34 T34 L34 X34 hQ34
        obtain ⟨⟨r34, rfl⟩, M34, K34, ⟨Eb34, Ub34, Fb0_34, Fb1_34, Fb2_34, Fb3_34, Fb4_34, Fb5_34, Fb6_34⟩⟩ := hQ34
        have N34 := Fr.app N22 M34
        have O35 : Old Z n0 T34.heap := O23.keep K34 (allS g1 all0)
        have K36 : Keep h0 T34.heap [a1] := K24.trans K34 (allS (Or.inl (List.mem_of_getElem? (i := 0) rfl)) all0)
        have E_37 : Exa Z T34.heap a1 "com/example/sidelane/sidelane/Cancellation" := E_25.keep K34
        show Go p e below _ (T34.setTop (mkF m 132 #[.val (.ref a1), .val (.int p1), .val (.int (0 : Int32)), .val (.int (0 : Int32)), .val (.int (0 : Int32)), .val (.int (3 : Int32)), .val (.int z21), .val (.ref r22), .unset, .unset] [(.ref r34)]))
        refine Go.st (fun _ => XS.pop X34.here hx rfl (hb hby d4_132) rfl rfl) ?_
        show Go p e below _ (T34.setTop (mkF m 133 #[.val (.ref a1), .val (.int p1), .val (.int (0 : Int32)), .val (.int (0 : Int32)), .val (.int (0 : Int32)), .val (.int (3 : Int32)), .val (.int z21), .val (.ref r22), .unset, .unset] []))
        refine Go.st (fun _ => XS.iloadN X34.here hx rfl (hb hby d4_133) rfl) ?_
        show Go p e below _ (T34.setTop (mkF m 134 #[.val (.ref a1), .val (.int p1), .val (.int (0 : Int32)), .val (.int (0 : Int32)), .val (.int (0 : Int32)), .val (.int (3 : Int32)), .val (.int z21), .val (.ref r22), .unset, .unset] [(.int (0 : Int32))]))
        refine Go.st (fun _ => XS.iconst X34.here hx rfl (hb hby d4_134)) ?_
        show Go p e below _ (T34.setTop (mkF m 135 #[.val (.ref a1), .val (.int p1), .val (.int (0 : Int32)), .val (.int (0 : Int32)), .val (.int (0 : Int32)), .val (.int (3 : Int32)), .val (.int z21), .val (.ref r22), .unset, .unset] [(.int (2 : Int32)), (.int (0 : Int32))]))
        refine Go.st (fun _ => XS.icmpNo X34.here hx rfl (hb hby d4_135) rfl (feq (by decide : ¬ ((0 : Int32) = (2 : Int32)))).1) ?_
        show Go p e below _ (T34.setTop (mkF m 138 #[.val (.ref a1), .val (.int p1), .val (.int (0 : Int32)), .val (.int (0 : Int32)), .val (.int (0 : Int32)), .val (.int (3 : Int32)), .val (.int z21), .val (.ref r22), .unset, .unset] []))
        refine Go.st (fun _ => XS.iload X34.here hx rfl (hb hby d4_138) rfl) ?_
        show Go p e below _ (T34.setTop (mkF m 140 #[.val (.ref a1), .val (.int p1), .val (.int (0 : Int32)), .val (.int (0 : Int32)), .val (.int (0 : Int32)), .val (.int (3 : Int32)), .val (.int z21), .val (.ref r22), .unset, .unset] [(.int (0 : Int32))]))
        refine Go.st (fun _ => XS.ifNo X34.here hx rfl (hb hby d4_140) rfl ((if0 _ _).trans (teq (by decide : (0 : Int32) = (0 : Int32))).2)) ?_
        show Go p e below _ (T34.setTop (mkF m 143 #[.val (.ref a1), .val (.int p1), .val (.int (0 : Int32)), .val (.int (0 : Int32)), .val (.int (0 : Int32)), .val (.int (3 : Int32)), .val (.int z21), .val (.ref r22), .unset, .unset] []))
        refine Go.st (fun _ => XS.iloadN X34.here hx rfl (hb hby d4_143) rfl) ?_
        show Go p e below _ (T34.setTop (mkF m 144 #[.val (.ref a1), .val (.int p1), .val (.int (0 : Int32)), .val (.int (0 : Int32)), .val (.int (0 : Int32)), .val (.int (3 : Int32)), .val (.int z21), .val (.ref r22), .unset, .unset] [(.int (0 : Int32))]))
        refine Go.st (fun _ => XS.iconst X34.here hx rfl (hb hby d4_144)) ?_
        show Go p e below _ (T34.setTop (mkF m 145 #[.val (.ref a1), .val (.int p1), .val (.int (0 : Int32)), .val (.int (0 : Int32)), .val (.int (0 : Int32)), .val (.int (3 : Int32)), .val (.int z21), .val (.ref r22), .unset, .unset] [(.int (1 : Int32)), (.int (0 : Int32))]))
        refine Go.st (fun _ => XS.icmpNo X34.here hx rfl (hb hby d4_145) rfl (feq (by decide : ¬ ((0 : Int32) = (1 : Int32)))).1) ?_
        show Go p e below _ (T34.setTop (mkF m 148 #[.val (.ref a1), .val (.int p1), .val (.int (0 : Int32)), .val (.int (0 : Int32)), .val (.int (0 : Int32)), .val (.int (3 : Int32)), .val (.int z21), .val (.ref r22), .unset, .unset] []))
        refine Go.st (fun _ => XS.aload X34.here hx rfl (hb hby d4_148) rfl rfl) ?_
        show Go p e below _ (T34.setTop (mkF m 150 #[.val (.ref a1), .val (.int p1), .val (.int (0 : Int32)), .val (.int (0 : Int32)), .val (.int (0 : Int32)), .val (.int (3 : Int32)), .val (.int z21), .val (.ref r22), .unset, .unset] [(.ref r22)]))
        refine Go.st (fun _ => XS.ifnullNo X34.here hx rfl (hb hby d4_150) rfl) ?_
        show Go p e below _ (T34.setTop (mkF m 153 #[.val (.ref a1), .val (.int p1), .val (.int (0 : Int32)), .val (.int (0 : Int32)), .val (.int (0 : Int32)), .val (.int (3 : Int32)), .val (.int z21), .val (.ref r22), .unset, .unset] []))
        refine Go.st (fun _ => XS.iconst X34.here hx rfl (hb hby d4_153)) ?_
        show Go p e below _ (T34.setTop (mkF m 154 #[.val (.ref a1), .val (.int p1), .val (.int (0 : Int32)), .val (.int (0 : Int32)), .val (.int (0 : Int32)), .val (.int (3 : Int32)), .val (.int z21), .val (.ref r22), .unset, .unset] [(.int (1 : Int32))]))
        refine Go.st (fun _ => XS.istore X34.here hx rfl (hb hby d4_154) rfl (l' := #[.val (.ref a1), .val (.int p1), .val (.int (0 : Int32)), .val (.int (0 : Int32)), .val (.int (1 : Int32)), .val (.int (3 : Int32)), .val (.int z21), .val (.ref r22), .unset, .unset]) rfl) ?_
        show Go p e below _ (T34.setTop (mkF m 156 #[.val (.ref a1), .val (.int p1), .val (.int (0 : Int32)), .val (.int (0 : Int32)), .val (.int (1 : Int32)), .val (.int (3 : Int32)), .val (.int z21), .val (.ref r22), .unset, .unset] []))
        refine Go.st (fun _ => XS.iloadN X34.here hx rfl (hb hby d4_156) rfl) ?_
        show Go p e below _ (T34.setTop (mkF m 157 #[.val (.ref a1), .val (.int p1), .val (.int (0 : Int32)), .val (.int (0 : Int32)), .val (.int (1 : Int32)), .val (.int (3 : Int32)), .val (.int z21), .val (.ref r22), .unset, .unset] [(.int (0 : Int32))]))
        refine Go.st (fun _ => XS.iload X34.here hx rfl (hb hby d4_157) rfl) ?_
        show Go p e below _ (T34.setTop (mkF m 159 #[.val (.ref a1), .val (.int p1), .val (.int (0 : Int32)), .val (.int (0 : Int32)), .val (.int (1 : Int32)), .val (.int (3 : Int32)), .val (.int z21), .val (.ref r22), .unset, .unset] [(.int (1 : Int32)), (.int (0 : Int32))]))
        refine Go.st (fun _ => XS.ifNo X34.here hx rfl (hb hby d4_159) rfl ((if0 _ _).trans (feq (by decide : ¬ ((1 : Int32) = (0 : Int32)))).1)) ?_
        show Go p e below _ (T34.setTop (mkF m 162 #[.val (.ref a1), .val (.int p1), .val (.int (0 : Int32)), .val (.int (0 : Int32)), .val (.int (1 : Int32)), .val (.int (3 : Int32)), .val (.int z21), .val (.ref r22), .unset, .unset] [(.int (0 : Int32))]))
        refine Go.st (fun _ => XS.iconst X34.here hx rfl (hb hby d4_162)) ?_
        show Go p e below _ (T34.setTop (mkF m 163 #[.val (.ref a1), .val (.int p1), .val (.int (0 : Int32)), .val (.int (0 : Int32)), .val (.int (1 : Int32)), .val (.int (3 : Int32)), .val (.int z21), .val (.ref r22), .unset, .unset] [(.int (4 : Int32)), (.int (0 : Int32))]))
        refine Go.st (fun _ => XS.goto X34.here hx rfl (pc0 := 163) (pc' := 167) rfl (hb hby d4_163) (by decide) (by decide)) ?_
        show Go p e below _ (T34.setTop (mkF m 167 #[.val (.ref a1), .val (.int p1), .val (.int (0 : Int32)), .val (.int (0 : Int32)), .val (.int (1 : Int32)), .val (.int (3 : Int32)), .val (.int z21), .val (.ref r22), .unset, .unset] [(.int (4 : Int32)), (.int (0 : Int32))]))
        refine Go.st (fun _ => XS.ior X34.here hx rfl (hb hby d4_167) rfl) ?_
        show Go p e below _ (T34.setTop (mkF m 168 #[.val (.ref a1), .val (.int p1), .val (.int (0 : Int32)), .val (.int (0 : Int32)), .val (.int (1 : Int32)), .val (.int (3 : Int32)), .val (.int z21), .val (.ref r22), .unset, .unset] [(.int (4 : Int32))]))
        exact goRetI X34 hx hlk hret rfl (hb hby d4_168) (by decide) (by decide) ⟨_, rfl, by decide, N34, K36, ⟨_, _, _, _, ⟨Eb34, Ub34, Fb0_34, Fb1_34, Fb2_34, Fb3_34, Fb4_34, Fb5_34, Fb6_34⟩, Or.inr (Or.inr (Or.inr (Or.inl ⟨rfl, rfl, rfl, (Or.inr ⟨_, rfl⟩), ⟨_, rfl⟩⟩)))⟩⟩
      · show Go p e below _ (s₁.setTop (mkF m 25 #[.val (.ref a1), .val (.int p1), .val (.int (0 : Int32)), .val (.int (0 : Int32)), .val (.int (0 : Int32)), .val (.int (3 : Int32)), .unset, .unset, .unset, .unset] [(.int (p1 &&& (4 : Int32)))]))
        by_cases hc38 : (p1 &&& (4 : Int32)) = (0 : Int32)
        · refine Go.st (fun _ => XS.ifYes X0.here hx rfl (pc0 := 25) (pc' := 32) rfl (hb hby d4_25) rfl ((if0 _ _).trans (teq hc38).1) (by decide) (by decide)) ?_
          show Go p e below _ (s₁.setTop (mkF m 32 #[.val (.ref a1), .val (.int p1), .val (.int (0 : Int32)), .val (.int (0 : Int32)), .val (.int (0 : Int32)), .val (.int (3 : Int32)), .unset, .unset, .unset, .unset] []))
          refine Go.st (fun _ => XS.iconst X0.here hx rfl (hb hby d4_32)) ?_
          exact J21 _ trivial
        · refine Go.st (fun _ => XS.ifNo X0.here hx rfl (hb hby d4_25) rfl ((if0 _ _).trans (feq hc38).1)) ?_
          show Go p e below _ (s₁.setTop (mkF m 28 #[.val (.ref a1), .val (.int p1), .val (.int (0 : Int32)), .val (.int (0 : Int32)), .val (.int (0 : Int32)), .val (.int (3 : Int32)), .unset, .unset, .unset, .unset] []))
          refine Go.st (fun _ => XS.iconst X0.here hx rfl (hb hby d4_28)) ?_
          show Go p e below _ (s₁.setTop (mkF m 29 #[.val (.ref a1), .val (.int p1), .val (.int (0 : Int32)), .val (.int (0 : Int32)), .val (.int (0 : Int32)), .val (.int (3 : Int32)), .unset, .unset, .unset, .unset] [(.int (1 : Int32))]))
          refine Go.st (fun _ => XS.goto X0.here hx rfl (pc0 := 29) (pc' := 33) rfl (hb hby d4_29) (by decide) (by decide)) ?_
          exact J21 _ trivial
  · show Go p e below _ (s₁.setTop (mkF m 0 #[.val (.ref a1), .val (.int p1), .val (.int (1 : Int32)), .unset, .unset, .unset, .unset, .unset, .unset, .unset] []))
    refine Go.st (fun _ => XS.iloadN X0.here hx rfl (hb hby d4_0) rfl) ?_
    show Go p e below _ (s₁.setTop (mkF m 1 #[.val (.ref a1), .val (.int p1), .val (.int (1 : Int32)), .unset, .unset, .unset, .unset, .unset, .unset, .unset] [(.int (1 : Int32))]))
    refine Go.st (fun _ => XS.iconst X0.here hx rfl (hb hby d4_1)) ?_
    show Go p e below _ (s₁.setTop (mkF m 2 #[.val (.ref a1), .val (.int p1), .val (.int (1 : Int32)), .unset, .unset, .unset, .unset, .unset, .unset, .unset] [(.int (3 : Int32)), (.int (1 : Int32))]))
    refine Go.st (fun _ => XS.iand X0.here hx rfl (hb hby d4_2) rfl) ?_
    show Go p e below _ (s₁.setTop (mkF m 3 #[.val (.ref a1), .val (.int p1), .val (.int (1 : Int32)), .unset, .unset, .unset, .unset, .unset, .unset, .unset] [(.int (1 : Int32))]))
    refine Go.st (fun _ => XS.istoreN X0.here hx rfl (hb hby d4_3) rfl (l' := #[.val (.ref a1), .val (.int p1), .val (.int (1 : Int32)), .val (.int (1 : Int32)), .unset, .unset, .unset, .unset, .unset, .unset]) rfl) ?_
    show Go p e below _ (s₁.setTop (mkF m 4 #[.val (.ref a1), .val (.int p1), .val (.int (1 : Int32)), .val (.int (1 : Int32)), .unset, .unset, .unset, .unset, .unset, .unset] []))
    refine Go.st (fun _ => XS.iloadN X0.here hx rfl (hb hby d4_4) rfl) ?_
    show Go p e below _ (s₁.setTop (mkF m 5 #[.val (.ref a1), .val (.int p1), .val (.int (1 : Int32)), .val (.int (1 : Int32)), .unset, .unset, .unset, .unset, .unset, .unset] [(.int (1 : Int32))]))
    refine Go.st (fun _ => XS.iconst X0.here hx rfl (hb hby d4_5)) ?_
    show Go p e below _ (s₁.setTop (mkF m 6 #[.val (.ref a1), .val (.int p1), .val (.int (1 : Int32)), .val (.int (1 : Int32)), .unset, .unset, .unset, .unset, .unset, .unset] [(.int (4 : Int32)), (.int (1 : Int32))]))
    refine Go.st (fun _ => XS.iand X0.here hx rfl (hb hby d4_6) rfl) ?_
    show Go p e below _ (s₁.setTop (mkF m 7 #[.val (.ref a1), .val (.int p1), .val (.int (1 : Int32)), .val (.int (1 : Int32)), .unset, .unset, .unset, .unset, .unset, .unset] [(.int (0 : Int32))]))
    refine Go.st (fun _ => XS.ifYes X0.here hx rfl (pc0 := 7) (pc' := 14) rfl (hb hby d4_7) rfl ((if0 _ _).trans (teq (by decide : (0 : Int32) = (0 : Int32))).1) (by decide) (by decide)) ?_
    show Go p e below _ (s₁.setTop (mkF m 14 #[.val (.ref a1), .val (.int p1), .val (.int (1 : Int32)), .val (.int (1 : Int32)), .unset, .unset, .unset, .unset, .unset, .unset] []))
    refine Go.st (fun _ => XS.iconst X0.here hx rfl (hb hby d4_14)) ?_
    show Go p e below _ (s₁.setTop (mkF m 15 #[.val (.ref a1), .val (.int p1), .val (.int (1 : Int32)), .val (.int (1 : Int32)), .unset, .unset, .unset, .unset, .unset, .unset] [(.int (0 : Int32))]))
    refine Go.st (fun _ => XS.istore X0.here hx rfl (hb hby d4_15) rfl (l' := #[.val (.ref a1), .val (.int p1), .val (.int (1 : Int32)), .val (.int (1 : Int32)), .val (.int (0 : Int32)), .unset, .unset, .unset, .unset, .unset]) rfl) ?_
    show Go p e below _ (s₁.setTop (mkF m 17 #[.val (.ref a1), .val (.int p1), .val (.int (1 : Int32)), .val (.int (1 : Int32)), .val (.int (0 : Int32)), .unset, .unset, .unset, .unset, .unset] []))
    refine Go.st (fun _ => XS.iloadN X0.here hx rfl (hb hby d4_17) rfl) ?_
    show Go p e below _ (s₁.setTop (mkF m 18 #[.val (.ref a1), .val (.int p1), .val (.int (1 : Int32)), .val (.int (1 : Int32)), .val (.int (0 : Int32)), .unset, .unset, .unset, .unset, .unset] [(.int p1)]))
    refine Go.st (fun _ => XS.iconst X0.here hx rfl (hb hby d4_18)) ?_
    show Go p e below _ (s₁.setTop (mkF m 19 #[.val (.ref a1), .val (.int p1), .val (.int (1 : Int32)), .val (.int (1 : Int32)), .val (.int (0 : Int32)), .unset, .unset, .unset, .unset, .unset] [(.int (3 : Int32)), (.int p1)]))
    refine Go.st (fun _ => XS.iand X0.here hx rfl (hb hby d4_19) rfl) ?_
    show Go p e below _ (s₁.setTop (mkF m 20 #[.val (.ref a1), .val (.int p1), .val (.int (1 : Int32)), .val (.int (1 : Int32)), .val (.int (0 : Int32)), .unset, .unset, .unset, .unset, .unset] [(.int (p1 &&& (3 : Int32)))]))
    rcases own_and3 p1 with q0 | q0 | q0 | q0
    · rw [q0]
      show Go p e below _ (s₁.setTop (mkF m 20 #[.val (.ref a1), .val (.int p1), .val (.int (1 : Int32)), .val (.int (1 : Int32)), .val (.int (0 : Int32)), .unset, .unset, .unset, .unset, .unset] [(.int (0 : Int32))]))
      refine Go.st (fun _ => XS.istore X0.here hx rfl (hb hby d4_20) rfl (l' := #[.val (.ref a1), .val (.int p1), .val (.int (1 : Int32)), .val (.int (1 : Int32)), .val (.int (0 : Int32)), .val (.int (0 : Int32)), .unset, .unset, .unset, .unset]) rfl) ?_
      show Go p e below _ (s₁.setTop (mkF m 22 #[.val (.ref a1), .val (.int p1), .val (.int (1 : Int32)), .val (.int (1 : Int32)), .val (.int (0 : Int32)), .val (.int (0 : Int32)), .unset, .unset, .unset, .unset] []))
      refine Go.st (fun _ => XS.iloadN X0.here hx rfl (hb hby d4_22) rfl) ?_
      show Go p e below _ (s₁.setTop (mkF m 23 #[.val (.ref a1), .val (.int p1), .val (.int (1 : Int32)), .val (.int (1 : Int32)), .val (.int (0 : Int32)), .val (.int (0 : Int32)), .unset, .unset, .unset, .unset] [(.int p1)]))
      refine Go.st (fun _ => XS.iconst X0.here hx rfl (hb hby d4_23)) ?_
      show Go p e below _ (s₁.setTop (mkF m 24 #[.val (.ref a1), .val (.int p1), .val (.int (1 : Int32)), .val (.int (1 : Int32)), .val (.int (0 : Int32)), .val (.int (0 : Int32)), .unset, .unset, .unset, .unset] [(.int (4 : Int32)), (.int p1)]))
      refine Go.st (fun _ => XS.iand X0.here hx rfl (hb hby d4_24) rfl) ?_
      show Go p e below _ (s₁.setTop (mkF m 25 #[.val (.ref a1), .val (.int p1), .val (.int (1 : Int32)), .val (.int (1 : Int32)), .val (.int (0 : Int32)), .val (.int (0 : Int32)), .unset, .unset, .unset, .unset] [(.int (p1 &&& (4 : Int32)))]))
      refine goJoin (P := fun z39 : Int32 => True) (F := fun z39 => s₁.setTop (mkF m 33 #[.val (.ref a1), .val (.int p1), .val (.int (1 : Int32)), .val (.int (1 : Int32)), .val (.int (0 : Int32)), .val (.int (0 : Int32)), .unset, .unset, .unset, .unset] [(.int z39)])) (fun z39 hz39 => ?_) (fun J39 => ?_)
      · show Go p e below _ (s₁.setTop (mkF m 33 #[.val (.ref a1), .val (.int p1), .val (.int (1 : Int32)), .val (.int (1 : Int32)), .val (.int (0 : Int32)), .val (.int (0 : Int32)), .unset, .unset, .unset, .unset] [(.int z39)]))
        refine Go.st (fun _ => XS.istore X0.here hx rfl (hb hby d4_33) rfl (l' := #[.val (.ref a1), .val (.int p1), .val (.int (1 : Int32)), .val (.int (1 : Int32)), .val (.int (0 : Int32)), .val (.int (0 : Int32)), .val (.int z39), .unset, .unset, .unset]) rfl) ?_
        show Go p e below _ (s₁.setTop (mkF m 35 #[.val (.ref a1), .val (.int p1), .val (.int (1 : Int32)), .val (.int (1 : Int32)), .val (.int (0 : Int32)), .val (.int (0 : Int32)), .val (.int z39), .unset, .unset, .unset] []))
        refine Go.st (fun _ => XS.iload X0.here hx rfl (hb hby d4_35) rfl) ?_
        show Go p e below _ (s₁.setTop (mkF m 37 #[.val (.ref a1), .val (.int p1), .val (.int (1 : Int32)), .val (.int (1 : Int32)), .val (.int (0 : Int32)), .val (.int (0 : Int32)), .val (.int z39), .unset, .unset, .unset] [(.int (0 : Int32))]))
        refine Go.st (fun _ => XS.ifYes X0.here hx rfl (pc0 := 37) (pc' := 46) rfl (hb hby d4_37) rfl ((if0 _ _).trans (teq (by decide : (0 : Int32) = (0 : Int32))).1) (by decide) (by decide)) ?_
        show Go p e below _ (s₁.setTop (mkF m 46 #[.val (.ref a1), .val (.int p1), .val (.int (1 : Int32)), .val (.int (1 : Int32)), .val (.int (0 : Int32)), .val (.int (0 : Int32)), .val (.int z39), .unset, .unset, .unset] []))
        refine Go.st (fun _ => XS.iload X0.here hx rfl (hb hby d4_46) rfl) ?_
        show Go p e below _ (s₁.setTop (mkF m 48 #[.val (.ref a1), .val (.int p1), .val (.int (1 : Int32)), .val (.int (1 : Int32)), .val (.int (0 : Int32)), .val (.int (0 : Int32)), .val (.int z39), .unset, .unset, .unset] [(.int (0 : Int32))]))
        refine Go.st (fun _ => XS.ifNo X0.here hx rfl (hb hby d4_48) rfl ((if0 _ _).trans (teq (by decide : (0 : Int32) = (0 : Int32))).2)) ?_
        show Go p e below _ (s₁.setTop (mkF m 51 #[.val (.ref a1), .val (.int p1), .val (.int (1 : Int32)), .val (.int (1 : Int32)), .val (.int (0 : Int32)), .val (.int (0 : Int32)), .val (.int z39), .unset, .unset, .unset] []))
        obtain ⟨T40, X40, e40, st40⟩ := getS2 X0 hx hZ hown (host := "") (Or.inl (hw _ (List.mem_of_getElem? (i := 22) rfl))) Via.refl e0 (oldSta O0 S_w_EXECUTE) (g := (mkF m 51 #[.val (.ref a1), .val (.int p1), .val (.int (1 : Int32)), .val (.int (1 : Int32)), .val (.int (0 : Int32)), .val (.int (0 : Int32)), .val (.int z39), .unset, .unset, .unset] [])) rfl (hb hby d4_51)
        refine Go.st st40 ?_
        show Go p e below _ (T40.setTop (mkF m 54 #[.val (.ref a1), .val (.int p1), .val (.int (1 : Int32)), .val (.int (1 : Int32)), .val (.int (0 : Int32)), .val (.int (0 : Int32)), .val (.int z39), .unset, .unset, .unset] [(.ref w_EXECUTE)]))
        refine Go.st (fun _ => XS.goto X40.here hx rfl (pc0 := 54) (pc' := 60) rfl (hb hby d4_54) (by decide) (by decide)) ?_
        show Go p e below _ (T40.setTop (mkF m 60 #[.val (.ref a1), .val (.int p1), .val (.int (1 : Int32)), .val (.int (1 : Int32)), .val (.int (0 : Int32)), .val (.int (0 : Int32)), .val (.int z39), .unset, .unset, .unset] [(.ref w_EXECUTE)]))
        refine Go.st (fun _ => XS.astore X40.here hx rfl (hb hby d4_60) rfl rfl (l' := #[.val (.ref a1), .val (.int p1), .val (.int (1 : Int32)), .val (.int (1 : Int32)), .val (.int (0 : Int32)), .val (.int (0 : Int32)), .val (.int z39), .val (.ref w_EXECUTE), .unset, .unset]) rfl) ?_
        show Go p e below _ (T40.setTop (mkF m 62 #[.val (.ref a1), .val (.int p1), .val (.int (1 : Int32)), .val (.int (1 : Int32)), .val (.int (0 : Int32)), .val (.int (0 : Int32)), .val (.int z39), .val (.ref w_EXECUTE), .unset, .unset] []))
        refine Go.st (fun _ => XS.aloadN X40.here hx rfl (hb hby d4_62) rfl rfl) ?_
        show Go p e below _ (T40.setTop (mkF m 63 #[.val (.ref a1), .val (.int p1), .val (.int (1 : Int32)), .val (.int (1 : Int32)), .val (.int (0 : Int32)), .val (.int (0 : Int32)), .val (.int z39), .val (.ref w_EXECUTE), .unset, .unset] [(.ref a1)]))
        refine Go.st (fun _ => XS.aload X40.here hx rfl (hb hby d4_63) rfl rfl) ?_
        show Go p e below _ (T40.setTop (mkF m 65 #[.val (.ref a1), .val (.int p1), .val (.int (1 : Int32)), .val (.int (1 : Int32)), .val (.int (0 : Int32)), .val (.int (0 : Int32)), .val (.int z39), .val (.ref w_EXECUTE), .unset, .unset] [(.ref w_EXECUTE), (.ref a1)]))
        refine goVirtS X40 hx hZ (y := (⟨"com/example/sidelane/sidelane/Cancellation", "claim", "(Lcom/example/sidelane/sidelane/Cancellation$Claimant;)Z"⟩ : MethodName)) (z := (⟨"com/example/sidelane/sidelane/Cancellation", "claim", "(Lcom/example/sidelane/sidelane/Cancellation$Claimant;)Z"⟩ : MethodName)) hown (hw _ (List.mem_of_getElem? (i := 25) rfl)) (hw _ (List.mem_of_getElem? (i := 26) rfl)) (notFace_of_selects (args := #[]) (mvT hZ (hw _ (List.mem_of_getElem? (i := 28) rfl)))) (hw _ (List.mem_of_getElem? (i := 28) rfl)) (hw _ (List.mem_of_getElem? (i := 27) rfl)) (hw _ (List.mem_of_getElem? (i := 2) rfl)) (hw _ (List.mem_of_getElem? (i := 29) rfl)) (by decide) (a := a1) (argsL := [(.ref w_EXECUTE)]) (rest := []) e40 Eb (cmR0 l Z a0 hw a1 w_EXECUTE w_EXECUTE en oc h0 n0 O0 Ub g1 Eb Fb0 Fb1 Fb2 Fb3 Fb4 Fb5 Fb6) 0 (by decide) (by decide) (by decide) (by decide) (mkF m 65 #[.val (.ref a1), .val (.int p1), .val (.int (1 : Int32)), .val (.int (1 : Int32)), .val (.int (0 : Int32)), .val (.int (0 : Int32)), .val (.int z39), .val (.ref w_EXECUTE), .unset, .unset] [(.ref w_EXECUTE), (.ref a1)]) rfl (by rw [hml]; rfl) (lenOf pd_3 rfl) rfl (hb hby d4_65) (Nat.le_of_eq rfl) ?_
        intro v41 T41 L41 X41 hQ41
        obtain ⟨rfl, M41, K41, ⟨Eb41, Ub41, Fb0_41, Fb1_41, Fb2_41, Fb3_41, Fb4_41, Fb5_41, Fb6_41⟩⟩ := hQ41
        have N41 := Fr.app N0 M41
        have O42 : Old Z n0 T41.heap := O0.keep K41 (allS g1 all0)
        have K43 : Keep h0 T41.heap [a1] := (Keep.refl h0 [a1]).trans K41 (allS (Or.inl (List.mem_of_getElem? (i := 0) rfl)) all0)
        have E_44 : Exa Z T41.heap a1 "com/example/sidelane/sidelane/Cancellation" := Eb.keep K41
        show Go p e below _ (T41.setTop (mkF m 68 #[.val (.ref a1), .val (.int p1), .val (.int (1 : Int32)), .val (.int (1 : Int32)), .val (.int (0 : Int32)), .val (.int (0 : Int32)), .val (.int z39), .val (.ref w_EXECUTE), .unset, .unset] [(.int (0 : Int32))]))
        refine Go.st (fun _ => XS.istore X41.here hx rfl (hb hby d4_68) rfl (l' := #[.val (.ref a1), .val (.int p1), .val (.int (1 : Int32)), .val (.int (1 : Int32)), .val (.int (0 : Int32)), .val (.int (0 : Int32)), .val (.int z39), .val (.ref w_EXECUTE), .val (.int (0 : Int32)), .unset]) rfl) ?_
        show Go p e below _ (T41.setTop (mkF m 70 #[.val (.ref a1), .val (.int p1), .val (.int (1 : Int32)), .val (.int (1 : Int32)), .val (.int (0 : Int32)), .val (.int (0 : Int32)), .val (.int z39), .val (.ref w_EXECUTE), .val (.int (0 : Int32)), .unset] []))
        refine Go.st (fun _ => XS.iloadN X41.here hx rfl (hb hby d4_70) rfl) ?_
        show Go p e below _ (T41.setTop (mkF m 71 #[.val (.ref a1), .val (.int p1), .val (.int (1 : Int32)), .val (.int (1 : Int32)), .val (.int (0 : Int32)), .val (.int (0 : Int32)), .val (.int z39), .val (.ref w_EXECUTE), .val (.int (0 : Int32)), .unset] [(.int (1 : Int32))]))
        refine Go.st (fun _ => XS.ifYes X41.here hx rfl (pc0 := 71) (pc' := 83) rfl (hb hby d4_71) rfl ((if0 _ _).trans (feq (by decide : ¬ ((1 : Int32) = (0 : Int32)))).2) (by decide) (by decide)) ?_
        show Go p e below _ (T41.setTop (mkF m 83 #[.val (.ref a1), .val (.int p1), .val (.int (1 : Int32)), .val (.int (1 : Int32)), .val (.int (0 : Int32)), .val (.int (0 : Int32)), .val (.int z39), .val (.ref w_EXECUTE), .val (.int (0 : Int32)), .unset] []))
        refine Go.st (fun _ => XS.iconst X41.here hx rfl (hb hby d4_83)) ?_
        show Go p e below _ (T41.setTop (mkF m 84 #[.val (.ref a1), .val (.int p1), .val (.int (1 : Int32)), .val (.int (1 : Int32)), .val (.int (0 : Int32)), .val (.int (0 : Int32)), .val (.int z39), .val (.ref w_EXECUTE), .val (.int (0 : Int32)), .unset] [(.int (0 : Int32))]))
        refine Go.st (fun _ => XS.istore X41.here hx rfl (hb hby d4_84) rfl (l' := #[.val (.ref a1), .val (.int p1), .val (.int (1 : Int32)), .val (.int (1 : Int32)), .val (.int (0 : Int32)), .val (.int (0 : Int32)), .val (.int z39), .val (.ref w_EXECUTE), .val (.int (0 : Int32)), .val (.int (0 : Int32))]) rfl) ?_
        show Go p e below _ (T41.setTop (mkF m 86 #[.val (.ref a1), .val (.int p1), .val (.int (1 : Int32)), .val (.int (1 : Int32)), .val (.int (0 : Int32)), .val (.int (0 : Int32)), .val (.int z39), .val (.ref w_EXECUTE), .val (.int (0 : Int32)), .val (.int (0 : Int32))] []))
        refine Go.st (fun _ => XS.iload X41.here hx rfl (hb hby d4_86) rfl) ?_
        show Go p e below _ (T41.setTop (mkF m 88 #[.val (.ref a1), .val (.int p1), .val (.int (1 : Int32)), .val (.int (1 : Int32)), .val (.int (0 : Int32)), .val (.int (0 : Int32)), .val (.int z39), .val (.ref w_EXECUTE), .val (.int (0 : Int32)), .val (.int (0 : Int32))] [(.int (0 : Int32))]))
        refine Go.st (fun _ => XS.iload X41.here hx rfl (hb hby d4_88) rfl) ?_
        show Go p e below _ (T41.setTop (mkF m 90 #[.val (.ref a1), .val (.int p1), .val (.int (1 : Int32)), .val (.int (1 : Int32)), .val (.int (0 : Int32)), .val (.int (0 : Int32)), .val (.int z39), .val (.ref w_EXECUTE), .val (.int (0 : Int32)), .val (.int (0 : Int32))] [(.int (0 : Int32)), (.int (0 : Int32))]))
        refine Go.st (fun _ => XS.icmpYes X41.here hx rfl (pc0 := 90) (pc' := 95) rfl (hb hby d4_90) rfl (teq (by decide : (0 : Int32) = (0 : Int32))).1 (by decide) (by decide)) ?_
        show Go p e below _ (T41.setTop (mkF m 95 #[.val (.ref a1), .val (.int p1), .val (.int (1 : Int32)), .val (.int (1 : Int32)), .val (.int (0 : Int32)), .val (.int (0 : Int32)), .val (.int z39), .val (.ref w_EXECUTE), .val (.int (0 : Int32)), .val (.int (0 : Int32))] []))
        refine Go.st (fun _ => XS.iload X41.here hx rfl (hb hby d4_95) rfl) ?_
        show Go p e below _ (T41.setTop (mkF m 97 #[.val (.ref a1), .val (.int p1), .val (.int (1 : Int32)), .val (.int (1 : Int32)), .val (.int (0 : Int32)), .val (.int (0 : Int32)), .val (.int z39), .val (.ref w_EXECUTE), .val (.int (0 : Int32)), .val (.int (0 : Int32))] [(.int (0 : Int32))]))
        refine Go.st (fun _ => XS.ifYes X41.here hx rfl (pc0 := 97) (pc' := 105) rfl (hb hby d4_97) rfl ((if0 _ _).trans (teq (by decide : (0 : Int32) = (0 : Int32))).1) (by decide) (by decide)) ?_
        show Go p e below _ (T41.setTop (mkF m 105 #[.val (.ref a1), .val (.int p1), .val (.int (1 : Int32)), .val (.int (1 : Int32)), .val (.int (0 : Int32)), .val (.int (0 : Int32)), .val (.int z39), .val (.ref w_EXECUTE), .val (.int (0 : Int32)), .val (.int (0 : Int32))] []))
        refine Go.st (fun _ => XS.goto X41.here hx rfl (pc0 := 105) (pc' := 156) rfl (hb hby d4_105) (by decide) (by decide)) ?_
        show Go p e below _ (T41.setTop (mkF m 156 #[.val (.ref a1), .val (.int p1), .val (.int (1 : Int32)), .val (.int (1 : Int32)), .val (.int (0 : Int32)), .val (.int (0 : Int32)), .val (.int z39), .val (.ref w_EXECUTE), .val (.int (0 : Int32)), .val (.int (0 : Int32))] []))
        refine Go.st (fun _ => XS.iloadN X41.here hx rfl (hb hby d4_156) rfl) ?_
        show Go p e below _ (T41.setTop (mkF m 157 #[.val (.ref a1), .val (.int p1), .val (.int (1 : Int32)), .val (.int (1 : Int32)), .val (.int (0 : Int32)), .val (.int (0 : Int32)), .val (.int z39), .val (.ref w_EXECUTE), .val (.int (0 : Int32)), .val (.int (0 : Int32))] [(.int (1 : Int32))]))
        refine Go.st (fun _ => XS.iload X41.here hx rfl (hb hby d4_157) rfl) ?_
        show Go p e below _ (T41.setTop (mkF m 159 #[.val (.ref a1), .val (.int p1), .val (.int (1 : Int32)), .val (.int (1 : Int32)), .val (.int (0 : Int32)), .val (.int (0 : Int32)), .val (.int z39), .val (.ref w_EXECUTE), .val (.int (0 : Int32)), .val (.int (0 : Int32))] [(.int (0 : Int32)), (.int (1 : Int32))]))
        refine Go.st (fun _ => XS.ifYes X41.here hx rfl (pc0 := 159) (pc' := 166) rfl (hb hby d4_159) rfl ((if0 _ _).trans (teq (by decide : (0 : Int32) = (0 : Int32))).1) (by decide) (by decide)) ?_
        show Go p e below _ (T41.setTop (mkF m 166 #[.val (.ref a1), .val (.int p1), .val (.int (1 : Int32)), .val (.int (1 : Int32)), .val (.int (0 : Int32)), .val (.int (0 : Int32)), .val (.int z39), .val (.ref w_EXECUTE), .val (.int (0 : Int32)), .val (.int (0 : Int32))] [(.int (1 : Int32))]))
        refine Go.st (fun _ => XS.iconst X41.here hx rfl (hb hby d4_166)) ?_
        show Go p e below _ (T41.setTop (mkF m 167 #[.val (.ref a1), .val (.int p1), .val (.int (1 : Int32)), .val (.int (1 : Int32)), .val (.int (0 : Int32)), .val (.int (0 : Int32)), .val (.int z39), .val (.ref w_EXECUTE), .val (.int (0 : Int32)), .val (.int (0 : Int32))] [(.int (0 : Int32)), (.int (1 : Int32))]))
        refine Go.st (fun _ => XS.ior X41.here hx rfl (hb hby d4_167) rfl) ?_
        show Go p e below _ (T41.setTop (mkF m 168 #[.val (.ref a1), .val (.int p1), .val (.int (1 : Int32)), .val (.int (1 : Int32)), .val (.int (0 : Int32)), .val (.int (0 : Int32)), .val (.int z39), .val (.ref w_EXECUTE), .val (.int (0 : Int32)), .val (.int (0 : Int32))] [(.int (1 : Int32))]))
        exact goRetI X41 hx hlk hret rfl (hb hby d4_168) (by decide) (by decide) ⟨_, rfl, by decide, N41, K43, ⟨_, _, _, _, ⟨Eb41, Ub41, Fb0_41, Fb1_41, Fb2_41, Fb3_41, Fb4_41, Fb5_41, Fb6_41⟩, Or.inr (Or.inl ⟨rfl, rfl, rfl⟩)⟩⟩
      · show Go p e below _ (s₁.setTop (mkF m 25 #[.val (.ref a1), .val (.int p1), .val (.int (1 : Int32)), .val (.int (1 : Int32)), .val (.int (0 : Int32)), .val (.int (0 : Int32)), .unset, .unset, .unset, .unset] [(.int (p1 &&& (4 : Int32)))]))
        by_cases hc45 : (p1 &&& (4 : Int32)) = (0 : Int32)
        · refine Go.st (fun _ => XS.ifYes X0.here hx rfl (pc0 := 25) (pc' := 32) rfl (hb hby d4_25) rfl ((if0 _ _).trans (teq hc45).1) (by decide) (by decide)) ?_
          show Go p e below _ (s₁.setTop (mkF m 32 #[.val (.ref a1), .val (.int p1), .val (.int (1 : Int32)), .val (.int (1 : Int32)), .val (.int (0 : Int32)), .val (.int (0 : Int32)), .unset, .unset, .unset, .unset] []))
          refine Go.st (fun _ => XS.iconst X0.here hx rfl (hb hby d4_32)) ?_
          exact J39 _ trivial
        · refine Go.st (fun _ => XS.ifNo X0.here hx rfl (hb hby d4_25) rfl ((if0 _ _).trans (feq hc45).1)) ?_
          show Go p e below _ (s₁.setTop (mkF m 28 #[.val (.ref a1), .val (.int p1), .val (.int (1 : Int32)), .val (.int (1 : Int32)), .val (.int (0 : Int32)), .val (.int (0 : Int32)), .unset, .unset, .unset, .unset] []))
          refine Go.st (fun _ => XS.iconst X0.here hx rfl (hb hby d4_28)) ?_
          show Go p e below _ (s₁.setTop (mkF m 29 #[.val (.ref a1), .val (.int p1), .val (.int (1 : Int32)), .val (.int (1 : Int32)), .val (.int (0 : Int32)), .val (.int (0 : Int32)), .unset, .unset, .unset, .unset] [(.int (1 : Int32))]))
          refine Go.st (fun _ => XS.goto X0.here hx rfl (pc0 := 29) (pc' := 33) rfl (hb hby d4_29) (by decide) (by decide)) ?_
          exact J39 _ trivial
    · rw [q0]
      show Go p e below _ (s₁.setTop (mkF m 20 #[.val (.ref a1), .val (.int p1), .val (.int (1 : Int32)), .val (.int (1 : Int32)), .val (.int (0 : Int32)), .unset, .unset, .unset, .unset, .unset] [(.int (1 : Int32))]))
      refine Go.st (fun _ => XS.istore X0.here hx rfl (hb hby d4_20) rfl (l' := #[.val (.ref a1), .val (.int p1), .val (.int (1 : Int32)), .val (.int (1 : Int32)), .val (.int (0 : Int32)), .val (.int (1 : Int32)), .unset, .unset, .unset, .unset]) rfl) ?_
      show Go p e below _ (s₁.setTop (mkF m 22 #[.val (.ref a1), .val (.int p1), .val (.int (1 : Int32)), .val (.int (1 : Int32)), .val (.int (0 : Int32)), .val (.int (1 : Int32)), .unset, .unset, .unset, .unset] []))
      refine Go.st (fun _ => XS.iloadN X0.here hx rfl (hb hby d4_22) rfl) ?_
      show Go p e below _ (s₁.setTop (mkF m 23 #[.val (.ref a1), .val (.int p1), .val (.int (1 : Int32)), .val (.int (1 : Int32)), .val (.int (0 : Int32)), .val (.int (1 : Int32)), .unset, .unset, .unset, .unset] [(.int p1)]))
      refine Go.st (fun _ => XS.iconst X0.here hx rfl (hb hby d4_23)) ?_
      show Go p e below _ (s₁.setTop (mkF m 24 #[.val (.ref a1), .val (.int p1), .val (.int (1 : Int32)), .val (.int (1 : Int32)), .val (.int (0 : Int32)), .val (.int (1 : Int32)), .unset, .unset, .unset, .unset] [(.int (4 : Int32)), (.int p1)]))
      refine Go.st (fun _ => XS.iand X0.here hx rfl (hb hby d4_24) rfl) ?_
      show Go p e below _ (s₁.setTop (mkF m 25 #[.val (.ref a1), .val (.int p1), .val (.int (1 : Int32)), .val (.int (1 : Int32)), .val (.int (0 : Int32)), .val (.int (1 : Int32)), .unset, .unset, .unset, .unset] [(.int (p1 &&& (4 : Int32)))]))
      refine goJoin (P := fun z46 : Int32 => True) (F := fun z46 => s₁.setTop (mkF m 33 #[.val (.ref a1), .val (.int p1), .val (.int (1 : Int32)), .val (.int (1 : Int32)), .val (.int (0 : Int32)), .val (.int (1 : Int32)), .unset, .unset, .unset, .unset] [(.int z46)])) (fun z46 hz46 => ?_) (fun J46 => ?_)
      · show Go p e below _ (s₁.setTop (mkF m 33 #[.val (.ref a1), .val (.int p1), .val (.int (1 : Int32)), .val (.int (1 : Int32)), .val (.int (0 : Int32)), .val (.int (1 : Int32)), .unset, .unset, .unset, .unset] [(.int z46)]))
        refine Go.st (fun _ => XS.istore X0.here hx rfl (hb hby d4_33) rfl (l' := #[.val (.ref a1), .val (.int p1), .val (.int (1 : Int32)), .val (.int (1 : Int32)), .val (.int (0 : Int32)), .val (.int (1 : Int32)), .val (.int z46), .unset, .unset, .unset]) rfl) ?_
        show Go p e below _ (s₁.setTop (mkF m 35 #[.val (.ref a1), .val (.int p1), .val (.int (1 : Int32)), .val (.int (1 : Int32)), .val (.int (0 : Int32)), .val (.int (1 : Int32)), .val (.int z46), .unset, .unset, .unset] []))
        refine Go.st (fun _ => XS.iload X0.here hx rfl (hb hby d4_35) rfl) ?_
        show Go p e below _ (s₁.setTop (mkF m 37 #[.val (.ref a1), .val (.int p1), .val (.int (1 : Int32)), .val (.int (1 : Int32)), .val (.int (0 : Int32)), .val (.int (1 : Int32)), .val (.int z46), .unset, .unset, .unset] [(.int (1 : Int32))]))
        refine Go.st (fun _ => XS.ifNo X0.here hx rfl (hb hby d4_37) rfl ((if0 _ _).trans (feq (by decide : ¬ ((1 : Int32) = (0 : Int32)))).1)) ?_
        show Go p e below _ (s₁.setTop (mkF m 40 #[.val (.ref a1), .val (.int p1), .val (.int (1 : Int32)), .val (.int (1 : Int32)), .val (.int (0 : Int32)), .val (.int (1 : Int32)), .val (.int z46), .unset, .unset, .unset] []))
        refine Go.st (fun _ => XS.iload X0.here hx rfl (hb hby d4_40) rfl) ?_
        show Go p e below _ (s₁.setTop (mkF m 42 #[.val (.ref a1), .val (.int p1), .val (.int (1 : Int32)), .val (.int (1 : Int32)), .val (.int (0 : Int32)), .val (.int (1 : Int32)), .val (.int z46), .unset, .unset, .unset] [(.int (1 : Int32))]))
        refine Go.st (fun _ => XS.iconst X0.here hx rfl (hb hby d4_42)) ?_
        show Go p e below _ (s₁.setTop (mkF m 43 #[.val (.ref a1), .val (.int p1), .val (.int (1 : Int32)), .val (.int (1 : Int32)), .val (.int (0 : Int32)), .val (.int (1 : Int32)), .val (.int z46), .unset, .unset, .unset] [(.int (1 : Int32)), (.int (1 : Int32))]))
        refine Go.st (fun _ => XS.icmpNo X0.here hx rfl (hb hby d4_43) rfl (teq (by decide : (1 : Int32) = (1 : Int32))).2) ?_
        show Go p e below _ (s₁.setTop (mkF m 46 #[.val (.ref a1), .val (.int p1), .val (.int (1 : Int32)), .val (.int (1 : Int32)), .val (.int (0 : Int32)), .val (.int (1 : Int32)), .val (.int z46), .unset, .unset, .unset] []))
        refine Go.st (fun _ => XS.iload X0.here hx rfl (hb hby d4_46) rfl) ?_
        show Go p e below _ (s₁.setTop (mkF m 48 #[.val (.ref a1), .val (.int p1), .val (.int (1 : Int32)), .val (.int (1 : Int32)), .val (.int (0 : Int32)), .val (.int (1 : Int32)), .val (.int z46), .unset, .unset, .unset] [(.int (1 : Int32))]))
        refine Go.st (fun _ => XS.ifYes X0.here hx rfl (pc0 := 48) (pc' := 57) rfl (hb hby d4_48) rfl ((if0 _ _).trans (feq (by decide : ¬ ((1 : Int32) = (0 : Int32)))).2) (by decide) (by decide)) ?_
        show Go p e below _ (s₁.setTop (mkF m 57 #[.val (.ref a1), .val (.int p1), .val (.int (1 : Int32)), .val (.int (1 : Int32)), .val (.int (0 : Int32)), .val (.int (1 : Int32)), .val (.int z46), .unset, .unset, .unset] []))
        obtain ⟨T47, X47, e47, st47⟩ := getS2 X0 hx hZ hown (host := "") (Or.inl (hw _ (List.mem_of_getElem? (i := 59) rfl))) Via.refl e0 (oldSta O0 S_w_ADOPTER) (g := (mkF m 57 #[.val (.ref a1), .val (.int p1), .val (.int (1 : Int32)), .val (.int (1 : Int32)), .val (.int (0 : Int32)), .val (.int (1 : Int32)), .val (.int z46), .unset, .unset, .unset] [])) rfl (hb hby d4_57)
        refine Go.st st47 ?_
        show Go p e below _ (T47.setTop (mkF m 60 #[.val (.ref a1), .val (.int p1), .val (.int (1 : Int32)), .val (.int (1 : Int32)), .val (.int (0 : Int32)), .val (.int (1 : Int32)), .val (.int z46), .unset, .unset, .unset] [(.ref w_ADOPTER)]))
        refine Go.st (fun _ => XS.astore X47.here hx rfl (hb hby d4_60) rfl rfl (l' := #[.val (.ref a1), .val (.int p1), .val (.int (1 : Int32)), .val (.int (1 : Int32)), .val (.int (0 : Int32)), .val (.int (1 : Int32)), .val (.int z46), .val (.ref w_ADOPTER), .unset, .unset]) rfl) ?_
        show Go p e below _ (T47.setTop (mkF m 62 #[.val (.ref a1), .val (.int p1), .val (.int (1 : Int32)), .val (.int (1 : Int32)), .val (.int (0 : Int32)), .val (.int (1 : Int32)), .val (.int z46), .val (.ref w_ADOPTER), .unset, .unset] []))
        refine Go.st (fun _ => XS.aloadN X47.here hx rfl (hb hby d4_62) rfl rfl) ?_
        show Go p e below _ (T47.setTop (mkF m 63 #[.val (.ref a1), .val (.int p1), .val (.int (1 : Int32)), .val (.int (1 : Int32)), .val (.int (0 : Int32)), .val (.int (1 : Int32)), .val (.int z46), .val (.ref w_ADOPTER), .unset, .unset] [(.ref a1)]))
        refine Go.st (fun _ => XS.aload X47.here hx rfl (hb hby d4_63) rfl rfl) ?_
        show Go p e below _ (T47.setTop (mkF m 65 #[.val (.ref a1), .val (.int p1), .val (.int (1 : Int32)), .val (.int (1 : Int32)), .val (.int (0 : Int32)), .val (.int (1 : Int32)), .val (.int z46), .val (.ref w_ADOPTER), .unset, .unset] [(.ref w_ADOPTER), (.ref a1)]))
        refine goVirtS X47 hx hZ (y := (⟨"com/example/sidelane/sidelane/Cancellation", "claim", "(Lcom/example/sidelane/sidelane/Cancellation$Claimant;)Z"⟩ : MethodName)) (z := (⟨"com/example/sidelane/sidelane/Cancellation", "claim", "(Lcom/example/sidelane/sidelane/Cancellation$Claimant;)Z"⟩ : MethodName)) hown (hw _ (List.mem_of_getElem? (i := 25) rfl)) (hw _ (List.mem_of_getElem? (i := 26) rfl)) (notFace_of_selects (args := #[]) (mvT hZ (hw _ (List.mem_of_getElem? (i := 28) rfl)))) (hw _ (List.mem_of_getElem? (i := 28) rfl)) (hw _ (List.mem_of_getElem? (i := 27) rfl)) (hw _ (List.mem_of_getElem? (i := 2) rfl)) (hw _ (List.mem_of_getElem? (i := 29) rfl)) (by decide) (a := a1) (argsL := [(.ref w_ADOPTER)]) (rest := []) e47 Eb (cmR0 l Z a0 hw a1 w_ADOPTER w_EXECUTE en oc h0 n0 O0 Ub g1 Eb Fb0 Fb1 Fb2 Fb3 Fb4 Fb5 Fb6) 0 (by decide) (by decide) (by decide) (by decide) (mkF m 65 #[.val (.ref a1), .val (.int p1), .val (.int (1 : Int32)), .val (.int (1 : Int32)), .val (.int (0 : Int32)), .val (.int (1 : Int32)), .val (.int z46), .val (.ref w_ADOPTER), .unset, .unset] [(.ref w_ADOPTER), (.ref a1)]) rfl (by rw [hml]; rfl) (lenOf pd_3 rfl) rfl (hb hby d4_65) (Nat.le_of_eq rfl) ?_
        intro v48 T48 L48 X48 hQ48
        obtain ⟨rfl, M48, K48, ⟨Eb48, Ub48, Fb0_48, Fb1_48, Fb2_48, Fb3_48, Fb4_48, Fb5_48, Fb6_48⟩⟩ := hQ48
        have N48 := Fr.app N0 M48
        have O49 : Old Z n0 T48.heap := O0.keep K48 (allS g1 all0)
        have K50 : Keep h0 T48.heap [a1] := (Keep.refl h0 [a1]).trans K48 (allS (Or.inl (List.mem_of_getElem? (i := 0) rfl)) all0)
        have E_51 : Exa Z T48.heap a1 "com/example/sidelane/sidelane/Cancellation" := Eb.keep K48
        show Go p e below _ (T48.setTop (mkF m 68 #[.val (.ref a1), .val (.int p1), .val (.int (1 : Int32)), .val (.int (1 : Int32)), .val (.int (0 : Int32)), .val (.int (1 : Int32)), .val (.int z46), .val (.ref w_ADOPTER), .unset, .unset] [(.int (0 : Int32))]))
        refine Go.st (fun _ => XS.istore X48.here hx rfl (hb hby d4_68) rfl (l' := #[.val (.ref a1), .val (.int p1), .val (.int (1 : Int32)), .val (.int (1 : Int32)), .val (.int (0 : Int32)), .val (.int (1 : Int32)), .val (.int z46), .val (.ref w_ADOPTER), .val (.int (0 : Int32)), .unset]) rfl) ?_
        show Go p e below _ (T48.setTop (mkF m 70 #[.val (.ref a1), .val (.int p1), .val (.int (1 : Int32)), .val (.int (1 : Int32)), .val (.int (0 : Int32)), .val (.int (1 : Int32)), .val (.int z46), .val (.ref w_ADOPTER), .val (.int (0 : Int32)), .unset] []))
        refine Go.st (fun _ => XS.iloadN X48.here hx rfl (hb hby d4_70) rfl) ?_
        show Go p e below _ (T48.setTop (mkF m 71 #[.val (.ref a1), .val (.int p1), .val (.int (1 : Int32)), .val (.int (1 : Int32)), .val (.int (0 : Int32)), .val (.int (1 : Int32)), .val (.int z46), .val (.ref w_ADOPTER), .val (.int (0 : Int32)), .unset] [(.int (1 : Int32))]))
        refine Go.st (fun _ => XS.ifYes X48.here hx rfl (pc0 := 71) (pc' := 83) rfl (hb hby d4_71) rfl ((if0 _ _).trans (feq (by decide : ¬ ((1 : Int32) = (0 : Int32)))).2) (by decide) (by decide)) ?_
        show Go p e below _ (T48.setTop (mkF m 83 #[.val (.ref a1), .val (.int p1), .val (.int (1 : Int32)), .val (.int (1 : Int32)), .val (.int (0 : Int32)), .val (.int (1 : Int32)), .val (.int z46), .val (.ref w_ADOPTER), .val (.int (0 : Int32)), .unset] []))
        refine Go.st (fun _ => XS.iconst X48.here hx rfl (hb hby d4_83)) ?_
        show Go p e below _ (T48.setTop (mkF m 84 #[.val (.ref a1), .val (.int p1), .val (.int (1 : Int32)), .val (.int (1 : Int32)), .val (.int (0 : Int32)), .val (.int (1 : Int32)), .val (.int z46), .val (.ref w_ADOPTER), .val (.int (0 : Int32)), .unset] [(.int (0 : Int32))]))
        refine Go.st (fun _ => XS.istore X48.here hx rfl (hb hby d4_84) rfl (l' := #[.val (.ref a1), .val (.int p1), .val (.int (1 : Int32)), .val (.int (1 : Int32)), .val (.int (0 : Int32)), .val (.int (1 : Int32)), .val (.int z46), .val (.ref w_ADOPTER), .val (.int (0 : Int32)), .val (.int (0 : Int32))]) rfl) ?_
        show Go p e below _ (T48.setTop (mkF m 86 #[.val (.ref a1), .val (.int p1), .val (.int (1 : Int32)), .val (.int (1 : Int32)), .val (.int (0 : Int32)), .val (.int (1 : Int32)), .val (.int z46), .val (.ref w_ADOPTER), .val (.int (0 : Int32)), .val (.int (0 : Int32))] []))
        refine Go.st (fun _ => XS.iload X48.here hx rfl (hb hby d4_86) rfl) ?_
        show Go p e below _ (T48.setTop (mkF m 88 #[.val (.ref a1), .val (.int p1), .val (.int (1 : Int32)), .val (.int (1 : Int32)), .val (.int (0 : Int32)), .val (.int (1 : Int32)), .val (.int z46), .val (.ref w_ADOPTER), .val (.int (0 : Int32)), .val (.int (0 : Int32))] [(.int (0 : Int32))]))
        refine Go.st (fun _ => XS.iload X48.here hx rfl (hb hby d4_88) rfl) ?_
        show Go p e below _ (T48.setTop (mkF m 90 #[.val (.ref a1), .val (.int p1), .val (.int (1 : Int32)), .val (.int (1 : Int32)), .val (.int (0 : Int32)), .val (.int (1 : Int32)), .val (.int z46), .val (.ref w_ADOPTER), .val (.int (0 : Int32)), .val (.int (0 : Int32))] [(.int (0 : Int32)), (.int (0 : Int32))]))
        refine Go.st (fun _ => XS.icmpYes X48.here hx rfl (pc0 := 90) (pc' := 95) rfl (hb hby d4_90) rfl (teq (by decide : (0 : Int32) = (0 : Int32))).1 (by decide) (by decide)) ?_
        show Go p e below _ (T48.setTop (mkF m 95 #[.val (.ref a1), .val (.int p1), .val (.int (1 : Int32)), .val (.int (1 : Int32)), .val (.int (0 : Int32)), .val (.int (1 : Int32)), .val (.int z46), .val (.ref w_ADOPTER), .val (.int (0 : Int32)), .val (.int (0 : Int32))] []))
        refine Go.st (fun _ => XS.iload X48.here hx rfl (hb hby d4_95) rfl) ?_
        show Go p e below _ (T48.setTop (mkF m 97 #[.val (.ref a1), .val (.int p1), .val (.int (1 : Int32)), .val (.int (1 : Int32)), .val (.int (0 : Int32)), .val (.int (1 : Int32)), .val (.int z46), .val (.ref w_ADOPTER), .val (.int (0 : Int32)), .val (.int (0 : Int32))] [(.int (0 : Int32))]))
        refine Go.st (fun _ => XS.ifYes X48.here hx rfl (pc0 := 97) (pc' := 105) rfl (hb hby d4_97) rfl ((if0 _ _).trans (teq (by decide : (0 : Int32) = (0 : Int32))).1) (by decide) (by decide)) ?_
        show Go p e below _ (T48.setTop (mkF m 105 #[.val (.ref a1), .val (.int p1), .val (.int (1 : Int32)), .val (.int (1 : Int32)), .val (.int (0 : Int32)), .val (.int (1 : Int32)), .val (.int z46), .val (.ref w_ADOPTER), .val (.int (0 : Int32)), .val (.int (0 : Int32))] []))
        refine Go.st (fun _ => XS.goto X48.here hx rfl (pc0 := 105) (pc' := 156) rfl (hb hby d4_105) (by decide) (by decide)) ?_
        show Go p e below _ (T48.setTop (mkF m 156 #[.val (.ref a1), .val (.int p1), .val (.int (1 : Int32)), .val (.int (1 : Int32)), .val (.int (0 : Int32)), .val (.int (1 : Int32)), .val (.int z46), .val (.ref w_ADOPTER), .val (.int (0 : Int32)), .val (.int (0 : Int32))] []))
        refine Go.st (fun _ => XS.iloadN X48.here hx rfl (hb hby d4_156) rfl) ?_
        show Go p e below _ (T48.setTop (mkF m 157 #[.val (.ref a1), .val (.int p1), .val (.int (1 : Int32)), .val (.int (1 : Int32)), .val (.int (0 : Int32)), .val (.int (1 : Int32)), .val (.int z46), .val (.ref w_ADOPTER), .val (.int (0 : Int32)), .val (.int (0 : Int32))] [(.int (1 : Int32))]))
        refine Go.st (fun _ => XS.iload X48.here hx rfl (hb hby d4_157) rfl) ?_
        show Go p e below _ (T48.setTop (mkF m 159 #[.val (.ref a1), .val (.int p1), .val (.int (1 : Int32)), .val (.int (1 : Int32)), .val (.int (0 : Int32)), .val (.int (1 : Int32)), .val (.int z46), .val (.ref w_ADOPTER), .val (.int (0 : Int32)), .val (.int (0 : Int32))] [(.int (0 : Int32)), (.int (1 : Int32))]))
        refine Go.st (fun _ => XS.ifYes X48.here hx rfl (pc0 := 159) (pc' := 166) rfl (hb hby d4_159) rfl ((if0 _ _).trans (teq (by decide : (0 : Int32) = (0 : Int32))).1) (by decide) (by decide)) ?_
        show Go p e below _ (T48.setTop (mkF m 166 #[.val (.ref a1), .val (.int p1), .val (.int (1 : Int32)), .val (.int (1 : Int32)), .val (.int (0 : Int32)), .val (.int (1 : Int32)), .val (.int z46), .val (.ref w_ADOPTER), .val (.int (0 : Int32)), .val (.int (0 : Int32))] [(.int (1 : Int32))]))
        refine Go.st (fun _ => XS.iconst X48.here hx rfl (hb hby d4_166)) ?_
        show Go p e below _ (T48.setTop (mkF m 167 #[.val (.ref a1), .val (.int p1), .val (.int (1 : Int32)), .val (.int (1 : Int32)), .val (.int (0 : Int32)), .val (.int (1 : Int32)), .val (.int z46), .val (.ref w_ADOPTER), .val (.int (0 : Int32)), .val (.int (0 : Int32))] [(.int (0 : Int32)), (.int (1 : Int32))]))
        refine Go.st (fun _ => XS.ior X48.here hx rfl (hb hby d4_167) rfl) ?_
        show Go p e below _ (T48.setTop (mkF m 168 #[.val (.ref a1), .val (.int p1), .val (.int (1 : Int32)), .val (.int (1 : Int32)), .val (.int (0 : Int32)), .val (.int (1 : Int32)), .val (.int z46), .val (.ref w_ADOPTER), .val (.int (0 : Int32)), .val (.int (0 : Int32))] [(.int (1 : Int32))]))
        exact goRetI X48 hx hlk hret rfl (hb hby d4_168) (by decide) (by decide) ⟨_, rfl, by decide, N48, K50, ⟨_, _, _, _, ⟨Eb48, Ub48, Fb0_48, Fb1_48, Fb2_48, Fb3_48, Fb4_48, Fb5_48, Fb6_48⟩, Or.inr (Or.inl ⟨rfl, rfl, rfl⟩)⟩⟩
      · show Go p e below _ (s₁.setTop (mkF m 25 #[.val (.ref a1), .val (.int p1), .val (.int (1 : Int32)), .val (.int (1 : Int32)), .val (.int (0 : Int32)), .val (.int (1 : Int32)), .unset, .unset, .unset, .unset] [(.int (p1 &&& (4 : Int32)))]))
        by_cases hc52 : (p1 &&& (4 : Int32)) = (0 : Int32)
        · refine Go.st (fun _ => XS.ifYes X0.here hx rfl (pc0 := 25) (pc' := 32) rfl (hb hby d4_25) rfl ((if0 _ _).trans (teq hc52).1) (by decide) (by decide)) ?_
          show Go p e below _ (s₁.setTop (mkF m 32 #[.val (.ref a1), .val (.int p1), .val (.int (1 : Int32)), .val (.int (1 : Int32)), .val (.int (0 : Int32)), .val (.int (1 : Int32)), .unset, .unset, .unset, .unset] []))
          refine Go.st (fun _ => XS.iconst X0.here hx rfl (hb hby d4_32)) ?_
          exact J46 _ trivial
        · refine Go.st (fun _ => XS.ifNo X0.here hx rfl (hb hby d4_25) rfl ((if0 _ _).trans (feq hc52).1)) ?_
          show Go p e below _ (s₁.setTop (mkF m 28 #[.val (.ref a1), .val (.int p1), .val (.int (1 : Int32)), .val (.int (1 : Int32)), .val (.int (0 : Int32)), .val (.int (1 : Int32)), .unset, .unset, .unset, .unset] []))
          refine Go.st (fun _ => XS.iconst X0.here hx rfl (hb hby d4_28)) ?_
          show Go p e below _ (s₁.setTop (mkF m 29 #[.val (.ref a1), .val (.int p1), .val (.int (1 : Int32)), .val (.int (1 : Int32)), .val (.int (0 : Int32)), .val (.int (1 : Int32)), .unset, .unset, .unset, .unset] [(.int (1 : Int32))]))
          refine Go.st (fun _ => XS.goto X0.here hx rfl (pc0 := 29) (pc' := 33) rfl (hb hby d4_29) (by decide) (by decide)) ?_
          exact J46 _ trivial
    · rw [q0]
      show Go p e below _ (s₁.setTop (mkF m 20 #[.val (.ref a1), .val (.int p1), .val (.int (1 : Int32)), .val (.int (1 : Int32)), .val (.int (0 : Int32)), .unset, .unset, .unset, .unset, .unset] [(.int (2 : Int32))]))
      refine Go.st (fun _ => XS.istore X0.here hx rfl (hb hby d4_20) rfl (l' := #[.val (.ref a1), .val (.int p1), .val (.int (1 : Int32)), .val (.int (1 : Int32)), .val (.int (0 : Int32)), .val (.int (2 : Int32)), .unset, .unset, .unset, .unset]) rfl) ?_
      show Go p e below _ (s₁.setTop (mkF m 22 #[.val (.ref a1), .val (.int p1), .val (.int (1 : Int32)), .val (.int (1 : Int32)), .val (.int (0 : Int32)), .val (.int (2 : Int32)), .unset, .unset, .unset, .unset] []))
      refine Go.st (fun _ => XS.iloadN X0.here hx rfl (hb hby d4_22) rfl) ?_
      show Go p e below _ (s₁.setTop (mkF m 23 #[.val (.ref a1), .val (.int p1), .val (.int (1 : Int32)), .val (.int (1 : Int32)), .val (.int (0 : Int32)), .val (.int (2 : Int32)), .unset, .unset, .unset, .unset] [(.int p1)]))
      refine Go.st (fun _ => XS.iconst X0.here hx rfl (hb hby d4_23)) ?_
      show Go p e below _ (s₁.setTop (mkF m 24 #[.val (.ref a1), .val (.int p1), .val (.int (1 : Int32)), .val (.int (1 : Int32)), .val (.int (0 : Int32)), .val (.int (2 : Int32)), .unset, .unset, .unset, .unset] [(.int (4 : Int32)), (.int p1)]))
      refine Go.st (fun _ => XS.iand X0.here hx rfl (hb hby d4_24) rfl) ?_
      show Go p e below _ (s₁.setTop (mkF m 25 #[.val (.ref a1), .val (.int p1), .val (.int (1 : Int32)), .val (.int (1 : Int32)), .val (.int (0 : Int32)), .val (.int (2 : Int32)), .unset, .unset, .unset, .unset] [(.int (p1 &&& (4 : Int32)))]))
      refine goJoin (P := fun z53 : Int32 => True) (F := fun z53 => s₁.setTop (mkF m 33 #[.val (.ref a1), .val (.int p1), .val (.int (1 : Int32)), .val (.int (1 : Int32)), .val (.int (0 : Int32)), .val (.int (2 : Int32)), .unset, .unset, .unset, .unset] [(.int z53)])) (fun z53 hz53 => ?_) (fun J53 => ?_)
      · show Go p e below _ (s₁.setTop (mkF m 33 #[.val (.ref a1), .val (.int p1), .val (.int (1 : Int32)), .val (.int (1 : Int32)), .val (.int (0 : Int32)), .val (.int (2 : Int32)), .unset, .unset, .unset, .unset] [(.int z53)]))
        refine Go.st (fun _ => XS.istore X0.here hx rfl (hb hby d4_33) rfl (l' := #[.val (.ref a1), .val (.int p1), .val (.int (1 : Int32)), .val (.int (1 : Int32)), .val (.int (0 : Int32)), .val (.int (2 : Int32)), .val (.int z53), .unset, .unset, .unset]) rfl) ?_
        show Go p e below _ (s₁.setTop (mkF m 35 #[.val (.ref a1), .val (.int p1), .val (.int (1 : Int32)), .val (.int (1 : Int32)), .val (.int (0 : Int32)), .val (.int (2 : Int32)), .val (.int z53), .unset, .unset, .unset] []))
        refine Go.st (fun _ => XS.iload X0.here hx rfl (hb hby d4_35) rfl) ?_
        show Go p e below _ (s₁.setTop (mkF m 37 #[.val (.ref a1), .val (.int p1), .val (.int (1 : Int32)), .val (.int (1 : Int32)), .val (.int (0 : Int32)), .val (.int (2 : Int32)), .val (.int z53), .unset, .unset, .unset] [(.int (2 : Int32))]))
        refine Go.st (fun _ => XS.ifNo X0.here hx rfl (hb hby d4_37) rfl ((if0 _ _).trans (feq (by decide : ¬ ((2 : Int32) = (0 : Int32)))).1)) ?_
        show Go p e below _ (s₁.setTop (mkF m 40 #[.val (.ref a1), .val (.int p1), .val (.int (1 : Int32)), .val (.int (1 : Int32)), .val (.int (0 : Int32)), .val (.int (2 : Int32)), .val (.int z53), .unset, .unset, .unset] []))
        refine Go.st (fun _ => XS.iload X0.here hx rfl (hb hby d4_40) rfl) ?_
        show Go p e below _ (s₁.setTop (mkF m 42 #[.val (.ref a1), .val (.int p1), .val (.int (1 : Int32)), .val (.int (1 : Int32)), .val (.int (0 : Int32)), .val (.int (2 : Int32)), .val (.int z53), .unset, .unset, .unset] [(.int (2 : Int32))]))
        refine Go.st (fun _ => XS.iconst X0.here hx rfl (hb hby d4_42)) ?_
        show Go p e below _ (s₁.setTop (mkF m 43 #[.val (.ref a1), .val (.int p1), .val (.int (1 : Int32)), .val (.int (1 : Int32)), .val (.int (0 : Int32)), .val (.int (2 : Int32)), .val (.int z53), .unset, .unset, .unset] [(.int (1 : Int32)), (.int (2 : Int32))]))
        refine Go.st (fun _ => XS.icmpYes X0.here hx rfl (pc0 := 43) (pc' := 108) rfl (hb hby d4_43) rfl (feq (by decide : ¬ ((2 : Int32) = (1 : Int32)))).2 (by decide) (by decide)) ?_
        show Go p e below _ (s₁.setTop (mkF m 108 #[.val (.ref a1), .val (.int p1), .val (.int (1 : Int32)), .val (.int (1 : Int32)), .val (.int (0 : Int32)), .val (.int (2 : Int32)), .val (.int z53), .unset, .unset, .unset] []))
        refine Go.st (fun _ => XS.iload X0.here hx rfl (hb hby d4_108) rfl) ?_
        show Go p e below _ (s₁.setTop (mkF m 110 #[.val (.ref a1), .val (.int p1), .val (.int (1 : Int32)), .val (.int (1 : Int32)), .val (.int (0 : Int32)), .val (.int (2 : Int32)), .val (.int z53), .unset, .unset, .unset] [(.int (2 : Int32))]))
        refine Go.st (fun _ => XS.iconst X0.here hx rfl (hb hby d4_110)) ?_
        show Go p e below _ (s₁.setTop (mkF m 111 #[.val (.ref a1), .val (.int p1), .val (.int (1 : Int32)), .val (.int (1 : Int32)), .val (.int (0 : Int32)), .val (.int (2 : Int32)), .val (.int z53), .unset, .unset, .unset] [(.int (3 : Int32)), (.int (2 : Int32))]))
        refine Go.st (fun _ => XS.icmpYes X0.here hx rfl (pc0 := 111) (pc' := 121) rfl (hb hby d4_111) rfl (feq (by decide : ¬ ((2 : Int32) = (3 : Int32)))).2 (by decide) (by decide)) ?_
        show Go p e below _ (s₁.setTop (mkF m 121 #[.val (.ref a1), .val (.int p1), .val (.int (1 : Int32)), .val (.int (1 : Int32)), .val (.int (0 : Int32)), .val (.int (2 : Int32)), .val (.int z53), .unset, .unset, .unset] []))
        refine Go.st (fun _ => XS.aconstNull X0.here hx rfl (hb hby d4_121)) ?_
        show Go p e below _ (s₁.setTop (mkF m 122 #[.val (.ref a1), .val (.int p1), .val (.int (1 : Int32)), .val (.int (1 : Int32)), .val (.int (0 : Int32)), .val (.int (2 : Int32)), .val (.int z53), .unset, .unset, .unset] [.null]))
        refine Go.st (fun _ => XS.astore X0.here hx rfl (hb hby d4_122) rfl rfl (l' := #[.val (.ref a1), .val (.int p1), .val (.int (1 : Int32)), .val (.int (1 : Int32)), .val (.int (0 : Int32)), .val (.int (2 : Int32)), .val (.int z53), .val .null, .unset, .unset]) rfl) ?_
        show Go p e below _ (s₁.setTop (mkF m 124 #[.val (.ref a1), .val (.int p1), .val (.int (1 : Int32)), .val (.int (1 : Int32)), .val (.int (0 : Int32)), .val (.int (2 : Int32)), .val (.int z53), .val .null, .unset, .unset] []))
        refine Go.st (fun _ => XS.aloadN X0.here hx rfl (hb hby d4_124) rfl rfl) ?_
        show Go p e below _ (s₁.setTop (mkF m 125 #[.val (.ref a1), .val (.int p1), .val (.int (1 : Int32)), .val (.int (1 : Int32)), .val (.int (0 : Int32)), .val (.int (2 : Int32)), .val (.int z53), .val .null, .unset, .unset] [(.ref a1)]))
        refine Go.st (fun _ => XS.iload X0.here hx rfl (hb hby d4_125) rfl) ?_
        show Go p e below _ (s₁.setTop (mkF m 127 #[.val (.ref a1), .val (.int p1), .val (.int (1 : Int32)), .val (.int (1 : Int32)), .val (.int (0 : Int32)), .val (.int (2 : Int32)), .val (.int z53), .val .null, .unset, .unset] [(.int z53), (.ref a1)]))
        refine Go.st (fun _ => XS.aload X0.here hx rfl (hb hby d4_127) rfl rfl) ?_
        show Go p e below _ (s₁.setTop (mkF m 129 #[.val (.ref a1), .val (.int p1), .val (.int (1 : Int32)), .val (.int (1 : Int32)), .val (.int (0 : Int32)), .val (.int (2 : Int32)), .val (.int z53), .val .null, .unset, .unset] [.null, (.int z53), (.ref a1)]))
        refine goVirtS X0 hx hZ (y := (⟨"com/example/sidelane/sidelane/Cancellation", "cancel", "(ZLjava/lang/Object;)Lcom/example/sidelane/sidelane/Cancellation$Outcome;"⟩ : MethodName)) (z := (⟨"com/example/sidelane/sidelane/Cancellation", "cancel", "(ZLjava/lang/Object;)Lcom/example/sidelane/sidelane/Cancellation$Outcome;"⟩ : MethodName)) hown (hw _ (List.mem_of_getElem? (i := 38) rfl)) (hw _ (List.mem_of_getElem? (i := 39) rfl)) (notFace_of_selects (args := #[]) (mvT hZ (hw _ (List.mem_of_getElem? (i := 41) rfl)))) (hw _ (List.mem_of_getElem? (i := 41) rfl)) (hw _ (List.mem_of_getElem? (i := 40) rfl)) (hw _ (List.mem_of_getElem? (i := 2) rfl)) (hw _ (List.mem_of_getElem? (i := 42) rfl)) (by decide) (a := a1) (argsL := [(.int z53), .null]) (rest := []) e0 Eb (caGN l Z a0 hw a1 z53  en oc w_EXECUTE w_ADOPTER w_CANCELLED w_REFUSED w_HANDED_OVER w_CANCELLED_UNEXECUTED w_ENDING_NEEDED h0 n0 O0 Ub g1 Eb Fb0 Fb1 Fb2 Fb3 Fb4 Fb5 Fb6 S_w_EXECUTE S_w_ADOPTER S_w_CANCELLED S_w_REFUSED S_w_HANDED_OVER S_w_CANCELLED_UNEXECUTED S_w_ENDING_NEEDED ne_w_EXECUTE_w_ADOPTER) 0 (by decide) (by decide) (by decide) (by decide) (mkF m 129 #[.val (.ref a1), .val (.int p1), .val (.int (1 : Int32)), .val (.int (1 : Int32)), .val (.int (0 : Int32)), .val (.int (2 : Int32)), .val (.int z53), .val .null, .unset, .unset] [.null, (.int z53), (.ref a1)]) rfl (by rw [hml]; rfl) (lenOf pd_4 rfl) rfl (hb hby d4_129) (Nat.le_of_eq rfl) ?_
        intro v54 T54 L54 X54 hQ54
        obtain ⟨⟨r54, rfl⟩, M54, K54, ⟨Eb54, Ub54, Fb0_54, Fb1_54, Fb2_54, Fb3_54, Fb4_54, Fb5_54, Fb6_54⟩⟩ := hQ54
        have N54 := Fr.app N0 M54
        have O55 : Old Z n0 T54.heap := O0.keep K54 (allS g1 all0)
        have K56 : Keep h0 T54.heap [a1] := (Keep.refl h0 [a1]).trans K54 (allS (Or.inl (List.mem_of_getElem? (i := 0) rfl)) all0)
        have E_57 : Exa Z T54.heap a1 "com/example/sidelane/sidelane/Cancellation" := Eb.keep K54
        show Go p e below _ (T54.setTop (mkF m 132 #[.val (.ref a1), .val (.int p1), .val (.int (1 : Int32)), .val (.int (1 : Int32)), .val (.int (0 : Int32)), .val (.int (2 : Int32)), .val (.int z53), .val .null, .unset, .unset] [(.ref r54)]))
        refine Go.st (fun _ => XS.pop X54.here hx rfl (hb hby d4_132) rfl rfl) ?_
        show Go p e below _ (T54.setTop (mkF m 133 #[.val (.ref a1), .val (.int p1), .val (.int (1 : Int32)), .val (.int (1 : Int32)), .val (.int (0 : Int32)), .val (.int (2 : Int32)), .val (.int z53), .val .null, .unset, .unset] []))
        refine Go.st (fun _ => XS.iloadN X54.here hx rfl (hb hby d4_133) rfl) ?_
        show Go p e below _ (T54.setTop (mkF m 134 #[.val (.ref a1), .val (.int p1), .val (.int (1 : Int32)), .val (.int (1 : Int32)), .val (.int (0 : Int32)), .val (.int (2 : Int32)), .val (.int z53), .val .null, .unset, .unset] [(.int (1 : Int32))]))
        refine Go.st (fun _ => XS.iconst X54.here hx rfl (hb hby d4_134)) ?_
        show Go p e below _ (T54.setTop (mkF m 135 #[.val (.ref a1), .val (.int p1), .val (.int (1 : Int32)), .val (.int (1 : Int32)), .val (.int (0 : Int32)), .val (.int (2 : Int32)), .val (.int z53), .val .null, .unset, .unset] [(.int (2 : Int32)), (.int (1 : Int32))]))
        refine Go.st (fun _ => XS.icmpNo X54.here hx rfl (hb hby d4_135) rfl (feq (by decide : ¬ ((1 : Int32) = (2 : Int32)))).1) ?_
        show Go p e below _ (T54.setTop (mkF m 138 #[.val (.ref a1), .val (.int p1), .val (.int (1 : Int32)), .val (.int (1 : Int32)), .val (.int (0 : Int32)), .val (.int (2 : Int32)), .val (.int z53), .val .null, .unset, .unset] []))
        refine Go.st (fun _ => XS.iload X54.here hx rfl (hb hby d4_138) rfl) ?_
        show Go p e below _ (T54.setTop (mkF m 140 #[.val (.ref a1), .val (.int p1), .val (.int (1 : Int32)), .val (.int (1 : Int32)), .val (.int (0 : Int32)), .val (.int (2 : Int32)), .val (.int z53), .val .null, .unset, .unset] [(.int (0 : Int32))]))
        refine Go.st (fun _ => XS.ifNo X54.here hx rfl (hb hby d4_140) rfl ((if0 _ _).trans (teq (by decide : (0 : Int32) = (0 : Int32))).2)) ?_
        show Go p e below _ (T54.setTop (mkF m 143 #[.val (.ref a1), .val (.int p1), .val (.int (1 : Int32)), .val (.int (1 : Int32)), .val (.int (0 : Int32)), .val (.int (2 : Int32)), .val (.int z53), .val .null, .unset, .unset] []))
        refine Go.st (fun _ => XS.iloadN X54.here hx rfl (hb hby d4_143) rfl) ?_
        show Go p e below _ (T54.setTop (mkF m 144 #[.val (.ref a1), .val (.int p1), .val (.int (1 : Int32)), .val (.int (1 : Int32)), .val (.int (0 : Int32)), .val (.int (2 : Int32)), .val (.int z53), .val .null, .unset, .unset] [(.int (1 : Int32))]))
        refine Go.st (fun _ => XS.iconst X54.here hx rfl (hb hby d4_144)) ?_
        show Go p e below _ (T54.setTop (mkF m 145 #[.val (.ref a1), .val (.int p1), .val (.int (1 : Int32)), .val (.int (1 : Int32)), .val (.int (0 : Int32)), .val (.int (2 : Int32)), .val (.int z53), .val .null, .unset, .unset] [(.int (1 : Int32)), (.int (1 : Int32))]))
        refine Go.st (fun _ => XS.icmpYes X54.here hx rfl (pc0 := 145) (pc' := 153) rfl (hb hby d4_145) rfl (teq (by decide : (1 : Int32) = (1 : Int32))).1 (by decide) (by decide)) ?_
        show Go p e below _ (T54.setTop (mkF m 153 #[.val (.ref a1), .val (.int p1), .val (.int (1 : Int32)), .val (.int (1 : Int32)), .val (.int (0 : Int32)), .val (.int (2 : Int32)), .val (.int z53), .val .null, .unset, .unset] []))
        refine Go.st (fun _ => XS.iconst X54.here hx rfl (hb hby d4_153)) ?_
        show Go p e below _ (T54.setTop (mkF m 154 #[.val (.ref a1), .val (.int p1), .val (.int (1 : Int32)), .val (.int (1 : Int32)), .val (.int (0 : Int32)), .val (.int (2 : Int32)), .val (.int z53), .val .null, .unset, .unset] [(.int (1 : Int32))]))
        refine Go.st (fun _ => XS.istore X54.here hx rfl (hb hby d4_154) rfl (l' := #[.val (.ref a1), .val (.int p1), .val (.int (1 : Int32)), .val (.int (1 : Int32)), .val (.int (1 : Int32)), .val (.int (2 : Int32)), .val (.int z53), .val .null, .unset, .unset]) rfl) ?_
        show Go p e below _ (T54.setTop (mkF m 156 #[.val (.ref a1), .val (.int p1), .val (.int (1 : Int32)), .val (.int (1 : Int32)), .val (.int (1 : Int32)), .val (.int (2 : Int32)), .val (.int z53), .val .null, .unset, .unset] []))
        refine Go.st (fun _ => XS.iloadN X54.here hx rfl (hb hby d4_156) rfl) ?_
        show Go p e below _ (T54.setTop (mkF m 157 #[.val (.ref a1), .val (.int p1), .val (.int (1 : Int32)), .val (.int (1 : Int32)), .val (.int (1 : Int32)), .val (.int (2 : Int32)), .val (.int z53), .val .null, .unset, .unset] [(.int (1 : Int32))]))
        refine Go.st (fun _ => XS.iload X54.here hx rfl (hb hby d4_157) rfl) ?_
        show Go p e below _ (T54.setTop (mkF m 159 #[.val (.ref a1), .val (.int p1), .val (.int (1 : Int32)), .val (.int (1 : Int32)), .val (.int (1 : Int32)), .val (.int (2 : Int32)), .val (.int z53), .val .null, .unset, .unset] [(.int (1 : Int32)), (.int (1 : Int32))]))
        refine Go.st (fun _ => XS.ifNo X54.here hx rfl (hb hby d4_159) rfl ((if0 _ _).trans (feq (by decide : ¬ ((1 : Int32) = (0 : Int32)))).1)) ?_
        show Go p e below _ (T54.setTop (mkF m 162 #[.val (.ref a1), .val (.int p1), .val (.int (1 : Int32)), .val (.int (1 : Int32)), .val (.int (1 : Int32)), .val (.int (2 : Int32)), .val (.int z53), .val .null, .unset, .unset] [(.int (1 : Int32))]))
        refine Go.st (fun _ => XS.iconst X54.here hx rfl (hb hby d4_162)) ?_
        show Go p e below _ (T54.setTop (mkF m 163 #[.val (.ref a1), .val (.int p1), .val (.int (1 : Int32)), .val (.int (1 : Int32)), .val (.int (1 : Int32)), .val (.int (2 : Int32)), .val (.int z53), .val .null, .unset, .unset] [(.int (4 : Int32)), (.int (1 : Int32))]))
        refine Go.st (fun _ => XS.goto X54.here hx rfl (pc0 := 163) (pc' := 167) rfl (hb hby d4_163) (by decide) (by decide)) ?_
        show Go p e below _ (T54.setTop (mkF m 167 #[.val (.ref a1), .val (.int p1), .val (.int (1 : Int32)), .val (.int (1 : Int32)), .val (.int (1 : Int32)), .val (.int (2 : Int32)), .val (.int z53), .val .null, .unset, .unset] [(.int (4 : Int32)), (.int (1 : Int32))]))
        refine Go.st (fun _ => XS.ior X54.here hx rfl (hb hby d4_167) rfl) ?_
        show Go p e below _ (T54.setTop (mkF m 168 #[.val (.ref a1), .val (.int p1), .val (.int (1 : Int32)), .val (.int (1 : Int32)), .val (.int (1 : Int32)), .val (.int (2 : Int32)), .val (.int z53), .val .null, .unset, .unset] [(.int (5 : Int32))]))
        exact goRetI X54 hx hlk hret rfl (hb hby d4_168) (by decide) (by decide) ⟨_, rfl, by decide, N54, K56, ⟨_, _, _, _, ⟨Eb54, Ub54, Fb0_54, Fb1_54, Fb2_54, Fb3_54, Fb4_54, Fb5_54, Fb6_54⟩, Or.inr (Or.inr (Or.inr (Or.inr ⟨rfl, rfl, rfl, (Or.inl rfl), ⟨_, rfl⟩⟩)))⟩⟩
      · show Go p e below _ (s₁.setTop (mkF m 25 #[.val (.ref a1), .val (.int p1), .val (.int (1 : Int32)), .val (.int (1 : Int32)), .val (.int (0 : Int32)), .val (.int (2 : Int32)), .unset, .unset, .unset, .unset] [(.int (p1 &&& (4 : Int32)))]))
        by_cases hc58 : (p1 &&& (4 : Int32)) = (0 : Int32)
        · refine Go.st (fun _ => XS.ifYes X0.here hx rfl (pc0 := 25) (pc' := 32) rfl (hb hby d4_25) rfl ((if0 _ _).trans (teq hc58).1) (by decide) (by decide)) ?_
          show Go p e below _ (s₁.setTop (mkF m 32 #[.val (.ref a1), .val (.int p1), .val (.int (1 : Int32)), .val (.int (1 : Int32)), .val (.int (0 : Int32)), .val (.int (2 : Int32)), .unset, .unset, .unset, .unset] []))
          refine Go.st (fun _ => XS.iconst X0.here hx rfl (hb hby d4_32)) ?_
          exact J53 _ trivial
        · refine Go.st (fun _ => XS.ifNo X0.here hx rfl (hb hby d4_25) rfl ((if0 _ _).trans (feq hc58).1)) ?_
          show Go p e below _ (s₁.setTop (mkF m 28 #[.val (.ref a1), .val (.int p1), .val (.int (1 : Int32)), .val (.int (1 : Int32)), .val (.int (0 : Int32)), .val (.int (2 : Int32)), .unset, .unset, .unset, .unset] []))
          refine Go.st (fun _ => XS.iconst X0.here hx rfl (hb hby d4_28)) ?_
          show Go p e below _ (s₁.setTop (mkF m 29 #[.val (.ref a1), .val (.int p1), .val (.int (1 : Int32)), .val (.int (1 : Int32)), .val (.int (0 : Int32)), .val (.int (2 : Int32)), .unset, .unset, .unset, .unset] [(.int (1 : Int32))]))
          refine Go.st (fun _ => XS.goto X0.here hx rfl (pc0 := 29) (pc' := 33) rfl (hb hby d4_29) (by decide) (by decide)) ?_
          exact J53 _ trivial
    · rw [q0]
      show Go p e below _ (s₁.setTop (mkF m 20 #[.val (.ref a1), .val (.int p1), .val (.int (1 : Int32)), .val (.int (1 : Int32)), .val (.int (0 : Int32)), .unset, .unset, .unset, .unset, .unset] [(.int (3 : Int32))]))
      refine Go.st (fun _ => XS.istore X0.here hx rfl (hb hby d4_20) rfl (l' := #[.val (.ref a1), .val (.int p1), .val (.int (1 : Int32)), .val (.int (1 : Int32)), .val (.int (0 : Int32)), .val (.int (3 : Int32)), .unset, .unset, .unset, .unset]) rfl) ?_
      show Go p e below _ (s₁.setTop (mkF m 22 #[.val (.ref a1), .val (.int p1), .val (.int (1 : Int32)), .val (.int (1 : Int32)), .val (.int (0 : Int32)), .val (.int (3 : Int32)), .unset, .unset, .unset, .unset] []))
      refine Go.st (fun _ => XS.iloadN X0.here hx rfl (hb hby d4_22) rfl) ?_
      show Go p e below _ (s₁.setTop (mkF m 23 #[.val (.ref a1), .val (.int p1), .val (.int (1 : Int32)), .val (.int (1 : Int32)), .val (.int (0 : Int32)), .val (.int (3 : Int32)), .unset, .unset, .unset, .unset] [(.int p1)]))
      refine Go.st (fun _ => XS.iconst X0.here hx rfl (hb hby d4_23)) ?_
      show Go p e below _ (s₁.setTop (mkF m 24 #[.val (.ref a1), .val (.int p1), .val (.int (1 : Int32)), .val (.int (1 : Int32)), .val (.int (0 : Int32)), .val (.int (3 : Int32)), .unset, .unset, .unset, .unset] [(.int (4 : Int32)), (.int p1)]))
      refine Go.st (fun _ => XS.iand X0.here hx rfl (hb hby d4_24) rfl) ?_
      show Go p e below _ (s₁.setTop (mkF m 25 #[.val (.ref a1), .val (.int p1), .val (.int (1 : Int32)), .val (.int (1 : Int32)), .val (.int (0 : Int32)), .val (.int (3 : Int32)), .unset, .unset, .unset, .unset] [(.int (p1 &&& (4 : Int32)))]))
      refine goJoin (P := fun z59 : Int32 => True) (F := fun z59 => s₁.setTop (mkF m 33 #[.val (.ref a1), .val (.int p1), .val (.int (1 : Int32)), .val (.int (1 : Int32)), .val (.int (0 : Int32)), .val (.int (3 : Int32)), .unset, .unset, .unset, .unset] [(.int z59)])) (fun z59 hz59 => ?_) (fun J59 => ?_)
      · show Go p e below _ (s₁.setTop (mkF m 33 #[.val (.ref a1), .val (.int p1), .val (.int (1 : Int32)), .val (.int (1 : Int32)), .val (.int (0 : Int32)), .val (.int (3 : Int32)), .unset, .unset, .unset, .unset] [(.int z59)]))
        refine Go.st (fun _ => XS.istore X0.here hx rfl (hb hby d4_33) rfl (l' := #[.val (.ref a1), .val (.int p1), .val (.int (1 : Int32)), .val (.int (1 : Int32)), .val (.int (0 : Int32)), .val (.int (3 : Int32)), .val (.int z59), .unset, .unset, .unset]) rfl) ?_
        show Go p e below _ (s₁.setTop (mkF m 35 #[.val (.ref a1), .val (.int p1), .val (.int (1 : Int32)), .val (.int (1 : Int32)), .val (.int (0 : Int32)), .val (.int (3 : Int32)), .val (.int z59), .unset, .unset, .unset] []))
        refine Go.st (fun _ => XS.iload X0.here hx rfl (hb hby d4_35) rfl) ?_
        show Go p e below _ (s₁.setTop (mkF m 37 #[.val (.ref a1), .val (.int p1), .val (.int (1 : Int32)), .val (.int (1 : Int32)), .val (.int (0 : Int32)), .val (.int (3 : Int32)), .val (.int z59), .unset, .unset, .unset] [(.int (3 : Int32))]))
        refine Go.st (fun _ => XS.ifNo X0.here hx rfl (hb hby d4_37) rfl ((if0 _ _).trans (feq (by decide : ¬ ((3 : Int32) = (0 : Int32)))).1)) ?_
        show Go p e below _ (s₁.setTop (mkF m 40 #[.val (.ref a1), .val (.int p1), .val (.int (1 : Int32)), .val (.int (1 : Int32)), .val (.int (0 : Int32)), .val (.int (3 : Int32)), .val (.int z59), .unset, .unset, .unset] []))
        refine Go.st (fun _ => XS.iload X0.here hx rfl (hb hby d4_40) rfl) ?_
        show Go p e below _ (s₁.setTop (mkF m 42 #[.val (.ref a1), .val (.int p1), .val (.int (1 : Int32)), .val (.int (1 : Int32)), .val (.int (0 : Int32)), .val (.int (3 : Int32)), .val (.int z59), .unset, .unset, .unset] [(.int (3 : Int32))]))
        refine Go.st (fun _ => XS.iconst X0.here hx rfl (hb hby d4_42)) ?_
        show Go p e below _ (s₁.setTop (mkF m 43 #[.val (.ref a1), .val (.int p1), .val (.int (1 : Int32)), .val (.int (1 : Int32)), .val (.int (0 : Int32)), .val (.int (3 : Int32)), .val (.int z59), .unset, .unset, .unset] [(.int (1 : Int32)), (.int (3 : Int32))]))
        refine Go.st (fun _ => XS.icmpYes X0.here hx rfl (pc0 := 43) (pc' := 108) rfl (hb hby d4_43) rfl (feq (by decide : ¬ ((3 : Int32) = (1 : Int32)))).2 (by decide) (by decide)) ?_
        show Go p e below _ (s₁.setTop (mkF m 108 #[.val (.ref a1), .val (.int p1), .val (.int (1 : Int32)), .val (.int (1 : Int32)), .val (.int (0 : Int32)), .val (.int (3 : Int32)), .val (.int z59), .unset, .unset, .unset] []))
        refine Go.st (fun _ => XS.iload X0.here hx rfl (hb hby d4_108) rfl) ?_
        show Go p e below _ (s₁.setTop (mkF m 110 #[.val (.ref a1), .val (.int p1), .val (.int (1 : Int32)), .val (.int (1 : Int32)), .val (.int (0 : Int32)), .val (.int (3 : Int32)), .val (.int z59), .unset, .unset, .unset] [(.int (3 : Int32))]))
        refine Go.st (fun _ => XS.iconst X0.here hx rfl (hb hby d4_110)) ?_
        show Go p e below _ (s₁.setTop (mkF m 111 #[.val (.ref a1), .val (.int p1), .val (.int (1 : Int32)), .val (.int (1 : Int32)), .val (.int (0 : Int32)), .val (.int (3 : Int32)), .val (.int z59), .unset, .unset, .unset] [(.int (3 : Int32)), (.int (3 : Int32))]))
        refine Go.st (fun _ => XS.icmpNo X0.here hx rfl (hb hby d4_111) rfl (teq (by decide : (3 : Int32) = (3 : Int32))).2) ?_
        show Go p e below _ (s₁.setTop (mkF m 114 #[.val (.ref a1), .val (.int p1), .val (.int (1 : Int32)), .val (.int (1 : Int32)), .val (.int (0 : Int32)), .val (.int (3 : Int32)), .val (.int z59), .unset, .unset, .unset] []))
        refine Go.st (fun _ => XS.iloadN X0.here hx rfl (hb hby d4_114) rfl) ?_
        show Go p e below _ (s₁.setTop (mkF m 115 #[.val (.ref a1), .val (.int p1), .val (.int (1 : Int32)), .val (.int (1 : Int32)), .val (.int (0 : Int32)), .val (.int (3 : Int32)), .val (.int z59), .unset, .unset, .unset] [(.int p1)]))
        refine goCallS X0 hx hZ (y := (⟨"java/lang/Integer", "valueOf", "(I)Ljava/lang/Integer;"⟩ : MethodName)) hown (hw _ (List.mem_of_getElem? (i := 31) rfl)) (hw _ (List.mem_of_getElem? (i := 32) rfl)) (hw _ (List.mem_of_getElem? (i := 33) rfl)) (hw _ (List.mem_of_getElem? (i := 34) rfl)) (by decide) (argsL := [(.int p1)]) (rest := []) e0 (rmBox l Z a0 hw [] p1 wc cl h0 n0 O0 S_cache S_high BX) 0 (by decide) (by decide) (by decide) (by decide) (mkF m 115 #[.val (.ref a1), .val (.int p1), .val (.int (1 : Int32)), .val (.int (1 : Int32)), .val (.int (0 : Int32)), .val (.int (3 : Int32)), .val (.int z59), .unset, .unset, .unset] [(.int p1)]) rfl (by rw [hml]; rfl) (lenOf pd_5 rfl) rfl (hb hby d4_115) (Nat.le_of_eq rfl) ?_
        intro v60 T60 L60 X60 hQ60
        obtain ⟨⟨r60, rfl, Er60, Gr60⟩, M60, K60⟩ := hQ60
        have N60 := Fr.app N0 M60
        have O61 : Old Z n0 T60.heap := O0.keep K60 all0
        have K62 : Keep h0 T60.heap [a1] := (Keep.refl h0 [a1]).trans K60 all0
        have E_63 : Exa Z T60.heap a1 "com/example/sidelane/sidelane/Cancellation" := Eb.keep K60
        have Y64 : Unt T60.heap a1 := untKeep Ub K60 nin0
        have F65 : Fld Z T60.heap a1 "com/example/sidelane/sidelane/Cancellation" "claimedBy" "Lcom/example/sidelane/sidelane/Cancellation$Claimant;" (.ref w_EXECUTE) := Fb0.keep K60 nin0
        have F66 : Fld Z T60.heap a1 "com/example/sidelane/sidelane/Cancellation" "cancelled" "Z" (.int (0 : Int32)) := Fb1.keep K60 nin0
        have F67 : Fld Z T60.heap a1 "com/example/sidelane/sidelane/Cancellation" "endingBegun" "Z" (.int (0 : Int32)) := Fb2.keep K60 nin0
        have F68 : Fld Z T60.heap a1 "com/example/sidelane/sidelane/Cancellation" "queued" "Z" (.int (0 : Int32)) := Fb3.keep K60 nin0
        have F69 : Fld Z T60.heap a1 "com/example/sidelane/sidelane/Cancellation" "runner" "Ljava/lang/Thread;" .null := Fb4.keep K60 nin0
        have F70 : Fld Z T60.heap a1 "com/example/sidelane/sidelane/Cancellation" "cancelEnding" "Ljava/lang/Object;" en := Fb5.keep K60 nin0
        have F71 : Fld Z T60.heap a1 "com/example/sidelane/sidelane/Cancellation" "cancelOutcome" "Lcom/example/sidelane/sidelane/Cancellation$Outcome;" oc := Fb6.keep K60 nin0
        show Go p e below _ (T60.setTop (mkF m 118 #[.val (.ref a1), .val (.int p1), .val (.int (1 : Int32)), .val (.int (1 : Int32)), .val (.int (0 : Int32)), .val (.int (3 : Int32)), .val (.int z59), .unset, .unset, .unset] [(.ref r60)]))
        refine Go.st (fun _ => XS.goto X60.here hx rfl (pc0 := 118) (pc' := 122) rfl (hb hby d4_118) (by decide) (by decide)) ?_
        show Go p e below _ (T60.setTop (mkF m 122 #[.val (.ref a1), .val (.int p1), .val (.int (1 : Int32)), .val (.int (1 : Int32)), .val (.int (0 : Int32)), .val (.int (3 : Int32)), .val (.int z59), .unset, .unset, .unset] [(.ref r60)]))
        refine Go.st (fun _ => XS.astore X60.here hx rfl (hb hby d4_122) rfl rfl (l' := #[.val (.ref a1), .val (.int p1), .val (.int (1 : Int32)), .val (.int (1 : Int32)), .val (.int (0 : Int32)), .val (.int (3 : Int32)), .val (.int z59), .val (.ref r60), .unset, .unset]) rfl) ?_
        show Go p e below _ (T60.setTop (mkF m 124 #[.val (.ref a1), .val (.int p1), .val (.int (1 : Int32)), .val (.int (1 : Int32)), .val (.int (0 : Int32)), .val (.int (3 : Int32)), .val (.int z59), .val (.ref r60), .unset, .unset] []))
        refine Go.st (fun _ => XS.aloadN X60.here hx rfl (hb hby d4_124) rfl rfl) ?_
        show Go p e below _ (T60.setTop (mkF m 125 #[.val (.ref a1), .val (.int p1), .val (.int (1 : Int32)), .val (.int (1 : Int32)), .val (.int (0 : Int32)), .val (.int (3 : Int32)), .val (.int z59), .val (.ref r60), .unset, .unset] [(.ref a1)]))
        refine Go.st (fun _ => XS.iload X60.here hx rfl (hb hby d4_125) rfl) ?_
        show Go p e below _ (T60.setTop (mkF m 127 #[.val (.ref a1), .val (.int p1), .val (.int (1 : Int32)), .val (.int (1 : Int32)), .val (.int (0 : Int32)), .val (.int (3 : Int32)), .val (.int z59), .val (.ref r60), .unset, .unset] [(.int z59), (.ref a1)]))
        refine Go.st (fun _ => XS.aload X60.here hx rfl (hb hby d4_127) rfl rfl) ?_
        show Go p e below _ (T60.setTop (mkF m 129 #[.val (.ref a1), .val (.int p1), .val (.int (1 : Int32)), .val (.int (1 : Int32)), .val (.int (0 : Int32)), .val (.int (3 : Int32)), .val (.int z59), .val (.ref r60), .unset, .unset] [(.ref r60), (.int z59), (.ref a1)]))
        refine goVirtS X60 hx hZ (y := (⟨"com/example/sidelane/sidelane/Cancellation", "cancel", "(ZLjava/lang/Object;)Lcom/example/sidelane/sidelane/Cancellation$Outcome;"⟩ : MethodName)) (z := (⟨"com/example/sidelane/sidelane/Cancellation", "cancel", "(ZLjava/lang/Object;)Lcom/example/sidelane/sidelane/Cancellation$Outcome;"⟩ : MethodName)) hown (hw _ (List.mem_of_getElem? (i := 38) rfl)) (hw _ (List.mem_of_getElem? (i := 39) rfl)) (notFace_of_selects (args := #[]) (mvT hZ (hw _ (List.mem_of_getElem? (i := 41) rfl)))) (hw _ (List.mem_of_getElem? (i := 41) rfl)) (hw _ (List.mem_of_getElem? (i := 40) rfl)) (hw _ (List.mem_of_getElem? (i := 2) rfl)) (hw _ (List.mem_of_getElem? (i := 42) rfl)) (by decide) (a := a1) (argsL := [(.int z59), (.ref r60)]) (rest := []) rfl E_63 (caGR l Z a0 hw a1 z59 r60 en oc w_EXECUTE w_ADOPTER w_CANCELLED w_REFUSED w_HANDED_OVER w_CANCELLED_UNEXECUTED w_ENDING_NEEDED T60.heap n0 O61 Y64 g1 E_63 F65 F66 F67 F68 F69 F70 F71 S_w_EXECUTE S_w_ADOPTER S_w_CANCELLED S_w_REFUSED S_w_HANDED_OVER S_w_CANCELLED_UNEXECUTED S_w_ENDING_NEEDED ne_w_EXECUTE_w_ADOPTER) 0 (by decide) (by decide) (by decide) (by decide) (mkF m 129 #[.val (.ref a1), .val (.int p1), .val (.int (1 : Int32)), .val (.int (1 : Int32)), .val (.int (0 : Int32)), .val (.int (3 : Int32)), .val (.int z59), .val (.ref r60), .unset, .unset] [(.ref r60), (.int z59), (.ref a1)]) rfl (by rw [hml]; rfl) (lenOf pd_4 rfl) rfl (hb hby d4_129) (Nat.le_of_eq rfl) ?_
        intro v72 T72 L72 X72 hQ72
        obtain ⟨⟨r72, rfl⟩, M72, K72, ⟨Eb72, Ub72, Fb0_72, Fb1_72, Fb2_72, Fb3_72, Fb4_72, Fb5_72, Fb6_72⟩⟩ := hQ72
        have N72 := Fr.app N60 M72
        have O73 : Old Z n0 T72.heap := O61.keep K72 (allS g1 all0)
        have K74 : Keep h0 T72.heap [a1] := K62.trans K72 (allS (Or.inl (List.mem_of_getElem? (i := 0) rfl)) all0)
        have E_75 : Exa Z T72.heap a1 "com/example/sidelane/sidelane/Cancellation" := E_63.keep K72
        show Go p e below _ (T72.setTop (mkF m 132 #[.val (.ref a1), .val (.int p1), .val (.int (1 : Int32)), .val (.int (1 : Int32)), .val (.int (0 : Int32)), .val (.int (3 : Int32)), .val (.int z59), .val (.ref r60), .unset, .unset] [(.ref r72)]))
        refine Go.st (fun _ => XS.pop X72.here hx rfl (hb hby d4_132) rfl rfl) ?_
        show Go p e below _ (T72.setTop (mkF m 133 #[.val (.ref a1), .val (.int p1), .val (.int (1 : Int32)), .val (.int (1 : Int32)), .val (.int (0 : Int32)), .val (.int (3 : Int32)), .val (.int z59), .val (.ref r60), .unset, .unset] []))
        refine Go.st (fun _ => XS.iloadN X72.here hx rfl (hb hby d4_133) rfl) ?_
        show Go p e below _ (T72.setTop (mkF m 134 #[.val (.ref a1), .val (.int p1), .val (.int (1 : Int32)), .val (.int (1 : Int32)), .val (.int (0 : Int32)), .val (.int (3 : Int32)), .val (.int z59), .val (.ref r60), .unset, .unset] [(.int (1 : Int32))]))
        refine Go.st (fun _ => XS.iconst X72.here hx rfl (hb hby d4_134)) ?_
        show Go p e below _ (T72.setTop (mkF m 135 #[.val (.ref a1), .val (.int p1), .val (.int (1 : Int32)), .val (.int (1 : Int32)), .val (.int (0 : Int32)), .val (.int (3 : Int32)), .val (.int z59), .val (.ref r60), .unset, .unset] [(.int (2 : Int32)), (.int (1 : Int32))]))
        refine Go.st (fun _ => XS.icmpNo X72.here hx rfl (hb hby d4_135) rfl (feq (by decide : ¬ ((1 : Int32) = (2 : Int32)))).1) ?_
        show Go p e below _ (T72.setTop (mkF m 138 #[.val (.ref a1), .val (.int p1), .val (.int (1 : Int32)), .val (.int (1 : Int32)), .val (.int (0 : Int32)), .val (.int (3 : Int32)), .val (.int z59), .val (.ref r60), .unset, .unset] []))
        refine Go.st (fun _ => XS.iload X72.here hx rfl (hb hby d4_138) rfl) ?_
        show Go p e below _ (T72.setTop (mkF m 140 #[.val (.ref a1), .val (.int p1), .val (.int (1 : Int32)), .val (.int (1 : Int32)), .val (.int (0 : Int32)), .val (.int (3 : Int32)), .val (.int z59), .val (.ref r60), .unset, .unset] [(.int (0 : Int32))]))
        refine Go.st (fun _ => XS.ifNo X72.here hx rfl (hb hby d4_140) rfl ((if0 _ _).trans (teq (by decide : (0 : Int32) = (0 : Int32))).2)) ?_
        show Go p e below _ (T72.setTop (mkF m 143 #[.val (.ref a1), .val (.int p1), .val (.int (1 : Int32)), .val (.int (1 : Int32)), .val (.int (0 : Int32)), .val (.int (3 : Int32)), .val (.int z59), .val (.ref r60), .unset, .unset] []))
        refine Go.st (fun _ => XS.iloadN X72.here hx rfl (hb hby d4_143) rfl) ?_
        show Go p e below _ (T72.setTop (mkF m 144 #[.val (.ref a1), .val (.int p1), .val (.int (1 : Int32)), .val (.int (1 : Int32)), .val (.int (0 : Int32)), .val (.int (3 : Int32)), .val (.int z59), .val (.ref r60), .unset, .unset] [(.int (1 : Int32))]))
        refine Go.st (fun _ => XS.iconst X72.here hx rfl (hb hby d4_144)) ?_
        show Go p e below _ (T72.setTop (mkF m 145 #[.val (.ref a1), .val (.int p1), .val (.int (1 : Int32)), .val (.int (1 : Int32)), .val (.int (0 : Int32)), .val (.int (3 : Int32)), .val (.int z59), .val (.ref r60), .unset, .unset] [(.int (1 : Int32)), (.int (1 : Int32))]))
        refine Go.st (fun _ => XS.icmpYes X72.here hx rfl (pc0 := 145) (pc' := 153) rfl (hb hby d4_145) rfl (teq (by decide : (1 : Int32) = (1 : Int32))).1 (by decide) (by decide)) ?_
        show Go p e below _ (T72.setTop (mkF m 153 #[.val (.ref a1), .val (.int p1), .val (.int (1 : Int32)), .val (.int (1 : Int32)), .val (.int (0 : Int32)), .val (.int (3 : Int32)), .val (.int z59), .val (.ref r60), .unset, .unset] []))
        refine Go.st (fun _ => XS.iconst X72.here hx rfl (hb hby d4_153)) ?_
        show Go p e below _ (T72.setTop (mkF m 154 #[.val (.ref a1), .val (.int p1), .val (.int (1 : Int32)), .val (.int (1 : Int32)), .val (.int (0 : Int32)), .val (.int (3 : Int32)), .val (.int z59), .val (.ref r60), .unset, .unset] [(.int (1 : Int32))]))
        refine Go.st (fun _ => XS.istore X72.here hx rfl (hb hby d4_154) rfl (l' := #[.val (.ref a1), .val (.int p1), .val (.int (1 : Int32)), .val (.int (1 : Int32)), .val (.int (1 : Int32)), .val (.int (3 : Int32)), .val (.int z59), .val (.ref r60), .unset, .unset]) rfl) ?_
        show Go p e below _ (T72.setTop (mkF m 156 #[.val (.ref a1), .val (.int p1), .val (.int (1 : Int32)), .val (.int (1 : Int32)), .val (.int (1 : Int32)), .val (.int (3 : Int32)), .val (.int z59), .val (.ref r60), .unset, .unset] []))
        refine Go.st (fun _ => XS.iloadN X72.here hx rfl (hb hby d4_156) rfl) ?_
        show Go p e below _ (T72.setTop (mkF m 157 #[.val (.ref a1), .val (.int p1), .val (.int (1 : Int32)), .val (.int (1 : Int32)), .val (.int (1 : Int32)), .val (.int (3 : Int32)), .val (.int z59), .val (.ref r60), .unset, .unset] [(.int (1 : Int32))]))
        refine Go.st (fun _ => XS.iload X72.here hx rfl (hb hby d4_157) rfl) ?_
        show Go p e below _ (T72.setTop (mkF m 159 #[.val (.ref a1), .val (.int p1), .val (.int (1 : Int32)), .val (.int (1 : Int32)), .val (.int (1 : Int32)), .val (.int (3 : Int32)), .val (.int z59), .val (.ref r60), .unset, .unset] [(.int (1 : Int32)), (.int (1 : Int32))]))
        refine Go.st (fun _ => XS.ifNo X72.here hx rfl (hb hby d4_159) rfl ((if0 _ _).trans (feq (by decide : ¬ ((1 : Int32) = (0 : Int32)))).1)) ?_
        show Go p e below _ (T72.setTop (mkF m 162 #[.val (.ref a1), .val (.int p1), .val (.int (1 : Int32)), .val (.int (1 : Int32)), .val (.int (1 : Int32)), .val (.int (3 : Int32)), .val (.int z59), .val (.ref r60), .unset, .unset] [(.int (1 : Int32))]))
        refine Go.st (fun _ => XS.iconst X72.here hx rfl (hb hby d4_162)) ?_
        show Go p e below _ (T72.setTop (mkF m 163 #[.val (.ref a1), .val (.int p1), .val (.int (1 : Int32)), .val (.int (1 : Int32)), .val (.int (1 : Int32)), .val (.int (3 : Int32)), .val (.int z59), .val (.ref r60), .unset, .unset] [(.int (4 : Int32)), (.int (1 : Int32))]))
        refine Go.st (fun _ => XS.goto X72.here hx rfl (pc0 := 163) (pc' := 167) rfl (hb hby d4_163) (by decide) (by decide)) ?_
        show Go p e below _ (T72.setTop (mkF m 167 #[.val (.ref a1), .val (.int p1), .val (.int (1 : Int32)), .val (.int (1 : Int32)), .val (.int (1 : Int32)), .val (.int (3 : Int32)), .val (.int z59), .val (.ref r60), .unset, .unset] [(.int (4 : Int32)), (.int (1 : Int32))]))
        refine Go.st (fun _ => XS.ior X72.here hx rfl (hb hby d4_167) rfl) ?_
        show Go p e below _ (T72.setTop (mkF m 168 #[.val (.ref a1), .val (.int p1), .val (.int (1 : Int32)), .val (.int (1 : Int32)), .val (.int (1 : Int32)), .val (.int (3 : Int32)), .val (.int z59), .val (.ref r60), .unset, .unset] [(.int (5 : Int32))]))
        exact goRetI X72 hx hlk hret rfl (hb hby d4_168) (by decide) (by decide) ⟨_, rfl, by decide, N72, K74, ⟨_, _, _, _, ⟨Eb72, Ub72, Fb0_72, Fb1_72, Fb2_72, Fb3_72, Fb4_72, Fb5_72, Fb6_72⟩, Or.inr (Or.inr (Or.inr (Or.inr ⟨rfl, rfl, rfl, (Or.inr ⟨_, rfl⟩), ⟨_, rfl⟩⟩)))⟩⟩
      · show Go p e below _ (s₁.setTop (mkF m 25 #[.val (.ref a1), .val (.int p1), .val (.int (1 : Int32)), .val (.int (1 : Int32)), .val (.int (0 : Int32)), .val (.int (3 : Int32)), .unset, .unset, .unset, .unset] [(.int (p1 &&& (4 : Int32)))]))
        by_cases hc76 : (p1 &&& (4 : Int32)) = (0 : Int32)
        · refine Go.st (fun _ => XS.ifYes X0.here hx rfl (pc0 := 25) (pc' := 32) rfl (hb hby d4_25) rfl ((if0 _ _).trans (teq hc76).1) (by decide) (by decide)) ?_
          show Go p e below _ (s₁.setTop (mkF m 32 #[.val (.ref a1), .val (.int p1), .val (.int (1 : Int32)), .val (.int (1 : Int32)), .val (.int (0 : Int32)), .val (.int (3 : Int32)), .unset, .unset, .unset, .unset] []))
          refine Go.st (fun _ => XS.iconst X0.here hx rfl (hb hby d4_32)) ?_
          exact J59 _ trivial
        · refine Go.st (fun _ => XS.ifNo X0.here hx rfl (hb hby d4_25) rfl ((if0 _ _).trans (feq hc76).1)) ?_
          show Go p e below _ (s₁.setTop (mkF m 28 #[.val (.ref a1), .val (.int p1), .val (.int (1 : Int32)), .val (.int (1 : Int32)), .val (.int (0 : Int32)), .val (.int (3 : Int32)), .unset, .unset, .unset, .unset] []))
          refine Go.st (fun _ => XS.iconst X0.here hx rfl (hb hby d4_28)) ?_
          show Go p e below _ (s₁.setTop (mkF m 29 #[.val (.ref a1), .val (.int p1), .val (.int (1 : Int32)), .val (.int (1 : Int32)), .val (.int (0 : Int32)), .val (.int (3 : Int32)), .unset, .unset, .unset, .unset] [(.int (1 : Int32))]))
          refine Go.st (fun _ => XS.goto X0.here hx rfl (pc0 := 29) (pc' := 33) rfl (hb hby d4_29) (by decide) (by decide)) ?_
          exact J59 _ trivial
  · show Go p e below _ (s₁.setTop (mkF m 0 #[.val (.ref a1), .val (.int p1), .val (.int (2 : Int32)), .unset, .unset, .unset, .unset, .unset, .unset, .unset] []))
    refine Go.st (fun _ => XS.iloadN X0.here hx rfl (hb hby d4_0) rfl) ?_
    show Go p e below _ (s₁.setTop (mkF m 1 #[.val (.ref a1), .val (.int p1), .val (.int (2 : Int32)), .unset, .unset, .unset, .unset, .unset, .unset, .unset] [(.int (2 : Int32))]))
    refine Go.st (fun _ => XS.iconst X0.here hx rfl (hb hby d4_1)) ?_
    show Go p e below _ (s₁.setTop (mkF m 2 #[.val (.ref a1), .val (.int p1), .val (.int (2 : Int32)), .unset, .unset, .unset, .unset, .unset, .unset, .unset] [(.int (3 : Int32)), (.int (2 : Int32))]))
    refine Go.st (fun _ => XS.iand X0.here hx rfl (hb hby d4_2) rfl) ?_
    show Go p e below _ (s₁.setTop (mkF m 3 #[.val (.ref a1), .val (.int p1), .val (.int (2 : Int32)), .unset, .unset, .unset, .unset, .unset, .unset, .unset] [(.int (2 : Int32))]))
    refine Go.st (fun _ => XS.istoreN X0.here hx rfl (hb hby d4_3) rfl (l' := #[.val (.ref a1), .val (.int p1), .val (.int (2 : Int32)), .val (.int (2 : Int32)), .unset, .unset, .unset, .unset, .unset, .unset]) rfl) ?_
    show Go p e below _ (s₁.setTop (mkF m 4 #[.val (.ref a1), .val (.int p1), .val (.int (2 : Int32)), .val (.int (2 : Int32)), .unset, .unset, .unset, .unset, .unset, .unset] []))
    refine Go.st (fun _ => XS.iloadN X0.here hx rfl (hb hby d4_4) rfl) ?_
    show Go p e below _ (s₁.setTop (mkF m 5 #[.val (.ref a1), .val (.int p1), .val (.int (2 : Int32)), .val (.int (2 : Int32)), .unset, .unset, .unset, .unset, .unset, .unset] [(.int (2 : Int32))]))
    refine Go.st (fun _ => XS.iconst X0.here hx rfl (hb hby d4_5)) ?_
    show Go p e below _ (s₁.setTop (mkF m 6 #[.val (.ref a1), .val (.int p1), .val (.int (2 : Int32)), .val (.int (2 : Int32)), .unset, .unset, .unset, .unset, .unset, .unset] [(.int (4 : Int32)), (.int (2 : Int32))]))
    refine Go.st (fun _ => XS.iand X0.here hx rfl (hb hby d4_6) rfl) ?_
    show Go p e below _ (s₁.setTop (mkF m 7 #[.val (.ref a1), .val (.int p1), .val (.int (2 : Int32)), .val (.int (2 : Int32)), .unset, .unset, .unset, .unset, .unset, .unset] [(.int (0 : Int32))]))
    refine Go.st (fun _ => XS.ifYes X0.here hx rfl (pc0 := 7) (pc' := 14) rfl (hb hby d4_7) rfl ((if0 _ _).trans (teq (by decide : (0 : Int32) = (0 : Int32))).1) (by decide) (by decide)) ?_
    show Go p e below _ (s₁.setTop (mkF m 14 #[.val (.ref a1), .val (.int p1), .val (.int (2 : Int32)), .val (.int (2 : Int32)), .unset, .unset, .unset, .unset, .unset, .unset] []))
    refine Go.st (fun _ => XS.iconst X0.here hx rfl (hb hby d4_14)) ?_
    show Go p e below _ (s₁.setTop (mkF m 15 #[.val (.ref a1), .val (.int p1), .val (.int (2 : Int32)), .val (.int (2 : Int32)), .unset, .unset, .unset, .unset, .unset, .unset] [(.int (0 : Int32))]))
    refine Go.st (fun _ => XS.istore X0.here hx rfl (hb hby d4_15) rfl (l' := #[.val (.ref a1), .val (.int p1), .val (.int (2 : Int32)), .val (.int (2 : Int32)), .val (.int (0 : Int32)), .unset, .unset, .unset, .unset, .unset]) rfl) ?_
    show Go p e below _ (s₁.setTop (mkF m 17 #[.val (.ref a1), .val (.int p1), .val (.int (2 : Int32)), .val (.int (2 : Int32)), .val (.int (0 : Int32)), .unset, .unset, .unset, .unset, .unset] []))
    refine Go.st (fun _ => XS.iloadN X0.here hx rfl (hb hby d4_17) rfl) ?_
    show Go p e below _ (s₁.setTop (mkF m 18 #[.val (.ref a1), .val (.int p1), .val (.int (2 : Int32)), .val (.int (2 : Int32)), .val (.int (0 : Int32)), .unset, .unset, .unset, .unset, .unset] [(.int p1)]))
    refine Go.st (fun _ => XS.iconst X0.here hx rfl (hb hby d4_18)) ?_
    show Go p e below _ (s₁.setTop (mkF m 19 #[.val (.ref a1), .val (.int p1), .val (.int (2 : Int32)), .val (.int (2 : Int32)), .val (.int (0 : Int32)), .unset, .unset, .unset, .unset, .unset] [(.int (3 : Int32)), (.int p1)]))
    refine Go.st (fun _ => XS.iand X0.here hx rfl (hb hby d4_19) rfl) ?_
    show Go p e below _ (s₁.setTop (mkF m 20 #[.val (.ref a1), .val (.int p1), .val (.int (2 : Int32)), .val (.int (2 : Int32)), .val (.int (0 : Int32)), .unset, .unset, .unset, .unset, .unset] [(.int (p1 &&& (3 : Int32)))]))
    rcases own_and3 p1 with q0 | q0 | q0 | q0
    · rw [q0]
      show Go p e below _ (s₁.setTop (mkF m 20 #[.val (.ref a1), .val (.int p1), .val (.int (2 : Int32)), .val (.int (2 : Int32)), .val (.int (0 : Int32)), .unset, .unset, .unset, .unset, .unset] [(.int (0 : Int32))]))
      refine Go.st (fun _ => XS.istore X0.here hx rfl (hb hby d4_20) rfl (l' := #[.val (.ref a1), .val (.int p1), .val (.int (2 : Int32)), .val (.int (2 : Int32)), .val (.int (0 : Int32)), .val (.int (0 : Int32)), .unset, .unset, .unset, .unset]) rfl) ?_
      show Go p e below _ (s₁.setTop (mkF m 22 #[.val (.ref a1), .val (.int p1), .val (.int (2 : Int32)), .val (.int (2 : Int32)), .val (.int (0 : Int32)), .val (.int (0 : Int32)), .unset, .unset, .unset, .unset] []))
      refine Go.st (fun _ => XS.iloadN X0.here hx rfl (hb hby d4_22) rfl) ?_
      show Go p e below _ (s₁.setTop (mkF m 23 #[.val (.ref a1), .val (.int p1), .val (.int (2 : Int32)), .val (.int (2 : Int32)), .val (.int (0 : Int32)), .val (.int (0 : Int32)), .unset, .unset, .unset, .unset] [(.int p1)]))
      refine Go.st (fun _ => XS.iconst X0.here hx rfl (hb hby d4_23)) ?_
      show Go p e below _ (s₁.setTop (mkF m 24 #[.val (.ref a1), .val (.int p1), .val (.int (2 : Int32)), .val (.int (2 : Int32)), .val (.int (0 : Int32)), .val (.int (0 : Int32)), .unset, .unset, .unset, .unset] [(.int (4 : Int32)), (.int p1)]))
      refine Go.st (fun _ => XS.iand X0.here hx rfl (hb hby d4_24) rfl) ?_
      show Go p e below _ (s₁.setTop (mkF m 25 #[.val (.ref a1), .val (.int p1), .val (.int (2 : Int32)), .val (.int (2 : Int32)), .val (.int (0 : Int32)), .val (.int (0 : Int32)), .unset, .unset, .unset, .unset] [(.int (p1 &&& (4 : Int32)))]))
      refine goJoin (P := fun z77 : Int32 => True) (F := fun z77 => s₁.setTop (mkF m 33 #[.val (.ref a1), .val (.int p1), .val (.int (2 : Int32)), .val (.int (2 : Int32)), .val (.int (0 : Int32)), .val (.int (0 : Int32)), .unset, .unset, .unset, .unset] [(.int z77)])) (fun z77 hz77 => ?_) (fun J77 => ?_)
      · show Go p e below _ (s₁.setTop (mkF m 33 #[.val (.ref a1), .val (.int p1), .val (.int (2 : Int32)), .val (.int (2 : Int32)), .val (.int (0 : Int32)), .val (.int (0 : Int32)), .unset, .unset, .unset, .unset] [(.int z77)]))
        refine Go.st (fun _ => XS.istore X0.here hx rfl (hb hby d4_33) rfl (l' := #[.val (.ref a1), .val (.int p1), .val (.int (2 : Int32)), .val (.int (2 : Int32)), .val (.int (0 : Int32)), .val (.int (0 : Int32)), .val (.int z77), .unset, .unset, .unset]) rfl) ?_
        show Go p e below _ (s₁.setTop (mkF m 35 #[.val (.ref a1), .val (.int p1), .val (.int (2 : Int32)), .val (.int (2 : Int32)), .val (.int (0 : Int32)), .val (.int (0 : Int32)), .val (.int z77), .unset, .unset, .unset] []))
        refine Go.st (fun _ => XS.iload X0.here hx rfl (hb hby d4_35) rfl) ?_
        show Go p e below _ (s₁.setTop (mkF m 37 #[.val (.ref a1), .val (.int p1), .val (.int (2 : Int32)), .val (.int (2 : Int32)), .val (.int (0 : Int32)), .val (.int (0 : Int32)), .val (.int z77), .unset, .unset, .unset] [(.int (0 : Int32))]))
        refine Go.st (fun _ => XS.ifYes X0.here hx rfl (pc0 := 37) (pc' := 46) rfl (hb hby d4_37) rfl ((if0 _ _).trans (teq (by decide : (0 : Int32) = (0 : Int32))).1) (by decide) (by decide)) ?_
        show Go p e below _ (s₁.setTop (mkF m 46 #[.val (.ref a1), .val (.int p1), .val (.int (2 : Int32)), .val (.int (2 : Int32)), .val (.int (0 : Int32)), .val (.int (0 : Int32)), .val (.int z77), .unset, .unset, .unset] []))
        refine Go.st (fun _ => XS.iload X0.here hx rfl (hb hby d4_46) rfl) ?_
        show Go p e below _ (s₁.setTop (mkF m 48 #[.val (.ref a1), .val (.int p1), .val (.int (2 : Int32)), .val (.int (2 : Int32)), .val (.int (0 : Int32)), .val (.int (0 : Int32)), .val (.int z77), .unset, .unset, .unset] [(.int (0 : Int32))]))
        refine Go.st (fun _ => XS.ifNo X0.here hx rfl (hb hby d4_48) rfl ((if0 _ _).trans (teq (by decide : (0 : Int32) = (0 : Int32))).2)) ?_
        show Go p e below _ (s₁.setTop (mkF m 51 #[.val (.ref a1), .val (.int p1), .val (.int (2 : Int32)), .val (.int (2 : Int32)), .val (.int (0 : Int32)), .val (.int (0 : Int32)), .val (.int z77), .unset, .unset, .unset] []))
        obtain ⟨T78, X78, e78, st78⟩ := getS2 X0 hx hZ hown (host := "") (Or.inl (hw _ (List.mem_of_getElem? (i := 22) rfl))) Via.refl e0 (oldSta O0 S_w_EXECUTE) (g := (mkF m 51 #[.val (.ref a1), .val (.int p1), .val (.int (2 : Int32)), .val (.int (2 : Int32)), .val (.int (0 : Int32)), .val (.int (0 : Int32)), .val (.int z77), .unset, .unset, .unset] [])) rfl (hb hby d4_51)
        refine Go.st st78 ?_
        show Go p e below _ (T78.setTop (mkF m 54 #[.val (.ref a1), .val (.int p1), .val (.int (2 : Int32)), .val (.int (2 : Int32)), .val (.int (0 : Int32)), .val (.int (0 : Int32)), .val (.int z77), .unset, .unset, .unset] [(.ref w_EXECUTE)]))
        refine Go.st (fun _ => XS.goto X78.here hx rfl (pc0 := 54) (pc' := 60) rfl (hb hby d4_54) (by decide) (by decide)) ?_
        show Go p e below _ (T78.setTop (mkF m 60 #[.val (.ref a1), .val (.int p1), .val (.int (2 : Int32)), .val (.int (2 : Int32)), .val (.int (0 : Int32)), .val (.int (0 : Int32)), .val (.int z77), .unset, .unset, .unset] [(.ref w_EXECUTE)]))
        refine Go.st (fun _ => XS.astore X78.here hx rfl (hb hby d4_60) rfl rfl (l' := #[.val (.ref a1), .val (.int p1), .val (.int (2 : Int32)), .val (.int (2 : Int32)), .val (.int (0 : Int32)), .val (.int (0 : Int32)), .val (.int z77), .val (.ref w_EXECUTE), .unset, .unset]) rfl) ?_
        show Go p e below _ (T78.setTop (mkF m 62 #[.val (.ref a1), .val (.int p1), .val (.int (2 : Int32)), .val (.int (2 : Int32)), .val (.int (0 : Int32)), .val (.int (0 : Int32)), .val (.int z77), .val (.ref w_EXECUTE), .unset, .unset] []))
        refine Go.st (fun _ => XS.aloadN X78.here hx rfl (hb hby d4_62) rfl rfl) ?_
        show Go p e below _ (T78.setTop (mkF m 63 #[.val (.ref a1), .val (.int p1), .val (.int (2 : Int32)), .val (.int (2 : Int32)), .val (.int (0 : Int32)), .val (.int (0 : Int32)), .val (.int z77), .val (.ref w_EXECUTE), .unset, .unset] [(.ref a1)]))
        refine Go.st (fun _ => XS.aload X78.here hx rfl (hb hby d4_63) rfl rfl) ?_
        show Go p e below _ (T78.setTop (mkF m 65 #[.val (.ref a1), .val (.int p1), .val (.int (2 : Int32)), .val (.int (2 : Int32)), .val (.int (0 : Int32)), .val (.int (0 : Int32)), .val (.int z77), .val (.ref w_EXECUTE), .unset, .unset] [(.ref w_EXECUTE), (.ref a1)]))
        refine goVirtS X78 hx hZ (y := (⟨"com/example/sidelane/sidelane/Cancellation", "claim", "(Lcom/example/sidelane/sidelane/Cancellation$Claimant;)Z"⟩ : MethodName)) (z := (⟨"com/example/sidelane/sidelane/Cancellation", "claim", "(Lcom/example/sidelane/sidelane/Cancellation$Claimant;)Z"⟩ : MethodName)) hown (hw _ (List.mem_of_getElem? (i := 25) rfl)) (hw _ (List.mem_of_getElem? (i := 26) rfl)) (notFace_of_selects (args := #[]) (mvT hZ (hw _ (List.mem_of_getElem? (i := 28) rfl)))) (hw _ (List.mem_of_getElem? (i := 28) rfl)) (hw _ (List.mem_of_getElem? (i := 27) rfl)) (hw _ (List.mem_of_getElem? (i := 2) rfl)) (hw _ (List.mem_of_getElem? (i := 29) rfl)) (by decide) (a := a1) (argsL := [(.ref w_EXECUTE)]) (rest := []) e78 Eb (cmR0 l Z a0 hw a1 w_EXECUTE w_ADOPTER en oc h0 n0 O0 Ub g1 Eb Fb0 Fb1 Fb2 Fb3 Fb4 Fb5 Fb6) 0 (by decide) (by decide) (by decide) (by decide) (mkF m 65 #[.val (.ref a1), .val (.int p1), .val (.int (2 : Int32)), .val (.int (2 : Int32)), .val (.int (0 : Int32)), .val (.int (0 : Int32)), .val (.int z77), .val (.ref w_EXECUTE), .unset, .unset] [(.ref w_EXECUTE), (.ref a1)]) rfl (by rw [hml]; rfl) (lenOf pd_3 rfl) rfl (hb hby d4_65) (Nat.le_of_eq rfl) ?_
        intro v79 T79 L79 X79 hQ79
        obtain ⟨rfl, M79, K79, ⟨Eb79, Ub79, Fb0_79, Fb1_79, Fb2_79, Fb3_79, Fb4_79, Fb5_79, Fb6_79⟩⟩ := hQ79
        have N79 := Fr.app N0 M79
        have O80 : Old Z n0 T79.heap := O0.keep K79 (allS g1 all0)
        have K81 : Keep h0 T79.heap [a1] := (Keep.refl h0 [a1]).trans K79 (allS (Or.inl (List.mem_of_getElem? (i := 0) rfl)) all0)
        have E_82 : Exa Z T79.heap a1 "com/example/sidelane/sidelane/Cancellation" := Eb.keep K79
        show Go p e below _ (T79.setTop (mkF m 68 #[.val (.ref a1), .val (.int p1), .val (.int (2 : Int32)), .val (.int (2 : Int32)), .val (.int (0 : Int32)), .val (.int (0 : Int32)), .val (.int z77), .val (.ref w_EXECUTE), .unset, .unset] [(.int (0 : Int32))]))
        refine Go.st (fun _ => XS.istore X79.here hx rfl (hb hby d4_68) rfl (l' := #[.val (.ref a1), .val (.int p1), .val (.int (2 : Int32)), .val (.int (2 : Int32)), .val (.int (0 : Int32)), .val (.int (0 : Int32)), .val (.int z77), .val (.ref w_EXECUTE), .val (.int (0 : Int32)), .unset]) rfl) ?_
        show Go p e below _ (T79.setTop (mkF m 70 #[.val (.ref a1), .val (.int p1), .val (.int (2 : Int32)), .val (.int (2 : Int32)), .val (.int (0 : Int32)), .val (.int (0 : Int32)), .val (.int z77), .val (.ref w_EXECUTE), .val (.int (0 : Int32)), .unset] []))
        refine Go.st (fun _ => XS.iloadN X79.here hx rfl (hb hby d4_70) rfl) ?_
        show Go p e below _ (T79.setTop (mkF m 71 #[.val (.ref a1), .val (.int p1), .val (.int (2 : Int32)), .val (.int (2 : Int32)), .val (.int (0 : Int32)), .val (.int (0 : Int32)), .val (.int z77), .val (.ref w_EXECUTE), .val (.int (0 : Int32)), .unset] [(.int (2 : Int32))]))
        refine Go.st (fun _ => XS.ifYes X79.here hx rfl (pc0 := 71) (pc' := 83) rfl (hb hby d4_71) rfl ((if0 _ _).trans (feq (by decide : ¬ ((2 : Int32) = (0 : Int32)))).2) (by decide) (by decide)) ?_
        show Go p e below _ (T79.setTop (mkF m 83 #[.val (.ref a1), .val (.int p1), .val (.int (2 : Int32)), .val (.int (2 : Int32)), .val (.int (0 : Int32)), .val (.int (0 : Int32)), .val (.int z77), .val (.ref w_EXECUTE), .val (.int (0 : Int32)), .unset] []))
        refine Go.st (fun _ => XS.iconst X79.here hx rfl (hb hby d4_83)) ?_
        show Go p e below _ (T79.setTop (mkF m 84 #[.val (.ref a1), .val (.int p1), .val (.int (2 : Int32)), .val (.int (2 : Int32)), .val (.int (0 : Int32)), .val (.int (0 : Int32)), .val (.int z77), .val (.ref w_EXECUTE), .val (.int (0 : Int32)), .unset] [(.int (0 : Int32))]))
        refine Go.st (fun _ => XS.istore X79.here hx rfl (hb hby d4_84) rfl (l' := #[.val (.ref a1), .val (.int p1), .val (.int (2 : Int32)), .val (.int (2 : Int32)), .val (.int (0 : Int32)), .val (.int (0 : Int32)), .val (.int z77), .val (.ref w_EXECUTE), .val (.int (0 : Int32)), .val (.int (0 : Int32))]) rfl) ?_
        show Go p e below _ (T79.setTop (mkF m 86 #[.val (.ref a1), .val (.int p1), .val (.int (2 : Int32)), .val (.int (2 : Int32)), .val (.int (0 : Int32)), .val (.int (0 : Int32)), .val (.int z77), .val (.ref w_EXECUTE), .val (.int (0 : Int32)), .val (.int (0 : Int32))] []))
        refine Go.st (fun _ => XS.iload X79.here hx rfl (hb hby d4_86) rfl) ?_
        show Go p e below _ (T79.setTop (mkF m 88 #[.val (.ref a1), .val (.int p1), .val (.int (2 : Int32)), .val (.int (2 : Int32)), .val (.int (0 : Int32)), .val (.int (0 : Int32)), .val (.int z77), .val (.ref w_EXECUTE), .val (.int (0 : Int32)), .val (.int (0 : Int32))] [(.int (0 : Int32))]))
        refine Go.st (fun _ => XS.iload X79.here hx rfl (hb hby d4_88) rfl) ?_
        show Go p e below _ (T79.setTop (mkF m 90 #[.val (.ref a1), .val (.int p1), .val (.int (2 : Int32)), .val (.int (2 : Int32)), .val (.int (0 : Int32)), .val (.int (0 : Int32)), .val (.int z77), .val (.ref w_EXECUTE), .val (.int (0 : Int32)), .val (.int (0 : Int32))] [(.int (0 : Int32)), (.int (0 : Int32))]))
        refine Go.st (fun _ => XS.icmpYes X79.here hx rfl (pc0 := 90) (pc' := 95) rfl (hb hby d4_90) rfl (teq (by decide : (0 : Int32) = (0 : Int32))).1 (by decide) (by decide)) ?_
        show Go p e below _ (T79.setTop (mkF m 95 #[.val (.ref a1), .val (.int p1), .val (.int (2 : Int32)), .val (.int (2 : Int32)), .val (.int (0 : Int32)), .val (.int (0 : Int32)), .val (.int z77), .val (.ref w_EXECUTE), .val (.int (0 : Int32)), .val (.int (0 : Int32))] []))
        refine Go.st (fun _ => XS.iload X79.here hx rfl (hb hby d4_95) rfl) ?_
        show Go p e below _ (T79.setTop (mkF m 97 #[.val (.ref a1), .val (.int p1), .val (.int (2 : Int32)), .val (.int (2 : Int32)), .val (.int (0 : Int32)), .val (.int (0 : Int32)), .val (.int z77), .val (.ref w_EXECUTE), .val (.int (0 : Int32)), .val (.int (0 : Int32))] [(.int (0 : Int32))]))
        refine Go.st (fun _ => XS.ifYes X79.here hx rfl (pc0 := 97) (pc' := 105) rfl (hb hby d4_97) rfl ((if0 _ _).trans (teq (by decide : (0 : Int32) = (0 : Int32))).1) (by decide) (by decide)) ?_
        show Go p e below _ (T79.setTop (mkF m 105 #[.val (.ref a1), .val (.int p1), .val (.int (2 : Int32)), .val (.int (2 : Int32)), .val (.int (0 : Int32)), .val (.int (0 : Int32)), .val (.int z77), .val (.ref w_EXECUTE), .val (.int (0 : Int32)), .val (.int (0 : Int32))] []))
        refine Go.st (fun _ => XS.goto X79.here hx rfl (pc0 := 105) (pc' := 156) rfl (hb hby d4_105) (by decide) (by decide)) ?_
        show Go p e below _ (T79.setTop (mkF m 156 #[.val (.ref a1), .val (.int p1), .val (.int (2 : Int32)), .val (.int (2 : Int32)), .val (.int (0 : Int32)), .val (.int (0 : Int32)), .val (.int z77), .val (.ref w_EXECUTE), .val (.int (0 : Int32)), .val (.int (0 : Int32))] []))
        refine Go.st (fun _ => XS.iloadN X79.here hx rfl (hb hby d4_156) rfl) ?_
        show Go p e below _ (T79.setTop (mkF m 157 #[.val (.ref a1), .val (.int p1), .val (.int (2 : Int32)), .val (.int (2 : Int32)), .val (.int (0 : Int32)), .val (.int (0 : Int32)), .val (.int z77), .val (.ref w_EXECUTE), .val (.int (0 : Int32)), .val (.int (0 : Int32))] [(.int (2 : Int32))]))
        refine Go.st (fun _ => XS.iload X79.here hx rfl (hb hby d4_157) rfl) ?_
        show Go p e below _ (T79.setTop (mkF m 159 #[.val (.ref a1), .val (.int p1), .val (.int (2 : Int32)), .val (.int (2 : Int32)), .val (.int (0 : Int32)), .val (.int (0 : Int32)), .val (.int z77), .val (.ref w_EXECUTE), .val (.int (0 : Int32)), .val (.int (0 : Int32))] [(.int (0 : Int32)), (.int (2 : Int32))]))
        refine Go.st (fun _ => XS.ifYes X79.here hx rfl (pc0 := 159) (pc' := 166) rfl (hb hby d4_159) rfl ((if0 _ _).trans (teq (by decide : (0 : Int32) = (0 : Int32))).1) (by decide) (by decide)) ?_
        show Go p e below _ (T79.setTop (mkF m 166 #[.val (.ref a1), .val (.int p1), .val (.int (2 : Int32)), .val (.int (2 : Int32)), .val (.int (0 : Int32)), .val (.int (0 : Int32)), .val (.int z77), .val (.ref w_EXECUTE), .val (.int (0 : Int32)), .val (.int (0 : Int32))] [(.int (2 : Int32))]))
        refine Go.st (fun _ => XS.iconst X79.here hx rfl (hb hby d4_166)) ?_
        show Go p e below _ (T79.setTop (mkF m 167 #[.val (.ref a1), .val (.int p1), .val (.int (2 : Int32)), .val (.int (2 : Int32)), .val (.int (0 : Int32)), .val (.int (0 : Int32)), .val (.int z77), .val (.ref w_EXECUTE), .val (.int (0 : Int32)), .val (.int (0 : Int32))] [(.int (0 : Int32)), (.int (2 : Int32))]))
        refine Go.st (fun _ => XS.ior X79.here hx rfl (hb hby d4_167) rfl) ?_
        show Go p e below _ (T79.setTop (mkF m 168 #[.val (.ref a1), .val (.int p1), .val (.int (2 : Int32)), .val (.int (2 : Int32)), .val (.int (0 : Int32)), .val (.int (0 : Int32)), .val (.int z77), .val (.ref w_EXECUTE), .val (.int (0 : Int32)), .val (.int (0 : Int32))] [(.int (2 : Int32))]))
        exact goRetI X79 hx hlk hret rfl (hb hby d4_168) (by decide) (by decide) ⟨_, rfl, by decide, N79, K81, ⟨_, _, _, _, ⟨Eb79, Ub79, Fb0_79, Fb1_79, Fb2_79, Fb3_79, Fb4_79, Fb5_79, Fb6_79⟩, Or.inr (Or.inr (Or.inl ⟨rfl, rfl, rfl⟩))⟩⟩
      · show Go p e below _ (s₁.setTop (mkF m 25 #[.val (.ref a1), .val (.int p1), .val (.int (2 : Int32)), .val (.int (2 : Int32)), .val (.int (0 : Int32)), .val (.int (0 : Int32)), .unset, .unset, .unset, .unset] [(.int (p1 &&& (4 : Int32)))]))
        by_cases hc83 : (p1 &&& (4 : Int32)) = (0 : Int32)
        · refine Go.st (fun _ => XS.ifYes X0.here hx rfl (pc0 := 25) (pc' := 32) rfl (hb hby d4_25) rfl ((if0 _ _).trans (teq hc83).1) (by decide) (by decide)) ?_
          show Go p e below _ (s₁.setTop (mkF m 32 #[.val (.ref a1), .val (.int p1), .val (.int (2 : Int32)), .val (.int (2 : Int32)), .val (.int (0 : Int32)), .val (.int (0 : Int32)), .unset, .unset, .unset, .unset] []))
          refine Go.st (fun _ => XS.iconst X0.here hx rfl (hb hby d4_32)) ?_
          exact J77 _ trivial
        · refine Go.st (fun _ => XS.ifNo X0.here hx rfl (hb hby d4_25) rfl ((if0 _ _).trans (feq hc83).1)) ?_
          show Go p e below _ (s₁.setTop (mkF m 28 #[.val (.ref a1), .val (.int p1), .val (.int (2 : Int32)), .val (.int (2 : Int32)), .val (.int (0 : Int32)), .val (.int (0 : Int32)), .unset, .unset, .unset, .unset] []))
          refine Go.st (fun _ => XS.iconst X0.here hx rfl (hb hby d4_28)) ?_
          show Go p e below _ (s₁.setTop (mkF m 29 #[.val (.ref a1), .val (.int p1), .val (.int (2 : Int32)), .val (.int (2 : Int32)), .val (.int (0 : Int32)), .val (.int (0 : Int32)), .unset, .unset, .unset, .unset] [(.int (1 : Int32))]))
          refine Go.st (fun _ => XS.goto X0.here hx rfl (pc0 := 29) (pc' := 33) rfl (hb hby d4_29) (by decide) (by decide)) ?_
          exact J77 _ trivial
    · rw [q0]
      show Go p e below _ (s₁.setTop (mkF m 20 #[.val (.ref a1), .val (.int p1), .val (.int (2 : Int32)), .val (.int (2 : Int32)), .val (.int (0 : Int32)), .unset, .unset, .unset, .unset, .unset] [(.int (1 : Int32))]))
      refine Go.st (fun _ => XS.istore X0.here hx rfl (hb hby d4_20) rfl (l' := #[.val (.ref a1), .val (.int p1), .val (.int (2 : Int32)), .val (.int (2 : Int32)), .val (.int (0 : Int32)), .val (.int (1 : Int32)), .unset, .unset, .unset, .unset]) rfl) ?_
      show Go p e below _ (s₁.setTop (mkF m 22 #[.val (.ref a1), .val (.int p1), .val (.int (2 : Int32)), .val (.int (2 : Int32)), .val (.int (0 : Int32)), .val (.int (1 : Int32)), .unset, .unset, .unset, .unset] []))
      refine Go.st (fun _ => XS.iloadN X0.here hx rfl (hb hby d4_22) rfl) ?_
      show Go p e below _ (s₁.setTop (mkF m 23 #[.val (.ref a1), .val (.int p1), .val (.int (2 : Int32)), .val (.int (2 : Int32)), .val (.int (0 : Int32)), .val (.int (1 : Int32)), .unset, .unset, .unset, .unset] [(.int p1)]))
      refine Go.st (fun _ => XS.iconst X0.here hx rfl (hb hby d4_23)) ?_
      show Go p e below _ (s₁.setTop (mkF m 24 #[.val (.ref a1), .val (.int p1), .val (.int (2 : Int32)), .val (.int (2 : Int32)), .val (.int (0 : Int32)), .val (.int (1 : Int32)), .unset, .unset, .unset, .unset] [(.int (4 : Int32)), (.int p1)]))
      refine Go.st (fun _ => XS.iand X0.here hx rfl (hb hby d4_24) rfl) ?_
      show Go p e below _ (s₁.setTop (mkF m 25 #[.val (.ref a1), .val (.int p1), .val (.int (2 : Int32)), .val (.int (2 : Int32)), .val (.int (0 : Int32)), .val (.int (1 : Int32)), .unset, .unset, .unset, .unset] [(.int (p1 &&& (4 : Int32)))]))
      refine goJoin (P := fun z84 : Int32 => True) (F := fun z84 => s₁.setTop (mkF m 33 #[.val (.ref a1), .val (.int p1), .val (.int (2 : Int32)), .val (.int (2 : Int32)), .val (.int (0 : Int32)), .val (.int (1 : Int32)), .unset, .unset, .unset, .unset] [(.int z84)])) (fun z84 hz84 => ?_) (fun J84 => ?_)
      · show Go p e below _ (s₁.setTop (mkF m 33 #[.val (.ref a1), .val (.int p1), .val (.int (2 : Int32)), .val (.int (2 : Int32)), .val (.int (0 : Int32)), .val (.int (1 : Int32)), .unset, .unset, .unset, .unset] [(.int z84)]))
        refine Go.st (fun _ => XS.istore X0.here hx rfl (hb hby d4_33) rfl (l' := #[.val (.ref a1), .val (.int p1), .val (.int (2 : Int32)), .val (.int (2 : Int32)), .val (.int (0 : Int32)), .val (.int (1 : Int32)), .val (.int z84), .unset, .unset, .unset]) rfl) ?_
        show Go p e below _ (s₁.setTop (mkF m 35 #[.val (.ref a1), .val (.int p1), .val (.int (2 : Int32)), .val (.int (2 : Int32)), .val (.int (0 : Int32)), .val (.int (1 : Int32)), .val (.int z84), .unset, .unset, .unset] []))
        refine Go.st (fun _ => XS.iload X0.here hx rfl (hb hby d4_35) rfl) ?_
        show Go p e below _ (s₁.setTop (mkF m 37 #[.val (.ref a1), .val (.int p1), .val (.int (2 : Int32)), .val (.int (2 : Int32)), .val (.int (0 : Int32)), .val (.int (1 : Int32)), .val (.int z84), .unset, .unset, .unset] [(.int (1 : Int32))]))
        refine Go.st (fun _ => XS.ifNo X0.here hx rfl (hb hby d4_37) rfl ((if0 _ _).trans (feq (by decide : ¬ ((1 : Int32) = (0 : Int32)))).1)) ?_
        show Go p e below _ (s₁.setTop (mkF m 40 #[.val (.ref a1), .val (.int p1), .val (.int (2 : Int32)), .val (.int (2 : Int32)), .val (.int (0 : Int32)), .val (.int (1 : Int32)), .val (.int z84), .unset, .unset, .unset] []))
        refine Go.st (fun _ => XS.iload X0.here hx rfl (hb hby d4_40) rfl) ?_
        show Go p e below _ (s₁.setTop (mkF m 42 #[.val (.ref a1), .val (.int p1), .val (.int (2 : Int32)), .val (.int (2 : Int32)), .val (.int (0 : Int32)), .val (.int (1 : Int32)), .val (.int z84), .unset, .unset, .unset] [(.int (1 : Int32))]))
        refine Go.st (fun _ => XS.iconst X0.here hx rfl (hb hby d4_42)) ?_
        show Go p e below _ (s₁.setTop (mkF m 43 #[.val (.ref a1), .val (.int p1), .val (.int (2 : Int32)), .val (.int (2 : Int32)), .val (.int (0 : Int32)), .val (.int (1 : Int32)), .val (.int z84), .unset, .unset, .unset] [(.int (1 : Int32)), (.int (1 : Int32))]))
        refine Go.st (fun _ => XS.icmpNo X0.here hx rfl (hb hby d4_43) rfl (teq (by decide : (1 : Int32) = (1 : Int32))).2) ?_
        show Go p e below _ (s₁.setTop (mkF m 46 #[.val (.ref a1), .val (.int p1), .val (.int (2 : Int32)), .val (.int (2 : Int32)), .val (.int (0 : Int32)), .val (.int (1 : Int32)), .val (.int z84), .unset, .unset, .unset] []))
        refine Go.st (fun _ => XS.iload X0.here hx rfl (hb hby d4_46) rfl) ?_
        show Go p e below _ (s₁.setTop (mkF m 48 #[.val (.ref a1), .val (.int p1), .val (.int (2 : Int32)), .val (.int (2 : Int32)), .val (.int (0 : Int32)), .val (.int (1 : Int32)), .val (.int z84), .unset, .unset, .unset] [(.int (1 : Int32))]))
        refine Go.st (fun _ => XS.ifYes X0.here hx rfl (pc0 := 48) (pc' := 57) rfl (hb hby d4_48) rfl ((if0 _ _).trans (feq (by decide : ¬ ((1 : Int32) = (0 : Int32)))).2) (by decide) (by decide)) ?_
        show Go p e below _ (s₁.setTop (mkF m 57 #[.val (.ref a1), .val (.int p1), .val (.int (2 : Int32)), .val (.int (2 : Int32)), .val (.int (0 : Int32)), .val (.int (1 : Int32)), .val (.int z84), .unset, .unset, .unset] []))
        obtain ⟨T85, X85, e85, st85⟩ := getS2 X0 hx hZ hown (host := "") (Or.inl (hw _ (List.mem_of_getElem? (i := 59) rfl))) Via.refl e0 (oldSta O0 S_w_ADOPTER) (g := (mkF m 57 #[.val (.ref a1), .val (.int p1), .val (.int (2 : Int32)), .val (.int (2 : Int32)), .val (.int (0 : Int32)), .val (.int (1 : Int32)), .val (.int z84), .unset, .unset, .unset] [])) rfl (hb hby d4_57)
        refine Go.st st85 ?_
        show Go p e below _ (T85.setTop (mkF m 60 #[.val (.ref a1), .val (.int p1), .val (.int (2 : Int32)), .val (.int (2 : Int32)), .val (.int (0 : Int32)), .val (.int (1 : Int32)), .val (.int z84), .unset, .unset, .unset] [(.ref w_ADOPTER)]))
        refine Go.st (fun _ => XS.astore X85.here hx rfl (hb hby d4_60) rfl rfl (l' := #[.val (.ref a1), .val (.int p1), .val (.int (2 : Int32)), .val (.int (2 : Int32)), .val (.int (0 : Int32)), .val (.int (1 : Int32)), .val (.int z84), .val (.ref w_ADOPTER), .unset, .unset]) rfl) ?_
        show Go p e below _ (T85.setTop (mkF m 62 #[.val (.ref a1), .val (.int p1), .val (.int (2 : Int32)), .val (.int (2 : Int32)), .val (.int (0 : Int32)), .val (.int (1 : Int32)), .val (.int z84), .val (.ref w_ADOPTER), .unset, .unset] []))
        refine Go.st (fun _ => XS.aloadN X85.here hx rfl (hb hby d4_62) rfl rfl) ?_
        show Go p e below _ (T85.setTop (mkF m 63 #[.val (.ref a1), .val (.int p1), .val (.int (2 : Int32)), .val (.int (2 : Int32)), .val (.int (0 : Int32)), .val (.int (1 : Int32)), .val (.int z84), .val (.ref w_ADOPTER), .unset, .unset] [(.ref a1)]))
        refine Go.st (fun _ => XS.aload X85.here hx rfl (hb hby d4_63) rfl rfl) ?_
        show Go p e below _ (T85.setTop (mkF m 65 #[.val (.ref a1), .val (.int p1), .val (.int (2 : Int32)), .val (.int (2 : Int32)), .val (.int (0 : Int32)), .val (.int (1 : Int32)), .val (.int z84), .val (.ref w_ADOPTER), .unset, .unset] [(.ref w_ADOPTER), (.ref a1)]))
        refine goVirtS X85 hx hZ (y := (⟨"com/example/sidelane/sidelane/Cancellation", "claim", "(Lcom/example/sidelane/sidelane/Cancellation$Claimant;)Z"⟩ : MethodName)) (z := (⟨"com/example/sidelane/sidelane/Cancellation", "claim", "(Lcom/example/sidelane/sidelane/Cancellation$Claimant;)Z"⟩ : MethodName)) hown (hw _ (List.mem_of_getElem? (i := 25) rfl)) (hw _ (List.mem_of_getElem? (i := 26) rfl)) (notFace_of_selects (args := #[]) (mvT hZ (hw _ (List.mem_of_getElem? (i := 28) rfl)))) (hw _ (List.mem_of_getElem? (i := 28) rfl)) (hw _ (List.mem_of_getElem? (i := 27) rfl)) (hw _ (List.mem_of_getElem? (i := 2) rfl)) (hw _ (List.mem_of_getElem? (i := 29) rfl)) (by decide) (a := a1) (argsL := [(.ref w_ADOPTER)]) (rest := []) e85 Eb (cmR0 l Z a0 hw a1 w_ADOPTER w_ADOPTER en oc h0 n0 O0 Ub g1 Eb Fb0 Fb1 Fb2 Fb3 Fb4 Fb5 Fb6) 0 (by decide) (by decide) (by decide) (by decide) (mkF m 65 #[.val (.ref a1), .val (.int p1), .val (.int (2 : Int32)), .val (.int (2 : Int32)), .val (.int (0 : Int32)), .val (.int (1 : Int32)), .val (.int z84), .val (.ref w_ADOPTER), .unset, .unset] [(.ref w_ADOPTER), (.ref a1)]) rfl (by rw [hml]; rfl) (lenOf pd_3 rfl) rfl (hb hby d4_65) (Nat.le_of_eq rfl) ?_
        intro v86 T86 L86 X86 hQ86
        obtain ⟨rfl, M86, K86, ⟨Eb86, Ub86, Fb0_86, Fb1_86, Fb2_86, Fb3_86, Fb4_86, Fb5_86, Fb6_86⟩⟩ := hQ86
        have N86 := Fr.app N0 M86
        have O87 : Old Z n0 T86.heap := O0.keep K86 (allS g1 all0)
        have K88 : Keep h0 T86.heap [a1] := (Keep.refl h0 [a1]).trans K86 (allS (Or.inl (List.mem_of_getElem? (i := 0) rfl)) all0)
        have E_89 : Exa Z T86.heap a1 "com/example/sidelane/sidelane/Cancellation" := Eb.keep K86
        show Go p e below _ (T86.setTop (mkF m 68 #[.val (.ref a1), .val (.int p1), .val (.int (2 : Int32)), .val (.int (2 : Int32)), .val (.int (0 : Int32)), .val (.int (1 : Int32)), .val (.int z84), .val (.ref w_ADOPTER), .unset, .unset] [(.int (0 : Int32))]))
        refine Go.st (fun _ => XS.istore X86.here hx rfl (hb hby d4_68) rfl (l' := #[.val (.ref a1), .val (.int p1), .val (.int (2 : Int32)), .val (.int (2 : Int32)), .val (.int (0 : Int32)), .val (.int (1 : Int32)), .val (.int z84), .val (.ref w_ADOPTER), .val (.int (0 : Int32)), .unset]) rfl) ?_
        show Go p e below _ (T86.setTop (mkF m 70 #[.val (.ref a1), .val (.int p1), .val (.int (2 : Int32)), .val (.int (2 : Int32)), .val (.int (0 : Int32)), .val (.int (1 : Int32)), .val (.int z84), .val (.ref w_ADOPTER), .val (.int (0 : Int32)), .unset] []))
        refine Go.st (fun _ => XS.iloadN X86.here hx rfl (hb hby d4_70) rfl) ?_
        show Go p e below _ (T86.setTop (mkF m 71 #[.val (.ref a1), .val (.int p1), .val (.int (2 : Int32)), .val (.int (2 : Int32)), .val (.int (0 : Int32)), .val (.int (1 : Int32)), .val (.int z84), .val (.ref w_ADOPTER), .val (.int (0 : Int32)), .unset] [(.int (2 : Int32))]))
        refine Go.st (fun _ => XS.ifYes X86.here hx rfl (pc0 := 71) (pc' := 83) rfl (hb hby d4_71) rfl ((if0 _ _).trans (feq (by decide : ¬ ((2 : Int32) = (0 : Int32)))).2) (by decide) (by decide)) ?_
        show Go p e below _ (T86.setTop (mkF m 83 #[.val (.ref a1), .val (.int p1), .val (.int (2 : Int32)), .val (.int (2 : Int32)), .val (.int (0 : Int32)), .val (.int (1 : Int32)), .val (.int z84), .val (.ref w_ADOPTER), .val (.int (0 : Int32)), .unset] []))
        refine Go.st (fun _ => XS.iconst X86.here hx rfl (hb hby d4_83)) ?_
        show Go p e below _ (T86.setTop (mkF m 84 #[.val (.ref a1), .val (.int p1), .val (.int (2 : Int32)), .val (.int (2 : Int32)), .val (.int (0 : Int32)), .val (.int (1 : Int32)), .val (.int z84), .val (.ref w_ADOPTER), .val (.int (0 : Int32)), .unset] [(.int (0 : Int32))]))
        refine Go.st (fun _ => XS.istore X86.here hx rfl (hb hby d4_84) rfl (l' := #[.val (.ref a1), .val (.int p1), .val (.int (2 : Int32)), .val (.int (2 : Int32)), .val (.int (0 : Int32)), .val (.int (1 : Int32)), .val (.int z84), .val (.ref w_ADOPTER), .val (.int (0 : Int32)), .val (.int (0 : Int32))]) rfl) ?_
        show Go p e below _ (T86.setTop (mkF m 86 #[.val (.ref a1), .val (.int p1), .val (.int (2 : Int32)), .val (.int (2 : Int32)), .val (.int (0 : Int32)), .val (.int (1 : Int32)), .val (.int z84), .val (.ref w_ADOPTER), .val (.int (0 : Int32)), .val (.int (0 : Int32))] []))
        refine Go.st (fun _ => XS.iload X86.here hx rfl (hb hby d4_86) rfl) ?_
        show Go p e below _ (T86.setTop (mkF m 88 #[.val (.ref a1), .val (.int p1), .val (.int (2 : Int32)), .val (.int (2 : Int32)), .val (.int (0 : Int32)), .val (.int (1 : Int32)), .val (.int z84), .val (.ref w_ADOPTER), .val (.int (0 : Int32)), .val (.int (0 : Int32))] [(.int (0 : Int32))]))
        refine Go.st (fun _ => XS.iload X86.here hx rfl (hb hby d4_88) rfl) ?_
        show Go p e below _ (T86.setTop (mkF m 90 #[.val (.ref a1), .val (.int p1), .val (.int (2 : Int32)), .val (.int (2 : Int32)), .val (.int (0 : Int32)), .val (.int (1 : Int32)), .val (.int z84), .val (.ref w_ADOPTER), .val (.int (0 : Int32)), .val (.int (0 : Int32))] [(.int (0 : Int32)), (.int (0 : Int32))]))
        refine Go.st (fun _ => XS.icmpYes X86.here hx rfl (pc0 := 90) (pc' := 95) rfl (hb hby d4_90) rfl (teq (by decide : (0 : Int32) = (0 : Int32))).1 (by decide) (by decide)) ?_
        show Go p e below _ (T86.setTop (mkF m 95 #[.val (.ref a1), .val (.int p1), .val (.int (2 : Int32)), .val (.int (2 : Int32)), .val (.int (0 : Int32)), .val (.int (1 : Int32)), .val (.int z84), .val (.ref w_ADOPTER), .val (.int (0 : Int32)), .val (.int (0 : Int32))] []))
        refine Go.st (fun _ => XS.iload X86.here hx rfl (hb hby d4_95) rfl) ?_
        show Go p e below _ (T86.setTop (mkF m 97 #[.val (.ref a1), .val (.int p1), .val (.int (2 : Int32)), .val (.int (2 : Int32)), .val (.int (0 : Int32)), .val (.int (1 : Int32)), .val (.int z84), .val (.ref w_ADOPTER), .val (.int (0 : Int32)), .val (.int (0 : Int32))] [(.int (0 : Int32))]))
        refine Go.st (fun _ => XS.ifYes X86.here hx rfl (pc0 := 97) (pc' := 105) rfl (hb hby d4_97) rfl ((if0 _ _).trans (teq (by decide : (0 : Int32) = (0 : Int32))).1) (by decide) (by decide)) ?_
        show Go p e below _ (T86.setTop (mkF m 105 #[.val (.ref a1), .val (.int p1), .val (.int (2 : Int32)), .val (.int (2 : Int32)), .val (.int (0 : Int32)), .val (.int (1 : Int32)), .val (.int z84), .val (.ref w_ADOPTER), .val (.int (0 : Int32)), .val (.int (0 : Int32))] []))
        refine Go.st (fun _ => XS.goto X86.here hx rfl (pc0 := 105) (pc' := 156) rfl (hb hby d4_105) (by decide) (by decide)) ?_
        show Go p e below _ (T86.setTop (mkF m 156 #[.val (.ref a1), .val (.int p1), .val (.int (2 : Int32)), .val (.int (2 : Int32)), .val (.int (0 : Int32)), .val (.int (1 : Int32)), .val (.int z84), .val (.ref w_ADOPTER), .val (.int (0 : Int32)), .val (.int (0 : Int32))] []))
        refine Go.st (fun _ => XS.iloadN X86.here hx rfl (hb hby d4_156) rfl) ?_
        show Go p e below _ (T86.setTop (mkF m 157 #[.val (.ref a1), .val (.int p1), .val (.int (2 : Int32)), .val (.int (2 : Int32)), .val (.int (0 : Int32)), .val (.int (1 : Int32)), .val (.int z84), .val (.ref w_ADOPTER), .val (.int (0 : Int32)), .val (.int (0 : Int32))] [(.int (2 : Int32))]))
        refine Go.st (fun _ => XS.iload X86.here hx rfl (hb hby d4_157) rfl) ?_
        show Go p e below _ (T86.setTop (mkF m 159 #[.val (.ref a1), .val (.int p1), .val (.int (2 : Int32)), .val (.int (2 : Int32)), .val (.int (0 : Int32)), .val (.int (1 : Int32)), .val (.int z84), .val (.ref w_ADOPTER), .val (.int (0 : Int32)), .val (.int (0 : Int32))] [(.int (0 : Int32)), (.int (2 : Int32))]))
        refine Go.st (fun _ => XS.ifYes X86.here hx rfl (pc0 := 159) (pc' := 166) rfl (hb hby d4_159) rfl ((if0 _ _).trans (teq (by decide : (0 : Int32) = (0 : Int32))).1) (by decide) (by decide)) ?_
        show Go p e below _ (T86.setTop (mkF m 166 #[.val (.ref a1), .val (.int p1), .val (.int (2 : Int32)), .val (.int (2 : Int32)), .val (.int (0 : Int32)), .val (.int (1 : Int32)), .val (.int z84), .val (.ref w_ADOPTER), .val (.int (0 : Int32)), .val (.int (0 : Int32))] [(.int (2 : Int32))]))
        refine Go.st (fun _ => XS.iconst X86.here hx rfl (hb hby d4_166)) ?_
        show Go p e below _ (T86.setTop (mkF m 167 #[.val (.ref a1), .val (.int p1), .val (.int (2 : Int32)), .val (.int (2 : Int32)), .val (.int (0 : Int32)), .val (.int (1 : Int32)), .val (.int z84), .val (.ref w_ADOPTER), .val (.int (0 : Int32)), .val (.int (0 : Int32))] [(.int (0 : Int32)), (.int (2 : Int32))]))
        refine Go.st (fun _ => XS.ior X86.here hx rfl (hb hby d4_167) rfl) ?_
        show Go p e below _ (T86.setTop (mkF m 168 #[.val (.ref a1), .val (.int p1), .val (.int (2 : Int32)), .val (.int (2 : Int32)), .val (.int (0 : Int32)), .val (.int (1 : Int32)), .val (.int z84), .val (.ref w_ADOPTER), .val (.int (0 : Int32)), .val (.int (0 : Int32))] [(.int (2 : Int32))]))
        exact goRetI X86 hx hlk hret rfl (hb hby d4_168) (by decide) (by decide) ⟨_, rfl, by decide, N86, K88, ⟨_, _, _, _, ⟨Eb86, Ub86, Fb0_86, Fb1_86, Fb2_86, Fb3_86, Fb4_86, Fb5_86, Fb6_86⟩, Or.inr (Or.inr (Or.inl ⟨rfl, rfl, rfl⟩))⟩⟩
      · show Go p e below _ (s₁.setTop (mkF m 25 #[.val (.ref a1), .val (.int p1), .val (.int (2 : Int32)), .val (.int (2 : Int32)), .val (.int (0 : Int32)), .val (.int (1 : Int32)), .unset, .unset, .unset, .unset] [(.int (p1 &&& (4 : Int32)))]))
        by_cases hc90 : (p1 &&& (4 : Int32)) = (0 : Int32)
        · refine Go.st (fun _ => XS.ifYes X0.here hx rfl (pc0 := 25) (pc' := 32) rfl (hb hby d4_25) rfl ((if0 _ _).trans (teq hc90).1) (by decide) (by decide)) ?_
          show Go p e below _ (s₁.setTop (mkF m 32 #[.val (.ref a1), .val (.int p1), .val (.int (2 : Int32)), .val (.int (2 : Int32)), .val (.int (0 : Int32)), .val (.int (1 : Int32)), .unset, .unset, .unset, .unset] []))
          refine Go.st (fun _ => XS.iconst X0.here hx rfl (hb hby d4_32)) ?_
          exact J84 _ trivial
        · refine Go.st (fun _ => XS.ifNo X0.here hx rfl (hb hby d4_25) rfl ((if0 _ _).trans (feq hc90).1)) ?_
          show Go p e below _ (s₁.setTop (mkF m 28 #[.val (.ref a1), .val (.int p1), .val (.int (2 : Int32)), .val (.int (2 : Int32)), .val (.int (0 : Int32)), .val (.int (1 : Int32)), .unset, .unset, .unset, .unset] []))
          refine Go.st (fun _ => XS.iconst X0.here hx rfl (hb hby d4_28)) ?_
          show Go p e below _ (s₁.setTop (mkF m 29 #[.val (.ref a1), .val (.int p1), .val (.int (2 : Int32)), .val (.int (2 : Int32)), .val (.int (0 : Int32)), .val (.int (1 : Int32)), .unset, .unset, .unset, .unset] [(.int (1 : Int32))]))
          refine Go.st (fun _ => XS.goto X0.here hx rfl (pc0 := 29) (pc' := 33) rfl (hb hby d4_29) (by decide) (by decide)) ?_
          exact J84 _ trivial
    · rw [q0]
      show Go p e below _ (s₁.setTop (mkF m 20 #[.val (.ref a1), .val (.int p1), .val (.int (2 : Int32)), .val (.int (2 : Int32)), .val (.int (0 : Int32)), .unset, .unset, .unset, .unset, .unset] [(.int (2 : Int32))]))
      refine Go.st (fun _ => XS.istore X0.here hx rfl (hb hby d4_20) rfl (l' := #[.val (.ref a1), .val (.int p1), .val (.int (2 : Int32)), .val (.int (2 : Int32)), .val (.int (0 : Int32)), .val (.int (2 : Int32)), .unset, .unset, .unset, .unset]) rfl) ?_
      show Go p e below _ (s₁.setTop (mkF m 22 #[.val (.ref a1), .val (.int p1), .val (.int (2 : Int32)), .val (.int (2 : Int32)), .val (.int (0 : Int32)), .val (.int (2 : Int32)), .unset, .unset, .unset, .unset] []))
      refine Go.st (fun _ => XS.iloadN X0.here hx rfl (hb hby d4_22) rfl) ?_
      show Go p e below _ (s₁.setTop (mkF m 23 #[.val (.ref a1), .val (.int p1), .val (.int (2 : Int32)), .val (.int (2 : Int32)), .val (.int (0 : Int32)), .val (.int (2 : Int32)), .unset, .unset, .unset, .unset] [(.int p1)]))
      refine Go.st (fun _ => XS.iconst X0.here hx rfl (hb hby d4_23)) ?_
      show Go p e below _ (s₁.setTop (mkF m 24 #[.val (.ref a1), .val (.int p1), .val (.int (2 : Int32)), .val (.int (2 : Int32)), .val (.int (0 : Int32)), .val (.int (2 : Int32)), .unset, .unset, .unset, .unset] [(.int (4 : Int32)), (.int p1)]))
      refine Go.st (fun _ => XS.iand X0.here hx rfl (hb hby d4_24) rfl) ?_
      show Go p e below _ (s₁.setTop (mkF m 25 #[.val (.ref a1), .val (.int p1), .val (.int (2 : Int32)), .val (.int (2 : Int32)), .val (.int (0 : Int32)), .val (.int (2 : Int32)), .unset, .unset, .unset, .unset] [(.int (p1 &&& (4 : Int32)))]))
      refine goJoin (P := fun z91 : Int32 => True) (F := fun z91 => s₁.setTop (mkF m 33 #[.val (.ref a1), .val (.int p1), .val (.int (2 : Int32)), .val (.int (2 : Int32)), .val (.int (0 : Int32)), .val (.int (2 : Int32)), .unset, .unset, .unset, .unset] [(.int z91)])) (fun z91 hz91 => ?_) (fun J91 => ?_)
      · show Go p e below _ (s₁.setTop (mkF m 33 #[.val (.ref a1), .val (.int p1), .val (.int (2 : Int32)), .val (.int (2 : Int32)), .val (.int (0 : Int32)), .val (.int (2 : Int32)), .unset, .unset, .unset, .unset] [(.int z91)]))
        refine Go.st (fun _ => XS.istore X0.here hx rfl (hb hby d4_33) rfl (l' := #[.val (.ref a1), .val (.int p1), .val (.int (2 : Int32)), .val (.int (2 : Int32)), .val (.int (0 : Int32)), .val (.int (2 : Int32)), .val (.int z91), .unset, .unset, .unset]) rfl) ?_
        show Go p e below _ (s₁.setTop (mkF m 35 #[.val (.ref a1), .val (.int p1), .val (.int (2 : Int32)), .val (.int (2 : Int32)), .val (.int (0 : Int32)), .val (.int (2 : Int32)), .val (.int z91), .unset, .unset, .unset] []))
        refine Go.st (fun _ => XS.iload X0.here hx rfl (hb hby d4_35) rfl) ?_
        show Go p e below _ (s₁.setTop (mkF m 37 #[.val (.ref a1), .val (.int p1), .val (.int (2 : Int32)), .val (.int (2 : Int32)), .val (.int (0 : Int32)), .val (.int (2 : Int32)), .val (.int z91), .unset, .unset, .unset] [(.int (2 : Int32))]))
        refine Go.st (fun _ => XS.ifNo X0.here hx rfl (hb hby d4_37) rfl ((if0 _ _).trans (feq (by decide : ¬ ((2 : Int32) = (0 : Int32)))).1)) ?_
        show Go p e below _ (s₁.setTop (mkF m 40 #[.val (.ref a1), .val (.int p1), .val (.int (2 : Int32)), .val (.int (2 : Int32)), .val (.int (0 : Int32)), .val (.int (2 : Int32)), .val (.int z91), .unset, .unset, .unset] []))
        refine Go.st (fun _ => XS.iload X0.here hx rfl (hb hby d4_40) rfl) ?_
        show Go p e below _ (s₁.setTop (mkF m 42 #[.val (.ref a1), .val (.int p1), .val (.int (2 : Int32)), .val (.int (2 : Int32)), .val (.int (0 : Int32)), .val (.int (2 : Int32)), .val (.int z91), .unset, .unset, .unset] [(.int (2 : Int32))]))
        refine Go.st (fun _ => XS.iconst X0.here hx rfl (hb hby d4_42)) ?_
        show Go p e below _ (s₁.setTop (mkF m 43 #[.val (.ref a1), .val (.int p1), .val (.int (2 : Int32)), .val (.int (2 : Int32)), .val (.int (0 : Int32)), .val (.int (2 : Int32)), .val (.int z91), .unset, .unset, .unset] [(.int (1 : Int32)), (.int (2 : Int32))]))
        refine Go.st (fun _ => XS.icmpYes X0.here hx rfl (pc0 := 43) (pc' := 108) rfl (hb hby d4_43) rfl (feq (by decide : ¬ ((2 : Int32) = (1 : Int32)))).2 (by decide) (by decide)) ?_
        show Go p e below _ (s₁.setTop (mkF m 108 #[.val (.ref a1), .val (.int p1), .val (.int (2 : Int32)), .val (.int (2 : Int32)), .val (.int (0 : Int32)), .val (.int (2 : Int32)), .val (.int z91), .unset, .unset, .unset] []))
        refine Go.st (fun _ => XS.iload X0.here hx rfl (hb hby d4_108) rfl) ?_
        show Go p e below _ (s₁.setTop (mkF m 110 #[.val (.ref a1), .val (.int p1), .val (.int (2 : Int32)), .val (.int (2 : Int32)), .val (.int (0 : Int32)), .val (.int (2 : Int32)), .val (.int z91), .unset, .unset, .unset] [(.int (2 : Int32))]))
        refine Go.st (fun _ => XS.iconst X0.here hx rfl (hb hby d4_110)) ?_
        show Go p e below _ (s₁.setTop (mkF m 111 #[.val (.ref a1), .val (.int p1), .val (.int (2 : Int32)), .val (.int (2 : Int32)), .val (.int (0 : Int32)), .val (.int (2 : Int32)), .val (.int z91), .unset, .unset, .unset] [(.int (3 : Int32)), (.int (2 : Int32))]))
        refine Go.st (fun _ => XS.icmpYes X0.here hx rfl (pc0 := 111) (pc' := 121) rfl (hb hby d4_111) rfl (feq (by decide : ¬ ((2 : Int32) = (3 : Int32)))).2 (by decide) (by decide)) ?_
        show Go p e below _ (s₁.setTop (mkF m 121 #[.val (.ref a1), .val (.int p1), .val (.int (2 : Int32)), .val (.int (2 : Int32)), .val (.int (0 : Int32)), .val (.int (2 : Int32)), .val (.int z91), .unset, .unset, .unset] []))
        refine Go.st (fun _ => XS.aconstNull X0.here hx rfl (hb hby d4_121)) ?_
        show Go p e below _ (s₁.setTop (mkF m 122 #[.val (.ref a1), .val (.int p1), .val (.int (2 : Int32)), .val (.int (2 : Int32)), .val (.int (0 : Int32)), .val (.int (2 : Int32)), .val (.int z91), .unset, .unset, .unset] [.null]))
        refine Go.st (fun _ => XS.astore X0.here hx rfl (hb hby d4_122) rfl rfl (l' := #[.val (.ref a1), .val (.int p1), .val (.int (2 : Int32)), .val (.int (2 : Int32)), .val (.int (0 : Int32)), .val (.int (2 : Int32)), .val (.int z91), .val .null, .unset, .unset]) rfl) ?_
        show Go p e below _ (s₁.setTop (mkF m 124 #[.val (.ref a1), .val (.int p1), .val (.int (2 : Int32)), .val (.int (2 : Int32)), .val (.int (0 : Int32)), .val (.int (2 : Int32)), .val (.int z91), .val .null, .unset, .unset] []))
        refine Go.st (fun _ => XS.aloadN X0.here hx rfl (hb hby d4_124) rfl rfl) ?_
        show Go p e below _ (s₁.setTop (mkF m 125 #[.val (.ref a1), .val (.int p1), .val (.int (2 : Int32)), .val (.int (2 : Int32)), .val (.int (0 : Int32)), .val (.int (2 : Int32)), .val (.int z91), .val .null, .unset, .unset] [(.ref a1)]))
        refine Go.st (fun _ => XS.iload X0.here hx rfl (hb hby d4_125) rfl) ?_
        show Go p e below _ (s₁.setTop (mkF m 127 #[.val (.ref a1), .val (.int p1), .val (.int (2 : Int32)), .val (.int (2 : Int32)), .val (.int (0 : Int32)), .val (.int (2 : Int32)), .val (.int z91), .val .null, .unset, .unset] [(.int z91), (.ref a1)]))
        refine Go.st (fun _ => XS.aload X0.here hx rfl (hb hby d4_127) rfl rfl) ?_
        show Go p e below _ (s₁.setTop (mkF m 129 #[.val (.ref a1), .val (.int p1), .val (.int (2 : Int32)), .val (.int (2 : Int32)), .val (.int (0 : Int32)), .val (.int (2 : Int32)), .val (.int z91), .val .null, .unset, .unset] [.null, (.int z91), (.ref a1)]))
        refine goVirtS X0 hx hZ (y := (⟨"com/example/sidelane/sidelane/Cancellation", "cancel", "(ZLjava/lang/Object;)Lcom/example/sidelane/sidelane/Cancellation$Outcome;"⟩ : MethodName)) (z := (⟨"com/example/sidelane/sidelane/Cancellation", "cancel", "(ZLjava/lang/Object;)Lcom/example/sidelane/sidelane/Cancellation$Outcome;"⟩ : MethodName)) hown (hw _ (List.mem_of_getElem? (i := 38) rfl)) (hw _ (List.mem_of_getElem? (i := 39) rfl)) (notFace_of_selects (args := #[]) (mvT hZ (hw _ (List.mem_of_getElem? (i := 41) rfl)))) (hw _ (List.mem_of_getElem? (i := 41) rfl)) (hw _ (List.mem_of_getElem? (i := 40) rfl)) (hw _ (List.mem_of_getElem? (i := 2) rfl)) (hw _ (List.mem_of_getElem? (i := 42) rfl)) (by decide) (a := a1) (argsL := [(.int z91), .null]) (rest := []) e0 Eb (caAN l Z a0 hw a1 z91  en oc w_EXECUTE w_ADOPTER w_CANCELLED w_REFUSED w_HANDED_OVER w_CANCELLED_UNEXECUTED w_ENDING_NEEDED h0 n0 O0 Ub g1 Eb Fb0 Fb1 Fb2 Fb3 Fb4 Fb5 Fb6 S_w_EXECUTE S_w_ADOPTER S_w_CANCELLED S_w_REFUSED S_w_HANDED_OVER S_w_CANCELLED_UNEXECUTED S_w_ENDING_NEEDED ne_w_EXECUTE_w_ADOPTER) 0 (by decide) (by decide) (by decide) (by decide) (mkF m 129 #[.val (.ref a1), .val (.int p1), .val (.int (2 : Int32)), .val (.int (2 : Int32)), .val (.int (0 : Int32)), .val (.int (2 : Int32)), .val (.int z91), .val .null, .unset, .unset] [.null, (.int z91), (.ref a1)]) rfl (by rw [hml]; rfl) (lenOf pd_4 rfl) rfl (hb hby d4_129) (Nat.le_of_eq rfl) ?_
        intro v92 T92 L92 X92 hQ92
        obtain ⟨⟨r92, rfl⟩, M92, K92, ⟨Eb92, Ub92, Fb0_92, Fb1_92, Fb2_92, Fb3_92, Fb4_92, Fb5_92, Fb6_92⟩⟩ := hQ92
        have N92 := Fr.app N0 M92
        have O93 : Old Z n0 T92.heap := O0.keep K92 (allS g1 all0)
        have K94 : Keep h0 T92.heap [a1] := (Keep.refl h0 [a1]).trans K92 (allS (Or.inl (List.mem_of_getElem? (i := 0) rfl)) all0)
        have E_95 : Exa Z T92.heap a1 "com/example/sidelane/sidelane/Cancellation" := Eb.keep K92
        show Go p e below _ (T92.setTop (mkF m 132 #[.val (.ref a1), .val (.int p1), .val (.int (2 : Int32)), .val (.int (2 : Int32)), .val (.int (0 : Int32)), .val (.int (2 : Int32)), .val (.int z91), .val .null, .unset, .unset] [(.ref r92)]))
        refine Go.st (fun _ => XS.pop X92.here hx rfl (hb hby d4_132) rfl rfl) ?_
        show Go p e below _ (T92.setTop (mkF m 133 #[.val (.ref a1), .val (.int p1), .val (.int (2 : Int32)), .val (.int (2 : Int32)), .val (.int (0 : Int32)), .val (.int (2 : Int32)), .val (.int z91), .val .null, .unset, .unset] []))
        refine Go.st (fun _ => XS.iloadN X92.here hx rfl (hb hby d4_133) rfl) ?_
        show Go p e below _ (T92.setTop (mkF m 134 #[.val (.ref a1), .val (.int p1), .val (.int (2 : Int32)), .val (.int (2 : Int32)), .val (.int (0 : Int32)), .val (.int (2 : Int32)), .val (.int z91), .val .null, .unset, .unset] [(.int (2 : Int32))]))
        refine Go.st (fun _ => XS.iconst X92.here hx rfl (hb hby d4_134)) ?_
        show Go p e below _ (T92.setTop (mkF m 135 #[.val (.ref a1), .val (.int p1), .val (.int (2 : Int32)), .val (.int (2 : Int32)), .val (.int (0 : Int32)), .val (.int (2 : Int32)), .val (.int z91), .val .null, .unset, .unset] [(.int (2 : Int32)), (.int (2 : Int32))]))
        refine Go.st (fun _ => XS.icmpYes X92.here hx rfl (pc0 := 135) (pc' := 156) rfl (hb hby d4_135) rfl (teq (by decide : (2 : Int32) = (2 : Int32))).1 (by decide) (by decide)) ?_
        show Go p e below _ (T92.setTop (mkF m 156 #[.val (.ref a1), .val (.int p1), .val (.int (2 : Int32)), .val (.int (2 : Int32)), .val (.int (0 : Int32)), .val (.int (2 : Int32)), .val (.int z91), .val .null, .unset, .unset] []))
        refine Go.st (fun _ => XS.iloadN X92.here hx rfl (hb hby d4_156) rfl) ?_
        show Go p e below _ (T92.setTop (mkF m 157 #[.val (.ref a1), .val (.int p1), .val (.int (2 : Int32)), .val (.int (2 : Int32)), .val (.int (0 : Int32)), .val (.int (2 : Int32)), .val (.int z91), .val .null, .unset, .unset] [(.int (2 : Int32))]))
        refine Go.st (fun _ => XS.iload X92.here hx rfl (hb hby d4_157) rfl) ?_
        show Go p e below _ (T92.setTop (mkF m 159 #[.val (.ref a1), .val (.int p1), .val (.int (2 : Int32)), .val (.int (2 : Int32)), .val (.int (0 : Int32)), .val (.int (2 : Int32)), .val (.int z91), .val .null, .unset, .unset] [(.int (0 : Int32)), (.int (2 : Int32))]))
        refine Go.st (fun _ => XS.ifYes X92.here hx rfl (pc0 := 159) (pc' := 166) rfl (hb hby d4_159) rfl ((if0 _ _).trans (teq (by decide : (0 : Int32) = (0 : Int32))).1) (by decide) (by decide)) ?_
        show Go p e below _ (T92.setTop (mkF m 166 #[.val (.ref a1), .val (.int p1), .val (.int (2 : Int32)), .val (.int (2 : Int32)), .val (.int (0 : Int32)), .val (.int (2 : Int32)), .val (.int z91), .val .null, .unset, .unset] [(.int (2 : Int32))]))
        refine Go.st (fun _ => XS.iconst X92.here hx rfl (hb hby d4_166)) ?_
        show Go p e below _ (T92.setTop (mkF m 167 #[.val (.ref a1), .val (.int p1), .val (.int (2 : Int32)), .val (.int (2 : Int32)), .val (.int (0 : Int32)), .val (.int (2 : Int32)), .val (.int z91), .val .null, .unset, .unset] [(.int (0 : Int32)), (.int (2 : Int32))]))
        refine Go.st (fun _ => XS.ior X92.here hx rfl (hb hby d4_167) rfl) ?_
        show Go p e below _ (T92.setTop (mkF m 168 #[.val (.ref a1), .val (.int p1), .val (.int (2 : Int32)), .val (.int (2 : Int32)), .val (.int (0 : Int32)), .val (.int (2 : Int32)), .val (.int z91), .val .null, .unset, .unset] [(.int (2 : Int32))]))
        exact goRetI X92 hx hlk hret rfl (hb hby d4_168) (by decide) (by decide) ⟨_, rfl, by decide, N92, K94, ⟨_, _, _, _, ⟨Eb92, Ub92, Fb0_92, Fb1_92, Fb2_92, Fb3_92, Fb4_92, Fb5_92, Fb6_92⟩, Or.inr (Or.inr (Or.inl ⟨rfl, rfl, rfl⟩))⟩⟩
      · show Go p e below _ (s₁.setTop (mkF m 25 #[.val (.ref a1), .val (.int p1), .val (.int (2 : Int32)), .val (.int (2 : Int32)), .val (.int (0 : Int32)), .val (.int (2 : Int32)), .unset, .unset, .unset, .unset] [(.int (p1 &&& (4 : Int32)))]))
        by_cases hc96 : (p1 &&& (4 : Int32)) = (0 : Int32)
        · refine Go.st (fun _ => XS.ifYes X0.here hx rfl (pc0 := 25) (pc' := 32) rfl (hb hby d4_25) rfl ((if0 _ _).trans (teq hc96).1) (by decide) (by decide)) ?_
          show Go p e below _ (s₁.setTop (mkF m 32 #[.val (.ref a1), .val (.int p1), .val (.int (2 : Int32)), .val (.int (2 : Int32)), .val (.int (0 : Int32)), .val (.int (2 : Int32)), .unset, .unset, .unset, .unset] []))
          refine Go.st (fun _ => XS.iconst X0.here hx rfl (hb hby d4_32)) ?_
          exact J91 _ trivial
        · refine Go.st (fun _ => XS.ifNo X0.here hx rfl (hb hby d4_25) rfl ((if0 _ _).trans (feq hc96).1)) ?_
          show Go p e below _ (s₁.setTop (mkF m 28 #[.val (.ref a1), .val (.int p1), .val (.int (2 : Int32)), .val (.int (2 : Int32)), .val (.int (0 : Int32)), .val (.int (2 : Int32)), .unset, .unset, .unset, .unset] []))
          refine Go.st (fun _ => XS.iconst X0.here hx rfl (hb hby d4_28)) ?_
          show Go p e below _ (s₁.setTop (mkF m 29 #[.val (.ref a1), .val (.int p1), .val (.int (2 : Int32)), .val (.int (2 : Int32)), .val (.int (0 : Int32)), .val (.int (2 : Int32)), .unset, .unset, .unset, .unset] [(.int (1 : Int32))]))
          refine Go.st (fun _ => XS.goto X0.here hx rfl (pc0 := 29) (pc' := 33) rfl (hb hby d4_29) (by decide) (by decide)) ?_
          exact J91 _ trivial
    · rw [q0]
      show Go p e below _ (s₁.setTop (mkF m 20 #[.val (.ref a1), .val (.int p1), .val (.int (2 : Int32)), .val (.int (2 : Int32)), .val (.int (0 : Int32)), .unset, .unset, .unset, .unset, .unset] [(.int (3 : Int32))]))
      refine Go.st (fun _ => XS.istore X0.here hx rfl (hb hby d4_20) rfl (l' := #[.val (.ref a1), .val (.int p1), .val (.int (2 : Int32)), .val (.int (2 : Int32)), .val (.int (0 : Int32)), .val (.int (3 : Int32)), .unset, .unset, .unset, .unset]) rfl) ?_
      show Go p e below _ (s₁.setTop (mkF m 22 #[.val (.ref a1), .val (.int p1), .val (.int (2 : Int32)), .val (.int (2 : Int32)), .val (.int (0 : Int32)), .val (.int (3 : Int32)), .unset, .unset, .unset, .unset] []))
      refine Go.st (fun _ => XS.iloadN X0.here hx rfl (hb hby d4_22) rfl) ?_
      show Go p e below _ (s₁.setTop (mkF m 23 #[.val (.ref a1), .val (.int p1), .val (.int (2 : Int32)), .val (.int (2 : Int32)), .val (.int (0 : Int32)), .val (.int (3 : Int32)), .unset, .unset, .unset, .unset] [(.int p1)]))
      refine Go.st (fun _ => XS.iconst X0.here hx rfl (hb hby d4_23)) ?_
      show Go p e below _ (s₁.setTop (mkF m 24 #[.val (.ref a1), .val (.int p1), .val (.int (2 : Int32)), .val (.int (2 : Int32)), .val (.int (0 : Int32)), .val (.int (3 : Int32)), .unset, .unset, .unset, .unset] [(.int (4 : Int32)), (.int p1)]))
      refine Go.st (fun _ => XS.iand X0.here hx rfl (hb hby d4_24) rfl) ?_
      show Go p e below _ (s₁.setTop (mkF m 25 #[.val (.ref a1), .val (.int p1), .val (.int (2 : Int32)), .val (.int (2 : Int32)), .val (.int (0 : Int32)), .val (.int (3 : Int32)), .unset, .unset, .unset, .unset] [(.int (p1 &&& (4 : Int32)))]))
      refine goJoin (P := fun z97 : Int32 => True) (F := fun z97 => s₁.setTop (mkF m 33 #[.val (.ref a1), .val (.int p1), .val (.int (2 : Int32)), .val (.int (2 : Int32)), .val (.int (0 : Int32)), .val (.int (3 : Int32)), .unset, .unset, .unset, .unset] [(.int z97)])) (fun z97 hz97 => ?_) (fun J97 => ?_)
      · show Go p e below _ (s₁.setTop (mkF m 33 #[.val (.ref a1), .val (.int p1), .val (.int (2 : Int32)), .val (.int (2 : Int32)), .val (.int (0 : Int32)), .val (.int (3 : Int32)), .unset, .unset, .unset, .unset] [(.int z97)]))
        refine Go.st (fun _ => XS.istore X0.here hx rfl (hb hby d4_33) rfl (l' := #[.val (.ref a1), .val (.int p1), .val (.int (2 : Int32)), .val (.int (2 : Int32)), .val (.int (0 : Int32)), .val (.int (3 : Int32)), .val (.int z97), .unset, .unset, .unset]) rfl) ?_
        show Go p e below _ (s₁.setTop (mkF m 35 #[.val (.ref a1), .val (.int p1), .val (.int (2 : Int32)), .val (.int (2 : Int32)), .val (.int (0 : Int32)), .val (.int (3 : Int32)), .val (.int z97), .unset, .unset, .unset] []))
        refine Go.st (fun _ => XS.iload X0.here hx rfl (hb hby d4_35) rfl) ?_
        show Go p e below _ (s₁.setTop (mkF m 37 #[.val (.ref a1), .val (.int p1), .val (.int (2 : Int32)), .val (.int (2 : Int32)), .val (.int (0 : Int32)), .val (.int (3 : Int32)), .val (.int z97), .unset, .unset, .unset] [(.int (3 : Int32))]))
        refine Go.st (fun _ => XS.ifNo X0.here hx rfl (hb hby d4_37) rfl ((if0 _ _).trans (feq (by decide : ¬ ((3 : Int32) = (0 : Int32)))).1)) ?_
        show Go p e below _ (s₁.setTop (mkF m 40 #[.val (.ref a1), .val (.int p1), .val (.int (2 : Int32)), .val (.int (2 : Int32)), .val (.int (0 : Int32)), .val (.int (3 : Int32)), .val (.int z97), .unset, .unset, .unset] []))
        refine Go.st (fun _ => XS.iload X0.here hx rfl (hb hby d4_40) rfl) ?_
        show Go p e below _ (s₁.setTop (mkF m 42 #[.val (.ref a1), .val (.int p1), .val (.int (2 : Int32)), .val (.int (2 : Int32)), .val (.int (0 : Int32)), .val (.int (3 : Int32)), .val (.int z97), .unset, .unset, .unset] [(.int (3 : Int32))]))
        refine Go.st (fun _ => XS.iconst X0.here hx rfl (hb hby d4_42)) ?_
        show Go p e below _ (s₁.setTop (mkF m 43 #[.val (.ref a1), .val (.int p1), .val (.int (2 : Int32)), .val (.int (2 : Int32)), .val (.int (0 : Int32)), .val (.int (3 : Int32)), .val (.int z97), .unset, .unset, .unset] [(.int (1 : Int32)), (.int (3 : Int32))]))
        refine Go.st (fun _ => XS.icmpYes X0.here hx rfl (pc0 := 43) (pc' := 108) rfl (hb hby d4_43) rfl (feq (by decide : ¬ ((3 : Int32) = (1 : Int32)))).2 (by decide) (by decide)) ?_
        show Go p e below _ (s₁.setTop (mkF m 108 #[.val (.ref a1), .val (.int p1), .val (.int (2 : Int32)), .val (.int (2 : Int32)), .val (.int (0 : Int32)), .val (.int (3 : Int32)), .val (.int z97), .unset, .unset, .unset] []))
        refine Go.st (fun _ => XS.iload X0.here hx rfl (hb hby d4_108) rfl) ?_
        show Go p e below _ (s₁.setTop (mkF m 110 #[.val (.ref a1), .val (.int p1), .val (.int (2 : Int32)), .val (.int (2 : Int32)), .val (.int (0 : Int32)), .val (.int (3 : Int32)), .val (.int z97), .unset, .unset, .unset] [(.int (3 : Int32))]))
        refine Go.st (fun _ => XS.iconst X0.here hx rfl (hb hby d4_110)) ?_
        show Go p e below _ (s₁.setTop (mkF m 111 #[.val (.ref a1), .val (.int p1), .val (.int (2 : Int32)), .val (.int (2 : Int32)), .val (.int (0 : Int32)), .val (.int (3 : Int32)), .val (.int z97), .unset, .unset, .unset] [(.int (3 : Int32)), (.int (3 : Int32))]))
        refine Go.st (fun _ => XS.icmpNo X0.here hx rfl (hb hby d4_111) rfl (teq (by decide : (3 : Int32) = (3 : Int32))).2) ?_
        show Go p e below _ (s₁.setTop (mkF m 114 #[.val (.ref a1), .val (.int p1), .val (.int (2 : Int32)), .val (.int (2 : Int32)), .val (.int (0 : Int32)), .val (.int (3 : Int32)), .val (.int z97), .unset, .unset, .unset] []))
        refine Go.st (fun _ => XS.iloadN X0.here hx rfl (hb hby d4_114) rfl) ?_
        show Go p e below _ (s₁.setTop (mkF m 115 #[.val (.ref a1), .val (.int p1), .val (.int (2 : Int32)), .val (.int (2 : Int32)), .val (.int (0 : Int32)), .val (.int (3 : Int32)), .val (.int z97), .unset, .unset, .unset] [(.int p1)]))
        refine goCallS X0 hx hZ (y := (⟨"java/lang/Integer", "valueOf", "(I)Ljava/lang/Integer;"⟩ : MethodName)) hown (hw _ (List.mem_of_getElem? (i := 31) rfl)) (hw _ (List.mem_of_getElem? (i := 32) rfl)) (hw _ (List.mem_of_getElem? (i := 33) rfl)) (hw _ (List.mem_of_getElem? (i := 34) rfl)) (by decide) (argsL := [(.int p1)]) (rest := []) e0 (rmBox l Z a0 hw [] p1 wc cl h0 n0 O0 S_cache S_high BX) 0 (by decide) (by decide) (by decide) (by decide) (mkF m 115 #[.val (.ref a1), .val (.int p1), .val (.int (2 : Int32)), .val (.int (2 : Int32)), .val (.int (0 : Int32)), .val (.int (3 : Int32)), .val (.int z97), .unset, .unset, .unset] [(.int p1)]) rfl (by rw [hml]; rfl) (lenOf pd_5 rfl) rfl (hb hby d4_115) (Nat.le_of_eq rfl) ?_
        intro v98 T98 L98 X98 hQ98
        obtain ⟨⟨r98, rfl, Er98, Gr98⟩, M98, K98⟩ := hQ98
        have N98 := Fr.app N0 M98
        have O99 : Old Z n0 T98.heap := O0.keep K98 all0
        have K100 : Keep h0 T98.heap [a1] := (Keep.refl h0 [a1]).trans K98 all0
        have E_101 : Exa Z T98.heap a1 "com/example/sidelane/sidelane/Cancellation" := Eb.keep K98
        have Y102 : Unt T98.heap a1 := untKeep Ub K98 nin0
        have F103 : Fld Z T98.heap a1 "com/example/sidelane/sidelane/Cancellation" "claimedBy" "Lcom/example/sidelane/sidelane/Cancellation$Claimant;" (.ref w_ADOPTER) := Fb0.keep K98 nin0
        have F104 : Fld Z T98.heap a1 "com/example/sidelane/sidelane/Cancellation" "cancelled" "Z" (.int (0 : Int32)) := Fb1.keep K98 nin0
        have F105 : Fld Z T98.heap a1 "com/example/sidelane/sidelane/Cancellation" "endingBegun" "Z" (.int (0 : Int32)) := Fb2.keep K98 nin0
        have F106 : Fld Z T98.heap a1 "com/example/sidelane/sidelane/Cancellation" "queued" "Z" (.int (0 : Int32)) := Fb3.keep K98 nin0
        have F107 : Fld Z T98.heap a1 "com/example/sidelane/sidelane/Cancellation" "runner" "Ljava/lang/Thread;" .null := Fb4.keep K98 nin0
        have F108 : Fld Z T98.heap a1 "com/example/sidelane/sidelane/Cancellation" "cancelEnding" "Ljava/lang/Object;" en := Fb5.keep K98 nin0
        have F109 : Fld Z T98.heap a1 "com/example/sidelane/sidelane/Cancellation" "cancelOutcome" "Lcom/example/sidelane/sidelane/Cancellation$Outcome;" oc := Fb6.keep K98 nin0
        show Go p e below _ (T98.setTop (mkF m 118 #[.val (.ref a1), .val (.int p1), .val (.int (2 : Int32)), .val (.int (2 : Int32)), .val (.int (0 : Int32)), .val (.int (3 : Int32)), .val (.int z97), .unset, .unset, .unset] [(.ref r98)]))
        refine Go.st (fun _ => XS.goto X98.here hx rfl (pc0 := 118) (pc' := 122) rfl (hb hby d4_118) (by decide) (by decide)) ?_
        show Go p e below _ (T98.setTop (mkF m 122 #[.val (.ref a1), .val (.int p1), .val (.int (2 : Int32)), .val (.int (2 : Int32)), .val (.int (0 : Int32)), .val (.int (3 : Int32)), .val (.int z97), .unset, .unset, .unset] [(.ref r98)]))
        refine Go.st (fun _ => XS.astore X98.here hx rfl (hb hby d4_122) rfl rfl (l' := #[.val (.ref a1), .val (.int p1), .val (.int (2 : Int32)), .val (.int (2 : Int32)), .val (.int (0 : Int32)), .val (.int (3 : Int32)), .val (.int z97), .val (.ref r98), .unset, .unset]) rfl) ?_
        show Go p e below _ (T98.setTop (mkF m 124 #[.val (.ref a1), .val (.int p1), .val (.int (2 : Int32)), .val (.int (2 : Int32)), .val (.int (0 : Int32)), .val (.int (3 : Int32)), .val (.int z97), .val (.ref r98), .unset, .unset] []))
        refine Go.st (fun _ => XS.aloadN X98.here hx rfl (hb hby d4_124) rfl rfl) ?_
        show Go p e below _ (T98.setTop (mkF m 125 #[.val (.ref a1), .val (.int p1), .val (.int (2 : Int32)), .val (.int (2 : Int32)), .val (.int (0 : Int32)), .val (.int (3 : Int32)), .val (.int z97), .val (.ref r98), .unset, .unset] [(.ref a1)]))
        refine Go.st (fun _ => XS.iload X98.here hx rfl (hb hby d4_125) rfl) ?_
        show Go p e below _ (T98.setTop (mkF m 127 #[.val (.ref a1), .val (.int p1), .val (.int (2 : Int32)), .val (.int (2 : Int32)), .val (.int (0 : Int32)), .val (.int (3 : Int32)), .val (.int z97), .val (.ref r98), .unset, .unset] [(.int z97), (.ref a1)]))
        refine Go.st (fun _ => XS.aload X98.here hx rfl (hb hby d4_127) rfl rfl) ?_
        show Go p e below _ (T98.setTop (mkF m 129 #[.val (.ref a1), .val (.int p1), .val (.int (2 : Int32)), .val (.int (2 : Int32)), .val (.int (0 : Int32)), .val (.int (3 : Int32)), .val (.int z97), .val (.ref r98), .unset, .unset] [(.ref r98), (.int z97), (.ref a1)]))
        refine goVirtS X98 hx hZ (y := (⟨"com/example/sidelane/sidelane/Cancellation", "cancel", "(ZLjava/lang/Object;)Lcom/example/sidelane/sidelane/Cancellation$Outcome;"⟩ : MethodName)) (z := (⟨"com/example/sidelane/sidelane/Cancellation", "cancel", "(ZLjava/lang/Object;)Lcom/example/sidelane/sidelane/Cancellation$Outcome;"⟩ : MethodName)) hown (hw _ (List.mem_of_getElem? (i := 38) rfl)) (hw _ (List.mem_of_getElem? (i := 39) rfl)) (notFace_of_selects (args := #[]) (mvT hZ (hw _ (List.mem_of_getElem? (i := 41) rfl)))) (hw _ (List.mem_of_getElem? (i := 41) rfl)) (hw _ (List.mem_of_getElem? (i := 40) rfl)) (hw _ (List.mem_of_getElem? (i := 2) rfl)) (hw _ (List.mem_of_getElem? (i := 42) rfl)) (by decide) (a := a1) (argsL := [(.int z97), (.ref r98)]) (rest := []) rfl E_101 (caAR l Z a0 hw a1 z97 r98 en oc w_EXECUTE w_ADOPTER w_CANCELLED w_REFUSED w_HANDED_OVER w_CANCELLED_UNEXECUTED w_ENDING_NEEDED T98.heap n0 O99 Y102 g1 E_101 F103 F104 F105 F106 F107 F108 F109 S_w_EXECUTE S_w_ADOPTER S_w_CANCELLED S_w_REFUSED S_w_HANDED_OVER S_w_CANCELLED_UNEXECUTED S_w_ENDING_NEEDED ne_w_EXECUTE_w_ADOPTER) 0 (by decide) (by decide) (by decide) (by decide) (mkF m 129 #[.val (.ref a1), .val (.int p1), .val (.int (2 : Int32)), .val (.int (2 : Int32)), .val (.int (0 : Int32)), .val (.int (3 : Int32)), .val (.int z97), .val (.ref r98), .unset, .unset] [(.ref r98), (.int z97), (.ref a1)]) rfl (by rw [hml]; rfl) (lenOf pd_4 rfl) rfl (hb hby d4_129) (Nat.le_of_eq rfl) ?_
        intro v110 T110 L110 X110 hQ110
        obtain ⟨⟨r110, rfl⟩, M110, K110, ⟨Eb110, Ub110, Fb0_110, Fb1_110, Fb2_110, Fb3_110, Fb4_110, Fb5_110, Fb6_110⟩⟩ := hQ110
        have N110 := Fr.app N98 M110
        have O111 : Old Z n0 T110.heap := O99.keep K110 (allS g1 all0)
        have K112 : Keep h0 T110.heap [a1] := K100.trans K110 (allS (Or.inl (List.mem_of_getElem? (i := 0) rfl)) all0)
        have E_113 : Exa Z T110.heap a1 "com/example/sidelane/sidelane/Cancellation" := E_101.keep K110
        show Go p e below _ (T110.setTop (mkF m 132 #[.val (.ref a1), .val (.int p1), .val (.int (2 : Int32)), .val (.int (2 : Int32)), .val (.int (0 : Int32)), .val (.int (3 : Int32)), .val (.int z97), .val (.ref r98), .unset, .unset] [(.ref r110)]))
        refine Go.st (fun _ => XS.pop X110.here hx rfl (hb hby d4_132) rfl rfl) ?_
        show Go p e below _ (T110.setTop (mkF m 133 #[.val (.ref a1), .val (.int p1), .val (.int (2 : Int32)), .val (.int (2 : Int32)), .val (.int (0 : Int32)), .val (.int (3 : Int32)), .val (.int z97), .val (.ref r98), .unset, .unset] []))
        refine Go.st (fun _ => XS.iloadN X110.here hx rfl (hb hby d4_133) rfl) ?_
        show Go p e below _ (T110.setTop (mkF m 134 #[.val (.ref a1), .val (.int p1), .val (.int (2 : Int32)), .val (.int (2 : Int32)), .val (.int (0 : Int32)), .val (.int (3 : Int32)), .val (.int z97), .val (.ref r98), .unset, .unset] [(.int (2 : Int32))]))
        refine Go.st (fun _ => XS.iconst X110.here hx rfl (hb hby d4_134)) ?_
        show Go p e below _ (T110.setTop (mkF m 135 #[.val (.ref a1), .val (.int p1), .val (.int (2 : Int32)), .val (.int (2 : Int32)), .val (.int (0 : Int32)), .val (.int (3 : Int32)), .val (.int z97), .val (.ref r98), .unset, .unset] [(.int (2 : Int32)), (.int (2 : Int32))]))
        refine Go.st (fun _ => XS.icmpYes X110.here hx rfl (pc0 := 135) (pc' := 156) rfl (hb hby d4_135) rfl (teq (by decide : (2 : Int32) = (2 : Int32))).1 (by decide) (by decide)) ?_
        show Go p e below _ (T110.setTop (mkF m 156 #[.val (.ref a1), .val (.int p1), .val (.int (2 : Int32)), .val (.int (2 : Int32)), .val (.int (0 : Int32)), .val (.int (3 : Int32)), .val (.int z97), .val (.ref r98), .unset, .unset] []))
        refine Go.st (fun _ => XS.iloadN X110.here hx rfl (hb hby d4_156) rfl) ?_
        show Go p e below _ (T110.setTop (mkF m 157 #[.val (.ref a1), .val (.int p1), .val (.int (2 : Int32)), .val (.int (2 : Int32)), .val (.int (0 : Int32)), .val (.int (3 : Int32)), .val (.int z97), .val (.ref r98), .unset, .unset] [(.int (2 : Int32))]))
        refine Go.st (fun _ => XS.iload X110.here hx rfl (hb hby d4_157) rfl) ?_
        show Go p e below _ (T110.setTop (mkF m 159 #[.val (.ref a1), .val (.int p1), .val (.int (2 : Int32)), .val (.int (2 : Int32)), .val (.int (0 : Int32)), .val (.int (3 : Int32)), .val (.int z97), .val (.ref r98), .unset, .unset] [(.int (0 : Int32)), (.int (2 : Int32))]))
        refine Go.st (fun _ => XS.ifYes X110.here hx rfl (pc0 := 159) (pc' := 166) rfl (hb hby d4_159) rfl ((if0 _ _).trans (teq (by decide : (0 : Int32) = (0 : Int32))).1) (by decide) (by decide)) ?_
        show Go p e below _ (T110.setTop (mkF m 166 #[.val (.ref a1), .val (.int p1), .val (.int (2 : Int32)), .val (.int (2 : Int32)), .val (.int (0 : Int32)), .val (.int (3 : Int32)), .val (.int z97), .val (.ref r98), .unset, .unset] [(.int (2 : Int32))]))
        refine Go.st (fun _ => XS.iconst X110.here hx rfl (hb hby d4_166)) ?_
        show Go p e below _ (T110.setTop (mkF m 167 #[.val (.ref a1), .val (.int p1), .val (.int (2 : Int32)), .val (.int (2 : Int32)), .val (.int (0 : Int32)), .val (.int (3 : Int32)), .val (.int z97), .val (.ref r98), .unset, .unset] [(.int (0 : Int32)), (.int (2 : Int32))]))
        refine Go.st (fun _ => XS.ior X110.here hx rfl (hb hby d4_167) rfl) ?_
        show Go p e below _ (T110.setTop (mkF m 168 #[.val (.ref a1), .val (.int p1), .val (.int (2 : Int32)), .val (.int (2 : Int32)), .val (.int (0 : Int32)), .val (.int (3 : Int32)), .val (.int z97), .val (.ref r98), .unset, .unset] [(.int (2 : Int32))]))
        exact goRetI X110 hx hlk hret rfl (hb hby d4_168) (by decide) (by decide) ⟨_, rfl, by decide, N110, K112, ⟨_, _, _, _, ⟨Eb110, Ub110, Fb0_110, Fb1_110, Fb2_110, Fb3_110, Fb4_110, Fb5_110, Fb6_110⟩, Or.inr (Or.inr (Or.inl ⟨rfl, rfl, rfl⟩))⟩⟩
      · show Go p e below _ (s₁.setTop (mkF m 25 #[.val (.ref a1), .val (.int p1), .val (.int (2 : Int32)), .val (.int (2 : Int32)), .val (.int (0 : Int32)), .val (.int (3 : Int32)), .unset, .unset, .unset, .unset] [(.int (p1 &&& (4 : Int32)))]))
        by_cases hc114 : (p1 &&& (4 : Int32)) = (0 : Int32)
        · refine Go.st (fun _ => XS.ifYes X0.here hx rfl (pc0 := 25) (pc' := 32) rfl (hb hby d4_25) rfl ((if0 _ _).trans (teq hc114).1) (by decide) (by decide)) ?_
          show Go p e below _ (s₁.setTop (mkF m 32 #[.val (.ref a1), .val (.int p1), .val (.int (2 : Int32)), .val (.int (2 : Int32)), .val (.int (0 : Int32)), .val (.int (3 : Int32)), .unset, .unset, .unset, .unset] []))
          refine Go.st (fun _ => XS.iconst X0.here hx rfl (hb hby d4_32)) ?_
          exact J97 _ trivial
        · refine Go.st (fun _ => XS.ifNo X0.here hx rfl (hb hby d4_25) rfl ((if0 _ _).trans (feq hc114).1)) ?_
          show Go p e below _ (s₁.setTop (mkF m 28 #[.val (.ref a1), .val (.int p1), .val (.int (2 : Int32)), .val (.int (2 : Int32)), .val (.int (0 : Int32)), .val (.int (3 : Int32)), .unset, .unset, .unset, .unset] []))
          refine Go.st (fun _ => XS.iconst X0.here hx rfl (hb hby d4_28)) ?_
          show Go p e below _ (s₁.setTop (mkF m 29 #[.val (.ref a1), .val (.int p1), .val (.int (2 : Int32)), .val (.int (2 : Int32)), .val (.int (0 : Int32)), .val (.int (3 : Int32)), .unset, .unset, .unset, .unset] [(.int (1 : Int32))]))
          refine Go.st (fun _ => XS.goto X0.here hx rfl (pc0 := 29) (pc' := 33) rfl (hb hby d4_29) (by decide) (by decide)) ?_
          exact J97 _ trivial
  · show Go p e below _ (s₁.setTop (mkF m 0 #[.val (.ref a1), .val (.int p1), .val (.int (4 : Int32)), .unset, .unset, .unset, .unset, .unset, .unset, .unset] []))
    refine Go.st (fun _ => XS.iloadN X0.here hx rfl (hb hby d4_0) rfl) ?_
    show Go p e below _ (s₁.setTop (mkF m 1 #[.val (.ref a1), .val (.int p1), .val (.int (4 : Int32)), .unset, .unset, .unset, .unset, .unset, .unset, .unset] [(.int (4 : Int32))]))
    refine Go.st (fun _ => XS.iconst X0.here hx rfl (hb hby d4_1)) ?_
    show Go p e below _ (s₁.setTop (mkF m 2 #[.val (.ref a1), .val (.int p1), .val (.int (4 : Int32)), .unset, .unset, .unset, .unset, .unset, .unset, .unset] [(.int (3 : Int32)), (.int (4 : Int32))]))
    refine Go.st (fun _ => XS.iand X0.here hx rfl (hb hby d4_2) rfl) ?_
    show Go p e below _ (s₁.setTop (mkF m 3 #[.val (.ref a1), .val (.int p1), .val (.int (4 : Int32)), .unset, .unset, .unset, .unset, .unset, .unset, .unset] [(.int (0 : Int32))]))
    refine Go.st (fun _ => XS.istoreN X0.here hx rfl (hb hby d4_3) rfl (l' := #[.val (.ref a1), .val (.int p1), .val (.int (4 : Int32)), .val (.int (0 : Int32)), .unset, .unset, .unset, .unset, .unset, .unset]) rfl) ?_
    show Go p e below _ (s₁.setTop (mkF m 4 #[.val (.ref a1), .val (.int p1), .val (.int (4 : Int32)), .val (.int (0 : Int32)), .unset, .unset, .unset, .unset, .unset, .unset] []))
    refine Go.st (fun _ => XS.iloadN X0.here hx rfl (hb hby d4_4) rfl) ?_
    show Go p e below _ (s₁.setTop (mkF m 5 #[.val (.ref a1), .val (.int p1), .val (.int (4 : Int32)), .val (.int (0 : Int32)), .unset, .unset, .unset, .unset, .unset, .unset] [(.int (4 : Int32))]))
    refine Go.st (fun _ => XS.iconst X0.here hx rfl (hb hby d4_5)) ?_
    show Go p e below _ (s₁.setTop (mkF m 6 #[.val (.ref a1), .val (.int p1), .val (.int (4 : Int32)), .val (.int (0 : Int32)), .unset, .unset, .unset, .unset, .unset, .unset] [(.int (4 : Int32)), (.int (4 : Int32))]))
    refine Go.st (fun _ => XS.iand X0.here hx rfl (hb hby d4_6) rfl) ?_
    show Go p e below _ (s₁.setTop (mkF m 7 #[.val (.ref a1), .val (.int p1), .val (.int (4 : Int32)), .val (.int (0 : Int32)), .unset, .unset, .unset, .unset, .unset, .unset] [(.int (4 : Int32))]))
    refine Go.st (fun _ => XS.ifNo X0.here hx rfl (hb hby d4_7) rfl ((if0 _ _).trans (feq (by decide : ¬ ((4 : Int32) = (0 : Int32)))).1)) ?_
    show Go p e below _ (s₁.setTop (mkF m 10 #[.val (.ref a1), .val (.int p1), .val (.int (4 : Int32)), .val (.int (0 : Int32)), .unset, .unset, .unset, .unset, .unset, .unset] []))
    refine Go.st (fun _ => XS.iconst X0.here hx rfl (hb hby d4_10)) ?_
    show Go p e below _ (s₁.setTop (mkF m 11 #[.val (.ref a1), .val (.int p1), .val (.int (4 : Int32)), .val (.int (0 : Int32)), .unset, .unset, .unset, .unset, .unset, .unset] [(.int (1 : Int32))]))
    refine Go.st (fun _ => XS.goto X0.here hx rfl (pc0 := 11) (pc' := 15) rfl (hb hby d4_11) (by decide) (by decide)) ?_
    show Go p e below _ (s₁.setTop (mkF m 15 #[.val (.ref a1), .val (.int p1), .val (.int (4 : Int32)), .val (.int (0 : Int32)), .unset, .unset, .unset, .unset, .unset, .unset] [(.int (1 : Int32))]))
    refine Go.st (fun _ => XS.istore X0.here hx rfl (hb hby d4_15) rfl (l' := #[.val (.ref a1), .val (.int p1), .val (.int (4 : Int32)), .val (.int (0 : Int32)), .val (.int (1 : Int32)), .unset, .unset, .unset, .unset, .unset]) rfl) ?_
    show Go p e below _ (s₁.setTop (mkF m 17 #[.val (.ref a1), .val (.int p1), .val (.int (4 : Int32)), .val (.int (0 : Int32)), .val (.int (1 : Int32)), .unset, .unset, .unset, .unset, .unset] []))
    refine Go.st (fun _ => XS.iloadN X0.here hx rfl (hb hby d4_17) rfl) ?_
    show Go p e below _ (s₁.setTop (mkF m 18 #[.val (.ref a1), .val (.int p1), .val (.int (4 : Int32)), .val (.int (0 : Int32)), .val (.int (1 : Int32)), .unset, .unset, .unset, .unset, .unset] [(.int p1)]))
    refine Go.st (fun _ => XS.iconst X0.here hx rfl (hb hby d4_18)) ?_
    show Go p e below _ (s₁.setTop (mkF m 19 #[.val (.ref a1), .val (.int p1), .val (.int (4 : Int32)), .val (.int (0 : Int32)), .val (.int (1 : Int32)), .unset, .unset, .unset, .unset, .unset] [(.int (3 : Int32)), (.int p1)]))
    refine Go.st (fun _ => XS.iand X0.here hx rfl (hb hby d4_19) rfl) ?_
    show Go p e below _ (s₁.setTop (mkF m 20 #[.val (.ref a1), .val (.int p1), .val (.int (4 : Int32)), .val (.int (0 : Int32)), .val (.int (1 : Int32)), .unset, .unset, .unset, .unset, .unset] [(.int (p1 &&& (3 : Int32)))]))
    rcases own_and3 p1 with q0 | q0 | q0 | q0
    · rw [q0]
      show Go p e below _ (s₁.setTop (mkF m 20 #[.val (.ref a1), .val (.int p1), .val (.int (4 : Int32)), .val (.int (0 : Int32)), .val (.int (1 : Int32)), .unset, .unset, .unset, .unset, .unset] [(.int (0 : Int32))]))
      refine Go.st (fun _ => XS.istore X0.here hx rfl (hb hby d4_20) rfl (l' := #[.val (.ref a1), .val (.int p1), .val (.int (4 : Int32)), .val (.int (0 : Int32)), .val (.int (1 : Int32)), .val (.int (0 : Int32)), .unset, .unset, .unset, .unset]) rfl) ?_
      show Go p e below _ (s₁.setTop (mkF m 22 #[.val (.ref a1), .val (.int p1), .val (.int (4 : Int32)), .val (.int (0 : Int32)), .val (.int (1 : Int32)), .val (.int (0 : Int32)), .unset, .unset, .unset, .unset] []))
      refine Go.st (fun _ => XS.iloadN X0.here hx rfl (hb hby d4_22) rfl) ?_
      show Go p e below _ (s₁.setTop (mkF m 23 #[.val (.ref a1), .val (.int p1), .val (.int (4 : Int32)), .val (.int (0 : Int32)), .val (.int (1 : Int32)), .val (.int (0 : Int32)), .unset, .unset, .unset, .unset] [(.int p1)]))
      refine Go.st (fun _ => XS.iconst X0.here hx rfl (hb hby d4_23)) ?_
      show Go p e below _ (s₁.setTop (mkF m 24 #[.val (.ref a1), .val (.int p1), .val (.int (4 : Int32)), .val (.int (0 : Int32)), .val (.int (1 : Int32)), .val (.int (0 : Int32)), .unset, .unset, .unset, .unset] [(.int (4 : Int32)), (.int p1)]))
      refine Go.st (fun _ => XS.iand X0.here hx rfl (hb hby d4_24) rfl) ?_
      show Go p e below _ (s₁.setTop (mkF m 25 #[.val (.ref a1), .val (.int p1), .val (.int (4 : Int32)), .val (.int (0 : Int32)), .val (.int (1 : Int32)), .val (.int (0 : Int32)), .unset, .unset, .unset, .unset] [(.int (p1 &&& (4 : Int32)))]))
      refine goJoin (P := fun z115 : Int32 => True) (F := fun z115 => s₁.setTop (mkF m 33 #[.val (.ref a1), .val (.int p1), .val (.int (4 : Int32)), .val (.int (0 : Int32)), .val (.int (1 : Int32)), .val (.int (0 : Int32)), .unset, .unset, .unset, .unset] [(.int z115)])) (fun z115 hz115 => ?_) (fun J115 => ?_)
      · show Go p e below _ (s₁.setTop (mkF m 33 #[.val (.ref a1), .val (.int p1), .val (.int (4 : Int32)), .val (.int (0 : Int32)), .val (.int (1 : Int32)), .val (.int (0 : Int32)), .unset, .unset, .unset, .unset] [(.int z115)]))
        refine Go.st (fun _ => XS.istore X0.here hx rfl (hb hby d4_33) rfl (l' := #[.val (.ref a1), .val (.int p1), .val (.int (4 : Int32)), .val (.int (0 : Int32)), .val (.int (1 : Int32)), .val (.int (0 : Int32)), .val (.int z115), .unset, .unset, .unset]) rfl) ?_
        show Go p e below _ (s₁.setTop (mkF m 35 #[.val (.ref a1), .val (.int p1), .val (.int (4 : Int32)), .val (.int (0 : Int32)), .val (.int (1 : Int32)), .val (.int (0 : Int32)), .val (.int z115), .unset, .unset, .unset] []))
        refine Go.st (fun _ => XS.iload X0.here hx rfl (hb hby d4_35) rfl) ?_
        show Go p e below _ (s₁.setTop (mkF m 37 #[.val (.ref a1), .val (.int p1), .val (.int (4 : Int32)), .val (.int (0 : Int32)), .val (.int (1 : Int32)), .val (.int (0 : Int32)), .val (.int z115), .unset, .unset, .unset] [(.int (0 : Int32))]))
        refine Go.st (fun _ => XS.ifYes X0.here hx rfl (pc0 := 37) (pc' := 46) rfl (hb hby d4_37) rfl ((if0 _ _).trans (teq (by decide : (0 : Int32) = (0 : Int32))).1) (by decide) (by decide)) ?_
        show Go p e below _ (s₁.setTop (mkF m 46 #[.val (.ref a1), .val (.int p1), .val (.int (4 : Int32)), .val (.int (0 : Int32)), .val (.int (1 : Int32)), .val (.int (0 : Int32)), .val (.int z115), .unset, .unset, .unset] []))
        refine Go.st (fun _ => XS.iload X0.here hx rfl (hb hby d4_46) rfl) ?_
        show Go p e below _ (s₁.setTop (mkF m 48 #[.val (.ref a1), .val (.int p1), .val (.int (4 : Int32)), .val (.int (0 : Int32)), .val (.int (1 : Int32)), .val (.int (0 : Int32)), .val (.int z115), .unset, .unset, .unset] [(.int (0 : Int32))]))
        refine Go.st (fun _ => XS.ifNo X0.here hx rfl (hb hby d4_48) rfl ((if0 _ _).trans (teq (by decide : (0 : Int32) = (0 : Int32))).2)) ?_
        show Go p e below _ (s₁.setTop (mkF m 51 #[.val (.ref a1), .val (.int p1), .val (.int (4 : Int32)), .val (.int (0 : Int32)), .val (.int (1 : Int32)), .val (.int (0 : Int32)), .val (.int z115), .unset, .unset, .unset] []))
        obtain ⟨T116, X116, e116, st116⟩ := getS2 X0 hx hZ hown (host := "") (Or.inl (hw _ (List.mem_of_getElem? (i := 22) rfl))) Via.refl e0 (oldSta O0 S_w_EXECUTE) (g := (mkF m 51 #[.val (.ref a1), .val (.int p1), .val (.int (4 : Int32)), .val (.int (0 : Int32)), .val (.int (1 : Int32)), .val (.int (0 : Int32)), .val (.int z115), .unset, .unset, .unset] [])) rfl (hb hby d4_51)
        refine Go.st st116 ?_
        show Go p e below _ (T116.setTop (mkF m 54 #[.val (.ref a1), .val (.int p1), .val (.int (4 : Int32)), .val (.int (0 : Int32)), .val (.int (1 : Int32)), .val (.int (0 : Int32)), .val (.int z115), .unset, .unset, .unset] [(.ref w_EXECUTE)]))
        refine Go.st (fun _ => XS.goto X116.here hx rfl (pc0 := 54) (pc' := 60) rfl (hb hby d4_54) (by decide) (by decide)) ?_
        show Go p e below _ (T116.setTop (mkF m 60 #[.val (.ref a1), .val (.int p1), .val (.int (4 : Int32)), .val (.int (0 : Int32)), .val (.int (1 : Int32)), .val (.int (0 : Int32)), .val (.int z115), .unset, .unset, .unset] [(.ref w_EXECUTE)]))
        refine Go.st (fun _ => XS.astore X116.here hx rfl (hb hby d4_60) rfl rfl (l' := #[.val (.ref a1), .val (.int p1), .val (.int (4 : Int32)), .val (.int (0 : Int32)), .val (.int (1 : Int32)), .val (.int (0 : Int32)), .val (.int z115), .val (.ref w_EXECUTE), .unset, .unset]) rfl) ?_
        show Go p e below _ (T116.setTop (mkF m 62 #[.val (.ref a1), .val (.int p1), .val (.int (4 : Int32)), .val (.int (0 : Int32)), .val (.int (1 : Int32)), .val (.int (0 : Int32)), .val (.int z115), .val (.ref w_EXECUTE), .unset, .unset] []))
        refine Go.st (fun _ => XS.aloadN X116.here hx rfl (hb hby d4_62) rfl rfl) ?_
        show Go p e below _ (T116.setTop (mkF m 63 #[.val (.ref a1), .val (.int p1), .val (.int (4 : Int32)), .val (.int (0 : Int32)), .val (.int (1 : Int32)), .val (.int (0 : Int32)), .val (.int z115), .val (.ref w_EXECUTE), .unset, .unset] [(.ref a1)]))
        refine Go.st (fun _ => XS.aload X116.here hx rfl (hb hby d4_63) rfl rfl) ?_
        show Go p e below _ (T116.setTop (mkF m 65 #[.val (.ref a1), .val (.int p1), .val (.int (4 : Int32)), .val (.int (0 : Int32)), .val (.int (1 : Int32)), .val (.int (0 : Int32)), .val (.int z115), .val (.ref w_EXECUTE), .unset, .unset] [(.ref w_EXECUTE), (.ref a1)]))
        refine goVirtS X116 hx hZ (y := (⟨"com/example/sidelane/sidelane/Cancellation", "claim", "(Lcom/example/sidelane/sidelane/Cancellation$Claimant;)Z"⟩ : MethodName)) (z := (⟨"com/example/sidelane/sidelane/Cancellation", "claim", "(Lcom/example/sidelane/sidelane/Cancellation$Claimant;)Z"⟩ : MethodName)) hown (hw _ (List.mem_of_getElem? (i := 25) rfl)) (hw _ (List.mem_of_getElem? (i := 26) rfl)) (notFace_of_selects (args := #[]) (mvT hZ (hw _ (List.mem_of_getElem? (i := 28) rfl)))) (hw _ (List.mem_of_getElem? (i := 28) rfl)) (hw _ (List.mem_of_getElem? (i := 27) rfl)) (hw _ (List.mem_of_getElem? (i := 2) rfl)) (hw _ (List.mem_of_getElem? (i := 29) rfl)) (by decide) (a := a1) (argsL := [(.ref w_EXECUTE)]) (rest := []) e116 Eb (cm01 l Z a0 hw a1 w_EXECUTE en (.ref a6) h0 n0 O0 Ub g1 Eb Fb0 Fb1 Fb2 Fb3 Fb4 Fb5 Fb6) 0 (by decide) (by decide) (by decide) (by decide) (mkF m 65 #[.val (.ref a1), .val (.int p1), .val (.int (4 : Int32)), .val (.int (0 : Int32)), .val (.int (1 : Int32)), .val (.int (0 : Int32)), .val (.int z115), .val (.ref w_EXECUTE), .unset, .unset] [(.ref w_EXECUTE), (.ref a1)]) rfl (by rw [hml]; rfl) (lenOf pd_3 rfl) rfl (hb hby d4_65) (Nat.le_of_eq rfl) ?_
        intro v117 T117 L117 X117 hQ117
        obtain ⟨rfl, M117, K117, ⟨Eb117, Ub117, Fb0_117, Fb1_117, Fb2_117, Fb3_117, Fb4_117, Fb5_117, Fb6_117⟩⟩ := hQ117
        have N117 := Fr.app N0 M117
        have O118 : Old Z n0 T117.heap := O0.keep K117 (allS g1 all0)
        have K119 : Keep h0 T117.heap [a1] := (Keep.refl h0 [a1]).trans K117 (allS (Or.inl (List.mem_of_getElem? (i := 0) rfl)) all0)
        have E_120 : Exa Z T117.heap a1 "com/example/sidelane/sidelane/Cancellation" := Eb.keep K117
        show Go p e below _ (T117.setTop (mkF m 68 #[.val (.ref a1), .val (.int p1), .val (.int (4 : Int32)), .val (.int (0 : Int32)), .val (.int (1 : Int32)), .val (.int (0 : Int32)), .val (.int z115), .val (.ref w_EXECUTE), .unset, .unset] [(.int (0 : Int32))]))
        refine Go.st (fun _ => XS.istore X117.here hx rfl (hb hby d4_68) rfl (l' := #[.val (.ref a1), .val (.int p1), .val (.int (4 : Int32)), .val (.int (0 : Int32)), .val (.int (1 : Int32)), .val (.int (0 : Int32)), .val (.int z115), .val (.ref w_EXECUTE), .val (.int (0 : Int32)), .unset]) rfl) ?_
        show Go p e below _ (T117.setTop (mkF m 70 #[.val (.ref a1), .val (.int p1), .val (.int (4 : Int32)), .val (.int (0 : Int32)), .val (.int (1 : Int32)), .val (.int (0 : Int32)), .val (.int z115), .val (.ref w_EXECUTE), .val (.int (0 : Int32)), .unset] []))
        refine Go.st (fun _ => XS.iloadN X117.here hx rfl (hb hby d4_70) rfl) ?_
        show Go p e below _ (T117.setTop (mkF m 71 #[.val (.ref a1), .val (.int p1), .val (.int (4 : Int32)), .val (.int (0 : Int32)), .val (.int (1 : Int32)), .val (.int (0 : Int32)), .val (.int z115), .val (.ref w_EXECUTE), .val (.int (0 : Int32)), .unset] [(.int (0 : Int32))]))
        refine Go.st (fun _ => XS.ifNo X117.here hx rfl (hb hby d4_71) rfl ((if0 _ _).trans (teq (by decide : (0 : Int32) = (0 : Int32))).2)) ?_
        show Go p e below _ (T117.setTop (mkF m 74 #[.val (.ref a1), .val (.int p1), .val (.int (4 : Int32)), .val (.int (0 : Int32)), .val (.int (1 : Int32)), .val (.int (0 : Int32)), .val (.int z115), .val (.ref w_EXECUTE), .val (.int (0 : Int32)), .unset] []))
        refine Go.st (fun _ => XS.iload X117.here hx rfl (hb hby d4_74) rfl) ?_
        show Go p e below _ (T117.setTop (mkF m 76 #[.val (.ref a1), .val (.int p1), .val (.int (4 : Int32)), .val (.int (0 : Int32)), .val (.int (1 : Int32)), .val (.int (0 : Int32)), .val (.int z115), .val (.ref w_EXECUTE), .val (.int (0 : Int32)), .unset] [(.int (1 : Int32))]))
        refine Go.st (fun _ => XS.ifYes X117.here hx rfl (pc0 := 76) (pc' := 83) rfl (hb hby d4_76) rfl ((if0 _ _).trans (feq (by decide : ¬ ((1 : Int32) = (0 : Int32)))).2) (by decide) (by decide)) ?_
        show Go p e below _ (T117.setTop (mkF m 83 #[.val (.ref a1), .val (.int p1), .val (.int (4 : Int32)), .val (.int (0 : Int32)), .val (.int (1 : Int32)), .val (.int (0 : Int32)), .val (.int z115), .val (.ref w_EXECUTE), .val (.int (0 : Int32)), .unset] []))
        refine Go.st (fun _ => XS.iconst X117.here hx rfl (hb hby d4_83)) ?_
        show Go p e below _ (T117.setTop (mkF m 84 #[.val (.ref a1), .val (.int p1), .val (.int (4 : Int32)), .val (.int (0 : Int32)), .val (.int (1 : Int32)), .val (.int (0 : Int32)), .val (.int z115), .val (.ref w_EXECUTE), .val (.int (0 : Int32)), .unset] [(.int (0 : Int32))]))
        refine Go.st (fun _ => XS.istore X117.here hx rfl (hb hby d4_84) rfl (l' := #[.val (.ref a1), .val (.int p1), .val (.int (4 : Int32)), .val (.int (0 : Int32)), .val (.int (1 : Int32)), .val (.int (0 : Int32)), .val (.int z115), .val (.ref w_EXECUTE), .val (.int (0 : Int32)), .val (.int (0 : Int32))]) rfl) ?_
        show Go p e below _ (T117.setTop (mkF m 86 #[.val (.ref a1), .val (.int p1), .val (.int (4 : Int32)), .val (.int (0 : Int32)), .val (.int (1 : Int32)), .val (.int (0 : Int32)), .val (.int z115), .val (.ref w_EXECUTE), .val (.int (0 : Int32)), .val (.int (0 : Int32))] []))
        refine Go.st (fun _ => XS.iload X117.here hx rfl (hb hby d4_86) rfl) ?_
        show Go p e below _ (T117.setTop (mkF m 88 #[.val (.ref a1), .val (.int p1), .val (.int (4 : Int32)), .val (.int (0 : Int32)), .val (.int (1 : Int32)), .val (.int (0 : Int32)), .val (.int z115), .val (.ref w_EXECUTE), .val (.int (0 : Int32)), .val (.int (0 : Int32))] [(.int (0 : Int32))]))
        refine Go.st (fun _ => XS.iload X117.here hx rfl (hb hby d4_88) rfl) ?_
        show Go p e below _ (T117.setTop (mkF m 90 #[.val (.ref a1), .val (.int p1), .val (.int (4 : Int32)), .val (.int (0 : Int32)), .val (.int (1 : Int32)), .val (.int (0 : Int32)), .val (.int z115), .val (.ref w_EXECUTE), .val (.int (0 : Int32)), .val (.int (0 : Int32))] [(.int (0 : Int32)), (.int (0 : Int32))]))
        refine Go.st (fun _ => XS.icmpYes X117.here hx rfl (pc0 := 90) (pc' := 95) rfl (hb hby d4_90) rfl (teq (by decide : (0 : Int32) = (0 : Int32))).1 (by decide) (by decide)) ?_
        show Go p e below _ (T117.setTop (mkF m 95 #[.val (.ref a1), .val (.int p1), .val (.int (4 : Int32)), .val (.int (0 : Int32)), .val (.int (1 : Int32)), .val (.int (0 : Int32)), .val (.int z115), .val (.ref w_EXECUTE), .val (.int (0 : Int32)), .val (.int (0 : Int32))] []))
        refine Go.st (fun _ => XS.iload X117.here hx rfl (hb hby d4_95) rfl) ?_
        show Go p e below _ (T117.setTop (mkF m 97 #[.val (.ref a1), .val (.int p1), .val (.int (4 : Int32)), .val (.int (0 : Int32)), .val (.int (1 : Int32)), .val (.int (0 : Int32)), .val (.int z115), .val (.ref w_EXECUTE), .val (.int (0 : Int32)), .val (.int (0 : Int32))] [(.int (0 : Int32))]))
        refine Go.st (fun _ => XS.ifYes X117.here hx rfl (pc0 := 97) (pc' := 105) rfl (hb hby d4_97) rfl ((if0 _ _).trans (teq (by decide : (0 : Int32) = (0 : Int32))).1) (by decide) (by decide)) ?_
        show Go p e below _ (T117.setTop (mkF m 105 #[.val (.ref a1), .val (.int p1), .val (.int (4 : Int32)), .val (.int (0 : Int32)), .val (.int (1 : Int32)), .val (.int (0 : Int32)), .val (.int z115), .val (.ref w_EXECUTE), .val (.int (0 : Int32)), .val (.int (0 : Int32))] []))
        refine Go.st (fun _ => XS.goto X117.here hx rfl (pc0 := 105) (pc' := 156) rfl (hb hby d4_105) (by decide) (by decide)) ?_
        show Go p e below _ (T117.setTop (mkF m 156 #[.val (.ref a1), .val (.int p1), .val (.int (4 : Int32)), .val (.int (0 : Int32)), .val (.int (1 : Int32)), .val (.int (0 : Int32)), .val (.int z115), .val (.ref w_EXECUTE), .val (.int (0 : Int32)), .val (.int (0 : Int32))] []))
        refine Go.st (fun _ => XS.iloadN X117.here hx rfl (hb hby d4_156) rfl) ?_
        show Go p e below _ (T117.setTop (mkF m 157 #[.val (.ref a1), .val (.int p1), .val (.int (4 : Int32)), .val (.int (0 : Int32)), .val (.int (1 : Int32)), .val (.int (0 : Int32)), .val (.int z115), .val (.ref w_EXECUTE), .val (.int (0 : Int32)), .val (.int (0 : Int32))] [(.int (0 : Int32))]))
        refine Go.st (fun _ => XS.iload X117.here hx rfl (hb hby d4_157) rfl) ?_
        show Go p e below _ (T117.setTop (mkF m 159 #[.val (.ref a1), .val (.int p1), .val (.int (4 : Int32)), .val (.int (0 : Int32)), .val (.int (1 : Int32)), .val (.int (0 : Int32)), .val (.int z115), .val (.ref w_EXECUTE), .val (.int (0 : Int32)), .val (.int (0 : Int32))] [(.int (1 : Int32)), (.int (0 : Int32))]))
        refine Go.st (fun _ => XS.ifNo X117.here hx rfl (hb hby d4_159) rfl ((if0 _ _).trans (feq (by decide : ¬ ((1 : Int32) = (0 : Int32)))).1)) ?_
        show Go p e below _ (T117.setTop (mkF m 162 #[.val (.ref a1), .val (.int p1), .val (.int (4 : Int32)), .val (.int (0 : Int32)), .val (.int (1 : Int32)), .val (.int (0 : Int32)), .val (.int z115), .val (.ref w_EXECUTE), .val (.int (0 : Int32)), .val (.int (0 : Int32))] [(.int (0 : Int32))]))
        refine Go.st (fun _ => XS.iconst X117.here hx rfl (hb hby d4_162)) ?_
        show Go p e below _ (T117.setTop (mkF m 163 #[.val (.ref a1), .val (.int p1), .val (.int (4 : Int32)), .val (.int (0 : Int32)), .val (.int (1 : Int32)), .val (.int (0 : Int32)), .val (.int z115), .val (.ref w_EXECUTE), .val (.int (0 : Int32)), .val (.int (0 : Int32))] [(.int (4 : Int32)), (.int (0 : Int32))]))
        refine Go.st (fun _ => XS.goto X117.here hx rfl (pc0 := 163) (pc' := 167) rfl (hb hby d4_163) (by decide) (by decide)) ?_
        show Go p e below _ (T117.setTop (mkF m 167 #[.val (.ref a1), .val (.int p1), .val (.int (4 : Int32)), .val (.int (0 : Int32)), .val (.int (1 : Int32)), .val (.int (0 : Int32)), .val (.int z115), .val (.ref w_EXECUTE), .val (.int (0 : Int32)), .val (.int (0 : Int32))] [(.int (4 : Int32)), (.int (0 : Int32))]))
        refine Go.st (fun _ => XS.ior X117.here hx rfl (hb hby d4_167) rfl) ?_
        show Go p e below _ (T117.setTop (mkF m 168 #[.val (.ref a1), .val (.int p1), .val (.int (4 : Int32)), .val (.int (0 : Int32)), .val (.int (1 : Int32)), .val (.int (0 : Int32)), .val (.int z115), .val (.ref w_EXECUTE), .val (.int (0 : Int32)), .val (.int (0 : Int32))] [(.int (4 : Int32))]))
        exact goRetI X117 hx hlk hret rfl (hb hby d4_168) (by decide) (by decide) ⟨_, rfl, by decide, N117, K119, ⟨_, _, _, _, ⟨Eb117, Ub117, Fb0_117, Fb1_117, Fb2_117, Fb3_117, Fb4_117, Fb5_117, Fb6_117⟩, Or.inr (Or.inr (Or.inr (Or.inl ⟨rfl, rfl, rfl, hen, ⟨_, rfl⟩⟩)))⟩⟩
      · show Go p e below _ (s₁.setTop (mkF m 25 #[.val (.ref a1), .val (.int p1), .val (.int (4 : Int32)), .val (.int (0 : Int32)), .val (.int (1 : Int32)), .val (.int (0 : Int32)), .unset, .unset, .unset, .unset] [(.int (p1 &&& (4 : Int32)))]))
        by_cases hc121 : (p1 &&& (4 : Int32)) = (0 : Int32)
        · refine Go.st (fun _ => XS.ifYes X0.here hx rfl (pc0 := 25) (pc' := 32) rfl (hb hby d4_25) rfl ((if0 _ _).trans (teq hc121).1) (by decide) (by decide)) ?_
          show Go p e below _ (s₁.setTop (mkF m 32 #[.val (.ref a1), .val (.int p1), .val (.int (4 : Int32)), .val (.int (0 : Int32)), .val (.int (1 : Int32)), .val (.int (0 : Int32)), .unset, .unset, .unset, .unset] []))
          refine Go.st (fun _ => XS.iconst X0.here hx rfl (hb hby d4_32)) ?_
          exact J115 _ trivial
        · refine Go.st (fun _ => XS.ifNo X0.here hx rfl (hb hby d4_25) rfl ((if0 _ _).trans (feq hc121).1)) ?_
          show Go p e below _ (s₁.setTop (mkF m 28 #[.val (.ref a1), .val (.int p1), .val (.int (4 : Int32)), .val (.int (0 : Int32)), .val (.int (1 : Int32)), .val (.int (0 : Int32)), .unset, .unset, .unset, .unset] []))
          refine Go.st (fun _ => XS.iconst X0.here hx rfl (hb hby d4_28)) ?_
          show Go p e below _ (s₁.setTop (mkF m 29 #[.val (.ref a1), .val (.int p1), .val (.int (4 : Int32)), .val (.int (0 : Int32)), .val (.int (1 : Int32)), .val (.int (0 : Int32)), .unset, .unset, .unset, .unset] [(.int (1 : Int32))]))
          refine Go.st (fun _ => XS.goto X0.here hx rfl (pc0 := 29) (pc' := 33) rfl (hb hby d4_29) (by decide) (by decide)) ?_
          exact J115 _ trivial
    · rw [q0]
      show Go p e below _ (s₁.setTop (mkF m 20 #[.val (.ref a1), .val (.int p1), .val (.int (4 : Int32)), .val (.int (0 : Int32)), .val (.int (1 : Int32)), .unset, .unset, .unset, .unset, .unset] [(.int (1 : Int32))]))
      refine Go.st (fun _ => XS.istore X0.here hx rfl (hb hby d4_20) rfl (l' := #[.val (.ref a1), .val (.int p1), .val (.int (4 : Int32)), .val (.int (0 : Int32)), .val (.int (1 : Int32)), .val (.int (1 : Int32)), .unset, .unset, .unset, .unset]) rfl) ?_
      show Go p e below _ (s₁.setTop (mkF m 22 #[.val (.ref a1), .val (.int p1), .val (.int (4 : Int32)), .val (.int (0 : Int32)), .val (.int (1 : Int32)), .val (.int (1 : Int32)), .unset, .unset, .unset, .unset] []))
      refine Go.st (fun _ => XS.iloadN X0.here hx rfl (hb hby d4_22) rfl) ?_
      show Go p e below _ (s₁.setTop (mkF m 23 #[.val (.ref a1), .val (.int p1), .val (.int (4 : Int32)), .val (.int (0 : Int32)), .val (.int (1 : Int32)), .val (.int (1 : Int32)), .unset, .unset, .unset, .unset] [(.int p1)]))
      refine Go.st (fun _ => XS.iconst X0.here hx rfl (hb hby d4_23)) ?_
      show Go p e below _ (s₁.setTop (mkF m 24 #[.val (.ref a1), .val (.int p1), .val (.int (4 : Int32)), .val (.int (0 : Int32)), .val (.int (1 : Int32)), .val (.int (1 : Int32)), .unset, .unset, .unset, .unset] [(.int (4 : Int32)), (.int p1)]))
      refine Go.st (fun _ => XS.iand X0.here hx rfl (hb hby d4_24) rfl) ?_
      show Go p e below _ (s₁.setTop (mkF m 25 #[.val (.ref a1), .val (.int p1), .val (.int (4 : Int32)), .val (.int (0 : Int32)), .val (.int (1 : Int32)), .val (.int (1 : Int32)), .unset, .unset, .unset, .unset] [(.int (p1 &&& (4 : Int32)))]))
      refine goJoin (P := fun z122 : Int32 => True) (F := fun z122 => s₁.setTop (mkF m 33 #[.val (.ref a1), .val (.int p1), .val (.int (4 : Int32)), .val (.int (0 : Int32)), .val (.int (1 : Int32)), .val (.int (1 : Int32)), .unset, .unset, .unset, .unset] [(.int z122)])) (fun z122 hz122 => ?_) (fun J122 => ?_)
      · show Go p e below _ (s₁.setTop (mkF m 33 #[.val (.ref a1), .val (.int p1), .val (.int (4 : Int32)), .val (.int (0 : Int32)), .val (.int (1 : Int32)), .val (.int (1 : Int32)), .unset, .unset, .unset, .unset] [(.int z122)]))
        refine Go.st (fun _ => XS.istore X0.here hx rfl (hb hby d4_33) rfl (l' := #[.val (.ref a1), .val (.int p1), .val (.int (4 : Int32)), .val (.int (0 : Int32)), .val (.int (1 : Int32)), .val (.int (1 : Int32)), .val (.int z122), .unset, .unset, .unset]) rfl) ?_
        show Go p e below _ (s₁.setTop (mkF m 35 #[.val (.ref a1), .val (.int p1), .val (.int (4 : Int32)), .val (.int (0 : Int32)), .val (.int (1 : Int32)), .val (.int (1 : Int32)), .val (.int z122), .unset, .unset, .unset] []))
        refine Go.st (fun _ => XS.iload X0.here hx rfl (hb hby d4_35) rfl) ?_
        show Go p e below _ (s₁.setTop (mkF m 37 #[.val (.ref a1), .val (.int p1), .val (.int (4 : Int32)), .val (.int (0 : Int32)), .val (.int (1 : Int32)), .val (.int (1 : Int32)), .val (.int z122), .unset, .unset, .unset] [(.int (1 : Int32))]))
        refine Go.st (fun _ => XS.ifNo X0.here hx rfl (hb hby d4_37) rfl ((if0 _ _).trans (feq (by decide : ¬ ((1 : Int32) = (0 : Int32)))).1)) ?_
        show Go p e below _ (s₁.setTop (mkF m 40 #[.val (.ref a1), .val (.int p1), .val (.int (4 : Int32)), .val (.int (0 : Int32)), .val (.int (1 : Int32)), .val (.int (1 : Int32)), .val (.int z122), .unset, .unset, .unset] []))
        refine Go.st (fun _ => XS.iload X0.here hx rfl (hb hby d4_40) rfl) ?_
        show Go p e below _ (s₁.setTop (mkF m 42 #[.val (.ref a1), .val (.int p1), .val (.int (4 : Int32)), .val (.int (0 : Int32)), .val (.int (1 : Int32)), .val (.int (1 : Int32)), .val (.int z122), .unset, .unset, .unset] [(.int (1 : Int32))]))
        refine Go.st (fun _ => XS.iconst X0.here hx rfl (hb hby d4_42)) ?_
        show Go p e below _ (s₁.setTop (mkF m 43 #[.val (.ref a1), .val (.int p1), .val (.int (4 : Int32)), .val (.int (0 : Int32)), .val (.int (1 : Int32)), .val (.int (1 : Int32)), .val (.int z122), .unset, .unset, .unset] [(.int (1 : Int32)), (.int (1 : Int32))]))
        refine Go.st (fun _ => XS.icmpNo X0.here hx rfl (hb hby d4_43) rfl (teq (by decide : (1 : Int32) = (1 : Int32))).2) ?_
        show Go p e below _ (s₁.setTop (mkF m 46 #[.val (.ref a1), .val (.int p1), .val (.int (4 : Int32)), .val (.int (0 : Int32)), .val (.int (1 : Int32)), .val (.int (1 : Int32)), .val (.int z122), .unset, .unset, .unset] []))
        refine Go.st (fun _ => XS.iload X0.here hx rfl (hb hby d4_46) rfl) ?_
        show Go p e below _ (s₁.setTop (mkF m 48 #[.val (.ref a1), .val (.int p1), .val (.int (4 : Int32)), .val (.int (0 : Int32)), .val (.int (1 : Int32)), .val (.int (1 : Int32)), .val (.int z122), .unset, .unset, .unset] [(.int (1 : Int32))]))
        refine Go.st (fun _ => XS.ifYes X0.here hx rfl (pc0 := 48) (pc' := 57) rfl (hb hby d4_48) rfl ((if0 _ _).trans (feq (by decide : ¬ ((1 : Int32) = (0 : Int32)))).2) (by decide) (by decide)) ?_
        show Go p e below _ (s₁.setTop (mkF m 57 #[.val (.ref a1), .val (.int p1), .val (.int (4 : Int32)), .val (.int (0 : Int32)), .val (.int (1 : Int32)), .val (.int (1 : Int32)), .val (.int z122), .unset, .unset, .unset] []))
        obtain ⟨T123, X123, e123, st123⟩ := getS2 X0 hx hZ hown (host := "") (Or.inl (hw _ (List.mem_of_getElem? (i := 59) rfl))) Via.refl e0 (oldSta O0 S_w_ADOPTER) (g := (mkF m 57 #[.val (.ref a1), .val (.int p1), .val (.int (4 : Int32)), .val (.int (0 : Int32)), .val (.int (1 : Int32)), .val (.int (1 : Int32)), .val (.int z122), .unset, .unset, .unset] [])) rfl (hb hby d4_57)
        refine Go.st st123 ?_
        show Go p e below _ (T123.setTop (mkF m 60 #[.val (.ref a1), .val (.int p1), .val (.int (4 : Int32)), .val (.int (0 : Int32)), .val (.int (1 : Int32)), .val (.int (1 : Int32)), .val (.int z122), .unset, .unset, .unset] [(.ref w_ADOPTER)]))
        refine Go.st (fun _ => XS.astore X123.here hx rfl (hb hby d4_60) rfl rfl (l' := #[.val (.ref a1), .val (.int p1), .val (.int (4 : Int32)), .val (.int (0 : Int32)), .val (.int (1 : Int32)), .val (.int (1 : Int32)), .val (.int z122), .val (.ref w_ADOPTER), .unset, .unset]) rfl) ?_
        show Go p e below _ (T123.setTop (mkF m 62 #[.val (.ref a1), .val (.int p1), .val (.int (4 : Int32)), .val (.int (0 : Int32)), .val (.int (1 : Int32)), .val (.int (1 : Int32)), .val (.int z122), .val (.ref w_ADOPTER), .unset, .unset] []))
        refine Go.st (fun _ => XS.aloadN X123.here hx rfl (hb hby d4_62) rfl rfl) ?_
        show Go p e below _ (T123.setTop (mkF m 63 #[.val (.ref a1), .val (.int p1), .val (.int (4 : Int32)), .val (.int (0 : Int32)), .val (.int (1 : Int32)), .val (.int (1 : Int32)), .val (.int z122), .val (.ref w_ADOPTER), .unset, .unset] [(.ref a1)]))
        refine Go.st (fun _ => XS.aload X123.here hx rfl (hb hby d4_63) rfl rfl) ?_
        show Go p e below _ (T123.setTop (mkF m 65 #[.val (.ref a1), .val (.int p1), .val (.int (4 : Int32)), .val (.int (0 : Int32)), .val (.int (1 : Int32)), .val (.int (1 : Int32)), .val (.int z122), .val (.ref w_ADOPTER), .unset, .unset] [(.ref w_ADOPTER), (.ref a1)]))
        refine goVirtS X123 hx hZ (y := (⟨"com/example/sidelane/sidelane/Cancellation", "claim", "(Lcom/example/sidelane/sidelane/Cancellation$Claimant;)Z"⟩ : MethodName)) (z := (⟨"com/example/sidelane/sidelane/Cancellation", "claim", "(Lcom/example/sidelane/sidelane/Cancellation$Claimant;)Z"⟩ : MethodName)) hown (hw _ (List.mem_of_getElem? (i := 25) rfl)) (hw _ (List.mem_of_getElem? (i := 26) rfl)) (notFace_of_selects (args := #[]) (mvT hZ (hw _ (List.mem_of_getElem? (i := 28) rfl)))) (hw _ (List.mem_of_getElem? (i := 28) rfl)) (hw _ (List.mem_of_getElem? (i := 27) rfl)) (hw _ (List.mem_of_getElem? (i := 2) rfl)) (hw _ (List.mem_of_getElem? (i := 29) rfl)) (by decide) (a := a1) (argsL := [(.ref w_ADOPTER)]) (rest := []) e123 Eb (cm01 l Z a0 hw a1 w_ADOPTER en (.ref a6) h0 n0 O0 Ub g1 Eb Fb0 Fb1 Fb2 Fb3 Fb4 Fb5 Fb6) 0 (by decide) (by decide) (by decide) (by decide) (mkF m 65 #[.val (.ref a1), .val (.int p1), .val (.int (4 : Int32)), .val (.int (0 : Int32)), .val (.int (1 : Int32)), .val (.int (1 : Int32)), .val (.int z122), .val (.ref w_ADOPTER), .unset, .unset] [(.ref w_ADOPTER), (.ref a1)]) rfl (by rw [hml]; rfl) (lenOf pd_3 rfl) rfl (hb hby d4_65) (Nat.le_of_eq rfl) ?_
        intro v124 T124 L124 X124 hQ124
        obtain ⟨rfl, M124, K124, ⟨Eb124, Ub124, Fb0_124, Fb1_124, Fb2_124, Fb3_124, Fb4_124, Fb5_124, Fb6_124⟩⟩ := hQ124
        have N124 := Fr.app N0 M124
        have O125 : Old Z n0 T124.heap := O0.keep K124 (allS g1 all0)
        have K126 : Keep h0 T124.heap [a1] := (Keep.refl h0 [a1]).trans K124 (allS (Or.inl (List.mem_of_getElem? (i := 0) rfl)) all0)
        have E_127 : Exa Z T124.heap a1 "com/example/sidelane/sidelane/Cancellation" := Eb.keep K124
        show Go p e below _ (T124.setTop (mkF m 68 #[.val (.ref a1), .val (.int p1), .val (.int (4 : Int32)), .val (.int (0 : Int32)), .val (.int (1 : Int32)), .val (.int (1 : Int32)), .val (.int z122), .val (.ref w_ADOPTER), .unset, .unset] [(.int (0 : Int32))]))
        refine Go.st (fun _ => XS.istore X124.here hx rfl (hb hby d4_68) rfl (l' := #[.val (.ref a1), .val (.int p1), .val (.int (4 : Int32)), .val (.int (0 : Int32)), .val (.int (1 : Int32)), .val (.int (1 : Int32)), .val (.int z122), .val (.ref w_ADOPTER), .val (.int (0 : Int32)), .unset]) rfl) ?_
        show Go p e below _ (T124.setTop (mkF m 70 #[.val (.ref a1), .val (.int p1), .val (.int (4 : Int32)), .val (.int (0 : Int32)), .val (.int (1 : Int32)), .val (.int (1 : Int32)), .val (.int z122), .val (.ref w_ADOPTER), .val (.int (0 : Int32)), .unset] []))
        refine Go.st (fun _ => XS.iloadN X124.here hx rfl (hb hby d4_70) rfl) ?_
        show Go p e below _ (T124.setTop (mkF m 71 #[.val (.ref a1), .val (.int p1), .val (.int (4 : Int32)), .val (.int (0 : Int32)), .val (.int (1 : Int32)), .val (.int (1 : Int32)), .val (.int z122), .val (.ref w_ADOPTER), .val (.int (0 : Int32)), .unset] [(.int (0 : Int32))]))
        refine Go.st (fun _ => XS.ifNo X124.here hx rfl (hb hby d4_71) rfl ((if0 _ _).trans (teq (by decide : (0 : Int32) = (0 : Int32))).2)) ?_
        show Go p e below _ (T124.setTop (mkF m 74 #[.val (.ref a1), .val (.int p1), .val (.int (4 : Int32)), .val (.int (0 : Int32)), .val (.int (1 : Int32)), .val (.int (1 : Int32)), .val (.int z122), .val (.ref w_ADOPTER), .val (.int (0 : Int32)), .unset] []))
        refine Go.st (fun _ => XS.iload X124.here hx rfl (hb hby d4_74) rfl) ?_
        show Go p e below _ (T124.setTop (mkF m 76 #[.val (.ref a1), .val (.int p1), .val (.int (4 : Int32)), .val (.int (0 : Int32)), .val (.int (1 : Int32)), .val (.int (1 : Int32)), .val (.int z122), .val (.ref w_ADOPTER), .val (.int (0 : Int32)), .unset] [(.int (1 : Int32))]))
        refine Go.st (fun _ => XS.ifYes X124.here hx rfl (pc0 := 76) (pc' := 83) rfl (hb hby d4_76) rfl ((if0 _ _).trans (feq (by decide : ¬ ((1 : Int32) = (0 : Int32)))).2) (by decide) (by decide)) ?_
        show Go p e below _ (T124.setTop (mkF m 83 #[.val (.ref a1), .val (.int p1), .val (.int (4 : Int32)), .val (.int (0 : Int32)), .val (.int (1 : Int32)), .val (.int (1 : Int32)), .val (.int z122), .val (.ref w_ADOPTER), .val (.int (0 : Int32)), .unset] []))
        refine Go.st (fun _ => XS.iconst X124.here hx rfl (hb hby d4_83)) ?_
        show Go p e below _ (T124.setTop (mkF m 84 #[.val (.ref a1), .val (.int p1), .val (.int (4 : Int32)), .val (.int (0 : Int32)), .val (.int (1 : Int32)), .val (.int (1 : Int32)), .val (.int z122), .val (.ref w_ADOPTER), .val (.int (0 : Int32)), .unset] [(.int (0 : Int32))]))
        refine Go.st (fun _ => XS.istore X124.here hx rfl (hb hby d4_84) rfl (l' := #[.val (.ref a1), .val (.int p1), .val (.int (4 : Int32)), .val (.int (0 : Int32)), .val (.int (1 : Int32)), .val (.int (1 : Int32)), .val (.int z122), .val (.ref w_ADOPTER), .val (.int (0 : Int32)), .val (.int (0 : Int32))]) rfl) ?_
        show Go p e below _ (T124.setTop (mkF m 86 #[.val (.ref a1), .val (.int p1), .val (.int (4 : Int32)), .val (.int (0 : Int32)), .val (.int (1 : Int32)), .val (.int (1 : Int32)), .val (.int z122), .val (.ref w_ADOPTER), .val (.int (0 : Int32)), .val (.int (0 : Int32))] []))
        refine Go.st (fun _ => XS.iload X124.here hx rfl (hb hby d4_86) rfl) ?_
        show Go p e below _ (T124.setTop (mkF m 88 #[.val (.ref a1), .val (.int p1), .val (.int (4 : Int32)), .val (.int (0 : Int32)), .val (.int (1 : Int32)), .val (.int (1 : Int32)), .val (.int z122), .val (.ref w_ADOPTER), .val (.int (0 : Int32)), .val (.int (0 : Int32))] [(.int (0 : Int32))]))
        refine Go.st (fun _ => XS.iload X124.here hx rfl (hb hby d4_88) rfl) ?_
        show Go p e below _ (T124.setTop (mkF m 90 #[.val (.ref a1), .val (.int p1), .val (.int (4 : Int32)), .val (.int (0 : Int32)), .val (.int (1 : Int32)), .val (.int (1 : Int32)), .val (.int z122), .val (.ref w_ADOPTER), .val (.int (0 : Int32)), .val (.int (0 : Int32))] [(.int (0 : Int32)), (.int (0 : Int32))]))
        refine Go.st (fun _ => XS.icmpYes X124.here hx rfl (pc0 := 90) (pc' := 95) rfl (hb hby d4_90) rfl (teq (by decide : (0 : Int32) = (0 : Int32))).1 (by decide) (by decide)) ?_
        show Go p e below _ (T124.setTop (mkF m 95 #[.val (.ref a1), .val (.int p1), .val (.int (4 : Int32)), .val (.int (0 : Int32)), .val (.int (1 : Int32)), .val (.int (1 : Int32)), .val (.int z122), .val (.ref w_ADOPTER), .val (.int (0 : Int32)), .val (.int (0 : Int32))] []))
        refine Go.st (fun _ => XS.iload X124.here hx rfl (hb hby d4_95) rfl) ?_
        show Go p e below _ (T124.setTop (mkF m 97 #[.val (.ref a1), .val (.int p1), .val (.int (4 : Int32)), .val (.int (0 : Int32)), .val (.int (1 : Int32)), .val (.int (1 : Int32)), .val (.int z122), .val (.ref w_ADOPTER), .val (.int (0 : Int32)), .val (.int (0 : Int32))] [(.int (0 : Int32))]))
        refine Go.st (fun _ => XS.ifYes X124.here hx rfl (pc0 := 97) (pc' := 105) rfl (hb hby d4_97) rfl ((if0 _ _).trans (teq (by decide : (0 : Int32) = (0 : Int32))).1) (by decide) (by decide)) ?_
        show Go p e below _ (T124.setTop (mkF m 105 #[.val (.ref a1), .val (.int p1), .val (.int (4 : Int32)), .val (.int (0 : Int32)), .val (.int (1 : Int32)), .val (.int (1 : Int32)), .val (.int z122), .val (.ref w_ADOPTER), .val (.int (0 : Int32)), .val (.int (0 : Int32))] []))
        refine Go.st (fun _ => XS.goto X124.here hx rfl (pc0 := 105) (pc' := 156) rfl (hb hby d4_105) (by decide) (by decide)) ?_
        show Go p e below _ (T124.setTop (mkF m 156 #[.val (.ref a1), .val (.int p1), .val (.int (4 : Int32)), .val (.int (0 : Int32)), .val (.int (1 : Int32)), .val (.int (1 : Int32)), .val (.int z122), .val (.ref w_ADOPTER), .val (.int (0 : Int32)), .val (.int (0 : Int32))] []))
        refine Go.st (fun _ => XS.iloadN X124.here hx rfl (hb hby d4_156) rfl) ?_
        show Go p e below _ (T124.setTop (mkF m 157 #[.val (.ref a1), .val (.int p1), .val (.int (4 : Int32)), .val (.int (0 : Int32)), .val (.int (1 : Int32)), .val (.int (1 : Int32)), .val (.int z122), .val (.ref w_ADOPTER), .val (.int (0 : Int32)), .val (.int (0 : Int32))] [(.int (0 : Int32))]))
        refine Go.st (fun _ => XS.iload X124.here hx rfl (hb hby d4_157) rfl) ?_
        show Go p e below _ (T124.setTop (mkF m 159 #[.val (.ref a1), .val (.int p1), .val (.int (4 : Int32)), .val (.int (0 : Int32)), .val (.int (1 : Int32)), .val (.int (1 : Int32)), .val (.int z122), .val (.ref w_ADOPTER), .val (.int (0 : Int32)), .val (.int (0 : Int32))] [(.int (1 : Int32)), (.int (0 : Int32))]))
        refine Go.st (fun _ => XS.ifNo X124.here hx rfl (hb hby d4_159) rfl ((if0 _ _).trans (feq (by decide : ¬ ((1 : Int32) = (0 : Int32)))).1)) ?_
        show Go p e below _ (T124.setTop (mkF m 162 #[.val (.ref a1), .val (.int p1), .val (.int (4 : Int32)), .val (.int (0 : Int32)), .val (.int (1 : Int32)), .val (.int (1 : Int32)), .val (.int z122), .val (.ref w_ADOPTER), .val (.int (0 : Int32)), .val (.int (0 : Int32))] [(.int (0 : Int32))]))
        refine Go.st (fun _ => XS.iconst X124.here hx rfl (hb hby d4_162)) ?_
        show Go p e below _ (T124.setTop (mkF m 163 #[.val (.ref a1), .val (.int p1), .val (.int (4 : Int32)), .val (.int (0 : Int32)), .val (.int (1 : Int32)), .val (.int (1 : Int32)), .val (.int z122), .val (.ref w_ADOPTER), .val (.int (0 : Int32)), .val (.int (0 : Int32))] [(.int (4 : Int32)), (.int (0 : Int32))]))
        refine Go.st (fun _ => XS.goto X124.here hx rfl (pc0 := 163) (pc' := 167) rfl (hb hby d4_163) (by decide) (by decide)) ?_
        show Go p e below _ (T124.setTop (mkF m 167 #[.val (.ref a1), .val (.int p1), .val (.int (4 : Int32)), .val (.int (0 : Int32)), .val (.int (1 : Int32)), .val (.int (1 : Int32)), .val (.int z122), .val (.ref w_ADOPTER), .val (.int (0 : Int32)), .val (.int (0 : Int32))] [(.int (4 : Int32)), (.int (0 : Int32))]))
        refine Go.st (fun _ => XS.ior X124.here hx rfl (hb hby d4_167) rfl) ?_
        show Go p e below _ (T124.setTop (mkF m 168 #[.val (.ref a1), .val (.int p1), .val (.int (4 : Int32)), .val (.int (0 : Int32)), .val (.int (1 : Int32)), .val (.int (1 : Int32)), .val (.int z122), .val (.ref w_ADOPTER), .val (.int (0 : Int32)), .val (.int (0 : Int32))] [(.int (4 : Int32))]))
        exact goRetI X124 hx hlk hret rfl (hb hby d4_168) (by decide) (by decide) ⟨_, rfl, by decide, N124, K126, ⟨_, _, _, _, ⟨Eb124, Ub124, Fb0_124, Fb1_124, Fb2_124, Fb3_124, Fb4_124, Fb5_124, Fb6_124⟩, Or.inr (Or.inr (Or.inr (Or.inl ⟨rfl, rfl, rfl, hen, ⟨_, rfl⟩⟩)))⟩⟩
      · show Go p e below _ (s₁.setTop (mkF m 25 #[.val (.ref a1), .val (.int p1), .val (.int (4 : Int32)), .val (.int (0 : Int32)), .val (.int (1 : Int32)), .val (.int (1 : Int32)), .unset, .unset, .unset, .unset] [(.int (p1 &&& (4 : Int32)))]))
        by_cases hc128 : (p1 &&& (4 : Int32)) = (0 : Int32)
        · refine Go.st (fun _ => XS.ifYes X0.here hx rfl (pc0 := 25) (pc' := 32) rfl (hb hby d4_25) rfl ((if0 _ _).trans (teq hc128).1) (by decide) (by decide)) ?_
          show Go p e below _ (s₁.setTop (mkF m 32 #[.val (.ref a1), .val (.int p1), .val (.int (4 : Int32)), .val (.int (0 : Int32)), .val (.int (1 : Int32)), .val (.int (1 : Int32)), .unset, .unset, .unset, .unset] []))
          refine Go.st (fun _ => XS.iconst X0.here hx rfl (hb hby d4_32)) ?_
          exact J122 _ trivial
        · refine Go.st (fun _ => XS.ifNo X0.here hx rfl (hb hby d4_25) rfl ((if0 _ _).trans (feq hc128).1)) ?_
          show Go p e below _ (s₁.setTop (mkF m 28 #[.val (.ref a1), .val (.int p1), .val (.int (4 : Int32)), .val (.int (0 : Int32)), .val (.int (1 : Int32)), .val (.int (1 : Int32)), .unset, .unset, .unset, .unset] []))
          refine Go.st (fun _ => XS.iconst X0.here hx rfl (hb hby d4_28)) ?_
          show Go p e below _ (s₁.setTop (mkF m 29 #[.val (.ref a1), .val (.int p1), .val (.int (4 : Int32)), .val (.int (0 : Int32)), .val (.int (1 : Int32)), .val (.int (1 : Int32)), .unset, .unset, .unset, .unset] [(.int (1 : Int32))]))
          refine Go.st (fun _ => XS.goto X0.here hx rfl (pc0 := 29) (pc' := 33) rfl (hb hby d4_29) (by decide) (by decide)) ?_
          exact J122 _ trivial
    · rw [q0]
      show Go p e below _ (s₁.setTop (mkF m 20 #[.val (.ref a1), .val (.int p1), .val (.int (4 : Int32)), .val (.int (0 : Int32)), .val (.int (1 : Int32)), .unset, .unset, .unset, .unset, .unset] [(.int (2 : Int32))]))
      refine Go.st (fun _ => XS.istore X0.here hx rfl (hb hby d4_20) rfl (l' := #[.val (.ref a1), .val (.int p1), .val (.int (4 : Int32)), .val (.int (0 : Int32)), .val (.int (1 : Int32)), .val (.int (2 : Int32)), .unset, .unset, .unset, .unset]) rfl) ?_
      show Go p e below _ (s₁.setTop (mkF m 22 #[.val (.ref a1), .val (.int p1), .val (.int (4 : Int32)), .val (.int (0 : Int32)), .val (.int (1 : Int32)), .val (.int (2 : Int32)), .unset, .unset, .unset, .unset] []))
      refine Go.st (fun _ => XS.iloadN X0.here hx rfl (hb hby d4_22) rfl) ?_
      show Go p e below _ (s₁.setTop (mkF m 23 #[.val (.ref a1), .val (.int p1), .val (.int (4 : Int32)), .val (.int (0 : Int32)), .val (.int (1 : Int32)), .val (.int (2 : Int32)), .unset, .unset, .unset, .unset] [(.int p1)]))
      refine Go.st (fun _ => XS.iconst X0.here hx rfl (hb hby d4_23)) ?_
      show Go p e below _ (s₁.setTop (mkF m 24 #[.val (.ref a1), .val (.int p1), .val (.int (4 : Int32)), .val (.int (0 : Int32)), .val (.int (1 : Int32)), .val (.int (2 : Int32)), .unset, .unset, .unset, .unset] [(.int (4 : Int32)), (.int p1)]))
      refine Go.st (fun _ => XS.iand X0.here hx rfl (hb hby d4_24) rfl) ?_
      show Go p e below _ (s₁.setTop (mkF m 25 #[.val (.ref a1), .val (.int p1), .val (.int (4 : Int32)), .val (.int (0 : Int32)), .val (.int (1 : Int32)), .val (.int (2 : Int32)), .unset, .unset, .unset, .unset] [(.int (p1 &&& (4 : Int32)))]))
      refine goJoin (P := fun z129 : Int32 => True) (F := fun z129 => s₁.setTop (mkF m 33 #[.val (.ref a1), .val (.int p1), .val (.int (4 : Int32)), .val (.int (0 : Int32)), .val (.int (1 : Int32)), .val (.int (2 : Int32)), .unset, .unset, .unset, .unset] [(.int z129)])) (fun z129 hz129 => ?_) (fun J129 => ?_)
      · show Go p e below _ (s₁.setTop (mkF m 33 #[.val (.ref a1), .val (.int p1), .val (.int (4 : Int32)), .val (.int (0 : Int32)), .val (.int (1 : Int32)), .val (.int (2 : Int32)), .unset, .unset, .unset, .unset] [(.int z129)]))
        refine Go.st (fun _ => XS.istore X0.here hx rfl (hb hby d4_33) rfl (l' := #[.val (.ref a1), .val (.int p1), .val (.int (4 : Int32)), .val (.int (0 : Int32)), .val (.int (1 : Int32)), .val (.int (2 : Int32)), .val (.int z129), .unset, .unset, .unset]) rfl) ?_
        show Go p e below _ (s₁.setTop (mkF m 35 #[.val (.ref a1), .val (.int p1), .val (.int (4 : Int32)), .val (.int (0 : Int32)), .val (.int (1 : Int32)), .val (.int (2 : Int32)), .val (.int z129), .unset, .unset, .unset] []))
        refine Go.st (fun _ => XS.iload X0.here hx rfl (hb hby d4_35) rfl) ?_
        show Go p e below _ (s₁.setTop (mkF m 37 #[.val (.ref a1), .val (.int p1), .val (.int (4 : Int32)), .val (.int (0 : Int32)), .val (.int (1 : Int32)), .val (.int (2 : Int32)), .val (.int z129), .unset, .unset, .unset] [(.int (2 : Int32))]))
        refine Go.st (fun _ => XS.ifNo X0.here hx rfl (hb hby d4_37) rfl ((if0 _ _).trans (feq (by decide : ¬ ((2 : Int32) = (0 : Int32)))).1)) ?_
        show Go p e below _ (s₁.setTop (mkF m 40 #[.val (.ref a1), .val (.int p1), .val (.int (4 : Int32)), .val (.int (0 : Int32)), .val (.int (1 : Int32)), .val (.int (2 : Int32)), .val (.int z129), .unset, .unset, .unset] []))
        refine Go.st (fun _ => XS.iload X0.here hx rfl (hb hby d4_40) rfl) ?_
        show Go p e below _ (s₁.setTop (mkF m 42 #[.val (.ref a1), .val (.int p1), .val (.int (4 : Int32)), .val (.int (0 : Int32)), .val (.int (1 : Int32)), .val (.int (2 : Int32)), .val (.int z129), .unset, .unset, .unset] [(.int (2 : Int32))]))
        refine Go.st (fun _ => XS.iconst X0.here hx rfl (hb hby d4_42)) ?_
        show Go p e below _ (s₁.setTop (mkF m 43 #[.val (.ref a1), .val (.int p1), .val (.int (4 : Int32)), .val (.int (0 : Int32)), .val (.int (1 : Int32)), .val (.int (2 : Int32)), .val (.int z129), .unset, .unset, .unset] [(.int (1 : Int32)), (.int (2 : Int32))]))
        refine Go.st (fun _ => XS.icmpYes X0.here hx rfl (pc0 := 43) (pc' := 108) rfl (hb hby d4_43) rfl (feq (by decide : ¬ ((2 : Int32) = (1 : Int32)))).2 (by decide) (by decide)) ?_
        show Go p e below _ (s₁.setTop (mkF m 108 #[.val (.ref a1), .val (.int p1), .val (.int (4 : Int32)), .val (.int (0 : Int32)), .val (.int (1 : Int32)), .val (.int (2 : Int32)), .val (.int z129), .unset, .unset, .unset] []))
        refine Go.st (fun _ => XS.iload X0.here hx rfl (hb hby d4_108) rfl) ?_
        show Go p e below _ (s₁.setTop (mkF m 110 #[.val (.ref a1), .val (.int p1), .val (.int (4 : Int32)), .val (.int (0 : Int32)), .val (.int (1 : Int32)), .val (.int (2 : Int32)), .val (.int z129), .unset, .unset, .unset] [(.int (2 : Int32))]))
        refine Go.st (fun _ => XS.iconst X0.here hx rfl (hb hby d4_110)) ?_
        show Go p e below _ (s₁.setTop (mkF m 111 #[.val (.ref a1), .val (.int p1), .val (.int (4 : Int32)), .val (.int (0 : Int32)), .val (.int (1 : Int32)), .val (.int (2 : Int32)), .val (.int z129), .unset, .unset, .unset] [(.int (3 : Int32)), (.int (2 : Int32))]))
        refine Go.st (fun _ => XS.icmpYes X0.here hx rfl (pc0 := 111) (pc' := 121) rfl (hb hby d4_111) rfl (feq (by decide : ¬ ((2 : Int32) = (3 : Int32)))).2 (by decide) (by decide)) ?_
        show Go p e below _ (s₁.setTop (mkF m 121 #[.val (.ref a1), .val (.int p1), .val (.int (4 : Int32)), .val (.int (0 : Int32)), .val (.int (1 : Int32)), .val (.int (2 : Int32)), .val (.int z129), .unset, .unset, .unset] []))
        refine Go.st (fun _ => XS.aconstNull X0.here hx rfl (hb hby d4_121)) ?_
        show Go p e below _ (s₁.setTop (mkF m 122 #[.val (.ref a1), .val (.int p1), .val (.int (4 : Int32)), .val (.int (0 : Int32)), .val (.int (1 : Int32)), .val (.int (2 : Int32)), .val (.int z129), .unset, .unset, .unset] [.null]))
        refine Go.st (fun _ => XS.astore X0.here hx rfl (hb hby d4_122) rfl rfl (l' := #[.val (.ref a1), .val (.int p1), .val (.int (4 : Int32)), .val (.int (0 : Int32)), .val (.int (1 : Int32)), .val (.int (2 : Int32)), .val (.int z129), .val .null, .unset, .unset]) rfl) ?_
        show Go p e below _ (s₁.setTop (mkF m 124 #[.val (.ref a1), .val (.int p1), .val (.int (4 : Int32)), .val (.int (0 : Int32)), .val (.int (1 : Int32)), .val (.int (2 : Int32)), .val (.int z129), .val .null, .unset, .unset] []))
        refine Go.st (fun _ => XS.aloadN X0.here hx rfl (hb hby d4_124) rfl rfl) ?_
        show Go p e below _ (s₁.setTop (mkF m 125 #[.val (.ref a1), .val (.int p1), .val (.int (4 : Int32)), .val (.int (0 : Int32)), .val (.int (1 : Int32)), .val (.int (2 : Int32)), .val (.int z129), .val .null, .unset, .unset] [(.ref a1)]))
        refine Go.st (fun _ => XS.iload X0.here hx rfl (hb hby d4_125) rfl) ?_
        show Go p e below _ (s₁.setTop (mkF m 127 #[.val (.ref a1), .val (.int p1), .val (.int (4 : Int32)), .val (.int (0 : Int32)), .val (.int (1 : Int32)), .val (.int (2 : Int32)), .val (.int z129), .val .null, .unset, .unset] [(.int z129), (.ref a1)]))
        refine Go.st (fun _ => XS.aload X0.here hx rfl (hb hby d4_127) rfl rfl) ?_
        show Go p e below _ (s₁.setTop (mkF m 129 #[.val (.ref a1), .val (.int p1), .val (.int (4 : Int32)), .val (.int (0 : Int32)), .val (.int (1 : Int32)), .val (.int (2 : Int32)), .val (.int z129), .val .null, .unset, .unset] [.null, (.int z129), (.ref a1)]))
        refine goVirtS X0 hx hZ (y := (⟨"com/example/sidelane/sidelane/Cancellation", "cancel", "(ZLjava/lang/Object;)Lcom/example/sidelane/sidelane/Cancellation$Outcome;"⟩ : MethodName)) (z := (⟨"com/example/sidelane/sidelane/Cancellation", "cancel", "(ZLjava/lang/Object;)Lcom/example/sidelane/sidelane/Cancellation$Outcome;"⟩ : MethodName)) hown (hw _ (List.mem_of_getElem? (i := 38) rfl)) (hw _ (List.mem_of_getElem? (i := 39) rfl)) (notFace_of_selects (args := #[]) (mvT hZ (hw _ (List.mem_of_getElem? (i := 41) rfl)))) (hw _ (List.mem_of_getElem? (i := 41) rfl)) (hw _ (List.mem_of_getElem? (i := 40) rfl)) (hw _ (List.mem_of_getElem? (i := 2) rfl)) (hw _ (List.mem_of_getElem? (i := 42) rfl)) (by decide) (a := a1) (argsL := [(.int z129), .null]) (rest := []) e0 Eb (caB0 l Z a0 hw a1 z129  en (.ref a6) w_EXECUTE w_ADOPTER w_CANCELLED w_REFUSED w_HANDED_OVER w_CANCELLED_UNEXECUTED w_ENDING_NEEDED h0 n0 O0 Ub g1 Eb Fb0 Fb1 Fb2 Fb3 Fb4 Fb5 Fb6 S_w_EXECUTE S_w_ADOPTER S_w_CANCELLED S_w_REFUSED S_w_HANDED_OVER S_w_CANCELLED_UNEXECUTED S_w_ENDING_NEEDED ne_w_EXECUTE_w_ADOPTER) 0 (by decide) (by decide) (by decide) (by decide) (mkF m 129 #[.val (.ref a1), .val (.int p1), .val (.int (4 : Int32)), .val (.int (0 : Int32)), .val (.int (1 : Int32)), .val (.int (2 : Int32)), .val (.int z129), .val .null, .unset, .unset] [.null, (.int z129), (.ref a1)]) rfl (by rw [hml]; rfl) (lenOf pd_4 rfl) rfl (hb hby d4_129) (Nat.le_of_eq rfl) ?_
        intro v130 T130 L130 X130 hQ130
        obtain ⟨⟨r130, rfl⟩, M130, K130, ⟨Eb130, Ub130, Fb0_130, Fb1_130, Fb2_130, Fb3_130, Fb4_130, Fb5_130, Fb6_130⟩⟩ := hQ130
        have N130 := Fr.app N0 M130
        have O131 : Old Z n0 T130.heap := O0.keep K130 (allS g1 all0)
        have K132 : Keep h0 T130.heap [a1] := (Keep.refl h0 [a1]).trans K130 (allS (Or.inl (List.mem_of_getElem? (i := 0) rfl)) all0)
        have E_133 : Exa Z T130.heap a1 "com/example/sidelane/sidelane/Cancellation" := Eb.keep K130
        show Go p e below _ (T130.setTop (mkF m 132 #[.val (.ref a1), .val (.int p1), .val (.int (4 : Int32)), .val (.int (0 : Int32)), .val (.int (1 : Int32)), .val (.int (2 : Int32)), .val (.int z129), .val .null, .unset, .unset] [(.ref r130)]))
        refine Go.st (fun _ => XS.pop X130.here hx rfl (hb hby d4_132) rfl rfl) ?_
        show Go p e below _ (T130.setTop (mkF m 133 #[.val (.ref a1), .val (.int p1), .val (.int (4 : Int32)), .val (.int (0 : Int32)), .val (.int (1 : Int32)), .val (.int (2 : Int32)), .val (.int z129), .val .null, .unset, .unset] []))
        refine Go.st (fun _ => XS.iloadN X130.here hx rfl (hb hby d4_133) rfl) ?_
        show Go p e below _ (T130.setTop (mkF m 134 #[.val (.ref a1), .val (.int p1), .val (.int (4 : Int32)), .val (.int (0 : Int32)), .val (.int (1 : Int32)), .val (.int (2 : Int32)), .val (.int z129), .val .null, .unset, .unset] [(.int (0 : Int32))]))
        refine Go.st (fun _ => XS.iconst X130.here hx rfl (hb hby d4_134)) ?_
        show Go p e below _ (T130.setTop (mkF m 135 #[.val (.ref a1), .val (.int p1), .val (.int (4 : Int32)), .val (.int (0 : Int32)), .val (.int (1 : Int32)), .val (.int (2 : Int32)), .val (.int z129), .val .null, .unset, .unset] [(.int (2 : Int32)), (.int (0 : Int32))]))
        refine Go.st (fun _ => XS.icmpNo X130.here hx rfl (hb hby d4_135) rfl (feq (by decide : ¬ ((0 : Int32) = (2 : Int32)))).1) ?_
        show Go p e below _ (T130.setTop (mkF m 138 #[.val (.ref a1), .val (.int p1), .val (.int (4 : Int32)), .val (.int (0 : Int32)), .val (.int (1 : Int32)), .val (.int (2 : Int32)), .val (.int z129), .val .null, .unset, .unset] []))
        refine Go.st (fun _ => XS.iload X130.here hx rfl (hb hby d4_138) rfl) ?_
        show Go p e below _ (T130.setTop (mkF m 140 #[.val (.ref a1), .val (.int p1), .val (.int (4 : Int32)), .val (.int (0 : Int32)), .val (.int (1 : Int32)), .val (.int (2 : Int32)), .val (.int z129), .val .null, .unset, .unset] [(.int (1 : Int32))]))
        refine Go.st (fun _ => XS.ifYes X130.here hx rfl (pc0 := 140) (pc' := 156) rfl (hb hby d4_140) rfl ((if0 _ _).trans (feq (by decide : ¬ ((1 : Int32) = (0 : Int32)))).2) (by decide) (by decide)) ?_
        show Go p e below _ (T130.setTop (mkF m 156 #[.val (.ref a1), .val (.int p1), .val (.int (4 : Int32)), .val (.int (0 : Int32)), .val (.int (1 : Int32)), .val (.int (2 : Int32)), .val (.int z129), .val .null, .unset, .unset] []))
        refine Go.st (fun _ => XS.iloadN X130.here hx rfl (hb hby d4_156) rfl) ?_
        show Go p e below _ (T130.setTop (mkF m 157 #[.val (.ref a1), .val (.int p1), .val (.int (4 : Int32)), .val (.int (0 : Int32)), .val (.int (1 : Int32)), .val (.int (2 : Int32)), .val (.int z129), .val .null, .unset, .unset] [(.int (0 : Int32))]))
        refine Go.st (fun _ => XS.iload X130.here hx rfl (hb hby d4_157) rfl) ?_
        show Go p e below _ (T130.setTop (mkF m 159 #[.val (.ref a1), .val (.int p1), .val (.int (4 : Int32)), .val (.int (0 : Int32)), .val (.int (1 : Int32)), .val (.int (2 : Int32)), .val (.int z129), .val .null, .unset, .unset] [(.int (1 : Int32)), (.int (0 : Int32))]))
        refine Go.st (fun _ => XS.ifNo X130.here hx rfl (hb hby d4_159) rfl ((if0 _ _).trans (feq (by decide : ¬ ((1 : Int32) = (0 : Int32)))).1)) ?_
        show Go p e below _ (T130.setTop (mkF m 162 #[.val (.ref a1), .val (.int p1), .val (.int (4 : Int32)), .val (.int (0 : Int32)), .val (.int (1 : Int32)), .val (.int (2 : Int32)), .val (.int z129), .val .null, .unset, .unset] [(.int (0 : Int32))]))
        refine Go.st (fun _ => XS.iconst X130.here hx rfl (hb hby d4_162)) ?_
        show Go p e below _ (T130.setTop (mkF m 163 #[.val (.ref a1), .val (.int p1), .val (.int (4 : Int32)), .val (.int (0 : Int32)), .val (.int (1 : Int32)), .val (.int (2 : Int32)), .val (.int z129), .val .null, .unset, .unset] [(.int (4 : Int32)), (.int (0 : Int32))]))
        refine Go.st (fun _ => XS.goto X130.here hx rfl (pc0 := 163) (pc' := 167) rfl (hb hby d4_163) (by decide) (by decide)) ?_
        show Go p e below _ (T130.setTop (mkF m 167 #[.val (.ref a1), .val (.int p1), .val (.int (4 : Int32)), .val (.int (0 : Int32)), .val (.int (1 : Int32)), .val (.int (2 : Int32)), .val (.int z129), .val .null, .unset, .unset] [(.int (4 : Int32)), (.int (0 : Int32))]))
        refine Go.st (fun _ => XS.ior X130.here hx rfl (hb hby d4_167) rfl) ?_
        show Go p e below _ (T130.setTop (mkF m 168 #[.val (.ref a1), .val (.int p1), .val (.int (4 : Int32)), .val (.int (0 : Int32)), .val (.int (1 : Int32)), .val (.int (2 : Int32)), .val (.int z129), .val .null, .unset, .unset] [(.int (4 : Int32))]))
        exact goRetI X130 hx hlk hret rfl (hb hby d4_168) (by decide) (by decide) ⟨_, rfl, by decide, N130, K132, ⟨_, _, _, _, ⟨Eb130, Ub130, Fb0_130, Fb1_130, Fb2_130, Fb3_130, Fb4_130, Fb5_130, Fb6_130⟩, Or.inr (Or.inr (Or.inr (Or.inl ⟨rfl, rfl, rfl, hen, ⟨_, rfl⟩⟩)))⟩⟩
      · show Go p e below _ (s₁.setTop (mkF m 25 #[.val (.ref a1), .val (.int p1), .val (.int (4 : Int32)), .val (.int (0 : Int32)), .val (.int (1 : Int32)), .val (.int (2 : Int32)), .unset, .unset, .unset, .unset] [(.int (p1 &&& (4 : Int32)))]))
        by_cases hc134 : (p1 &&& (4 : Int32)) = (0 : Int32)
        · refine Go.st (fun _ => XS.ifYes X0.here hx rfl (pc0 := 25) (pc' := 32) rfl (hb hby d4_25) rfl ((if0 _ _).trans (teq hc134).1) (by decide) (by decide)) ?_
          show Go p e below _ (s₁.setTop (mkF m 32 #[.val (.ref a1), .val (.int p1), .val (.int (4 : Int32)), .val (.int (0 : Int32)), .val (.int (1 : Int32)), .val (.int (2 : Int32)), .unset, .unset, .unset, .unset] []))
          refine Go.st (fun _ => XS.iconst X0.here hx rfl (hb hby d4_32)) ?_
          exact J129 _ trivial
        · refine Go.st (fun _ => XS.ifNo X0.here hx rfl (hb hby d4_25) rfl ((if0 _ _).trans (feq hc134).1)) ?_
          show Go p e below _ (s₁.setTop (mkF m 28 #[.val (.ref a1), .val (.int p1), .val (.int (4 : Int32)), .val (.int (0 : Int32)), .val (.int (1 : Int32)), .val (.int (2 : Int32)), .unset, .unset, .unset, .unset] []))
          refine Go.st (fun _ => XS.iconst X0.here hx rfl (hb hby d4_28)) ?_
          show Go p e below _ (s₁.setTop (mkF m 29 #[.val (.ref a1), .val (.int p1), .val (.int (4 : Int32)), .val (.int (0 : Int32)), .val (.int (1 : Int32)), .val (.int (2 : Int32)), .unset, .unset, .unset, .unset] [(.int (1 : Int32))]))
          refine Go.st (fun _ => XS.goto X0.here hx rfl (pc0 := 29) (pc' := 33) rfl (hb hby d4_29) (by decide) (by decide)) ?_
          exact J129 _ trivial
    · rw [q0]
      show Go p e below _ (s₁.setTop (mkF m 20 #[.val (.ref a1), .val (.int p1), .val (.int (4 : Int32)), .val (.int (0 : Int32)), .val (.int (1 : Int32)), .unset, .unset, .unset, .unset, .unset] [(.int (3 : Int32))]))
      refine Go.st (fun _ => XS.istore X0.here hx rfl (hb hby d4_20) rfl (l' := #[.val (.ref a1), .val (.int p1), .val (.int (4 : Int32)), .val (.int (0 : Int32)), .val (.int (1 : Int32)), .val (.int (3 : Int32)), .unset, .unset, .unset, .unset]) rfl) ?_
      show Go p e below _ (s₁.setTop (mkF m 22 #[.val (.ref a1), .val (.int p1), .val (.int (4 : Int32)), .val (.int (0 : Int32)), .val (.int (1 : Int32)), .val (.int (3 : Int32)), .unset, .unset, .unset, .unset] []))
      refine Go.st (fun _ => XS.iloadN X0.here hx rfl (hb hby d4_22) rfl) ?_
      show Go p e below _ (s₁.setTop (mkF m 23 #[.val (.ref a1), .val (.int p1), .val (.int (4 : Int32)), .val (.int (0 : Int32)), .val (.int (1 : Int32)), .val (.int (3 : Int32)), .unset, .unset, .unset, .unset] [(.int p1)]))
      refine Go.st (fun _ => XS.iconst X0.here hx rfl (hb hby d4_23)) ?_
      show Go p e below _ (s₁.setTop (mkF m 24 #[.val (.ref a1), .val (.int p1), .val (.int (4 : Int32)), .val (.int (0 : Int32)), .val (.int (1 : Int32)), .val (.int (3 : Int32)), .unset, .unset, .unset, .unset] [(.int (4 : Int32)), (.int p1)]))
      refine Go.st (fun _ => XS.iand X0.here hx rfl (hb hby d4_24) rfl) ?_
      show Go p e below _ (s₁.setTop (mkF m 25 #[.val (.ref a1), .val (.int p1), .val (.int (4 : Int32)), .val (.int (0 : Int32)), .val (.int (1 : Int32)), .val (.int (3 : Int32)), .unset, .unset, .unset, .unset] [(.int (p1 &&& (4 : Int32)))]))
      refine goJoin (P := fun z135 : Int32 => True) (F := fun z135 => s₁.setTop (mkF m 33 #[.val (.ref a1), .val (.int p1), .val (.int (4 : Int32)), .val (.int (0 : Int32)), .val (.int (1 : Int32)), .val (.int (3 : Int32)), .unset, .unset, .unset, .unset] [(.int z135)])) (fun z135 hz135 => ?_) (fun J135 => ?_)
      · show Go p e below _ (s₁.setTop (mkF m 33 #[.val (.ref a1), .val (.int p1), .val (.int (4 : Int32)), .val (.int (0 : Int32)), .val (.int (1 : Int32)), .val (.int (3 : Int32)), .unset, .unset, .unset, .unset] [(.int z135)]))
        refine Go.st (fun _ => XS.istore X0.here hx rfl (hb hby d4_33) rfl (l' := #[.val (.ref a1), .val (.int p1), .val (.int (4 : Int32)), .val (.int (0 : Int32)), .val (.int (1 : Int32)), .val (.int (3 : Int32)), .val (.int z135), .unset, .unset, .unset]) rfl) ?_
        show Go p e below _ (s₁.setTop (mkF m 35 #[.val (.ref a1), .val (.int p1), .val (.int (4 : Int32)), .val (.int (0 : Int32)), .val (.int (1 : Int32)), .val (.int (3 : Int32)), .val (.int z135), .unset, .unset, .unset] []))
        refine Go.st (fun _ => XS.iload X0.here hx rfl (hb hby d4_35) rfl) ?_
        show Go p e below _ (s₁.setTop (mkF m 37 #[.val (.ref a1), .val (.int p1), .val (.int (4 : Int32)), .val (.int (0 : Int32)), .val (.int (1 : Int32)), .val (.int (3 : Int32)), .val (.int z135), .unset, .unset, .unset] [(.int (3 : Int32))]))
        refine Go.st (fun _ => XS.ifNo X0.here hx rfl (hb hby d4_37) rfl ((if0 _ _).trans (feq (by decide : ¬ ((3 : Int32) = (0 : Int32)))).1)) ?_
        show Go p e below _ (s₁.setTop (mkF m 40 #[.val (.ref a1), .val (.int p1), .val (.int (4 : Int32)), .val (.int (0 : Int32)), .val (.int (1 : Int32)), .val (.int (3 : Int32)), .val (.int z135), .unset, .unset, .unset] []))
        refine Go.st (fun _ => XS.iload X0.here hx rfl (hb hby d4_40) rfl) ?_
        show Go p e below _ (s₁.setTop (mkF m 42 #[.val (.ref a1), .val (.int p1), .val (.int (4 : Int32)), .val (.int (0 : Int32)), .val (.int (1 : Int32)), .val (.int (3 : Int32)), .val (.int z135), .unset, .unset, .unset] [(.int (3 : Int32))]))
        refine Go.st (fun _ => XS.iconst X0.here hx rfl (hb hby d4_42)) ?_
        show Go p e below _ (s₁.setTop (mkF m 43 #[.val (.ref a1), .val (.int p1), .val (.int (4 : Int32)), .val (.int (0 : Int32)), .val (.int (1 : Int32)), .val (.int (3 : Int32)), .val (.int z135), .unset, .unset, .unset] [(.int (1 : Int32)), (.int (3 : Int32))]))
        refine Go.st (fun _ => XS.icmpYes X0.here hx rfl (pc0 := 43) (pc' := 108) rfl (hb hby d4_43) rfl (feq (by decide : ¬ ((3 : Int32) = (1 : Int32)))).2 (by decide) (by decide)) ?_
        show Go p e below _ (s₁.setTop (mkF m 108 #[.val (.ref a1), .val (.int p1), .val (.int (4 : Int32)), .val (.int (0 : Int32)), .val (.int (1 : Int32)), .val (.int (3 : Int32)), .val (.int z135), .unset, .unset, .unset] []))
        refine Go.st (fun _ => XS.iload X0.here hx rfl (hb hby d4_108) rfl) ?_
        show Go p e below _ (s₁.setTop (mkF m 110 #[.val (.ref a1), .val (.int p1), .val (.int (4 : Int32)), .val (.int (0 : Int32)), .val (.int (1 : Int32)), .val (.int (3 : Int32)), .val (.int z135), .unset, .unset, .unset] [(.int (3 : Int32))]))
        refine Go.st (fun _ => XS.iconst X0.here hx rfl (hb hby d4_110)) ?_
        show Go p e below _ (s₁.setTop (mkF m 111 #[.val (.ref a1), .val (.int p1), .val (.int (4 : Int32)), .val (.int (0 : Int32)), .val (.int (1 : Int32)), .val (.int (3 : Int32)), .val (.int z135), .unset, .unset, .unset] [(.int (3 : Int32)), (.int (3 : Int32))]))
        refine Go.st (fun _ => XS.icmpNo X0.here hx rfl (hb hby d4_111) rfl (teq (by decide : (3 : Int32) = (3 : Int32))).2) ?_
        show Go p e below _ (s₁.setTop (mkF m 114 #[.val (.ref a1), .val (.int p1), .val (.int (4 : Int32)), .val (.int (0 : Int32)), .val (.int (1 : Int32)), .val (.int (3 : Int32)), .val (.int z135), .unset, .unset, .unset] []))
        refine Go.st (fun _ => XS.iloadN X0.here hx rfl (hb hby d4_114) rfl) ?_
        show Go p e below _ (s₁.setTop (mkF m 115 #[.val (.ref a1), .val (.int p1), .val (.int (4 : Int32)), .val (.int (0 : Int32)), .val (.int (1 : Int32)), .val (.int (3 : Int32)), .val (.int z135), .unset, .unset, .unset] [(.int p1)]))
        refine goCallS X0 hx hZ (y := (⟨"java/lang/Integer", "valueOf", "(I)Ljava/lang/Integer;"⟩ : MethodName)) hown (hw _ (List.mem_of_getElem? (i := 31) rfl)) (hw _ (List.mem_of_getElem? (i := 32) rfl)) (hw _ (List.mem_of_getElem? (i := 33) rfl)) (hw _ (List.mem_of_getElem? (i := 34) rfl)) (by decide) (argsL := [(.int p1)]) (rest := []) e0 (rmBox l Z a0 hw [] p1 wc cl h0 n0 O0 S_cache S_high BX) 0 (by decide) (by decide) (by decide) (by decide) (mkF m 115 #[.val (.ref a1), .val (.int p1), .val (.int (4 : Int32)), .val (.int (0 : Int32)), .val (.int (1 : Int32)), .val (.int (3 : Int32)), .val (.int z135), .unset, .unset, .unset] [(.int p1)]) rfl (by rw [hml]; rfl) (lenOf pd_5 rfl) rfl (hb hby d4_115) (Nat.le_of_eq rfl) ?_
        intro v136 T136 L136 X136 hQ136
        obtain ⟨⟨r136, rfl, Er136, Gr136⟩, M136, K136⟩ := hQ136
        have N136 := Fr.app N0 M136
        have O137 : Old Z n0 T136.heap := O0.keep K136 all0
        have K138 : Keep h0 T136.heap [a1] := (Keep.refl h0 [a1]).trans K136 all0
        have E_139 : Exa Z T136.heap a1 "com/example/sidelane/sidelane/Cancellation" := Eb.keep K136
        have Y140 : Unt T136.heap a1 := untKeep Ub K136 nin0
        have F141 : Fld Z T136.heap a1 "com/example/sidelane/sidelane/Cancellation" "claimedBy" "Lcom/example/sidelane/sidelane/Cancellation$Claimant;" .null := Fb0.keep K136 nin0
        have F142 : Fld Z T136.heap a1 "com/example/sidelane/sidelane/Cancellation" "cancelled" "Z" (.int (1 : Int32)) := Fb1.keep K136 nin0
        have F143 : Fld Z T136.heap a1 "com/example/sidelane/sidelane/Cancellation" "endingBegun" "Z" (.int (0 : Int32)) := Fb2.keep K136 nin0
        have F144 : Fld Z T136.heap a1 "com/example/sidelane/sidelane/Cancellation" "queued" "Z" (.int (0 : Int32)) := Fb3.keep K136 nin0
        have F145 : Fld Z T136.heap a1 "com/example/sidelane/sidelane/Cancellation" "runner" "Ljava/lang/Thread;" .null := Fb4.keep K136 nin0
        have F146 : Fld Z T136.heap a1 "com/example/sidelane/sidelane/Cancellation" "cancelEnding" "Ljava/lang/Object;" en := Fb5.keep K136 nin0
        have F147 : Fld Z T136.heap a1 "com/example/sidelane/sidelane/Cancellation" "cancelOutcome" "Lcom/example/sidelane/sidelane/Cancellation$Outcome;" (.ref a6) := Fb6.keep K136 nin0
        show Go p e below _ (T136.setTop (mkF m 118 #[.val (.ref a1), .val (.int p1), .val (.int (4 : Int32)), .val (.int (0 : Int32)), .val (.int (1 : Int32)), .val (.int (3 : Int32)), .val (.int z135), .unset, .unset, .unset] [(.ref r136)]))
        refine Go.st (fun _ => XS.goto X136.here hx rfl (pc0 := 118) (pc' := 122) rfl (hb hby d4_118) (by decide) (by decide)) ?_
        show Go p e below _ (T136.setTop (mkF m 122 #[.val (.ref a1), .val (.int p1), .val (.int (4 : Int32)), .val (.int (0 : Int32)), .val (.int (1 : Int32)), .val (.int (3 : Int32)), .val (.int z135), .unset, .unset, .unset] [(.ref r136)]))
        refine Go.st (fun _ => XS.astore X136.here hx rfl (hb hby d4_122) rfl rfl (l' := #[.val (.ref a1), .val (.int p1), .val (.int (4 : Int32)), .val (.int (0 : Int32)), .val (.int (1 : Int32)), .val (.int (3 : Int32)), .val (.int z135), .val (.ref r136), .unset, .unset]) rfl) ?_
        show Go p e below _ (T136.setTop (mkF m 124 #[.val (.ref a1), .val (.int p1), .val (.int (4 : Int32)), .val (.int (0 : Int32)), .val (.int (1 : Int32)), .val (.int (3 : Int32)), .val (.int z135), .val (.ref r136), .unset, .unset] []))
        refine Go.st (fun _ => XS.aloadN X136.here hx rfl (hb hby d4_124) rfl rfl) ?_
        show Go p e below _ (T136.setTop (mkF m 125 #[.val (.ref a1), .val (.int p1), .val (.int (4 : Int32)), .val (.int (0 : Int32)), .val (.int (1 : Int32)), .val (.int (3 : Int32)), .val (.int z135), .val (.ref r136), .unset, .unset] [(.ref a1)]))
        refine Go.st (fun _ => XS.iload X136.here hx rfl (hb hby d4_125) rfl) ?_
        show Go p e below _ (T136.setTop (mkF m 127 #[.val (.ref a1), .val (.int p1), .val (.int (4 : Int32)), .val (.int (0 : Int32)), .val (.int (1 : Int32)), .val (.int (3 : Int32)), .val (.int z135), .val (.ref r136), .unset, .unset] [(.int z135), (.ref a1)]))
        refine Go.st (fun _ => XS.aload X136.here hx rfl (hb hby d4_127) rfl rfl) ?_
        show Go p e below _ (T136.setTop (mkF m 129 #[.val (.ref a1), .val (.int p1), .val (.int (4 : Int32)), .val (.int (0 : Int32)), .val (.int (1 : Int32)), .val (.int (3 : Int32)), .val (.int z135), .val (.ref r136), .unset, .unset] [(.ref r136), (.int z135), (.ref a1)]))
        rcases hen with rfl | ⟨a4, rfl⟩
        · show Go p e below _ (T136.setTop (mkF m 129 #[.val (.ref a1), .val (.int p1), .val (.int (4 : Int32)), .val (.int (0 : Int32)), .val (.int (1 : Int32)), .val (.int (3 : Int32)), .val (.int z135), .val (.ref r136), .unset, .unset] [(.ref r136), (.int z135), (.ref a1)]))
          refine goVirtS X136 hx hZ (y := (⟨"com/example/sidelane/sidelane/Cancellation", "cancel", "(ZLjava/lang/Object;)Lcom/example/sidelane/sidelane/Cancellation$Outcome;"⟩ : MethodName)) (z := (⟨"com/example/sidelane/sidelane/Cancellation", "cancel", "(ZLjava/lang/Object;)Lcom/example/sidelane/sidelane/Cancellation$Outcome;"⟩ : MethodName)) hown (hw _ (List.mem_of_getElem? (i := 38) rfl)) (hw _ (List.mem_of_getElem? (i := 39) rfl)) (notFace_of_selects (args := #[]) (mvT hZ (hw _ (List.mem_of_getElem? (i := 41) rfl)))) (hw _ (List.mem_of_getElem? (i := 41) rfl)) (hw _ (List.mem_of_getElem? (i := 40) rfl)) (hw _ (List.mem_of_getElem? (i := 2) rfl)) (hw _ (List.mem_of_getElem? (i := 42) rfl)) (by decide) (a := a1) (argsL := [(.int z135), (.ref r136)]) (rest := []) rfl E_139 (caC0 l Z a0 hw a1 z135 r136 (.ref a6) w_EXECUTE w_ADOPTER w_CANCELLED w_REFUSED w_HANDED_OVER w_CANCELLED_UNEXECUTED w_ENDING_NEEDED T136.heap n0 O137 Y140 g1 E_139 F141 F142 F143 F144 F145 F146 F147 S_w_EXECUTE S_w_ADOPTER S_w_CANCELLED S_w_REFUSED S_w_HANDED_OVER S_w_CANCELLED_UNEXECUTED S_w_ENDING_NEEDED ne_w_EXECUTE_w_ADOPTER) 0 (by decide) (by decide) (by decide) (by decide) (mkF m 129 #[.val (.ref a1), .val (.int p1), .val (.int (4 : Int32)), .val (.int (0 : Int32)), .val (.int (1 : Int32)), .val (.int (3 : Int32)), .val (.int z135), .val (.ref r136), .unset, .unset] [(.ref r136), (.int z135), (.ref a1)]) rfl (by rw [hml]; rfl) (lenOf pd_4 rfl) rfl (hb hby d4_129) (Nat.le_of_eq rfl) ?_
          intro v148 T148 L148 X148 hQ148
          obtain ⟨⟨r148, rfl⟩, M148, K148, ⟨Eb148, Ub148, Fb0_148, Fb1_148, Fb2_148, Fb3_148, Fb4_148, Fb5_148, Fb6_148⟩⟩ := hQ148
          have N148 := Fr.app N136 M148
          have O149 : Old Z n0 T148.heap := O137.keep K148 (allS g1 all0)
          have K150 : Keep h0 T148.heap [a1] := K138.trans K148 (allS (Or.inl (List.mem_of_getElem? (i := 0) rfl)) all0)
          have E_151 : Exa Z T148.heap a1 "com/example/sidelane/sidelane/Cancellation" := E_139.keep K148
          show Go p e below _ (T148.setTop (mkF m 132 #[.val (.ref a1), .val (.int p1), .val (.int (4 : Int32)), .val (.int (0 : Int32)), .val (.int (1 : Int32)), .val (.int (3 : Int32)), .val (.int z135), .val (.ref r136), .unset, .unset] [(.ref r148)]))
          refine Go.st (fun _ => XS.pop X148.here hx rfl (hb hby d4_132) rfl rfl) ?_
          show Go p e below _ (T148.setTop (mkF m 133 #[.val (.ref a1), .val (.int p1), .val (.int (4 : Int32)), .val (.int (0 : Int32)), .val (.int (1 : Int32)), .val (.int (3 : Int32)), .val (.int z135), .val (.ref r136), .unset, .unset] []))
          refine Go.st (fun _ => XS.iloadN X148.here hx rfl (hb hby d4_133) rfl) ?_
          show Go p e below _ (T148.setTop (mkF m 134 #[.val (.ref a1), .val (.int p1), .val (.int (4 : Int32)), .val (.int (0 : Int32)), .val (.int (1 : Int32)), .val (.int (3 : Int32)), .val (.int z135), .val (.ref r136), .unset, .unset] [(.int (0 : Int32))]))
          refine Go.st (fun _ => XS.iconst X148.here hx rfl (hb hby d4_134)) ?_
          show Go p e below _ (T148.setTop (mkF m 135 #[.val (.ref a1), .val (.int p1), .val (.int (4 : Int32)), .val (.int (0 : Int32)), .val (.int (1 : Int32)), .val (.int (3 : Int32)), .val (.int z135), .val (.ref r136), .unset, .unset] [(.int (2 : Int32)), (.int (0 : Int32))]))
          refine Go.st (fun _ => XS.icmpNo X148.here hx rfl (hb hby d4_135) rfl (feq (by decide : ¬ ((0 : Int32) = (2 : Int32)))).1) ?_
          show Go p e below _ (T148.setTop (mkF m 138 #[.val (.ref a1), .val (.int p1), .val (.int (4 : Int32)), .val (.int (0 : Int32)), .val (.int (1 : Int32)), .val (.int (3 : Int32)), .val (.int z135), .val (.ref r136), .unset, .unset] []))
          refine Go.st (fun _ => XS.iload X148.here hx rfl (hb hby d4_138) rfl) ?_
          show Go p e below _ (T148.setTop (mkF m 140 #[.val (.ref a1), .val (.int p1), .val (.int (4 : Int32)), .val (.int (0 : Int32)), .val (.int (1 : Int32)), .val (.int (3 : Int32)), .val (.int z135), .val (.ref r136), .unset, .unset] [(.int (1 : Int32))]))
          refine Go.st (fun _ => XS.ifYes X148.here hx rfl (pc0 := 140) (pc' := 156) rfl (hb hby d4_140) rfl ((if0 _ _).trans (feq (by decide : ¬ ((1 : Int32) = (0 : Int32)))).2) (by decide) (by decide)) ?_
          show Go p e below _ (T148.setTop (mkF m 156 #[.val (.ref a1), .val (.int p1), .val (.int (4 : Int32)), .val (.int (0 : Int32)), .val (.int (1 : Int32)), .val (.int (3 : Int32)), .val (.int z135), .val (.ref r136), .unset, .unset] []))
          refine Go.st (fun _ => XS.iloadN X148.here hx rfl (hb hby d4_156) rfl) ?_
          show Go p e below _ (T148.setTop (mkF m 157 #[.val (.ref a1), .val (.int p1), .val (.int (4 : Int32)), .val (.int (0 : Int32)), .val (.int (1 : Int32)), .val (.int (3 : Int32)), .val (.int z135), .val (.ref r136), .unset, .unset] [(.int (0 : Int32))]))
          refine Go.st (fun _ => XS.iload X148.here hx rfl (hb hby d4_157) rfl) ?_
          show Go p e below _ (T148.setTop (mkF m 159 #[.val (.ref a1), .val (.int p1), .val (.int (4 : Int32)), .val (.int (0 : Int32)), .val (.int (1 : Int32)), .val (.int (3 : Int32)), .val (.int z135), .val (.ref r136), .unset, .unset] [(.int (1 : Int32)), (.int (0 : Int32))]))
          refine Go.st (fun _ => XS.ifNo X148.here hx rfl (hb hby d4_159) rfl ((if0 _ _).trans (feq (by decide : ¬ ((1 : Int32) = (0 : Int32)))).1)) ?_
          show Go p e below _ (T148.setTop (mkF m 162 #[.val (.ref a1), .val (.int p1), .val (.int (4 : Int32)), .val (.int (0 : Int32)), .val (.int (1 : Int32)), .val (.int (3 : Int32)), .val (.int z135), .val (.ref r136), .unset, .unset] [(.int (0 : Int32))]))
          refine Go.st (fun _ => XS.iconst X148.here hx rfl (hb hby d4_162)) ?_
          show Go p e below _ (T148.setTop (mkF m 163 #[.val (.ref a1), .val (.int p1), .val (.int (4 : Int32)), .val (.int (0 : Int32)), .val (.int (1 : Int32)), .val (.int (3 : Int32)), .val (.int z135), .val (.ref r136), .unset, .unset] [(.int (4 : Int32)), (.int (0 : Int32))]))
          refine Go.st (fun _ => XS.goto X148.here hx rfl (pc0 := 163) (pc' := 167) rfl (hb hby d4_163) (by decide) (by decide)) ?_
          show Go p e below _ (T148.setTop (mkF m 167 #[.val (.ref a1), .val (.int p1), .val (.int (4 : Int32)), .val (.int (0 : Int32)), .val (.int (1 : Int32)), .val (.int (3 : Int32)), .val (.int z135), .val (.ref r136), .unset, .unset] [(.int (4 : Int32)), (.int (0 : Int32))]))
          refine Go.st (fun _ => XS.ior X148.here hx rfl (hb hby d4_167) rfl) ?_
          show Go p e below _ (T148.setTop (mkF m 168 #[.val (.ref a1), .val (.int p1), .val (.int (4 : Int32)), .val (.int (0 : Int32)), .val (.int (1 : Int32)), .val (.int (3 : Int32)), .val (.int z135), .val (.ref r136), .unset, .unset] [(.int (4 : Int32))]))
          exact goRetI X148 hx hlk hret rfl (hb hby d4_168) (by decide) (by decide) ⟨_, rfl, by decide, N148, K150, ⟨_, _, _, _, ⟨Eb148, Ub148, Fb0_148, Fb1_148, Fb2_148, Fb3_148, Fb4_148, Fb5_148, Fb6_148⟩, Or.inr (Or.inr (Or.inr (Or.inl ⟨rfl, rfl, rfl, (Or.inl rfl), ⟨_, rfl⟩⟩)))⟩⟩
        · show Go p e below _ (T136.setTop (mkF m 129 #[.val (.ref a1), .val (.int p1), .val (.int (4 : Int32)), .val (.int (0 : Int32)), .val (.int (1 : Int32)), .val (.int (3 : Int32)), .val (.int z135), .val (.ref r136), .unset, .unset] [(.ref r136), (.int z135), (.ref a1)]))
          refine goVirtS X136 hx hZ (y := (⟨"com/example/sidelane/sidelane/Cancellation", "cancel", "(ZLjava/lang/Object;)Lcom/example/sidelane/sidelane/Cancellation$Outcome;"⟩ : MethodName)) (z := (⟨"com/example/sidelane/sidelane/Cancellation", "cancel", "(ZLjava/lang/Object;)Lcom/example/sidelane/sidelane/Cancellation$Outcome;"⟩ : MethodName)) hown (hw _ (List.mem_of_getElem? (i := 38) rfl)) (hw _ (List.mem_of_getElem? (i := 39) rfl)) (notFace_of_selects (args := #[]) (mvT hZ (hw _ (List.mem_of_getElem? (i := 41) rfl)))) (hw _ (List.mem_of_getElem? (i := 41) rfl)) (hw _ (List.mem_of_getElem? (i := 40) rfl)) (hw _ (List.mem_of_getElem? (i := 2) rfl)) (hw _ (List.mem_of_getElem? (i := 42) rfl)) (by decide) (a := a1) (argsL := [(.int z135), (.ref r136)]) (rest := []) rfl E_139 (caD0 l Z a0 hw a1 z135 r136 a4 a6  w_EXECUTE w_ADOPTER w_CANCELLED w_REFUSED w_HANDED_OVER w_CANCELLED_UNEXECUTED w_ENDING_NEEDED T136.heap n0 O137 Y140 g1 E_139 F141 F142 F143 F144 F145 F146 F147 S_w_EXECUTE S_w_ADOPTER S_w_CANCELLED S_w_REFUSED S_w_HANDED_OVER S_w_CANCELLED_UNEXECUTED S_w_ENDING_NEEDED ne_w_EXECUTE_w_ADOPTER) 0 (by decide) (by decide) (by decide) (by decide) (mkF m 129 #[.val (.ref a1), .val (.int p1), .val (.int (4 : Int32)), .val (.int (0 : Int32)), .val (.int (1 : Int32)), .val (.int (3 : Int32)), .val (.int z135), .val (.ref r136), .unset, .unset] [(.ref r136), (.int z135), (.ref a1)]) rfl (by rw [hml]; rfl) (lenOf pd_4 rfl) rfl (hb hby d4_129) (Nat.le_of_eq rfl) ?_
          intro v152 T152 L152 X152 hQ152
          obtain ⟨⟨r152, rfl⟩, M152, K152, ⟨Eb152, Ub152, Fb0_152, Fb1_152, Fb2_152, Fb3_152, Fb4_152, Fb5_152, Fb6_152⟩⟩ := hQ152
          have N152 := Fr.app N136 M152
          have O153 : Old Z n0 T152.heap := O137.keep K152 (allS g1 all0)
          have K154 : Keep h0 T152.heap [a1] := K138.trans K152 (allS (Or.inl (List.mem_of_getElem? (i := 0) rfl)) all0)
          have E_155 : Exa Z T152.heap a1 "com/example/sidelane/sidelane/Cancellation" := E_139.keep K152
          show Go p e below _ (T152.setTop (mkF m 132 #[.val (.ref a1), .val (.int p1), .val (.int (4 : Int32)), .val (.int (0 : Int32)), .val (.int (1 : Int32)), .val (.int (3 : Int32)), .val (.int z135), .val (.ref r136), .unset, .unset] [(.ref r152)]))
          refine Go.st (fun _ => XS.pop X152.here hx rfl (hb hby d4_132) rfl rfl) ?_
          show Go p e below _ (T152.setTop (mkF m 133 #[.val (.ref a1), .val (.int p1), .val (.int (4 : Int32)), .val (.int (0 : Int32)), .val (.int (1 : Int32)), .val (.int (3 : Int32)), .val (.int z135), .val (.ref r136), .unset, .unset] []))
          refine Go.st (fun _ => XS.iloadN X152.here hx rfl (hb hby d4_133) rfl) ?_
          show Go p e below _ (T152.setTop (mkF m 134 #[.val (.ref a1), .val (.int p1), .val (.int (4 : Int32)), .val (.int (0 : Int32)), .val (.int (1 : Int32)), .val (.int (3 : Int32)), .val (.int z135), .val (.ref r136), .unset, .unset] [(.int (0 : Int32))]))
          refine Go.st (fun _ => XS.iconst X152.here hx rfl (hb hby d4_134)) ?_
          show Go p e below _ (T152.setTop (mkF m 135 #[.val (.ref a1), .val (.int p1), .val (.int (4 : Int32)), .val (.int (0 : Int32)), .val (.int (1 : Int32)), .val (.int (3 : Int32)), .val (.int z135), .val (.ref r136), .unset, .unset] [(.int (2 : Int32)), (.int (0 : Int32))]))
          refine Go.st (fun _ => XS.icmpNo X152.here hx rfl (hb hby d4_135) rfl (feq (by decide : ¬ ((0 : Int32) = (2 : Int32)))).1) ?_
          show Go p e below _ (T152.setTop (mkF m 138 #[.val (.ref a1), .val (.int p1), .val (.int (4 : Int32)), .val (.int (0 : Int32)), .val (.int (1 : Int32)), .val (.int (3 : Int32)), .val (.int z135), .val (.ref r136), .unset, .unset] []))
          refine Go.st (fun _ => XS.iload X152.here hx rfl (hb hby d4_138) rfl) ?_
          show Go p e below _ (T152.setTop (mkF m 140 #[.val (.ref a1), .val (.int p1), .val (.int (4 : Int32)), .val (.int (0 : Int32)), .val (.int (1 : Int32)), .val (.int (3 : Int32)), .val (.int z135), .val (.ref r136), .unset, .unset] [(.int (1 : Int32))]))
          refine Go.st (fun _ => XS.ifYes X152.here hx rfl (pc0 := 140) (pc' := 156) rfl (hb hby d4_140) rfl ((if0 _ _).trans (feq (by decide : ¬ ((1 : Int32) = (0 : Int32)))).2) (by decide) (by decide)) ?_
          show Go p e below _ (T152.setTop (mkF m 156 #[.val (.ref a1), .val (.int p1), .val (.int (4 : Int32)), .val (.int (0 : Int32)), .val (.int (1 : Int32)), .val (.int (3 : Int32)), .val (.int z135), .val (.ref r136), .unset, .unset] []))
          refine Go.st (fun _ => XS.iloadN X152.here hx rfl (hb hby d4_156) rfl) ?_
          show Go p e below _ (T152.setTop (mkF m 157 #[.val (.ref a1), .val (.int p1), .val (.int (4 : Int32)), .val (.int (0 : Int32)), .val (.int (1 : Int32)), .val (.int (3 : Int32)), .val (.int z135), .val (.ref r136), .unset, .unset] [(.int (0 : Int32))]))
          refine Go.st (fun _ => XS.iload X152.here hx rfl (hb hby d4_157) rfl) ?_
          show Go p e below _ (T152.setTop (mkF m 159 #[.val (.ref a1), .val (.int p1), .val (.int (4 : Int32)), .val (.int (0 : Int32)), .val (.int (1 : Int32)), .val (.int (3 : Int32)), .val (.int z135), .val (.ref r136), .unset, .unset] [(.int (1 : Int32)), (.int (0 : Int32))]))
          refine Go.st (fun _ => XS.ifNo X152.here hx rfl (hb hby d4_159) rfl ((if0 _ _).trans (feq (by decide : ¬ ((1 : Int32) = (0 : Int32)))).1)) ?_
          show Go p e below _ (T152.setTop (mkF m 162 #[.val (.ref a1), .val (.int p1), .val (.int (4 : Int32)), .val (.int (0 : Int32)), .val (.int (1 : Int32)), .val (.int (3 : Int32)), .val (.int z135), .val (.ref r136), .unset, .unset] [(.int (0 : Int32))]))
          refine Go.st (fun _ => XS.iconst X152.here hx rfl (hb hby d4_162)) ?_
          show Go p e below _ (T152.setTop (mkF m 163 #[.val (.ref a1), .val (.int p1), .val (.int (4 : Int32)), .val (.int (0 : Int32)), .val (.int (1 : Int32)), .val (.int (3 : Int32)), .val (.int z135), .val (.ref r136), .unset, .unset] [(.int (4 : Int32)), (.int (0 : Int32))]))
          refine Go.st (fun _ => XS.goto X152.here hx rfl (pc0 := 163) (pc' := 167) rfl (hb hby d4_163) (by decide) (by decide)) ?_
          show Go p e below _ (T152.setTop (mkF m 167 #[.val (.ref a1), .val (.int p1), .val (.int (4 : Int32)), .val (.int (0 : Int32)), .val (.int (1 : Int32)), .val (.int (3 : Int32)), .val (.int z135), .val (.ref r136), .unset, .unset] [(.int (4 : Int32)), (.int (0 : Int32))]))
          refine Go.st (fun _ => XS.ior X152.here hx rfl (hb hby d4_167) rfl) ?_
          show Go p e below _ (T152.setTop (mkF m 168 #[.val (.ref a1), .val (.int p1), .val (.int (4 : Int32)), .val (.int (0 : Int32)), .val (.int (1 : Int32)), .val (.int (3 : Int32)), .val (.int z135), .val (.ref r136), .unset, .unset] [(.int (4 : Int32))]))
          exact goRetI X152 hx hlk hret rfl (hb hby d4_168) (by decide) (by decide) ⟨_, rfl, by decide, N152, K154, ⟨_, _, _, _, ⟨Eb152, Ub152, Fb0_152, Fb1_152, Fb2_152, Fb3_152, Fb4_152, Fb5_152, Fb6_152⟩, Or.inr (Or.inr (Or.inr (Or.inl ⟨rfl, rfl, rfl, (Or.inr ⟨_, rfl⟩), ⟨_, rfl⟩⟩)))⟩⟩
      · show Go p e below _ (s₁.setTop (mkF m 25 #[.val (.ref a1), .val (.int p1), .val (.int (4 : Int32)), .val (.int (0 : Int32)), .val (.int (1 : Int32)), .val (.int (3 : Int32)), .unset, .unset, .unset, .unset] [(.int (p1 &&& (4 : Int32)))]))
        by_cases hc156 : (p1 &&& (4 : Int32)) = (0 : Int32)
        · refine Go.st (fun _ => XS.ifYes X0.here hx rfl (pc0 := 25) (pc' := 32) rfl (hb hby d4_25) rfl ((if0 _ _).trans (teq hc156).1) (by decide) (by decide)) ?_
          show Go p e below _ (s₁.setTop (mkF m 32 #[.val (.ref a1), .val (.int p1), .val (.int (4 : Int32)), .val (.int (0 : Int32)), .val (.int (1 : Int32)), .val (.int (3 : Int32)), .unset, .unset, .unset, .unset] []))
          refine Go.st (fun _ => XS.iconst X0.here hx rfl (hb hby d4_32)) ?_
          exact J135 _ trivial
        · refine Go.st (fun _ => XS.ifNo X0.here hx rfl (hb hby d4_25) rfl ((if0 _ _).trans (feq hc156).1)) ?_
          show Go p e below _ (s₁.setTop (mkF m 28 #[.val (.ref a1), .val (.int p1), .val (.int (4 : Int32)), .val (.int (0 : Int32)), .val (.int (1 : Int32)), .val (.int (3 : Int32)), .unset, .unset, .unset, .unset] []))
          refine Go.st (fun _ => XS.iconst X0.here hx rfl (hb hby d4_28)) ?_
          show Go p e below _ (s₁.setTop (mkF m 29 #[.val (.ref a1), .val (.int p1), .val (.int (4 : Int32)), .val (.int (0 : Int32)), .val (.int (1 : Int32)), .val (.int (3 : Int32)), .unset, .unset, .unset, .unset] [(.int (1 : Int32))]))
          refine Go.st (fun _ => XS.goto X0.here hx rfl (pc0 := 29) (pc' := 33) rfl (hb hby d4_29) (by decide) (by decide)) ?_
          exact J135 _ trivial
  · show Go p e below _ (s₁.setTop (mkF m 0 #[.val (.ref a1), .val (.int p1), .val (.int (5 : Int32)), .unset, .unset, .unset, .unset, .unset, .unset, .unset] []))
    refine Go.st (fun _ => XS.iloadN X0.here hx rfl (hb hby d4_0) rfl) ?_
    show Go p e below _ (s₁.setTop (mkF m 1 #[.val (.ref a1), .val (.int p1), .val (.int (5 : Int32)), .unset, .unset, .unset, .unset, .unset, .unset, .unset] [(.int (5 : Int32))]))
    refine Go.st (fun _ => XS.iconst X0.here hx rfl (hb hby d4_1)) ?_
    show Go p e below _ (s₁.setTop (mkF m 2 #[.val (.ref a1), .val (.int p1), .val (.int (5 : Int32)), .unset, .unset, .unset, .unset, .unset, .unset, .unset] [(.int (3 : Int32)), (.int (5 : Int32))]))
    refine Go.st (fun _ => XS.iand X0.here hx rfl (hb hby d4_2) rfl) ?_
    show Go p e below _ (s₁.setTop (mkF m 3 #[.val (.ref a1), .val (.int p1), .val (.int (5 : Int32)), .unset, .unset, .unset, .unset, .unset, .unset, .unset] [(.int (1 : Int32))]))
    refine Go.st (fun _ => XS.istoreN X0.here hx rfl (hb hby d4_3) rfl (l' := #[.val (.ref a1), .val (.int p1), .val (.int (5 : Int32)), .val (.int (1 : Int32)), .unset, .unset, .unset, .unset, .unset, .unset]) rfl) ?_
    show Go p e below _ (s₁.setTop (mkF m 4 #[.val (.ref a1), .val (.int p1), .val (.int (5 : Int32)), .val (.int (1 : Int32)), .unset, .unset, .unset, .unset, .unset, .unset] []))
    refine Go.st (fun _ => XS.iloadN X0.here hx rfl (hb hby d4_4) rfl) ?_
    show Go p e below _ (s₁.setTop (mkF m 5 #[.val (.ref a1), .val (.int p1), .val (.int (5 : Int32)), .val (.int (1 : Int32)), .unset, .unset, .unset, .unset, .unset, .unset] [(.int (5 : Int32))]))
    refine Go.st (fun _ => XS.iconst X0.here hx rfl (hb hby d4_5)) ?_
    show Go p e below _ (s₁.setTop (mkF m 6 #[.val (.ref a1), .val (.int p1), .val (.int (5 : Int32)), .val (.int (1 : Int32)), .unset, .unset, .unset, .unset, .unset, .unset] [(.int (4 : Int32)), (.int (5 : Int32))]))
    refine Go.st (fun _ => XS.iand X0.here hx rfl (hb hby d4_6) rfl) ?_
    show Go p e below _ (s₁.setTop (mkF m 7 #[.val (.ref a1), .val (.int p1), .val (.int (5 : Int32)), .val (.int (1 : Int32)), .unset, .unset, .unset, .unset, .unset, .unset] [(.int (4 : Int32))]))
    refine Go.st (fun _ => XS.ifNo X0.here hx rfl (hb hby d4_7) rfl ((if0 _ _).trans (feq (by decide : ¬ ((4 : Int32) = (0 : Int32)))).1)) ?_
    show Go p e below _ (s₁.setTop (mkF m 10 #[.val (.ref a1), .val (.int p1), .val (.int (5 : Int32)), .val (.int (1 : Int32)), .unset, .unset, .unset, .unset, .unset, .unset] []))
    refine Go.st (fun _ => XS.iconst X0.here hx rfl (hb hby d4_10)) ?_
    show Go p e below _ (s₁.setTop (mkF m 11 #[.val (.ref a1), .val (.int p1), .val (.int (5 : Int32)), .val (.int (1 : Int32)), .unset, .unset, .unset, .unset, .unset, .unset] [(.int (1 : Int32))]))
    refine Go.st (fun _ => XS.goto X0.here hx rfl (pc0 := 11) (pc' := 15) rfl (hb hby d4_11) (by decide) (by decide)) ?_
    show Go p e below _ (s₁.setTop (mkF m 15 #[.val (.ref a1), .val (.int p1), .val (.int (5 : Int32)), .val (.int (1 : Int32)), .unset, .unset, .unset, .unset, .unset, .unset] [(.int (1 : Int32))]))
    refine Go.st (fun _ => XS.istore X0.here hx rfl (hb hby d4_15) rfl (l' := #[.val (.ref a1), .val (.int p1), .val (.int (5 : Int32)), .val (.int (1 : Int32)), .val (.int (1 : Int32)), .unset, .unset, .unset, .unset, .unset]) rfl) ?_
    show Go p e below _ (s₁.setTop (mkF m 17 #[.val (.ref a1), .val (.int p1), .val (.int (5 : Int32)), .val (.int (1 : Int32)), .val (.int (1 : Int32)), .unset, .unset, .unset, .unset, .unset] []))
    refine Go.st (fun _ => XS.iloadN X0.here hx rfl (hb hby d4_17) rfl) ?_
    show Go p e below _ (s₁.setTop (mkF m 18 #[.val (.ref a1), .val (.int p1), .val (.int (5 : Int32)), .val (.int (1 : Int32)), .val (.int (1 : Int32)), .unset, .unset, .unset, .unset, .unset] [(.int p1)]))
    refine Go.st (fun _ => XS.iconst X0.here hx rfl (hb hby d4_18)) ?_
    show Go p e below _ (s₁.setTop (mkF m 19 #[.val (.ref a1), .val (.int p1), .val (.int (5 : Int32)), .val (.int (1 : Int32)), .val (.int (1 : Int32)), .unset, .unset, .unset, .unset, .unset] [(.int (3 : Int32)), (.int p1)]))
    refine Go.st (fun _ => XS.iand X0.here hx rfl (hb hby d4_19) rfl) ?_
    show Go p e below _ (s₁.setTop (mkF m 20 #[.val (.ref a1), .val (.int p1), .val (.int (5 : Int32)), .val (.int (1 : Int32)), .val (.int (1 : Int32)), .unset, .unset, .unset, .unset, .unset] [(.int (p1 &&& (3 : Int32)))]))
    rcases own_and3 p1 with q0 | q0 | q0 | q0
    · rw [q0]
      show Go p e below _ (s₁.setTop (mkF m 20 #[.val (.ref a1), .val (.int p1), .val (.int (5 : Int32)), .val (.int (1 : Int32)), .val (.int (1 : Int32)), .unset, .unset, .unset, .unset, .unset] [(.int (0 : Int32))]))
      refine Go.st (fun _ => XS.istore X0.here hx rfl (hb hby d4_20) rfl (l' := #[.val (.ref a1), .val (.int p1), .val (.int (5 : Int32)), .val (.int (1 : Int32)), .val (.int (1 : Int32)), .val (.int (0 : Int32)), .unset, .unset, .unset, .unset]) rfl) ?_
      show Go p e below _ (s₁.setTop (mkF m 22 #[.val (.ref a1), .val (.int p1), .val (.int (5 : Int32)), .val (.int (1 : Int32)), .val (.int (1 : Int32)), .val (.int (0 : Int32)), .unset, .unset, .unset, .unset] []))
      refine Go.st (fun _ => XS.iloadN X0.here hx rfl (hb hby d4_22) rfl) ?_
      show Go p e below _ (s₁.setTop (mkF m 23 #[.val (.ref a1), .val (.int p1), .val (.int (5 : Int32)), .val (.int (1 : Int32)), .val (.int (1 : Int32)), .val (.int (0 : Int32)), .unset, .unset, .unset, .unset] [(.int p1)]))
      refine Go.st (fun _ => XS.iconst X0.here hx rfl (hb hby d4_23)) ?_
      show Go p e below _ (s₁.setTop (mkF m 24 #[.val (.ref a1), .val (.int p1), .val (.int (5 : Int32)), .val (.int (1 : Int32)), .val (.int (1 : Int32)), .val (.int (0 : Int32)), .unset, .unset, .unset, .unset] [(.int (4 : Int32)), (.int p1)]))
      refine Go.st (fun _ => XS.iand X0.here hx rfl (hb hby d4_24) rfl) ?_
      show Go p e below _ (s₁.setTop (mkF m 25 #[.val (.ref a1), .val (.int p1), .val (.int (5 : Int32)), .val (.int (1 : Int32)), .val (.int (1 : Int32)), .val (.int (0 : Int32)), .unset, .unset, .unset, .unset] [(.int (p1 &&& (4 : Int32)))]))
      refine goJoin (P := fun z157 : Int32 => True) (F := fun z157 => s₁.setTop (mkF m 33 #[.val (.ref a1), .val (.int p1), .val (.int (5 : Int32)), .val (.int (1 : Int32)), .val (.int (1 : Int32)), .val (.int (0 : Int32)), .unset, .unset, .unset, .unset] [(.int z157)])) (fun z157 hz157 => ?_) (fun J157 => ?_)
      · show Go p e below _ (s₁.setTop (mkF m 33 #[.val (.ref a1), .val (.int p1), .val (.int (5 : Int32)), .val (.int (1 : Int32)), .val (.int (1 : Int32)), .val (.int (0 : Int32)), .unset, .unset, .unset, .unset] [(.int z157)]))
        refine Go.st (fun _ => XS.istore X0.here hx rfl (hb hby d4_33) rfl (l' := #[.val (.ref a1), .val (.int p1), .val (.int (5 : Int32)), .val (.int (1 : Int32)), .val (.int (1 : Int32)), .val (.int (0 : Int32)), .val (.int z157), .unset, .unset, .unset]) rfl) ?_
        show Go p e below _ (s₁.setTop (mkF m 35 #[.val (.ref a1), .val (.int p1), .val (.int (5 : Int32)), .val (.int (1 : Int32)), .val (.int (1 : Int32)), .val (.int (0 : Int32)), .val (.int z157), .unset, .unset, .unset] []))
        refine Go.st (fun _ => XS.iload X0.here hx rfl (hb hby d4_35) rfl) ?_
        show Go p e below _ (s₁.setTop (mkF m 37 #[.val (.ref a1), .val (.int p1), .val (.int (5 : Int32)), .val (.int (1 : Int32)), .val (.int (1 : Int32)), .val (.int (0 : Int32)), .val (.int z157), .unset, .unset, .unset] [(.int (0 : Int32))]))
        refine Go.st (fun _ => XS.ifYes X0.here hx rfl (pc0 := 37) (pc' := 46) rfl (hb hby d4_37) rfl ((if0 _ _).trans (teq (by decide : (0 : Int32) = (0 : Int32))).1) (by decide) (by decide)) ?_
        show Go p e below _ (s₁.setTop (mkF m 46 #[.val (.ref a1), .val (.int p1), .val (.int (5 : Int32)), .val (.int (1 : Int32)), .val (.int (1 : Int32)), .val (.int (0 : Int32)), .val (.int z157), .unset, .unset, .unset] []))
        refine Go.st (fun _ => XS.iload X0.here hx rfl (hb hby d4_46) rfl) ?_
        show Go p e below _ (s₁.setTop (mkF m 48 #[.val (.ref a1), .val (.int p1), .val (.int (5 : Int32)), .val (.int (1 : Int32)), .val (.int (1 : Int32)), .val (.int (0 : Int32)), .val (.int z157), .unset, .unset, .unset] [(.int (0 : Int32))]))
        refine Go.st (fun _ => XS.ifNo X0.here hx rfl (hb hby d4_48) rfl ((if0 _ _).trans (teq (by decide : (0 : Int32) = (0 : Int32))).2)) ?_
        show Go p e below _ (s₁.setTop (mkF m 51 #[.val (.ref a1), .val (.int p1), .val (.int (5 : Int32)), .val (.int (1 : Int32)), .val (.int (1 : Int32)), .val (.int (0 : Int32)), .val (.int z157), .unset, .unset, .unset] []))
        obtain ⟨T158, X158, e158, st158⟩ := getS2 X0 hx hZ hown (host := "") (Or.inl (hw _ (List.mem_of_getElem? (i := 22) rfl))) Via.refl e0 (oldSta O0 S_w_EXECUTE) (g := (mkF m 51 #[.val (.ref a1), .val (.int p1), .val (.int (5 : Int32)), .val (.int (1 : Int32)), .val (.int (1 : Int32)), .val (.int (0 : Int32)), .val (.int z157), .unset, .unset, .unset] [])) rfl (hb hby d4_51)
        refine Go.st st158 ?_
        show Go p e below _ (T158.setTop (mkF m 54 #[.val (.ref a1), .val (.int p1), .val (.int (5 : Int32)), .val (.int (1 : Int32)), .val (.int (1 : Int32)), .val (.int (0 : Int32)), .val (.int z157), .unset, .unset, .unset] [(.ref w_EXECUTE)]))
        refine Go.st (fun _ => XS.goto X158.here hx rfl (pc0 := 54) (pc' := 60) rfl (hb hby d4_54) (by decide) (by decide)) ?_
        show Go p e below _ (T158.setTop (mkF m 60 #[.val (.ref a1), .val (.int p1), .val (.int (5 : Int32)), .val (.int (1 : Int32)), .val (.int (1 : Int32)), .val (.int (0 : Int32)), .val (.int z157), .unset, .unset, .unset] [(.ref w_EXECUTE)]))
        refine Go.st (fun _ => XS.astore X158.here hx rfl (hb hby d4_60) rfl rfl (l' := #[.val (.ref a1), .val (.int p1), .val (.int (5 : Int32)), .val (.int (1 : Int32)), .val (.int (1 : Int32)), .val (.int (0 : Int32)), .val (.int z157), .val (.ref w_EXECUTE), .unset, .unset]) rfl) ?_
        show Go p e below _ (T158.setTop (mkF m 62 #[.val (.ref a1), .val (.int p1), .val (.int (5 : Int32)), .val (.int (1 : Int32)), .val (.int (1 : Int32)), .val (.int (0 : Int32)), .val (.int z157), .val (.ref w_EXECUTE), .unset, .unset] []))
        refine Go.st (fun _ => XS.aloadN X158.here hx rfl (hb hby d4_62) rfl rfl) ?_
        show Go p e below _ (T158.setTop (mkF m 63 #[.val (.ref a1), .val (.int p1), .val (.int (5 : Int32)), .val (.int (1 : Int32)), .val (.int (1 : Int32)), .val (.int (0 : Int32)), .val (.int z157), .val (.ref w_EXECUTE), .unset, .unset] [(.ref a1)]))
        refine Go.st (fun _ => XS.aload X158.here hx rfl (hb hby d4_63) rfl rfl) ?_
        show Go p e below _ (T158.setTop (mkF m 65 #[.val (.ref a1), .val (.int p1), .val (.int (5 : Int32)), .val (.int (1 : Int32)), .val (.int (1 : Int32)), .val (.int (0 : Int32)), .val (.int z157), .val (.ref w_EXECUTE), .unset, .unset] [(.ref w_EXECUTE), (.ref a1)]))
        refine goVirtS X158 hx hZ (y := (⟨"com/example/sidelane/sidelane/Cancellation", "claim", "(Lcom/example/sidelane/sidelane/Cancellation$Claimant;)Z"⟩ : MethodName)) (z := (⟨"com/example/sidelane/sidelane/Cancellation", "claim", "(Lcom/example/sidelane/sidelane/Cancellation$Claimant;)Z"⟩ : MethodName)) hown (hw _ (List.mem_of_getElem? (i := 25) rfl)) (hw _ (List.mem_of_getElem? (i := 26) rfl)) (notFace_of_selects (args := #[]) (mvT hZ (hw _ (List.mem_of_getElem? (i := 28) rfl)))) (hw _ (List.mem_of_getElem? (i := 28) rfl)) (hw _ (List.mem_of_getElem? (i := 27) rfl)) (hw _ (List.mem_of_getElem? (i := 2) rfl)) (hw _ (List.mem_of_getElem? (i := 29) rfl)) (by decide) (a := a1) (argsL := [(.ref w_EXECUTE)]) (rest := []) e158 Eb (cmR1 l Z a0 hw a1 w_EXECUTE w_EXECUTE en (.ref a6) h0 n0 O0 Ub g1 Eb Fb0 Fb1 Fb2 Fb3 Fb4 Fb5 Fb6) 0 (by decide) (by decide) (by decide) (by decide) (mkF m 65 #[.val (.ref a1), .val (.int p1), .val (.int (5 : Int32)), .val (.int (1 : Int32)), .val (.int (1 : Int32)), .val (.int (0 : Int32)), .val (.int z157), .val (.ref w_EXECUTE), .unset, .unset] [(.ref w_EXECUTE), (.ref a1)]) rfl (by rw [hml]; rfl) (lenOf pd_3 rfl) rfl (hb hby d4_65) (Nat.le_of_eq rfl) ?_
        intro v159 T159 L159 X159 hQ159
        obtain ⟨rfl, M159, K159, ⟨Eb159, Ub159, Fb0_159, Fb1_159, Fb2_159, Fb3_159, Fb4_159, Fb5_159, Fb6_159⟩⟩ := hQ159
        have N159 := Fr.app N0 M159
        have O160 : Old Z n0 T159.heap := O0.keep K159 (allS g1 all0)
        have K161 : Keep h0 T159.heap [a1] := (Keep.refl h0 [a1]).trans K159 (allS (Or.inl (List.mem_of_getElem? (i := 0) rfl)) all0)
        have E_162 : Exa Z T159.heap a1 "com/example/sidelane/sidelane/Cancellation" := Eb.keep K159
        show Go p e below _ (T159.setTop (mkF m 68 #[.val (.ref a1), .val (.int p1), .val (.int (5 : Int32)), .val (.int (1 : Int32)), .val (.int (1 : Int32)), .val (.int (0 : Int32)), .val (.int z157), .val (.ref w_EXECUTE), .unset, .unset] [(.int (0 : Int32))]))
        refine Go.st (fun _ => XS.istore X159.here hx rfl (hb hby d4_68) rfl (l' := #[.val (.ref a1), .val (.int p1), .val (.int (5 : Int32)), .val (.int (1 : Int32)), .val (.int (1 : Int32)), .val (.int (0 : Int32)), .val (.int z157), .val (.ref w_EXECUTE), .val (.int (0 : Int32)), .unset]) rfl) ?_
        show Go p e below _ (T159.setTop (mkF m 70 #[.val (.ref a1), .val (.int p1), .val (.int (5 : Int32)), .val (.int (1 : Int32)), .val (.int (1 : Int32)), .val (.int (0 : Int32)), .val (.int z157), .val (.ref w_EXECUTE), .val (.int (0 : Int32)), .unset] []))
        refine Go.st (fun _ => XS.iloadN X159.here hx rfl (hb hby d4_70) rfl) ?_
        show Go p e below _ (T159.setTop (mkF m 71 #[.val (.ref a1), .val (.int p1), .val (.int (5 : Int32)), .val (.int (1 : Int32)), .val (.int (1 : Int32)), .val (.int (0 : Int32)), .val (.int z157), .val (.ref w_EXECUTE), .val (.int (0 : Int32)), .unset] [(.int (1 : Int32))]))
        refine Go.st (fun _ => XS.ifYes X159.here hx rfl (pc0 := 71) (pc' := 83) rfl (hb hby d4_71) rfl ((if0 _ _).trans (feq (by decide : ¬ ((1 : Int32) = (0 : Int32)))).2) (by decide) (by decide)) ?_
        show Go p e below _ (T159.setTop (mkF m 83 #[.val (.ref a1), .val (.int p1), .val (.int (5 : Int32)), .val (.int (1 : Int32)), .val (.int (1 : Int32)), .val (.int (0 : Int32)), .val (.int z157), .val (.ref w_EXECUTE), .val (.int (0 : Int32)), .unset] []))
        refine Go.st (fun _ => XS.iconst X159.here hx rfl (hb hby d4_83)) ?_
        show Go p e below _ (T159.setTop (mkF m 84 #[.val (.ref a1), .val (.int p1), .val (.int (5 : Int32)), .val (.int (1 : Int32)), .val (.int (1 : Int32)), .val (.int (0 : Int32)), .val (.int z157), .val (.ref w_EXECUTE), .val (.int (0 : Int32)), .unset] [(.int (0 : Int32))]))
        refine Go.st (fun _ => XS.istore X159.here hx rfl (hb hby d4_84) rfl (l' := #[.val (.ref a1), .val (.int p1), .val (.int (5 : Int32)), .val (.int (1 : Int32)), .val (.int (1 : Int32)), .val (.int (0 : Int32)), .val (.int z157), .val (.ref w_EXECUTE), .val (.int (0 : Int32)), .val (.int (0 : Int32))]) rfl) ?_
        show Go p e below _ (T159.setTop (mkF m 86 #[.val (.ref a1), .val (.int p1), .val (.int (5 : Int32)), .val (.int (1 : Int32)), .val (.int (1 : Int32)), .val (.int (0 : Int32)), .val (.int z157), .val (.ref w_EXECUTE), .val (.int (0 : Int32)), .val (.int (0 : Int32))] []))
        refine Go.st (fun _ => XS.iload X159.here hx rfl (hb hby d4_86) rfl) ?_
        show Go p e below _ (T159.setTop (mkF m 88 #[.val (.ref a1), .val (.int p1), .val (.int (5 : Int32)), .val (.int (1 : Int32)), .val (.int (1 : Int32)), .val (.int (0 : Int32)), .val (.int z157), .val (.ref w_EXECUTE), .val (.int (0 : Int32)), .val (.int (0 : Int32))] [(.int (0 : Int32))]))
        refine Go.st (fun _ => XS.iload X159.here hx rfl (hb hby d4_88) rfl) ?_
        show Go p e below _ (T159.setTop (mkF m 90 #[.val (.ref a1), .val (.int p1), .val (.int (5 : Int32)), .val (.int (1 : Int32)), .val (.int (1 : Int32)), .val (.int (0 : Int32)), .val (.int z157), .val (.ref w_EXECUTE), .val (.int (0 : Int32)), .val (.int (0 : Int32))] [(.int (0 : Int32)), (.int (0 : Int32))]))
        refine Go.st (fun _ => XS.icmpYes X159.here hx rfl (pc0 := 90) (pc' := 95) rfl (hb hby d4_90) rfl (teq (by decide : (0 : Int32) = (0 : Int32))).1 (by decide) (by decide)) ?_
        show Go p e below _ (T159.setTop (mkF m 95 #[.val (.ref a1), .val (.int p1), .val (.int (5 : Int32)), .val (.int (1 : Int32)), .val (.int (1 : Int32)), .val (.int (0 : Int32)), .val (.int z157), .val (.ref w_EXECUTE), .val (.int (0 : Int32)), .val (.int (0 : Int32))] []))
        refine Go.st (fun _ => XS.iload X159.here hx rfl (hb hby d4_95) rfl) ?_
        show Go p e below _ (T159.setTop (mkF m 97 #[.val (.ref a1), .val (.int p1), .val (.int (5 : Int32)), .val (.int (1 : Int32)), .val (.int (1 : Int32)), .val (.int (0 : Int32)), .val (.int z157), .val (.ref w_EXECUTE), .val (.int (0 : Int32)), .val (.int (0 : Int32))] [(.int (0 : Int32))]))
        refine Go.st (fun _ => XS.ifYes X159.here hx rfl (pc0 := 97) (pc' := 105) rfl (hb hby d4_97) rfl ((if0 _ _).trans (teq (by decide : (0 : Int32) = (0 : Int32))).1) (by decide) (by decide)) ?_
        show Go p e below _ (T159.setTop (mkF m 105 #[.val (.ref a1), .val (.int p1), .val (.int (5 : Int32)), .val (.int (1 : Int32)), .val (.int (1 : Int32)), .val (.int (0 : Int32)), .val (.int z157), .val (.ref w_EXECUTE), .val (.int (0 : Int32)), .val (.int (0 : Int32))] []))
        refine Go.st (fun _ => XS.goto X159.here hx rfl (pc0 := 105) (pc' := 156) rfl (hb hby d4_105) (by decide) (by decide)) ?_
        show Go p e below _ (T159.setTop (mkF m 156 #[.val (.ref a1), .val (.int p1), .val (.int (5 : Int32)), .val (.int (1 : Int32)), .val (.int (1 : Int32)), .val (.int (0 : Int32)), .val (.int z157), .val (.ref w_EXECUTE), .val (.int (0 : Int32)), .val (.int (0 : Int32))] []))
        refine Go.st (fun _ => XS.iloadN X159.here hx rfl (hb hby d4_156) rfl) ?_
        show Go p e below _ (T159.setTop (mkF m 157 #[.val (.ref a1), .val (.int p1), .val (.int (5 : Int32)), .val (.int (1 : Int32)), .val (.int (1 : Int32)), .val (.int (0 : Int32)), .val (.int z157), .val (.ref w_EXECUTE), .val (.int (0 : Int32)), .val (.int (0 : Int32))] [(.int (1 : Int32))]))
        refine Go.st (fun _ => XS.iload X159.here hx rfl (hb hby d4_157) rfl) ?_
        show Go p e below _ (T159.setTop (mkF m 159 #[.val (.ref a1), .val (.int p1), .val (.int (5 : Int32)), .val (.int (1 : Int32)), .val (.int (1 : Int32)), .val (.int (0 : Int32)), .val (.int z157), .val (.ref w_EXECUTE), .val (.int (0 : Int32)), .val (.int (0 : Int32))] [(.int (1 : Int32)), (.int (1 : Int32))]))
        refine Go.st (fun _ => XS.ifNo X159.here hx rfl (hb hby d4_159) rfl ((if0 _ _).trans (feq (by decide : ¬ ((1 : Int32) = (0 : Int32)))).1)) ?_
        show Go p e below _ (T159.setTop (mkF m 162 #[.val (.ref a1), .val (.int p1), .val (.int (5 : Int32)), .val (.int (1 : Int32)), .val (.int (1 : Int32)), .val (.int (0 : Int32)), .val (.int z157), .val (.ref w_EXECUTE), .val (.int (0 : Int32)), .val (.int (0 : Int32))] [(.int (1 : Int32))]))
        refine Go.st (fun _ => XS.iconst X159.here hx rfl (hb hby d4_162)) ?_
        show Go p e below _ (T159.setTop (mkF m 163 #[.val (.ref a1), .val (.int p1), .val (.int (5 : Int32)), .val (.int (1 : Int32)), .val (.int (1 : Int32)), .val (.int (0 : Int32)), .val (.int z157), .val (.ref w_EXECUTE), .val (.int (0 : Int32)), .val (.int (0 : Int32))] [(.int (4 : Int32)), (.int (1 : Int32))]))
        refine Go.st (fun _ => XS.goto X159.here hx rfl (pc0 := 163) (pc' := 167) rfl (hb hby d4_163) (by decide) (by decide)) ?_
        show Go p e below _ (T159.setTop (mkF m 167 #[.val (.ref a1), .val (.int p1), .val (.int (5 : Int32)), .val (.int (1 : Int32)), .val (.int (1 : Int32)), .val (.int (0 : Int32)), .val (.int z157), .val (.ref w_EXECUTE), .val (.int (0 : Int32)), .val (.int (0 : Int32))] [(.int (4 : Int32)), (.int (1 : Int32))]))
        refine Go.st (fun _ => XS.ior X159.here hx rfl (hb hby d4_167) rfl) ?_
        show Go p e below _ (T159.setTop (mkF m 168 #[.val (.ref a1), .val (.int p1), .val (.int (5 : Int32)), .val (.int (1 : Int32)), .val (.int (1 : Int32)), .val (.int (0 : Int32)), .val (.int z157), .val (.ref w_EXECUTE), .val (.int (0 : Int32)), .val (.int (0 : Int32))] [(.int (5 : Int32))]))
        exact goRetI X159 hx hlk hret rfl (hb hby d4_168) (by decide) (by decide) ⟨_, rfl, by decide, N159, K161, ⟨_, _, _, _, ⟨Eb159, Ub159, Fb0_159, Fb1_159, Fb2_159, Fb3_159, Fb4_159, Fb5_159, Fb6_159⟩, Or.inr (Or.inr (Or.inr (Or.inr ⟨rfl, rfl, rfl, hen, ⟨_, rfl⟩⟩)))⟩⟩
      · show Go p e below _ (s₁.setTop (mkF m 25 #[.val (.ref a1), .val (.int p1), .val (.int (5 : Int32)), .val (.int (1 : Int32)), .val (.int (1 : Int32)), .val (.int (0 : Int32)), .unset, .unset, .unset, .unset] [(.int (p1 &&& (4 : Int32)))]))
        by_cases hc163 : (p1 &&& (4 : Int32)) = (0 : Int32)
        · refine Go.st (fun _ => XS.ifYes X0.here hx rfl (pc0 := 25) (pc' := 32) rfl (hb hby d4_25) rfl ((if0 _ _).trans (teq hc163).1) (by decide) (by decide)) ?_
          show Go p e below _ (s₁.setTop (mkF m 32 #[.val (.ref a1), .val (.int p1), .val (.int (5 : Int32)), .val (.int (1 : Int32)), .val (.int (1 : Int32)), .val (.int (0 : Int32)), .unset, .unset, .unset, .unset] []))
          refine Go.st (fun _ => XS.iconst X0.here hx rfl (hb hby d4_32)) ?_
          exact J157 _ trivial
        · refine Go.st (fun _ => XS.ifNo X0.here hx rfl (hb hby d4_25) rfl ((if0 _ _).trans (feq hc163).1)) ?_
          show Go p e below _ (s₁.setTop (mkF m 28 #[.val (.ref a1), .val (.int p1), .val (.int (5 : Int32)), .val (.int (1 : Int32)), .val (.int (1 : Int32)), .val (.int (0 : Int32)), .unset, .unset, .unset, .unset] []))
          refine Go.st (fun _ => XS.iconst X0.here hx rfl (hb hby d4_28)) ?_
          show Go p e below _ (s₁.setTop (mkF m 29 #[.val (.ref a1), .val (.int p1), .val (.int (5 : Int32)), .val (.int (1 : Int32)), .val (.int (1 : Int32)), .val (.int (0 : Int32)), .unset, .unset, .unset, .unset] [(.int (1 : Int32))]))
          refine Go.st (fun _ => XS.goto X0.here hx rfl (pc0 := 29) (pc' := 33) rfl (hb hby d4_29) (by decide) (by decide)) ?_
          exact J157 _ trivial
    · rw [q0]
      show Go p e below _ (s₁.setTop (mkF m 20 #[.val (.ref a1), .val (.int p1), .val (.int (5 : Int32)), .val (.int (1 : Int32)), .val (.int (1 : Int32)), .unset, .unset, .unset, .unset, .unset] [(.int (1 : Int32))]))
      refine Go.st (fun _ => XS.istore X0.here hx rfl (hb hby d4_20) rfl (l' := #[.val (.ref a1), .val (.int p1), .val (.int (5 : Int32)), .val (.int (1 : Int32)), .val (.int (1 : Int32)), .val (.int (1 : Int32)), .unset, .unset, .unset, .unset]) rfl) ?_
      show Go p e below _ (s₁.setTop (mkF m 22 #[.val (.ref a1), .val (.int p1), .val (.int (5 : Int32)), .val (.int (1 : Int32)), .val (.int (1 : Int32)), .val (.int (1 : Int32)), .unset, .unset, .unset, .unset] []))
      refine Go.st (fun _ => XS.iloadN X0.here hx rfl (hb hby d4_22) rfl) ?_
      show Go p e below _ (s₁.setTop (mkF m 23 #[.val (.ref a1), .val (.int p1), .val (.int (5 : Int32)), .val (.int (1 : Int32)), .val (.int (1 : Int32)), .val (.int (1 : Int32)), .unset, .unset, .unset, .unset] [(.int p1)]))
      refine Go.st (fun _ => XS.iconst X0.here hx rfl (hb hby d4_23)) ?_
      show Go p e below _ (s₁.setTop (mkF m 24 #[.val (.ref a1), .val (.int p1), .val (.int (5 : Int32)), .val (.int (1 : Int32)), .val (.int (1 : Int32)), .val (.int (1 : Int32)), .unset, .unset, .unset, .unset] [(.int (4 : Int32)), (.int p1)]))
      refine Go.st (fun _ => XS.iand X0.here hx rfl (hb hby d4_24) rfl) ?_
      show Go p e below _ (s₁.setTop (mkF m 25 #[.val (.ref a1), .val (.int p1), .val (.int (5 : Int32)), .val (.int (1 : Int32)), .val (.int (1 : Int32)), .val (.int (1 : Int32)), .unset, .unset, .unset, .unset] [(.int (p1 &&& (4 : Int32)))]))
      refine goJoin (P := fun z164 : Int32 => True) (F := fun z164 => s₁.setTop (mkF m 33 #[.val (.ref a1), .val (.int p1), .val (.int (5 : Int32)), .val (.int (1 : Int32)), .val (.int (1 : Int32)), .val (.int (1 : Int32)), .unset, .unset, .unset, .unset] [(.int z164)])) (fun z164 hz164 => ?_) (fun J164 => ?_)
      · show Go p e below _ (s₁.setTop (mkF m 33 #[.val (.ref a1), .val (.int p1), .val (.int (5 : Int32)), .val (.int (1 : Int32)), .val (.int (1 : Int32)), .val (.int (1 : Int32)), .unset, .unset, .unset, .unset] [(.int z164)]))
        refine Go.st (fun _ => XS.istore X0.here hx rfl (hb hby d4_33) rfl (l' := #[.val (.ref a1), .val (.int p1), .val (.int (5 : Int32)), .val (.int (1 : Int32)), .val (.int (1 : Int32)), .val (.int (1 : Int32)), .val (.int z164), .unset, .unset, .unset]) rfl) ?_
        show Go p e below _ (s₁.setTop (mkF m 35 #[.val (.ref a1), .val (.int p1), .val (.int (5 : Int32)), .val (.int (1 : Int32)), .val (.int (1 : Int32)), .val (.int (1 : Int32)), .val (.int z164), .unset, .unset, .unset] []))
        refine Go.st (fun _ => XS.iload X0.here hx rfl (hb hby d4_35) rfl) ?_
        show Go p e below _ (s₁.setTop (mkF m 37 #[.val (.ref a1), .val (.int p1), .val (.int (5 : Int32)), .val (.int (1 : Int32)), .val (.int (1 : Int32)), .val (.int (1 : Int32)), .val (.int z164), .unset, .unset, .unset] [(.int (1 : Int32))]))
        refine Go.st (fun _ => XS.ifNo X0.here hx rfl (hb hby d4_37) rfl ((if0 _ _).trans (feq (by decide : ¬ ((1 : Int32) = (0 : Int32)))).1)) ?_
        show Go p e below _ (s₁.setTop (mkF m 40 #[.val (.ref a1), .val (.int p1), .val (.int (5 : Int32)), .val (.int (1 : Int32)), .val (.int (1 : Int32)), .val (.int (1 : Int32)), .val (.int z164), .unset, .unset, .unset] []))
        refine Go.st (fun _ => XS.iload X0.here hx rfl (hb hby d4_40) rfl) ?_
        show Go p e below _ (s₁.setTop (mkF m 42 #[.val (.ref a1), .val (.int p1), .val (.int (5 : Int32)), .val (.int (1 : Int32)), .val (.int (1 : Int32)), .val (.int (1 : Int32)), .val (.int z164), .unset, .unset, .unset] [(.int (1 : Int32))]))
        refine Go.st (fun _ => XS.iconst X0.here hx rfl (hb hby d4_42)) ?_
        show Go p e below _ (s₁.setTop (mkF m 43 #[.val (.ref a1), .val (.int p1), .val (.int (5 : Int32)), .val (.int (1 : Int32)), .val (.int (1 : Int32)), .val (.int (1 : Int32)), .val (.int z164), .unset, .unset, .unset] [(.int (1 : Int32)), (.int (1 : Int32))]))
        refine Go.st (fun _ => XS.icmpNo X0.here hx rfl (hb hby d4_43) rfl (teq (by decide : (1 : Int32) = (1 : Int32))).2) ?_
        show Go p e below _ (s₁.setTop (mkF m 46 #[.val (.ref a1), .val (.int p1), .val (.int (5 : Int32)), .val (.int (1 : Int32)), .val (.int (1 : Int32)), .val (.int (1 : Int32)), .val (.int z164), .unset, .unset, .unset] []))
        refine Go.st (fun _ => XS.iload X0.here hx rfl (hb hby d4_46) rfl) ?_
        show Go p e below _ (s₁.setTop (mkF m 48 #[.val (.ref a1), .val (.int p1), .val (.int (5 : Int32)), .val (.int (1 : Int32)), .val (.int (1 : Int32)), .val (.int (1 : Int32)), .val (.int z164), .unset, .unset, .unset] [(.int (1 : Int32))]))
        refine Go.st (fun _ => XS.ifYes X0.here hx rfl (pc0 := 48) (pc' := 57) rfl (hb hby d4_48) rfl ((if0 _ _).trans (feq (by decide : ¬ ((1 : Int32) = (0 : Int32)))).2) (by decide) (by decide)) ?_
        show Go p e below _ (s₁.setTop (mkF m 57 #[.val (.ref a1), .val (.int p1), .val (.int (5 : Int32)), .val (.int (1 : Int32)), .val (.int (1 : Int32)), .val (.int (1 : Int32)), .val (.int z164), .unset, .unset, .unset] []))
        obtain ⟨T165, X165, e165, st165⟩ := getS2 X0 hx hZ hown (host := "") (Or.inl (hw _ (List.mem_of_getElem? (i := 59) rfl))) Via.refl e0 (oldSta O0 S_w_ADOPTER) (g := (mkF m 57 #[.val (.ref a1), .val (.int p1), .val (.int (5 : Int32)), .val (.int (1 : Int32)), .val (.int (1 : Int32)), .val (.int (1 : Int32)), .val (.int z164), .unset, .unset, .unset] [])) rfl (hb hby d4_57)
        refine Go.st st165 ?_
        show Go p e below _ (T165.setTop (mkF m 60 #[.val (.ref a1), .val (.int p1), .val (.int (5 : Int32)), .val (.int (1 : Int32)), .val (.int (1 : Int32)), .val (.int (1 : Int32)), .val (.int z164), .unset, .unset, .unset] [(.ref w_ADOPTER)]))
        refine Go.st (fun _ => XS.astore X165.here hx rfl (hb hby d4_60) rfl rfl (l' := #[.val (.ref a1), .val (.int p1), .val (.int (5 : Int32)), .val (.int (1 : Int32)), .val (.int (1 : Int32)), .val (.int (1 : Int32)), .val (.int z164), .val (.ref w_ADOPTER), .unset, .unset]) rfl) ?_
        show Go p e below _ (T165.setTop (mkF m 62 #[.val (.ref a1), .val (.int p1), .val (.int (5 : Int32)), .val (.int (1 : Int32)), .val (.int (1 : Int32)), .val (.int (1 : Int32)), .val (.int z164), .val (.ref w_ADOPTER), .unset, .unset] []))
        refine Go.st (fun _ => XS.aloadN X165.here hx rfl (hb hby d4_62) rfl rfl) ?_
        show Go p e below _ (T165.setTop (mkF m 63 #[.val (.ref a1), .val (.int p1), .val (.int (5 : Int32)), .val (.int (1 : Int32)), .val (.int (1 : Int32)), .val (.int (1 : Int32)), .val (.int z164), .val (.ref w_ADOPTER), .unset, .unset] [(.ref a1)]))
        refine Go.st (fun _ => XS.aload X165.here hx rfl (hb hby d4_63) rfl rfl) ?_
        show Go p e below _ (T165.setTop (mkF m 65 #[.val (.ref a1), .val (.int p1), .val (.int (5 : Int32)), .val (.int (1 : Int32)), .val (.int (1 : Int32)), .val (.int (1 : Int32)), .val (.int z164), .val (.ref w_ADOPTER), .unset, .unset] [(.ref w_ADOPTER), (.ref a1)]))
        refine goVirtS X165 hx hZ (y := (⟨"com/example/sidelane/sidelane/Cancellation", "claim", "(Lcom/example/sidelane/sidelane/Cancellation$Claimant;)Z"⟩ : MethodName)) (z := (⟨"com/example/sidelane/sidelane/Cancellation", "claim", "(Lcom/example/sidelane/sidelane/Cancellation$Claimant;)Z"⟩ : MethodName)) hown (hw _ (List.mem_of_getElem? (i := 25) rfl)) (hw _ (List.mem_of_getElem? (i := 26) rfl)) (notFace_of_selects (args := #[]) (mvT hZ (hw _ (List.mem_of_getElem? (i := 28) rfl)))) (hw _ (List.mem_of_getElem? (i := 28) rfl)) (hw _ (List.mem_of_getElem? (i := 27) rfl)) (hw _ (List.mem_of_getElem? (i := 2) rfl)) (hw _ (List.mem_of_getElem? (i := 29) rfl)) (by decide) (a := a1) (argsL := [(.ref w_ADOPTER)]) (rest := []) e165 Eb (cmR1 l Z a0 hw a1 w_ADOPTER w_EXECUTE en (.ref a6) h0 n0 O0 Ub g1 Eb Fb0 Fb1 Fb2 Fb3 Fb4 Fb5 Fb6) 0 (by decide) (by decide) (by decide) (by decide) (mkF m 65 #[.val (.ref a1), .val (.int p1), .val (.int (5 : Int32)), .val (.int (1 : Int32)), .val (.int (1 : Int32)), .val (.int (1 : Int32)), .val (.int z164), .val (.ref w_ADOPTER), .unset, .unset] [(.ref w_ADOPTER), (.ref a1)]) rfl (by rw [hml]; rfl) (lenOf pd_3 rfl) rfl (hb hby d4_65) (Nat.le_of_eq rfl) ?_
        intro v166 T166 L166 X166 hQ166
        obtain ⟨rfl, M166, K166, ⟨Eb166, Ub166, Fb0_166, Fb1_166, Fb2_166, Fb3_166, Fb4_166, Fb5_166, Fb6_166⟩⟩ := hQ166
        have N166 := Fr.app N0 M166
        have O167 : Old Z n0 T166.heap := O0.keep K166 (allS g1 all0)
        have K168 : Keep h0 T166.heap [a1] := (Keep.refl h0 [a1]).trans K166 (allS (Or.inl (List.mem_of_getElem? (i := 0) rfl)) all0)
        have E_169 : Exa Z T166.heap a1 "com/example/sidelane/sidelane/Cancellation" := Eb.keep K166
        show Go p e below _ (T166.setTop (mkF m 68 #[.val (.ref a1), .val (.int p1), .val (.int (5 : Int32)), .val (.int (1 : Int32)), .val (.int (1 : Int32)), .val (.int (1 : Int32)), .val (.int z164), .val (.ref w_ADOPTER), .unset, .unset] [(.int (0 : Int32))]))
        refine Go.st (fun _ => XS.istore X166.here hx rfl (hb hby d4_68) rfl (l' := #[.val (.ref a1), .val (.int p1), .val (.int (5 : Int32)), .val (.int (1 : Int32)), .val (.int (1 : Int32)), .val (.int (1 : Int32)), .val (.int z164), .val (.ref w_ADOPTER), .val (.int (0 : Int32)), .unset]) rfl) ?_
        show Go p e below _ (T166.setTop (mkF m 70 #[.val (.ref a1), .val (.int p1), .val (.int (5 : Int32)), .val (.int (1 : Int32)), .val (.int (1 : Int32)), .val (.int (1 : Int32)), .val (.int z164), .val (.ref w_ADOPTER), .val (.int (0 : Int32)), .unset] []))
        refine Go.st (fun _ => XS.iloadN X166.here hx rfl (hb hby d4_70) rfl) ?_
        show Go p e below _ (T166.setTop (mkF m 71 #[.val (.ref a1), .val (.int p1), .val (.int (5 : Int32)), .val (.int (1 : Int32)), .val (.int (1 : Int32)), .val (.int (1 : Int32)), .val (.int z164), .val (.ref w_ADOPTER), .val (.int (0 : Int32)), .unset] [(.int (1 : Int32))]))
        refine Go.st (fun _ => XS.ifYes X166.here hx rfl (pc0 := 71) (pc' := 83) rfl (hb hby d4_71) rfl ((if0 _ _).trans (feq (by decide : ¬ ((1 : Int32) = (0 : Int32)))).2) (by decide) (by decide)) ?_
        show Go p e below _ (T166.setTop (mkF m 83 #[.val (.ref a1), .val (.int p1), .val (.int (5 : Int32)), .val (.int (1 : Int32)), .val (.int (1 : Int32)), .val (.int (1 : Int32)), .val (.int z164), .val (.ref w_ADOPTER), .val (.int (0 : Int32)), .unset] []))
        refine Go.st (fun _ => XS.iconst X166.here hx rfl (hb hby d4_83)) ?_
        show Go p e below _ (T166.setTop (mkF m 84 #[.val (.ref a1), .val (.int p1), .val (.int (5 : Int32)), .val (.int (1 : Int32)), .val (.int (1 : Int32)), .val (.int (1 : Int32)), .val (.int z164), .val (.ref w_ADOPTER), .val (.int (0 : Int32)), .unset] [(.int (0 : Int32))]))
        refine Go.st (fun _ => XS.istore X166.here hx rfl (hb hby d4_84) rfl (l' := #[.val (.ref a1), .val (.int p1), .val (.int (5 : Int32)), .val (.int (1 : Int32)), .val (.int (1 : Int32)), .val (.int (1 : Int32)), .val (.int z164), .val (.ref w_ADOPTER), .val (.int (0 : Int32)), .val (.int (0 : Int32))]) rfl) ?_
        show Go p e below _ (T166.setTop (mkF m 86 #[.val (.ref a1), .val (.int p1), .val (.int (5 : Int32)), .val (.int (1 : Int32)), .val (.int (1 : Int32)), .val (.int (1 : Int32)), .val (.int z164), .val (.ref w_ADOPTER), .val (.int (0 : Int32)), .val (.int (0 : Int32))] []))
        refine Go.st (fun _ => XS.iload X166.here hx rfl (hb hby d4_86) rfl) ?_
        show Go p e below _ (T166.setTop (mkF m 88 #[.val (.ref a1), .val (.int p1), .val (.int (5 : Int32)), .val (.int (1 : Int32)), .val (.int (1 : Int32)), .val (.int (1 : Int32)), .val (.int z164), .val (.ref w_ADOPTER), .val (.int (0 : Int32)), .val (.int (0 : Int32))] [(.int (0 : Int32))]))
        refine Go.st (fun _ => XS.iload X166.here hx rfl (hb hby d4_88) rfl) ?_
        show Go p e below _ (T166.setTop (mkF m 90 #[.val (.ref a1), .val (.int p1), .val (.int (5 : Int32)), .val (.int (1 : Int32)), .val (.int (1 : Int32)), .val (.int (1 : Int32)), .val (.int z164), .val (.ref w_ADOPTER), .val (.int (0 : Int32)), .val (.int (0 : Int32))] [(.int (0 : Int32)), (.int (0 : Int32))]))
        refine Go.st (fun _ => XS.icmpYes X166.here hx rfl (pc0 := 90) (pc' := 95) rfl (hb hby d4_90) rfl (teq (by decide : (0 : Int32) = (0 : Int32))).1 (by decide) (by decide)) ?_
        show Go p e below _ (T166.setTop (mkF m 95 #[.val (.ref a1), .val (.int p1), .val (.int (5 : Int32)), .val (.int (1 : Int32)), .val (.int (1 : Int32)), .val (.int (1 : Int32)), .val (.int z164), .val (.ref w_ADOPTER), .val (.int (0 : Int32)), .val (.int (0 : Int32))] []))
        refine Go.st (fun _ => XS.iload X166.here hx rfl (hb hby d4_95) rfl) ?_
        show Go p e below _ (T166.setTop (mkF m 97 #[.val (.ref a1), .val (.int p1), .val (.int (5 : Int32)), .val (.int (1 : Int32)), .val (.int (1 : Int32)), .val (.int (1 : Int32)), .val (.int z164), .val (.ref w_ADOPTER), .val (.int (0 : Int32)), .val (.int (0 : Int32))] [(.int (0 : Int32))]))
        refine Go.st (fun _ => XS.ifYes X166.here hx rfl (pc0 := 97) (pc' := 105) rfl (hb hby d4_97) rfl ((if0 _ _).trans (teq (by decide : (0 : Int32) = (0 : Int32))).1) (by decide) (by decide)) ?_
        show Go p e below _ (T166.setTop (mkF m 105 #[.val (.ref a1), .val (.int p1), .val (.int (5 : Int32)), .val (.int (1 : Int32)), .val (.int (1 : Int32)), .val (.int (1 : Int32)), .val (.int z164), .val (.ref w_ADOPTER), .val (.int (0 : Int32)), .val (.int (0 : Int32))] []))
        refine Go.st (fun _ => XS.goto X166.here hx rfl (pc0 := 105) (pc' := 156) rfl (hb hby d4_105) (by decide) (by decide)) ?_
        show Go p e below _ (T166.setTop (mkF m 156 #[.val (.ref a1), .val (.int p1), .val (.int (5 : Int32)), .val (.int (1 : Int32)), .val (.int (1 : Int32)), .val (.int (1 : Int32)), .val (.int z164), .val (.ref w_ADOPTER), .val (.int (0 : Int32)), .val (.int (0 : Int32))] []))
        refine Go.st (fun _ => XS.iloadN X166.here hx rfl (hb hby d4_156) rfl) ?_
        show Go p e below _ (T166.setTop (mkF m 157 #[.val (.ref a1), .val (.int p1), .val (.int (5 : Int32)), .val (.int (1 : Int32)), .val (.int (1 : Int32)), .val (.int (1 : Int32)), .val (.int z164), .val (.ref w_ADOPTER), .val (.int (0 : Int32)), .val (.int (0 : Int32))] [(.int (1 : Int32))]))
        refine Go.st (fun _ => XS.iload X166.here hx rfl (hb hby d4_157) rfl) ?_
        show Go p e below _ (T166.setTop (mkF m 159 #[.val (.ref a1), .val (.int p1), .val (.int (5 : Int32)), .val (.int (1 : Int32)), .val (.int (1 : Int32)), .val (.int (1 : Int32)), .val (.int z164), .val (.ref w_ADOPTER), .val (.int (0 : Int32)), .val (.int (0 : Int32))] [(.int (1 : Int32)), (.int (1 : Int32))]))
        refine Go.st (fun _ => XS.ifNo X166.here hx rfl (hb hby d4_159) rfl ((if0 _ _).trans (feq (by decide : ¬ ((1 : Int32) = (0 : Int32)))).1)) ?_
        show Go p e below _ (T166.setTop (mkF m 162 #[.val (.ref a1), .val (.int p1), .val (.int (5 : Int32)), .val (.int (1 : Int32)), .val (.int (1 : Int32)), .val (.int (1 : Int32)), .val (.int z164), .val (.ref w_ADOPTER), .val (.int (0 : Int32)), .val (.int (0 : Int32))] [(.int (1 : Int32))]))
        refine Go.st (fun _ => XS.iconst X166.here hx rfl (hb hby d4_162)) ?_
        show Go p e below _ (T166.setTop (mkF m 163 #[.val (.ref a1), .val (.int p1), .val (.int (5 : Int32)), .val (.int (1 : Int32)), .val (.int (1 : Int32)), .val (.int (1 : Int32)), .val (.int z164), .val (.ref w_ADOPTER), .val (.int (0 : Int32)), .val (.int (0 : Int32))] [(.int (4 : Int32)), (.int (1 : Int32))]))
        refine Go.st (fun _ => XS.goto X166.here hx rfl (pc0 := 163) (pc' := 167) rfl (hb hby d4_163) (by decide) (by decide)) ?_
        show Go p e below _ (T166.setTop (mkF m 167 #[.val (.ref a1), .val (.int p1), .val (.int (5 : Int32)), .val (.int (1 : Int32)), .val (.int (1 : Int32)), .val (.int (1 : Int32)), .val (.int z164), .val (.ref w_ADOPTER), .val (.int (0 : Int32)), .val (.int (0 : Int32))] [(.int (4 : Int32)), (.int (1 : Int32))]))
        refine Go.st (fun _ => XS.ior X166.here hx rfl (hb hby d4_167) rfl) ?_
        show Go p e below _ (T166.setTop (mkF m 168 #[.val (.ref a1), .val (.int p1), .val (.int (5 : Int32)), .val (.int (1 : Int32)), .val (.int (1 : Int32)), .val (.int (1 : Int32)), .val (.int z164), .val (.ref w_ADOPTER), .val (.int (0 : Int32)), .val (.int (0 : Int32))] [(.int (5 : Int32))]))
        exact goRetI X166 hx hlk hret rfl (hb hby d4_168) (by decide) (by decide) ⟨_, rfl, by decide, N166, K168, ⟨_, _, _, _, ⟨Eb166, Ub166, Fb0_166, Fb1_166, Fb2_166, Fb3_166, Fb4_166, Fb5_166, Fb6_166⟩, Or.inr (Or.inr (Or.inr (Or.inr ⟨rfl, rfl, rfl, hen, ⟨_, rfl⟩⟩)))⟩⟩
      · show Go p e below _ (s₁.setTop (mkF m 25 #[.val (.ref a1), .val (.int p1), .val (.int (5 : Int32)), .val (.int (1 : Int32)), .val (.int (1 : Int32)), .val (.int (1 : Int32)), .unset, .unset, .unset, .unset] [(.int (p1 &&& (4 : Int32)))]))
        by_cases hc170 : (p1 &&& (4 : Int32)) = (0 : Int32)
        · refine Go.st (fun _ => XS.ifYes X0.here hx rfl (pc0 := 25) (pc' := 32) rfl (hb hby d4_25) rfl ((if0 _ _).trans (teq hc170).1) (by decide) (by decide)) ?_
          show Go p e below _ (s₁.setTop (mkF m 32 #[.val (.ref a1), .val (.int p1), .val (.int (5 : Int32)), .val (.int (1 : Int32)), .val (.int (1 : Int32)), .val (.int (1 : Int32)), .unset, .unset, .unset, .unset] []))
          refine Go.st (fun _ => XS.iconst X0.here hx rfl (hb hby d4_32)) ?_
          exact J164 _ trivial
        · refine Go.st (fun _ => XS.ifNo X0.here hx rfl (hb hby d4_25) rfl ((if0 _ _).trans (feq hc170).1)) ?_
          show Go p e below _ (s₁.setTop (mkF m 28 #[.val (.ref a1), .val (.int p1), .val (.int (5 : Int32)), .val (.int (1 : Int32)), .val (.int (1 : Int32)), .val (.int (1 : Int32)), .unset, .unset, .unset, .unset] []))
          refine Go.st (fun _ => XS.iconst X0.here hx rfl (hb hby d4_28)) ?_
          show Go p e below _ (s₁.setTop (mkF m 29 #[.val (.ref a1), .val (.int p1), .val (.int (5 : Int32)), .val (.int (1 : Int32)), .val (.int (1 : Int32)), .val (.int (1 : Int32)), .unset, .unset, .unset, .unset] [(.int (1 : Int32))]))
          refine Go.st (fun _ => XS.goto X0.here hx rfl (pc0 := 29) (pc' := 33) rfl (hb hby d4_29) (by decide) (by decide)) ?_
          exact J164 _ trivial
    · rw [q0]
      show Go p e below _ (s₁.setTop (mkF m 20 #[.val (.ref a1), .val (.int p1), .val (.int (5 : Int32)), .val (.int (1 : Int32)), .val (.int (1 : Int32)), .unset, .unset, .unset, .unset, .unset] [(.int (2 : Int32))]))
      refine Go.st (fun _ => XS.istore X0.here hx rfl (hb hby d4_20) rfl (l' := #[.val (.ref a1), .val (.int p1), .val (.int (5 : Int32)), .val (.int (1 : Int32)), .val (.int (1 : Int32)), .val (.int (2 : Int32)), .unset, .unset, .unset, .unset]) rfl) ?_
      show Go p e below _ (s₁.setTop (mkF m 22 #[.val (.ref a1), .val (.int p1), .val (.int (5 : Int32)), .val (.int (1 : Int32)), .val (.int (1 : Int32)), .val (.int (2 : Int32)), .unset, .unset, .unset, .unset] []))
      refine Go.st (fun _ => XS.iloadN X0.here hx rfl (hb hby d4_22) rfl) ?_
      show Go p e below _ (s₁.setTop (mkF m 23 #[.val (.ref a1), .val (.int p1), .val (.int (5 : Int32)), .val (.int (1 : Int32)), .val (.int (1 : Int32)), .val (.int (2 : Int32)), .unset, .unset, .unset, .unset] [(.int p1)]))
      refine Go.st (fun _ => XS.iconst X0.here hx rfl (hb hby d4_23)) ?_
      show Go p e below _ (s₁.setTop (mkF m 24 #[.val (.ref a1), .val (.int p1), .val (.int (5 : Int32)), .val (.int (1 : Int32)), .val (.int (1 : Int32)), .val (.int (2 : Int32)), .unset, .unset, .unset, .unset] [(.int (4 : Int32)), (.int p1)]))
      refine Go.st (fun _ => XS.iand X0.here hx rfl (hb hby d4_24) rfl) ?_
      show Go p e below _ (s₁.setTop (mkF m 25 #[.val (.ref a1), .val (.int p1), .val (.int (5 : Int32)), .val (.int (1 : Int32)), .val (.int (1 : Int32)), .val (.int (2 : Int32)), .unset, .unset, .unset, .unset] [(.int (p1 &&& (4 : Int32)))]))
      refine goJoin (P := fun z171 : Int32 => True) (F := fun z171 => s₁.setTop (mkF m 33 #[.val (.ref a1), .val (.int p1), .val (.int (5 : Int32)), .val (.int (1 : Int32)), .val (.int (1 : Int32)), .val (.int (2 : Int32)), .unset, .unset, .unset, .unset] [(.int z171)])) (fun z171 hz171 => ?_) (fun J171 => ?_)
      · show Go p e below _ (s₁.setTop (mkF m 33 #[.val (.ref a1), .val (.int p1), .val (.int (5 : Int32)), .val (.int (1 : Int32)), .val (.int (1 : Int32)), .val (.int (2 : Int32)), .unset, .unset, .unset, .unset] [(.int z171)]))
        refine Go.st (fun _ => XS.istore X0.here hx rfl (hb hby d4_33) rfl (l' := #[.val (.ref a1), .val (.int p1), .val (.int (5 : Int32)), .val (.int (1 : Int32)), .val (.int (1 : Int32)), .val (.int (2 : Int32)), .val (.int z171), .unset, .unset, .unset]) rfl) ?_
        show Go p e below _ (s₁.setTop (mkF m 35 #[.val (.ref a1), .val (.int p1), .val (.int (5 : Int32)), .val (.int (1 : Int32)), .val (.int (1 : Int32)), .val (.int (2 : Int32)), .val (.int z171), .unset, .unset, .unset] []))
        refine Go.st (fun _ => XS.iload X0.here hx rfl (hb hby d4_35) rfl) ?_
        show Go p e below _ (s₁.setTop (mkF m 37 #[.val (.ref a1), .val (.int p1), .val (.int (5 : Int32)), .val (.int (1 : Int32)), .val (.int (1 : Int32)), .val (.int (2 : Int32)), .val (.int z171), .unset, .unset, .unset] [(.int (2 : Int32))]))
        refine Go.st (fun _ => XS.ifNo X0.here hx rfl (hb hby d4_37) rfl ((if0 _ _).trans (feq (by decide : ¬ ((2 : Int32) = (0 : Int32)))).1)) ?_
        show Go p e below _ (s₁.setTop (mkF m 40 #[.val (.ref a1), .val (.int p1), .val (.int (5 : Int32)), .val (.int (1 : Int32)), .val (.int (1 : Int32)), .val (.int (2 : Int32)), .val (.int z171), .unset, .unset, .unset] []))
        refine Go.st (fun _ => XS.iload X0.here hx rfl (hb hby d4_40) rfl) ?_
        show Go p e below _ (s₁.setTop (mkF m 42 #[.val (.ref a1), .val (.int p1), .val (.int (5 : Int32)), .val (.int (1 : Int32)), .val (.int (1 : Int32)), .val (.int (2 : Int32)), .val (.int z171), .unset, .unset, .unset] [(.int (2 : Int32))]))
        refine Go.st (fun _ => XS.iconst X0.here hx rfl (hb hby d4_42)) ?_
        show Go p e below _ (s₁.setTop (mkF m 43 #[.val (.ref a1), .val (.int p1), .val (.int (5 : Int32)), .val (.int (1 : Int32)), .val (.int (1 : Int32)), .val (.int (2 : Int32)), .val (.int z171), .unset, .unset, .unset] [(.int (1 : Int32)), (.int (2 : Int32))]))
        refine Go.st (fun _ => XS.icmpYes X0.here hx rfl (pc0 := 43) (pc' := 108) rfl (hb hby d4_43) rfl (feq (by decide : ¬ ((2 : Int32) = (1 : Int32)))).2 (by decide) (by decide)) ?_
        show Go p e below _ (s₁.setTop (mkF m 108 #[.val (.ref a1), .val (.int p1), .val (.int (5 : Int32)), .val (.int (1 : Int32)), .val (.int (1 : Int32)), .val (.int (2 : Int32)), .val (.int z171), .unset, .unset, .unset] []))
        refine Go.st (fun _ => XS.iload X0.here hx rfl (hb hby d4_108) rfl) ?_
        show Go p e below _ (s₁.setTop (mkF m 110 #[.val (.ref a1), .val (.int p1), .val (.int (5 : Int32)), .val (.int (1 : Int32)), .val (.int (1 : Int32)), .val (.int (2 : Int32)), .val (.int z171), .unset, .unset, .unset] [(.int (2 : Int32))]))
        refine Go.st (fun _ => XS.iconst X0.here hx rfl (hb hby d4_110)) ?_
        show Go p e below _ (s₁.setTop (mkF m 111 #[.val (.ref a1), .val (.int p1), .val (.int (5 : Int32)), .val (.int (1 : Int32)), .val (.int (1 : Int32)), .val (.int (2 : Int32)), .val (.int z171), .unset, .unset, .unset] [(.int (3 : Int32)), (.int (2 : Int32))]))
        refine Go.st (fun _ => XS.icmpYes X0.here hx rfl (pc0 := 111) (pc' := 121) rfl (hb hby d4_111) rfl (feq (by decide : ¬ ((2 : Int32) = (3 : Int32)))).2 (by decide) (by decide)) ?_
        show Go p e below _ (s₁.setTop (mkF m 121 #[.val (.ref a1), .val (.int p1), .val (.int (5 : Int32)), .val (.int (1 : Int32)), .val (.int (1 : Int32)), .val (.int (2 : Int32)), .val (.int z171), .unset, .unset, .unset] []))
        refine Go.st (fun _ => XS.aconstNull X0.here hx rfl (hb hby d4_121)) ?_
        show Go p e below _ (s₁.setTop (mkF m 122 #[.val (.ref a1), .val (.int p1), .val (.int (5 : Int32)), .val (.int (1 : Int32)), .val (.int (1 : Int32)), .val (.int (2 : Int32)), .val (.int z171), .unset, .unset, .unset] [.null]))
        refine Go.st (fun _ => XS.astore X0.here hx rfl (hb hby d4_122) rfl rfl (l' := #[.val (.ref a1), .val (.int p1), .val (.int (5 : Int32)), .val (.int (1 : Int32)), .val (.int (1 : Int32)), .val (.int (2 : Int32)), .val (.int z171), .val .null, .unset, .unset]) rfl) ?_
        show Go p e below _ (s₁.setTop (mkF m 124 #[.val (.ref a1), .val (.int p1), .val (.int (5 : Int32)), .val (.int (1 : Int32)), .val (.int (1 : Int32)), .val (.int (2 : Int32)), .val (.int z171), .val .null, .unset, .unset] []))
        refine Go.st (fun _ => XS.aloadN X0.here hx rfl (hb hby d4_124) rfl rfl) ?_
        show Go p e below _ (s₁.setTop (mkF m 125 #[.val (.ref a1), .val (.int p1), .val (.int (5 : Int32)), .val (.int (1 : Int32)), .val (.int (1 : Int32)), .val (.int (2 : Int32)), .val (.int z171), .val .null, .unset, .unset] [(.ref a1)]))
        refine Go.st (fun _ => XS.iload X0.here hx rfl (hb hby d4_125) rfl) ?_
        show Go p e below _ (s₁.setTop (mkF m 127 #[.val (.ref a1), .val (.int p1), .val (.int (5 : Int32)), .val (.int (1 : Int32)), .val (.int (1 : Int32)), .val (.int (2 : Int32)), .val (.int z171), .val .null, .unset, .unset] [(.int z171), (.ref a1)]))
        refine Go.st (fun _ => XS.aload X0.here hx rfl (hb hby d4_127) rfl rfl) ?_
        show Go p e below _ (s₁.setTop (mkF m 129 #[.val (.ref a1), .val (.int p1), .val (.int (5 : Int32)), .val (.int (1 : Int32)), .val (.int (1 : Int32)), .val (.int (2 : Int32)), .val (.int z171), .val .null, .unset, .unset] [.null, (.int z171), (.ref a1)]))
        refine goVirtS X0 hx hZ (y := (⟨"com/example/sidelane/sidelane/Cancellation", "cancel", "(ZLjava/lang/Object;)Lcom/example/sidelane/sidelane/Cancellation$Outcome;"⟩ : MethodName)) (z := (⟨"com/example/sidelane/sidelane/Cancellation", "cancel", "(ZLjava/lang/Object;)Lcom/example/sidelane/sidelane/Cancellation$Outcome;"⟩ : MethodName)) hown (hw _ (List.mem_of_getElem? (i := 38) rfl)) (hw _ (List.mem_of_getElem? (i := 39) rfl)) (notFace_of_selects (args := #[]) (mvT hZ (hw _ (List.mem_of_getElem? (i := 41) rfl)))) (hw _ (List.mem_of_getElem? (i := 41) rfl)) (hw _ (List.mem_of_getElem? (i := 40) rfl)) (hw _ (List.mem_of_getElem? (i := 2) rfl)) (hw _ (List.mem_of_getElem? (i := 42) rfl)) (by decide) (a := a1) (argsL := [(.int z171), .null]) (rest := []) e0 Eb (caBE l Z a0 hw a1 z171  en (.ref a6) w_EXECUTE w_ADOPTER w_CANCELLED w_REFUSED w_HANDED_OVER w_CANCELLED_UNEXECUTED w_ENDING_NEEDED h0 n0 O0 Ub g1 Eb Fb0 Fb1 Fb2 Fb3 Fb4 Fb5 Fb6 S_w_EXECUTE S_w_ADOPTER S_w_CANCELLED S_w_REFUSED S_w_HANDED_OVER S_w_CANCELLED_UNEXECUTED S_w_ENDING_NEEDED ne_w_EXECUTE_w_ADOPTER) 0 (by decide) (by decide) (by decide) (by decide) (mkF m 129 #[.val (.ref a1), .val (.int p1), .val (.int (5 : Int32)), .val (.int (1 : Int32)), .val (.int (1 : Int32)), .val (.int (2 : Int32)), .val (.int z171), .val .null, .unset, .unset] [.null, (.int z171), (.ref a1)]) rfl (by rw [hml]; rfl) (lenOf pd_4 rfl) rfl (hb hby d4_129) (Nat.le_of_eq rfl) ?_
        intro v172 T172 L172 X172 hQ172
        obtain ⟨⟨r172, rfl⟩, M172, K172, ⟨Eb172, Ub172, Fb0_172, Fb1_172, Fb2_172, Fb3_172, Fb4_172, Fb5_172, Fb6_172⟩⟩ := hQ172
        have N172 := Fr.app N0 M172
        have O173 : Old Z n0 T172.heap := O0.keep K172 (allS g1 all0)
        have K174 : Keep h0 T172.heap [a1] := (Keep.refl h0 [a1]).trans K172 (allS (Or.inl (List.mem_of_getElem? (i := 0) rfl)) all0)
        have E_175 : Exa Z T172.heap a1 "com/example/sidelane/sidelane/Cancellation" := Eb.keep K172
        show Go p e below _ (T172.setTop (mkF m 132 #[.val (.ref a1), .val (.int p1), .val (.int (5 : Int32)), .val (.int (1 : Int32)), .val (.int (1 : Int32)), .val (.int (2 : Int32)), .val (.int z171), .val .null, .unset, .unset] [(.ref r172)]))
        refine Go.st (fun _ => XS.pop X172.here hx rfl (hb hby d4_132) rfl rfl) ?_
        show Go p e below _ (T172.setTop (mkF m 133 #[.val (.ref a1), .val (.int p1), .val (.int (5 : Int32)), .val (.int (1 : Int32)), .val (.int (1 : Int32)), .val (.int (2 : Int32)), .val (.int z171), .val .null, .unset, .unset] []))
        refine Go.st (fun _ => XS.iloadN X172.here hx rfl (hb hby d4_133) rfl) ?_
        show Go p e below _ (T172.setTop (mkF m 134 #[.val (.ref a1), .val (.int p1), .val (.int (5 : Int32)), .val (.int (1 : Int32)), .val (.int (1 : Int32)), .val (.int (2 : Int32)), .val (.int z171), .val .null, .unset, .unset] [(.int (1 : Int32))]))
        refine Go.st (fun _ => XS.iconst X172.here hx rfl (hb hby d4_134)) ?_
        show Go p e below _ (T172.setTop (mkF m 135 #[.val (.ref a1), .val (.int p1), .val (.int (5 : Int32)), .val (.int (1 : Int32)), .val (.int (1 : Int32)), .val (.int (2 : Int32)), .val (.int z171), .val .null, .unset, .unset] [(.int (2 : Int32)), (.int (1 : Int32))]))
        refine Go.st (fun _ => XS.icmpNo X172.here hx rfl (hb hby d4_135) rfl (feq (by decide : ¬ ((1 : Int32) = (2 : Int32)))).1) ?_
        show Go p e below _ (T172.setTop (mkF m 138 #[.val (.ref a1), .val (.int p1), .val (.int (5 : Int32)), .val (.int (1 : Int32)), .val (.int (1 : Int32)), .val (.int (2 : Int32)), .val (.int z171), .val .null, .unset, .unset] []))
        refine Go.st (fun _ => XS.iload X172.here hx rfl (hb hby d4_138) rfl) ?_
        show Go p e below _ (T172.setTop (mkF m 140 #[.val (.ref a1), .val (.int p1), .val (.int (5 : Int32)), .val (.int (1 : Int32)), .val (.int (1 : Int32)), .val (.int (2 : Int32)), .val (.int z171), .val .null, .unset, .unset] [(.int (1 : Int32))]))
        refine Go.st (fun _ => XS.ifYes X172.here hx rfl (pc0 := 140) (pc' := 156) rfl (hb hby d4_140) rfl ((if0 _ _).trans (feq (by decide : ¬ ((1 : Int32) = (0 : Int32)))).2) (by decide) (by decide)) ?_
        show Go p e below _ (T172.setTop (mkF m 156 #[.val (.ref a1), .val (.int p1), .val (.int (5 : Int32)), .val (.int (1 : Int32)), .val (.int (1 : Int32)), .val (.int (2 : Int32)), .val (.int z171), .val .null, .unset, .unset] []))
        refine Go.st (fun _ => XS.iloadN X172.here hx rfl (hb hby d4_156) rfl) ?_
        show Go p e below _ (T172.setTop (mkF m 157 #[.val (.ref a1), .val (.int p1), .val (.int (5 : Int32)), .val (.int (1 : Int32)), .val (.int (1 : Int32)), .val (.int (2 : Int32)), .val (.int z171), .val .null, .unset, .unset] [(.int (1 : Int32))]))
        refine Go.st (fun _ => XS.iload X172.here hx rfl (hb hby d4_157) rfl) ?_
        show Go p e below _ (T172.setTop (mkF m 159 #[.val (.ref a1), .val (.int p1), .val (.int (5 : Int32)), .val (.int (1 : Int32)), .val (.int (1 : Int32)), .val (.int (2 : Int32)), .val (.int z171), .val .null, .unset, .unset] [(.int (1 : Int32)), (.int (1 : Int32))]))
        refine Go.st (fun _ => XS.ifNo X172.here hx rfl (hb hby d4_159) rfl ((if0 _ _).trans (feq (by decide : ¬ ((1 : Int32) = (0 : Int32)))).1)) ?_
        show Go p e below _ (T172.setTop (mkF m 162 #[.val (.ref a1), .val (.int p1), .val (.int (5 : Int32)), .val (.int (1 : Int32)), .val (.int (1 : Int32)), .val (.int (2 : Int32)), .val (.int z171), .val .null, .unset, .unset] [(.int (1 : Int32))]))
        refine Go.st (fun _ => XS.iconst X172.here hx rfl (hb hby d4_162)) ?_
        show Go p e below _ (T172.setTop (mkF m 163 #[.val (.ref a1), .val (.int p1), .val (.int (5 : Int32)), .val (.int (1 : Int32)), .val (.int (1 : Int32)), .val (.int (2 : Int32)), .val (.int z171), .val .null, .unset, .unset] [(.int (4 : Int32)), (.int (1 : Int32))]))
        refine Go.st (fun _ => XS.goto X172.here hx rfl (pc0 := 163) (pc' := 167) rfl (hb hby d4_163) (by decide) (by decide)) ?_
        show Go p e below _ (T172.setTop (mkF m 167 #[.val (.ref a1), .val (.int p1), .val (.int (5 : Int32)), .val (.int (1 : Int32)), .val (.int (1 : Int32)), .val (.int (2 : Int32)), .val (.int z171), .val .null, .unset, .unset] [(.int (4 : Int32)), (.int (1 : Int32))]))
        refine Go.st (fun _ => XS.ior X172.here hx rfl (hb hby d4_167) rfl) ?_
        show Go p e below _ (T172.setTop (mkF m 168 #[.val (.ref a1), .val (.int p1), .val (.int (5 : Int32)), .val (.int (1 : Int32)), .val (.int (1 : Int32)), .val (.int (2 : Int32)), .val (.int z171), .val .null, .unset, .unset] [(.int (5 : Int32))]))
        exact goRetI X172 hx hlk hret rfl (hb hby d4_168) (by decide) (by decide) ⟨_, rfl, by decide, N172, K174, ⟨_, _, _, _, ⟨Eb172, Ub172, Fb0_172, Fb1_172, Fb2_172, Fb3_172, Fb4_172, Fb5_172, Fb6_172⟩, Or.inr (Or.inr (Or.inr (Or.inr ⟨rfl, rfl, rfl, hen, ⟨_, rfl⟩⟩)))⟩⟩
      · show Go p e below _ (s₁.setTop (mkF m 25 #[.val (.ref a1), .val (.int p1), .val (.int (5 : Int32)), .val (.int (1 : Int32)), .val (.int (1 : Int32)), .val (.int (2 : Int32)), .unset, .unset, .unset, .unset] [(.int (p1 &&& (4 : Int32)))]))
        by_cases hc176 : (p1 &&& (4 : Int32)) = (0 : Int32)
        · refine Go.st (fun _ => XS.ifYes X0.here hx rfl (pc0 := 25) (pc' := 32) rfl (hb hby d4_25) rfl ((if0 _ _).trans (teq hc176).1) (by decide) (by decide)) ?_
          show Go p e below _ (s₁.setTop (mkF m 32 #[.val (.ref a1), .val (.int p1), .val (.int (5 : Int32)), .val (.int (1 : Int32)), .val (.int (1 : Int32)), .val (.int (2 : Int32)), .unset, .unset, .unset, .unset] []))
          refine Go.st (fun _ => XS.iconst X0.here hx rfl (hb hby d4_32)) ?_
          exact J171 _ trivial
        · refine Go.st (fun _ => XS.ifNo X0.here hx rfl (hb hby d4_25) rfl ((if0 _ _).trans (feq hc176).1)) ?_
          show Go p e below _ (s₁.setTop (mkF m 28 #[.val (.ref a1), .val (.int p1), .val (.int (5 : Int32)), .val (.int (1 : Int32)), .val (.int (1 : Int32)), .val (.int (2 : Int32)), .unset, .unset, .unset, .unset] []))
          refine Go.st (fun _ => XS.iconst X0.here hx rfl (hb hby d4_28)) ?_
          show Go p e below _ (s₁.setTop (mkF m 29 #[.val (.ref a1), .val (.int p1), .val (.int (5 : Int32)), .val (.int (1 : Int32)), .val (.int (1 : Int32)), .val (.int (2 : Int32)), .unset, .unset, .unset, .unset] [(.int (1 : Int32))]))
          refine Go.st (fun _ => XS.goto X0.here hx rfl (pc0 := 29) (pc' := 33) rfl (hb hby d4_29) (by decide) (by decide)) ?_
          exact J171 _ trivial
    · rw [q0]
      show Go p e below _ (s₁.setTop (mkF m 20 #[.val (.ref a1), .val (.int p1), .val (.int (5 : Int32)), .val (.int (1 : Int32)), .val (.int (1 : Int32)), .unset, .unset, .unset, .unset, .unset] [(.int (3 : Int32))]))
      refine Go.st (fun _ => XS.istore X0.here hx rfl (hb hby d4_20) rfl (l' := #[.val (.ref a1), .val (.int p1), .val (.int (5 : Int32)), .val (.int (1 : Int32)), .val (.int (1 : Int32)), .val (.int (3 : Int32)), .unset, .unset, .unset, .unset]) rfl) ?_
      show Go p e below _ (s₁.setTop (mkF m 22 #[.val (.ref a1), .val (.int p1), .val (.int (5 : Int32)), .val (.int (1 : Int32)), .val (.int (1 : Int32)), .val (.int (3 : Int32)), .unset, .unset, .unset, .unset] []))
      refine Go.st (fun _ => XS.iloadN X0.here hx rfl (hb hby d4_22) rfl) ?_
      show Go p e below _ (s₁.setTop (mkF m 23 #[.val (.ref a1), .val (.int p1), .val (.int (5 : Int32)), .val (.int (1 : Int32)), .val (.int (1 : Int32)), .val (.int (3 : Int32)), .unset, .unset, .unset, .unset] [(.int p1)]))
      refine Go.st (fun _ => XS.iconst X0.here hx rfl (hb hby d4_23)) ?_
      show Go p e below _ (s₁.setTop (mkF m 24 #[.val (.ref a1), .val (.int p1), .val (.int (5 : Int32)), .val (.int (1 : Int32)), .val (.int (1 : Int32)), .val (.int (3 : Int32)), .unset, .unset, .unset, .unset] [(.int (4 : Int32)), (.int p1)]))
      refine Go.st (fun _ => XS.iand X0.here hx rfl (hb hby d4_24) rfl) ?_
      show Go p e below _ (s₁.setTop (mkF m 25 #[.val (.ref a1), .val (.int p1), .val (.int (5 : Int32)), .val (.int (1 : Int32)), .val (.int (1 : Int32)), .val (.int (3 : Int32)), .unset, .unset, .unset, .unset] [(.int (p1 &&& (4 : Int32)))]))
      refine goJoin (P := fun z177 : Int32 => True) (F := fun z177 => s₁.setTop (mkF m 33 #[.val (.ref a1), .val (.int p1), .val (.int (5 : Int32)), .val (.int (1 : Int32)), .val (.int (1 : Int32)), .val (.int (3 : Int32)), .unset, .unset, .unset, .unset] [(.int z177)])) (fun z177 hz177 => ?_) (fun J177 => ?_)
      · show Go p e below _ (s₁.setTop (mkF m 33 #[.val (.ref a1), .val (.int p1), .val (.int (5 : Int32)), .val (.int (1 : Int32)), .val (.int (1 : Int32)), .val (.int (3 : Int32)), .unset, .unset, .unset, .unset] [(.int z177)]))
        refine Go.st (fun _ => XS.istore X0.here hx rfl (hb hby d4_33) rfl (l' := #[.val (.ref a1), .val (.int p1), .val (.int (5 : Int32)), .val (.int (1 : Int32)), .val (.int (1 : Int32)), .val (.int (3 : Int32)), .val (.int z177), .unset, .unset, .unset]) rfl) ?_
        show Go p e below _ (s₁.setTop (mkF m 35 #[.val (.ref a1), .val (.int p1), .val (.int (5 : Int32)), .val (.int (1 : Int32)), .val (.int (1 : Int32)), .val (.int (3 : Int32)), .val (.int z177), .unset, .unset, .unset] []))
        refine Go.st (fun _ => XS.iload X0.here hx rfl (hb hby d4_35) rfl) ?_
        show Go p e below _ (s₁.setTop (mkF m 37 #[.val (.ref a1), .val (.int p1), .val (.int (5 : Int32)), .val (.int (1 : Int32)), .val (.int (1 : Int32)), .val (.int (3 : Int32)), .val (.int z177), .unset, .unset, .unset] [(.int (3 : Int32))]))
        refine Go.st (fun _ => XS.ifNo X0.here hx rfl (hb hby d4_37) rfl ((if0 _ _).trans (feq (by decide : ¬ ((3 : Int32) = (0 : Int32)))).1)) ?_
        show Go p e below _ (s₁.setTop (mkF m 40 #[.val (.ref a1), .val (.int p1), .val (.int (5 : Int32)), .val (.int (1 : Int32)), .val (.int (1 : Int32)), .val (.int (3 : Int32)), .val (.int z177), .unset, .unset, .unset] []))
        refine Go.st (fun _ => XS.iload X0.here hx rfl (hb hby d4_40) rfl) ?_
        show Go p e below _ (s₁.setTop (mkF m 42 #[.val (.ref a1), .val (.int p1), .val (.int (5 : Int32)), .val (.int (1 : Int32)), .val (.int (1 : Int32)), .val (.int (3 : Int32)), .val (.int z177), .unset, .unset, .unset] [(.int (3 : Int32))]))
        refine Go.st (fun _ => XS.iconst X0.here hx rfl (hb hby d4_42)) ?_
        show Go p e below _ (s₁.setTop (mkF m 43 #[.val (.ref a1), .val (.int p1), .val (.int (5 : Int32)), .val (.int (1 : Int32)), .val (.int (1 : Int32)), .val (.int (3 : Int32)), .val (.int z177), .unset, .unset, .unset] [(.int (1 : Int32)), (.int (3 : Int32))]))
        refine Go.st (fun _ => XS.icmpYes X0.here hx rfl (pc0 := 43) (pc' := 108) rfl (hb hby d4_43) rfl (feq (by decide : ¬ ((3 : Int32) = (1 : Int32)))).2 (by decide) (by decide)) ?_
        show Go p e below _ (s₁.setTop (mkF m 108 #[.val (.ref a1), .val (.int p1), .val (.int (5 : Int32)), .val (.int (1 : Int32)), .val (.int (1 : Int32)), .val (.int (3 : Int32)), .val (.int z177), .unset, .unset, .unset] []))
        refine Go.st (fun _ => XS.iload X0.here hx rfl (hb hby d4_108) rfl) ?_
        show Go p e below _ (s₁.setTop (mkF m 110 #[.val (.ref a1), .val (.int p1), .val (.int (5 : Int32)), .val (.int (1 : Int32)), .val (.int (1 : Int32)), .val (.int (3 : Int32)), .val (.int z177), .unset, .unset, .unset] [(.int (3 : Int32))]))
        refine Go.st (fun _ => XS.iconst X0.here hx rfl (hb hby d4_110)) ?_
        show Go p e below _ (s₁.setTop (mkF m 111 #[.val (.ref a1), .val (.int p1), .val (.int (5 : Int32)), .val (.int (1 : Int32)), .val (.int (1 : Int32)), .val (.int (3 : Int32)), .val (.int z177), .unset, .unset, .unset] [(.int (3 : Int32)), (.int (3 : Int32))]))
        refine Go.st (fun _ => XS.icmpNo X0.here hx rfl (hb hby d4_111) rfl (teq (by decide : (3 : Int32) = (3 : Int32))).2) ?_
        show Go p e below _ (s₁.setTop (mkF m 114 #[.val (.ref a1), .val (.int p1), .val (.int (5 : Int32)), .val (.int (1 : Int32)), .val (.int (1 : Int32)), .val (.int (3 : Int32)), .val (.int z177), .unset, .unset, .unset] []))
        refine Go.st (fun _ => XS.iloadN X0.here hx rfl (hb hby d4_114) rfl) ?_
        show Go p e below _ (s₁.setTop (mkF m 115 #[.val (.ref a1), .val (.int p1), .val (.int (5 : Int32)), .val (.int (1 : Int32)), .val (.int (1 : Int32)), .val (.int (3 : Int32)), .val (.int z177), .unset, .unset, .unset] [(.int p1)]))
        refine goCallS X0 hx hZ (y := (⟨"java/lang/Integer", "valueOf", "(I)Ljava/lang/Integer;"⟩ : MethodName)) hown (hw _ (List.mem_of_getElem? (i := 31) rfl)) (hw _ (List.mem_of_getElem? (i := 32) rfl)) (hw _ (List.mem_of_getElem? (i := 33) rfl)) (hw _ (List.mem_of_getElem? (i := 34) rfl)) (by decide) (argsL := [(.int p1)]) (rest := []) e0 (rmBox l Z a0 hw [] p1 wc cl h0 n0 O0 S_cache S_high BX) 0 (by decide) (by decide) (by decide) (by decide) (mkF m 115 #[.val (.ref a1), .val (.int p1), .val (.int (5 : Int32)), .val (.int (1 : Int32)), .val (.int (1 : Int32)), .val (.int (3 : Int32)), .val (.int z177), .unset, .unset, .unset] [(.int p1)]) rfl (by rw [hml]; rfl) (lenOf pd_5 rfl) rfl (hb hby d4_115) (Nat.le_of_eq rfl) ?_
        intro v178 T178 L178 X178 hQ178
        obtain ⟨⟨r178, rfl, Er178, Gr178⟩, M178, K178⟩ := hQ178
        have N178 := Fr.app N0 M178
        have O179 : Old Z n0 T178.heap := O0.keep K178 all0
        have K180 : Keep h0 T178.heap [a1] := (Keep.refl h0 [a1]).trans K178 all0
        have E_181 : Exa Z T178.heap a1 "com/example/sidelane/sidelane/Cancellation" := Eb.keep K178
        have Y182 : Unt T178.heap a1 := untKeep Ub K178 nin0
        have F183 : Fld Z T178.heap a1 "com/example/sidelane/sidelane/Cancellation" "claimedBy" "Lcom/example/sidelane/sidelane/Cancellation$Claimant;" (.ref w_EXECUTE) := Fb0.keep K178 nin0
        have F184 : Fld Z T178.heap a1 "com/example/sidelane/sidelane/Cancellation" "cancelled" "Z" (.int (1 : Int32)) := Fb1.keep K178 nin0
        have F185 : Fld Z T178.heap a1 "com/example/sidelane/sidelane/Cancellation" "endingBegun" "Z" (.int (0 : Int32)) := Fb2.keep K178 nin0
        have F186 : Fld Z T178.heap a1 "com/example/sidelane/sidelane/Cancellation" "queued" "Z" (.int (0 : Int32)) := Fb3.keep K178 nin0
        have F187 : Fld Z T178.heap a1 "com/example/sidelane/sidelane/Cancellation" "runner" "Ljava/lang/Thread;" .null := Fb4.keep K178 nin0
        have F188 : Fld Z T178.heap a1 "com/example/sidelane/sidelane/Cancellation" "cancelEnding" "Ljava/lang/Object;" en := Fb5.keep K178 nin0
        have F189 : Fld Z T178.heap a1 "com/example/sidelane/sidelane/Cancellation" "cancelOutcome" "Lcom/example/sidelane/sidelane/Cancellation$Outcome;" (.ref a6) := Fb6.keep K178 nin0
        show Go p e below _ (T178.setTop (mkF m 118 #[.val (.ref a1), .val (.int p1), .val (.int (5 : Int32)), .val (.int (1 : Int32)), .val (.int (1 : Int32)), .val (.int (3 : Int32)), .val (.int z177), .unset, .unset, .unset] [(.ref r178)]))
        refine Go.st (fun _ => XS.goto X178.here hx rfl (pc0 := 118) (pc' := 122) rfl (hb hby d4_118) (by decide) (by decide)) ?_
        show Go p e below _ (T178.setTop (mkF m 122 #[.val (.ref a1), .val (.int p1), .val (.int (5 : Int32)), .val (.int (1 : Int32)), .val (.int (1 : Int32)), .val (.int (3 : Int32)), .val (.int z177), .unset, .unset, .unset] [(.ref r178)]))
        refine Go.st (fun _ => XS.astore X178.here hx rfl (hb hby d4_122) rfl rfl (l' := #[.val (.ref a1), .val (.int p1), .val (.int (5 : Int32)), .val (.int (1 : Int32)), .val (.int (1 : Int32)), .val (.int (3 : Int32)), .val (.int z177), .val (.ref r178), .unset, .unset]) rfl) ?_
        show Go p e below _ (T178.setTop (mkF m 124 #[.val (.ref a1), .val (.int p1), .val (.int (5 : Int32)), .val (.int (1 : Int32)), .val (.int (1 : Int32)), .val (.int (3 : Int32)), .val (.int z177), .val (.ref r178), .unset, .unset] []))
        refine Go.st (fun _ => XS.aloadN X178.here hx rfl (hb hby d4_124) rfl rfl) ?_
        show Go p e below _ (T178.setTop (mkF m 125 #[.val (.ref a1), .val (.int p1), .val (.int (5 : Int32)), .val (.int (1 : Int32)), .val (.int (1 : Int32)), .val (.int (3 : Int32)), .val (.int z177), .val (.ref r178), .unset, .unset] [(.ref a1)]))
        refine Go.st (fun _ => XS.iload X178.here hx rfl (hb hby d4_125) rfl) ?_
        show Go p e below _ (T178.setTop (mkF m 127 #[.val (.ref a1), .val (.int p1), .val (.int (5 : Int32)), .val (.int (1 : Int32)), .val (.int (1 : Int32)), .val (.int (3 : Int32)), .val (.int z177), .val (.ref r178), .unset, .unset] [(.int z177), (.ref a1)]))
        refine Go.st (fun _ => XS.aload X178.here hx rfl (hb hby d4_127) rfl rfl) ?_
        show Go p e below _ (T178.setTop (mkF m 129 #[.val (.ref a1), .val (.int p1), .val (.int (5 : Int32)), .val (.int (1 : Int32)), .val (.int (1 : Int32)), .val (.int (3 : Int32)), .val (.int z177), .val (.ref r178), .unset, .unset] [(.ref r178), (.int z177), (.ref a1)]))
        rcases hen with rfl | ⟨a4, rfl⟩
        · show Go p e below _ (T178.setTop (mkF m 129 #[.val (.ref a1), .val (.int p1), .val (.int (5 : Int32)), .val (.int (1 : Int32)), .val (.int (1 : Int32)), .val (.int (3 : Int32)), .val (.int z177), .val (.ref r178), .unset, .unset] [(.ref r178), (.int z177), (.ref a1)]))
          refine goVirtS X178 hx hZ (y := (⟨"com/example/sidelane/sidelane/Cancellation", "cancel", "(ZLjava/lang/Object;)Lcom/example/sidelane/sidelane/Cancellation$Outcome;"⟩ : MethodName)) (z := (⟨"com/example/sidelane/sidelane/Cancellation", "cancel", "(ZLjava/lang/Object;)Lcom/example/sidelane/sidelane/Cancellation$Outcome;"⟩ : MethodName)) hown (hw _ (List.mem_of_getElem? (i := 38) rfl)) (hw _ (List.mem_of_getElem? (i := 39) rfl)) (notFace_of_selects (args := #[]) (mvT hZ (hw _ (List.mem_of_getElem? (i := 41) rfl)))) (hw _ (List.mem_of_getElem? (i := 41) rfl)) (hw _ (List.mem_of_getElem? (i := 40) rfl)) (hw _ (List.mem_of_getElem? (i := 2) rfl)) (hw _ (List.mem_of_getElem? (i := 42) rfl)) (by decide) (a := a1) (argsL := [(.int z177), (.ref r178)]) (rest := []) rfl E_181 (caCE l Z a0 hw a1 z177 r178 (.ref a6) w_EXECUTE w_ADOPTER w_CANCELLED w_REFUSED w_HANDED_OVER w_CANCELLED_UNEXECUTED w_ENDING_NEEDED T178.heap n0 O179 Y182 g1 E_181 F183 F184 F185 F186 F187 F188 F189 S_w_EXECUTE S_w_ADOPTER S_w_CANCELLED S_w_REFUSED S_w_HANDED_OVER S_w_CANCELLED_UNEXECUTED S_w_ENDING_NEEDED ne_w_EXECUTE_w_ADOPTER) 0 (by decide) (by decide) (by decide) (by decide) (mkF m 129 #[.val (.ref a1), .val (.int p1), .val (.int (5 : Int32)), .val (.int (1 : Int32)), .val (.int (1 : Int32)), .val (.int (3 : Int32)), .val (.int z177), .val (.ref r178), .unset, .unset] [(.ref r178), (.int z177), (.ref a1)]) rfl (by rw [hml]; rfl) (lenOf pd_4 rfl) rfl (hb hby d4_129) (Nat.le_of_eq rfl) ?_
          intro v190 T190 L190 X190 hQ190
          obtain ⟨⟨r190, rfl⟩, M190, K190, ⟨Eb190, Ub190, Fb0_190, Fb1_190, Fb2_190, Fb3_190, Fb4_190, Fb5_190, Fb6_190⟩⟩ := hQ190
          have N190 := Fr.app N178 M190
          have O191 : Old Z n0 T190.heap := O179.keep K190 (allS g1 all0)
          have K192 : Keep h0 T190.heap [a1] := K180.trans K190 (allS (Or.inl (List.mem_of_getElem? (i := 0) rfl)) all0)
          have E_193 : Exa Z T190.heap a1 "com/example/sidelane/sidelane/Cancellation" := E_181.keep K190
          show Go p e below _ (T190.setTop (mkF m 132 #[.val (.ref a1), .val (.int p1), .val (.int (5 : Int32)), .val (.int (1 : Int32)), .val (.int (1 : Int32)), .val (.int (3 : Int32)), .val (.int z177), .val (.ref r178), .unset, .unset] [(.ref r190)]))
          refine Go.st (fun _ => XS.pop X190.here hx rfl (hb hby d4_132) rfl rfl) ?_
          show Go p e below _ (T190.setTop (mkF m 133 #[.val (.ref a1), .val (.int p1), .val (.int (5 : Int32)), .val (.int (1 : Int32)), .val (.int (1 : Int32)), .val (.int (3 : Int32)), .val (.int z177), .val (.ref r178), .unset, .unset] []))
          refine Go.st (fun _ => XS.iloadN X190.here hx rfl (hb hby d4_133) rfl) ?_
          show Go p e below _ (T190.setTop (mkF m 134 #[.val (.ref a1), .val (.int p1), .val (.int (5 : Int32)), .val (.int (1 : Int32)), .val (.int (1 : Int32)), .val (.int (3 : Int32)), .val (.int z177), .val (.ref r178), .unset, .unset] [(.int (1 : Int32))]))
          refine Go.st (fun _ => XS.iconst X190.here hx rfl (hb hby d4_134)) ?_
          show Go p e below _ (T190.setTop (mkF m 135 #[.val (.ref a1), .val (.int p1), .val (.int (5 : Int32)), .val (.int (1 : Int32)), .val (.int (1 : Int32)), .val (.int (3 : Int32)), .val (.int z177), .val (.ref r178), .unset, .unset] [(.int (2 : Int32)), (.int (1 : Int32))]))
          refine Go.st (fun _ => XS.icmpNo X190.here hx rfl (hb hby d4_135) rfl (feq (by decide : ¬ ((1 : Int32) = (2 : Int32)))).1) ?_
          show Go p e below _ (T190.setTop (mkF m 138 #[.val (.ref a1), .val (.int p1), .val (.int (5 : Int32)), .val (.int (1 : Int32)), .val (.int (1 : Int32)), .val (.int (3 : Int32)), .val (.int z177), .val (.ref r178), .unset, .unset] []))
          refine Go.st (fun _ => XS.iload X190.here hx rfl (hb hby d4_138) rfl) ?_
          show Go p e below _ (T190.setTop (mkF m 140 #[.val (.ref a1), .val (.int p1), .val (.int (5 : Int32)), .val (.int (1 : Int32)), .val (.int (1 : Int32)), .val (.int (3 : Int32)), .val (.int z177), .val (.ref r178), .unset, .unset] [(.int (1 : Int32))]))
          refine Go.st (fun _ => XS.ifYes X190.here hx rfl (pc0 := 140) (pc' := 156) rfl (hb hby d4_140) rfl ((if0 _ _).trans (feq (by decide : ¬ ((1 : Int32) = (0 : Int32)))).2) (by decide) (by decide)) ?_
          show Go p e below _ (T190.setTop (mkF m 156 #[.val (.ref a1), .val (.int p1), .val (.int (5 : Int32)), .val (.int (1 : Int32)), .val (.int (1 : Int32)), .val (.int (3 : Int32)), .val (.int z177), .val (.ref r178), .unset, .unset] []))
          refine Go.st (fun _ => XS.iloadN X190.here hx rfl (hb hby d4_156) rfl) ?_
          show Go p e below _ (T190.setTop (mkF m 157 #[.val (.ref a1), .val (.int p1), .val (.int (5 : Int32)), .val (.int (1 : Int32)), .val (.int (1 : Int32)), .val (.int (3 : Int32)), .val (.int z177), .val (.ref r178), .unset, .unset] [(.int (1 : Int32))]))
          refine Go.st (fun _ => XS.iload X190.here hx rfl (hb hby d4_157) rfl) ?_
          show Go p e below _ (T190.setTop (mkF m 159 #[.val (.ref a1), .val (.int p1), .val (.int (5 : Int32)), .val (.int (1 : Int32)), .val (.int (1 : Int32)), .val (.int (3 : Int32)), .val (.int z177), .val (.ref r178), .unset, .unset] [(.int (1 : Int32)), (.int (1 : Int32))]))
          refine Go.st (fun _ => XS.ifNo X190.here hx rfl (hb hby d4_159) rfl ((if0 _ _).trans (feq (by decide : ¬ ((1 : Int32) = (0 : Int32)))).1)) ?_
          show Go p e below _ (T190.setTop (mkF m 162 #[.val (.ref a1), .val (.int p1), .val (.int (5 : Int32)), .val (.int (1 : Int32)), .val (.int (1 : Int32)), .val (.int (3 : Int32)), .val (.int z177), .val (.ref r178), .unset, .unset] [(.int (1 : Int32))]))
          refine Go.st (fun _ => XS.iconst X190.here hx rfl (hb hby d4_162)) ?_
          show Go p e below _ (T190.setTop (mkF m 163 #[.val (.ref a1), .val (.int p1), .val (.int (5 : Int32)), .val (.int (1 : Int32)), .val (.int (1 : Int32)), .val (.int (3 : Int32)), .val (.int z177), .val (.ref r178), .unset, .unset] [(.int (4 : Int32)), (.int (1 : Int32))]))
          refine Go.st (fun _ => XS.goto X190.here hx rfl (pc0 := 163) (pc' := 167) rfl (hb hby d4_163) (by decide) (by decide)) ?_
          show Go p e below _ (T190.setTop (mkF m 167 #[.val (.ref a1), .val (.int p1), .val (.int (5 : Int32)), .val (.int (1 : Int32)), .val (.int (1 : Int32)), .val (.int (3 : Int32)), .val (.int z177), .val (.ref r178), .unset, .unset] [(.int (4 : Int32)), (.int (1 : Int32))]))
          refine Go.st (fun _ => XS.ior X190.here hx rfl (hb hby d4_167) rfl) ?_
          show Go p e below _ (T190.setTop (mkF m 168 #[.val (.ref a1), .val (.int p1), .val (.int (5 : Int32)), .val (.int (1 : Int32)), .val (.int (1 : Int32)), .val (.int (3 : Int32)), .val (.int z177), .val (.ref r178), .unset, .unset] [(.int (5 : Int32))]))
          exact goRetI X190 hx hlk hret rfl (hb hby d4_168) (by decide) (by decide) ⟨_, rfl, by decide, N190, K192, ⟨_, _, _, _, ⟨Eb190, Ub190, Fb0_190, Fb1_190, Fb2_190, Fb3_190, Fb4_190, Fb5_190, Fb6_190⟩, Or.inr (Or.inr (Or.inr (Or.inr ⟨rfl, rfl, rfl, (Or.inl rfl), ⟨_, rfl⟩⟩)))⟩⟩
        · show Go p e below _ (T178.setTop (mkF m 129 #[.val (.ref a1), .val (.int p1), .val (.int (5 : Int32)), .val (.int (1 : Int32)), .val (.int (1 : Int32)), .val (.int (3 : Int32)), .val (.int z177), .val (.ref r178), .unset, .unset] [(.ref r178), (.int z177), (.ref a1)]))
          refine goVirtS X178 hx hZ (y := (⟨"com/example/sidelane/sidelane/Cancellation", "cancel", "(ZLjava/lang/Object;)Lcom/example/sidelane/sidelane/Cancellation$Outcome;"⟩ : MethodName)) (z := (⟨"com/example/sidelane/sidelane/Cancellation", "cancel", "(ZLjava/lang/Object;)Lcom/example/sidelane/sidelane/Cancellation$Outcome;"⟩ : MethodName)) hown (hw _ (List.mem_of_getElem? (i := 38) rfl)) (hw _ (List.mem_of_getElem? (i := 39) rfl)) (notFace_of_selects (args := #[]) (mvT hZ (hw _ (List.mem_of_getElem? (i := 41) rfl)))) (hw _ (List.mem_of_getElem? (i := 41) rfl)) (hw _ (List.mem_of_getElem? (i := 40) rfl)) (hw _ (List.mem_of_getElem? (i := 2) rfl)) (hw _ (List.mem_of_getElem? (i := 42) rfl)) (by decide) (a := a1) (argsL := [(.int z177), (.ref r178)]) (rest := []) rfl E_181 (caDE l Z a0 hw a1 z177 r178 a4 a6  w_EXECUTE w_ADOPTER w_CANCELLED w_REFUSED w_HANDED_OVER w_CANCELLED_UNEXECUTED w_ENDING_NEEDED T178.heap n0 O179 Y182 g1 E_181 F183 F184 F185 F186 F187 F188 F189 S_w_EXECUTE S_w_ADOPTER S_w_CANCELLED S_w_REFUSED S_w_HANDED_OVER S_w_CANCELLED_UNEXECUTED S_w_ENDING_NEEDED ne_w_EXECUTE_w_ADOPTER) 0 (by decide) (by decide) (by decide) (by decide) (mkF m 129 #[.val (.ref a1), .val (.int p1), .val (.int (5 : Int32)), .val (.int (1 : Int32)), .val (.int (1 : Int32)), .val (.int (3 : Int32)), .val (.int z177), .val (.ref r178), .unset, .unset] [(.ref r178), (.int z177), (.ref a1)]) rfl (by rw [hml]; rfl) (lenOf pd_4 rfl) rfl (hb hby d4_129) (Nat.le_of_eq rfl) ?_
          intro v194 T194 L194 X194 hQ194
          obtain ⟨⟨r194, rfl⟩, M194, K194, ⟨Eb194, Ub194, Fb0_194, Fb1_194, Fb2_194, Fb3_194, Fb4_194, Fb5_194, Fb6_194⟩⟩ := hQ194
          have N194 := Fr.app N178 M194
          have O195 : Old Z n0 T194.heap := O179.keep K194 (allS g1 all0)
          have K196 : Keep h0 T194.heap [a1] := K180.trans K194 (allS (Or.inl (List.mem_of_getElem? (i := 0) rfl)) all0)
          have E_197 : Exa Z T194.heap a1 "com/example/sidelane/sidelane/Cancellation" := E_181.keep K194
          show Go p e below _ (T194.setTop (mkF m 132 #[.val (.ref a1), .val (.int p1), .val (.int (5 : Int32)), .val (.int (1 : Int32)), .val (.int (1 : Int32)), .val (.int (3 : Int32)), .val (.int z177), .val (.ref r178), .unset, .unset] [(.ref r194)]))
          refine Go.st (fun _ => XS.pop X194.here hx rfl (hb hby d4_132) rfl rfl) ?_
          show Go p e below _ (T194.setTop (mkF m 133 #[.val (.ref a1), .val (.int p1), .val (.int (5 : Int32)), .val (.int (1 : Int32)), .val (.int (1 : Int32)), .val (.int (3 : Int32)), .val (.int z177), .val (.ref r178), .unset, .unset] []))
          refine Go.st (fun _ => XS.iloadN X194.here hx rfl (hb hby d4_133) rfl) ?_
          show Go p e below _ (T194.setTop (mkF m 134 #[.val (.ref a1), .val (.int p1), .val (.int (5 : Int32)), .val (.int (1 : Int32)), .val (.int (1 : Int32)), .val (.int (3 : Int32)), .val (.int z177), .val (.ref r178), .unset, .unset] [(.int (1 : Int32))]))
          refine Go.st (fun _ => XS.iconst X194.here hx rfl (hb hby d4_134)) ?_
          show Go p e below _ (T194.setTop (mkF m 135 #[.val (.ref a1), .val (.int p1), .val (.int (5 : Int32)), .val (.int (1 : Int32)), .val (.int (1 : Int32)), .val (.int (3 : Int32)), .val (.int z177), .val (.ref r178), .unset, .unset] [(.int (2 : Int32)), (.int (1 : Int32))]))
          refine Go.st (fun _ => XS.icmpNo X194.here hx rfl (hb hby d4_135) rfl (feq (by decide : ¬ ((1 : Int32) = (2 : Int32)))).1) ?_
          show Go p e below _ (T194.setTop (mkF m 138 #[.val (.ref a1), .val (.int p1), .val (.int (5 : Int32)), .val (.int (1 : Int32)), .val (.int (1 : Int32)), .val (.int (3 : Int32)), .val (.int z177), .val (.ref r178), .unset, .unset] []))
          refine Go.st (fun _ => XS.iload X194.here hx rfl (hb hby d4_138) rfl) ?_
          show Go p e below _ (T194.setTop (mkF m 140 #[.val (.ref a1), .val (.int p1), .val (.int (5 : Int32)), .val (.int (1 : Int32)), .val (.int (1 : Int32)), .val (.int (3 : Int32)), .val (.int z177), .val (.ref r178), .unset, .unset] [(.int (1 : Int32))]))
          refine Go.st (fun _ => XS.ifYes X194.here hx rfl (pc0 := 140) (pc' := 156) rfl (hb hby d4_140) rfl ((if0 _ _).trans (feq (by decide : ¬ ((1 : Int32) = (0 : Int32)))).2) (by decide) (by decide)) ?_
          show Go p e below _ (T194.setTop (mkF m 156 #[.val (.ref a1), .val (.int p1), .val (.int (5 : Int32)), .val (.int (1 : Int32)), .val (.int (1 : Int32)), .val (.int (3 : Int32)), .val (.int z177), .val (.ref r178), .unset, .unset] []))
          refine Go.st (fun _ => XS.iloadN X194.here hx rfl (hb hby d4_156) rfl) ?_
          show Go p e below _ (T194.setTop (mkF m 157 #[.val (.ref a1), .val (.int p1), .val (.int (5 : Int32)), .val (.int (1 : Int32)), .val (.int (1 : Int32)), .val (.int (3 : Int32)), .val (.int z177), .val (.ref r178), .unset, .unset] [(.int (1 : Int32))]))
          refine Go.st (fun _ => XS.iload X194.here hx rfl (hb hby d4_157) rfl) ?_
          show Go p e below _ (T194.setTop (mkF m 159 #[.val (.ref a1), .val (.int p1), .val (.int (5 : Int32)), .val (.int (1 : Int32)), .val (.int (1 : Int32)), .val (.int (3 : Int32)), .val (.int z177), .val (.ref r178), .unset, .unset] [(.int (1 : Int32)), (.int (1 : Int32))]))
          refine Go.st (fun _ => XS.ifNo X194.here hx rfl (hb hby d4_159) rfl ((if0 _ _).trans (feq (by decide : ¬ ((1 : Int32) = (0 : Int32)))).1)) ?_
          show Go p e below _ (T194.setTop (mkF m 162 #[.val (.ref a1), .val (.int p1), .val (.int (5 : Int32)), .val (.int (1 : Int32)), .val (.int (1 : Int32)), .val (.int (3 : Int32)), .val (.int z177), .val (.ref r178), .unset, .unset] [(.int (1 : Int32))]))
          refine Go.st (fun _ => XS.iconst X194.here hx rfl (hb hby d4_162)) ?_
          show Go p e below _ (T194.setTop (mkF m 163 #[.val (.ref a1), .val (.int p1), .val (.int (5 : Int32)), .val (.int (1 : Int32)), .val (.int (1 : Int32)), .val (.int (3 : Int32)), .val (.int z177), .val (.ref r178), .unset, .unset] [(.int (4 : Int32)), (.int (1 : Int32))]))
          refine Go.st (fun _ => XS.goto X194.here hx rfl (pc0 := 163) (pc' := 167) rfl (hb hby d4_163) (by decide) (by decide)) ?_
          show Go p e below _ (T194.setTop (mkF m 167 #[.val (.ref a1), .val (.int p1), .val (.int (5 : Int32)), .val (.int (1 : Int32)), .val (.int (1 : Int32)), .val (.int (3 : Int32)), .val (.int z177), .val (.ref r178), .unset, .unset] [(.int (4 : Int32)), (.int (1 : Int32))]))
          refine Go.st (fun _ => XS.ior X194.here hx rfl (hb hby d4_167) rfl) ?_
          show Go p e below _ (T194.setTop (mkF m 168 #[.val (.ref a1), .val (.int p1), .val (.int (5 : Int32)), .val (.int (1 : Int32)), .val (.int (1 : Int32)), .val (.int (3 : Int32)), .val (.int z177), .val (.ref r178), .unset, .unset] [(.int (5 : Int32))]))
          exact goRetI X194 hx hlk hret rfl (hb hby d4_168) (by decide) (by decide) ⟨_, rfl, by decide, N194, K196, ⟨_, _, _, _, ⟨Eb194, Ub194, Fb0_194, Fb1_194, Fb2_194, Fb3_194, Fb4_194, Fb5_194, Fb6_194⟩, Or.inr (Or.inr (Or.inr (Or.inr ⟨rfl, rfl, rfl, (Or.inr ⟨_, rfl⟩), ⟨_, rfl⟩⟩)))⟩⟩
      · show Go p e below _ (s₁.setTop (mkF m 25 #[.val (.ref a1), .val (.int p1), .val (.int (5 : Int32)), .val (.int (1 : Int32)), .val (.int (1 : Int32)), .val (.int (3 : Int32)), .unset, .unset, .unset, .unset] [(.int (p1 &&& (4 : Int32)))]))
        by_cases hc198 : (p1 &&& (4 : Int32)) = (0 : Int32)
        · refine Go.st (fun _ => XS.ifYes X0.here hx rfl (pc0 := 25) (pc' := 32) rfl (hb hby d4_25) rfl ((if0 _ _).trans (teq hc198).1) (by decide) (by decide)) ?_
          show Go p e below _ (s₁.setTop (mkF m 32 #[.val (.ref a1), .val (.int p1), .val (.int (5 : Int32)), .val (.int (1 : Int32)), .val (.int (1 : Int32)), .val (.int (3 : Int32)), .unset, .unset, .unset, .unset] []))
          refine Go.st (fun _ => XS.iconst X0.here hx rfl (hb hby d4_32)) ?_
          exact J177 _ trivial
        · refine Go.st (fun _ => XS.ifNo X0.here hx rfl (hb hby d4_25) rfl ((if0 _ _).trans (feq hc198).1)) ?_
          show Go p e below _ (s₁.setTop (mkF m 28 #[.val (.ref a1), .val (.int p1), .val (.int (5 : Int32)), .val (.int (1 : Int32)), .val (.int (1 : Int32)), .val (.int (3 : Int32)), .unset, .unset, .unset, .unset] []))
          refine Go.st (fun _ => XS.iconst X0.here hx rfl (hb hby d4_28)) ?_
          show Go p e below _ (s₁.setTop (mkF m 29 #[.val (.ref a1), .val (.int p1), .val (.int (5 : Int32)), .val (.int (1 : Int32)), .val (.int (1 : Int32)), .val (.int (3 : Int32)), .unset, .unset, .unset, .unset] [(.int (1 : Int32))]))
          refine Go.st (fun _ => XS.goto X0.here hx rfl (pc0 := 29) (pc' := 33) rfl (hb hby d4_29) (by decide) (by decide)) ?_
          exact J177 _ trivial
theorem d1_0 : decode prog_3_method_1_code 0 = .ok (.aload_n 0, 1) := by decide +kernel
theorem d1_1 : decode prog_3_method_1_code 1 = .ok (.invokespecial 1, 3) := by decide +kernel
theorem d1_4 : decode prog_3_method_1_code 4 = .ok (.return_, 1) := by decide +kernel
theorem pn_1 : plainName "com/example/sidelane/sidelane/Cancellation" = true := by first | (simp [plainName, overriddenIn]; done) | decide +kernel
set_option maxRecDepth 65536 in
set_option maxHeartbeats 40000000 in
theorem rmCI (l : Launch) (Z : State) (a0 : Array Value) (hw : ∀ d ∈ tables_1, d.before a0 Z = true) (ws : List Jvm.Cond) (a1 : Addr) (h0 : Heap) (n0 : Nat) (O0 : Old Z n0 h0) :
    Ctr l (⟨"com/example/sidelane/sidelane/Cancellation", "<init>", "()V"⟩ : MethodName) prog_3_method_1_code 1 none ws ({ frames := 1, cells := 0, slots := 0, locals := 12 } : Room) #[(.ref a1)] Z h0 (fun v h L => v = none ∧ Fr n0 L ∧ h = h0) := by
  have ef : ∀ m : MethodId, entryFrame m #[(.ref a1)] 1 = mkF m 0 #[.val (.ref a1)] [] := fun m => by first | (simp [entryFrame, mkF, argsToLocals, Value.category]; done) | rfl
  refine Ctr.of (plainFor_of_name pn_1) ?_
  intro p e s m below meth c s₁ hx hZ hby hml hown0 hnm hret hlk X0 e0
  have hown : s.vm.findClass "com/example/sidelane/sidelane/Cancellation" = some m.cls := hown0
  have N0 := Fr.nil n0
  refine Go.st (fun t k => castTop (ef m) k) ?_
  show Go p e below _ (s₁.setTop (mkF m 0 #[.val (.ref a1)] []))
  refine Go.st (fun _ => XS.aloadN X0.here hx rfl (hb hby d1_0) rfl rfl) ?_
  show Go p e below _ (s₁.setTop (mkF m 1 #[.val (.ref a1)] [(.ref a1)]))
  obtain ⟨T1, X1, e1, st1⟩ := initO X0 hx hZ hown (hw _ (List.mem_of_getElem? (i := 6) rfl)) (hw _ (List.mem_of_getElem? (i := 7) rfl)) (hw _ (List.mem_of_getElem? (i := 8) rfl)) e0 (g := (mkF m 1 #[.val (.ref a1)] [(.ref a1)])) rfl (by rw [hml]; rfl) rfl (hb hby d1_1) (by decide) (W := 0) (by show 2 * 0 + _ ≤ _; exact Nat.le_of_eq rfl) (by decide)
  refine Go.st st1 ?_
  show Go p e below _ (T1.setTop (mkF m 4 #[.val (.ref a1)] []))
  exact goRetV X1 hx hlk hret e1 (hb hby d1_4) (by decide) (by decide) ⟨rfl, N0, rfl⟩
theorem pn_0 : plainName "com/example/sidelane/sidelane/CancellationIsClaimedPinLaw" = true := by first | (simp [plainName, overriddenIn]; done) | decide +kernel
set_option maxRecDepth 65536 in
set_option maxHeartbeats 40000000 in
theorem rm0 (l : Launch) (Z : State) (a0 : Array Value) (hw : ∀ d ∈ tables_1, d.before a0 Z = true) (ws : List Jvm.Cond) (p0 p1 p2 : Int32) (wc : Addr) (cl : Cell) (w_EXECUTE w_ADOPTER w_CANCELLED w_REFUSED w_HANDED_OVER w_CANCELLED_UNEXECUTED w_ENDING_NEEDED : Addr) (h0 : Heap) (n0 : Nat) (O0 : Old Z n0 h0) (S_w_EXECUTE : Sta Z Z.heap "com/example/sidelane/sidelane/Cancellation$Claimant" "EXECUTE" "Lcom/example/sidelane/sidelane/Cancellation$Claimant;" (.ref w_EXECUTE)) (S_w_ADOPTER : Sta Z Z.heap "com/example/sidelane/sidelane/Cancellation$Claimant" "ADOPTER" "Lcom/example/sidelane/sidelane/Cancellation$Claimant;" (.ref w_ADOPTER)) (S_w_CANCELLED : Sta Z Z.heap "com/example/sidelane/sidelane/Cancellation$Outcome" "CANCELLED" "Lcom/example/sidelane/sidelane/Cancellation$Outcome;" (.ref w_CANCELLED)) (S_w_REFUSED : Sta Z Z.heap "com/example/sidelane/sidelane/Cancellation$Outcome" "REFUSED" "Lcom/example/sidelane/sidelane/Cancellation$Outcome;" (.ref w_REFUSED)) (S_w_HANDED_OVER : Sta Z Z.heap "com/example/sidelane/sidelane/Cancellation$Outcome" "HANDED_OVER" "Lcom/example/sidelane/sidelane/Cancellation$Outcome;" (.ref w_HANDED_OVER)) (S_w_CANCELLED_UNEXECUTED : Sta Z Z.heap "com/example/sidelane/sidelane/Cancellation$Outcome" "CANCELLED_UNEXECUTED" "Lcom/example/sidelane/sidelane/Cancellation$Outcome;" (.ref w_CANCELLED_UNEXECUTED)) (S_w_ENDING_NEEDED : Sta Z Z.heap "com/example/sidelane/sidelane/Cancellation$Outcome" "ENDING_NEEDED" "Lcom/example/sidelane/sidelane/Cancellation$Outcome;" (.ref w_ENDING_NEEDED)) (ne_w_EXECUTE_w_ADOPTER : w_EXECUTE ≠ w_ADOPTER) (S_cache : Sta Z Z.heap "java/lang/Integer$IntegerCache" "cache" "[Ljava/lang/Integer;" (.ref wc)) (S_high : Sta Z Z.heap "java/lang/Integer$IntegerCache" "high" "I" (.int (127 : Int32))) (BX : Bxs Z wc cl "java/lang/Integer" "I" 256 (fun j => .int (j - 128))) :
    Ctr l x code maxLocals ret ws room_1 #[(.int p0), (.int p1), (.int p2)] Z h0 (fun v h L => v = some (.int 1) ∧ Fr n0 L) := by
  have ef : ∀ m : MethodId, entryFrame m #[(.int p0), (.int p1), (.int p2)] 6 = mkF m 0 #[.val (.int p0), .val (.int p1), .val (.int p2), .unset, .unset, .unset] [] := fun m => by first | (simp [entryFrame, mkF, argsToLocals, Value.category]; done) | rfl
  refine Ctr.of (plainFor_of_name pn_0) ?_
  intro p e s m below meth c s₁ hx hZ hby hml hown0 hnm hret hlk X0 e0
  have hown : s.vm.findClass "com/example/sidelane/sidelane/CancellationIsClaimedPinLaw" = some m.cls := hown0
  have N0 := Fr.nil n0
  refine Go.st (fun t k => castTop (ef m) k) ?_
  show Go p e below _ (s₁.setTop (mkF m 0 #[.val (.int p0), .val (.int p1), .val (.int p2), .unset, .unset, .unset] []))
  obtain ⟨T1, h1, X1, e1, E1, A1, D1, U1, st1⟩ := newO X0 hx hZ hown (hw _ (List.mem_of_getElem? (i := 0) rfl)) (hw _ (List.mem_of_getElem? (i := 1) rfl)) (hw _ (List.mem_of_getElem? (i := 2) rfl)) e0 (g := (mkF m 0 #[.val (.int p0), .val (.int p1), .val (.int p2), .unset, .unset, .unset] [])) rfl (hb hby at_0) (by decide) (by decide)
  obtain ⟨b1, g1⟩ : ∃ z, z = h0.size := ⟨_, rfl⟩
  rw [← g1] at A1 D1 U1 st1
  refine Go.st st1 ?_
  have gn1 : n0 ≤ b1 := oldGe O0 g1
  have O2 : Old Z n0 h1 := O0.ext E1
  have UU1 : Unt h1 b1 := U1
  have F3 : Fld Z h1 b1 "com/example/sidelane/sidelane/Cancellation" "claimedBy" "Lcom/example/sidelane/sidelane/Cancellation$Claimant;" .null := D1 (Or.inl (hw _ (List.mem_of_getElem? (i := 15) rfl))) (ty := (.object "com/example/sidelane/sidelane/Cancellation$Claimant")) (by decide)
  have F4 : Fld Z h1 b1 "com/example/sidelane/sidelane/Cancellation" "cancelled" "Z" (.int (0 : Int32)) := D1 (Or.inl (hw _ (List.mem_of_getElem? (i := 17) rfl))) (ty := .boolean) (by decide)
  have F5 : Fld Z h1 b1 "com/example/sidelane/sidelane/Cancellation" "endingBegun" "Z" (.int (0 : Int32)) := D1 (Or.inl (hw _ (List.mem_of_getElem? (i := 46) rfl))) (ty := .boolean) (by decide)
  have F6 : Fld Z h1 b1 "com/example/sidelane/sidelane/Cancellation" "queued" "Z" (.int (0 : Int32)) := D1 (Or.inl (hw _ (List.mem_of_getElem? (i := 49) rfl))) (ty := .boolean) (by decide)
  have F7 : Fld Z h1 b1 "com/example/sidelane/sidelane/Cancellation" "cancelOutcome" "Lcom/example/sidelane/sidelane/Cancellation$Outcome;" .null := D1 (Or.inl (hw _ (List.mem_of_getElem? (i := 54) rfl))) (ty := (.object "com/example/sidelane/sidelane/Cancellation$Outcome")) (by decide)
  have F8 : Fld Z h1 b1 "com/example/sidelane/sidelane/Cancellation" "cancelEnding" "Ljava/lang/Object;" .null := D1 (Or.inl (hw _ (List.mem_of_getElem? (i := 56) rfl))) (ty := (.object "java/lang/Object")) (by decide)
  have F9 : Fld Z h1 b1 "com/example/sidelane/sidelane/Cancellation" "runner" "Ljava/lang/Thread;" .null := D1 (Or.inl (hw _ (List.mem_of_getElem? (i := 78) rfl))) (ty := (.object "java/lang/Thread")) (by decide)
  show Go p e below _ (T1.setTop (mkF m 3 #[.val (.int p0), .val (.int p1), .val (.int p2), .unset, .unset, .unset] [(.ref b1)]))
  refine Go.st (fun _ => XS.dup X1.here hx rfl (hb hby at_3) rfl rfl) ?_
  show Go p e below _ (T1.setTop (mkF m 4 #[.val (.int p0), .val (.int p1), .val (.int p2), .unset, .unset, .unset] [(.ref b1), (.ref b1)]))
  refine goInit X1 hx hZ (y := (⟨"com/example/sidelane/sidelane/Cancellation", "<init>", "()V"⟩ : MethodName)) rfl hown (hw _ (List.mem_of_getElem? (i := 3) rfl)) (hw _ (List.mem_of_getElem? (i := 4) rfl)) (hw _ (List.mem_of_getElem? (i := 2) rfl)) (hw _ (List.mem_of_getElem? (i := 5) rfl)) (by decide) (a := b1) (argsL := []) (rest := [(.ref b1)]) e1 (rmCI l Z a0 hw [] b1 h1 n0 O2) 1 (by decide) (by decide) (by decide) (by decide) (mkF m 4 #[.val (.int p0), .val (.int p1), .val (.int p2), .unset, .unset, .unset] [(.ref b1), (.ref b1)]) rfl (by rw [hml]; rfl) (lenOf pd_0 rfl) rfl (hb hby at_4) (Nat.le_of_eq rfl) ?_
  intro v10 T10 L10 X10 hQ10
  obtain ⟨rfl, M10, e10⟩ := hQ10
  have N10 := Fr.app N0 M10
  have INV0 : own_inv Z h1 b1 0 w_EXECUTE w_ADOPTER := ⟨_, _, _, _, ⟨A1, UU1, F3, F4, F5, F6, F9, F8, F7⟩, Or.inl ⟨rfl, rfl, rfl⟩⟩
  show Go p e below _ (T10.setTop (mkF m 7 #[.val (.int p0), .val (.int p1), .val (.int p2), .unset, .unset, .unset] [(.ref b1)]))
  refine Go.st (fun _ => XS.astoreN X10.here hx rfl (hb hby at_7) rfl rfl (l' := #[.val (.int p0), .val (.int p1), .val (.int p2), .val (.ref b1), .unset, .unset]) rfl) ?_
  show Go p e below _ (T10.setTop (mkF m 8 #[.val (.int p0), .val (.int p1), .val (.int p2), .val (.ref b1), .unset, .unset] []))
  refine Go.st (fun _ => XS.aloadN X10.here hx rfl (hb hby at_8) rfl rfl) ?_
  show Go p e below _ (T10.setTop (mkF m 9 #[.val (.int p0), .val (.int p1), .val (.int p2), .val (.ref b1), .unset, .unset] [(.ref b1)]))
  refine goVirt X10 hx hZ (y := (⟨"com/example/sidelane/sidelane/Cancellation", "isClaimed", "()Z"⟩ : MethodName)) (z := (⟨"com/example/sidelane/sidelane/Cancellation", "isClaimed", "()Z"⟩ : MethodName)) hown (hw _ (List.mem_of_getElem? (i := 9) rfl)) (hw _ (List.mem_of_getElem? (i := 10) rfl)) (notFace_of_selects (args := #[]) (mvT hZ (hw _ (List.mem_of_getElem? (i := 12) rfl)))) (hw _ (List.mem_of_getElem? (i := 12) rfl)) (hw _ (List.mem_of_getElem? (i := 11) rfl)) (hw _ (List.mem_of_getElem? (i := 2) rfl)) (hw _ (List.mem_of_getElem? (i := 13) rfl)) (by decide) (a := b1) (argsL := []) (rest := []) e10 A1 (rmIC l Z a0 hw [] b1 (0 : Int32) w_EXECUTE w_ADOPTER h1 n0 O2 INV0) 0 (by decide) (by decide) (by decide) (by decide) (mkF m 9 #[.val (.int p0), .val (.int p1), .val (.int p2), .val (.ref b1), .unset, .unset] [(.ref b1)]) rfl (by rw [hml]; rfl) (lenOf pd_2 rfl) rfl (hb hby at_9) (Nat.le_of_eq rfl) ?_
  intro v11 T11 L11 X11 hQ11
  obtain ⟨hv11, M11, e11⟩ := hQ11
  have N11 := Fr.app N10 M11
  obtain rfl : v11 = some (.int 0) := hv11.trans (by simp)
  show Go p e below _ (T11.setTop (mkF m 12 #[.val (.int p0), .val (.int p1), .val (.int p2), .val (.ref b1), .unset, .unset] [(.int (0 : Int32))]))
  refine Go.st (fun _ => XS.ifNo X11.here hx rfl (hb hby at_12) rfl ((if0 _ _).trans (teq (by decide : (0 : Int32) = (0 : Int32))).2)) ?_
  show Go p e below _ (T11.setTop (mkF m 15 #[.val (.int p0), .val (.int p1), .val (.int p2), .val (.ref b1), .unset, .unset] []))
  refine Go.st (fun _ => XS.iconst X11.here hx rfl (hb hby at_15)) ?_
  show Go p e below _ (T11.setTop (mkF m 16 #[.val (.int p0), .val (.int p1), .val (.int p2), .val (.ref b1), .unset, .unset] [(.int (1 : Int32))]))
  refine Go.st (fun _ => XS.goto X11.here hx rfl (pc0 := 16) (pc' := 20) rfl (hb hby at_16) (by decide) (by decide)) ?_
  show Go p e below _ (T11.setTop (mkF m 20 #[.val (.int p0), .val (.int p1), .val (.int p2), .val (.ref b1), .unset, .unset] [(.int (1 : Int32))]))
  refine Go.st (fun _ => XS.istore X11.here hx rfl (hb hby at_20) rfl (l' := #[.val (.int p0), .val (.int p1), .val (.int p2), .val (.ref b1), .val (.int (1 : Int32)), .unset]) rfl) ?_
  show Go p e below _ (T11.setTop (mkF m 22 #[.val (.int p0), .val (.int p1), .val (.int p2), .val (.ref b1), .val (.int (1 : Int32)), .unset] []))
  refine Go.st (fun _ => XS.aloadN X11.here hx rfl (hb hby at_22) rfl rfl) ?_
  show Go p e below _ (T11.setTop (mkF m 23 #[.val (.int p0), .val (.int p1), .val (.int p2), .val (.ref b1), .val (.int (1 : Int32)), .unset] [(.ref b1)]))
  refine Go.st (fun _ => XS.iloadN X11.here hx rfl (hb hby at_23) rfl) ?_
  show Go p e below _ (T11.setTop (mkF m 24 #[.val (.int p0), .val (.int p1), .val (.int p2), .val (.ref b1), .val (.int (1 : Int32)), .unset] [(.int p0), (.ref b1)]))
  refine Go.st (fun _ => XS.iconst X11.here hx rfl (hb hby at_24)) ?_
  show Go p e below _ (T11.setTop (mkF m 25 #[.val (.int p0), .val (.int p1), .val (.int p2), .val (.ref b1), .val (.int (1 : Int32)), .unset] [(.int (0 : Int32)), (.int p0), (.ref b1)]))
  refine goCallS X11 hx hZ (y := (⟨"com/example/sidelane/sidelane/CancellationIsClaimedPinLaw", "step", "(Lcom/example/sidelane/sidelane/Cancellation;II)I"⟩ : MethodName)) hown (hw _ (List.mem_of_getElem? (i := 18) rfl)) (hw _ (List.mem_of_getElem? (i := 19) rfl)) (hw _ (List.mem_of_getElem? (i := 20) rfl)) (hw _ (List.mem_of_getElem? (i := 21) rfl)) (by decide) (argsL := [(.ref b1), (.int p0), (.int (0 : Int32))]) (rest := []) e11 (rmStep l Z a0 hw [] b1 p0 (0 : Int32) wc cl w_EXECUTE w_ADOPTER w_CANCELLED w_REFUSED w_HANDED_OVER w_CANCELLED_UNEXECUTED w_ENDING_NEEDED h1 n0 O2 INV0 gn1 S_w_EXECUTE S_w_ADOPTER S_w_CANCELLED S_w_REFUSED S_w_HANDED_OVER S_w_CANCELLED_UNEXECUTED S_w_ENDING_NEEDED ne_w_EXECUTE_w_ADOPTER S_cache S_high BX) 0 (by decide) (by decide) (by decide) (by decide) (mkF m 25 #[.val (.int p0), .val (.int p1), .val (.int p2), .val (.ref b1), .val (.int (1 : Int32)), .unset] [(.int (0 : Int32)), (.int p0), (.ref b1)]) rfl (by rw [hml]; rfl) (lenOf pd_6 rfl) rfl (hb hby at_25) (Nat.le_of_eq rfl) ?_
  intro v12 T12 L12 X12 hQ12
  obtain ⟨r12, rfl, hn12, M12, K12, INV12⟩ := hQ12
  have N12 := Fr.app N11 M12
  have O13 : Old Z n0 T12.heap := O2.keep K12 (allS gn1 all0)
  have E_14 : Exa Z T12.heap b1 "com/example/sidelane/sidelane/Cancellation" := A1.keep K12
  show Go p e below _ (T12.setTop (mkF m 28 #[.val (.int p0), .val (.int p1), .val (.int p2), .val (.ref b1), .val (.int (1 : Int32)), .unset] [(.int r12)]))
  refine Go.st (fun _ => XS.istore X12.here hx rfl (hb hby at_28) rfl (l' := #[.val (.int p0), .val (.int p1), .val (.int p2), .val (.ref b1), .val (.int (1 : Int32)), .val (.int r12)]) rfl) ?_
  show Go p e below _ (T12.setTop (mkF m 30 #[.val (.int p0), .val (.int p1), .val (.int p2), .val (.ref b1), .val (.int (1 : Int32)), .val (.int r12)] []))
  refine Go.st (fun _ => XS.iload X12.here hx rfl (hb hby at_30) rfl) ?_
  show Go p e below _ (T12.setTop (mkF m 32 #[.val (.int p0), .val (.int p1), .val (.int p2), .val (.ref b1), .val (.int (1 : Int32)), .val (.int r12)] [(.int r12)]))
  refine Go.st (fun _ => XS.ifYes X12.here hx rfl (pc0 := 32) (pc' := 37) rfl (hb hby at_32) rfl ((if0 _ _).trans (flt hn12).2.1) (by decide) (by decide)) ?_
  show Go p e below _ (T12.setTop (mkF m 37 #[.val (.int p0), .val (.int p1), .val (.int p2), .val (.ref b1), .val (.int (1 : Int32)), .val (.int r12)] []))
  refine Go.st (fun _ => XS.iload X12.here hx rfl (hb hby at_37) rfl) ?_
  show Go p e below _ (T12.setTop (mkF m 39 #[.val (.int p0), .val (.int p1), .val (.int p2), .val (.ref b1), .val (.int (1 : Int32)), .val (.int r12)] [(.int (1 : Int32))]))
  refine Go.st (fun _ => XS.ifNo X12.here hx rfl (hb hby at_39) rfl ((if0 _ _).trans (feq (by decide : ¬ ((1 : Int32) = (0 : Int32)))).1)) ?_
  show Go p e below _ (T12.setTop (mkF m 42 #[.val (.int p0), .val (.int p1), .val (.int p2), .val (.ref b1), .val (.int (1 : Int32)), .val (.int r12)] []))
  refine Go.st (fun _ => XS.aloadN X12.here hx rfl (hb hby at_42) rfl rfl) ?_
  show Go p e below _ (T12.setTop (mkF m 43 #[.val (.int p0), .val (.int p1), .val (.int p2), .val (.ref b1), .val (.int (1 : Int32)), .val (.int r12)] [(.ref b1)]))
  refine goVirt X12 hx hZ (y := (⟨"com/example/sidelane/sidelane/Cancellation", "isClaimed", "()Z"⟩ : MethodName)) (z := (⟨"com/example/sidelane/sidelane/Cancellation", "isClaimed", "()Z"⟩ : MethodName)) hown (hw _ (List.mem_of_getElem? (i := 9) rfl)) (hw _ (List.mem_of_getElem? (i := 10) rfl)) (notFace_of_selects (args := #[]) (mvT hZ (hw _ (List.mem_of_getElem? (i := 12) rfl)))) (hw _ (List.mem_of_getElem? (i := 12) rfl)) (hw _ (List.mem_of_getElem? (i := 11) rfl)) (hw _ (List.mem_of_getElem? (i := 2) rfl)) (hw _ (List.mem_of_getElem? (i := 13) rfl)) (by decide) (a := b1) (argsL := []) (rest := []) rfl E_14 (rmIC l Z a0 hw [] b1 r12 w_EXECUTE w_ADOPTER T12.heap n0 O13 INV12) 0 (by decide) (by decide) (by decide) (by decide) (mkF m 43 #[.val (.int p0), .val (.int p1), .val (.int p2), .val (.ref b1), .val (.int (1 : Int32)), .val (.int r12)] [(.ref b1)]) rfl (by rw [hml]; rfl) (lenOf pd_2 rfl) rfl (hb hby at_43) (Nat.le_of_eq rfl) ?_
  intro v15 T15 L15 X15 hQ15
  obtain ⟨hv15, M15, e15⟩ := hQ15
  have N15 := Fr.app N12 M15
  by_cases hr15 : r12 = (0 : Int32)
  · obtain rfl : v15 = some (.int 0) := hv15.trans (by simp [hr15])
    show Go p e below _ (T15.setTop (mkF m 46 #[.val (.int p0), .val (.int p1), .val (.int p2), .val (.ref b1), .val (.int (1 : Int32)), .val (.int r12)] [(.int (0 : Int32))]))
    refine Go.st (fun _ => XS.iload X15.here hx rfl (hb hby at_46) rfl) ?_
    show Go p e below _ (T15.setTop (mkF m 48 #[.val (.int p0), .val (.int p1), .val (.int p2), .val (.ref b1), .val (.int (1 : Int32)), .val (.int r12)] [(.int r12), (.int (0 : Int32))]))
    refine Go.st (fun _ => XS.ifYes X15.here hx rfl (pc0 := 48) (pc' := 55) rfl (hb hby at_48) rfl ((if0 _ _).trans (teq hr15).1) (by decide) (by decide)) ?_
    show Go p e below _ (T15.setTop (mkF m 55 #[.val (.int p0), .val (.int p1), .val (.int p2), .val (.ref b1), .val (.int (1 : Int32)), .val (.int r12)] [(.int (0 : Int32))]))
    refine Go.st (fun _ => XS.iconst X15.here hx rfl (hb hby at_55)) ?_
    show Go p e below _ (T15.setTop (mkF m 56 #[.val (.int p0), .val (.int p1), .val (.int p2), .val (.ref b1), .val (.int (1 : Int32)), .val (.int r12)] [(.int (0 : Int32)), (.int (0 : Int32))]))
    refine Go.st (fun _ => XS.icmpNo X15.here hx rfl (hb hby at_56) rfl (teq (by decide : (0 : Int32) = (0 : Int32))).2) ?_
    show Go p e below _ (T15.setTop (mkF m 59 #[.val (.int p0), .val (.int p1), .val (.int p2), .val (.ref b1), .val (.int (1 : Int32)), .val (.int r12)] []))
    refine Go.st (fun _ => XS.iconst X15.here hx rfl (hb hby at_59)) ?_
    show Go p e below _ (T15.setTop (mkF m 60 #[.val (.int p0), .val (.int p1), .val (.int p2), .val (.ref b1), .val (.int (1 : Int32)), .val (.int r12)] [(.int (1 : Int32))]))
    refine Go.st (fun _ => XS.goto X15.here hx rfl (pc0 := 60) (pc' := 64) rfl (hb hby at_60) (by decide) (by decide)) ?_
    show Go p e below _ (T15.setTop (mkF m 64 #[.val (.int p0), .val (.int p1), .val (.int p2), .val (.ref b1), .val (.int (1 : Int32)), .val (.int r12)] [(.int (1 : Int32))]))
    refine Go.st (fun _ => XS.istore X15.here hx rfl (hb hby at_64) rfl (l' := #[.val (.int p0), .val (.int p1), .val (.int p2), .val (.ref b1), .val (.int (1 : Int32)), .val (.int r12)]) rfl) ?_
    show Go p e below _ (T15.setTop (mkF m 66 #[.val (.int p0), .val (.int p1), .val (.int p2), .val (.ref b1), .val (.int (1 : Int32)), .val (.int r12)] []))
    refine Go.st (fun _ => XS.aloadN X15.here hx rfl (hb hby at_66) rfl rfl) ?_
    show Go p e below _ (T15.setTop (mkF m 67 #[.val (.int p0), .val (.int p1), .val (.int p2), .val (.ref b1), .val (.int (1 : Int32)), .val (.int r12)] [(.ref b1)]))
    refine Go.st (fun _ => XS.iloadN X15.here hx rfl (hb hby at_67) rfl) ?_
    show Go p e below _ (T15.setTop (mkF m 68 #[.val (.int p0), .val (.int p1), .val (.int p2), .val (.ref b1), .val (.int (1 : Int32)), .val (.int r12)] [(.int p1), (.ref b1)]))
    refine Go.st (fun _ => XS.iload X15.here hx rfl (hb hby at_68) rfl) ?_
    show Go p e below _ (T15.setTop (mkF m 70 #[.val (.int p0), .val (.int p1), .val (.int p2), .val (.ref b1), .val (.int (1 : Int32)), .val (.int r12)] [(.int r12), (.int p1), (.ref b1)]))
    refine goCallS X15 hx hZ (y := (⟨"com/example/sidelane/sidelane/CancellationIsClaimedPinLaw", "step", "(Lcom/example/sidelane/sidelane/Cancellation;II)I"⟩ : MethodName)) hown (hw _ (List.mem_of_getElem? (i := 18) rfl)) (hw _ (List.mem_of_getElem? (i := 19) rfl)) (hw _ (List.mem_of_getElem? (i := 20) rfl)) (hw _ (List.mem_of_getElem? (i := 21) rfl)) (by decide) (argsL := [(.ref b1), (.int p1), (.int r12)]) (rest := []) e15 (rmStep l Z a0 hw [] b1 p1 r12 wc cl w_EXECUTE w_ADOPTER w_CANCELLED w_REFUSED w_HANDED_OVER w_CANCELLED_UNEXECUTED w_ENDING_NEEDED T12.heap n0 O13 INV12 gn1 S_w_EXECUTE S_w_ADOPTER S_w_CANCELLED S_w_REFUSED S_w_HANDED_OVER S_w_CANCELLED_UNEXECUTED S_w_ENDING_NEEDED ne_w_EXECUTE_w_ADOPTER S_cache S_high BX) 0 (by decide) (by decide) (by decide) (by decide) (mkF m 70 #[.val (.int p0), .val (.int p1), .val (.int p2), .val (.ref b1), .val (.int (1 : Int32)), .val (.int r12)] [(.int r12), (.int p1), (.ref b1)]) rfl (by rw [hml]; rfl) (lenOf pd_6 rfl) rfl (hb hby at_70) (Nat.le_of_eq rfl) ?_
    intro v16 T16 L16 X16 hQ16
    obtain ⟨r16, rfl, hn16, M16, K16, INV16⟩ := hQ16
    have N16 := Fr.app N15 M16
    have O17 : Old Z n0 T16.heap := O13.keep K16 (allS gn1 all0)
    have E_18 : Exa Z T16.heap b1 "com/example/sidelane/sidelane/Cancellation" := E_14.keep K16
    show Go p e below _ (T16.setTop (mkF m 73 #[.val (.int p0), .val (.int p1), .val (.int p2), .val (.ref b1), .val (.int (1 : Int32)), .val (.int r12)] [(.int r16)]))
    refine Go.st (fun _ => XS.istore X16.here hx rfl (hb hby at_73) rfl (l' := #[.val (.int p0), .val (.int p1), .val (.int p2), .val (.ref b1), .val (.int (1 : Int32)), .val (.int r16)]) rfl) ?_
    show Go p e below _ (T16.setTop (mkF m 75 #[.val (.int p0), .val (.int p1), .val (.int p2), .val (.ref b1), .val (.int (1 : Int32)), .val (.int r16)] []))
    refine Go.st (fun _ => XS.iload X16.here hx rfl (hb hby at_75) rfl) ?_
    show Go p e below _ (T16.setTop (mkF m 77 #[.val (.int p0), .val (.int p1), .val (.int p2), .val (.ref b1), .val (.int (1 : Int32)), .val (.int r16)] [(.int r16)]))
    refine Go.st (fun _ => XS.ifYes X16.here hx rfl (pc0 := 77) (pc' := 82) rfl (hb hby at_77) rfl ((if0 _ _).trans (flt hn16).2.1) (by decide) (by decide)) ?_
    show Go p e below _ (T16.setTop (mkF m 82 #[.val (.int p0), .val (.int p1), .val (.int p2), .val (.ref b1), .val (.int (1 : Int32)), .val (.int r16)] []))
    refine Go.st (fun _ => XS.iload X16.here hx rfl (hb hby at_82) rfl) ?_
    show Go p e below _ (T16.setTop (mkF m 84 #[.val (.int p0), .val (.int p1), .val (.int p2), .val (.ref b1), .val (.int (1 : Int32)), .val (.int r16)] [(.int (1 : Int32))]))
    refine Go.st (fun _ => XS.ifNo X16.here hx rfl (hb hby at_84) rfl ((if0 _ _).trans (feq (by decide : ¬ ((1 : Int32) = (0 : Int32)))).1)) ?_
    show Go p e below _ (T16.setTop (mkF m 87 #[.val (.int p0), .val (.int p1), .val (.int p2), .val (.ref b1), .val (.int (1 : Int32)), .val (.int r16)] []))
    refine Go.st (fun _ => XS.aloadN X16.here hx rfl (hb hby at_87) rfl rfl) ?_
    show Go p e below _ (T16.setTop (mkF m 88 #[.val (.int p0), .val (.int p1), .val (.int p2), .val (.ref b1), .val (.int (1 : Int32)), .val (.int r16)] [(.ref b1)]))
    refine goVirt X16 hx hZ (y := (⟨"com/example/sidelane/sidelane/Cancellation", "isClaimed", "()Z"⟩ : MethodName)) (z := (⟨"com/example/sidelane/sidelane/Cancellation", "isClaimed", "()Z"⟩ : MethodName)) hown (hw _ (List.mem_of_getElem? (i := 9) rfl)) (hw _ (List.mem_of_getElem? (i := 10) rfl)) (notFace_of_selects (args := #[]) (mvT hZ (hw _ (List.mem_of_getElem? (i := 12) rfl)))) (hw _ (List.mem_of_getElem? (i := 12) rfl)) (hw _ (List.mem_of_getElem? (i := 11) rfl)) (hw _ (List.mem_of_getElem? (i := 2) rfl)) (hw _ (List.mem_of_getElem? (i := 13) rfl)) (by decide) (a := b1) (argsL := []) (rest := []) rfl E_18 (rmIC l Z a0 hw [] b1 r16 w_EXECUTE w_ADOPTER T16.heap n0 O17 INV16) 0 (by decide) (by decide) (by decide) (by decide) (mkF m 88 #[.val (.int p0), .val (.int p1), .val (.int p2), .val (.ref b1), .val (.int (1 : Int32)), .val (.int r16)] [(.ref b1)]) rfl (by rw [hml]; rfl) (lenOf pd_2 rfl) rfl (hb hby at_88) (Nat.le_of_eq rfl) ?_
    intro v19 T19 L19 X19 hQ19
    obtain ⟨hv19, M19, e19⟩ := hQ19
    have N19 := Fr.app N16 M19
    by_cases hr19 : r16 = (0 : Int32)
    · obtain rfl : v19 = some (.int 0) := hv19.trans (by simp [hr19])
      show Go p e below _ (T19.setTop (mkF m 91 #[.val (.int p0), .val (.int p1), .val (.int p2), .val (.ref b1), .val (.int (1 : Int32)), .val (.int r16)] [(.int (0 : Int32))]))
      refine Go.st (fun _ => XS.iload X19.here hx rfl (hb hby at_91) rfl) ?_
      show Go p e below _ (T19.setTop (mkF m 93 #[.val (.int p0), .val (.int p1), .val (.int p2), .val (.ref b1), .val (.int (1 : Int32)), .val (.int r16)] [(.int r16), (.int (0 : Int32))]))
      refine Go.st (fun _ => XS.ifYes X19.here hx rfl (pc0 := 93) (pc' := 100) rfl (hb hby at_93) rfl ((if0 _ _).trans (teq hr19).1) (by decide) (by decide)) ?_
      show Go p e below _ (T19.setTop (mkF m 100 #[.val (.int p0), .val (.int p1), .val (.int p2), .val (.ref b1), .val (.int (1 : Int32)), .val (.int r16)] [(.int (0 : Int32))]))
      refine Go.st (fun _ => XS.iconst X19.here hx rfl (hb hby at_100)) ?_
      show Go p e below _ (T19.setTop (mkF m 101 #[.val (.int p0), .val (.int p1), .val (.int p2), .val (.ref b1), .val (.int (1 : Int32)), .val (.int r16)] [(.int (0 : Int32)), (.int (0 : Int32))]))
      refine Go.st (fun _ => XS.icmpNo X19.here hx rfl (hb hby at_101) rfl (teq (by decide : (0 : Int32) = (0 : Int32))).2) ?_
      show Go p e below _ (T19.setTop (mkF m 104 #[.val (.int p0), .val (.int p1), .val (.int p2), .val (.ref b1), .val (.int (1 : Int32)), .val (.int r16)] []))
      refine Go.st (fun _ => XS.iconst X19.here hx rfl (hb hby at_104)) ?_
      show Go p e below _ (T19.setTop (mkF m 105 #[.val (.int p0), .val (.int p1), .val (.int p2), .val (.ref b1), .val (.int (1 : Int32)), .val (.int r16)] [(.int (1 : Int32))]))
      refine Go.st (fun _ => XS.goto X19.here hx rfl (pc0 := 105) (pc' := 109) rfl (hb hby at_105) (by decide) (by decide)) ?_
      show Go p e below _ (T19.setTop (mkF m 109 #[.val (.int p0), .val (.int p1), .val (.int p2), .val (.ref b1), .val (.int (1 : Int32)), .val (.int r16)] [(.int (1 : Int32))]))
      refine Go.st (fun _ => XS.istore X19.here hx rfl (hb hby at_109) rfl (l' := #[.val (.int p0), .val (.int p1), .val (.int p2), .val (.ref b1), .val (.int (1 : Int32)), .val (.int r16)]) rfl) ?_
      show Go p e below _ (T19.setTop (mkF m 111 #[.val (.int p0), .val (.int p1), .val (.int p2), .val (.ref b1), .val (.int (1 : Int32)), .val (.int r16)] []))
      refine Go.st (fun _ => XS.aloadN X19.here hx rfl (hb hby at_111) rfl rfl) ?_
      show Go p e below _ (T19.setTop (mkF m 112 #[.val (.int p0), .val (.int p1), .val (.int p2), .val (.ref b1), .val (.int (1 : Int32)), .val (.int r16)] [(.ref b1)]))
      refine Go.st (fun _ => XS.iloadN X19.here hx rfl (hb hby at_112) rfl) ?_
      show Go p e below _ (T19.setTop (mkF m 113 #[.val (.int p0), .val (.int p1), .val (.int p2), .val (.ref b1), .val (.int (1 : Int32)), .val (.int r16)] [(.int p2), (.ref b1)]))
      refine Go.st (fun _ => XS.iload X19.here hx rfl (hb hby at_113) rfl) ?_
      show Go p e below _ (T19.setTop (mkF m 115 #[.val (.int p0), .val (.int p1), .val (.int p2), .val (.ref b1), .val (.int (1 : Int32)), .val (.int r16)] [(.int r16), (.int p2), (.ref b1)]))
      refine goCallS X19 hx hZ (y := (⟨"com/example/sidelane/sidelane/CancellationIsClaimedPinLaw", "step", "(Lcom/example/sidelane/sidelane/Cancellation;II)I"⟩ : MethodName)) hown (hw _ (List.mem_of_getElem? (i := 18) rfl)) (hw _ (List.mem_of_getElem? (i := 19) rfl)) (hw _ (List.mem_of_getElem? (i := 20) rfl)) (hw _ (List.mem_of_getElem? (i := 21) rfl)) (by decide) (argsL := [(.ref b1), (.int p2), (.int r16)]) (rest := []) e19 (rmStep l Z a0 hw [] b1 p2 r16 wc cl w_EXECUTE w_ADOPTER w_CANCELLED w_REFUSED w_HANDED_OVER w_CANCELLED_UNEXECUTED w_ENDING_NEEDED T16.heap n0 O17 INV16 gn1 S_w_EXECUTE S_w_ADOPTER S_w_CANCELLED S_w_REFUSED S_w_HANDED_OVER S_w_CANCELLED_UNEXECUTED S_w_ENDING_NEEDED ne_w_EXECUTE_w_ADOPTER S_cache S_high BX) 0 (by decide) (by decide) (by decide) (by decide) (mkF m 115 #[.val (.int p0), .val (.int p1), .val (.int p2), .val (.ref b1), .val (.int (1 : Int32)), .val (.int r16)] [(.int r16), (.int p2), (.ref b1)]) rfl (by rw [hml]; rfl) (lenOf pd_6 rfl) rfl (hb hby at_115) (Nat.le_of_eq rfl) ?_
      intro v20 T20 L20 X20 hQ20
      obtain ⟨r20, rfl, hn20, M20, K20, INV20⟩ := hQ20
      have N20 := Fr.app N19 M20
      have O21 : Old Z n0 T20.heap := O17.keep K20 (allS gn1 all0)
      have E_22 : Exa Z T20.heap b1 "com/example/sidelane/sidelane/Cancellation" := E_18.keep K20
      show Go p e below _ (T20.setTop (mkF m 118 #[.val (.int p0), .val (.int p1), .val (.int p2), .val (.ref b1), .val (.int (1 : Int32)), .val (.int r16)] [(.int r20)]))
      refine Go.st (fun _ => XS.istore X20.here hx rfl (hb hby at_118) rfl (l' := #[.val (.int p0), .val (.int p1), .val (.int p2), .val (.ref b1), .val (.int (1 : Int32)), .val (.int r20)]) rfl) ?_
      show Go p e below _ (T20.setTop (mkF m 120 #[.val (.int p0), .val (.int p1), .val (.int p2), .val (.ref b1), .val (.int (1 : Int32)), .val (.int r20)] []))
      refine Go.st (fun _ => XS.iload X20.here hx rfl (hb hby at_120) rfl) ?_
      show Go p e below _ (T20.setTop (mkF m 122 #[.val (.int p0), .val (.int p1), .val (.int p2), .val (.ref b1), .val (.int (1 : Int32)), .val (.int r20)] [(.int r20)]))
      refine Go.st (fun _ => XS.ifYes X20.here hx rfl (pc0 := 122) (pc' := 127) rfl (hb hby at_122) rfl ((if0 _ _).trans (flt hn20).2.1) (by decide) (by decide)) ?_
      show Go p e below _ (T20.setTop (mkF m 127 #[.val (.int p0), .val (.int p1), .val (.int p2), .val (.ref b1), .val (.int (1 : Int32)), .val (.int r20)] []))
      refine Go.st (fun _ => XS.iload X20.here hx rfl (hb hby at_127) rfl) ?_
      show Go p e below _ (T20.setTop (mkF m 129 #[.val (.int p0), .val (.int p1), .val (.int p2), .val (.ref b1), .val (.int (1 : Int32)), .val (.int r20)] [(.int (1 : Int32))]))
      refine Go.st (fun _ => XS.ifNo X20.here hx rfl (hb hby at_129) rfl ((if0 _ _).trans (feq (by decide : ¬ ((1 : Int32) = (0 : Int32)))).1)) ?_
      show Go p e below _ (T20.setTop (mkF m 132 #[.val (.int p0), .val (.int p1), .val (.int p2), .val (.ref b1), .val (.int (1 : Int32)), .val (.int r20)] []))
      refine Go.st (fun _ => XS.aloadN X20.here hx rfl (hb hby at_132) rfl rfl) ?_
      show Go p e below _ (T20.setTop (mkF m 133 #[.val (.int p0), .val (.int p1), .val (.int p2), .val (.ref b1), .val (.int (1 : Int32)), .val (.int r20)] [(.ref b1)]))
      refine goVirt X20 hx hZ (y := (⟨"com/example/sidelane/sidelane/Cancellation", "isClaimed", "()Z"⟩ : MethodName)) (z := (⟨"com/example/sidelane/sidelane/Cancellation", "isClaimed", "()Z"⟩ : MethodName)) hown (hw _ (List.mem_of_getElem? (i := 9) rfl)) (hw _ (List.mem_of_getElem? (i := 10) rfl)) (notFace_of_selects (args := #[]) (mvT hZ (hw _ (List.mem_of_getElem? (i := 12) rfl)))) (hw _ (List.mem_of_getElem? (i := 12) rfl)) (hw _ (List.mem_of_getElem? (i := 11) rfl)) (hw _ (List.mem_of_getElem? (i := 2) rfl)) (hw _ (List.mem_of_getElem? (i := 13) rfl)) (by decide) (a := b1) (argsL := []) (rest := []) rfl E_22 (rmIC l Z a0 hw [] b1 r20 w_EXECUTE w_ADOPTER T20.heap n0 O21 INV20) 0 (by decide) (by decide) (by decide) (by decide) (mkF m 133 #[.val (.int p0), .val (.int p1), .val (.int p2), .val (.ref b1), .val (.int (1 : Int32)), .val (.int r20)] [(.ref b1)]) rfl (by rw [hml]; rfl) (lenOf pd_2 rfl) rfl (hb hby at_133) (Nat.le_of_eq rfl) ?_
      intro v23 T23 L23 X23 hQ23
      obtain ⟨hv23, M23, e23⟩ := hQ23
      have N23 := Fr.app N20 M23
      by_cases hr23 : r20 = (0 : Int32)
      · obtain rfl : v23 = some (.int 0) := hv23.trans (by simp [hr23])
        show Go p e below _ (T23.setTop (mkF m 136 #[.val (.int p0), .val (.int p1), .val (.int p2), .val (.ref b1), .val (.int (1 : Int32)), .val (.int r20)] [(.int (0 : Int32))]))
        refine Go.st (fun _ => XS.iload X23.here hx rfl (hb hby at_136) rfl) ?_
        show Go p e below _ (T23.setTop (mkF m 138 #[.val (.int p0), .val (.int p1), .val (.int p2), .val (.ref b1), .val (.int (1 : Int32)), .val (.int r20)] [(.int r20), (.int (0 : Int32))]))
        refine Go.st (fun _ => XS.ifYes X23.here hx rfl (pc0 := 138) (pc' := 145) rfl (hb hby at_138) rfl ((if0 _ _).trans (teq hr23).1) (by decide) (by decide)) ?_
        show Go p e below _ (T23.setTop (mkF m 145 #[.val (.int p0), .val (.int p1), .val (.int p2), .val (.ref b1), .val (.int (1 : Int32)), .val (.int r20)] [(.int (0 : Int32))]))
        refine Go.st (fun _ => XS.iconst X23.here hx rfl (hb hby at_145)) ?_
        show Go p e below _ (T23.setTop (mkF m 146 #[.val (.int p0), .val (.int p1), .val (.int p2), .val (.ref b1), .val (.int (1 : Int32)), .val (.int r20)] [(.int (0 : Int32)), (.int (0 : Int32))]))
        refine Go.st (fun _ => XS.icmpNo X23.here hx rfl (hb hby at_146) rfl (teq (by decide : (0 : Int32) = (0 : Int32))).2) ?_
        show Go p e below _ (T23.setTop (mkF m 149 #[.val (.int p0), .val (.int p1), .val (.int p2), .val (.ref b1), .val (.int (1 : Int32)), .val (.int r20)] []))
        refine Go.st (fun _ => XS.iconst X23.here hx rfl (hb hby at_149)) ?_
        show Go p e below _ (T23.setTop (mkF m 150 #[.val (.int p0), .val (.int p1), .val (.int p2), .val (.ref b1), .val (.int (1 : Int32)), .val (.int r20)] [(.int (1 : Int32))]))
        refine Go.st (fun _ => XS.goto X23.here hx rfl (pc0 := 150) (pc' := 154) rfl (hb hby at_150) (by decide) (by decide)) ?_
        show Go p e below _ (T23.setTop (mkF m 154 #[.val (.int p0), .val (.int p1), .val (.int p2), .val (.ref b1), .val (.int (1 : Int32)), .val (.int r20)] [(.int (1 : Int32))]))
        refine Go.st (fun _ => XS.istore X23.here hx rfl (hb hby at_154) rfl (l' := #[.val (.int p0), .val (.int p1), .val (.int p2), .val (.ref b1), .val (.int (1 : Int32)), .val (.int r20)]) rfl) ?_
        show Go p e below _ (T23.setTop (mkF m 156 #[.val (.int p0), .val (.int p1), .val (.int p2), .val (.ref b1), .val (.int (1 : Int32)), .val (.int r20)] []))
        refine Go.st (fun _ => XS.iload X23.here hx rfl (hb hby at_156) rfl) ?_
        show Go p e below _ (T23.setTop (mkF m 158 #[.val (.int p0), .val (.int p1), .val (.int p2), .val (.ref b1), .val (.int (1 : Int32)), .val (.int r20)] [(.int (1 : Int32))]))
        exact goRetN X23 hx hlk hret (t := .boolean) (by simp) (w := (1 : Int32)) (by decide) e23 (hb hby at_158) (by decide) (by decide) ⟨rfl, N23⟩
      · obtain rfl : v23 = some (.int 1) := hv23.trans (by simp [hr23])
        show Go p e below _ (T23.setTop (mkF m 136 #[.val (.int p0), .val (.int p1), .val (.int p2), .val (.ref b1), .val (.int (1 : Int32)), .val (.int r20)] [(.int (1 : Int32))]))
        refine Go.st (fun _ => XS.iload X23.here hx rfl (hb hby at_136) rfl) ?_
        show Go p e below _ (T23.setTop (mkF m 138 #[.val (.int p0), .val (.int p1), .val (.int p2), .val (.ref b1), .val (.int (1 : Int32)), .val (.int r20)] [(.int r20), (.int (1 : Int32))]))
        refine Go.st (fun _ => XS.ifNo X23.here hx rfl (hb hby at_138) rfl ((if0 _ _).trans (feq hr23).1)) ?_
        show Go p e below _ (T23.setTop (mkF m 141 #[.val (.int p0), .val (.int p1), .val (.int p2), .val (.ref b1), .val (.int (1 : Int32)), .val (.int r20)] [(.int (1 : Int32))]))
        refine Go.st (fun _ => XS.iconst X23.here hx rfl (hb hby at_141)) ?_
        show Go p e below _ (T23.setTop (mkF m 142 #[.val (.int p0), .val (.int p1), .val (.int p2), .val (.ref b1), .val (.int (1 : Int32)), .val (.int r20)] [(.int (1 : Int32)), (.int (1 : Int32))]))
        refine Go.st (fun _ => XS.goto X23.here hx rfl (pc0 := 142) (pc' := 146) rfl (hb hby at_142) (by decide) (by decide)) ?_
        show Go p e below _ (T23.setTop (mkF m 146 #[.val (.int p0), .val (.int p1), .val (.int p2), .val (.ref b1), .val (.int (1 : Int32)), .val (.int r20)] [(.int (1 : Int32)), (.int (1 : Int32))]))
        refine Go.st (fun _ => XS.icmpNo X23.here hx rfl (hb hby at_146) rfl (teq (by decide : (1 : Int32) = (1 : Int32))).2) ?_
        show Go p e below _ (T23.setTop (mkF m 149 #[.val (.int p0), .val (.int p1), .val (.int p2), .val (.ref b1), .val (.int (1 : Int32)), .val (.int r20)] []))
        refine Go.st (fun _ => XS.iconst X23.here hx rfl (hb hby at_149)) ?_
        show Go p e below _ (T23.setTop (mkF m 150 #[.val (.int p0), .val (.int p1), .val (.int p2), .val (.ref b1), .val (.int (1 : Int32)), .val (.int r20)] [(.int (1 : Int32))]))
        refine Go.st (fun _ => XS.goto X23.here hx rfl (pc0 := 150) (pc' := 154) rfl (hb hby at_150) (by decide) (by decide)) ?_
        show Go p e below _ (T23.setTop (mkF m 154 #[.val (.int p0), .val (.int p1), .val (.int p2), .val (.ref b1), .val (.int (1 : Int32)), .val (.int r20)] [(.int (1 : Int32))]))
        refine Go.st (fun _ => XS.istore X23.here hx rfl (hb hby at_154) rfl (l' := #[.val (.int p0), .val (.int p1), .val (.int p2), .val (.ref b1), .val (.int (1 : Int32)), .val (.int r20)]) rfl) ?_
        show Go p e below _ (T23.setTop (mkF m 156 #[.val (.int p0), .val (.int p1), .val (.int p2), .val (.ref b1), .val (.int (1 : Int32)), .val (.int r20)] []))
        refine Go.st (fun _ => XS.iload X23.here hx rfl (hb hby at_156) rfl) ?_
        show Go p e below _ (T23.setTop (mkF m 158 #[.val (.int p0), .val (.int p1), .val (.int p2), .val (.ref b1), .val (.int (1 : Int32)), .val (.int r20)] [(.int (1 : Int32))]))
        exact goRetN X23 hx hlk hret (t := .boolean) (by simp) (w := (1 : Int32)) (by decide) e23 (hb hby at_158) (by decide) (by decide) ⟨rfl, N23⟩
    · obtain rfl : v19 = some (.int 1) := hv19.trans (by simp [hr19])
      show Go p e below _ (T19.setTop (mkF m 91 #[.val (.int p0), .val (.int p1), .val (.int p2), .val (.ref b1), .val (.int (1 : Int32)), .val (.int r16)] [(.int (1 : Int32))]))
      refine Go.st (fun _ => XS.iload X19.here hx rfl (hb hby at_91) rfl) ?_
      show Go p e below _ (T19.setTop (mkF m 93 #[.val (.int p0), .val (.int p1), .val (.int p2), .val (.ref b1), .val (.int (1 : Int32)), .val (.int r16)] [(.int r16), (.int (1 : Int32))]))
      refine Go.st (fun _ => XS.ifNo X19.here hx rfl (hb hby at_93) rfl ((if0 _ _).trans (feq hr19).1)) ?_
      show Go p e below _ (T19.setTop (mkF m 96 #[.val (.int p0), .val (.int p1), .val (.int p2), .val (.ref b1), .val (.int (1 : Int32)), .val (.int r16)] [(.int (1 : Int32))]))
      refine Go.st (fun _ => XS.iconst X19.here hx rfl (hb hby at_96)) ?_
      show Go p e below _ (T19.setTop (mkF m 97 #[.val (.int p0), .val (.int p1), .val (.int p2), .val (.ref b1), .val (.int (1 : Int32)), .val (.int r16)] [(.int (1 : Int32)), (.int (1 : Int32))]))
      refine Go.st (fun _ => XS.goto X19.here hx rfl (pc0 := 97) (pc' := 101) rfl (hb hby at_97) (by decide) (by decide)) ?_
      show Go p e below _ (T19.setTop (mkF m 101 #[.val (.int p0), .val (.int p1), .val (.int p2), .val (.ref b1), .val (.int (1 : Int32)), .val (.int r16)] [(.int (1 : Int32)), (.int (1 : Int32))]))
      refine Go.st (fun _ => XS.icmpNo X19.here hx rfl (hb hby at_101) rfl (teq (by decide : (1 : Int32) = (1 : Int32))).2) ?_
      show Go p e below _ (T19.setTop (mkF m 104 #[.val (.int p0), .val (.int p1), .val (.int p2), .val (.ref b1), .val (.int (1 : Int32)), .val (.int r16)] []))
      refine Go.st (fun _ => XS.iconst X19.here hx rfl (hb hby at_104)) ?_
      show Go p e below _ (T19.setTop (mkF m 105 #[.val (.int p0), .val (.int p1), .val (.int p2), .val (.ref b1), .val (.int (1 : Int32)), .val (.int r16)] [(.int (1 : Int32))]))
      refine Go.st (fun _ => XS.goto X19.here hx rfl (pc0 := 105) (pc' := 109) rfl (hb hby at_105) (by decide) (by decide)) ?_
      show Go p e below _ (T19.setTop (mkF m 109 #[.val (.int p0), .val (.int p1), .val (.int p2), .val (.ref b1), .val (.int (1 : Int32)), .val (.int r16)] [(.int (1 : Int32))]))
      refine Go.st (fun _ => XS.istore X19.here hx rfl (hb hby at_109) rfl (l' := #[.val (.int p0), .val (.int p1), .val (.int p2), .val (.ref b1), .val (.int (1 : Int32)), .val (.int r16)]) rfl) ?_
      show Go p e below _ (T19.setTop (mkF m 111 #[.val (.int p0), .val (.int p1), .val (.int p2), .val (.ref b1), .val (.int (1 : Int32)), .val (.int r16)] []))
      refine Go.st (fun _ => XS.aloadN X19.here hx rfl (hb hby at_111) rfl rfl) ?_
      show Go p e below _ (T19.setTop (mkF m 112 #[.val (.int p0), .val (.int p1), .val (.int p2), .val (.ref b1), .val (.int (1 : Int32)), .val (.int r16)] [(.ref b1)]))
      refine Go.st (fun _ => XS.iloadN X19.here hx rfl (hb hby at_112) rfl) ?_
      show Go p e below _ (T19.setTop (mkF m 113 #[.val (.int p0), .val (.int p1), .val (.int p2), .val (.ref b1), .val (.int (1 : Int32)), .val (.int r16)] [(.int p2), (.ref b1)]))
      refine Go.st (fun _ => XS.iload X19.here hx rfl (hb hby at_113) rfl) ?_
      show Go p e below _ (T19.setTop (mkF m 115 #[.val (.int p0), .val (.int p1), .val (.int p2), .val (.ref b1), .val (.int (1 : Int32)), .val (.int r16)] [(.int r16), (.int p2), (.ref b1)]))
      refine goCallS X19 hx hZ (y := (⟨"com/example/sidelane/sidelane/CancellationIsClaimedPinLaw", "step", "(Lcom/example/sidelane/sidelane/Cancellation;II)I"⟩ : MethodName)) hown (hw _ (List.mem_of_getElem? (i := 18) rfl)) (hw _ (List.mem_of_getElem? (i := 19) rfl)) (hw _ (List.mem_of_getElem? (i := 20) rfl)) (hw _ (List.mem_of_getElem? (i := 21) rfl)) (by decide) (argsL := [(.ref b1), (.int p2), (.int r16)]) (rest := []) e19 (rmStep l Z a0 hw [] b1 p2 r16 wc cl w_EXECUTE w_ADOPTER w_CANCELLED w_REFUSED w_HANDED_OVER w_CANCELLED_UNEXECUTED w_ENDING_NEEDED T16.heap n0 O17 INV16 gn1 S_w_EXECUTE S_w_ADOPTER S_w_CANCELLED S_w_REFUSED S_w_HANDED_OVER S_w_CANCELLED_UNEXECUTED S_w_ENDING_NEEDED ne_w_EXECUTE_w_ADOPTER S_cache S_high BX) 0 (by decide) (by decide) (by decide) (by decide) (mkF m 115 #[.val (.int p0), .val (.int p1), .val (.int p2), .val (.ref b1), .val (.int (1 : Int32)), .val (.int r16)] [(.int r16), (.int p2), (.ref b1)]) rfl (by rw [hml]; rfl) (lenOf pd_6 rfl) rfl (hb hby at_115) (Nat.le_of_eq rfl) ?_
      intro v24 T24 L24 X24 hQ24
      obtain ⟨r24, rfl, hn24, M24, K24, INV24⟩ := hQ24
      have N24 := Fr.app N19 M24
      have O25 : Old Z n0 T24.heap := O17.keep K24 (allS gn1 all0)
      have E_26 : Exa Z T24.heap b1 "com/example/sidelane/sidelane/Cancellation" := E_18.keep K24
      show Go p e below _ (T24.setTop (mkF m 118 #[.val (.int p0), .val (.int p1), .val (.int p2), .val (.ref b1), .val (.int (1 : Int32)), .val (.int r16)] [(.int r24)]))
      refine Go.st (fun _ => XS.istore X24.here hx rfl (hb hby at_118) rfl (l' := #[.val (.int p0), .val (.int p1), .val (.int p2), .val (.ref b1), .val (.int (1 : Int32)), .val (.int r24)]) rfl) ?_
      show Go p e below _ (T24.setTop (mkF m 120 #[.val (.int p0), .val (.int p1), .val (.int p2), .val (.ref b1), .val (.int (1 : Int32)), .val (.int r24)] []))
      refine Go.st (fun _ => XS.iload X24.here hx rfl (hb hby at_120) rfl) ?_
      show Go p e below _ (T24.setTop (mkF m 122 #[.val (.int p0), .val (.int p1), .val (.int p2), .val (.ref b1), .val (.int (1 : Int32)), .val (.int r24)] [(.int r24)]))
      refine Go.st (fun _ => XS.ifYes X24.here hx rfl (pc0 := 122) (pc' := 127) rfl (hb hby at_122) rfl ((if0 _ _).trans (flt hn24).2.1) (by decide) (by decide)) ?_
      show Go p e below _ (T24.setTop (mkF m 127 #[.val (.int p0), .val (.int p1), .val (.int p2), .val (.ref b1), .val (.int (1 : Int32)), .val (.int r24)] []))
      refine Go.st (fun _ => XS.iload X24.here hx rfl (hb hby at_127) rfl) ?_
      show Go p e below _ (T24.setTop (mkF m 129 #[.val (.int p0), .val (.int p1), .val (.int p2), .val (.ref b1), .val (.int (1 : Int32)), .val (.int r24)] [(.int (1 : Int32))]))
      refine Go.st (fun _ => XS.ifNo X24.here hx rfl (hb hby at_129) rfl ((if0 _ _).trans (feq (by decide : ¬ ((1 : Int32) = (0 : Int32)))).1)) ?_
      show Go p e below _ (T24.setTop (mkF m 132 #[.val (.int p0), .val (.int p1), .val (.int p2), .val (.ref b1), .val (.int (1 : Int32)), .val (.int r24)] []))
      refine Go.st (fun _ => XS.aloadN X24.here hx rfl (hb hby at_132) rfl rfl) ?_
      show Go p e below _ (T24.setTop (mkF m 133 #[.val (.int p0), .val (.int p1), .val (.int p2), .val (.ref b1), .val (.int (1 : Int32)), .val (.int r24)] [(.ref b1)]))
      refine goVirt X24 hx hZ (y := (⟨"com/example/sidelane/sidelane/Cancellation", "isClaimed", "()Z"⟩ : MethodName)) (z := (⟨"com/example/sidelane/sidelane/Cancellation", "isClaimed", "()Z"⟩ : MethodName)) hown (hw _ (List.mem_of_getElem? (i := 9) rfl)) (hw _ (List.mem_of_getElem? (i := 10) rfl)) (notFace_of_selects (args := #[]) (mvT hZ (hw _ (List.mem_of_getElem? (i := 12) rfl)))) (hw _ (List.mem_of_getElem? (i := 12) rfl)) (hw _ (List.mem_of_getElem? (i := 11) rfl)) (hw _ (List.mem_of_getElem? (i := 2) rfl)) (hw _ (List.mem_of_getElem? (i := 13) rfl)) (by decide) (a := b1) (argsL := []) (rest := []) rfl E_26 (rmIC l Z a0 hw [] b1 r24 w_EXECUTE w_ADOPTER T24.heap n0 O25 INV24) 0 (by decide) (by decide) (by decide) (by decide) (mkF m 133 #[.val (.int p0), .val (.int p1), .val (.int p2), .val (.ref b1), .val (.int (1 : Int32)), .val (.int r24)] [(.ref b1)]) rfl (by rw [hml]; rfl) (lenOf pd_2 rfl) rfl (hb hby at_133) (Nat.le_of_eq rfl) ?_
      intro v27 T27 L27 X27 hQ27
      obtain ⟨hv27, M27, e27⟩ := hQ27
      have N27 := Fr.app N24 M27
      by_cases hr27 : r24 = (0 : Int32)
      · obtain rfl : v27 = some (.int 0) := hv27.trans (by simp [hr27])
        show Go p e below _ (T27.setTop (mkF m 136 #[.val (.int p0), .val (.int p1), .val (.int p2), .val (.ref b1), .val (.int (1 : Int32)), .val (.int r24)] [(.int (0 : Int32))]))
        refine Go.st (fun _ => XS.iload X27.here hx rfl (hb hby at_136) rfl) ?_
        show Go p e below _ (T27.setTop (mkF m 138 #[.val (.int p0), .val (.int p1), .val (.int p2), .val (.ref b1), .val (.int (1 : Int32)), .val (.int r24)] [(.int r24), (.int (0 : Int32))]))
        refine Go.st (fun _ => XS.ifYes X27.here hx rfl (pc0 := 138) (pc' := 145) rfl (hb hby at_138) rfl ((if0 _ _).trans (teq hr27).1) (by decide) (by decide)) ?_
        show Go p e below _ (T27.setTop (mkF m 145 #[.val (.int p0), .val (.int p1), .val (.int p2), .val (.ref b1), .val (.int (1 : Int32)), .val (.int r24)] [(.int (0 : Int32))]))
        refine Go.st (fun _ => XS.iconst X27.here hx rfl (hb hby at_145)) ?_
        show Go p e below _ (T27.setTop (mkF m 146 #[.val (.int p0), .val (.int p1), .val (.int p2), .val (.ref b1), .val (.int (1 : Int32)), .val (.int r24)] [(.int (0 : Int32)), (.int (0 : Int32))]))
        refine Go.st (fun _ => XS.icmpNo X27.here hx rfl (hb hby at_146) rfl (teq (by decide : (0 : Int32) = (0 : Int32))).2) ?_
        show Go p e below _ (T27.setTop (mkF m 149 #[.val (.int p0), .val (.int p1), .val (.int p2), .val (.ref b1), .val (.int (1 : Int32)), .val (.int r24)] []))
        refine Go.st (fun _ => XS.iconst X27.here hx rfl (hb hby at_149)) ?_
        show Go p e below _ (T27.setTop (mkF m 150 #[.val (.int p0), .val (.int p1), .val (.int p2), .val (.ref b1), .val (.int (1 : Int32)), .val (.int r24)] [(.int (1 : Int32))]))
        refine Go.st (fun _ => XS.goto X27.here hx rfl (pc0 := 150) (pc' := 154) rfl (hb hby at_150) (by decide) (by decide)) ?_
        show Go p e below _ (T27.setTop (mkF m 154 #[.val (.int p0), .val (.int p1), .val (.int p2), .val (.ref b1), .val (.int (1 : Int32)), .val (.int r24)] [(.int (1 : Int32))]))
        refine Go.st (fun _ => XS.istore X27.here hx rfl (hb hby at_154) rfl (l' := #[.val (.int p0), .val (.int p1), .val (.int p2), .val (.ref b1), .val (.int (1 : Int32)), .val (.int r24)]) rfl) ?_
        show Go p e below _ (T27.setTop (mkF m 156 #[.val (.int p0), .val (.int p1), .val (.int p2), .val (.ref b1), .val (.int (1 : Int32)), .val (.int r24)] []))
        refine Go.st (fun _ => XS.iload X27.here hx rfl (hb hby at_156) rfl) ?_
        show Go p e below _ (T27.setTop (mkF m 158 #[.val (.int p0), .val (.int p1), .val (.int p2), .val (.ref b1), .val (.int (1 : Int32)), .val (.int r24)] [(.int (1 : Int32))]))
        exact goRetN X27 hx hlk hret (t := .boolean) (by simp) (w := (1 : Int32)) (by decide) e27 (hb hby at_158) (by decide) (by decide) ⟨rfl, N27⟩
      · obtain rfl : v27 = some (.int 1) := hv27.trans (by simp [hr27])
        show Go p e below _ (T27.setTop (mkF m 136 #[.val (.int p0), .val (.int p1), .val (.int p2), .val (.ref b1), .val (.int (1 : Int32)), .val (.int r24)] [(.int (1 : Int32))]))
        refine Go.st (fun _ => XS.iload X27.here hx rfl (hb hby at_136) rfl) ?_
        show Go p e below _ (T27.setTop (mkF m 138 #[.val (.int p0), .val (.int p1), .val (.int p2), .val (.ref b1), .val (.int (1 : Int32)), .val (.int r24)] [(.int r24), (.int (1 : Int32))]))
        refine Go.st (fun _ => XS.ifNo X27.here hx rfl (hb hby at_138) rfl ((if0 _ _).trans (feq hr27).1)) ?_
        show Go p e below _ (T27.setTop (mkF m 141 #[.val (.int p0), .val (.int p1), .val (.int p2), .val (.ref b1), .val (.int (1 : Int32)), .val (.int r24)] [(.int (1 : Int32))]))
        refine Go.st (fun _ => XS.iconst X27.here hx rfl (hb hby at_141)) ?_
        show Go p e below _ (T27.setTop (mkF m 142 #[.val (.int p0), .val (.int p1), .val (.int p2), .val (.ref b1), .val (.int (1 : Int32)), .val (.int r24)] [(.int (1 : Int32)), (.int (1 : Int32))]))
        refine Go.st (fun _ => XS.goto X27.here hx rfl (pc0 := 142) (pc' := 146) rfl (hb hby at_142) (by decide) (by decide)) ?_
        show Go p e below _ (T27.setTop (mkF m 146 #[.val (.int p0), .val (.int p1), .val (.int p2), .val (.ref b1), .val (.int (1 : Int32)), .val (.int r24)] [(.int (1 : Int32)), (.int (1 : Int32))]))
        refine Go.st (fun _ => XS.icmpNo X27.here hx rfl (hb hby at_146) rfl (teq (by decide : (1 : Int32) = (1 : Int32))).2) ?_
        show Go p e below _ (T27.setTop (mkF m 149 #[.val (.int p0), .val (.int p1), .val (.int p2), .val (.ref b1), .val (.int (1 : Int32)), .val (.int r24)] []))
        refine Go.st (fun _ => XS.iconst X27.here hx rfl (hb hby at_149)) ?_
        show Go p e below _ (T27.setTop (mkF m 150 #[.val (.int p0), .val (.int p1), .val (.int p2), .val (.ref b1), .val (.int (1 : Int32)), .val (.int r24)] [(.int (1 : Int32))]))
        refine Go.st (fun _ => XS.goto X27.here hx rfl (pc0 := 150) (pc' := 154) rfl (hb hby at_150) (by decide) (by decide)) ?_
        show Go p e below _ (T27.setTop (mkF m 154 #[.val (.int p0), .val (.int p1), .val (.int p2), .val (.ref b1), .val (.int (1 : Int32)), .val (.int r24)] [(.int (1 : Int32))]))
        refine Go.st (fun _ => XS.istore X27.here hx rfl (hb hby at_154) rfl (l' := #[.val (.int p0), .val (.int p1), .val (.int p2), .val (.ref b1), .val (.int (1 : Int32)), .val (.int r24)]) rfl) ?_
        show Go p e below _ (T27.setTop (mkF m 156 #[.val (.int p0), .val (.int p1), .val (.int p2), .val (.ref b1), .val (.int (1 : Int32)), .val (.int r24)] []))
        refine Go.st (fun _ => XS.iload X27.here hx rfl (hb hby at_156) rfl) ?_
        show Go p e below _ (T27.setTop (mkF m 158 #[.val (.int p0), .val (.int p1), .val (.int p2), .val (.ref b1), .val (.int (1 : Int32)), .val (.int r24)] [(.int (1 : Int32))]))
        exact goRetN X27 hx hlk hret (t := .boolean) (by simp) (w := (1 : Int32)) (by decide) e27 (hb hby at_158) (by decide) (by decide) ⟨rfl, N27⟩
  · obtain rfl : v15 = some (.int 1) := hv15.trans (by simp [hr15])
    show Go p e below _ (T15.setTop (mkF m 46 #[.val (.int p0), .val (.int p1), .val (.int p2), .val (.ref b1), .val (.int (1 : Int32)), .val (.int r12)] [(.int (1 : Int32))]))
    refine Go.st (fun _ => XS.iload X15.here hx rfl (hb hby at_46) rfl) ?_
    show Go p e below _ (T15.setTop (mkF m 48 #[.val (.int p0), .val (.int p1), .val (.int p2), .val (.ref b1), .val (.int (1 : Int32)), .val (.int r12)] [(.int r12), (.int (1 : Int32))]))
    refine Go.st (fun _ => XS.ifNo X15.here hx rfl (hb hby at_48) rfl ((if0 _ _).trans (feq hr15).1)) ?_
    show Go p e below _ (T15.setTop (mkF m 51 #[.val (.int p0), .val (.int p1), .val (.int p2), .val (.ref b1), .val (.int (1 : Int32)), .val (.int r12)] [(.int (1 : Int32))]))
    refine Go.st (fun _ => XS.iconst X15.here hx rfl (hb hby at_51)) ?_
    show Go p e below _ (T15.setTop (mkF m 52 #[.val (.int p0), .val (.int p1), .val (.int p2), .val (.ref b1), .val (.int (1 : Int32)), .val (.int r12)] [(.int (1 : Int32)), (.int (1 : Int32))]))
    refine Go.st (fun _ => XS.goto X15.here hx rfl (pc0 := 52) (pc' := 56) rfl (hb hby at_52) (by decide) (by decide)) ?_
    show Go p e below _ (T15.setTop (mkF m 56 #[.val (.int p0), .val (.int p1), .val (.int p2), .val (.ref b1), .val (.int (1 : Int32)), .val (.int r12)] [(.int (1 : Int32)), (.int (1 : Int32))]))
    refine Go.st (fun _ => XS.icmpNo X15.here hx rfl (hb hby at_56) rfl (teq (by decide : (1 : Int32) = (1 : Int32))).2) ?_
    show Go p e below _ (T15.setTop (mkF m 59 #[.val (.int p0), .val (.int p1), .val (.int p2), .val (.ref b1), .val (.int (1 : Int32)), .val (.int r12)] []))
    refine Go.st (fun _ => XS.iconst X15.here hx rfl (hb hby at_59)) ?_
    show Go p e below _ (T15.setTop (mkF m 60 #[.val (.int p0), .val (.int p1), .val (.int p2), .val (.ref b1), .val (.int (1 : Int32)), .val (.int r12)] [(.int (1 : Int32))]))
    refine Go.st (fun _ => XS.goto X15.here hx rfl (pc0 := 60) (pc' := 64) rfl (hb hby at_60) (by decide) (by decide)) ?_
    show Go p e below _ (T15.setTop (mkF m 64 #[.val (.int p0), .val (.int p1), .val (.int p2), .val (.ref b1), .val (.int (1 : Int32)), .val (.int r12)] [(.int (1 : Int32))]))
    refine Go.st (fun _ => XS.istore X15.here hx rfl (hb hby at_64) rfl (l' := #[.val (.int p0), .val (.int p1), .val (.int p2), .val (.ref b1), .val (.int (1 : Int32)), .val (.int r12)]) rfl) ?_
    show Go p e below _ (T15.setTop (mkF m 66 #[.val (.int p0), .val (.int p1), .val (.int p2), .val (.ref b1), .val (.int (1 : Int32)), .val (.int r12)] []))
    refine Go.st (fun _ => XS.aloadN X15.here hx rfl (hb hby at_66) rfl rfl) ?_
    show Go p e below _ (T15.setTop (mkF m 67 #[.val (.int p0), .val (.int p1), .val (.int p2), .val (.ref b1), .val (.int (1 : Int32)), .val (.int r12)] [(.ref b1)]))
    refine Go.st (fun _ => XS.iloadN X15.here hx rfl (hb hby at_67) rfl) ?_
    show Go p e below _ (T15.setTop (mkF m 68 #[.val (.int p0), .val (.int p1), .val (.int p2), .val (.ref b1), .val (.int (1 : Int32)), .val (.int r12)] [(.int p1), (.ref b1)]))
    refine Go.st (fun _ => XS.iload X15.here hx rfl (hb hby at_68) rfl) ?_
    show Go p e below _ (T15.setTop (mkF m 70 #[.val (.int p0), .val (.int p1), .val (.int p2), .val (.ref b1), .val (.int (1 : Int32)), .val (.int r12)] [(.int r12), (.int p1), (.ref b1)]))
    refine goCallS X15 hx hZ (y := (⟨"com/example/sidelane/sidelane/CancellationIsClaimedPinLaw", "step", "(Lcom/example/sidelane/sidelane/Cancellation;II)I"⟩ : MethodName)) hown (hw _ (List.mem_of_getElem? (i := 18) rfl)) (hw _ (List.mem_of_getElem? (i := 19) rfl)) (hw _ (List.mem_of_getElem? (i := 20) rfl)) (hw _ (List.mem_of_getElem? (i := 21) rfl)) (by decide) (argsL := [(.ref b1), (.int p1), (.int r12)]) (rest := []) e15 (rmStep l Z a0 hw [] b1 p1 r12 wc cl w_EXECUTE w_ADOPTER w_CANCELLED w_REFUSED w_HANDED_OVER w_CANCELLED_UNEXECUTED w_ENDING_NEEDED T12.heap n0 O13 INV12 gn1 S_w_EXECUTE S_w_ADOPTER S_w_CANCELLED S_w_REFUSED S_w_HANDED_OVER S_w_CANCELLED_UNEXECUTED S_w_ENDING_NEEDED ne_w_EXECUTE_w_ADOPTER S_cache S_high BX) 0 (by decide) (by decide) (by decide) (by decide) (mkF m 70 #[.val (.int p0), .val (.int p1), .val (.int p2), .val (.ref b1), .val (.int (1 : Int32)), .val (.int r12)] [(.int r12), (.int p1), (.ref b1)]) rfl (by rw [hml]; rfl) (lenOf pd_6 rfl) rfl (hb hby at_70) (Nat.le_of_eq rfl) ?_
    intro v28 T28 L28 X28 hQ28
    obtain ⟨r28, rfl, hn28, M28, K28, INV28⟩ := hQ28
    have N28 := Fr.app N15 M28
    have O29 : Old Z n0 T28.heap := O13.keep K28 (allS gn1 all0)
    have E_30 : Exa Z T28.heap b1 "com/example/sidelane/sidelane/Cancellation" := E_14.keep K28
    show Go p e below _ (T28.setTop (mkF m 73 #[.val (.int p0), .val (.int p1), .val (.int p2), .val (.ref b1), .val (.int (1 : Int32)), .val (.int r12)] [(.int r28)]))
    refine Go.st (fun _ => XS.istore X28.here hx rfl (hb hby at_73) rfl (l' := #[.val (.int p0), .val (.int p1), .val (.int p2), .val (.ref b1), .val (.int (1 : Int32)), .val (.int r28)]) rfl) ?_
    show Go p e below _ (T28.setTop (mkF m 75 #[.val (.int p0), .val (.int p1), .val (.int p2), .val (.ref b1), .val (.int (1 : Int32)), .val (.int r28)] []))
    refine Go.st (fun _ => XS.iload X28.here hx rfl (hb hby at_75) rfl) ?_
    show Go p e below _ (T28.setTop (mkF m 77 #[.val (.int p0), .val (.int p1), .val (.int p2), .val (.ref b1), .val (.int (1 : Int32)), .val (.int r28)] [(.int r28)]))
    refine Go.st (fun _ => XS.ifYes X28.here hx rfl (pc0 := 77) (pc' := 82) rfl (hb hby at_77) rfl ((if0 _ _).trans (flt hn28).2.1) (by decide) (by decide)) ?_
    show Go p e below _ (T28.setTop (mkF m 82 #[.val (.int p0), .val (.int p1), .val (.int p2), .val (.ref b1), .val (.int (1 : Int32)), .val (.int r28)] []))
    refine Go.st (fun _ => XS.iload X28.here hx rfl (hb hby at_82) rfl) ?_
    show Go p e below _ (T28.setTop (mkF m 84 #[.val (.int p0), .val (.int p1), .val (.int p2), .val (.ref b1), .val (.int (1 : Int32)), .val (.int r28)] [(.int (1 : Int32))]))
    refine Go.st (fun _ => XS.ifNo X28.here hx rfl (hb hby at_84) rfl ((if0 _ _).trans (feq (by decide : ¬ ((1 : Int32) = (0 : Int32)))).1)) ?_
    show Go p e below _ (T28.setTop (mkF m 87 #[.val (.int p0), .val (.int p1), .val (.int p2), .val (.ref b1), .val (.int (1 : Int32)), .val (.int r28)] []))
    refine Go.st (fun _ => XS.aloadN X28.here hx rfl (hb hby at_87) rfl rfl) ?_
    show Go p e below _ (T28.setTop (mkF m 88 #[.val (.int p0), .val (.int p1), .val (.int p2), .val (.ref b1), .val (.int (1 : Int32)), .val (.int r28)] [(.ref b1)]))
    refine goVirt X28 hx hZ (y := (⟨"com/example/sidelane/sidelane/Cancellation", "isClaimed", "()Z"⟩ : MethodName)) (z := (⟨"com/example/sidelane/sidelane/Cancellation", "isClaimed", "()Z"⟩ : MethodName)) hown (hw _ (List.mem_of_getElem? (i := 9) rfl)) (hw _ (List.mem_of_getElem? (i := 10) rfl)) (notFace_of_selects (args := #[]) (mvT hZ (hw _ (List.mem_of_getElem? (i := 12) rfl)))) (hw _ (List.mem_of_getElem? (i := 12) rfl)) (hw _ (List.mem_of_getElem? (i := 11) rfl)) (hw _ (List.mem_of_getElem? (i := 2) rfl)) (hw _ (List.mem_of_getElem? (i := 13) rfl)) (by decide) (a := b1) (argsL := []) (rest := []) rfl E_30 (rmIC l Z a0 hw [] b1 r28 w_EXECUTE w_ADOPTER T28.heap n0 O29 INV28) 0 (by decide) (by decide) (by decide) (by decide) (mkF m 88 #[.val (.int p0), .val (.int p1), .val (.int p2), .val (.ref b1), .val (.int (1 : Int32)), .val (.int r28)] [(.ref b1)]) rfl (by rw [hml]; rfl) (lenOf pd_2 rfl) rfl (hb hby at_88) (Nat.le_of_eq rfl) ?_
    intro v31 T31 L31 X31 hQ31
    obtain ⟨hv31, M31, e31⟩ := hQ31
    have N31 := Fr.app N28 M31
    by_cases hr31 : r28 = (0 : Int32)
    · obtain rfl : v31 = some (.int 0) := hv31.trans (by simp [hr31])
      show Go p e below _ (T31.setTop (mkF m 91 #[.val (.int p0), .val (.int p1), .val (.int p2), .val (.ref b1), .val (.int (1 : Int32)), .val (.int r28)] [(.int (0 : Int32))]))
      refine Go.st (fun _ => XS.iload X31.here hx rfl (hb hby at_91) rfl) ?_
      show Go p e below _ (T31.setTop (mkF m 93 #[.val (.int p0), .val (.int p1), .val (.int p2), .val (.ref b1), .val (.int (1 : Int32)), .val (.int r28)] [(.int r28), (.int (0 : Int32))]))
      refine Go.st (fun _ => XS.ifYes X31.here hx rfl (pc0 := 93) (pc' := 100) rfl (hb hby at_93) rfl ((if0 _ _).trans (teq hr31).1) (by decide) (by decide)) ?_
      show Go p e below _ (T31.setTop (mkF m 100 #[.val (.int p0), .val (.int p1), .val (.int p2), .val (.ref b1), .val (.int (1 : Int32)), .val (.int r28)] [(.int (0 : Int32))]))
      refine Go.st (fun _ => XS.iconst X31.here hx rfl (hb hby at_100)) ?_
      show Go p e below _ (T31.setTop (mkF m 101 #[.val (.int p0), .val (.int p1), .val (.int p2), .val (.ref b1), .val (.int (1 : Int32)), .val (.int r28)] [(.int (0 : Int32)), (.int (0 : Int32))]))
      refine Go.st (fun _ => XS.icmpNo X31.here hx rfl (hb hby at_101) rfl (teq (by decide : (0 : Int32) = (0 : Int32))).2) ?_
      show Go p e below _ (T31.setTop (mkF m 104 #[.val (.int p0), .val (.int p1), .val (.int p2), .val (.ref b1), .val (.int (1 : Int32)), .val (.int r28)] []))
      refine Go.st (fun _ => XS.iconst X31.here hx rfl (hb hby at_104)) ?_
      show Go p e below _ (T31.setTop (mkF m 105 #[.val (.int p0), .val (.int p1), .val (.int p2), .val (.ref b1), .val (.int (1 : Int32)), .val (.int r28)] [(.int (1 : Int32))]))
      refine Go.st (fun _ => XS.goto X31.here hx rfl (pc0 := 105) (pc' := 109) rfl (hb hby at_105) (by decide) (by decide)) ?_
      show Go p e below _ (T31.setTop (mkF m 109 #[.val (.int p0), .val (.int p1), .val (.int p2), .val (.ref b1), .val (.int (1 : Int32)), .val (.int r28)] [(.int (1 : Int32))]))
      refine Go.st (fun _ => XS.istore X31.here hx rfl (hb hby at_109) rfl (l' := #[.val (.int p0), .val (.int p1), .val (.int p2), .val (.ref b1), .val (.int (1 : Int32)), .val (.int r28)]) rfl) ?_
      show Go p e below _ (T31.setTop (mkF m 111 #[.val (.int p0), .val (.int p1), .val (.int p2), .val (.ref b1), .val (.int (1 : Int32)), .val (.int r28)] []))
      refine Go.st (fun _ => XS.aloadN X31.here hx rfl (hb hby at_111) rfl rfl) ?_
      show Go p e below _ (T31.setTop (mkF m 112 #[.val (.int p0), .val (.int p1), .val (.int p2), .val (.ref b1), .val (.int (1 : Int32)), .val (.int r28)] [(.ref b1)]))
      refine Go.st (fun _ => XS.iloadN X31.here hx rfl (hb hby at_112) rfl) ?_
      show Go p e below _ (T31.setTop (mkF m 113 #[.val (.int p0), .val (.int p1), .val (.int p2), .val (.ref b1), .val (.int (1 : Int32)), .val (.int r28)] [(.int p2), (.ref b1)]))
      refine Go.st (fun _ => XS.iload X31.here hx rfl (hb hby at_113) rfl) ?_
      show Go p e below _ (T31.setTop (mkF m 115 #[.val (.int p0), .val (.int p1), .val (.int p2), .val (.ref b1), .val (.int (1 : Int32)), .val (.int r28)] [(.int r28), (.int p2), (.ref b1)]))
      refine goCallS X31 hx hZ (y := (⟨"com/example/sidelane/sidelane/CancellationIsClaimedPinLaw", "step", "(Lcom/example/sidelane/sidelane/Cancellation;II)I"⟩ : MethodName)) hown (hw _ (List.mem_of_getElem? (i := 18) rfl)) (hw _ (List.mem_of_getElem? (i := 19) rfl)) (hw _ (List.mem_of_getElem? (i := 20) rfl)) (hw _ (List.mem_of_getElem? (i := 21) rfl)) (by decide) (argsL := [(.ref b1), (.int p2), (.int r28)]) (rest := []) e31 (rmStep l Z a0 hw [] b1 p2 r28 wc cl w_EXECUTE w_ADOPTER w_CANCELLED w_REFUSED w_HANDED_OVER w_CANCELLED_UNEXECUTED w_ENDING_NEEDED T28.heap n0 O29 INV28 gn1 S_w_EXECUTE S_w_ADOPTER S_w_CANCELLED S_w_REFUSED S_w_HANDED_OVER S_w_CANCELLED_UNEXECUTED S_w_ENDING_NEEDED ne_w_EXECUTE_w_ADOPTER S_cache S_high BX) 0 (by decide) (by decide) (by decide) (by decide) (mkF m 115 #[.val (.int p0), .val (.int p1), .val (.int p2), .val (.ref b1), .val (.int (1 : Int32)), .val (.int r28)] [(.int r28), (.int p2), (.ref b1)]) rfl (by rw [hml]; rfl) (lenOf pd_6 rfl) rfl (hb hby at_115) (Nat.le_of_eq rfl) ?_
      intro v32 T32 L32 X32 hQ32
      obtain ⟨r32, rfl, hn32, M32, K32, INV32⟩ := hQ32
      have N32 := Fr.app N31 M32
      have O33 : Old Z n0 T32.heap := O29.keep K32 (allS gn1 all0)
      have E_34 : Exa Z T32.heap b1 "com/example/sidelane/sidelane/Cancellation" := E_30.keep K32
      show Go p e below _ (T32.setTop (mkF m 118 #[.val (.int p0), .val (.int p1), .val (.int p2), .val (.ref b1), .val (.int (1 : Int32)), .val (.int r28)] [(.int r32)]))
      refine Go.st (fun _ => XS.istore X32.here hx rfl (hb hby at_118) rfl (l' := #[.val (.int p0), .val (.int p1), .val (.int p2), .val (.ref b1), .val (.int (1 : Int32)), .val (.int r32)]) rfl) ?_
      show Go p e below _ (T32.setTop (mkF m 120 #[.val (.int p0), .val (.int p1), .val (.int p2), .val (.ref b1), .val (.int (1 : Int32)), .val (.int r32)] []))
      refine Go.st (fun _ => XS.iload X32.here hx rfl (hb hby at_120) rfl) ?_
      show Go p e below _ (T32.setTop (mkF m 122 #[.val (.int p0), .val (.int p1), .val (.int p2), .val (.ref b1), .val (.int (1 : Int32)), .val (.int r32)] [(.int r32)]))
      refine Go.st (fun _ => XS.ifYes X32.here hx rfl (pc0 := 122) (pc' := 127) rfl (hb hby at_122) rfl ((if0 _ _).trans (flt hn32).2.1) (by decide) (by decide)) ?_
      show Go p e below _ (T32.setTop (mkF m 127 #[.val (.int p0), .val (.int p1), .val (.int p2), .val (.ref b1), .val (.int (1 : Int32)), .val (.int r32)] []))
      refine Go.st (fun _ => XS.iload X32.here hx rfl (hb hby at_127) rfl) ?_
      show Go p e below _ (T32.setTop (mkF m 129 #[.val (.int p0), .val (.int p1), .val (.int p2), .val (.ref b1), .val (.int (1 : Int32)), .val (.int r32)] [(.int (1 : Int32))]))
      refine Go.st (fun _ => XS.ifNo X32.here hx rfl (hb hby at_129) rfl ((if0 _ _).trans (feq (by decide : ¬ ((1 : Int32) = (0 : Int32)))).1)) ?_
      show Go p e below _ (T32.setTop (mkF m 132 #[.val (.int p0), .val (.int p1), .val (.int p2), .val (.ref b1), .val (.int (1 : Int32)), .val (.int r32)] []))
      refine Go.st (fun _ => XS.aloadN X32.here hx rfl (hb hby at_132) rfl rfl) ?_
      show Go p e below _ (T32.setTop (mkF m 133 #[.val (.int p0), .val (.int p1), .val (.int p2), .val (.ref b1), .val (.int (1 : Int32)), .val (.int r32)] [(.ref b1)]))
      refine goVirt X32 hx hZ (y := (⟨"com/example/sidelane/sidelane/Cancellation", "isClaimed", "()Z"⟩ : MethodName)) (z := (⟨"com/example/sidelane/sidelane/Cancellation", "isClaimed", "()Z"⟩ : MethodName)) hown (hw _ (List.mem_of_getElem? (i := 9) rfl)) (hw _ (List.mem_of_getElem? (i := 10) rfl)) (notFace_of_selects (args := #[]) (mvT hZ (hw _ (List.mem_of_getElem? (i := 12) rfl)))) (hw _ (List.mem_of_getElem? (i := 12) rfl)) (hw _ (List.mem_of_getElem? (i := 11) rfl)) (hw _ (List.mem_of_getElem? (i := 2) rfl)) (hw _ (List.mem_of_getElem? (i := 13) rfl)) (by decide) (a := b1) (argsL := []) (rest := []) rfl E_34 (rmIC l Z a0 hw [] b1 r32 w_EXECUTE w_ADOPTER T32.heap n0 O33 INV32) 0 (by decide) (by decide) (by decide) (by decide) (mkF m 133 #[.val (.int p0), .val (.int p1), .val (.int p2), .val (.ref b1), .val (.int (1 : Int32)), .val (.int r32)] [(.ref b1)]) rfl (by rw [hml]; rfl) (lenOf pd_2 rfl) rfl (hb hby at_133) (Nat.le_of_eq rfl) ?_
      intro v35 T35 L35 X35 hQ35
      obtain ⟨hv35, M35, e35⟩ := hQ35
      have N35 := Fr.app N32 M35
      by_cases hr35 : r32 = (0 : Int32)
      · obtain rfl : v35 = some (.int 0) := hv35.trans (by simp [hr35])
        show Go p e below _ (T35.setTop (mkF m 136 #[.val (.int p0), .val (.int p1), .val (.int p2), .val (.ref b1), .val (.int (1 : Int32)), .val (.int r32)] [(.int (0 : Int32))]))
        refine Go.st (fun _ => XS.iload X35.here hx rfl (hb hby at_136) rfl) ?_
        show Go p e below _ (T35.setTop (mkF m 138 #[.val (.int p0), .val (.int p1), .val (.int p2), .val (.ref b1), .val (.int (1 : Int32)), .val (.int r32)] [(.int r32), (.int (0 : Int32))]))
        refine Go.st (fun _ => XS.ifYes X35.here hx rfl (pc0 := 138) (pc' := 145) rfl (hb hby at_138) rfl ((if0 _ _).trans (teq hr35).1) (by decide) (by decide)) ?_
        show Go p e below _ (T35.setTop (mkF m 145 #[.val (.int p0), .val (.int p1), .val (.int p2), .val (.ref b1), .val (.int (1 : Int32)), .val (.int r32)] [(.int (0 : Int32))]))
        refine Go.st (fun _ => XS.iconst X35.here hx rfl (hb hby at_145)) ?_
        show Go p e below _ (T35.setTop (mkF m 146 #[.val (.int p0), .val (.int p1), .val (.int p2), .val (.ref b1), .val (.int (1 : Int32)), .val (.int r32)] [(.int (0 : Int32)), (.int (0 : Int32))]))
        refine Go.st (fun _ => XS.icmpNo X35.here hx rfl (hb hby at_146) rfl (teq (by decide : (0 : Int32) = (0 : Int32))).2) ?_
        show Go p e below _ (T35.setTop (mkF m 149 #[.val (.int p0), .val (.int p1), .val (.int p2), .val (.ref b1), .val (.int (1 : Int32)), .val (.int r32)] []))
        refine Go.st (fun _ => XS.iconst X35.here hx rfl (hb hby at_149)) ?_
        show Go p e below _ (T35.setTop (mkF m 150 #[.val (.int p0), .val (.int p1), .val (.int p2), .val (.ref b1), .val (.int (1 : Int32)), .val (.int r32)] [(.int (1 : Int32))]))
        refine Go.st (fun _ => XS.goto X35.here hx rfl (pc0 := 150) (pc' := 154) rfl (hb hby at_150) (by decide) (by decide)) ?_
        show Go p e below _ (T35.setTop (mkF m 154 #[.val (.int p0), .val (.int p1), .val (.int p2), .val (.ref b1), .val (.int (1 : Int32)), .val (.int r32)] [(.int (1 : Int32))]))
        refine Go.st (fun _ => XS.istore X35.here hx rfl (hb hby at_154) rfl (l' := #[.val (.int p0), .val (.int p1), .val (.int p2), .val (.ref b1), .val (.int (1 : Int32)), .val (.int r32)]) rfl) ?_
        show Go p e below _ (T35.setTop (mkF m 156 #[.val (.int p0), .val (.int p1), .val (.int p2), .val (.ref b1), .val (.int (1 : Int32)), .val (.int r32)] []))
        refine Go.st (fun _ => XS.iload X35.here hx rfl (hb hby at_156) rfl) ?_
        show Go p e below _ (T35.setTop (mkF m 158 #[.val (.int p0), .val (.int p1), .val (.int p2), .val (.ref b1), .val (.int (1 : Int32)), .val (.int r32)] [(.int (1 : Int32))]))
        exact goRetN X35 hx hlk hret (t := .boolean) (by simp) (w := (1 : Int32)) (by decide) e35 (hb hby at_158) (by decide) (by decide) ⟨rfl, N35⟩
      · obtain rfl : v35 = some (.int 1) := hv35.trans (by simp [hr35])
        show Go p e below _ (T35.setTop (mkF m 136 #[.val (.int p0), .val (.int p1), .val (.int p2), .val (.ref b1), .val (.int (1 : Int32)), .val (.int r32)] [(.int (1 : Int32))]))
        refine Go.st (fun _ => XS.iload X35.here hx rfl (hb hby at_136) rfl) ?_
        show Go p e below _ (T35.setTop (mkF m 138 #[.val (.int p0), .val (.int p1), .val (.int p2), .val (.ref b1), .val (.int (1 : Int32)), .val (.int r32)] [(.int r32), (.int (1 : Int32))]))
        refine Go.st (fun _ => XS.ifNo X35.here hx rfl (hb hby at_138) rfl ((if0 _ _).trans (feq hr35).1)) ?_
        show Go p e below _ (T35.setTop (mkF m 141 #[.val (.int p0), .val (.int p1), .val (.int p2), .val (.ref b1), .val (.int (1 : Int32)), .val (.int r32)] [(.int (1 : Int32))]))
        refine Go.st (fun _ => XS.iconst X35.here hx rfl (hb hby at_141)) ?_
        show Go p e below _ (T35.setTop (mkF m 142 #[.val (.int p0), .val (.int p1), .val (.int p2), .val (.ref b1), .val (.int (1 : Int32)), .val (.int r32)] [(.int (1 : Int32)), (.int (1 : Int32))]))
        refine Go.st (fun _ => XS.goto X35.here hx rfl (pc0 := 142) (pc' := 146) rfl (hb hby at_142) (by decide) (by decide)) ?_
        show Go p e below _ (T35.setTop (mkF m 146 #[.val (.int p0), .val (.int p1), .val (.int p2), .val (.ref b1), .val (.int (1 : Int32)), .val (.int r32)] [(.int (1 : Int32)), (.int (1 : Int32))]))
        refine Go.st (fun _ => XS.icmpNo X35.here hx rfl (hb hby at_146) rfl (teq (by decide : (1 : Int32) = (1 : Int32))).2) ?_
        show Go p e below _ (T35.setTop (mkF m 149 #[.val (.int p0), .val (.int p1), .val (.int p2), .val (.ref b1), .val (.int (1 : Int32)), .val (.int r32)] []))
        refine Go.st (fun _ => XS.iconst X35.here hx rfl (hb hby at_149)) ?_
        show Go p e below _ (T35.setTop (mkF m 150 #[.val (.int p0), .val (.int p1), .val (.int p2), .val (.ref b1), .val (.int (1 : Int32)), .val (.int r32)] [(.int (1 : Int32))]))
        refine Go.st (fun _ => XS.goto X35.here hx rfl (pc0 := 150) (pc' := 154) rfl (hb hby at_150) (by decide) (by decide)) ?_
        show Go p e below _ (T35.setTop (mkF m 154 #[.val (.int p0), .val (.int p1), .val (.int p2), .val (.ref b1), .val (.int (1 : Int32)), .val (.int r32)] [(.int (1 : Int32))]))
        refine Go.st (fun _ => XS.istore X35.here hx rfl (hb hby at_154) rfl (l' := #[.val (.int p0), .val (.int p1), .val (.int p2), .val (.ref b1), .val (.int (1 : Int32)), .val (.int r32)]) rfl) ?_
        show Go p e below _ (T35.setTop (mkF m 156 #[.val (.int p0), .val (.int p1), .val (.int p2), .val (.ref b1), .val (.int (1 : Int32)), .val (.int r32)] []))
        refine Go.st (fun _ => XS.iload X35.here hx rfl (hb hby at_156) rfl) ?_
        show Go p e below _ (T35.setTop (mkF m 158 #[.val (.int p0), .val (.int p1), .val (.int p2), .val (.ref b1), .val (.int (1 : Int32)), .val (.int r32)] [(.int (1 : Int32))]))
        exact goRetN X35 hx hlk hret (t := .boolean) (by simp) (w := (1 : Int32)) (by decide) e35 (hb hby at_158) (by decide) (by decide) ⟨rfl, N35⟩
    · obtain rfl : v31 = some (.int 1) := hv31.trans (by simp [hr31])
      show Go p e below _ (T31.setTop (mkF m 91 #[.val (.int p0), .val (.int p1), .val (.int p2), .val (.ref b1), .val (.int (1 : Int32)), .val (.int r28)] [(.int (1 : Int32))]))
      refine Go.st (fun _ => XS.iload X31.here hx rfl (hb hby at_91) rfl) ?_
      show Go p e below _ (T31.setTop (mkF m 93 #[.val (.int p0), .val (.int p1), .val (.int p2), .val (.ref b1), .val (.int (1 : Int32)), .val (.int r28)] [(.int r28), (.int (1 : Int32))]))
      refine Go.st (fun _ => XS.ifNo X31.here hx rfl (hb hby at_93) rfl ((if0 _ _).trans (feq hr31).1)) ?_
      show Go p e below _ (T31.setTop (mkF m 96 #[.val (.int p0), .val (.int p1), .val (.int p2), .val (.ref b1), .val (.int (1 : Int32)), .val (.int r28)] [(.int (1 : Int32))]))
      refine Go.st (fun _ => XS.iconst X31.here hx rfl (hb hby at_96)) ?_
      show Go p e below _ (T31.setTop (mkF m 97 #[.val (.int p0), .val (.int p1), .val (.int p2), .val (.ref b1), .val (.int (1 : Int32)), .val (.int r28)] [(.int (1 : Int32)), (.int (1 : Int32))]))
      refine Go.st (fun _ => XS.goto X31.here hx rfl (pc0 := 97) (pc' := 101) rfl (hb hby at_97) (by decide) (by decide)) ?_
      show Go p e below _ (T31.setTop (mkF m 101 #[.val (.int p0), .val (.int p1), .val (.int p2), .val (.ref b1), .val (.int (1 : Int32)), .val (.int r28)] [(.int (1 : Int32)), (.int (1 : Int32))]))
      refine Go.st (fun _ => XS.icmpNo X31.here hx rfl (hb hby at_101) rfl (teq (by decide : (1 : Int32) = (1 : Int32))).2) ?_
      show Go p e below _ (T31.setTop (mkF m 104 #[.val (.int p0), .val (.int p1), .val (.int p2), .val (.ref b1), .val (.int (1 : Int32)), .val (.int r28)] []))
      refine Go.st (fun _ => XS.iconst X31.here hx rfl (hb hby at_104)) ?_
      show Go p e below _ (T31.setTop (mkF m 105 #[.val (.int p0), .val (.int p1), .val (.int p2), .val (.ref b1), .val (.int (1 : Int32)), .val (.int r28)] [(.int (1 : Int32))]))
      refine Go.st (fun _ => XS.goto X31.here hx rfl (pc0 := 105) (pc' := 109) rfl (hb hby at_105) (by decide) (by decide)) ?_
      show Go p e below _ (T31.setTop (mkF m 109 #[.val (.int p0), .val (.int p1), .val (.int p2), .val (.ref b1), .val (.int (1 : Int32)), .val (.int r28)] [(.int (1 : Int32))]))
      refine Go.st (fun _ => XS.istore X31.here hx rfl (hb hby at_109) rfl (l' := #[.val (.int p0), .val (.int p1), .val (.int p2), .val (.ref b1), .val (.int (1 : Int32)), .val (.int r28)]) rfl) ?_
      show Go p e below _ (T31.setTop (mkF m 111 #[.val (.int p0), .val (.int p1), .val (.int p2), .val (.ref b1), .val (.int (1 : Int32)), .val (.int r28)] []))
      refine Go.st (fun _ => XS.aloadN X31.here hx rfl (hb hby at_111) rfl rfl) ?_
      show Go p e below _ (T31.setTop (mkF m 112 #[.val (.int p0), .val (.int p1), .val (.int p2), .val (.ref b1), .val (.int (1 : Int32)), .val (.int r28)] [(.ref b1)]))
      refine Go.st (fun _ => XS.iloadN X31.here hx rfl (hb hby at_112) rfl) ?_
      show Go p e below _ (T31.setTop (mkF m 113 #[.val (.int p0), .val (.int p1), .val (.int p2), .val (.ref b1), .val (.int (1 : Int32)), .val (.int r28)] [(.int p2), (.ref b1)]))
      refine Go.st (fun _ => XS.iload X31.here hx rfl (hb hby at_113) rfl) ?_
      show Go p e below _ (T31.setTop (mkF m 115 #[.val (.int p0), .val (.int p1), .val (.int p2), .val (.ref b1), .val (.int (1 : Int32)), .val (.int r28)] [(.int r28), (.int p2), (.ref b1)]))
      refine goCallS X31 hx hZ (y := (⟨"com/example/sidelane/sidelane/CancellationIsClaimedPinLaw", "step", "(Lcom/example/sidelane/sidelane/Cancellation;II)I"⟩ : MethodName)) hown (hw _ (List.mem_of_getElem? (i := 18) rfl)) (hw _ (List.mem_of_getElem? (i := 19) rfl)) (hw _ (List.mem_of_getElem? (i := 20) rfl)) (hw _ (List.mem_of_getElem? (i := 21) rfl)) (by decide) (argsL := [(.ref b1), (.int p2), (.int r28)]) (rest := []) e31 (rmStep l Z a0 hw [] b1 p2 r28 wc cl w_EXECUTE w_ADOPTER w_CANCELLED w_REFUSED w_HANDED_OVER w_CANCELLED_UNEXECUTED w_ENDING_NEEDED T28.heap n0 O29 INV28 gn1 S_w_EXECUTE S_w_ADOPTER S_w_CANCELLED S_w_REFUSED S_w_HANDED_OVER S_w_CANCELLED_UNEXECUTED S_w_ENDING_NEEDED ne_w_EXECUTE_w_ADOPTER S_cache S_high BX) 0 (by decide) (by decide) (by decide) (by decide) (mkF m 115 #[.val (.int p0), .val (.int p1), .val (.int p2), .val (.ref b1), .val (.int (1 : Int32)), .val (.int r28)] [(.int r28), (.int p2), (.ref b1)]) rfl (by rw [hml]; rfl) (lenOf pd_6 rfl) rfl (hb hby at_115) (Nat.le_of_eq rfl) ?_
      intro v36 T36 L36 X36 hQ36
      obtain ⟨r36, rfl, hn36, M36, K36, INV36⟩ := hQ36
      have N36 := Fr.app N31 M36
      have O37 : Old Z n0 T36.heap := O29.keep K36 (allS gn1 all0)
      have E_38 : Exa Z T36.heap b1 "com/example/sidelane/sidelane/Cancellation" := E_30.keep K36
      show Go p e below _ (T36.setTop (mkF m 118 #[.val (.int p0), .val (.int p1), .val (.int p2), .val (.ref b1), .val (.int (1 : Int32)), .val (.int r28)] [(.int r36)]))
      refine Go.st (fun _ => XS.istore X36.here hx rfl (hb hby at_118) rfl (l' := #[.val (.int p0), .val (.int p1), .val (.int p2), .val (.ref b1), .val (.int (1 : Int32)), .val (.int r36)]) rfl) ?_
      show Go p e below _ (T36.setTop (mkF m 120 #[.val (.int p0), .val (.int p1), .val (.int p2), .val (.ref b1), .val (.int (1 : Int32)), .val (.int r36)] []))
      refine Go.st (fun _ => XS.iload X36.here hx rfl (hb hby at_120) rfl) ?_
      show Go p e below _ (T36.setTop (mkF m 122 #[.val (.int p0), .val (.int p1), .val (.int p2), .val (.ref b1), .val (.int (1 : Int32)), .val (.int r36)] [(.int r36)]))
      refine Go.st (fun _ => XS.ifYes X36.here hx rfl (pc0 := 122) (pc' := 127) rfl (hb hby at_122) rfl ((if0 _ _).trans (flt hn36).2.1) (by decide) (by decide)) ?_
      show Go p e below _ (T36.setTop (mkF m 127 #[.val (.int p0), .val (.int p1), .val (.int p2), .val (.ref b1), .val (.int (1 : Int32)), .val (.int r36)] []))
      refine Go.st (fun _ => XS.iload X36.here hx rfl (hb hby at_127) rfl) ?_
      show Go p e below _ (T36.setTop (mkF m 129 #[.val (.int p0), .val (.int p1), .val (.int p2), .val (.ref b1), .val (.int (1 : Int32)), .val (.int r36)] [(.int (1 : Int32))]))
      refine Go.st (fun _ => XS.ifNo X36.here hx rfl (hb hby at_129) rfl ((if0 _ _).trans (feq (by decide : ¬ ((1 : Int32) = (0 : Int32)))).1)) ?_
      show Go p e below _ (T36.setTop (mkF m 132 #[.val (.int p0), .val (.int p1), .val (.int p2), .val (.ref b1), .val (.int (1 : Int32)), .val (.int r36)] []))
      refine Go.st (fun _ => XS.aloadN X36.here hx rfl (hb hby at_132) rfl rfl) ?_
      show Go p e below _ (T36.setTop (mkF m 133 #[.val (.int p0), .val (.int p1), .val (.int p2), .val (.ref b1), .val (.int (1 : Int32)), .val (.int r36)] [(.ref b1)]))
      refine goVirt X36 hx hZ (y := (⟨"com/example/sidelane/sidelane/Cancellation", "isClaimed", "()Z"⟩ : MethodName)) (z := (⟨"com/example/sidelane/sidelane/Cancellation", "isClaimed", "()Z"⟩ : MethodName)) hown (hw _ (List.mem_of_getElem? (i := 9) rfl)) (hw _ (List.mem_of_getElem? (i := 10) rfl)) (notFace_of_selects (args := #[]) (mvT hZ (hw _ (List.mem_of_getElem? (i := 12) rfl)))) (hw _ (List.mem_of_getElem? (i := 12) rfl)) (hw _ (List.mem_of_getElem? (i := 11) rfl)) (hw _ (List.mem_of_getElem? (i := 2) rfl)) (hw _ (List.mem_of_getElem? (i := 13) rfl)) (by decide) (a := b1) (argsL := []) (rest := []) rfl E_38 (rmIC l Z a0 hw [] b1 r36 w_EXECUTE w_ADOPTER T36.heap n0 O37 INV36) 0 (by decide) (by decide) (by decide) (by decide) (mkF m 133 #[.val (.int p0), .val (.int p1), .val (.int p2), .val (.ref b1), .val (.int (1 : Int32)), .val (.int r36)] [(.ref b1)]) rfl (by rw [hml]; rfl) (lenOf pd_2 rfl) rfl (hb hby at_133) (Nat.le_of_eq rfl) ?_
      intro v39 T39 L39 X39 hQ39
      obtain ⟨hv39, M39, e39⟩ := hQ39
      have N39 := Fr.app N36 M39
      by_cases hr39 : r36 = (0 : Int32)
      · obtain rfl : v39 = some (.int 0) := hv39.trans (by simp [hr39])
        show Go p e below _ (T39.setTop (mkF m 136 #[.val (.int p0), .val (.int p1), .val (.int p2), .val (.ref b1), .val (.int (1 : Int32)), .val (.int r36)] [(.int (0 : Int32))]))
        refine Go.st (fun _ => XS.iload X39.here hx rfl (hb hby at_136) rfl) ?_
        show Go p e below _ (T39.setTop (mkF m 138 #[.val (.int p0), .val (.int p1), .val (.int p2), .val (.ref b1), .val (.int (1 : Int32)), .val (.int r36)] [(.int r36), (.int (0 : Int32))]))
        refine Go.st (fun _ => XS.ifYes X39.here hx rfl (pc0 := 138) (pc' := 145) rfl (hb hby at_138) rfl ((if0 _ _).trans (teq hr39).1) (by decide) (by decide)) ?_
        show Go p e below _ (T39.setTop (mkF m 145 #[.val (.int p0), .val (.int p1), .val (.int p2), .val (.ref b1), .val (.int (1 : Int32)), .val (.int r36)] [(.int (0 : Int32))]))
        refine Go.st (fun _ => XS.iconst X39.here hx rfl (hb hby at_145)) ?_
        show Go p e below _ (T39.setTop (mkF m 146 #[.val (.int p0), .val (.int p1), .val (.int p2), .val (.ref b1), .val (.int (1 : Int32)), .val (.int r36)] [(.int (0 : Int32)), (.int (0 : Int32))]))
        refine Go.st (fun _ => XS.icmpNo X39.here hx rfl (hb hby at_146) rfl (teq (by decide : (0 : Int32) = (0 : Int32))).2) ?_
        show Go p e below _ (T39.setTop (mkF m 149 #[.val (.int p0), .val (.int p1), .val (.int p2), .val (.ref b1), .val (.int (1 : Int32)), .val (.int r36)] []))
        refine Go.st (fun _ => XS.iconst X39.here hx rfl (hb hby at_149)) ?_
        show Go p e below _ (T39.setTop (mkF m 150 #[.val (.int p0), .val (.int p1), .val (.int p2), .val (.ref b1), .val (.int (1 : Int32)), .val (.int r36)] [(.int (1 : Int32))]))
        refine Go.st (fun _ => XS.goto X39.here hx rfl (pc0 := 150) (pc' := 154) rfl (hb hby at_150) (by decide) (by decide)) ?_
        show Go p e below _ (T39.setTop (mkF m 154 #[.val (.int p0), .val (.int p1), .val (.int p2), .val (.ref b1), .val (.int (1 : Int32)), .val (.int r36)] [(.int (1 : Int32))]))
        refine Go.st (fun _ => XS.istore X39.here hx rfl (hb hby at_154) rfl (l' := #[.val (.int p0), .val (.int p1), .val (.int p2), .val (.ref b1), .val (.int (1 : Int32)), .val (.int r36)]) rfl) ?_
        show Go p e below _ (T39.setTop (mkF m 156 #[.val (.int p0), .val (.int p1), .val (.int p2), .val (.ref b1), .val (.int (1 : Int32)), .val (.int r36)] []))
        refine Go.st (fun _ => XS.iload X39.here hx rfl (hb hby at_156) rfl) ?_
        show Go p e below _ (T39.setTop (mkF m 158 #[.val (.int p0), .val (.int p1), .val (.int p2), .val (.ref b1), .val (.int (1 : Int32)), .val (.int r36)] [(.int (1 : Int32))]))
        exact goRetN X39 hx hlk hret (t := .boolean) (by simp) (w := (1 : Int32)) (by decide) e39 (hb hby at_158) (by decide) (by decide) ⟨rfl, N39⟩
      · obtain rfl : v39 = some (.int 1) := hv39.trans (by simp [hr39])
        show Go p e below _ (T39.setTop (mkF m 136 #[.val (.int p0), .val (.int p1), .val (.int p2), .val (.ref b1), .val (.int (1 : Int32)), .val (.int r36)] [(.int (1 : Int32))]))
        refine Go.st (fun _ => XS.iload X39.here hx rfl (hb hby at_136) rfl) ?_
        show Go p e below _ (T39.setTop (mkF m 138 #[.val (.int p0), .val (.int p1), .val (.int p2), .val (.ref b1), .val (.int (1 : Int32)), .val (.int r36)] [(.int r36), (.int (1 : Int32))]))
        refine Go.st (fun _ => XS.ifNo X39.here hx rfl (hb hby at_138) rfl ((if0 _ _).trans (feq hr39).1)) ?_
        show Go p e below _ (T39.setTop (mkF m 141 #[.val (.int p0), .val (.int p1), .val (.int p2), .val (.ref b1), .val (.int (1 : Int32)), .val (.int r36)] [(.int (1 : Int32))]))
        refine Go.st (fun _ => XS.iconst X39.here hx rfl (hb hby at_141)) ?_
        show Go p e below _ (T39.setTop (mkF m 142 #[.val (.int p0), .val (.int p1), .val (.int p2), .val (.ref b1), .val (.int (1 : Int32)), .val (.int r36)] [(.int (1 : Int32)), (.int (1 : Int32))]))
        refine Go.st (fun _ => XS.goto X39.here hx rfl (pc0 := 142) (pc' := 146) rfl (hb hby at_142) (by decide) (by decide)) ?_
        show Go p e below _ (T39.setTop (mkF m 146 #[.val (.int p0), .val (.int p1), .val (.int p2), .val (.ref b1), .val (.int (1 : Int32)), .val (.int r36)] [(.int (1 : Int32)), (.int (1 : Int32))]))
        refine Go.st (fun _ => XS.icmpNo X39.here hx rfl (hb hby at_146) rfl (teq (by decide : (1 : Int32) = (1 : Int32))).2) ?_
        show Go p e below _ (T39.setTop (mkF m 149 #[.val (.int p0), .val (.int p1), .val (.int p2), .val (.ref b1), .val (.int (1 : Int32)), .val (.int r36)] []))
        refine Go.st (fun _ => XS.iconst X39.here hx rfl (hb hby at_149)) ?_
        show Go p e below _ (T39.setTop (mkF m 150 #[.val (.int p0), .val (.int p1), .val (.int p2), .val (.ref b1), .val (.int (1 : Int32)), .val (.int r36)] [(.int (1 : Int32))]))
        refine Go.st (fun _ => XS.goto X39.here hx rfl (pc0 := 150) (pc' := 154) rfl (hb hby at_150) (by decide) (by decide)) ?_
        show Go p e below _ (T39.setTop (mkF m 154 #[.val (.int p0), .val (.int p1), .val (.int p2), .val (.ref b1), .val (.int (1 : Int32)), .val (.int r36)] [(.int (1 : Int32))]))
        refine Go.st (fun _ => XS.istore X39.here hx rfl (hb hby at_154) rfl (l' := #[.val (.int p0), .val (.int p1), .val (.int p2), .val (.ref b1), .val (.int (1 : Int32)), .val (.int r36)]) rfl) ?_
        show Go p e below _ (T39.setTop (mkF m 156 #[.val (.int p0), .val (.int p1), .val (.int p2), .val (.ref b1), .val (.int (1 : Int32)), .val (.int r36)] []))
        refine Go.st (fun _ => XS.iload X39.here hx rfl (hb hby at_156) rfl) ?_
        show Go p e below _ (T39.setTop (mkF m 158 #[.val (.int p0), .val (.int p1), .val (.int p2), .val (.ref b1), .val (.int (1 : Int32)), .val (.int r36)] [(.int (1 : Int32))]))
        exact goRetN X39 hx hlk hret (t := .boolean) (by simp) (w := (1 : Int32)) (by decide) e39 (hb hby at_158) (by decide) (by decide) ⟨rfl, N39⟩
set_option maxRecDepth 65536 in
set_option maxHeartbeats 40000000 in
theorem comes_1 {Post : Tables → Env → Array Value → State → Outcome → State → Prop} (hpost : ∀ tb e args s v u, (limb_1_1.after args s (.returned v) u = true ∧ limb_1_2.after args s (.returned v) u = true ∧ True) → FrameEnd s (.returned v) u (Jvm.fieldLocs frame_1_writes args s ++ Jvm.arrayLocs frame_1_arrays args s ++ Jvm.staticLocs frame_1_statics s) 16 128 → Post tb e args s (.returned v) u) :
    ArmFor flags0 classFile x code maxLocals ret World_1 tables_1 room_1 Calls_1 rest_1 Pre_1 Post := by
  intro l hfl _ _ p e ha hc hk s m args below hf hA hF happ hP
  obtain ⟨hcalls, hrest, hpre⟩ := hP
  obtain ⟨-, -, -, hnamed, -, -, -, hat⟩ := (Spec.applies_iff hf).mp happ
  obtain ⟨hg, hn⟩ := and_e (Cond.before_iff.mp (show (Jvm.Cond.and given_1 narrow_1).before args s = true from hpre))
  obtain ⟨g1, g2⟩ := and_e hg
  obtain ⟨g3, g4⟩ := and_e g2
  obtain ⟨g5, g6⟩ := and_e g4
  obtain ⟨w0, w1, w2, rfl⟩ : ∃ w0 w1 w2 : Value, args = #[w0, w1, w2] := by
    have hs : args.size = 3 := by simpa [Cond.value, given_1] using g1
    obtain ⟨L⟩ := args
    match L, hs with
    | [w0, w1, w2], _ => exact ⟨w0, w1, w2, rfl⟩
  have hw := fun d (hd : d ∈ tables_1) => atoms_spec (ws := Jvm.Cond.code x code maxLocals ret :: tables_1) hat d (List.mem_cons_of_mem _ hd)
  have hfit : Fit s := fun {y c} hc i hi => by
    obtain ⟨ha, rfl⟩ := Array.getElem?_eq_some_iff.mp hc
    have q := List.all_eq_true.mp ((Array.all_eq_true_iff_forall_mem.mp hF) _ (Array.getElem_mem ha)) i (List.mem_range.mpr hi)
    simpa [Array.getElem?_eq_getElem hi] using q
  obtain ⟨hsets, hown0⟩ := atoms_of _ (rest_1_c_eq ▸ (show rest_1_c.before _ s = true from hrest))
  obtain ⟨i0, ei0⟩ := is_v g3
  obtain rfl : w0 = (.int i0) := Option.some.inj ei0
  obtain ⟨i1, ei1⟩ := is_v g5
  obtain rfl : w1 = (.int i1) := Option.some.inj ei1
  obtain ⟨i2, ei2⟩ := is_v g6
  obtain rfl : w2 = (.int i2) := Option.some.inj ei2
  obtain ⟨g7, g8⟩ := and_e hn
  obtain ⟨w_EXECUTE, ev_EXECUTE⟩ := exa_v g7
  have S_w_EXECUTE := Sta.start ev_EXECUTE (Or.inr ⟨(hw _ (List.mem_of_getElem? (i := 23) rfl)), (hw _ (List.mem_of_getElem? (i := 24) rfl))⟩)
  have E_w_EXECUTE := Exa.start ev_EXECUTE g7
  obtain ⟨g9, g10⟩ := and_e g8
  obtain ⟨w_ADOPTER, ev_ADOPTER⟩ := exa_v g9
  have S_w_ADOPTER := Sta.start ev_ADOPTER (Or.inr ⟨(hw _ (List.mem_of_getElem? (i := 23) rfl)), (hw _ (List.mem_of_getElem? (i := 44) rfl))⟩)
  have E_w_ADOPTER := Exa.start ev_ADOPTER g9
  obtain ⟨g11, g12⟩ := and_e g10
  have F_w_EXECUTE_ordinal := fldStart ev_EXECUTE g11
  obtain ⟨g13, g14⟩ := and_e g12
  have F_w_ADOPTER_ordinal := fldStart ev_ADOPTER g13
  obtain ⟨g15, g16⟩ := and_e g14
  obtain ⟨w_CANCELLED, ev_CANCELLED⟩ := exa_v g15
  have S_w_CANCELLED := Sta.start ev_CANCELLED (Or.inr ⟨(hw _ (List.mem_of_getElem? (i := 51) rfl)), (hw _ (List.mem_of_getElem? (i := 52) rfl))⟩)
  have E_w_CANCELLED := Exa.start ev_CANCELLED g15
  obtain ⟨g17, g18⟩ := and_e g16
  obtain ⟨w_REFUSED, ev_REFUSED⟩ := exa_v g17
  have S_w_REFUSED := Sta.start ev_REFUSED (Or.inr ⟨(hw _ (List.mem_of_getElem? (i := 51) rfl)), (hw _ (List.mem_of_getElem? (i := 58) rfl))⟩)
  have E_w_REFUSED := Exa.start ev_REFUSED g17
  obtain ⟨g19, g20⟩ := and_e g18
  obtain ⟨w_HANDED_OVER, ev_HANDED_OVER⟩ := exa_v g19
  have S_w_HANDED_OVER := Sta.start ev_HANDED_OVER (Or.inr ⟨(hw _ (List.mem_of_getElem? (i := 51) rfl)), (hw _ (List.mem_of_getElem? (i := 61) rfl))⟩)
  have E_w_HANDED_OVER := Exa.start ev_HANDED_OVER g19
  obtain ⟨g21, g22⟩ := and_e g20
  obtain ⟨w_CANCELLED_UNEXECUTED, ev_CANCELLED_UNEXECUTED⟩ := exa_v g21
  have S_w_CANCELLED_UNEXECUTED := Sta.start ev_CANCELLED_UNEXECUTED (Or.inr ⟨(hw _ (List.mem_of_getElem? (i := 51) rfl)), (hw _ (List.mem_of_getElem? (i := 80) rfl))⟩)
  have E_w_CANCELLED_UNEXECUTED := Exa.start ev_CANCELLED_UNEXECUTED g21
  obtain ⟨w_ENDING_NEEDED, ev_ENDING_NEEDED⟩ := exa_v g22
  have S_w_ENDING_NEEDED := Sta.start ev_ENDING_NEEDED (Or.inr ⟨(hw _ (List.mem_of_getElem? (i := 51) rfl)), (hw _ (List.mem_of_getElem? (i := 82) rfl))⟩)
  have E_w_ENDING_NEEDED := Exa.start ev_ENDING_NEEDED g22
  have hb2 := Cond.before_iff.mp (hsets _ (List.mem_of_getElem? (i := 4) rfl))
  obtain ⟨wc, evc⟩ := arr_v hb2
  obtain ⟨cl, Arc⟩ := Arr.start evc hb2
  have S_cache := Sta.start evc (Or.inr ⟨(hw _ (List.mem_of_getElem? (i := 36) rfl)), (hsets _ (List.mem_of_getElem? (i := 2) rfl))⟩)
  have S_high := Sta.start (staInt (Cond.before_iff.mp (hsets _ (List.mem_of_getElem? (i := 3) rfl)))) (Or.inl (hsets _ (List.mem_of_getElem? (i := 1) rfl)))
  obtain ⟨hlt, hle⟩ := lenStart evc (Arc.fin (Vm.Alike.refl _)) (Cond.before_iff.mp (hsets _ (List.mem_of_getElem? (i := 6) rfl)))
  have BX : Bxs s wc cl "java/lang/Integer" "I" 256 (fun j => (.int (j - 128))) := Bxs.start (fun _ => evc) Arc hlt hle (by decide) (Cond.before_iff.mp (hsets _ (List.mem_of_getElem? (i := 7) rfl))) (fun X j nn hX => eqv_i (subAt (idx_at nn) (Term.int_eval 128)) hX)
  have ne_w_EXECUTE_w_ADOPTER : w_EXECUTE ≠ w_ADOPTER := Fld.ne F_w_EXECUTE_ordinal F_w_ADOPTER_ordinal (by decide)
  obtain ⟨n, o, h1, h2, h3, _, L, rfl, ⟨rfl, N⟩, hq⟩ := rm0 l s _ hw tables_1 i0 i1 i2 wc cl w_EXECUTE w_ADOPTER w_CANCELLED w_REFUSED w_HANDED_OVER w_CANCELLED_UNEXECUTED w_ENDING_NEEDED s.heap s.heap.size (Old.start s) S_w_EXECUTE S_w_ADOPTER S_w_CANCELLED S_w_REFUSED S_w_HANDED_OVER S_w_CANCELLED_UNEXECUTED S_w_ENDING_NEEDED ne_w_EXECUTE_w_ADOPTER S_cache S_high BX p e ha hc hk s m _ below hf ((Spec.applies_iff_loose hf).mp happ).1 ⟨rfl, State.Warmed39.refl s, rfl⟩ trivial
  refine ⟨n, _, h1, h2, h3, hpost _ _ _ _ _ _ ⟨Cond.after_iff.mpr rfl, Cond.after_iff.mpr (eq_i res_at (Term.int_eval (1)) rfl), trivial⟩ ⟨hq.1, hq.2.1, (hq.2.2.sift fun y hy => Or.inr (N y hy)).mono (by decide) (by decide)⟩⟩
theorem main_1_1 : Claimed_1_1 := comes_1 fun _ _ _ _ _ _ h hF => ⟨h.1, hF⟩
theorem main_1_2 : Claimed_1_2 := comes_1 fun _ _ _ _ _ _ h hF => ⟨h.2.1, hF⟩
end Jvm.Pilot.@@N@@
namespace Jvm.Pilot.@@N@@
open Jvm Jvm.ClassFile Sem Op Lib Jvm.Free Jvm.Stand Jvm.Pilot.@@N@@.Jvm.D
/-! MADE BY PROGRAM (witnessworld.py) out of the Statement's table words and the real class files: 19 classes; the members and pool entries that the words name. The judged class is class 1, her method 2. -/
namespace start1
open Jvm.ClassFile
def u (s : String) : CpInfo := .utf8 (stringToUtf16 s)
/-- a pool by its gaps: so many unusable entries, then the entry; so many at the end -/
def gap : Nat → List CpInfo → List CpInfo
  | 0, r => r
  | n + 1, r => .unusable :: gap n r
def poolList (es : List (Nat × CpInfo)) (last : Nat) : List CpInfo := es.foldr (fun e r => gap e.1 (e.2 :: r)) (gap last [])
def pool (es : List (Nat × CpInfo)) (last : Nat) : Array CpInfo := ⟨poolList es last⟩
def fileOf (pool : Array CpInfo) (this : Nat) (attrs : Array Attribute := #[]) (ms : Array MethodInfo := #[]) (fl : Nat := 33) (sup : Nat := 0) (ifs : Array Nat := #[]) (fds : Array FieldInfo := #[]) : ClassFile where
  minorVersion := 0
  majorVersion := 65
  constantPool := pool
  accessFlags := fl
  thisClass := this
  superClass := sup
  interfaces := ifs
  fields := fds
  methods := ms
  attributes := attrs
def plain (name : String) (sup : Option ClassId) : Class where
  name := name
  kind := .ordinary
  loader := none
  accessFlags := 33
  super := sup
  interfaces := #[]
  cf := none
  fields := #[]
  methods := #[]
  instanceTypes := #[]
  staticTypes := #[]
  resolved := #[]
  callSites := []
  init := .initialized
  statics := none
  mirror := none

def pool0 : Array CpInfo := pool [(5, u "<init>"), (0, u "()V"), (1, .class_ 10), (1, u "java/lang/Object")] 113

def k0c0 : Code := { maxStack := 0, maxLocals := 1, code := object_method_1_code, exceptionTable := #[], attributes := #[] }
def k0m0 : Method := { name := "<init>", desc := "()V", sig := { parameters := [], returnType := none }, accessFlags := 1, code := some k0c0 }
/-- java/lang/Object -/
def k0 : Class := { plain "java/lang/Object" none with
  accessFlags := 33
  interfaces := #[]
  cf := some (fileOf pool0 8 #[] #[{ accessFlags := 1, nameIndex := 5, descriptorIndex := 6, attributes := #[] }] 33 0 #[] #[])
  fields := #[]
  methods := #[k0m0]
  instanceTypes := #[]
  staticTypes := #[]
  resolved := Array.replicate 124 none
  statics := none }

def pool1 : Array CpInfo := pool [(2, .class_ 4), (0, .nameAndType 5 6), (0, u "java/lang/Object"), (0, u "<init>"), (0, u "()V"), (0, .fieldref 8 9), (0, .class_ 10), (0, .nameAndType 11 12), (0, u "com/example/sidelane/sidelane/Cancellation$Claimant"), (0, u "EXECUTE"), (0, u "Lcom/example/sidelane/sidelane/Cancellation$Claimant;"), (0, .fieldref 8 14), (0, .nameAndType 15 12), (0, u "ADOPTER"), (0, .methodref 17 18), (0, .class_ 19), (0, .nameAndType 20 21), (0, u "com/example/sidelane/sidelane/Cancellation"), (0, u "claim"), (0, u "(Lcom/example/sidelane/sidelane/Cancellation$Claimant;)Z"), (0, .methodref 23 24), (0, .class_ 25), (0, .nameAndType 26 27), (0, u "java/lang/Integer"), (0, u "valueOf"), (0, u "(I)Ljava/lang/Integer;"), (0, .methodref 17 29), (0, .nameAndType 30 31), (0, u "cancel"), (0, u "(ZLjava/lang/Object;)Lcom/example/sidelane/sidelane/Cancellation$Outcome;"), (0, .methodref 17 3), (0, .methodref 17 34), (0, .nameAndType 35 36), (0, u "isClaimed"), (0, u "()Z"), (0, .methodref 38 39), (0, .class_ 40), (0, .nameAndType 41 42), (0, u "com/example/sidelane/sidelane/CancellationIsClaimedPinLaw"), (0, u "step"), (0, u "(Lcom/example/sidelane/sidelane/Cancellation;II)I"), (3, u "law"), (0, u "(III)Z")] 7

def k1m0 : Method := { name := "<init>", desc := "()V", sig := { parameters := [], returnType := none }, accessFlags := 1, code := none }
def k1c1 : Code := { maxStack := 3, maxLocals := 10, code := method_2_code, exceptionTable := #[], attributes := #[] }
def k1m1 : Method := { name := "step", desc := "(Lcom/example/sidelane/sidelane/Cancellation;II)I", sig := { parameters := [(.object "com/example/sidelane/sidelane/Cancellation"), .int, .int], returnType := some .int }, accessFlags := 10, code := some k1c1 }
def k1c2 : Code := { maxStack := 3, maxLocals := 6, code := code, exceptionTable := #[], attributes := #[] }
def k1m2 : Method := { name := "law", desc := "(III)Z", sig := { parameters := [.int, .int, .int], returnType := some .boolean }, accessFlags := 9, code := some k1c2 }
/-- com/example/sidelane/sidelane/CancellationIsClaimedPinLaw -/
def k1 : Class := { plain "com/example/sidelane/sidelane/CancellationIsClaimedPinLaw" (some 0) with
  accessFlags := 49
  interfaces := #[]
  cf := some (fileOf pool1 38 #[] #[{ accessFlags := 1, nameIndex := 5, descriptorIndex := 6, attributes := #[] }, { accessFlags := 10, nameIndex := 41, descriptorIndex := 42, attributes := #[] }, { accessFlags := 9, nameIndex := 46, descriptorIndex := 47, attributes := #[] }] 49 2 #[] #[])
  fields := #[]
  methods := #[k1m0, k1m1, k1m2]
  instanceTypes := #[]
  staticTypes := #[]
  resolved := Array.replicate 55 none
  statics := none }

def pool2 : Array CpInfo := pool [(1, .methodref 2 3), (0, .class_ 4), (0, .nameAndType 5 6), (0, u "java/lang/Object"), (0, u "<init>"), (0, u "()V"), (0, .fieldref 8 9), (0, .class_ 10), (0, .nameAndType 11 12), (0, u "com/example/sidelane/sidelane/Cancellation"), (0, u "claimedBy"), (0, u "Lcom/example/sidelane/sidelane/Cancellation$Claimant;"), (0, .fieldref 14 15), (0, .class_ 16), (0, .nameAndType 17 12), (0, u "com/example/sidelane/sidelane/Cancellation$Claimant"), (0, u "ADOPTER"), (0, .fieldref 19 20), (0, .class_ 21), (0, .nameAndType 22 23), (0, u "com/example/sidelane/sidelane/Cancellation$Outcome"), (0, u "HANDED_OVER"), (0, u "Lcom/example/sidelane/sidelane/Cancellation$Outcome;"), (0, .fieldref 8 25), (0, .nameAndType 26 27), (0, u "cancelled"), (0, u "Z"), (0, .fieldref 8 29), (0, .nameAndType 30 31), (0, u "cancelEnding"), (0, u "Ljava/lang/Object;"), (0, .fieldref 8 33), (0, .nameAndType 34 23), (0, u "cancelOutcome"), (0, .fieldref 19 36), (0, .nameAndType 37 23), (0, u "REFUSED"), (0, .fieldref 8 39), (0, .nameAndType 40 27), (0, u "endingBegun"), (0, .fieldref 14 42), (0, .nameAndType 43 12), (0, u "EXECUTE"), (0, .fieldref 8 45), (0, .nameAndType 46 27), (0, u "queued"), (0, .fieldref 19 48), (0, .nameAndType 49 23), (0, u "ENDING_NEEDED"), (0, .fieldref 8 51), (0, .nameAndType 52 53), (0, u "runner"), (0, u "Ljava/lang/Thread;"), (5, .fieldref 19 60), (0, .nameAndType 61 23), (0, u "CANCELLED_UNEXECUTED"), (3, .fieldref 19 66), (0, .nameAndType 67 23), (0, u "CANCELLED"), (0, .methodref 8 69), (0, .nameAndType 70 71), (0, u "isClaimed"), (0, u "()Z"), (6, u "cancel"), (0, u "(ZLjava/lang/Object;)Lcom/example/sidelane/sidelane/Cancellation$Outcome;"), (2, u "claim"), (0, u "(Lcom/example/sidelane/sidelane/Cancellation$Claimant;)Z")] 12

def k2c0 : Code := { maxStack := 1, maxLocals := 1, code := prog_3_method_1_code, exceptionTable := #[], attributes := #[] }
def k2m0 : Method := { name := "<init>", desc := "()V", sig := { parameters := [], returnType := none }, accessFlags := 0, code := some k2c0 }
def k2c1 : Code := { maxStack := 2, maxLocals := 5, code := prog_3_method_2_code, exceptionTable := #[], attributes := #[] }
def k2m1 : Method := { name := "cancel", desc := "(ZLjava/lang/Object;)Lcom/example/sidelane/sidelane/Cancellation$Outcome;", sig := { parameters := [.boolean, (.object "java/lang/Object")], returnType := some (.object "com/example/sidelane/sidelane/Cancellation$Outcome") }, accessFlags := 32, code := some k2c1 }
def k2c2 : Code := { maxStack := 2, maxLocals := 2, code := prog_3_method_4_code, exceptionTable := #[], attributes := #[] }
def k2m2 : Method := { name := "claim", desc := "(Lcom/example/sidelane/sidelane/Cancellation$Claimant;)Z", sig := { parameters := [(.object "com/example/sidelane/sidelane/Cancellation$Claimant")], returnType := some .boolean }, accessFlags := 32, code := some k2c2 }
def k2c3 : Code := { maxStack := 1, maxLocals := 1, code := prog_3_method_5_code, exceptionTable := #[], attributes := #[] }
def k2m3 : Method := { name := "isClaimed", desc := "()Z", sig := { parameters := [], returnType := some .boolean }, accessFlags := 0, code := some k2c3 }
/-- com/example/sidelane/sidelane/Cancellation -/
def k2 : Class := { plain "com/example/sidelane/sidelane/Cancellation" (some 0) with
  accessFlags := 48
  interfaces := #[]
  cf := some (fileOf pool2 8 #[.nestMembers #[14, 19]] #[{ accessFlags := 0, nameIndex := 5, descriptorIndex := 6, attributes := #[] }, { accessFlags := 32, nameIndex := 78, descriptorIndex := 79, attributes := #[] }, { accessFlags := 32, nameIndex := 82, descriptorIndex := 83, attributes := #[] }, { accessFlags := 0, nameIndex := 70, descriptorIndex := 71, attributes := #[] }] 48 2 #[] #[{ accessFlags := 66, nameIndex := 11, descriptorIndex := 12, attributes := #[] }, { accessFlags := 66, nameIndex := 26, descriptorIndex := 27, attributes := #[] }, { accessFlags := 2, nameIndex := 40, descriptorIndex := 27, attributes := #[] }, { accessFlags := 2, nameIndex := 46, descriptorIndex := 27, attributes := #[] }, { accessFlags := 2, nameIndex := 52, descriptorIndex := 53, attributes := #[] }, { accessFlags := 2, nameIndex := 30, descriptorIndex := 31, attributes := #[] }, { accessFlags := 2, nameIndex := 34, descriptorIndex := 23, attributes := #[] }])
  fields := #[{ name := "claimedBy", type := (.object "com/example/sidelane/sidelane/Cancellation$Claimant"), accessFlags := 66, slot := 0, constantValue := 0 }, { name := "cancelled", type := .boolean, accessFlags := 66, slot := 1, constantValue := 0 }, { name := "endingBegun", type := .boolean, accessFlags := 2, slot := 2, constantValue := 0 }, { name := "queued", type := .boolean, accessFlags := 2, slot := 3, constantValue := 0 }, { name := "runner", type := (.object "java/lang/Thread"), accessFlags := 2, slot := 4, constantValue := 0 }, { name := "cancelEnding", type := (.object "java/lang/Object"), accessFlags := 2, slot := 5, constantValue := 0 }, { name := "cancelOutcome", type := (.object "com/example/sidelane/sidelane/Cancellation$Outcome"), accessFlags := 2, slot := 6, constantValue := 0 }]
  methods := #[k2m0, k2m1, k2m2, k2m3]
  instanceTypes := #[(.object "com/example/sidelane/sidelane/Cancellation$Claimant"), .boolean, .boolean, .boolean, (.object "java/lang/Thread"), (.object "java/lang/Object"), (.object "com/example/sidelane/sidelane/Cancellation$Outcome")]
  staticTypes := #[]
  resolved := Array.replicate 96 none
  statics := none }

def pool3 : Array CpInfo := pool [(1, .class_ 2), (0, u "java/lang/constant/Constable"), (0, .class_ 4), (0, u "java/lang/Object")] 6

/-- java/lang/constant/Constable -/
def k3 : Class := { plain "java/lang/constant/Constable" (some 0) with
  accessFlags := 1537
  interfaces := #[]
  cf := some (fileOf pool3 1 #[] #[] 1537 3 #[] #[])
  fields := #[]
  methods := #[]
  instanceTypes := #[]
  staticTypes := #[]
  resolved := Array.replicate 11 none
  statics := none }

def pool4 : Array CpInfo := pool [(1, .class_ 2), (0, u "java/lang/Comparable"), (0, .class_ 4), (0, u "java/lang/Object")] 7

/-- java/lang/Comparable -/
def k4 : Class := { plain "java/lang/Comparable" (some 0) with
  accessFlags := 1537
  interfaces := #[]
  cf := some (fileOf pool4 1 #[] #[] 1537 3 #[] #[])
  fields := #[]
  methods := #[]
  instanceTypes := #[]
  staticTypes := #[]
  resolved := Array.replicate 12 none
  statics := none }

def pool5 : Array CpInfo := pool [(1, .class_ 2), (0, u "java/io/Serializable"), (0, .class_ 4), (0, u "java/lang/Object")] 2

/-- java/io/Serializable -/
def k5 : Class := { plain "java/io/Serializable" (some 0) with
  accessFlags := 1537
  interfaces := #[]
  cf := some (fileOf pool5 1 #[] #[] 1537 3 #[] #[])
  fields := #[]
  methods := #[]
  instanceTypes := #[]
  staticTypes := #[]
  resolved := Array.replicate 7 none
  statics := none }

def pool6 : Array CpInfo := pool [(2, .class_ 4), (1, u "java/lang/Enum"), (0, u "name"), (0, u "Ljava/lang/String;"), (2, u "ordinal"), (0, u "I"), (1, .class_ 14), (1, u "java/lang/Object"), (4, u "hash"), (86, .class_ 108), (1, u "java/lang/Enum$EnumDesc"), (2, .class_ 112), (0, u "java/lang/constant/Constable"), (0, .class_ 114), (0, u "java/lang/Comparable"), (0, .class_ 116), (0, u "java/io/Serializable")] 87

/-- java/lang/Enum -/
def k6 : Class := { plain "java/lang/Enum" (some 0) with
  accessFlags := 1057
  interfaces := #[3, 4, 5]
  cf := some (fileOf pool6 2 #[.nestMembers #[106]] #[] 1057 12 #[111, 113, 115] #[{ accessFlags := 18, nameIndex := 5, descriptorIndex := 6, attributes := #[] }, { accessFlags := 18, nameIndex := 9, descriptorIndex := 10, attributes := #[] }, { accessFlags := 2, nameIndex := 19, descriptorIndex := 10, attributes := #[] }])
  fields := #[{ name := "name", type := (.object "java/lang/String"), accessFlags := 18, slot := 0, constantValue := 0 }, { name := "ordinal", type := .int, accessFlags := 18, slot := 1, constantValue := 0 }, { name := "hash", type := .int, accessFlags := 2, slot := 2, constantValue := 0 }]
  methods := #[]
  instanceTypes := #[(.object "java/lang/String"), .int, .int]
  staticTypes := #[]
  resolved := Array.replicate 204 none
  statics := none }

def pool7 : Array CpInfo := pool [(1, .class_ 2), (0, u "com/example/sidelane/sidelane/Cancellation$Claimant"), (2, u "EXECUTE"), (0, u "Lcom/example/sidelane/sidelane/Cancellation$Claimant;"), (2, u "ADOPTER"), (2, u "$VALUES"), (0, u "[Lcom/example/sidelane/sidelane/Cancellation$Claimant;"), (6, .class_ 22), (1, u "java/lang/Enum"), (25, .class_ 49), (0, u "com/example/sidelane/sidelane/Cancellation")] 2

/-- com/example/sidelane/sidelane/Cancellation$Claimant -/
def k7 : Class := { plain "com/example/sidelane/sidelane/Cancellation$Claimant" (some 6) with
  accessFlags := 16432
  interfaces := #[]
  cf := some (fileOf pool7 1 #[.nestHost 48] #[] 16432 20 #[] #[{ accessFlags := 16409, nameIndex := 5, descriptorIndex := 6, attributes := #[] }, { accessFlags := 16409, nameIndex := 9, descriptorIndex := 6, attributes := #[] }, { accessFlags := 4122, nameIndex := 12, descriptorIndex := 13, attributes := #[] }])
  fields := #[{ name := "EXECUTE", type := (.object "com/example/sidelane/sidelane/Cancellation$Claimant"), accessFlags := 16409, slot := 0, constantValue := 0 }, { name := "ADOPTER", type := (.object "com/example/sidelane/sidelane/Cancellation$Claimant"), accessFlags := 16409, slot := 1, constantValue := 0 }, { name := "$VALUES", type := (.array (.object "com/example/sidelane/sidelane/Cancellation$Claimant")), accessFlags := 4122, slot := 2, constantValue := 0 }]
  methods := #[]
  instanceTypes := #[(.object "java/lang/String"), .int, .int]
  staticTypes := #[(.object "com/example/sidelane/sidelane/Cancellation$Claimant"), (.object "com/example/sidelane/sidelane/Cancellation$Claimant"), (.array (.object "com/example/sidelane/sidelane/Cancellation$Claimant"))]
  resolved := Array.replicate 52 none
  statics := some 0 }

def pool8 : Array CpInfo := pool [(1, .methodref 2 3), (0, .class_ 4), (0, .nameAndType 5 6), (0, u "java/lang/Object"), (0, u "<init>"), (0, u "()V"), (1, .class_ 10), (1, u "java/lang/Number"), (2, .class_ 14), (0, u "java/io/Serializable"), (0, u "serialVersionUID"), (0, u "J")] 20

def k8c0 : Code := { maxStack := 1, maxLocals := 1, code := jdk_18_method_1_code, exceptionTable := #[], attributes := #[] }
def k8m0 : Method := { name := "<init>", desc := "()V", sig := { parameters := [], returnType := none }, accessFlags := 1, code := some k8c0 }
/-- java/lang/Number -/
def k8 : Class := { plain "java/lang/Number" (some 0) with
  accessFlags := 1057
  interfaces := #[5]
  cf := some (fileOf pool8 8 #[] #[{ accessFlags := 1, nameIndex := 5, descriptorIndex := 6, attributes := #[] }] 1057 2 #[13] #[{ accessFlags := 26, nameIndex := 15, descriptorIndex := 16, attributes := #[] }])
  fields := #[{ name := "serialVersionUID", type := .long, accessFlags := 26, slot := 0, constantValue := 0 }]
  methods := #[k8m0]
  instanceTypes := #[]
  staticTypes := #[.long]
  resolved := Array.replicate 37 none
  statics := none }

def pool9 : Array CpInfo := pool [(1, .class_ 2), (0, u "java/lang/constant/ConstantDesc"), (0, .class_ 4), (0, u "java/lang/Object")] 32

/-- java/lang/constant/ConstantDesc -/
def k9 : Class := { plain "java/lang/constant/ConstantDesc" (some 0) with
  accessFlags := 1537
  interfaces := #[]
  cf := some (fileOf pool9 1 #[] #[] 1537 3 #[] #[])
  fields := #[]
  methods := #[]
  instanceTypes := #[]
  staticTypes := #[]
  resolved := Array.replicate 37 none
  statics := none }

def pool10 : Array CpInfo := pool [(1, .class_ 2), (0, u "java/lang/Integer"), (16, u "digits"), (0, u "[C"), (46, u "<init>"), (17, u "DigitOnes"), (0, u "[B"), (2, u "DigitTens"), (10, .nameAndType 67 101), (0, u "()V"), (85, u "valueOf"), (0, u "(I)Ljava/lang/Integer;"), (0, .class_ 190), (0, u "java/lang/Integer$IntegerCache"), (0, .fieldref 189 192), (0, .nameAndType 193 194), (0, u "high"), (0, u "I"), (0, .fieldref 189 196), (0, .nameAndType 197 198), (0, u "cache"), (0, u "[Ljava/lang/Integer;"), (0, .methodref 1 200), (0, .nameAndType 67 201), (0, u "(I)V"), (0, .methodref 203 100), (0, .class_ 204), (0, u "java/lang/Number"), (0, .fieldref 1 206), (0, .nameAndType 207 194), (0, u "value"), (94, u "TYPE"), (0, u "Ljava/lang/Class;"), (0, .class_ 305), (0, u "java/lang/Comparable"), (0, .class_ 307), (0, u "java/lang/constant/Constable"), (0, .class_ 309), (0, u "java/lang/constant/ConstantDesc"), (0, u "MIN_VALUE"), (1, u "MAX_VALUE"), (3, u "SIZE"), (1, u "BYTES"), (1, u "serialVersionUID"), (0, u "J")] 131

def k10c0 : Code := { maxStack := 3, maxLocals := 1, code := jdk_33_method_22_code, exceptionTable := #[], attributes := #[] }
def k10m0 : Method := { name := "valueOf", desc := "(I)Ljava/lang/Integer;", sig := { parameters := [.int], returnType := some (.object "java/lang/Integer") }, accessFlags := 9, code := some k10c0 }
def k10c1 : Code := { maxStack := 2, maxLocals := 2, code := jdk_33_method_23_code, exceptionTable := #[], attributes := #[] }
def k10m1 : Method := { name := "<init>", desc := "(I)V", sig := { parameters := [.int], returnType := none }, accessFlags := 1, code := some k10c1 }
/-- java/lang/Integer -/
def k10 : Class := { plain "java/lang/Integer" (some 8) with
  accessFlags := 49
  interfaces := #[4, 3, 9]
  cf := some (fileOf pool10 1 #[.nestMembers #[189]] #[{ accessFlags := 9, nameIndex := 187, descriptorIndex := 188, attributes := #[] }, { accessFlags := 1, nameIndex := 67, descriptorIndex := 201, attributes := #[] }] 49 203 #[304, 306, 308] #[{ accessFlags := 25, nameIndex := 310, descriptorIndex := 194, attributes := #[] }, { accessFlags := 25, nameIndex := 312, descriptorIndex := 194, attributes := #[] }, { accessFlags := 25, nameIndex := 302, descriptorIndex := 303, attributes := #[] }, { accessFlags := 24, nameIndex := 19, descriptorIndex := 20, attributes := #[] }, { accessFlags := 24, nameIndex := 89, descriptorIndex := 86, attributes := #[] }, { accessFlags := 24, nameIndex := 85, descriptorIndex := 86, attributes := #[] }, { accessFlags := 18, nameIndex := 207, descriptorIndex := 194, attributes := #[] }, { accessFlags := 25, nameIndex := 316, descriptorIndex := 194, attributes := #[] }, { accessFlags := 25, nameIndex := 318, descriptorIndex := 194, attributes := #[] }, { accessFlags := 26, nameIndex := 320, descriptorIndex := 321, attributes := #[] }])
  fields := #[{ name := "MIN_VALUE", type := .int, accessFlags := 25, slot := 0, constantValue := 0 }, { name := "MAX_VALUE", type := .int, accessFlags := 25, slot := 1, constantValue := 0 }, { name := "TYPE", type := (.object "java/lang/Class"), accessFlags := 25, slot := 2, constantValue := 0 }, { name := "digits", type := (.array .char), accessFlags := 24, slot := 3, constantValue := 0 }, { name := "DigitTens", type := (.array .byte), accessFlags := 24, slot := 4, constantValue := 0 }, { name := "DigitOnes", type := (.array .byte), accessFlags := 24, slot := 5, constantValue := 0 }, { name := "value", type := .int, accessFlags := 18, slot := 0, constantValue := 0 }, { name := "SIZE", type := .int, accessFlags := 25, slot := 6, constantValue := 0 }, { name := "BYTES", type := .int, accessFlags := 25, slot := 7, constantValue := 0 }, { name := "serialVersionUID", type := .long, accessFlags := 26, slot := 8, constantValue := 0 }]
  methods := #[k10m0, k10m1]
  instanceTypes := #[.int]
  staticTypes := #[.int, .int, (.object "java/lang/Class"), (.array .char), (.array .byte), (.array .byte), .int, .int, .long]
  resolved := Array.replicate 453 none
  statics := none }

def pool11 : Array CpInfo := pool [(2, .class_ 4), (1, u "java/lang/Object"), (0, u "<init>"), (0, u "()V"), (0, .class_ 8), (0, u "java/lang/Integer"), (7, .class_ 18), (1, u "java/lang/Integer$IntegerCache"), (0, u "$assertionsDisabled"), (0, u "Z"), (26, u "high"), (0, u "I"), (8, u "archivedCache"), (0, u "[Ljava/lang/Integer;"), (12, u "cache"), (0, u "low")] 27

def k11m0 : Method := { name := "<init>", desc := "()V", sig := { parameters := [], returnType := none }, accessFlags := 2, code := none }
/-- java/lang/Integer$IntegerCache -/
def k11 : Class := { plain "java/lang/Integer$IntegerCache" (some 0) with
  accessFlags := 48
  interfaces := #[]
  cf := some (fileOf pool11 16 #[.nestHost 7] #[{ accessFlags := 2, nameIndex := 5, descriptorIndex := 6, attributes := #[] }] 48 2 #[] #[{ accessFlags := 24, nameIndex := 72, descriptorIndex := 48, attributes := #[] }, { accessFlags := 24, nameIndex := 47, descriptorIndex := 48, attributes := #[] }, { accessFlags := 24, nameIndex := 71, descriptorIndex := 58, attributes := #[] }, { accessFlags := 8, nameIndex := 57, descriptorIndex := 58, attributes := #[] }, { accessFlags := 4120, nameIndex := 19, descriptorIndex := 20, attributes := #[] }])
  fields := #[{ name := "low", type := .int, accessFlags := 24, slot := 0, constantValue := 0 }, { name := "high", type := .int, accessFlags := 24, slot := 1, constantValue := 0 }, { name := "cache", type := (.array (.object "java/lang/Integer")), accessFlags := 24, slot := 2, constantValue := 0 }, { name := "archivedCache", type := (.array (.object "java/lang/Integer")), accessFlags := 8, slot := 3, constantValue := 0 }, { name := "$assertionsDisabled", type := .boolean, accessFlags := 4120, slot := 4, constantValue := 0 }]
  methods := #[k11m0]
  instanceTypes := #[]
  staticTypes := #[.int, .int, (.array (.object "java/lang/Integer")), (.array (.object "java/lang/Integer")), .boolean]
  resolved := Array.replicate 100 none
  statics := some 1 }

def pool12 : Array CpInfo := pool [(1, .class_ 2), (0, u "com/example/sidelane/sidelane/Cancellation$Outcome"), (2, u "ENDING_NEEDED"), (0, u "Lcom/example/sidelane/sidelane/Cancellation$Outcome;"), (2, u "REFUSED"), (2, u "CANCELLED"), (2, u "CANCELLED_UNEXECUTED"), (2, u "CANCELLED_IN_QUEUE"), (2, u "HANDED_OVER"), (2, u "$VALUES"), (0, u "[Lcom/example/sidelane/sidelane/Cancellation$Outcome;"), (6, .class_ 34), (1, u "java/lang/Enum"), (29, .class_ 65), (0, u "com/example/sidelane/sidelane/Cancellation")] 2

/-- com/example/sidelane/sidelane/Cancellation$Outcome -/
def k12 : Class := { plain "com/example/sidelane/sidelane/Cancellation$Outcome" (some 6) with
  accessFlags := 16432
  interfaces := #[]
  cf := some (fileOf pool12 1 #[.nestHost 64] #[] 16432 32 #[] #[{ accessFlags := 16409, nameIndex := 5, descriptorIndex := 6, attributes := #[] }, { accessFlags := 16409, nameIndex := 9, descriptorIndex := 6, attributes := #[] }, { accessFlags := 16409, nameIndex := 12, descriptorIndex := 6, attributes := #[] }, { accessFlags := 16409, nameIndex := 15, descriptorIndex := 6, attributes := #[] }, { accessFlags := 16409, nameIndex := 18, descriptorIndex := 6, attributes := #[] }, { accessFlags := 16409, nameIndex := 21, descriptorIndex := 6, attributes := #[] }, { accessFlags := 4122, nameIndex := 24, descriptorIndex := 25, attributes := #[] }])
  fields := #[{ name := "ENDING_NEEDED", type := (.object "com/example/sidelane/sidelane/Cancellation$Outcome"), accessFlags := 16409, slot := 0, constantValue := 0 }, { name := "REFUSED", type := (.object "com/example/sidelane/sidelane/Cancellation$Outcome"), accessFlags := 16409, slot := 1, constantValue := 0 }, { name := "CANCELLED", type := (.object "com/example/sidelane/sidelane/Cancellation$Outcome"), accessFlags := 16409, slot := 2, constantValue := 0 }, { name := "CANCELLED_UNEXECUTED", type := (.object "com/example/sidelane/sidelane/Cancellation$Outcome"), accessFlags := 16409, slot := 3, constantValue := 0 }, { name := "CANCELLED_IN_QUEUE", type := (.object "com/example/sidelane/sidelane/Cancellation$Outcome"), accessFlags := 16409, slot := 4, constantValue := 0 }, { name := "HANDED_OVER", type := (.object "com/example/sidelane/sidelane/Cancellation$Outcome"), accessFlags := 16409, slot := 5, constantValue := 0 }, { name := "$VALUES", type := (.array (.object "com/example/sidelane/sidelane/Cancellation$Outcome")), accessFlags := 4122, slot := 6, constantValue := 0 }]
  methods := #[]
  instanceTypes := #[(.object "java/lang/String"), .int, .int]
  staticTypes := #[(.object "com/example/sidelane/sidelane/Cancellation$Outcome"), (.object "com/example/sidelane/sidelane/Cancellation$Outcome"), (.object "com/example/sidelane/sidelane/Cancellation$Outcome"), (.object "com/example/sidelane/sidelane/Cancellation$Outcome"), (.object "com/example/sidelane/sidelane/Cancellation$Outcome"), (.object "com/example/sidelane/sidelane/Cancellation$Outcome"), (.array (.object "com/example/sidelane/sidelane/Cancellation$Outcome"))]
  resolved := Array.replicate 68 none
  statics := some 2 }

def pool13 : Array CpInfo := pool [(1, u "java/lang/Cloneable"), (0, .class_ 1), (0, u "java/lang/Object"), (0, .class_ 3)] 3

/-- java/lang/Cloneable -/
def k13 : Class := { plain "java/lang/Cloneable" (some 0) with
  accessFlags := 1537
  interfaces := #[]
  cf := some (fileOf pool13 2 #[] #[] 1537 4 #[] #[])
  fields := #[]
  methods := #[]
  instanceTypes := #[]
  staticTypes := #[]
  resolved := Array.replicate 8 none
  statics := none }

/-- the primitive byte -/
def k14 : Class := { plain "byte" none with kind := .primitive 'B', accessFlags := 0x411 }
/-- [B -/
def k15 : Class := { plain "[B" (some 0) with kind := .array 14 .byte, interfaces := #[13, 5], accessFlags := 1041 }

/-- the primitive int -/
def k16 : Class := { plain "int" none with kind := .primitive 'I', accessFlags := 0x411 }
/-- [I -/
def k17 : Class := { plain "[I" (some 0) with kind := .array 16 .int, interfaces := #[13, 5], accessFlags := 1041 }

/-- [Ljava/lang/Integer; -/
def k18 : Class := { plain "[Ljava/lang/Integer;" (some 0) with kind := .array 10 (.object "java/lang/Integer"), interfaces := #[13, 5], accessFlags := 1041 }

def heap : Heap := #[{ cls := 7, slots := #[.ref 260, .ref 261, .null], vm := .statics 7 },
  { cls := 11, slots := #[.int 0, .int 127, .ref 3, .null, .int 0], vm := .statics 11 },
  { cls := 12, slots := #[.ref 262, .ref 263, .ref 264, .ref 265, .ref 266, .ref 267, .null], vm := .statics 12 },
  { cls := 18, slots := #[.ref 4, .ref 5, .ref 6, .ref 7, .ref 8, .ref 9, .ref 10, .ref 11, .ref 12, .ref 13, .ref 14, .ref 15, .ref 16, .ref 17, .ref 18, .ref 19, .ref 20, .ref 21, .ref 22, .ref 23, .ref 24, .ref 25, .ref 26, .ref 27, .ref 28, .ref 29, .ref 30, .ref 31, .ref 32, .ref 33, .ref 34, .ref 35, .ref 36, .ref 37, .ref 38, .ref 39, .ref 40, .ref 41, .ref 42, .ref 43, .ref 44, .ref 45, .ref 46, .ref 47, .ref 48, .ref 49, .ref 50, .ref 51, .ref 52, .ref 53, .ref 54, .ref 55, .ref 56, .ref 57, .ref 58, .ref 59, .ref 60, .ref 61, .ref 62, .ref 63, .ref 64, .ref 65, .ref 66, .ref 67, .ref 68, .ref 69, .ref 70, .ref 71, .ref 72, .ref 73, .ref 74, .ref 75, .ref 76, .ref 77, .ref 78, .ref 79, .ref 80, .ref 81, .ref 82, .ref 83, .ref 84, .ref 85, .ref 86, .ref 87, .ref 88, .ref 89, .ref 90, .ref 91, .ref 92, .ref 93, .ref 94, .ref 95, .ref 96, .ref 97, .ref 98, .ref 99, .ref 100, .ref 101, .ref 102, .ref 103, .ref 104, .ref 105, .ref 106, .ref 107, .ref 108, .ref 109, .ref 110, .ref 111, .ref 112, .ref 113, .ref 114, .ref 115, .ref 116, .ref 117, .ref 118, .ref 119, .ref 120, .ref 121, .ref 122, .ref 123, .ref 124, .ref 125, .ref 126, .ref 127, .ref 128, .ref 129, .ref 130, .ref 131, .ref 132, .ref 133, .ref 134, .ref 135, .ref 136, .ref 137, .ref 138, .ref 139, .ref 140, .ref 141, .ref 142, .ref 143, .ref 144, .ref 145, .ref 146, .ref 147, .ref 148, .ref 149, .ref 150, .ref 151, .ref 152, .ref 153, .ref 154, .ref 155, .ref 156, .ref 157, .ref 158, .ref 159, .ref 160, .ref 161, .ref 162, .ref 163, .ref 164, .ref 165, .ref 166, .ref 167, .ref 168, .ref 169, .ref 170, .ref 171, .ref 172, .ref 173, .ref 174, .ref 175, .ref 176, .ref 177, .ref 178, .ref 179, .ref 180, .ref 181, .ref 182, .ref 183, .ref 184, .ref 185, .ref 186, .ref 187, .ref 188, .ref 189, .ref 190, .ref 191, .ref 192, .ref 193, .ref 194, .ref 195, .ref 196, .ref 197, .ref 198, .ref 199, .ref 200, .ref 201, .ref 202, .ref 203, .ref 204, .ref 205, .ref 206, .ref 207, .ref 208, .ref 209, .ref 210, .ref 211, .ref 212, .ref 213, .ref 214, .ref 215, .ref 216, .ref 217, .ref 218, .ref 219, .ref 220, .ref 221, .ref 222, .ref 223, .ref 224, .ref 225, .ref 226, .ref 227, .ref 228, .ref 229, .ref 230, .ref 231, .ref 232, .ref 233, .ref 234, .ref 235, .ref 236, .ref 237, .ref 238, .ref 239, .ref 240, .ref 241, .ref 242, .ref 243, .ref 244, .ref 245, .ref 246, .ref 247, .ref 248, .ref 249, .ref 250, .ref 251, .ref 252, .ref 253, .ref 254, .ref 255, .ref 256, .ref 257, .ref 258, .ref 259], vm := .none },
  { cls := 10, slots := #[.int (-128)], vm := .none },
  { cls := 10, slots := #[.int (-127)], vm := .none },
  { cls := 10, slots := #[.int (-126)], vm := .none },
  { cls := 10, slots := #[.int (-125)], vm := .none },
  { cls := 10, slots := #[.int (-124)], vm := .none },
  { cls := 10, slots := #[.int (-123)], vm := .none },
  { cls := 10, slots := #[.int (-122)], vm := .none },
  { cls := 10, slots := #[.int (-121)], vm := .none },
  { cls := 10, slots := #[.int (-120)], vm := .none },
  { cls := 10, slots := #[.int (-119)], vm := .none },
  { cls := 10, slots := #[.int (-118)], vm := .none },
  { cls := 10, slots := #[.int (-117)], vm := .none },
  { cls := 10, slots := #[.int (-116)], vm := .none },
  { cls := 10, slots := #[.int (-115)], vm := .none },
  { cls := 10, slots := #[.int (-114)], vm := .none },
  { cls := 10, slots := #[.int (-113)], vm := .none },
  { cls := 10, slots := #[.int (-112)], vm := .none },
  { cls := 10, slots := #[.int (-111)], vm := .none },
  { cls := 10, slots := #[.int (-110)], vm := .none },
  { cls := 10, slots := #[.int (-109)], vm := .none },
  { cls := 10, slots := #[.int (-108)], vm := .none },
  { cls := 10, slots := #[.int (-107)], vm := .none },
  { cls := 10, slots := #[.int (-106)], vm := .none },
  { cls := 10, slots := #[.int (-105)], vm := .none },
  { cls := 10, slots := #[.int (-104)], vm := .none },
  { cls := 10, slots := #[.int (-103)], vm := .none },
  { cls := 10, slots := #[.int (-102)], vm := .none },
  { cls := 10, slots := #[.int (-101)], vm := .none },
  { cls := 10, slots := #[.int (-100)], vm := .none },
  { cls := 10, slots := #[.int (-99)], vm := .none },
  { cls := 10, slots := #[.int (-98)], vm := .none },
  { cls := 10, slots := #[.int (-97)], vm := .none },
  { cls := 10, slots := #[.int (-96)], vm := .none },
  { cls := 10, slots := #[.int (-95)], vm := .none },
  { cls := 10, slots := #[.int (-94)], vm := .none },
  { cls := 10, slots := #[.int (-93)], vm := .none },
  { cls := 10, slots := #[.int (-92)], vm := .none },
  { cls := 10, slots := #[.int (-91)], vm := .none },
  { cls := 10, slots := #[.int (-90)], vm := .none },
  { cls := 10, slots := #[.int (-89)], vm := .none },
  { cls := 10, slots := #[.int (-88)], vm := .none },
  { cls := 10, slots := #[.int (-87)], vm := .none },
  { cls := 10, slots := #[.int (-86)], vm := .none },
  { cls := 10, slots := #[.int (-85)], vm := .none },
  { cls := 10, slots := #[.int (-84)], vm := .none },
  { cls := 10, slots := #[.int (-83)], vm := .none },
  { cls := 10, slots := #[.int (-82)], vm := .none },
  { cls := 10, slots := #[.int (-81)], vm := .none },
  { cls := 10, slots := #[.int (-80)], vm := .none },
  { cls := 10, slots := #[.int (-79)], vm := .none },
  { cls := 10, slots := #[.int (-78)], vm := .none },
  { cls := 10, slots := #[.int (-77)], vm := .none },
  { cls := 10, slots := #[.int (-76)], vm := .none },
  { cls := 10, slots := #[.int (-75)], vm := .none },
  { cls := 10, slots := #[.int (-74)], vm := .none },
  { cls := 10, slots := #[.int (-73)], vm := .none },
  { cls := 10, slots := #[.int (-72)], vm := .none },
  { cls := 10, slots := #[.int (-71)], vm := .none },
  { cls := 10, slots := #[.int (-70)], vm := .none },
  { cls := 10, slots := #[.int (-69)], vm := .none },
  { cls := 10, slots := #[.int (-68)], vm := .none },
  { cls := 10, slots := #[.int (-67)], vm := .none },
  { cls := 10, slots := #[.int (-66)], vm := .none },
  { cls := 10, slots := #[.int (-65)], vm := .none },
  { cls := 10, slots := #[.int (-64)], vm := .none },
  { cls := 10, slots := #[.int (-63)], vm := .none },
  { cls := 10, slots := #[.int (-62)], vm := .none },
  { cls := 10, slots := #[.int (-61)], vm := .none },
  { cls := 10, slots := #[.int (-60)], vm := .none },
  { cls := 10, slots := #[.int (-59)], vm := .none },
  { cls := 10, slots := #[.int (-58)], vm := .none },
  { cls := 10, slots := #[.int (-57)], vm := .none },
  { cls := 10, slots := #[.int (-56)], vm := .none },
  { cls := 10, slots := #[.int (-55)], vm := .none },
  { cls := 10, slots := #[.int (-54)], vm := .none },
  { cls := 10, slots := #[.int (-53)], vm := .none },
  { cls := 10, slots := #[.int (-52)], vm := .none },
  { cls := 10, slots := #[.int (-51)], vm := .none },
  { cls := 10, slots := #[.int (-50)], vm := .none },
  { cls := 10, slots := #[.int (-49)], vm := .none },
  { cls := 10, slots := #[.int (-48)], vm := .none },
  { cls := 10, slots := #[.int (-47)], vm := .none },
  { cls := 10, slots := #[.int (-46)], vm := .none },
  { cls := 10, slots := #[.int (-45)], vm := .none },
  { cls := 10, slots := #[.int (-44)], vm := .none },
  { cls := 10, slots := #[.int (-43)], vm := .none },
  { cls := 10, slots := #[.int (-42)], vm := .none },
  { cls := 10, slots := #[.int (-41)], vm := .none },
  { cls := 10, slots := #[.int (-40)], vm := .none },
  { cls := 10, slots := #[.int (-39)], vm := .none },
  { cls := 10, slots := #[.int (-38)], vm := .none },
  { cls := 10, slots := #[.int (-37)], vm := .none },
  { cls := 10, slots := #[.int (-36)], vm := .none },
  { cls := 10, slots := #[.int (-35)], vm := .none },
  { cls := 10, slots := #[.int (-34)], vm := .none },
  { cls := 10, slots := #[.int (-33)], vm := .none },
  { cls := 10, slots := #[.int (-32)], vm := .none },
  { cls := 10, slots := #[.int (-31)], vm := .none },
  { cls := 10, slots := #[.int (-30)], vm := .none },
  { cls := 10, slots := #[.int (-29)], vm := .none },
  { cls := 10, slots := #[.int (-28)], vm := .none },
  { cls := 10, slots := #[.int (-27)], vm := .none },
  { cls := 10, slots := #[.int (-26)], vm := .none },
  { cls := 10, slots := #[.int (-25)], vm := .none },
  { cls := 10, slots := #[.int (-24)], vm := .none },
  { cls := 10, slots := #[.int (-23)], vm := .none },
  { cls := 10, slots := #[.int (-22)], vm := .none },
  { cls := 10, slots := #[.int (-21)], vm := .none },
  { cls := 10, slots := #[.int (-20)], vm := .none },
  { cls := 10, slots := #[.int (-19)], vm := .none },
  { cls := 10, slots := #[.int (-18)], vm := .none },
  { cls := 10, slots := #[.int (-17)], vm := .none },
  { cls := 10, slots := #[.int (-16)], vm := .none },
  { cls := 10, slots := #[.int (-15)], vm := .none },
  { cls := 10, slots := #[.int (-14)], vm := .none },
  { cls := 10, slots := #[.int (-13)], vm := .none },
  { cls := 10, slots := #[.int (-12)], vm := .none },
  { cls := 10, slots := #[.int (-11)], vm := .none },
  { cls := 10, slots := #[.int (-10)], vm := .none },
  { cls := 10, slots := #[.int (-9)], vm := .none },
  { cls := 10, slots := #[.int (-8)], vm := .none },
  { cls := 10, slots := #[.int (-7)], vm := .none },
  { cls := 10, slots := #[.int (-6)], vm := .none },
  { cls := 10, slots := #[.int (-5)], vm := .none },
  { cls := 10, slots := #[.int (-4)], vm := .none },
  { cls := 10, slots := #[.int (-3)], vm := .none },
  { cls := 10, slots := #[.int (-2)], vm := .none },
  { cls := 10, slots := #[.int (-1)], vm := .none },
  { cls := 10, slots := #[.int 0], vm := .none },
  { cls := 10, slots := #[.int 1], vm := .none },
  { cls := 10, slots := #[.int 2], vm := .none },
  { cls := 10, slots := #[.int 3], vm := .none },
  { cls := 10, slots := #[.int 4], vm := .none },
  { cls := 10, slots := #[.int 5], vm := .none },
  { cls := 10, slots := #[.int 6], vm := .none },
  { cls := 10, slots := #[.int 7], vm := .none },
  { cls := 10, slots := #[.int 8], vm := .none },
  { cls := 10, slots := #[.int 9], vm := .none },
  { cls := 10, slots := #[.int 10], vm := .none },
  { cls := 10, slots := #[.int 11], vm := .none },
  { cls := 10, slots := #[.int 12], vm := .none },
  { cls := 10, slots := #[.int 13], vm := .none },
  { cls := 10, slots := #[.int 14], vm := .none },
  { cls := 10, slots := #[.int 15], vm := .none },
  { cls := 10, slots := #[.int 16], vm := .none },
  { cls := 10, slots := #[.int 17], vm := .none },
  { cls := 10, slots := #[.int 18], vm := .none },
  { cls := 10, slots := #[.int 19], vm := .none },
  { cls := 10, slots := #[.int 20], vm := .none },
  { cls := 10, slots := #[.int 21], vm := .none },
  { cls := 10, slots := #[.int 22], vm := .none },
  { cls := 10, slots := #[.int 23], vm := .none },
  { cls := 10, slots := #[.int 24], vm := .none },
  { cls := 10, slots := #[.int 25], vm := .none },
  { cls := 10, slots := #[.int 26], vm := .none },
  { cls := 10, slots := #[.int 27], vm := .none },
  { cls := 10, slots := #[.int 28], vm := .none },
  { cls := 10, slots := #[.int 29], vm := .none },
  { cls := 10, slots := #[.int 30], vm := .none },
  { cls := 10, slots := #[.int 31], vm := .none },
  { cls := 10, slots := #[.int 32], vm := .none },
  { cls := 10, slots := #[.int 33], vm := .none },
  { cls := 10, slots := #[.int 34], vm := .none },
  { cls := 10, slots := #[.int 35], vm := .none },
  { cls := 10, slots := #[.int 36], vm := .none },
  { cls := 10, slots := #[.int 37], vm := .none },
  { cls := 10, slots := #[.int 38], vm := .none },
  { cls := 10, slots := #[.int 39], vm := .none },
  { cls := 10, slots := #[.int 40], vm := .none },
  { cls := 10, slots := #[.int 41], vm := .none },
  { cls := 10, slots := #[.int 42], vm := .none },
  { cls := 10, slots := #[.int 43], vm := .none },
  { cls := 10, slots := #[.int 44], vm := .none },
  { cls := 10, slots := #[.int 45], vm := .none },
  { cls := 10, slots := #[.int 46], vm := .none },
  { cls := 10, slots := #[.int 47], vm := .none },
  { cls := 10, slots := #[.int 48], vm := .none },
  { cls := 10, slots := #[.int 49], vm := .none },
  { cls := 10, slots := #[.int 50], vm := .none },
  { cls := 10, slots := #[.int 51], vm := .none },
  { cls := 10, slots := #[.int 52], vm := .none },
  { cls := 10, slots := #[.int 53], vm := .none },
  { cls := 10, slots := #[.int 54], vm := .none },
  { cls := 10, slots := #[.int 55], vm := .none },
  { cls := 10, slots := #[.int 56], vm := .none },
  { cls := 10, slots := #[.int 57], vm := .none },
  { cls := 10, slots := #[.int 58], vm := .none },
  { cls := 10, slots := #[.int 59], vm := .none },
  { cls := 10, slots := #[.int 60], vm := .none },
  { cls := 10, slots := #[.int 61], vm := .none },
  { cls := 10, slots := #[.int 62], vm := .none },
  { cls := 10, slots := #[.int 63], vm := .none },
  { cls := 10, slots := #[.int 64], vm := .none },
  { cls := 10, slots := #[.int 65], vm := .none },
  { cls := 10, slots := #[.int 66], vm := .none },
  { cls := 10, slots := #[.int 67], vm := .none },
  { cls := 10, slots := #[.int 68], vm := .none },
  { cls := 10, slots := #[.int 69], vm := .none },
  { cls := 10, slots := #[.int 70], vm := .none },
  { cls := 10, slots := #[.int 71], vm := .none },
  { cls := 10, slots := #[.int 72], vm := .none },
  { cls := 10, slots := #[.int 73], vm := .none },
  { cls := 10, slots := #[.int 74], vm := .none },
  { cls := 10, slots := #[.int 75], vm := .none },
  { cls := 10, slots := #[.int 76], vm := .none },
  { cls := 10, slots := #[.int 77], vm := .none },
  { cls := 10, slots := #[.int 78], vm := .none },
  { cls := 10, slots := #[.int 79], vm := .none },
  { cls := 10, slots := #[.int 80], vm := .none },
  { cls := 10, slots := #[.int 81], vm := .none },
  { cls := 10, slots := #[.int 82], vm := .none },
  { cls := 10, slots := #[.int 83], vm := .none },
  { cls := 10, slots := #[.int 84], vm := .none },
  { cls := 10, slots := #[.int 85], vm := .none },
  { cls := 10, slots := #[.int 86], vm := .none },
  { cls := 10, slots := #[.int 87], vm := .none },
  { cls := 10, slots := #[.int 88], vm := .none },
  { cls := 10, slots := #[.int 89], vm := .none },
  { cls := 10, slots := #[.int 90], vm := .none },
  { cls := 10, slots := #[.int 91], vm := .none },
  { cls := 10, slots := #[.int 92], vm := .none },
  { cls := 10, slots := #[.int 93], vm := .none },
  { cls := 10, slots := #[.int 94], vm := .none },
  { cls := 10, slots := #[.int 95], vm := .none },
  { cls := 10, slots := #[.int 96], vm := .none },
  { cls := 10, slots := #[.int 97], vm := .none },
  { cls := 10, slots := #[.int 98], vm := .none },
  { cls := 10, slots := #[.int 99], vm := .none },
  { cls := 10, slots := #[.int 100], vm := .none },
  { cls := 10, slots := #[.int 101], vm := .none },
  { cls := 10, slots := #[.int 102], vm := .none },
  { cls := 10, slots := #[.int 103], vm := .none },
  { cls := 10, slots := #[.int 104], vm := .none },
  { cls := 10, slots := #[.int 105], vm := .none },
  { cls := 10, slots := #[.int 106], vm := .none },
  { cls := 10, slots := #[.int 107], vm := .none },
  { cls := 10, slots := #[.int 108], vm := .none },
  { cls := 10, slots := #[.int 109], vm := .none },
  { cls := 10, slots := #[.int 110], vm := .none },
  { cls := 10, slots := #[.int 111], vm := .none },
  { cls := 10, slots := #[.int 112], vm := .none },
  { cls := 10, slots := #[.int 113], vm := .none },
  { cls := 10, slots := #[.int 114], vm := .none },
  { cls := 10, slots := #[.int 115], vm := .none },
  { cls := 10, slots := #[.int 116], vm := .none },
  { cls := 10, slots := #[.int 117], vm := .none },
  { cls := 10, slots := #[.int 118], vm := .none },
  { cls := 10, slots := #[.int 119], vm := .none },
  { cls := 10, slots := #[.int 120], vm := .none },
  { cls := 10, slots := #[.int 121], vm := .none },
  { cls := 10, slots := #[.int 122], vm := .none },
  { cls := 10, slots := #[.int 123], vm := .none },
  { cls := 10, slots := #[.int 124], vm := .none },
  { cls := 10, slots := #[.int 125], vm := .none },
  { cls := 10, slots := #[.int 126], vm := .none },
  { cls := 10, slots := #[.int 127], vm := .none },
  { cls := 7, slots := #[.null, .int 0, .int 0], vm := .none },
  { cls := 7, slots := #[.null, .int 1, .int 0], vm := .none },
  { cls := 12, slots := #[.null, .int 0, .int 0], vm := .none },
  { cls := 12, slots := #[.null, .int 1, .int 0], vm := .none },
  { cls := 12, slots := #[.null, .int 2, .int 0], vm := .none },
  { cls := 12, slots := #[.null, .int 3, .int 0], vm := .none },
  { cls := 12, slots := #[.null, .int 4, .int 0], vm := .none },
  { cls := 12, slots := #[.null, .int 5, .int 0], vm := .none }]
def classes : Array Class := #[k0, k1, k2, k3, k4, k5, k6, k7, k8, k9, k10, k11, k12, k13, k14, k15, k16, k17, k18]
def interned : List (Array UInt16 × Addr) := []
def slotsUsed : Nat := 551
def theMethod : MethodId := ⟨1, 2⟩
def args0 : Array Value := #[.int 5, .int 4, .int 3]
def aboutOver (below : List Frame) : State where
  vm := { classes := classes, interned := interned.toArray }
  heap := heap
  slotsUsed := slotsUsed
  threads := #[{ frames := .invoking theMethod args0 :: below }]
def below0 : List Frame := [.native { method := ⟨0, 0⟩, args := #[] }]
def about1 : State := aboutOver below0
def p0 : Program := .bare "" "" ""
def e0 : Env := launch0.env 0 0 0
theorem w_frames : about1.frames = Frame.invoking theMethod args0 :: below0 := rfl
set_option maxRecDepth 65536 in
theorem w_args : argsFit about1.vm theMethod args0 = true := by decide +kernel
set_option maxRecDepth 65536 in
theorem w_heap : heapFits about1 = true := by decide +kernel
set_option maxRecDepth 65536 in
theorem w_runnable : about1.curStatus? = some .runnable := by decide +kernel
set_option maxRecDepth 65536 in
theorem w_alone : about1.alone = true := by decide +kernel
set_option maxRecDepth 65536 in
theorem w_named : about1.methodNamed? x = some theMethod := by decide +kernel
set_option maxRecDepth 65536 in
theorem w_hears : about1.hears theMethod below0 = true := by decide +kernel
set_option maxRecDepth 65536 in
theorem w_ripe : about1.ripe theMethod args0 below0 = true := by decide +kernel
theorem w_running : about1.status = .running := rfl
set_option maxRecDepth 65536 in
theorem w_room : about1.hasRoom e0.platform room_1 = true :=
  launch0.hasRoom_least _ room_1 (by decide +kernel) (by decide +kernel) (by decide +kernel) (by decide +kernel) (by decide +kernel) (by decide +kernel)
theorem allAtoms_all (ts : List Jvm.Cond) (a : Array Jvm.Value) (st : Jvm.State) : (allAtoms ts).before a st = ts.all (fun c => c.before a st) := by
  induction ts with
  | nil => rfl
  | cons c t ih =>
    show (Jvm.Cond.and c (allAtoms t)).before a st = _
    rw [Jvm.Cond.before_and, ih, List.all_cons]
def words1 : List Jvm.Cond := Jvm.Cond.code x code maxLocals ret :: tables_1
/-- a 'code' word, met by the world's own term for the bytes: nothing is compared byte by byte -/
theorem code_word {y : MethodName} {bytes : ByteArray} {mx : Nat} {rt : Option FieldType} {a : Array Value} {s : State} {m : MethodId} {meth : Method} {c : Code} (h1 : s.methodNamed? y = some m) (h2 : s.vm.method? m = some meth) (h3 : meth.code = some c) (h4 : c.code = bytes)
    (h5 : (c.maxLocals == mx && c.exceptionTable.isEmpty && decide (c.maxStack ≤ mostOperands) && decide (meth.sig.returnType = rt) && !meth.locks && decide (parseMethodDescriptor y.desc = some meth.sig)) = true) : (Jvm.Cond.code y bytes mx rt).before a s = true := by
  simp only [Bool.and_eq_true, beq_iff_eq, Bool.not_eq_true', decide_eq_true_eq] at h5
  obtain ⟨⟨⟨⟨⟨g1, g2⟩, g3⟩, g4⟩, g5⟩, g6⟩ := h5
  simp [Cond.before, Cond.holds, Cond.value, h1, h2, h3, h4, g1, g2, g3, g4, g5, g6]
def isCode : Jvm.Cond → Bool
  | .code _ _ _ _ => true
  | _ => false
theorem all_split {L : List Jvm.Cond} {P : Jvm.Cond → Bool} (h1 : L.all (fun c => isCode c || P c) = true) (h2 : ∀ c ∈ L.filter isCode, P c = true) : L.all P = true := by
  refine List.all_eq_true.mpr fun c hc => ?_
  have h := List.all_eq_true.mp h1 c hc
  rcases Bool.eq_false_or_eq_true (isCode c) with hi | hi
  · exact h2 c (List.mem_filter.mpr ⟨hc, hi⟩)
  · simpa [hi] using h
set_option maxRecDepth 65536 in
theorem w_c0 : (Jvm.Cond.code x code maxLocals ret).before args0 about1 = true := code_word (m := ⟨1, 2⟩) (meth := k1m2) (c := k1c2) (by decide +kernel) rfl rfl rfl (by decide +kernel)
set_option maxRecDepth 65536 in
theorem w_c1 : (Jvm.Cond.code ({ cls := "com/example/sidelane/sidelane/Cancellation", name := "<init>", desc := "()V" } : Jvm.MethodName) prog_3_method_1_code (1 : Nat) (Option.none : Option Jvm.ClassFile.FieldType)).before args0 about1 = true := code_word (m := ⟨2, 0⟩) (meth := k2m0) (c := k2c0) (by decide +kernel) rfl rfl rfl (by decide +kernel)
set_option maxRecDepth 65536 in
theorem w_c2 : (Jvm.Cond.code ({ cls := "java/lang/Object", name := "<init>", desc := "()V" } : Jvm.MethodName) object_method_1_code (1 : Nat) (Option.none : Option Jvm.ClassFile.FieldType)).before args0 about1 = true := code_word (m := ⟨0, 0⟩) (meth := k0m0) (c := k0c0) (by decide +kernel) rfl rfl rfl (by decide +kernel)
set_option maxRecDepth 65536 in
theorem w_c3 : (Jvm.Cond.code ({ cls := "com/example/sidelane/sidelane/Cancellation", name := "isClaimed", desc := "()Z" } : Jvm.MethodName) prog_3_method_5_code (1 : Nat) (Option.some Jvm.ClassFile.FieldType.boolean)).before args0 about1 = true := code_word (m := ⟨2, 3⟩) (meth := k2m3) (c := k2c3) (by decide +kernel) rfl rfl rfl (by decide +kernel)
set_option maxRecDepth 65536 in
theorem w_c4 : (Jvm.Cond.code ({ cls := "com/example/sidelane/sidelane/CancellationIsClaimedPinLaw", name := "step", desc := "(Lcom/example/sidelane/sidelane/Cancellation;II)I" } : Jvm.MethodName) method_2_code (10 : Nat) (Option.some Jvm.ClassFile.FieldType.int)).before args0 about1 = true := code_word (m := ⟨1, 1⟩) (meth := k1m1) (c := k1c1) (by decide +kernel) rfl rfl rfl (by decide +kernel)
set_option maxRecDepth 65536 in
theorem w_c5 : (Jvm.Cond.code ({ cls := "java/lang/Integer", name := "valueOf", desc := "(I)Ljava/lang/Integer;" } : Jvm.MethodName) jdk_33_method_22_code (1 : Nat) (Option.some (Jvm.ClassFile.FieldType.object "java/lang/Integer"))).before args0 about1 = true := code_word (m := ⟨10, 0⟩) (meth := k10m0) (c := k10c0) (by decide +kernel) rfl rfl rfl (by decide +kernel)
set_option maxRecDepth 65536 in
theorem w_c6 : (Jvm.Cond.code ({ cls := "java/lang/Integer", name := "<init>", desc := "(I)V" } : Jvm.MethodName) jdk_33_method_23_code (2 : Nat) (Option.none : Option Jvm.ClassFile.FieldType)).before args0 about1 = true := code_word (m := ⟨10, 1⟩) (meth := k10m1) (c := k10c1) (by decide +kernel) rfl rfl rfl (by decide +kernel)
set_option maxRecDepth 65536 in
theorem w_c7 : (Jvm.Cond.code ({ cls := "java/lang/Number", name := "<init>", desc := "()V" } : Jvm.MethodName) jdk_18_method_1_code (1 : Nat) (Option.none : Option Jvm.ClassFile.FieldType)).before args0 about1 = true := code_word (m := ⟨8, 0⟩) (meth := k8m0) (c := k8c0) (by decide +kernel) rfl rfl rfl (by decide +kernel)
def codes1 : List Jvm.Cond := [Jvm.Cond.code x code maxLocals ret, Jvm.Cond.code ({ cls := "com/example/sidelane/sidelane/Cancellation", name := "<init>", desc := "()V" } : Jvm.MethodName) prog_3_method_1_code (1 : Nat) (Option.none : Option Jvm.ClassFile.FieldType), Jvm.Cond.code ({ cls := "java/lang/Object", name := "<init>", desc := "()V" } : Jvm.MethodName) object_method_1_code (1 : Nat) (Option.none : Option Jvm.ClassFile.FieldType), Jvm.Cond.code ({ cls := "com/example/sidelane/sidelane/Cancellation", name := "isClaimed", desc := "()Z" } : Jvm.MethodName) prog_3_method_5_code (1 : Nat) (Option.some Jvm.ClassFile.FieldType.boolean), Jvm.Cond.code ({ cls := "com/example/sidelane/sidelane/CancellationIsClaimedPinLaw", name := "step", desc := "(Lcom/example/sidelane/sidelane/Cancellation;II)I" } : Jvm.MethodName) method_2_code (10 : Nat) (Option.some Jvm.ClassFile.FieldType.int), Jvm.Cond.code ({ cls := "java/lang/Integer", name := "valueOf", desc := "(I)Ljava/lang/Integer;" } : Jvm.MethodName) jdk_33_method_22_code (1 : Nat) (Option.some (Jvm.ClassFile.FieldType.object "java/lang/Integer")), Jvm.Cond.code ({ cls := "java/lang/Integer", name := "<init>", desc := "(I)V" } : Jvm.MethodName) jdk_33_method_23_code (2 : Nat) (Option.none : Option Jvm.ClassFile.FieldType), Jvm.Cond.code ({ cls := "java/lang/Number", name := "<init>", desc := "()V" } : Jvm.MethodName) jdk_18_method_1_code (1 : Nat) (Option.none : Option Jvm.ClassFile.FieldType)]
set_option maxRecDepth 65536 in
theorem codes_eq : words1.filter isCode = codes1 := rfl
theorem w_codes : ∀ c ∈ words1.filter isCode, c.before args0 about1 = true := by
  rw [codes_eq]
  intro c hc
  simp only [codes1, List.mem_cons, List.not_mem_nil, or_false] at hc
  rcases hc with rfl | rfl | rfl | rfl | rfl | rfl | rfl | rfl
  · exact w_c0
  · exact w_c1
  · exact w_c2
  · exact w_c3
  · exact w_c4
  · exact w_c5
  · exact w_c6
  · exact w_c7
set_option maxRecDepth 65536 in
theorem w_t1 : (words1.take 24).all (fun c => isCode c || c.before args0 about1) = true := by decide +kernel
set_option maxRecDepth 65536 in
theorem w_t2 : ((words1.drop 24).take 24).all (fun c => isCode c || c.before args0 about1) = true := by decide +kernel
set_option maxRecDepth 65536 in
theorem w_t3 : (((words1.drop 24).drop 24).take 24).all (fun c => isCode c || c.before args0 about1) = true := by decide +kernel
set_option maxRecDepth 65536 in
theorem w_t4 : (((words1.drop 24).drop 24).drop 24).all (fun c => isCode c || c.before args0 about1) = true := by decide +kernel
theorem w_tables : (allAtoms (Jvm.Cond.code x code maxLocals ret :: tables_1)).before args0 about1 = true := by
  rw [allAtoms_all]
  show words1.all (fun c => c.before args0 about1) = true
  refine all_split ?_ w_codes
  rw [← List.take_append_drop 24 words1, List.all_append, w_t1, ← List.take_append_drop 24 (words1.drop 24), List.all_append, w_t2, ← List.take_append_drop 24 ((words1.drop 24).drop 24), List.all_append, w_t3, w_t4]
  rfl
set_option maxRecDepth 65536 in
theorem w_rest : rest_1_c.before args0 about1 = true := by decide +kernel
set_option maxRecDepth 65536 in
theorem w_case : (Jvm.Cond.and given_1 narrow_1).before args0 about1 = true := by decide +kernel
theorem w_applies : (headSpec (Jvm.Cond.code x code maxLocals ret :: tables_1) room_1).applies x e0.platform about1 = true :=
  (Spec.applies_iff w_frames).mpr ⟨w_running, w_runnable, w_alone, w_named, w_hears, w_ripe, w_room, w_tables⟩
theorem atStart : AtStart classFile x code maxLocals ret World_1 tables_1 room_1 Calls_1 rest_1 Pre_1 launch0 p0 e0 about1 theMethod args0 below0 :=
  ⟨lists_1, trivial, launch0.admits_env _ _ _, launch0.least_env, fairChoices_fair.cas, fairChoices_fair.clock, w_frames, w_args, w_heap, w_applies, trivial, w_rest, w_case⟩
end start1
theorem witness_1 : WitnessClaimed_1 := ⟨start1.p0, start1.e0, start1.about1, start1.theMethod, start1.args0, start1.below0, start1.atStart⟩
end Jvm.Pilot.@@N@@
