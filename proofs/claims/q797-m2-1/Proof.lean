import JvmDerived
import JvmDerived.Pilot.@@N@@Statement
import JvmDerived.Pilot.@@N@@Code
set_option linter.unusedVariables false
set_option linter.unusedSimpArgs false
namespace Jvm.Pilot.@@N@@
open Jvm Jvm.ClassFile Sem Op Lib Jvm.Free Jvm.Stand Jvm.LawKit Jvm.RoadKit Bundle Jvm.Pilot.@@N@@.Jvm.D
section Own
variable {p : Program} {l : Launch} {e : Env} {R : Room} {s : State} {m : MethodId} {args : Array Value} {below : List Frame} {meth : Method} {c : Code} {T : State} {locs : List Loc} {cells slots : Nat} {K : Outcome → State → Prop} {Z : State} {a0 : Array Value}
/-- from S the run comes to an end of which K is true -/
def Go (p : Program) (e : Env) (below : List Frame) (K : Outcome → State → Prop) (S : State) : Prop := ∃ s₂ o, Steps p.tables e below S s₂ ∧ s₂.status = .running ∧ Ended s₂ below o ∧ K o s₂
theorem Go.st {S S' : State} (h : ∀ t, Steps p.tables e below S' t → Steps p.tables e below S t) (k : Go p e below K S') : Go p e below K S := by
  obtain ⟨a, o, h1, r⟩ := k; exact ⟨a, o, h _ h1, r⟩
theorem Go.tr {S S' : State} (h : Steps p.tables e below S S') (k : Go p e below K S') : Go p e below K S := by
  obtain ⟨a, o, h1, r⟩ := k; exact ⟨a, o, h.trans h1, r⟩
def EndQ (s : State) (Q : Option Value → Heap → List Loc → Prop) (ce sl : Nat) (o : Outcome) (U : State) : Prop := ∃ v L, o = .returned v ∧ Q v U.heap L ∧ FrameEnd s o U L ce sl
theorem goRet {v : Option Value} {ce sl : Nat} {Q : Option Value → Heap → List Loc → Prop} {S : State} {h : Heap} (X : Stand p l e R s m args below meth c T locs cells slots) (hlk : meth.locks = false) (hv : meth.sig.returnType = none → v = none) (eT : T.heap = h)
    (step : ∀ fs, (∀ (f : JFrame) (acts : List Action), f.method = m → f.locked = none → f.entered = [] → (doReturn e (T.setTop f) acts v).1 = T.setFrames fs) → Steps p.tables e below S (T.setFrames fs))
    (hc : cells ≤ ce) (hs : slots ≤ sl) (hQ : Q v h locs) : Go p e below (EndQ s Q ce sl) S := by
  obtain ⟨fs, hr, hrun, hended, hW, hsame⟩ := X.leave (v := v) hv hlk
  subst eT
  exact ⟨_, _, step fs hr, hrun, hended, _, _, rfl, hQ, ⟨_, rfl⟩, hW, hsame.mono hc hs⟩
/-- ireturn of a boolean, byte, char, short -/
theorem goRetN {ce sl : Nat} {Q : Option Value → Heap → List Loc → Prop} {pc : Nat} {Ls : Array Slot} {z w : Int32} {rest : List Value} {t : FieldType} {h : Heap} (X : Stand p l e R s m args below meth c T locs cells slots) (hx : p.tables.exec = Jvm.exec) (hlk : meth.locks = false) (hret : meth.sig.returnType = some t) (ht : t = .boolean ∨ t = .byte ∨ t = .char ∨ t = .short) (hw : nar t z = w) (eT : T.heap = h)
    (hd : decode c.code pc = .ok (.ireturn, 1)) (hc : cells ≤ ce) (hs : slots ≤ sl) (hQ : Q (some (.int w)) h locs) : Go p e below (EndQ s Q ce sl) (T.setTop (mkF m pc Ls (.int z :: rest))) := by
  subst hw
  exact goRet X hlk (fun h => by rw [hret] at h; cases h) eT (fun fs hr => retN X hx hret ht hd hr) hc hs hQ
theorem goRetI {ce sl : Nat} {Q : Option Value → Heap → List Loc → Prop} {pc : Nat} {Ls : Array Slot} {z : Int32} {rest : List Value} {h : Heap} (X : Stand p l e R s m args below meth c T locs cells slots) (hx : p.tables.exec = Jvm.exec) (hlk : meth.locks = false) (hret : meth.sig.returnType = some .int) (eT : T.heap = h)
    (hd : decode c.code pc = .ok (.ireturn, 1)) (hc : cells ≤ ce) (hs : slots ≤ sl) (hQ : Q (some (.int z)) h locs) : Go p e below (EndQ s Q ce sl) (T.setTop (mkF m pc Ls (.int z :: rest))) :=
  goRet X hlk (fun h => by rw [hret] at h; cases h) eT (fun fs hr => retOut X hx hret rfl (Or.inl ⟨rfl, Or.inl rfl, z, rfl⟩) hd hr) hc hs hQ
theorem goRetJ {ce sl : Nat} {Q : Option Value → Heap → List Loc → Prop} {pc : Nat} {Ls : Array Slot} {z : Int64} {rest : List Value} {h : Heap} (X : Stand p l e R s m args below meth c T locs cells slots) (hx : p.tables.exec = Jvm.exec) (hlk : meth.locks = false) (hret : meth.sig.returnType = some .long) (eT : T.heap = h)
    (hd : decode c.code pc = .ok (.lreturn, 1)) (hc : cells ≤ ce) (hs : slots ≤ sl) (hQ : Q (some (.long z)) h locs) : Go p e below (EndQ s Q ce sl) (T.setTop (mkF m pc Ls (.long z :: rest))) :=
  goRet X hlk (fun h => by rw [hret] at h; cases h) eT (fun fs hr => retOut X hx hret rfl (Or.inr (Or.inl ⟨rfl, rfl, z, rfl⟩)) hd hr) hc hs hQ
theorem goRetA {ce sl : Nat} {Q : Option Value → Heap → List Loc → Prop} {pc : Nat} {Ls : Array Slot} {w : Value} {rest : List Value} {t : FieldType} {h : Heap} (X : Stand p l e R s m args below meth c T locs cells slots) (hx : p.tables.exec = Jvm.exec) (hlk : meth.locks = false) (hret : meth.sig.returnType = some t) (ht : t.isReference = true) (hw : w.isRef = true) (hn : narrow t w = w) (eT : T.heap = h)
    (hd : decode c.code pc = .ok (.areturn, 1)) (hc : cells ≤ ce) (hs : slots ≤ sl) (hQ : Q (some w) h locs) : Go p e below (EndQ s Q ce sl) (T.setTop (mkF m pc Ls (w :: rest))) :=
  goRet X hlk (fun h => by rw [hret] at h; cases h) eT (fun fs hr => retOut X hx hret hn (Or.inr (Or.inr (Or.inr (Or.inr ⟨rfl, ht, hw⟩)))) hd hr) hc hs hQ
theorem goRetV {ce sl : Nat} {Q : Option Value → Heap → List Loc → Prop} {pc : Nat} {Ls : Array Slot} {h : Heap} (X : Stand p l e R s m args below meth c T locs cells slots) (hx : p.tables.exec = Jvm.exec) (hlk : meth.locks = false) (hret : meth.sig.returnType = none) (eT : T.heap = h)
    (hd : decode c.code pc = .ok (.return_, 1)) (hc : cells ≤ ce) (hs : slots ≤ sl) (hQ : Q none h locs) : Go p e below (EndQ s Q ce sl) (T.setTop (mkF m pc Ls [])) :=
  goRet X hlk (fun _ => rfl) eT (fun fs hr => X.returnOut hx hret hd hr) hc hs hQ
/-- a method's contract, in the form that a caller takes -/
abbrev Ctr (l : Launch) (y : MethodName) (bytes : ByteArray) (maxL : Nat) (ret : Option FieldType) (ws : List Jvm.Cond) (rm : Room) (as : Array Value) (Z : State) (h0 : Heap) (Q : Option Value → Heap → List Loc → Prop) : Prop :=
  MetFree l y (head1 (Jvm.Cond.code y bytes maxL ret :: ws) rm) (fun a U => a = as ∧ Z.Warmed39 U.vm ∧ U.heap = h0) (fun _ _ _ _ _ => True) (fun _ U o U' => ∃ v L, o = .returned v ∧ Q v U'.heap L ∧ FrameEnd U o U' L rm.cells rm.slots)
theorem Ctr.of {y : MethodName} {bytes : ByteArray} {maxL : Nat} {ret : Option FieldType} {ws : List Jvm.Cond} {rm : Room} {as : Array Value} {h0 : Heap} {Q : Option Value → Heap → List Loc → Prop} (hpl : plainFor y = true)
    (body : ∀ (p : Program) (e : Env) (s : State) (m : MethodId) (below : List Frame) (meth : Method) (c : Code) (s₁ : State), p.tables.exec = Jvm.exec → Z.Warmed39 s.vm → c.code = bytes → c.maxLocals = maxL → s.vm.findClass y.cls = some m.cls → meth.name = y.name → meth.sig.returnType = ret → meth.locks = false →
      Stand p l e rm s m as below meth c s₁ [] 0 0 → s₁.heap = h0 → Go p e below (EndQ s Q rm.cells rm.slots) (s₁.setTop (entryFrame m as maxL))) :
    Ctr l y bytes maxL ret ws rm as Z h0 Q := by
  refine MetFree.of_bodySF hpl hisR ?_
  intro p e s m args below meth c s₁ Bd hml hP _
  obtain ⟨rfl, hZ, hh⟩ := hP
  exact body p e s m below meth c s₁ Bd.exec hZ Bd.bytes hml (findClass_of_methodNamed Bd.named) (name_of_methodNamed Bd.named Bd.method).1 Bd.returns Bd.notSynchronized (Stand.of_body Bd) (by rw [← hh, Bd.state]; rfl)
theorem goCallS (X : Stand p l e R s m args below meth c T locs cells slots) (hx : p.tables.exec = Jvm.exec) (hZ : Z.Warmed39 s.vm) {own : String} {index : Nat} {y : MethodName} {bytes : ByteArray} {maxL : Nat} {ret : Option FieldType} (hown : s.vm.findClass own = some m.cls)
    (w1 : (Jvm.Cond.methodLink own index y).before a0 Z = true) (w2 : (Jvm.Cond.static y).before a0 Z = true) (w3 : (Jvm.Cond.initialized y.cls).before a0 Z = true) (w4 : (Jvm.Cond.code y bytes maxL ret).before a0 Z = true) (hy : y.cls ≠ "java/lang/invoke/MethodHandle" ∧ y.cls ≠ "java/lang/invoke/VarHandle")
    {h : Heap} {rm : Room} {argsL rest : List Value} {Q : Option Value → Heap → List Loc → Prop} (eT : T.heap = h) (hC : Ctr l y bytes maxL ret [] rm argsL.toArray Z h Q) (W : Nat) (hf : rm.frames + 1 ≤ R.frames) (hl : W + (maxL + 11) + rm.locals ≤ R.locals) (hcl : cells + rm.cells ≤ R.cells) (hsl : slots + rm.slots ≤ R.slots)
    (g : JFrame) (hg : g.method = m) (hsize : g.locals.size = c.maxLocals) (hlen : ∀ sig, parseMethodDescriptor y.desc = some sig → argsL.length = sig.parameters.length) (hst : g.stack = argsL.reverse ++ rest) (hd : decode c.code g.pc = .ok (.invokestatic index, 3))
    (hW : 2 * g.monitorRoom + (rest.map fun v => v.category).sum ≤ W)
    (next : ∀ (v : Option Value) (T' : State) (L : List Loc), Stand p l e R s m args below meth c T' (locs ++ L) (cells + rm.cells) (slots + rm.slots) → Q v T'.heap L → Go p e below K (T'.setTop { g with pc := g.pc + 3, stack := v.toList ++ rest })) :
    Go p e below K (T.setTop g) := by
  subst eT
  obtain ⟨v, _, ⟨T', L', k', n'⟩, -, X', ⟨L, hQ, l1, y1, z1⟩, stp⟩ := Jvm.LawKit.callS X hx hown (mvT hZ w1) (mvT hZ w2) (mvT hZ w3) (mvT hZ w4) hy (backOf (W := W) hC hZ w4 w3 hf hl) (g := g) hg hsize hlen hst hW hd (fun _ _ => ⟨rfl, rfl, hcl, hsl⟩)
  dsimp only [Pt.U, Pt.locs, Pt.cells, Pt.slots] at X' l1 y1 z1 stp hQ
  subst l1 y1 z1
  exact Go.st stp (next v T' L X' hQ)
theorem goInit (X : Stand p l e R s m args below meth c T locs cells slots) (hx : p.tables.exec = Jvm.exec) (hZ : Z.Warmed39 s.vm) {own : String} {index : Nat} {y : MethodName} {bytes : ByteArray} {maxL : Nat} (hy1 : y.name = "<init>") (hown : s.vm.findClass own = some m.cls)
    (w1 : (Jvm.Cond.methodLink own index y).before a0 Z = true) (w2 : (Jvm.Cond.instanceMethod y).before a0 Z = true) (w3 : (Jvm.Cond.initialized y.cls).before a0 Z = true) (w4 : (Jvm.Cond.code y bytes maxL none).before a0 Z = true) (hy : y.cls ≠ "java/lang/invoke/MethodHandle" ∧ y.cls ≠ "java/lang/invoke/VarHandle")
    {h : Heap} {rm : Room} {a : Addr} {argsL rest : List Value} {Q : Option Value → Heap → List Loc → Prop} (eT : T.heap = h) (hC : Ctr l y bytes maxL none [] rm (.ref a :: argsL).toArray Z h Q) (W : Nat) (hf : rm.frames + 1 ≤ R.frames) (hl : W + (maxL + 11) + rm.locals ≤ R.locals) (hcl : cells + rm.cells ≤ R.cells) (hsl : slots + rm.slots ≤ R.slots)
    (g : JFrame) (hg : g.method = m) (hsize : g.locals.size = c.maxLocals) (hlen : ∀ sig, parseMethodDescriptor y.desc = some sig → argsL.length = sig.parameters.length) (hst : g.stack = argsL.reverse ++ .ref a :: rest) (hd : decode c.code g.pc = .ok (.invokespecial index, 3))
    (hW : 2 * g.monitorRoom + (rest.map fun v => v.category).sum ≤ W)
    (next : ∀ (v : Option Value) (T' : State) (L : List Loc), Stand p l e R s m args below meth c T' (locs ++ L) (cells + rm.cells) (slots + rm.slots) → Q v T'.heap L → Go p e below K (T'.setTop { g with pc := g.pc + 3, stack := v.toList ++ rest })) :
    Go p e below K (T.setTop g) := by
  subst eT
  obtain ⟨v, _, ⟨T', L', k', n'⟩, -, X', ⟨L, hQ, l1, y1, z1⟩, stp⟩ := X.specialBack hx hy1 hown (mvT hZ w1) (mvT hZ w2) (mvT hZ w4) hy (backOf (W := W) hC hZ w4 w3 hf hl) (g := g) hg hsize (Steps.refl _) hlen hst hW hd (fun _ _ => ⟨rfl, rfl, hcl, hsl⟩)
  dsimp only [Pt.U, Pt.locs, Pt.cells, Pt.slots] at X' l1 y1 z1 stp hQ
  subst l1 y1 z1
  exact Go.tr stp (next v T' L X' hQ)
theorem goVirt (X : Stand p l e R s m args below meth c T locs cells slots) (hx : p.tables.exec = Jvm.exec) (hZ : Z.Warmed39 s.vm) {own C : String} {index : Nat} {y z : MethodName} {bytes : ByteArray} {maxL : Nat} {ret : Option FieldType} (hown : s.vm.findClass own = some m.cls)
    (w1 : (Jvm.Cond.methodLink own index y).before a0 Z = true) (w2 : (Jvm.Cond.declares y).before a0 Z = true) (hnf : NotFace s y) (w5 : (Jvm.Cond.selects C y z).before a0 Z = true) (w6 : (Jvm.Cond.instanceMethod z).before a0 Z = true) (w3 : (Jvm.Cond.initialized z.cls).before a0 Z = true) (w4 : (Jvm.Cond.code z bytes maxL ret).before a0 Z = true) (hy : y.cls ≠ "java/lang/invoke/MethodHandle" ∧ y.cls ≠ "java/lang/invoke/VarHandle")
    {h : Heap} {rm : Room} {a : Addr} {argsL rest : List Value} {Q : Option Value → Heap → List Loc → Prop} (eT : T.heap = h) (E : Exa Z h a C) (hC : Ctr l z bytes maxL ret [] rm (.ref a :: argsL).toArray Z h Q) (W : Nat) (hf : rm.frames + 1 ≤ R.frames) (hl : W + (maxL + 11) + rm.locals ≤ R.locals) (hcl : cells + rm.cells ≤ R.cells) (hsl : slots + rm.slots ≤ R.slots)
    (g : JFrame) (hg : g.method = m) (hsize : g.locals.size = c.maxLocals) (hlen : ∀ sig, parseMethodDescriptor y.desc = some sig → argsL.length = sig.parameters.length) (hst : g.stack = argsL.reverse ++ .ref a :: rest) (hd : decode c.code g.pc = .ok (.invokevirtual index, 3))
    (hW : 2 * g.monitorRoom + (rest.map fun v => v.category).sum ≤ W)
    (next : ∀ (v : Option Value) (T' : State) (L : List Loc), Stand p l e R s m args below meth c T' (locs ++ L) (cells + rm.cells) (slots + rm.slots) → Q v T'.heap L → Go p e below K (T'.setTop { g with pc := g.pc + 3, stack := v.toList ++ rest })) :
    Go p e below K (T.setTop g) := by
  subst eT
  obtain ⟨cq, kq, qa, qb, qc⟩ := isOf (T := T) hZ rfl E
  obtain ⟨v, _, ⟨T', L', k', n'⟩, -, X', ⟨L, hQ, l1, y1, z1⟩, stp⟩ := X.virtualBack hx hown (mvT hZ w1) (mvT hZ w2) hnf (mvT hZ w5) (mvT hZ w6) hy (backOf (W := W) hC hZ w4 w3 hf hl) qa qc (g := g) hg hsize (Steps.refl _) hlen hst hW hd (fun _ _ => ⟨rfl, rfl, hcl, hsl⟩)
  dsimp only [Pt.U, Pt.locs, Pt.cells, Pt.slots] at X' l1 y1 z1 stp hQ
  subst l1 y1 z1
  exact Go.tr stp (next v T' L X' hQ)
theorem oldGe {h : Heap} {n0 : Nat} {b : Addr} (O : Old Z n0 h) (g : b = h.size) : n0 ≤ b := by rw [g, ← O.1]; exact O.2.1
theorem oldSta {h : Heap} {n0 : Nat} {C n d : String} {v : Value} (O : Old Z n0 h) (S : Sta Z Z.heap C n d v) : Sta Z h C n d v := S.ext O.2
theorem oldExa {h : Heap} {n0 : Nat} {C : String} {a : Addr} (O : Old Z n0 h) (S : Exa Z Z.heap a C) : Exa Z h a C := S.ext O.2
theorem oldFld {h : Heap} {n0 : Nat} {a : Addr} {C n d : String} {v : Value} (O : Old Z n0 h) (S : Fld Z Z.heap a C n d v) : Fld Z h a C n d v := S.ext O.2
end Own
theorem fldStart {args : Array Value} {Z : State} {t : Term} {a : Addr} {C n d : String} {v : Int32} (ev : t.eval args Z none [] Z = some (.ref a)) (h : (Jvm.Cond.eq (.field t C n d) (.int v)).value args Z none Z [] = some true) : Fld Z Z.heap a C n d (.int v) := by
  cases hf : Z.fieldOf? a C n d with
  | none => simp [Cond.value, Term.eval, ev, hf] at h
  | some x =>
    cases x <;> simp [Cond.value, Term.eval, ev, hf] at h
    exact Fld.start (by rw [hf, h])
theorem staInt {args : Array Value} {Z : State} {C n d : String} {v : Int32} (h : (Jvm.Cond.eq (.static C n d) (.int v)).value args Z none Z [] = some true) : (Term.static C n d).eval args Z none [] Z = some (.int v) := by
  obtain ⟨x, y, h1, h2, k1, k2⟩ := cmp_v (Or.inl h)
  cases (Term.int_eval v (args := args) (first := Z) (o := none) (idx := []) (s := Z)).symm.trans h2
  obtain ⟨z, rfl⟩ := k2
  rw [h1]
  simp [Cond.value, h1, Term.int_eval] at h
  rw [h]
theorem narZ {z : Int32} (h : z = 0 ∨ z = 1) : nar .boolean z = z := by rcases h with rfl | rfl <;> decide
theorem goJoin {p : Program} {e : Env} {below : List Frame} {K : Outcome → State → Prop} {S : State} {α : Type} {P : α → Prop} {F : α → State} (h1 : ∀ z, P z → Go p e below K (F z)) (h2 : (∀ z, P z → Go p e below K (F z)) → Go p e below K S) : Go p e below K S := h2 h1
theorem own_bit {z : Int32} {P : Prop} [Decidable P] (h : z = (if P then (1 : Int32) else 0)) : z = 0 ∨ z = 1 := by rw [h]; by_cases q : P <;> simp [q]
theorem lenStart {args : Array Value} {Z : State} {t : Term} {a : Addr} {cl : Cell} {n : Int32} (ev : t.eval args Z none [] Z = some (.ref a)) (ha : Z.arrayAt? a = some cl) (h : (Jvm.Cond.eq (.length t) (.int n)).value args Z none Z [] = some true) : cl.slots.size < 2 ^ 31 ∧ cl.slots.size.toInt32 = n := by
  have h1 := eqv_i (Term.int_eval n) h
  by_cases q : cl.slots.size < 2 ^ 31
  · rw [len_f ev ha q] at h1
    exact ⟨q, by simpa using h1⟩
  · simp [Term.eval, ev, ha, q] at h1
theorem nsRoot {Z : State} {a0 : Array Value} {O K : String} {n : Nat} (w : (Jvm.Cond.noSuperclass O).before a0 Z = true) (wi : (Jvm.Cond.instantiable K n).before a0 Z = true) (hn : O ≠ K) : NS Z O K := by
  obtain ⟨c, k, h1, h2, h3, -, -⟩ := Cond.noSuperclass_spec w
  obtain ⟨t, k', g1, -⟩ := Cond.instantiable_spec wi
  have ne := ids_ne h1 g1 hn
  refine ⟨c, t, h1, g1, fun fuel => ?_⟩
  cases fuel with
  | zero => rfl
  | succ f => simp [Vm.isSubclassAux, ne, h2, h3]
theorem nsNo {Z : State} {a0 : Array Value} {C S K : String} {n : Nat} (w : (Jvm.Cond.superclass C S).before a0 Z = true) (wi : (Jvm.Cond.instantiable K n).before a0 Z = true) (nn : NS Z C K) (hn : C ≠ K) : ∃ c t, Z.vm.findClass C = some c ∧ Z.vm.findClass K = some t ∧ Z.vm.assignable c t = false := by
  obtain ⟨c, t, h0, g0, n3⟩ := nn
  obtain ⟨p, k, kp, h1, h2, h3, h4, h5, -, h7⟩ := Cond.superclass_spec h0 w
  obtain ⟨t', k', g1, g2, g5, g6, -⟩ := Cond.instantiable_spec wi
  cases g0.symm.trans g1
  have g7 : k'.isInterface = false := by
    cases hq : k'.isInterface with
    | false => rfl
    | true => rw [hq] at g6; simp at g6
  have ne := ids_ne h0 g0 hn
  refine ⟨c, t, h0, g0, ?_⟩
  show Z.vm.assignableAux (255 + 1) c t = false
  simp [Vm.assignableAux, ne, h2, g2, h5, g5, g7, Vm.isSubclass, n3]
theorem subAt {args : Array Value} {Z : State} {a b : Term} {idx : List Nat} {x y : Int32} (ha : a.eval args Z none idx Z = some (.int x)) (hb : b.eval args Z none idx Z = some (.int y)) : (Term.sub a b).eval args Z none idx Z = some (.int (x - y)) := by simp [Term.eval, ha, hb]
theorem elemStart {args : Array Value} {Z : State} {t u : Term} {a w : Addr} {cl : Cell} {ty : FieldType} {j : Int32} (ev : t.eval args Z none [] Z = some (.ref a)) (A : Arr Z Z.heap a cl ty) (evu : u.eval args Z none [] Z = some (.ref w)) (h : (Jvm.Cond.eq (.elem t (.int j)) u).value args Z none Z [] = some true) : cl.slots[j.toNatClampNeg]? = some (.ref w) := by
  obtain ⟨x, y, h1, h2, k1, k2⟩ := cmp_v (Or.inl h)
  cases evu.symm.trans h2
  have hx : x.isRef = true := k2.2
  have e : x = .ref w := gotT (eq_R h1 h2 hx rfl) h
  rw [← e]
  exact (elem_in h1 ev (Term.int_eval j) A.1).2
theorem own_ite {P Q : Prop} [Decidable P] [Decidable Q] (h : P ↔ Q) : (if P then (1 : Int32) else 0) = (if Q then (1 : Int32) else 0) := by
  by_cases p : P
  · rw [if_pos p, if_pos (h.mp p)]
  · rw [if_neg p, if_neg (fun q => p (h.mpr q))]
section OwnSync
variable {p : Program} {l : Launch} {e : Env} {R : Room} {s s0 : State} {m : MethodId} {args : Array Value} {below : List Frame} {meth : Method} {c : Code} {T : State} {locs : List Loc} {cells slots : Nat} {K : Outcome → State → Prop} {Z : State} {a0 : Array Value}
theorem keepSet {h : Heap} {a : Addr} {cl cl' : Cell} (hc : h[a]? = some cl) (h1 : cl'.cls = cl.cls) (h2 : cl'.vm = cl.vm) (h3 : cl'.slots.size = cl.slots.size) : Keep h (h.setIfInBounds a cl') [a] := by
  refine ⟨by simp, fun x c q r => ?_, fun x c q => ?_⟩
  · rw [Array.getElem?_setIfInBounds_ne (fun z => r (by rw [← z]; exact List.mem_singleton_self _))]; exact q
  · by_cases z : a = x
    · subst z
      cases hc.symm.trans q
      exact ⟨cl', by simp [(Array.getElem?_eq_some_iff.mp hc).1], h1, h2, h3⟩
    · exact ⟨c, by rw [Array.getElem?_setIfInBounds_ne z]; exact q, rfl, rfl, rfl⟩
theorem left_same (D : Cell) : D.left.cls = D.cls ∧ D.left.vm = D.vm ∧ D.left.slots = D.slots := by unfold Cell.left; split <;> exact ⟨rfl, rfl, rfl⟩
/-- the contract of a synchronized instance method -/
abbrev CtrS (l : Launch) (y : MethodName) (bytes : ByteArray) (maxL : Nat) (ret : Option FieldType) (rm : Room) (as : Array Value) (Z : State) (h0 : Heap) (Q : Option Value → Heap → List Loc → Prop) : Prop :=
  MetFree l y (head1 [Jvm.Cond.codeSync y bytes maxL ret, Jvm.Cond.instanceMethod y] rm) (fun a U => a = as ∧ Z.Warmed39 U.vm ∧ U.heap = h0) (fun _ _ _ _ _ => True) (fun _ U o U' => ∃ v L, o = .returned v ∧ Q v U'.heap L ∧ FrameEnd U o U' L rm.cells rm.slots)
theorem CtrS.of {y : MethodName} {bytes : ByteArray} {maxL : Nat} {ret : Option FieldType} {rm : Room} {as : Array Value} {a : Addr} {h0 : Heap} {Q : Option Value → Heap → List Loc → Prop} (hpl : plainFor y = true) (has : as[0]? = some (.ref a)) (N : Unt h0 a)
    (body : ∀ (p : Program) (e : Env) (s0 s : State) (m : MethodId) (below : List Frame) (meth : Method) (c : Code) (s₁ : State) (cell : Cell), p.tables.exec = Jvm.exec → Z.Warmed39 s.vm → c.code = bytes → c.maxLocals = maxL → s.vm.findClass y.cls = some m.cls → meth.name = y.name → meth.sig.returnType = ret → meth.locks = true →
      s = s0.setCell a (cell.withEntry s0.cur) → s0.heap[a]? = some cell → cell.monitor = {} → Stand p l e rm s m as below meth c s₁ [] 0 0 → Mon h0 s₁.heap → Keep h0 s₁.heap [a] → Go p e below (EndQ s0 Q rm.cells rm.slots) (s₁.setTop (entryFrameSync m as maxL a))) :
    CtrS l y bytes maxL ret rm as Z h0 Q := by
  obtain ⟨cl, u1, u2, u3⟩ := N
  have hent : ∀ t, cl.enterable t := fun t => by rw [Cell.enterable, u3]; simp
  refine MetFree.of_bodySync hpl (hisS (List.mem_cons_self ..)) (fun _ s _ ⟨h1, _, h2⟩ => ⟨a, cl, by rw [h1]; exact has, by rw [h2]; exact u1, hent _⟩) ?_
  intro p e s0 m args below meth c a' cell s₁ Bd hml hP _
  obtain ⟨rfl, hZ, hh⟩ := hP
  cases has.symm.trans Bd.receiver
  subst hh
  cases u1.symm.trans Bd.object
  exact body p e s0 (s0.setCell a (cl.withEntry s0.cur)) m below meth c s₁ cl Bd.exec hZ Bd.bytes hml (findClass_of_methodNamed Bd.named) (name_of_methodNamed Bd.named Bd.method).1 Bd.returns Bd.synchronized rfl u1 u3 (Stand.of_bodySync Bd) (by rw [Bd.state]; exact mon_set u1 _) (by rw [Bd.state]; exact keepSet u1 rfl rfl rfl)
theorem goRetS {v : Option Value} {ce sl : Nat} {Q : Option Value → Heap → List Loc → Prop} {S : State} {h : Heap} {a : Addr} {cell : Cell} (X : Stand p l e R s m args below meth c T locs cells slots) (hs : s = s0.setCell a (cell.withEntry s0.cur)) (hc : s0.heap[a]? = some cell) (hm : cell.monitor = {}) (hlk : meth.locks = true) (hv : meth.sig.returnType = none → v = none) (eT : T.heap = h)
    (step : ∀ V, (∀ (f : JFrame) (acts : List Action), f.method = m → f.locked = some a → f.entered = [] → (doReturn e (T.setTop f) acts v).1 = V) → Steps p.tables e below S V)
    (hce : cells ≤ ce) (hsl : slots ≤ sl) (hQ : ∀ h', Mon h h' → Keep h h' [a] → (∀ c' : Cell, h'[a]? = some c' → c'.monitor = {}) → Q v h' locs) : Go p e below (EndQ s0 Q ce sl) S := by
  subst hs eT
  have ho : cell.enterable s0.cur := by rw [Cell.enterable, hm]; simp
  obtain ⟨fs, cT, hcT, hr, hrun, hend, h1, h2⟩ := X.leaveSync hc ho hlk hv
  obtain ⟨DT, w1, w2, -⟩ := X.cellAt (State.heap_setCell_self (x := cell.withEntry s0.cur) hc)
  cases hcT.symm.trans w1
  have hmo : cT.left.monitor = cell.monitor := by
    have := congrArg Cell.monitor (Cell.left_withEntry' ho)
    unfold Cell.left at this ⊢; rw [w2]; split <;> rename_i q <;> simp only [q, if_true, if_false] at this <;> exact this
  refine ⟨_, _, step _ hr, hrun, hend, v, locs, rfl, hQ _ ?_ ?_ ?_, ⟨_, rfl⟩, h1, h2.mono hce hsl⟩
  · show Mon T.heap (T.heap.setIfInBounds a cT.left)
    unfold Cell.left
    split <;> exact mon_set hcT _
  · exact keepSet hcT (left_same cT).1 (left_same cT).2.1 (by rw [(left_same cT).2.2])
  · intro c' hc'
    have e1 : (T.heap.setIfInBounds a cT.left)[a]? = some cT.left := by simp [(Array.getElem?_eq_some_iff.mp hcT).1]
    cases e1.symm.trans hc'
    rw [hmo, hm]
theorem backOfSync {y : MethodName} {bytes : ByteArray} {maxL : Nat} {ret : Option FieldType} {rm : Room} {len W : Nat} {as' : Array Value} {h : Heap} {Q : Option Value → Heap → List Loc → Prop} (hM : CtrS l y bytes maxL ret rm as' Z h Q)
    (hZ : Z.Warmed39 s.vm) (wc : (Jvm.Cond.codeSync y bytes maxL ret).before a0 Z = true) (wi : (Jvm.Cond.instanceMethod y).before a0 Z = true) (wz : (Jvm.Cond.initialized y.cls).before a0 Z = true) (hf : rm.frames + 1 ≤ R.frames) (hl : W + (maxL + 11) + rm.locals ≤ R.locals) :
    Back l R p e below s args y len W (fun A a => a = as' ∧ A.U.heap = h ∧ A.cells + rm.cells ≤ R.cells ∧ A.slots + rm.slots ≤ R.slots)
      (fun A _ v B => ∃ L, Q v B.U.heap L ∧ B.locs = A.locs ++ L ∧ B.cells = A.cells + rm.cells ∧ B.slots = A.slots + rm.slots) :=
  Jvm.Free.XT.back_of_sync (bytes := bytes) (maxL := maxL) (ret := ret) (E := fun _ _ o t L k n => k = rm.cells ∧ n = rm.slots ∧ ∃ v, o = .returned v ∧ Q v t.heap L) hM hf hl
    (fun m meth c A as Y hp => have hU : Z.Warmed39 A.U.vm := wtrans hZ Y.warmed
      ⟨by show (Jvm.Cond.and _ (Jvm.Cond.and _ .tt)).before as A.U = true; rw [Cond.before_and, Cond.before_and, mv hU wc, mv hU wi]; rfl, mv hU wc, mv hU wz, hp.2.2.1, hp.2.2.2⟩)
    (fun m meth c A as g mk Y hp => ⟨hp.1, wtrans hZ Y.warmed, hp.2.1⟩) (fun _ _ _ _ _ _ _ _ _ => trivial)
    (fun _ _ _ _ ⟨v, L, h1, h2, h3⟩ => ⟨L, _, _, h3, rfl, rfl, v, h1, h2⟩)
    (fun m meth c A as g mk v t L k n Y hp _ _ ⟨e1, e2, v', e3, e4⟩ => by cases e3; subst e1 e2; exact ⟨L, e4, rfl, rfl, rfl⟩)
theorem goVirtS (X : Stand p l e R s m args below meth c T locs cells slots) (hx : p.tables.exec = Jvm.exec) (hZ : Z.Warmed39 s.vm) {own C : String} {index : Nat} {y z : MethodName} {bytes : ByteArray} {maxL : Nat} {ret : Option FieldType} (hown : s.vm.findClass own = some m.cls)
    (w1 : (Jvm.Cond.methodLink own index y).before a0 Z = true) (w2 : (Jvm.Cond.declares y).before a0 Z = true) (hnf : NotFace s y) (w5 : (Jvm.Cond.selects C y z).before a0 Z = true) (w6 : (Jvm.Cond.instanceMethod z).before a0 Z = true) (w3 : (Jvm.Cond.initialized z.cls).before a0 Z = true) (w4 : (Jvm.Cond.codeSync z bytes maxL ret).before a0 Z = true) (hy : y.cls ≠ "java/lang/invoke/MethodHandle" ∧ y.cls ≠ "java/lang/invoke/VarHandle")
    {h : Heap} {rm : Room} {a : Addr} {argsL rest : List Value} {Q : Option Value → Heap → List Loc → Prop} (eT : T.heap = h) (E : Exa Z h a C) (hC : CtrS l z bytes maxL ret rm (.ref a :: argsL).toArray Z h Q) (W : Nat) (hf : rm.frames + 1 ≤ R.frames) (hl : W + (maxL + 11) + rm.locals ≤ R.locals) (hcl : cells + rm.cells ≤ R.cells) (hsl : slots + rm.slots ≤ R.slots)
    (g : JFrame) (hg : g.method = m) (hsize : g.locals.size = c.maxLocals) (hlen : ∀ sig, parseMethodDescriptor y.desc = some sig → argsL.length = sig.parameters.length) (hst : g.stack = argsL.reverse ++ .ref a :: rest) (hd : decode c.code g.pc = .ok (.invokevirtual index, 3))
    (hW : 2 * g.monitorRoom + (rest.map fun v => v.category).sum ≤ W)
    (next : ∀ (v : Option Value) (T' : State) (L : List Loc), Stand p l e R s m args below meth c T' (locs ++ L) (cells + rm.cells) (slots + rm.slots) → Q v T'.heap L → Go p e below K (T'.setTop { g with pc := g.pc + 3, stack := v.toList ++ rest })) :
    Go p e below K (T.setTop g) := by
  subst eT
  obtain ⟨cq, kq, qa, qb, qc⟩ := isOf (T := T) hZ rfl E
  obtain ⟨v, _, ⟨T', L', k', n'⟩, -, X', ⟨L, hQ, l1, y1, z1⟩, stp⟩ := X.virtualBack hx hown (mvT hZ w1) (mvT hZ w2) hnf (mvT hZ w5) (mvT hZ w6) hy (backOfSync (W := W) hC hZ w4 w6 w3 hf hl) qa qc (g := g) hg hsize (Steps.refl _) hlen hst hW hd (fun _ _ => ⟨rfl, rfl, hcl, hsl⟩)
  dsimp only [Pt.U, Pt.locs, Pt.cells, Pt.slots] at X' l1 y1 z1 stp hQ
  subst l1 y1 z1
  exact Go.tr stp (next v T' L X' hQ)
theorem untKeep {h h' : Heap} {a : Addr} {ws : List Addr} (N : Unt h a) (K : Keep h h' ws) (q : a ∉ ws) : Unt h' a := by obtain ⟨cl, u1, r⟩ := N; exact ⟨cl, K.2.1 _ _ u1 q, r⟩
theorem untEnd {h h' : Heap} {a : Addr} {ws : List Addr} (N : Unt h a) (K : Keep h h' ws) (hm : ∀ c' : Cell, h'[a]? = some c' → c'.monitor = {}) : Unt h' a := by
  obtain ⟨cl, u1, u2, u3⟩ := N
  obtain ⟨c', q1, -, q3, -⟩ := K.2.2 _ _ u1
  exact ⟨c', q1, by rw [q3, u2], hm _ q1⟩
end OwnSync
theorem ownBxI {Z : State} {wc : Addr} {cl : Cell} {K : String} {q : Int32} (BX : Bxs Z wc cl K "I" 256 (fun j => .int (j - 128))) (h1 : ¬ q < (-128 : Int32)) (h2 : ¬ (127 : Int32) < q) :
    ¬ (q + (128 : Int32) < 0 ∨ cl.slots.size ≤ (q + (128 : Int32)).toNatClampNeg) ∧ ∃ r, cl.slots[(q + (128 : Int32)).toNatClampNeg]? = some (.ref r) ∧ Exa Z Z.heap r K ∧ Fld Z Z.heap r K "value" "I" (.int q) := by
  rw [Int32.lt_iff_toInt_lt, show (-128 : Int32).toInt = -128 from rfl] at h1
  rw [Int32.lt_iff_toInt_lt, show (127 : Int32).toInt = 127 from rfl] at h2
  have e1 : (q + (128 : Int32)).toInt = q.toInt + 128 := by
    rw [Int32.toInt_add, show (128 : Int32).toInt = 128 from rfl]; exact Int.bmod_eq_of_le (by omega) (by omega)
  have hin : ¬ (q + (128 : Int32) < 0 ∨ cl.slots.size ≤ (q + (128 : Int32)).toNatClampNeg) := by
    refine inb_of BX.2.1 ⟨?_, ?_⟩
    · rw [Int32.lt_iff_toInt_lt, e1, show (0 : Int32).toInt = 0 from rfl]; omega
    · rw [Int32.lt_iff_toInt_lt, e1, show (256 : Int32).toInt = 256 from rfl]; omega
  obtain ⟨r, r1, r2, r3⟩ := BX.2.2.2 _ hin
  refine ⟨hin, r, r1, r2, ?_⟩
  have e2 : q + 128 - 128 = q := by
    apply Int32.toInt_inj.mp
    rw [Int32.toInt_sub, e1, show (128 : Int32).toInt = 128 from rfl]
    rw [Int.bmod_eq_of_le (by omega) (by omega)]; omega
  simpa only [e2] using r3
theorem own_and3 (y : Int32) : y &&& (3 : Int32) = (0 : Int32) ∨ y &&& (3 : Int32) = (1 : Int32) ∨ y &&& (3 : Int32) = (2 : Int32) ∨ y &&& (3 : Int32) = (3 : Int32) := by
  have h1 := c_mask y 3 2 (by decide) (by decide)
  generalize y &&& (3 : Int32) = z at h1
  have h3 : z.toInt = 0 ∨ z.toInt = 1 ∨ z.toInt = 2 ∨ z.toInt = 3 := by omega
  rcases h3 with h | h | h | h
  · exact Or.inl (Int32.toInt_inj.mp h)
  · exact Or.inr (Or.inl (Int32.toInt_inj.mp h))
  · exact Or.inr (Or.inr (Or.inl (Int32.toInt_inj.mp h)))
  · exact Or.inr (Or.inr (Or.inr (Int32.toInt_inj.mp h)))
def own_ob (Z : State) (h : Heap) (a : Addr) (cb : Value) (z eb : Int32) (en oc : Value) : Prop := Exa Z h a "com/example/sidelane/sidelane/Cancellation" ∧ Unt h a ∧ Fld Z h a "com/example/sidelane/sidelane/Cancellation" "claimedBy" "Lcom/example/sidelane/sidelane/Cancellation$Claimant;" cb ∧ Fld Z h a "com/example/sidelane/sidelane/Cancellation" "cancelled" "Z" (.int z) ∧ Fld Z h a "com/example/sidelane/sidelane/Cancellation" "endingBegun" "Z" (.int eb) ∧ Fld Z h a "com/example/sidelane/sidelane/Cancellation" "queued" "Z" (.int 0) ∧ Fld Z h a "com/example/sidelane/sidelane/Cancellation" "runner" "Ljava/lang/Thread;" .null ∧ Fld Z h a "com/example/sidelane/sidelane/Cancellation" "cancelEnding" "Ljava/lang/Object;" en ∧ Fld Z h a "com/example/sidelane/sidelane/Cancellation" "cancelOutcome" "Lcom/example/sidelane/sidelane/Cancellation$Outcome;" oc
def own_gen0 (Z : State) (h : Heap) (a : Addr) (cb : Value) : Prop := ∃ (eb : Int32) (en oc : Value), own_ob Z h a cb 0 eb en oc ∧ (eb = 0 ∨ eb = 1)
def own_gen1 (Z : State) (h : Heap) (a : Addr) (cb : Value) : Prop := ∃ (eb : Int32) (en oc : Value), own_ob Z h a cb 1 eb en oc ∧ (en = .null ∨ ∃ r, en = .ref r) ∧ ∃ r, oc = .ref r

theorem pd_0 : parseMethodDescriptor "()V" = some ⟨[], none⟩ := by decide +kernel
theorem pd_1 : parseMethodDescriptor "(I)V" = some ⟨[.int], none⟩ := by decide +kernel
theorem pd_2 : parseMethodDescriptor "()Z" = some ⟨[], some .boolean⟩ := by decide +kernel
theorem pd_3 : parseMethodDescriptor "(I)Ljava/lang/Integer;" = some ⟨[.int], some (.object "java/lang/Integer")⟩ := by decide +kernel
theorem pd_4 : parseMethodDescriptor "(I)Lcom/example/sidelane/sidelane/Cancellation$Claimant;" = some ⟨[.int], some (.object "com/example/sidelane/sidelane/Cancellation$Claimant")⟩ := by decide +kernel
theorem pd_5 : parseMethodDescriptor "(Lcom/example/sidelane/sidelane/Cancellation$Claimant;)Z" = some ⟨[(.object "com/example/sidelane/sidelane/Cancellation$Claimant")], some .boolean⟩ := by decide +kernel
theorem pd_6 : parseMethodDescriptor "(ZLjava/lang/Object;)Lcom/example/sidelane/sidelane/Cancellation$Outcome;" = some ⟨[.boolean, (.object "java/lang/Object")], some (.object "com/example/sidelane/sidelane/Cancellation$Outcome")⟩ := by decide +kernel
theorem d10_0 : decode jdk_18_method_1_code 0 = .ok (.aload_n 0, 1) := by decide +kernel
theorem d10_1 : decode jdk_18_method_1_code 1 = .ok (.invokespecial 1, 3) := by decide +kernel
theorem d10_4 : decode jdk_18_method_1_code 4 = .ok (.return_, 1) := by decide +kernel
theorem pn_10 : plainName "java/lang/Number" = true := by first | (simp [plainName, overriddenIn]; done) | decide +kernel
set_option maxRecDepth 65536 in
set_option maxHeartbeats 40000000 in
theorem rmNum (l : Launch) (Z : State) (a0 : Array Value) (hw : ∀ d ∈ tables_1, d.before a0 Z = true) (ws : List Jvm.Cond) (a1 : Addr) (h0 : Heap) (n0 : Nat) (O0 : Old Z n0 h0) :
    Ctr l (⟨"java/lang/Number", "<init>", "()V"⟩ : MethodName) jdk_18_method_1_code 1 none ws ({ frames := 1, cells := 0, slots := 0, locals := 12 } : Room) #[(.ref a1)] Z h0 (fun v h L => v = none ∧ Fr n0 L ∧ h = h0) := by
  have ef : ∀ m : MethodId, entryFrame m #[(.ref a1)] 1 = mkF m 0 #[.val (.ref a1)] [] := fun m => by first | (simp [entryFrame, mkF, argsToLocals, Value.category]; done) | rfl
  refine Ctr.of (plainFor_of_name pn_10) ?_
  intro p e s m below meth c s₁ hx hZ hby hml hown0 hnm hret hlk X0 e0
  have hown : s.vm.findClass "java/lang/Number" = some m.cls := hown0
  have N0 := Fr.nil n0
  refine Go.st (fun t k => castTop (ef m) k) ?_
  show Go p e below _ (s₁.setTop (mkF m 0 #[.val (.ref a1)] []))
  refine Go.st (fun _ => XS.aloadN X0.here hx rfl (hb hby d10_0) rfl rfl) ?_
  show Go p e below _ (s₁.setTop (mkF m 1 #[.val (.ref a1)] [(.ref a1)]))
  obtain ⟨T1, X1, e1, st1⟩ := initO X0 hx hZ hown (hw _ (List.mem_of_getElem? (i := 76) rfl)) (hw _ (List.mem_of_getElem? (i := 7) rfl)) (hw _ (List.mem_of_getElem? (i := 8) rfl)) e0 (g := (mkF m 1 #[.val (.ref a1)] [(.ref a1)])) rfl (by rw [hml]; rfl) rfl (hb hby d10_1) (by decide) (W := 0) (by show 2 * 0 + _ ≤ _; exact Nat.le_of_eq rfl) (by decide)
  refine Go.st st1 ?_
  show Go p e below _ (T1.setTop (mkF m 4 #[.val (.ref a1)] []))
  exact goRetV X1 hx hlk hret e1 (hb hby d10_4) (by decide) (by decide) ⟨rfl, N0, rfl⟩
theorem d9_0 : decode jdk_33_method_23_code 0 = .ok (.aload_n 0, 1) := by decide +kernel
theorem d9_1 : decode jdk_33_method_23_code 1 = .ok (.invokespecial 202, 3) := by decide +kernel
theorem d9_4 : decode jdk_33_method_23_code 4 = .ok (.aload_n 0, 1) := by decide +kernel
theorem d9_5 : decode jdk_33_method_23_code 5 = .ok (.iload_n 1, 1) := by decide +kernel
theorem d9_6 : decode jdk_33_method_23_code 6 = .ok (.putfield 205, 3) := by decide +kernel
theorem d9_9 : decode jdk_33_method_23_code 9 = .ok (.return_, 1) := by decide +kernel
theorem pn_9 : plainName "java/lang/Integer" = true := by first | (simp [plainName, overriddenIn]; done) | decide +kernel
set_option maxRecDepth 65536 in
set_option maxHeartbeats 40000000 in
theorem rmBoxInit (l : Launch) (Z : State) (a0 : Array Value) (hw : ∀ d ∈ tables_1, d.before a0 Z = true) (ws : List Jvm.Cond) (a1 : Addr) (q2 : Int32) (h0 : Heap) (n0 : Nat) (O0 : Old Z n0 h0) (A1 : Exa Z h0 a1 "java/lang/Integer") (F1 : Fld Z h0 a1 "java/lang/Integer" "value" "I" (.int (0 : Int32))) (g1 : n0 ≤ a1) :
    Ctr l (⟨"java/lang/Integer", "<init>", "(I)V"⟩ : MethodName) jdk_33_method_23_code 2 none ws ({ frames := 2, cells := 0, slots := 0, locals := 24 } : Room) #[(.ref a1), (.int q2)] Z h0 (fun v h L => v = none ∧ Fr n0 L ∧ Keep h0 h [a1] ∧ Fld Z h a1 "java/lang/Integer" "value" "I" (.int q2)) := by
  have ef : ∀ m : MethodId, entryFrame m #[(.ref a1), (.int q2)] 2 = mkF m 0 #[.val (.ref a1), .val (.int q2)] [] := fun m => by first | (simp [entryFrame, mkF, argsToLocals, Value.category]; done) | rfl
  refine Ctr.of (plainFor_of_name pn_9) ?_
  intro p e s m below meth c s₁ hx hZ hby hml hown0 hnm hret hlk X0 e0
  have hown : s.vm.findClass "java/lang/Integer" = some m.cls := hown0
  have N0 := Fr.nil n0
  refine Go.st (fun t k => castTop (ef m) k) ?_
  show Go p e below _ (s₁.setTop (mkF m 0 #[.val (.ref a1), .val (.int q2)] []))
  refine Go.st (fun _ => XS.aloadN X0.here hx rfl (hb hby d9_0) rfl rfl) ?_
  show Go p e below _ (s₁.setTop (mkF m 1 #[.val (.ref a1), .val (.int q2)] [(.ref a1)]))
  refine goInit X0 hx hZ (y := (⟨"java/lang/Number", "<init>", "()V"⟩ : MethodName)) rfl hown (hw _ (List.mem_of_getElem? (i := 70) rfl)) (hw _ (List.mem_of_getElem? (i := 71) rfl)) (hw _ (List.mem_of_getElem? (i := 74) rfl)) (hw _ (List.mem_of_getElem? (i := 75) rfl)) (by decide) (a := a1) (argsL := []) (rest := []) e0 (rmNum l Z a0 hw [] a1 h0 n0 O0) 0 (by decide) (by decide) (by decide) (by decide) (mkF m 1 #[.val (.ref a1), .val (.int q2)] [(.ref a1)]) rfl (by rw [hml]; rfl) (lenOf pd_0 rfl) rfl (hb hby d9_1) (Nat.le_of_eq rfl) ?_
  intro v1 T1 L1 X1 hQ1
  obtain ⟨rfl, M1, e1⟩ := hQ1
  have N1 := Fr.app N0 M1
  show Go p e below _ (T1.setTop (mkF m 4 #[.val (.ref a1), .val (.int q2)] []))
  refine Go.st (fun _ => XS.aloadN X1.here hx rfl (hb hby d9_4) rfl rfl) ?_
  show Go p e below _ (T1.setTop (mkF m 5 #[.val (.ref a1), .val (.int q2)] [(.ref a1)]))
  refine Go.st (fun _ => XS.iloadN X1.here hx rfl (hb hby d9_5) rfl) ?_
  show Go p e below _ (T1.setTop (mkF m 6 #[.val (.ref a1), .val (.int q2)] [(.int q2), (.ref a1)]))
  obtain ⟨T2, h2, X2, e2, W2, st2⟩ := putF X1 hx hZ hown (host := "") (Or.inl (hw _ (List.mem_of_getElem? (i := 77) rfl))) Via.refl e1 F1 A1 (Or.inr ⟨(hw _ (List.mem_of_getElem? (i := 78) rfl)), rfl, hnm⟩) (hw _ (List.mem_of_getElem? (i := 65) rfl)) (ty := .int) (by decide) rfl rfl (g := (mkF m 6 #[.val (.ref a1), .val (.int q2)] [(.int q2), (.ref a1)])) rfl rfl (hb hby d9_6)
  refine Go.st st2 ?_
  have O3 : Old Z n0 h2 := O0.wr W2 g1
  have E_4 : Exa Z h2 a1 "java/lang/Integer" := A1.wr W2
  have K5 : Keep h0 h2 [a1] := (Keep.refl h0 [a1]).wr W2 (Or.inl (List.mem_of_getElem? (i := 0) rfl))
  have F6 : Fld Z h2 a1 "java/lang/Integer" "value" "I" (.int q2) := F1.same W2
  have N2 := Fr.snoc X2 N1 g1
  show Go p e below _ (T2.setTop (mkF m 9 #[.val (.ref a1), .val (.int q2)] []))
  exact goRetV X2 hx hlk hret e2 (hb hby d9_9) (by decide) (by decide) ⟨rfl, N2, K5, F6⟩
theorem d3_0 : decode jdk_33_method_22_code 0 = .ok (.iload_n 0, 1) := by decide +kernel
theorem d3_1 : decode jdk_33_method_22_code 1 = .ok (.bipush (-128), 2) := by decide +kernel
theorem d3_3 : decode jdk_33_method_22_code 3 = .ok (.if_icmp .lt 20, 3) := by decide +kernel
theorem d3_6 : decode jdk_33_method_22_code 6 = .ok (.iload_n 0, 1) := by decide +kernel
theorem d3_7 : decode jdk_33_method_22_code 7 = .ok (.getstatic 191, 3) := by decide +kernel
theorem d3_10 : decode jdk_33_method_22_code 10 = .ok (.if_icmp .gt 13, 3) := by decide +kernel
theorem d3_13 : decode jdk_33_method_22_code 13 = .ok (.getstatic 195, 3) := by decide +kernel
theorem d3_16 : decode jdk_33_method_22_code 16 = .ok (.iload_n 0, 1) := by decide +kernel
theorem d3_17 : decode jdk_33_method_22_code 17 = .ok (.sipush 128, 3) := by decide +kernel
theorem d3_20 : decode jdk_33_method_22_code 20 = .ok (.iadd, 1) := by decide +kernel
theorem d3_21 : decode jdk_33_method_22_code 21 = .ok (.aaload, 1) := by decide +kernel
theorem d3_22 : decode jdk_33_method_22_code 22 = .ok (.areturn, 1) := by decide +kernel
theorem d3_23 : decode jdk_33_method_22_code 23 = .ok (.new 1, 3) := by decide +kernel
theorem d3_26 : decode jdk_33_method_22_code 26 = .ok (.dup, 1) := by decide +kernel
theorem d3_27 : decode jdk_33_method_22_code 27 = .ok (.iload_n 0, 1) := by decide +kernel
theorem d3_28 : decode jdk_33_method_22_code 28 = .ok (.invokespecial 199, 3) := by decide +kernel
theorem d3_31 : decode jdk_33_method_22_code 31 = .ok (.areturn, 1) := by decide +kernel
theorem pn_3 : plainName "java/lang/Integer" = true := by first | (simp [plainName, overriddenIn]; done) | decide +kernel
set_option maxRecDepth 65536 in
set_option maxHeartbeats 40000000 in
theorem rmBox (l : Launch) (Z : State) (a0 : Array Value) (hw : ∀ d ∈ tables_1, d.before a0 Z = true) (ws : List Jvm.Cond) (q1 : Int32) (wc : Addr) (cl : Cell) (h0 : Heap) (n0 : Nat) (O0 : Old Z n0 h0) (S_cache : Sta Z Z.heap "java/lang/Integer$IntegerCache" "cache" "[Ljava/lang/Integer;" (.ref wc)) (S_high : Sta Z Z.heap "java/lang/Integer$IntegerCache" "high" "I" (.int (127 : Int32))) (BX : Bxs Z wc cl "java/lang/Integer" "I" 256 (fun j => (.int (j - 128)))) :
    Ctr l (⟨"java/lang/Integer", "valueOf", "(I)Ljava/lang/Integer;"⟩ : MethodName) jdk_33_method_22_code 1 (some (.object "java/lang/Integer")) ws ({ frames := 3, cells := 1, slots := 1, locals := 39 } : Room) #[(.int q1)] Z h0 (fun v h L => (∃ r, v = some (.ref r) ∧ Exa Z h r "java/lang/Integer" ∧ Fld Z h r "java/lang/Integer" "value" "I" (.int q1)) ∧ Fr n0 L ∧ Keep h0 h []) := by
  have ef : ∀ m : MethodId, entryFrame m #[(.int q1)] 1 = mkF m 0 #[.val (.int q1)] [] := fun m => by first | (simp [entryFrame, mkF, argsToLocals, Value.category]; done) | rfl
  refine Ctr.of (plainFor_of_name pn_3) ?_
  intro p e s m below meth c s₁ hx hZ hby hml hown0 hnm hret hlk X0 e0
  have hown : s.vm.findClass "java/lang/Integer" = some m.cls := hown0
  have N0 := Fr.nil n0
  refine Go.st (fun t k => castTop (ef m) k) ?_
  show Go p e below _ (s₁.setTop (mkF m 0 #[.val (.int q1)] []))
  refine Go.st (fun _ => XS.iloadN X0.here hx rfl (hb hby d3_0) rfl) ?_
  show Go p e below _ (s₁.setTop (mkF m 1 #[.val (.int q1)] [(.int q1)]))
  refine Go.st (fun _ => XS.bipush X0.here hx rfl (hb hby d3_1)) ?_
  show Go p e below _ (s₁.setTop (mkF m 3 #[.val (.int q1)] [(.int (-128 : Int32)), (.int q1)]))
  by_cases hc1 : q1 < (-128 : Int32)
  · refine Go.st (fun _ => XS.icmpYes X0.here hx rfl (pc0 := 3) (pc' := 23) rfl (hb hby d3_3) rfl (tlt hc1).1 (by decide) (by decide)) ?_
    show Go p e below _ (s₁.setTop (mkF m 23 #[.val (.int q1)] []))
    obtain ⟨T2, h2, X2, e2, E2, A2, D2, U2, st2⟩ := newO X0 hx hZ hown (hw _ (List.mem_of_getElem? (i := 64) rfl)) (hw _ (List.mem_of_getElem? (i := 65) rfl)) (hw _ (List.mem_of_getElem? (i := 11) rfl)) e0 (g := (mkF m 23 #[.val (.int q1)] [])) rfl (hb hby d3_23) (by decide) (by decide)
    obtain ⟨b2, g2⟩ : ∃ z, z = h0.size := ⟨_, rfl⟩
    rw [← g2] at A2 D2 U2 st2
    refine Go.st st2 ?_
    have gn2 : n0 ≤ b2 := oldGe O0 g2
    have sz2 : h0.size ≤ b2 := Nat.le_trans (Keep.refl h0 []).1 (Nat.le_of_eq g2.symm)
    have O3 : Old Z n0 h2 := O0.ext E2
    have K4 : Keep h0 h2 [] := (Keep.refl h0 []).ext E2
    have F5 : Fld Z h2 b2 "java/lang/Integer" "value" "I" (.int (0 : Int32)) := D2 (Or.inr (hw _ (List.mem_of_getElem? (i := 78) rfl))) (ty := .int) (by decide)
    show Go p e below _ (T2.setTop (mkF m 26 #[.val (.int q1)] [(.ref b2)]))
    refine Go.st (fun _ => XS.dup X2.here hx rfl (hb hby d3_26) rfl rfl) ?_
    show Go p e below _ (T2.setTop (mkF m 27 #[.val (.int q1)] [(.ref b2), (.ref b2)]))
    refine Go.st (fun _ => XS.iloadN X2.here hx rfl (hb hby d3_27) rfl) ?_
    show Go p e below _ (T2.setTop (mkF m 28 #[.val (.int q1)] [(.int q1), (.ref b2), (.ref b2)]))
    refine goInit X2 hx hZ (y := (⟨"java/lang/Integer", "<init>", "(I)V"⟩ : MethodName)) rfl hown (hw _ (List.mem_of_getElem? (i := 66) rfl)) (hw _ (List.mem_of_getElem? (i := 67) rfl)) (hw _ (List.mem_of_getElem? (i := 11) rfl)) (hw _ (List.mem_of_getElem? (i := 69) rfl)) (by decide) (a := b2) (argsL := [(.int q1)]) (rest := [(.ref b2)]) e2 (rmBoxInit l Z a0 hw [] b2 q1 h2 n0 O3 A2 F5 gn2) 1 (by decide) (by decide) (by decide) (by decide) (mkF m 28 #[.val (.int q1)] [(.int q1), (.ref b2), (.ref b2)]) rfl (by rw [hml]; rfl) (lenOf pd_1 rfl) rfl (hb hby d3_28) (Nat.le_of_eq rfl) ?_
    intro v6 T6 L6 X6 hQ6
    obtain ⟨rfl, M6, K6, G6⟩ := hQ6
    have N6 := Fr.app N0 M6
    have O7 : Old Z n0 T6.heap := O3.keep K6 (allS gn2 all0)
    have K8 : Keep h0 T6.heap [] := K4.trans K6 (allS (Or.inr sz2) all0)
    have E_9 : Exa Z T6.heap b2 "java/lang/Integer" := A2.keep K6
    show Go p e below _ (T6.setTop (mkF m 31 #[.val (.int q1)] [(.ref b2)]))
    exact goRetA X6 hx hlk hret rfl rfl rfl rfl (hb hby d3_31) (by decide) (by decide) ⟨⟨b2, rfl, E_9, G6⟩, N6, K8⟩
  · refine Go.st (fun _ => XS.icmpNo X0.here hx rfl (hb hby d3_3) rfl (flt hc1).1) ?_
    show Go p e below _ (s₁.setTop (mkF m 6 #[.val (.int q1)] []))
    refine Go.st (fun _ => XS.iloadN X0.here hx rfl (hb hby d3_6) rfl) ?_
    show Go p e below _ (s₁.setTop (mkF m 7 #[.val (.int q1)] [(.int q1)]))
    obtain ⟨T10, X10, e10, st10⟩ := getS2 X0 hx hZ hown (host := "") (Or.inl (hw _ (List.mem_of_getElem? (i := 13) rfl))) Via.refl e0 (oldSta O0 S_high) (g := (mkF m 7 #[.val (.int q1)] [(.int q1)])) rfl (hb hby d3_7)
    refine Go.st st10 ?_
    show Go p e below _ (T10.setTop (mkF m 10 #[.val (.int q1)] [(.int (127 : Int32)), (.int q1)]))
    by_cases hc11 : (127 : Int32) < q1
    · refine Go.st (fun _ => XS.icmpYes X10.here hx rfl (pc0 := 10) (pc' := 23) rfl (hb hby d3_10) rfl (tlt hc11).2.2.1 (by decide) (by decide)) ?_
      show Go p e below _ (T10.setTop (mkF m 23 #[.val (.int q1)] []))
      obtain ⟨T12, h12, X12, e12, E12, A12, D12, U12, st12⟩ := newO X10 hx hZ hown (hw _ (List.mem_of_getElem? (i := 64) rfl)) (hw _ (List.mem_of_getElem? (i := 65) rfl)) (hw _ (List.mem_of_getElem? (i := 11) rfl)) e10 (g := (mkF m 23 #[.val (.int q1)] [])) rfl (hb hby d3_23) (by decide) (by decide)
      obtain ⟨b12, g12⟩ : ∃ z, z = h0.size := ⟨_, rfl⟩
      rw [← g12] at A12 D12 U12 st12
      refine Go.st st12 ?_
      have gn12 : n0 ≤ b12 := oldGe O0 g12
      have sz12 : h0.size ≤ b12 := Nat.le_trans (Keep.refl h0 []).1 (Nat.le_of_eq g12.symm)
      have O13 : Old Z n0 h12 := O0.ext E12
      have K14 : Keep h0 h12 [] := (Keep.refl h0 []).ext E12
      have F15 : Fld Z h12 b12 "java/lang/Integer" "value" "I" (.int (0 : Int32)) := D12 (Or.inr (hw _ (List.mem_of_getElem? (i := 78) rfl))) (ty := .int) (by decide)
      show Go p e below _ (T12.setTop (mkF m 26 #[.val (.int q1)] [(.ref b12)]))
      refine Go.st (fun _ => XS.dup X12.here hx rfl (hb hby d3_26) rfl rfl) ?_
      show Go p e below _ (T12.setTop (mkF m 27 #[.val (.int q1)] [(.ref b12), (.ref b12)]))
      refine Go.st (fun _ => XS.iloadN X12.here hx rfl (hb hby d3_27) rfl) ?_
      show Go p e below _ (T12.setTop (mkF m 28 #[.val (.int q1)] [(.int q1), (.ref b12), (.ref b12)]))
      refine goInit X12 hx hZ (y := (⟨"java/lang/Integer", "<init>", "(I)V"⟩ : MethodName)) rfl hown (hw _ (List.mem_of_getElem? (i := 66) rfl)) (hw _ (List.mem_of_getElem? (i := 67) rfl)) (hw _ (List.mem_of_getElem? (i := 11) rfl)) (hw _ (List.mem_of_getElem? (i := 69) rfl)) (by decide) (a := b12) (argsL := [(.int q1)]) (rest := [(.ref b12)]) e12 (rmBoxInit l Z a0 hw [] b12 q1 h12 n0 O13 A12 F15 gn12) 1 (by decide) (by decide) (by decide) (by decide) (mkF m 28 #[.val (.int q1)] [(.int q1), (.ref b12), (.ref b12)]) rfl (by rw [hml]; rfl) (lenOf pd_1 rfl) rfl (hb hby d3_28) (Nat.le_of_eq rfl) ?_
      intro v16 T16 L16 X16 hQ16
      obtain ⟨rfl, M16, K16, G16⟩ := hQ16
      have N16 := Fr.app N0 M16
      have O17 : Old Z n0 T16.heap := O13.keep K16 (allS gn12 all0)
      have K18 : Keep h0 T16.heap [] := K14.trans K16 (allS (Or.inr sz12) all0)
      have E_19 : Exa Z T16.heap b12 "java/lang/Integer" := A12.keep K16
      show Go p e below _ (T16.setTop (mkF m 31 #[.val (.int q1)] [(.ref b12)]))
      exact goRetA X16 hx hlk hret rfl rfl rfl rfl (hb hby d3_31) (by decide) (by decide) ⟨⟨b12, rfl, E_19, G16⟩, N16, K18⟩
    · refine Go.st (fun _ => XS.icmpNo X10.here hx rfl (hb hby d3_10) rfl (flt hc11).2.2.1) ?_
      show Go p e below _ (T10.setTop (mkF m 13 #[.val (.int q1)] []))
      obtain ⟨T20, X20, e20, st20⟩ := getS2 X10 hx hZ hown (host := "") (Or.inl (hw _ (List.mem_of_getElem? (i := 15) rfl))) Via.refl e10 (oldSta O0 S_cache) (g := (mkF m 13 #[.val (.int q1)] [])) rfl (hb hby d3_13)
      refine Go.st st20 ?_
      show Go p e below _ (T20.setTop (mkF m 16 #[.val (.int q1)] [(.ref wc)]))
      refine Go.st (fun _ => XS.iloadN X20.here hx rfl (hb hby d3_16) rfl) ?_
      show Go p e below _ (T20.setTop (mkF m 17 #[.val (.int q1)] [(.int q1), (.ref wc)]))
      refine Go.st (fun _ => XS.sipush X20.here hx rfl (hb hby d3_17)) ?_
      show Go p e below _ (T20.setTop (mkF m 20 #[.val (.int q1)] [(.int (128 : Int32)), (.int q1), (.ref wc)]))
      refine Go.st (fun _ => XS.iadd X20.here hx rfl (hb hby d3_20) rfl) ?_
      show Go p e below _ (T20.setTop (mkF m 21 #[.val (.int q1)] [(.int (q1 + (128 : Int32))), (.ref wc)]))
      obtain ⟨hin, r, hat, Er, Fr0⟩ := ownBxI BX hc1 hc11
      have Er1 := oldExa O0 Er
      have Fr1 := oldFld O0 Fr0
      refine Go.st (fun _ => X20.aaload hx (j := (q1 + (128 : Int32))) (v := .ref r) (by rw [e20]; exact (BX.1.ext O0.2).1) (State.isArrayOf_alike hZ.alike BX.1.2.1) rfl BX.1.2.2 hin hat (g := (mkF m 21 #[.val (.int q1)] [(.int (q1 + (128 : Int32))), (.ref wc)])) rfl rfl (hb hby d3_21) _) ?_
      show Go p e below _ (T20.setTop (mkF m 22 #[.val (.int q1)] [(.ref r)]))
      exact goRetA X20 hx hlk hret rfl rfl rfl e20 (hb hby d3_22) (by decide) (by decide) ⟨⟨r, rfl, Er1, Fr1⟩, N0, (Keep.refl h0 [])⟩
theorem d7_0 : decode prog_3_method_5_code 0 = .ok (.aload_n 0, 1) := by decide +kernel
theorem d7_1 : decode prog_3_method_5_code 1 = .ok (.getfield 7, 3) := by decide +kernel
theorem d7_4 : decode prog_3_method_5_code 4 = .ok (.ifnonnull 10, 3) := by decide +kernel
theorem d7_7 : decode prog_3_method_5_code 7 = .ok (.aload_n 0, 1) := by decide +kernel
theorem d7_8 : decode prog_3_method_5_code 8 = .ok (.getfield 24, 3) := by decide +kernel
theorem d7_11 : decode prog_3_method_5_code 11 = .ok (.ifCond .eq 7, 3) := by decide +kernel
theorem d7_14 : decode prog_3_method_5_code 14 = .ok (.iconst 1, 1) := by decide +kernel
theorem d7_15 : decode prog_3_method_5_code 15 = .ok (.goto 4, 3) := by decide +kernel
theorem d7_18 : decode prog_3_method_5_code 18 = .ok (.iconst 0, 1) := by decide +kernel
theorem d7_19 : decode prog_3_method_5_code 19 = .ok (.ireturn, 1) := by decide +kernel
theorem pn_7 : plainName "com/example/sidelane/sidelane/Cancellation" = true := by first | (simp [plainName, overriddenIn]; done) | decide +kernel
theorem d6_0 : decode prog_3_method_4_code 0 = .ok (.aload_n 0, 1) := by decide +kernel
theorem d6_1 : decode prog_3_method_4_code 1 = .ok (.invokevirtual 68, 3) := by decide +kernel
theorem d6_4 : decode prog_3_method_4_code 4 = .ok (.ifCond .eq 5, 3) := by decide +kernel
theorem d6_7 : decode prog_3_method_4_code 7 = .ok (.iconst 0, 1) := by decide +kernel
theorem d6_8 : decode prog_3_method_4_code 8 = .ok (.ireturn, 1) := by decide +kernel
theorem d6_9 : decode prog_3_method_4_code 9 = .ok (.aload_n 0, 1) := by decide +kernel
theorem d6_10 : decode prog_3_method_4_code 10 = .ok (.aload_n 1, 1) := by decide +kernel
theorem d6_11 : decode prog_3_method_4_code 11 = .ok (.putfield 7, 3) := by decide +kernel
theorem d6_14 : decode prog_3_method_4_code 14 = .ok (.iconst 1, 1) := by decide +kernel
theorem d6_15 : decode prog_3_method_4_code 15 = .ok (.ireturn, 1) := by decide +kernel
theorem pn_6 : plainName "com/example/sidelane/sidelane/Cancellation" = true := by first | (simp [plainName, overriddenIn]; done) | decide +kernel
theorem d8_0 : decode prog_3_method_2_code 0 = .ok (.aload_n 0, 1) := by decide +kernel
theorem d8_1 : decode prog_3_method_2_code 1 = .ok (.getfield 7, 3) := by decide +kernel
theorem d8_4 : decode prog_3_method_2_code 4 = .ok (.getstatic 13, 3) := by decide +kernel
theorem d8_7 : decode prog_3_method_2_code 7 = .ok (.if_acmp .ne 7, 3) := by decide +kernel
theorem d8_10 : decode prog_3_method_2_code 10 = .ok (.getstatic 18, 3) := by decide +kernel
theorem d8_13 : decode prog_3_method_2_code 13 = .ok (.areturn, 1) := by decide +kernel
theorem d8_14 : decode prog_3_method_2_code 14 = .ok (.aload_n 0, 1) := by decide +kernel
theorem d8_15 : decode prog_3_method_2_code 15 = .ok (.getfield 24, 3) := by decide +kernel
theorem d8_18 : decode prog_3_method_2_code 18 = .ok (.ifCond .eq 26, 3) := by decide +kernel
theorem d8_21 : decode prog_3_method_2_code 21 = .ok (.aload_n 2, 1) := by decide +kernel
theorem d8_22 : decode prog_3_method_2_code 22 = .ok (.ifnull 18, 3) := by decide +kernel
theorem d8_25 : decode prog_3_method_2_code 25 = .ok (.aload_n 2, 1) := by decide +kernel
theorem d8_26 : decode prog_3_method_2_code 26 = .ok (.aload_n 0, 1) := by decide +kernel
theorem d8_27 : decode prog_3_method_2_code 27 = .ok (.getfield 28, 3) := by decide +kernel
theorem d8_30 : decode prog_3_method_2_code 30 = .ok (.if_acmp .ne 10, 3) := by decide +kernel
theorem d8_33 : decode prog_3_method_2_code 33 = .ok (.aload_n 0, 1) := by decide +kernel
theorem d8_34 : decode prog_3_method_2_code 34 = .ok (.getfield 32, 3) := by decide +kernel
theorem d8_37 : decode prog_3_method_2_code 37 = .ok (.goto 6, 3) := by decide +kernel
theorem d8_40 : decode prog_3_method_2_code 40 = .ok (.getstatic 35, 3) := by decide +kernel
theorem d8_43 : decode prog_3_method_2_code 43 = .ok (.areturn, 1) := by decide +kernel
theorem d8_44 : decode prog_3_method_2_code 44 = .ok (.aload_n 0, 1) := by decide +kernel
theorem d8_45 : decode prog_3_method_2_code 45 = .ok (.getfield 38, 3) := by decide +kernel
theorem d8_48 : decode prog_3_method_2_code 48 = .ok (.ifCond .eq 7, 3) := by decide +kernel
theorem d8_51 : decode prog_3_method_2_code 51 = .ok (.getstatic 35, 3) := by decide +kernel
theorem d8_54 : decode prog_3_method_2_code 54 = .ok (.areturn, 1) := by decide +kernel
theorem d8_55 : decode prog_3_method_2_code 55 = .ok (.aload_n 0, 1) := by decide +kernel
theorem d8_56 : decode prog_3_method_2_code 56 = .ok (.getfield 7, 3) := by decide +kernel
theorem d8_59 : decode prog_3_method_2_code 59 = .ok (.getstatic 41, 3) := by decide +kernel
theorem d8_62 : decode prog_3_method_2_code 62 = .ok (.if_acmp .ne 7, 3) := by decide +kernel
theorem d8_65 : decode prog_3_method_2_code 65 = .ok (.iconst 1, 1) := by decide +kernel
theorem d8_66 : decode prog_3_method_2_code 66 = .ok (.goto 4, 3) := by decide +kernel
theorem d8_69 : decode prog_3_method_2_code 69 = .ok (.iconst 0, 1) := by decide +kernel
theorem d8_70 : decode prog_3_method_2_code 70 = .ok (.istore_n 3, 1) := by decide +kernel
theorem d8_71 : decode prog_3_method_2_code 71 = .ok (.iload_n 3, 1) := by decide +kernel
theorem d8_72 : decode prog_3_method_2_code 72 = .ok (.ifCond .eq 10, 3) := by decide +kernel
theorem d8_75 : decode prog_3_method_2_code 75 = .ok (.aload_n 0, 1) := by decide +kernel
theorem d8_76 : decode prog_3_method_2_code 76 = .ok (.getfield 44, 3) := by decide +kernel
theorem d8_79 : decode prog_3_method_2_code 79 = .ok (.ifCond .eq 7, 3) := by decide +kernel
theorem d8_82 : decode prog_3_method_2_code 82 = .ok (.iconst 1, 1) := by decide +kernel
theorem d8_83 : decode prog_3_method_2_code 83 = .ok (.goto 4, 3) := by decide +kernel
theorem d8_86 : decode prog_3_method_2_code 86 = .ok (.iconst 0, 1) := by decide +kernel
theorem d8_87 : decode prog_3_method_2_code 87 = .ok (.istore 4, 2) := by decide +kernel
theorem d8_89 : decode prog_3_method_2_code 89 = .ok (.iload 4, 2) := by decide +kernel
theorem d8_91 : decode prog_3_method_2_code 91 = .ok (.ifCond .eq 11, 3) := by decide +kernel
theorem d8_94 : decode prog_3_method_2_code 94 = .ok (.aload_n 2, 1) := by decide +kernel
theorem d8_95 : decode prog_3_method_2_code 95 = .ok (.ifnonnull 7, 3) := by decide +kernel
theorem d8_98 : decode prog_3_method_2_code 98 = .ok (.getstatic 47, 3) := by decide +kernel
theorem d8_101 : decode prog_3_method_2_code 101 = .ok (.areturn, 1) := by decide +kernel
theorem d8_102 : decode prog_3_method_2_code 102 = .ok (.aload_n 0, 1) := by decide +kernel
theorem d8_103 : decode prog_3_method_2_code 103 = .ok (.iconst 1, 1) := by decide +kernel
theorem d8_104 : decode prog_3_method_2_code 104 = .ok (.putfield 24, 3) := by decide +kernel
theorem d8_107 : decode prog_3_method_2_code 107 = .ok (.iload_n 1, 1) := by decide +kernel
theorem d8_108 : decode prog_3_method_2_code 108 = .ok (.ifCond .eq 17, 3) := by decide +kernel
theorem d8_111 : decode prog_3_method_2_code 111 = .ok (.aload_n 0, 1) := by decide +kernel
theorem d8_112 : decode prog_3_method_2_code 112 = .ok (.getfield 50, 3) := by decide +kernel
theorem d8_115 : decode prog_3_method_2_code 115 = .ok (.ifnull 10, 3) := by decide +kernel
theorem d8_118 : decode prog_3_method_2_code 118 = .ok (.aload_n 0, 1) := by decide +kernel
theorem d8_119 : decode prog_3_method_2_code 119 = .ok (.getfield 50, 3) := by decide +kernel
theorem d8_122 : decode prog_3_method_2_code 122 = .ok (.invokevirtual 54, 3) := by decide +kernel
theorem d8_125 : decode prog_3_method_2_code 125 = .ok (.iload_n 3, 1) := by decide +kernel
theorem d8_126 : decode prog_3_method_2_code 126 = .ok (.ifCond .ne 13, 3) := by decide +kernel
theorem d8_129 : decode prog_3_method_2_code 129 = .ok (.aload_n 0, 1) := by decide +kernel
theorem d8_130 : decode prog_3_method_2_code 130 = .ok (.getstatic 59, 3) := by decide +kernel
theorem d8_133 : decode prog_3_method_2_code 133 = .ok (.putfield 32, 3) := by decide +kernel
theorem d8_136 : decode prog_3_method_2_code 136 = .ok (.goto 27, 3) := by decide +kernel
theorem d8_139 : decode prog_3_method_2_code 139 = .ok (.aload_n 0, 1) := by decide +kernel
theorem d8_140 : decode prog_3_method_2_code 140 = .ok (.getfield 44, 3) := by decide +kernel
theorem d8_143 : decode prog_3_method_2_code 143 = .ok (.ifCond .eq 13, 3) := by decide +kernel
theorem d8_146 : decode prog_3_method_2_code 146 = .ok (.aload_n 0, 1) := by decide +kernel
theorem d8_147 : decode prog_3_method_2_code 147 = .ok (.getstatic 62, 3) := by decide +kernel
theorem d8_150 : decode prog_3_method_2_code 150 = .ok (.putfield 32, 3) := by decide +kernel
theorem d8_153 : decode prog_3_method_2_code 153 = .ok (.goto 10, 3) := by decide +kernel
theorem d8_156 : decode prog_3_method_2_code 156 = .ok (.aload_n 0, 1) := by decide +kernel
theorem d8_157 : decode prog_3_method_2_code 157 = .ok (.getstatic 65, 3) := by decide +kernel
theorem d8_160 : decode prog_3_method_2_code 160 = .ok (.putfield 32, 3) := by decide +kernel
theorem d8_163 : decode prog_3_method_2_code 163 = .ok (.aload_n 0, 1) := by decide +kernel
theorem d8_164 : decode prog_3_method_2_code 164 = .ok (.aload_n 2, 1) := by decide +kernel
theorem d8_165 : decode prog_3_method_2_code 165 = .ok (.putfield 28, 3) := by decide +kernel
theorem d8_168 : decode prog_3_method_2_code 168 = .ok (.aload_n 0, 1) := by decide +kernel
theorem d8_169 : decode prog_3_method_2_code 169 = .ok (.getfield 32, 3) := by decide +kernel
theorem d8_172 : decode prog_3_method_2_code 172 = .ok (.areturn, 1) := by decide +kernel
theorem pn_8 : plainName "com/example/sidelane/sidelane/Cancellation" = true := by first | (simp [plainName, overriddenIn]; done) | decide +kernel
theorem d11_0 : decode prog_3_method_11_code 0 = .ok (.aload_n 0, 1) := by decide +kernel
theorem d11_1 : decode prog_3_method_11_code 1 = .ok (.aload_n 0, 1) := by decide +kernel
theorem d11_2 : decode prog_3_method_11_code 2 = .ok (.getfield 24, 3) := by decide +kernel
theorem d11_5 : decode prog_3_method_11_code 5 = .ok (.ifCond .ne 7, 3) := by decide +kernel
theorem d11_8 : decode prog_3_method_11_code 8 = .ok (.iconst 1, 1) := by decide +kernel
theorem d11_9 : decode prog_3_method_11_code 9 = .ok (.goto 4, 3) := by decide +kernel
theorem d11_12 : decode prog_3_method_11_code 12 = .ok (.iconst 0, 1) := by decide +kernel
theorem d11_13 : decode prog_3_method_11_code 13 = .ok (.putfield 38, 3) := by decide +kernel
theorem d11_16 : decode prog_3_method_11_code 16 = .ok (.aload_n 0, 1) := by decide +kernel
theorem d11_17 : decode prog_3_method_11_code 17 = .ok (.getfield 38, 3) := by decide +kernel
theorem d11_20 : decode prog_3_method_11_code 20 = .ok (.ireturn, 1) := by decide +kernel
theorem pn_11 : plainName "com/example/sidelane/sidelane/Cancellation" = true := by first | (simp [plainName, overriddenIn]; done) | decide +kernel
theorem d4_0 : decode prog_3_method_6_code 0 = .ok (.aload_n 0, 1) := by decide +kernel
theorem d4_1 : decode prog_3_method_6_code 1 = .ok (.getfield 7, 3) := by decide +kernel
theorem d4_4 : decode prog_3_method_6_code 4 = .ok (.getstatic 13, 3) := by decide +kernel
theorem d4_7 : decode prog_3_method_6_code 7 = .ok (.if_acmp .ne 7, 3) := by decide +kernel
theorem d4_10 : decode prog_3_method_6_code 10 = .ok (.iconst 1, 1) := by decide +kernel
theorem d4_11 : decode prog_3_method_6_code 11 = .ok (.goto 4, 3) := by decide +kernel
theorem d4_14 : decode prog_3_method_6_code 14 = .ok (.iconst 0, 1) := by decide +kernel
theorem d4_15 : decode prog_3_method_6_code 15 = .ok (.ireturn, 1) := by decide +kernel
theorem pn_4 : plainName "com/example/sidelane/sidelane/Cancellation" = true := by first | (simp [plainName, overriddenIn]; done) | decide +kernel
set_option maxRecDepth 65536 in
set_option maxHeartbeats 40000000 in
theorem ic00 (l : Launch) (Z : State) (a0 : Array Value) (hw : ∀ d ∈ tables_1, d.before a0 Z = true) (ws : List Jvm.Cond) (a1 : Addr) (h0 : Heap) (n0 : Nat) (O0 : Old Z n0 h0) (F_claimedBy : Fld Z h0 a1 "com/example/sidelane/sidelane/Cancellation" "claimedBy" "Lcom/example/sidelane/sidelane/Cancellation$Claimant;" .null) (F_cancelled : Fld Z h0 a1 "com/example/sidelane/sidelane/Cancellation" "cancelled" "Z" (.int (0 : Int32))) :
    Ctr l (⟨"com/example/sidelane/sidelane/Cancellation", "isClaimed", "()Z"⟩ : MethodName) prog_3_method_5_code 1 (some .boolean) ws ({ frames := 0, cells := 0, slots := 0, locals := 0 } : Room) #[(.ref a1)] Z h0 (fun v h L => v = some (.int 0) ∧ Fr n0 L ∧ h = h0) := by
  have ef : ∀ m : MethodId, entryFrame m #[(.ref a1)] 1 = mkF m 0 #[.val (.ref a1)] [] := fun m => by first | (simp [entryFrame, mkF, argsToLocals, Value.category]; done) | rfl
  refine Ctr.of (plainFor_of_name pn_7) ?_
  intro p e s m below meth c s₁ hx hZ hby hml hown0 hnm hret hlk X0 e0
  have hown : s.vm.findClass "com/example/sidelane/sidelane/Cancellation" = some m.cls := hown0
  have N0 := Fr.nil n0
  refine Go.st (fun t k => castTop (ef m) k) ?_
  show Go p e below _ (s₁.setTop (mkF m 0 #[.val (.ref a1)] []))
  refine Go.st (fun _ => XS.aloadN X0.here hx rfl (hb hby d7_0) rfl rfl) ?_
  show Go p e below _ (s₁.setTop (mkF m 1 #[.val (.ref a1)] [(.ref a1)]))
  obtain ⟨T1, X1, e1, st1⟩ := getF X0 hx hZ hown (host := "") (Or.inl (hw _ (List.mem_of_getElem? (i := 21) rfl))) Via.refl e0 F_claimedBy (g := (mkF m 1 #[.val (.ref a1)] [(.ref a1)])) rfl rfl (hb hby d7_1)
  refine Go.st st1 ?_
  show Go p e below _ (T1.setTop (mkF m 4 #[.val (.ref a1)] [.null]))
  refine Go.st (fun _ => XS.ifnonnullNo X1.here hx rfl (hb hby d7_4) rfl) ?_
  show Go p e below _ (T1.setTop (mkF m 7 #[.val (.ref a1)] []))
  refine Go.st (fun _ => XS.aloadN X1.here hx rfl (hb hby d7_7) rfl rfl) ?_
  show Go p e below _ (T1.setTop (mkF m 8 #[.val (.ref a1)] [(.ref a1)]))
  obtain ⟨T2, X2, e2, st2⟩ := getF X1 hx hZ hown (host := "") (Or.inl (hw _ (List.mem_of_getElem? (i := 41) rfl))) Via.refl e1 F_cancelled (g := (mkF m 8 #[.val (.ref a1)] [(.ref a1)])) rfl rfl (hb hby d7_8)
  refine Go.st st2 ?_
  show Go p e below _ (T2.setTop (mkF m 11 #[.val (.ref a1)] [(.int (0 : Int32))]))
  refine Go.st (fun _ => XS.ifYes X2.here hx rfl (pc0 := 11) (pc' := 18) rfl (hb hby d7_11) rfl ((if0 _ _).trans (teq (by decide : (0 : Int32) = (0 : Int32))).1) (by decide) (by decide)) ?_
  show Go p e below _ (T2.setTop (mkF m 18 #[.val (.ref a1)] []))
  refine Go.st (fun _ => XS.iconst X2.here hx rfl (hb hby d7_18)) ?_
  show Go p e below _ (T2.setTop (mkF m 19 #[.val (.ref a1)] [(.int (0 : Int32))]))
  exact goRetN X2 hx hlk hret (t := .boolean) (by simp) (w := (0 : Int32)) (by decide) e2 (hb hby d7_19) (by decide) (by decide) ⟨rfl, N0, rfl⟩
set_option maxRecDepth 65536 in
set_option maxHeartbeats 40000000 in
theorem ic01 (l : Launch) (Z : State) (a0 : Array Value) (hw : ∀ d ∈ tables_1, d.before a0 Z = true) (ws : List Jvm.Cond) (a1 : Addr) (h0 : Heap) (n0 : Nat) (O0 : Old Z n0 h0) (F_claimedBy : Fld Z h0 a1 "com/example/sidelane/sidelane/Cancellation" "claimedBy" "Lcom/example/sidelane/sidelane/Cancellation$Claimant;" .null) (F_cancelled : Fld Z h0 a1 "com/example/sidelane/sidelane/Cancellation" "cancelled" "Z" (.int (1 : Int32))) :
    Ctr l (⟨"com/example/sidelane/sidelane/Cancellation", "isClaimed", "()Z"⟩ : MethodName) prog_3_method_5_code 1 (some .boolean) ws ({ frames := 0, cells := 0, slots := 0, locals := 0 } : Room) #[(.ref a1)] Z h0 (fun v h L => v = some (.int 1) ∧ Fr n0 L ∧ h = h0) := by
  have ef : ∀ m : MethodId, entryFrame m #[(.ref a1)] 1 = mkF m 0 #[.val (.ref a1)] [] := fun m => by first | (simp [entryFrame, mkF, argsToLocals, Value.category]; done) | rfl
  refine Ctr.of (plainFor_of_name pn_7) ?_
  intro p e s m below meth c s₁ hx hZ hby hml hown0 hnm hret hlk X0 e0
  have hown : s.vm.findClass "com/example/sidelane/sidelane/Cancellation" = some m.cls := hown0
  have N0 := Fr.nil n0
  refine Go.st (fun t k => castTop (ef m) k) ?_
  show Go p e below _ (s₁.setTop (mkF m 0 #[.val (.ref a1)] []))
  refine Go.st (fun _ => XS.aloadN X0.here hx rfl (hb hby d7_0) rfl rfl) ?_
  show Go p e below _ (s₁.setTop (mkF m 1 #[.val (.ref a1)] [(.ref a1)]))
  obtain ⟨T1, X1, e1, st1⟩ := getF X0 hx hZ hown (host := "") (Or.inl (hw _ (List.mem_of_getElem? (i := 21) rfl))) Via.refl e0 F_claimedBy (g := (mkF m 1 #[.val (.ref a1)] [(.ref a1)])) rfl rfl (hb hby d7_1)
  refine Go.st st1 ?_
  show Go p e below _ (T1.setTop (mkF m 4 #[.val (.ref a1)] [.null]))
  refine Go.st (fun _ => XS.ifnonnullNo X1.here hx rfl (hb hby d7_4) rfl) ?_
  show Go p e below _ (T1.setTop (mkF m 7 #[.val (.ref a1)] []))
  refine Go.st (fun _ => XS.aloadN X1.here hx rfl (hb hby d7_7) rfl rfl) ?_
  show Go p e below _ (T1.setTop (mkF m 8 #[.val (.ref a1)] [(.ref a1)]))
  obtain ⟨T2, X2, e2, st2⟩ := getF X1 hx hZ hown (host := "") (Or.inl (hw _ (List.mem_of_getElem? (i := 41) rfl))) Via.refl e1 F_cancelled (g := (mkF m 8 #[.val (.ref a1)] [(.ref a1)])) rfl rfl (hb hby d7_8)
  refine Go.st st2 ?_
  show Go p e below _ (T2.setTop (mkF m 11 #[.val (.ref a1)] [(.int (1 : Int32))]))
  refine Go.st (fun _ => XS.ifNo X2.here hx rfl (hb hby d7_11) rfl ((if0 _ _).trans (feq (by decide : ¬ ((1 : Int32) = (0 : Int32)))).1)) ?_
  show Go p e below _ (T2.setTop (mkF m 14 #[.val (.ref a1)] []))
  refine Go.st (fun _ => XS.iconst X2.here hx rfl (hb hby d7_14)) ?_
  show Go p e below _ (T2.setTop (mkF m 15 #[.val (.ref a1)] [(.int (1 : Int32))]))
  refine Go.st (fun _ => XS.goto X2.here hx rfl (pc0 := 15) (pc' := 19) rfl (hb hby d7_15) (by decide) (by decide)) ?_
  show Go p e below _ (T2.setTop (mkF m 19 #[.val (.ref a1)] [(.int (1 : Int32))]))
  exact goRetN X2 hx hlk hret (t := .boolean) (by simp) (w := (1 : Int32)) (by decide) e2 (hb hby d7_19) (by decide) (by decide) ⟨rfl, N0, rfl⟩
set_option maxRecDepth 65536 in
set_option maxHeartbeats 40000000 in
theorem icR0 (l : Launch) (Z : State) (a0 : Array Value) (hw : ∀ d ∈ tables_1, d.before a0 Z = true) (ws : List Jvm.Cond) (a1 a5 : Addr) (h0 : Heap) (n0 : Nat) (O0 : Old Z n0 h0) (F_claimedBy : Fld Z h0 a1 "com/example/sidelane/sidelane/Cancellation" "claimedBy" "Lcom/example/sidelane/sidelane/Cancellation$Claimant;" (.ref a5)) (F_cancelled : Fld Z h0 a1 "com/example/sidelane/sidelane/Cancellation" "cancelled" "Z" (.int (0 : Int32))) :
    Ctr l (⟨"com/example/sidelane/sidelane/Cancellation", "isClaimed", "()Z"⟩ : MethodName) prog_3_method_5_code 1 (some .boolean) ws ({ frames := 0, cells := 0, slots := 0, locals := 0 } : Room) #[(.ref a1)] Z h0 (fun v h L => v = some (.int 1) ∧ Fr n0 L ∧ h = h0) := by
  have ef : ∀ m : MethodId, entryFrame m #[(.ref a1)] 1 = mkF m 0 #[.val (.ref a1)] [] := fun m => by first | (simp [entryFrame, mkF, argsToLocals, Value.category]; done) | rfl
  refine Ctr.of (plainFor_of_name pn_7) ?_
  intro p e s m below meth c s₁ hx hZ hby hml hown0 hnm hret hlk X0 e0
  have hown : s.vm.findClass "com/example/sidelane/sidelane/Cancellation" = some m.cls := hown0
  have N0 := Fr.nil n0
  refine Go.st (fun t k => castTop (ef m) k) ?_
  show Go p e below _ (s₁.setTop (mkF m 0 #[.val (.ref a1)] []))
  refine Go.st (fun _ => XS.aloadN X0.here hx rfl (hb hby d7_0) rfl rfl) ?_
  show Go p e below _ (s₁.setTop (mkF m 1 #[.val (.ref a1)] [(.ref a1)]))
  obtain ⟨T1, X1, e1, st1⟩ := getF X0 hx hZ hown (host := "") (Or.inl (hw _ (List.mem_of_getElem? (i := 21) rfl))) Via.refl e0 F_claimedBy (g := (mkF m 1 #[.val (.ref a1)] [(.ref a1)])) rfl rfl (hb hby d7_1)
  refine Go.st st1 ?_
  show Go p e below _ (T1.setTop (mkF m 4 #[.val (.ref a1)] [(.ref a5)]))
  refine Go.st (fun _ => XS.ifnonnullYes X1.here hx rfl (pc0 := 4) (pc' := 14) rfl (hb hby d7_4) rfl (by decide) (by decide)) ?_
  show Go p e below _ (T1.setTop (mkF m 14 #[.val (.ref a1)] []))
  refine Go.st (fun _ => XS.iconst X1.here hx rfl (hb hby d7_14)) ?_
  show Go p e below _ (T1.setTop (mkF m 15 #[.val (.ref a1)] [(.int (1 : Int32))]))
  refine Go.st (fun _ => XS.goto X1.here hx rfl (pc0 := 15) (pc' := 19) rfl (hb hby d7_15) (by decide) (by decide)) ?_
  show Go p e below _ (T1.setTop (mkF m 19 #[.val (.ref a1)] [(.int (1 : Int32))]))
  exact goRetN X1 hx hlk hret (t := .boolean) (by simp) (w := (1 : Int32)) (by decide) e1 (hb hby d7_19) (by decide) (by decide) ⟨rfl, N0, rfl⟩
set_option maxRecDepth 65536 in
set_option maxHeartbeats 40000000 in
theorem cm00 (l : Launch) (Z : State) (a0 : Array Value) (hw : ∀ d ∈ tables_1, d.before a0 Z = true) (a1 a2 : Addr) (en oc : Value) (eb : Int32) (h0 : Heap) (n0 : Nat) (O0 : Old Z n0 h0) (U0 : Unt h0 a1) (g_a1 : n0 ≤ a1) (A_a1 : Exa Z h0 a1 "com/example/sidelane/sidelane/Cancellation") (F_claimedBy : Fld Z h0 a1 "com/example/sidelane/sidelane/Cancellation" "claimedBy" "Lcom/example/sidelane/sidelane/Cancellation$Claimant;" .null) (F_cancelled : Fld Z h0 a1 "com/example/sidelane/sidelane/Cancellation" "cancelled" "Z" (.int (0 : Int32))) (F_endingBegun : Fld Z h0 a1 "com/example/sidelane/sidelane/Cancellation" "endingBegun" "Z" (.int eb)) (F_queued : Fld Z h0 a1 "com/example/sidelane/sidelane/Cancellation" "queued" "Z" (.int (0 : Int32))) (F_runner : Fld Z h0 a1 "com/example/sidelane/sidelane/Cancellation" "runner" "Ljava/lang/Thread;" .null) (F_cancelEnding : Fld Z h0 a1 "com/example/sidelane/sidelane/Cancellation" "cancelEnding" "Ljava/lang/Object;" en) (F_cancelOutcome : Fld Z h0 a1 "com/example/sidelane/sidelane/Cancellation" "cancelOutcome" "Lcom/example/sidelane/sidelane/Cancellation$Outcome;" oc) :
    CtrS l (⟨"com/example/sidelane/sidelane/Cancellation", "claim", "(Lcom/example/sidelane/sidelane/Cancellation$Claimant;)Z"⟩ : MethodName) prog_3_method_4_code 2 (some .boolean) ({ frames := 1, cells := 0, slots := 0, locals := 16 } : Room) #[(.ref a1), (.ref a2)] Z h0 (fun v h L => v = some (.int 1) ∧ Fr n0 L ∧ Keep h0 h [a1] ∧ own_ob Z h a1 (.ref a2) (0 : Int32) eb en oc) := by
  have ef : ∀ m : MethodId, entryFrameSync m #[(.ref a1), (.ref a2)] 2 a1 = mkL a1 m 0 #[.val (.ref a1), .val (.ref a2)] [] := fun m => by first | rfl | (simp [entryFrameSync, mkL, argsToLocals, Value.category]; done)
  refine CtrS.of (a := a1) (plainFor_of_name pn_6) rfl U0 ?_
  intro p e s0 s m below meth c s₁ cell hx hZ hby hml hown0 hnm hret hlk hs hcell hmon X0 M0 K0
  have hown : s.vm.findClass "com/example/sidelane/sidelane/Cancellation" = some m.cls := hown0
  have N0 := Fr.nil n0
  obtain ⟨h1, e0⟩ : ∃ z, s₁.heap = z := ⟨_, rfl⟩
  rw [e0] at M0 K0
  have O1 := O0.keep K0 (allS g_a1 all0)
  refine Go.st (fun t k => castTop (ef m) k) ?_
  have A_a1' : Exa Z h1 a1 "com/example/sidelane/sidelane/Cancellation" := A_a1.mon M0
  have F_claimedBy' : Fld Z h1 a1 "com/example/sidelane/sidelane/Cancellation" "claimedBy" "Lcom/example/sidelane/sidelane/Cancellation$Claimant;" .null := F_claimedBy.mon M0
  have F_cancelled' : Fld Z h1 a1 "com/example/sidelane/sidelane/Cancellation" "cancelled" "Z" (.int (0 : Int32)) := F_cancelled.mon M0
  have F_endingBegun' : Fld Z h1 a1 "com/example/sidelane/sidelane/Cancellation" "endingBegun" "Z" (.int eb) := F_endingBegun.mon M0
  have F_queued' : Fld Z h1 a1 "com/example/sidelane/sidelane/Cancellation" "queued" "Z" (.int (0 : Int32)) := F_queued.mon M0
  have F_runner' : Fld Z h1 a1 "com/example/sidelane/sidelane/Cancellation" "runner" "Ljava/lang/Thread;" .null := F_runner.mon M0
  have F_cancelEnding' : Fld Z h1 a1 "com/example/sidelane/sidelane/Cancellation" "cancelEnding" "Ljava/lang/Object;" en := F_cancelEnding.mon M0
  have F_cancelOutcome' : Fld Z h1 a1 "com/example/sidelane/sidelane/Cancellation" "cancelOutcome" "Lcom/example/sidelane/sidelane/Cancellation$Outcome;" oc := F_cancelOutcome.mon M0
  show Go p e below _ (s₁.setTop (mkL a1 m 0 #[.val (.ref a1), .val (.ref a2)] []))
  refine Go.st (fun _ => XS.aloadN X0.here hx rfl (hb hby d6_0) rfl rfl) ?_
  show Go p e below _ (s₁.setTop (mkL a1 m 1 #[.val (.ref a1), .val (.ref a2)] [(.ref a1)]))
  refine goVirt X0 hx hZ (y := (⟨"com/example/sidelane/sidelane/Cancellation", "isClaimed", "()Z"⟩ : MethodName)) (z := (⟨"com/example/sidelane/sidelane/Cancellation", "isClaimed", "()Z"⟩ : MethodName)) hown (hw _ (List.mem_of_getElem? (i := 36) rfl)) (hw _ (List.mem_of_getElem? (i := 37) rfl)) (notFace_of_selects (args := #[]) (mvT hZ (hw _ (List.mem_of_getElem? (i := 39) rfl)))) (hw _ (List.mem_of_getElem? (i := 39) rfl)) (hw _ (List.mem_of_getElem? (i := 38) rfl)) (hw _ (List.mem_of_getElem? (i := 2) rfl)) (hw _ (List.mem_of_getElem? (i := 40) rfl)) (by decide) (a := a1) (argsL := []) (rest := []) e0 A_a1' (ic00 l Z a0 hw [] a1 h1 n0 O1 F_claimedBy' F_cancelled') 2 (by decide) (by decide) (by decide) (by decide) (mkL a1 m 1 #[.val (.ref a1), .val (.ref a2)] [(.ref a1)]) rfl (by rw [hml]; rfl) (lenOf pd_2 rfl) rfl (hb hby d6_1) (Nat.le_of_eq rfl) ?_
  intro v1 T1 L1 X1 hQ1
  obtain ⟨rfl, M1, e1⟩ := hQ1
  have N1 := Fr.app N0 M1
  show Go p e below _ (T1.setTop (mkL a1 m 4 #[.val (.ref a1), .val (.ref a2)] [(.int (0 : Int32))]))
  refine Go.st (fun _ => XS.ifYes X1.here hx rfl (pc0 := 4) (pc' := 9) rfl (hb hby d6_4) rfl ((if0 _ _).trans (teq (by decide : (0 : Int32) = (0 : Int32))).1) (by decide) (by decide)) ?_
  show Go p e below _ (T1.setTop (mkL a1 m 9 #[.val (.ref a1), .val (.ref a2)] []))
  refine Go.st (fun _ => XS.aloadN X1.here hx rfl (hb hby d6_9) rfl rfl) ?_
  show Go p e below _ (T1.setTop (mkL a1 m 10 #[.val (.ref a1), .val (.ref a2)] [(.ref a1)]))
  refine Go.st (fun _ => XS.aloadN X1.here hx rfl (hb hby d6_10) rfl rfl) ?_
  show Go p e below _ (T1.setTop (mkL a1 m 11 #[.val (.ref a1), .val (.ref a2)] [(.ref a2), (.ref a1)]))
  obtain ⟨T2, h2, X2, e2, W2, st2⟩ := putF X1 hx hZ hown (host := "") (Or.inl (hw _ (List.mem_of_getElem? (i := 21) rfl))) Via.refl e1 F_claimedBy' A_a1' (Or.inl (hw _ (List.mem_of_getElem? (i := 22) rfl))) (hw _ (List.mem_of_getElem? (i := 1) rfl)) (ty := (.object "com/example/sidelane/sidelane/Cancellation$Claimant")) (by decide) rfl rfl (g := (mkL a1 m 11 #[.val (.ref a1), .val (.ref a2)] [(.ref a2), (.ref a1)])) rfl rfl (hb hby d6_11)
  refine Go.st st2 ?_
  have O3 : Old Z n0 h2 := O1.wr W2 g_a1
  have K4 : Keep h0 h2 [a1] := K0.wr W2 (Or.inl (List.mem_of_getElem? (i := 0) rfl))
  have E_5 : Exa Z h2 a1 "com/example/sidelane/sidelane/Cancellation" := A_a1'.wr W2
  have F6 : Fld Z h2 a1 "com/example/sidelane/sidelane/Cancellation" "cancelled" "Z" (.int (0 : Int32)) := F_cancelled'.other W2 (Or.inr (slot_ne (Or.inl (hw _ (List.mem_of_getElem? (i := 42) rfl))) (Or.inl (hw _ (List.mem_of_getElem? (i := 22) rfl))) (by decide) (t := .boolean) (t' := (.object "com/example/sidelane/sidelane/Cancellation$Claimant")) (by decide) (by decide)))
  have F7 : Fld Z h2 a1 "com/example/sidelane/sidelane/Cancellation" "endingBegun" "Z" (.int eb) := F_endingBegun'.other W2 (Or.inr (slot_ne (Or.inl (hw _ (List.mem_of_getElem? (i := 49) rfl))) (Or.inl (hw _ (List.mem_of_getElem? (i := 22) rfl))) (by decide) (t := .boolean) (t' := (.object "com/example/sidelane/sidelane/Cancellation$Claimant")) (by decide) (by decide)))
  have F8 : Fld Z h2 a1 "com/example/sidelane/sidelane/Cancellation" "queued" "Z" (.int (0 : Int32)) := F_queued'.other W2 (Or.inr (slot_ne (Or.inl (hw _ (List.mem_of_getElem? (i := 61) rfl))) (Or.inl (hw _ (List.mem_of_getElem? (i := 22) rfl))) (by decide) (t := .boolean) (t' := (.object "com/example/sidelane/sidelane/Cancellation$Claimant")) (by decide) (by decide)))
  have F9 : Fld Z h2 a1 "com/example/sidelane/sidelane/Cancellation" "runner" "Ljava/lang/Thread;" .null := F_runner'.other W2 (Or.inr (slot_ne (Or.inl (hw _ (List.mem_of_getElem? (i := 91) rfl))) (Or.inl (hw _ (List.mem_of_getElem? (i := 22) rfl))) (by decide) (t := (.object "java/lang/Thread")) (t' := (.object "com/example/sidelane/sidelane/Cancellation$Claimant")) (by decide) (by decide)))
  have F10 : Fld Z h2 a1 "com/example/sidelane/sidelane/Cancellation" "cancelEnding" "Ljava/lang/Object;" en := F_cancelEnding'.other W2 (Or.inr (slot_ne (Or.inl (hw _ (List.mem_of_getElem? (i := 58) rfl))) (Or.inl (hw _ (List.mem_of_getElem? (i := 22) rfl))) (by decide) (t := (.object "java/lang/Object")) (t' := (.object "com/example/sidelane/sidelane/Cancellation$Claimant")) (by decide) (by decide)))
  have F11 : Fld Z h2 a1 "com/example/sidelane/sidelane/Cancellation" "cancelOutcome" "Lcom/example/sidelane/sidelane/Cancellation$Outcome;" oc := F_cancelOutcome'.other W2 (Or.inr (slot_ne (Or.inl (hw _ (List.mem_of_getElem? (i := 56) rfl))) (Or.inl (hw _ (List.mem_of_getElem? (i := 22) rfl))) (by decide) (t := (.object "com/example/sidelane/sidelane/Cancellation$Outcome")) (t' := (.object "com/example/sidelane/sidelane/Cancellation$Claimant")) (by decide) (by decide)))
  have F12 : Fld Z h2 a1 "com/example/sidelane/sidelane/Cancellation" "claimedBy" "Lcom/example/sidelane/sidelane/Cancellation$Claimant;" (.ref a2) := F_claimedBy'.same W2
  have N2 := Fr.snoc X2 N1 g_a1
  show Go p e below _ (T2.setTop (mkL a1 m 14 #[.val (.ref a1), .val (.ref a2)] []))
  refine Go.st (fun _ => XS.iconst X2.here hx rfl (hb hby d6_14)) ?_
  show Go p e below _ (T2.setTop (mkL a1 m 15 #[.val (.ref a1), .val (.ref a2)] [(.int (1 : Int32))]))
  refine goRetS (v := some (.int (1 : Int32))) X2 hs hcell hmon hlk (fun h => by rw [hret] at h; cases h) e2 (fun V hV => retS X2 hx hret rfl (Or.inl ⟨rfl, Or.inr (Or.inl rfl), _, rfl⟩) (hb hby d6_15) hV) (by decide) (by decide) (fun h' M' K' hm' => ?_)
  exact ⟨rfl, N2, (K4.trans K' (allS (Or.inl (List.mem_singleton_self _)) all0)), ⟨(E_5.mon M'), (untEnd U0 (K4.trans K' (allS (Or.inl (List.mem_singleton_self _)) all0)) hm'), (F12.mon M'), (F6.mon M'), (F7.mon M'), (F8.mon M'), (F9.mon M'), (F10.mon M'), (F11.mon M')⟩⟩
set_option maxRecDepth 65536 in
set_option maxHeartbeats 40000000 in
theorem cm01 (l : Launch) (Z : State) (a0 : Array Value) (hw : ∀ d ∈ tables_1, d.before a0 Z = true) (a1 a2 : Addr) (en oc : Value) (eb : Int32) (h0 : Heap) (n0 : Nat) (O0 : Old Z n0 h0) (U0 : Unt h0 a1) (g_a1 : n0 ≤ a1) (A_a1 : Exa Z h0 a1 "com/example/sidelane/sidelane/Cancellation") (F_claimedBy : Fld Z h0 a1 "com/example/sidelane/sidelane/Cancellation" "claimedBy" "Lcom/example/sidelane/sidelane/Cancellation$Claimant;" .null) (F_cancelled : Fld Z h0 a1 "com/example/sidelane/sidelane/Cancellation" "cancelled" "Z" (.int (1 : Int32))) (F_endingBegun : Fld Z h0 a1 "com/example/sidelane/sidelane/Cancellation" "endingBegun" "Z" (.int eb)) (F_queued : Fld Z h0 a1 "com/example/sidelane/sidelane/Cancellation" "queued" "Z" (.int (0 : Int32))) (F_runner : Fld Z h0 a1 "com/example/sidelane/sidelane/Cancellation" "runner" "Ljava/lang/Thread;" .null) (F_cancelEnding : Fld Z h0 a1 "com/example/sidelane/sidelane/Cancellation" "cancelEnding" "Ljava/lang/Object;" en) (F_cancelOutcome : Fld Z h0 a1 "com/example/sidelane/sidelane/Cancellation" "cancelOutcome" "Lcom/example/sidelane/sidelane/Cancellation$Outcome;" oc) :
    CtrS l (⟨"com/example/sidelane/sidelane/Cancellation", "claim", "(Lcom/example/sidelane/sidelane/Cancellation$Claimant;)Z"⟩ : MethodName) prog_3_method_4_code 2 (some .boolean) ({ frames := 1, cells := 0, slots := 0, locals := 16 } : Room) #[(.ref a1), (.ref a2)] Z h0 (fun v h L => v = some (.int 0) ∧ Fr n0 L ∧ Keep h0 h [a1] ∧ own_ob Z h a1 .null (1 : Int32) eb en oc) := by
  have ef : ∀ m : MethodId, entryFrameSync m #[(.ref a1), (.ref a2)] 2 a1 = mkL a1 m 0 #[.val (.ref a1), .val (.ref a2)] [] := fun m => by first | rfl | (simp [entryFrameSync, mkL, argsToLocals, Value.category]; done)
  refine CtrS.of (a := a1) (plainFor_of_name pn_6) rfl U0 ?_
  intro p e s0 s m below meth c s₁ cell hx hZ hby hml hown0 hnm hret hlk hs hcell hmon X0 M0 K0
  have hown : s.vm.findClass "com/example/sidelane/sidelane/Cancellation" = some m.cls := hown0
  have N0 := Fr.nil n0
  obtain ⟨h1, e0⟩ : ∃ z, s₁.heap = z := ⟨_, rfl⟩
  rw [e0] at M0 K0
  have O1 := O0.keep K0 (allS g_a1 all0)
  refine Go.st (fun t k => castTop (ef m) k) ?_
  have A_a1' : Exa Z h1 a1 "com/example/sidelane/sidelane/Cancellation" := A_a1.mon M0
  have F_claimedBy' : Fld Z h1 a1 "com/example/sidelane/sidelane/Cancellation" "claimedBy" "Lcom/example/sidelane/sidelane/Cancellation$Claimant;" .null := F_claimedBy.mon M0
  have F_cancelled' : Fld Z h1 a1 "com/example/sidelane/sidelane/Cancellation" "cancelled" "Z" (.int (1 : Int32)) := F_cancelled.mon M0
  have F_endingBegun' : Fld Z h1 a1 "com/example/sidelane/sidelane/Cancellation" "endingBegun" "Z" (.int eb) := F_endingBegun.mon M0
  have F_queued' : Fld Z h1 a1 "com/example/sidelane/sidelane/Cancellation" "queued" "Z" (.int (0 : Int32)) := F_queued.mon M0
  have F_runner' : Fld Z h1 a1 "com/example/sidelane/sidelane/Cancellation" "runner" "Ljava/lang/Thread;" .null := F_runner.mon M0
  have F_cancelEnding' : Fld Z h1 a1 "com/example/sidelane/sidelane/Cancellation" "cancelEnding" "Ljava/lang/Object;" en := F_cancelEnding.mon M0
  have F_cancelOutcome' : Fld Z h1 a1 "com/example/sidelane/sidelane/Cancellation" "cancelOutcome" "Lcom/example/sidelane/sidelane/Cancellation$Outcome;" oc := F_cancelOutcome.mon M0
  show Go p e below _ (s₁.setTop (mkL a1 m 0 #[.val (.ref a1), .val (.ref a2)] []))
  refine Go.st (fun _ => XS.aloadN X0.here hx rfl (hb hby d6_0) rfl rfl) ?_
  show Go p e below _ (s₁.setTop (mkL a1 m 1 #[.val (.ref a1), .val (.ref a2)] [(.ref a1)]))
  refine goVirt X0 hx hZ (y := (⟨"com/example/sidelane/sidelane/Cancellation", "isClaimed", "()Z"⟩ : MethodName)) (z := (⟨"com/example/sidelane/sidelane/Cancellation", "isClaimed", "()Z"⟩ : MethodName)) hown (hw _ (List.mem_of_getElem? (i := 36) rfl)) (hw _ (List.mem_of_getElem? (i := 37) rfl)) (notFace_of_selects (args := #[]) (mvT hZ (hw _ (List.mem_of_getElem? (i := 39) rfl)))) (hw _ (List.mem_of_getElem? (i := 39) rfl)) (hw _ (List.mem_of_getElem? (i := 38) rfl)) (hw _ (List.mem_of_getElem? (i := 2) rfl)) (hw _ (List.mem_of_getElem? (i := 40) rfl)) (by decide) (a := a1) (argsL := []) (rest := []) e0 A_a1' (ic01 l Z a0 hw [] a1 h1 n0 O1 F_claimedBy' F_cancelled') 2 (by decide) (by decide) (by decide) (by decide) (mkL a1 m 1 #[.val (.ref a1), .val (.ref a2)] [(.ref a1)]) rfl (by rw [hml]; rfl) (lenOf pd_2 rfl) rfl (hb hby d6_1) (Nat.le_of_eq rfl) ?_
  intro v1 T1 L1 X1 hQ1
  obtain ⟨rfl, M1, e1⟩ := hQ1
  have N1 := Fr.app N0 M1
  show Go p e below _ (T1.setTop (mkL a1 m 4 #[.val (.ref a1), .val (.ref a2)] [(.int (1 : Int32))]))
  refine Go.st (fun _ => XS.ifNo X1.here hx rfl (hb hby d6_4) rfl ((if0 _ _).trans (feq (by decide : ¬ ((1 : Int32) = (0 : Int32)))).1)) ?_
  show Go p e below _ (T1.setTop (mkL a1 m 7 #[.val (.ref a1), .val (.ref a2)] []))
  refine Go.st (fun _ => XS.iconst X1.here hx rfl (hb hby d6_7)) ?_
  show Go p e below _ (T1.setTop (mkL a1 m 8 #[.val (.ref a1), .val (.ref a2)] [(.int (0 : Int32))]))
  refine goRetS (v := some (.int (0 : Int32))) X1 hs hcell hmon hlk (fun h => by rw [hret] at h; cases h) e1 (fun V hV => retS X1 hx hret rfl (Or.inl ⟨rfl, Or.inr (Or.inl rfl), _, rfl⟩) (hb hby d6_8) hV) (by decide) (by decide) (fun h' M' K' hm' => ?_)
  exact ⟨rfl, N1, (K0.trans K' (allS (Or.inl (List.mem_singleton_self _)) all0)), ⟨(A_a1'.mon M'), (untEnd U0 (K0.trans K' (allS (Or.inl (List.mem_singleton_self _)) all0)) hm'), (F_claimedBy'.mon M'), (F_cancelled'.mon M'), (F_endingBegun'.mon M'), (F_queued'.mon M'), (F_runner'.mon M'), (F_cancelEnding'.mon M'), (F_cancelOutcome'.mon M')⟩⟩
set_option maxRecDepth 65536 in
set_option maxHeartbeats 40000000 in
theorem cmR0 (l : Launch) (Z : State) (a0 : Array Value) (hw : ∀ d ∈ tables_1, d.before a0 Z = true) (a1 a2 a5 : Addr) (en oc : Value) (eb : Int32) (h0 : Heap) (n0 : Nat) (O0 : Old Z n0 h0) (U0 : Unt h0 a1) (g_a1 : n0 ≤ a1) (A_a1 : Exa Z h0 a1 "com/example/sidelane/sidelane/Cancellation") (F_claimedBy : Fld Z h0 a1 "com/example/sidelane/sidelane/Cancellation" "claimedBy" "Lcom/example/sidelane/sidelane/Cancellation$Claimant;" (.ref a5)) (F_cancelled : Fld Z h0 a1 "com/example/sidelane/sidelane/Cancellation" "cancelled" "Z" (.int (0 : Int32))) (F_endingBegun : Fld Z h0 a1 "com/example/sidelane/sidelane/Cancellation" "endingBegun" "Z" (.int eb)) (F_queued : Fld Z h0 a1 "com/example/sidelane/sidelane/Cancellation" "queued" "Z" (.int (0 : Int32))) (F_runner : Fld Z h0 a1 "com/example/sidelane/sidelane/Cancellation" "runner" "Ljava/lang/Thread;" .null) (F_cancelEnding : Fld Z h0 a1 "com/example/sidelane/sidelane/Cancellation" "cancelEnding" "Ljava/lang/Object;" en) (F_cancelOutcome : Fld Z h0 a1 "com/example/sidelane/sidelane/Cancellation" "cancelOutcome" "Lcom/example/sidelane/sidelane/Cancellation$Outcome;" oc) :
    CtrS l (⟨"com/example/sidelane/sidelane/Cancellation", "claim", "(Lcom/example/sidelane/sidelane/Cancellation$Claimant;)Z"⟩ : MethodName) prog_3_method_4_code 2 (some .boolean) ({ frames := 1, cells := 0, slots := 0, locals := 16 } : Room) #[(.ref a1), (.ref a2)] Z h0 (fun v h L => v = some (.int 0) ∧ Fr n0 L ∧ Keep h0 h [a1] ∧ own_ob Z h a1 (.ref a5) (0 : Int32) eb en oc) := by
  have ef : ∀ m : MethodId, entryFrameSync m #[(.ref a1), (.ref a2)] 2 a1 = mkL a1 m 0 #[.val (.ref a1), .val (.ref a2)] [] := fun m => by first | rfl | (simp [entryFrameSync, mkL, argsToLocals, Value.category]; done)
  refine CtrS.of (a := a1) (plainFor_of_name pn_6) rfl U0 ?_
  intro p e s0 s m below meth c s₁ cell hx hZ hby hml hown0 hnm hret hlk hs hcell hmon X0 M0 K0
  have hown : s.vm.findClass "com/example/sidelane/sidelane/Cancellation" = some m.cls := hown0
  have N0 := Fr.nil n0
  obtain ⟨h1, e0⟩ : ∃ z, s₁.heap = z := ⟨_, rfl⟩
  rw [e0] at M0 K0
  have O1 := O0.keep K0 (allS g_a1 all0)
  refine Go.st (fun t k => castTop (ef m) k) ?_
  have A_a1' : Exa Z h1 a1 "com/example/sidelane/sidelane/Cancellation" := A_a1.mon M0
  have F_claimedBy' : Fld Z h1 a1 "com/example/sidelane/sidelane/Cancellation" "claimedBy" "Lcom/example/sidelane/sidelane/Cancellation$Claimant;" (.ref a5) := F_claimedBy.mon M0
  have F_cancelled' : Fld Z h1 a1 "com/example/sidelane/sidelane/Cancellation" "cancelled" "Z" (.int (0 : Int32)) := F_cancelled.mon M0
  have F_endingBegun' : Fld Z h1 a1 "com/example/sidelane/sidelane/Cancellation" "endingBegun" "Z" (.int eb) := F_endingBegun.mon M0
  have F_queued' : Fld Z h1 a1 "com/example/sidelane/sidelane/Cancellation" "queued" "Z" (.int (0 : Int32)) := F_queued.mon M0
  have F_runner' : Fld Z h1 a1 "com/example/sidelane/sidelane/Cancellation" "runner" "Ljava/lang/Thread;" .null := F_runner.mon M0
  have F_cancelEnding' : Fld Z h1 a1 "com/example/sidelane/sidelane/Cancellation" "cancelEnding" "Ljava/lang/Object;" en := F_cancelEnding.mon M0
  have F_cancelOutcome' : Fld Z h1 a1 "com/example/sidelane/sidelane/Cancellation" "cancelOutcome" "Lcom/example/sidelane/sidelane/Cancellation$Outcome;" oc := F_cancelOutcome.mon M0
  show Go p e below _ (s₁.setTop (mkL a1 m 0 #[.val (.ref a1), .val (.ref a2)] []))
  refine Go.st (fun _ => XS.aloadN X0.here hx rfl (hb hby d6_0) rfl rfl) ?_
  show Go p e below _ (s₁.setTop (mkL a1 m 1 #[.val (.ref a1), .val (.ref a2)] [(.ref a1)]))
  refine goVirt X0 hx hZ (y := (⟨"com/example/sidelane/sidelane/Cancellation", "isClaimed", "()Z"⟩ : MethodName)) (z := (⟨"com/example/sidelane/sidelane/Cancellation", "isClaimed", "()Z"⟩ : MethodName)) hown (hw _ (List.mem_of_getElem? (i := 36) rfl)) (hw _ (List.mem_of_getElem? (i := 37) rfl)) (notFace_of_selects (args := #[]) (mvT hZ (hw _ (List.mem_of_getElem? (i := 39) rfl)))) (hw _ (List.mem_of_getElem? (i := 39) rfl)) (hw _ (List.mem_of_getElem? (i := 38) rfl)) (hw _ (List.mem_of_getElem? (i := 2) rfl)) (hw _ (List.mem_of_getElem? (i := 40) rfl)) (by decide) (a := a1) (argsL := []) (rest := []) e0 A_a1' (icR0 l Z a0 hw [] a1 a5 h1 n0 O1 F_claimedBy' F_cancelled') 2 (by decide) (by decide) (by decide) (by decide) (mkL a1 m 1 #[.val (.ref a1), .val (.ref a2)] [(.ref a1)]) rfl (by rw [hml]; rfl) (lenOf pd_2 rfl) rfl (hb hby d6_1) (Nat.le_of_eq rfl) ?_
  intro v1 T1 L1 X1 hQ1
  obtain ⟨rfl, M1, e1⟩ := hQ1
  have N1 := Fr.app N0 M1
  show Go p e below _ (T1.setTop (mkL a1 m 4 #[.val (.ref a1), .val (.ref a2)] [(.int (1 : Int32))]))
  refine Go.st (fun _ => XS.ifNo X1.here hx rfl (hb hby d6_4) rfl ((if0 _ _).trans (feq (by decide : ¬ ((1 : Int32) = (0 : Int32)))).1)) ?_
  show Go p e below _ (T1.setTop (mkL a1 m 7 #[.val (.ref a1), .val (.ref a2)] []))
  refine Go.st (fun _ => XS.iconst X1.here hx rfl (hb hby d6_7)) ?_
  show Go p e below _ (T1.setTop (mkL a1 m 8 #[.val (.ref a1), .val (.ref a2)] [(.int (0 : Int32))]))
  refine goRetS (v := some (.int (0 : Int32))) X1 hs hcell hmon hlk (fun h => by rw [hret] at h; cases h) e1 (fun V hV => retS X1 hx hret rfl (Or.inl ⟨rfl, Or.inr (Or.inl rfl), _, rfl⟩) (hb hby d6_8) hV) (by decide) (by decide) (fun h' M' K' hm' => ?_)
  exact ⟨rfl, N1, (K0.trans K' (allS (Or.inl (List.mem_singleton_self _)) all0)), ⟨(A_a1'.mon M'), (untEnd U0 (K0.trans K' (allS (Or.inl (List.mem_singleton_self _)) all0)) hm'), (F_claimedBy'.mon M'), (F_cancelled'.mon M'), (F_endingBegun'.mon M'), (F_queued'.mon M'), (F_runner'.mon M'), (F_cancelEnding'.mon M'), (F_cancelOutcome'.mon M')⟩⟩
set_option maxRecDepth 65536 in
set_option maxHeartbeats 40000000 in
theorem caA (l : Launch) (Z : State) (a0 : Array Value) (hw : ∀ d ∈ tables_1, d.before a0 Z = true) (a1 : Addr) (p2 : Int32) (a3 : Addr) (en oc : Value) (w_EXECUTE w_ADOPTER w_CANCELLED w_REFUSED w_HANDED_OVER w_CANCELLED_UNEXECUTED w_ENDING_NEEDED : Addr) (eb : Int32) (h0 : Heap) (n0 : Nat) (O0 : Old Z n0 h0) (U0 : Unt h0 a1) (g_a1 : n0 ≤ a1) (A_a1 : Exa Z h0 a1 "com/example/sidelane/sidelane/Cancellation") (F_claimedBy : Fld Z h0 a1 "com/example/sidelane/sidelane/Cancellation" "claimedBy" "Lcom/example/sidelane/sidelane/Cancellation$Claimant;" (.ref w_ADOPTER)) (F_cancelled : Fld Z h0 a1 "com/example/sidelane/sidelane/Cancellation" "cancelled" "Z" (.int (0 : Int32))) (F_endingBegun : Fld Z h0 a1 "com/example/sidelane/sidelane/Cancellation" "endingBegun" "Z" (.int eb)) (F_queued : Fld Z h0 a1 "com/example/sidelane/sidelane/Cancellation" "queued" "Z" (.int (0 : Int32))) (F_runner : Fld Z h0 a1 "com/example/sidelane/sidelane/Cancellation" "runner" "Ljava/lang/Thread;" .null) (F_cancelEnding : Fld Z h0 a1 "com/example/sidelane/sidelane/Cancellation" "cancelEnding" "Ljava/lang/Object;" en) (F_cancelOutcome : Fld Z h0 a1 "com/example/sidelane/sidelane/Cancellation" "cancelOutcome" "Lcom/example/sidelane/sidelane/Cancellation$Outcome;" oc) (S_w_EXECUTE : Sta Z Z.heap "com/example/sidelane/sidelane/Cancellation$Claimant" "EXECUTE" "Lcom/example/sidelane/sidelane/Cancellation$Claimant;" (.ref w_EXECUTE)) (S_w_ADOPTER : Sta Z Z.heap "com/example/sidelane/sidelane/Cancellation$Claimant" "ADOPTER" "Lcom/example/sidelane/sidelane/Cancellation$Claimant;" (.ref w_ADOPTER)) (S_w_CANCELLED : Sta Z Z.heap "com/example/sidelane/sidelane/Cancellation$Outcome" "CANCELLED" "Lcom/example/sidelane/sidelane/Cancellation$Outcome;" (.ref w_CANCELLED)) (S_w_REFUSED : Sta Z Z.heap "com/example/sidelane/sidelane/Cancellation$Outcome" "REFUSED" "Lcom/example/sidelane/sidelane/Cancellation$Outcome;" (.ref w_REFUSED)) (S_w_HANDED_OVER : Sta Z Z.heap "com/example/sidelane/sidelane/Cancellation$Outcome" "HANDED_OVER" "Lcom/example/sidelane/sidelane/Cancellation$Outcome;" (.ref w_HANDED_OVER)) (S_w_CANCELLED_UNEXECUTED : Sta Z Z.heap "com/example/sidelane/sidelane/Cancellation$Outcome" "CANCELLED_UNEXECUTED" "Lcom/example/sidelane/sidelane/Cancellation$Outcome;" (.ref w_CANCELLED_UNEXECUTED)) (S_w_ENDING_NEEDED : Sta Z Z.heap "com/example/sidelane/sidelane/Cancellation$Outcome" "ENDING_NEEDED" "Lcom/example/sidelane/sidelane/Cancellation$Outcome;" (.ref w_ENDING_NEEDED)) (ne_w_EXECUTE_w_ADOPTER : w_EXECUTE ≠ w_ADOPTER) :
    CtrS l (⟨"com/example/sidelane/sidelane/Cancellation", "cancel", "(ZLjava/lang/Object;)Lcom/example/sidelane/sidelane/Cancellation$Outcome;"⟩ : MethodName) prog_3_method_2_code 5 (some (.object "com/example/sidelane/sidelane/Cancellation$Outcome")) ({ frames := 0, cells := 0, slots := 0, locals := 0 } : Room) #[(.ref a1), (.int p2), (.ref a3)] Z h0 (fun v h L => (∃ r, v = some (.ref r)) ∧ Fr n0 L ∧ Keep h0 h [a1] ∧ own_ob Z h a1 (.ref w_ADOPTER) (0 : Int32) eb en oc) := by
  have ef : ∀ m : MethodId, entryFrameSync m #[(.ref a1), (.int p2), (.ref a3)] 5 a1 = mkL a1 m 0 #[.val (.ref a1), .val (.int p2), .val (.ref a3), .unset, .unset] [] := fun m => by first | rfl | (simp [entryFrameSync, mkL, argsToLocals, Value.category]; done)
  refine CtrS.of (a := a1) (plainFor_of_name pn_8) rfl U0 ?_
  intro p e s0 s m below meth c s₁ cell hx hZ hby hml hown0 hnm hret hlk hs hcell hmon X0 M0 K0
  have hown : s.vm.findClass "com/example/sidelane/sidelane/Cancellation" = some m.cls := hown0
  have N0 := Fr.nil n0
  obtain ⟨h1, e0⟩ : ∃ z, s₁.heap = z := ⟨_, rfl⟩
  rw [e0] at M0 K0
  have O1 := O0.keep K0 (allS g_a1 all0)
  refine Go.st (fun t k => castTop (ef m) k) ?_
  have A_a1' : Exa Z h1 a1 "com/example/sidelane/sidelane/Cancellation" := A_a1.mon M0
  have F_claimedBy' : Fld Z h1 a1 "com/example/sidelane/sidelane/Cancellation" "claimedBy" "Lcom/example/sidelane/sidelane/Cancellation$Claimant;" (.ref w_ADOPTER) := F_claimedBy.mon M0
  have F_cancelled' : Fld Z h1 a1 "com/example/sidelane/sidelane/Cancellation" "cancelled" "Z" (.int (0 : Int32)) := F_cancelled.mon M0
  have F_endingBegun' : Fld Z h1 a1 "com/example/sidelane/sidelane/Cancellation" "endingBegun" "Z" (.int eb) := F_endingBegun.mon M0
  have F_queued' : Fld Z h1 a1 "com/example/sidelane/sidelane/Cancellation" "queued" "Z" (.int (0 : Int32)) := F_queued.mon M0
  have F_runner' : Fld Z h1 a1 "com/example/sidelane/sidelane/Cancellation" "runner" "Ljava/lang/Thread;" .null := F_runner.mon M0
  have F_cancelEnding' : Fld Z h1 a1 "com/example/sidelane/sidelane/Cancellation" "cancelEnding" "Ljava/lang/Object;" en := F_cancelEnding.mon M0
  have F_cancelOutcome' : Fld Z h1 a1 "com/example/sidelane/sidelane/Cancellation" "cancelOutcome" "Lcom/example/sidelane/sidelane/Cancellation$Outcome;" oc := F_cancelOutcome.mon M0
  show Go p e below _ (s₁.setTop (mkL a1 m 0 #[.val (.ref a1), .val (.int p2), .val (.ref a3), .unset, .unset] []))
  refine Go.st (fun _ => XS.aloadN X0.here hx rfl (hb hby d8_0) rfl rfl) ?_
  show Go p e below _ (s₁.setTop (mkL a1 m 1 #[.val (.ref a1), .val (.int p2), .val (.ref a3), .unset, .unset] [(.ref a1)]))
  obtain ⟨T1, X1, e1, st1⟩ := getF X0 hx hZ hown (host := "") (Or.inl (hw _ (List.mem_of_getElem? (i := 21) rfl))) Via.refl e0 F_claimedBy' (g := (mkL a1 m 1 #[.val (.ref a1), .val (.int p2), .val (.ref a3), .unset, .unset] [(.ref a1)])) rfl rfl (hb hby d8_1)
  refine Go.st st1 ?_
  show Go p e below _ (T1.setTop (mkL a1 m 4 #[.val (.ref a1), .val (.int p2), .val (.ref a3), .unset, .unset] [(.ref w_ADOPTER)]))
  obtain ⟨T2, X2, e2, st2⟩ := getS2 X1 hx hZ hown (host := "") (Or.inl (hw _ (List.mem_of_getElem? (i := 23) rfl))) Via.refl e1 (oldSta O1 S_w_ADOPTER) (g := (mkL a1 m 4 #[.val (.ref a1), .val (.int p2), .val (.ref a3), .unset, .unset] [(.ref w_ADOPTER)])) rfl (hb hby d8_4)
  refine Go.st st2 ?_
  show Go p e below _ (T2.setTop (mkL a1 m 7 #[.val (.ref a1), .val (.int p2), .val (.ref a3), .unset, .unset] [(.ref w_ADOPTER), (.ref w_ADOPTER)]))
  refine Go.st (fun _ => fun k => Jvm.RoadKit.acmp (g := (mkL a1 m 7 #[.val (.ref a1), .val (.int p2), .val (.ref a3), .unset, .unset] [(.ref w_ADOPTER), (.ref w_ADOPTER)])) X2 hx rfl rfl rfl (pc0 := 7) (pc' := 10) (same := true) rfl (hb hby d8_7) rfl (decide_eq_true rfl) (by decide) (by decide) k) ?_
  show Go p e below _ (T2.setTop (mkL a1 m 10 #[.val (.ref a1), .val (.int p2), .val (.ref a3), .unset, .unset] []))
  obtain ⟨T3, X3, e3, st3⟩ := getS2 X2 hx hZ hown (host := "") (Or.inl (hw _ (List.mem_of_getElem? (i := 88) rfl))) Via.refl e2 (oldSta O1 S_w_HANDED_OVER) (g := (mkL a1 m 10 #[.val (.ref a1), .val (.int p2), .val (.ref a3), .unset, .unset] [])) rfl (hb hby d8_10)
  refine Go.st st3 ?_
  show Go p e below _ (T3.setTop (mkL a1 m 13 #[.val (.ref a1), .val (.int p2), .val (.ref a3), .unset, .unset] [(.ref w_HANDED_OVER)]))
  refine goRetS (v := some (.ref w_HANDED_OVER)) X3 hs hcell hmon hlk (fun h => by rw [hret] at h; cases h) e3 (fun V hV => retS X3 hx hret rfl (Or.inr (Or.inr (Or.inr (Or.inr ⟨rfl, rfl, rfl⟩)))) (hb hby d8_13) hV) (by decide) (by decide) (fun h' M' K' hm' => ?_)
  exact ⟨⟨_, rfl⟩, N0, (K0.trans K' (allS (Or.inl (List.mem_singleton_self _)) all0)), ⟨(A_a1'.mon M'), (untEnd U0 (K0.trans K' (allS (Or.inl (List.mem_singleton_self _)) all0)) hm'), (F_claimedBy'.mon M'), (F_cancelled'.mon M'), (F_endingBegun'.mon M'), (F_queued'.mon M'), (F_runner'.mon M'), (F_cancelEnding'.mon M'), (F_cancelOutcome'.mon M')⟩⟩
set_option maxRecDepth 65536 in
set_option maxHeartbeats 40000000 in
theorem caG (l : Launch) (Z : State) (a0 : Array Value) (hw : ∀ d ∈ tables_1, d.before a0 Z = true) (a1 : Addr) (p2 : Int32) (a3 : Addr) (en oc : Value) (w_EXECUTE w_ADOPTER w_CANCELLED w_REFUSED w_HANDED_OVER w_CANCELLED_UNEXECUTED w_ENDING_NEEDED : Addr) (h0 : Heap) (n0 : Nat) (O0 : Old Z n0 h0) (U0 : Unt h0 a1) (g_a1 : n0 ≤ a1) (A_a1 : Exa Z h0 a1 "com/example/sidelane/sidelane/Cancellation") (F_claimedBy : Fld Z h0 a1 "com/example/sidelane/sidelane/Cancellation" "claimedBy" "Lcom/example/sidelane/sidelane/Cancellation$Claimant;" (.ref w_EXECUTE)) (F_cancelled : Fld Z h0 a1 "com/example/sidelane/sidelane/Cancellation" "cancelled" "Z" (.int (0 : Int32))) (F_endingBegun : Fld Z h0 a1 "com/example/sidelane/sidelane/Cancellation" "endingBegun" "Z" (.int (0 : Int32))) (F_queued : Fld Z h0 a1 "com/example/sidelane/sidelane/Cancellation" "queued" "Z" (.int (0 : Int32))) (F_runner : Fld Z h0 a1 "com/example/sidelane/sidelane/Cancellation" "runner" "Ljava/lang/Thread;" .null) (F_cancelEnding : Fld Z h0 a1 "com/example/sidelane/sidelane/Cancellation" "cancelEnding" "Ljava/lang/Object;" en) (F_cancelOutcome : Fld Z h0 a1 "com/example/sidelane/sidelane/Cancellation" "cancelOutcome" "Lcom/example/sidelane/sidelane/Cancellation$Outcome;" oc) (S_w_EXECUTE : Sta Z Z.heap "com/example/sidelane/sidelane/Cancellation$Claimant" "EXECUTE" "Lcom/example/sidelane/sidelane/Cancellation$Claimant;" (.ref w_EXECUTE)) (S_w_ADOPTER : Sta Z Z.heap "com/example/sidelane/sidelane/Cancellation$Claimant" "ADOPTER" "Lcom/example/sidelane/sidelane/Cancellation$Claimant;" (.ref w_ADOPTER)) (S_w_CANCELLED : Sta Z Z.heap "com/example/sidelane/sidelane/Cancellation$Outcome" "CANCELLED" "Lcom/example/sidelane/sidelane/Cancellation$Outcome;" (.ref w_CANCELLED)) (S_w_REFUSED : Sta Z Z.heap "com/example/sidelane/sidelane/Cancellation$Outcome" "REFUSED" "Lcom/example/sidelane/sidelane/Cancellation$Outcome;" (.ref w_REFUSED)) (S_w_HANDED_OVER : Sta Z Z.heap "com/example/sidelane/sidelane/Cancellation$Outcome" "HANDED_OVER" "Lcom/example/sidelane/sidelane/Cancellation$Outcome;" (.ref w_HANDED_OVER)) (S_w_CANCELLED_UNEXECUTED : Sta Z Z.heap "com/example/sidelane/sidelane/Cancellation$Outcome" "CANCELLED_UNEXECUTED" "Lcom/example/sidelane/sidelane/Cancellation$Outcome;" (.ref w_CANCELLED_UNEXECUTED)) (S_w_ENDING_NEEDED : Sta Z Z.heap "com/example/sidelane/sidelane/Cancellation$Outcome" "ENDING_NEEDED" "Lcom/example/sidelane/sidelane/Cancellation$Outcome;" (.ref w_ENDING_NEEDED)) (ne_w_EXECUTE_w_ADOPTER : w_EXECUTE ≠ w_ADOPTER) :
    CtrS l (⟨"com/example/sidelane/sidelane/Cancellation", "cancel", "(ZLjava/lang/Object;)Lcom/example/sidelane/sidelane/Cancellation$Outcome;"⟩ : MethodName) prog_3_method_2_code 5 (some (.object "com/example/sidelane/sidelane/Cancellation$Outcome")) ({ frames := 0, cells := 0, slots := 0, locals := 0 } : Room) #[(.ref a1), (.int p2), (.ref a3)] Z h0 (fun v h L => (∃ r, v = some (.ref r)) ∧ Fr n0 L ∧ Keep h0 h [a1] ∧ own_ob Z h a1 (.ref w_EXECUTE) (1 : Int32) (0 : Int32) (.ref a3) (.ref w_CANCELLED)) := by
  have ef : ∀ m : MethodId, entryFrameSync m #[(.ref a1), (.int p2), (.ref a3)] 5 a1 = mkL a1 m 0 #[.val (.ref a1), .val (.int p2), .val (.ref a3), .unset, .unset] [] := fun m => by first | rfl | (simp [entryFrameSync, mkL, argsToLocals, Value.category]; done)
  refine CtrS.of (a := a1) (plainFor_of_name pn_8) rfl U0 ?_
  intro p e s0 s m below meth c s₁ cell hx hZ hby hml hown0 hnm hret hlk hs hcell hmon X0 M0 K0
  have hown : s.vm.findClass "com/example/sidelane/sidelane/Cancellation" = some m.cls := hown0
  have N0 := Fr.nil n0
  obtain ⟨h1, e0⟩ : ∃ z, s₁.heap = z := ⟨_, rfl⟩
  rw [e0] at M0 K0
  have O1 := O0.keep K0 (allS g_a1 all0)
  refine Go.st (fun t k => castTop (ef m) k) ?_
  have A_a1' : Exa Z h1 a1 "com/example/sidelane/sidelane/Cancellation" := A_a1.mon M0
  have F_claimedBy' : Fld Z h1 a1 "com/example/sidelane/sidelane/Cancellation" "claimedBy" "Lcom/example/sidelane/sidelane/Cancellation$Claimant;" (.ref w_EXECUTE) := F_claimedBy.mon M0
  have F_cancelled' : Fld Z h1 a1 "com/example/sidelane/sidelane/Cancellation" "cancelled" "Z" (.int (0 : Int32)) := F_cancelled.mon M0
  have F_endingBegun' : Fld Z h1 a1 "com/example/sidelane/sidelane/Cancellation" "endingBegun" "Z" (.int (0 : Int32)) := F_endingBegun.mon M0
  have F_queued' : Fld Z h1 a1 "com/example/sidelane/sidelane/Cancellation" "queued" "Z" (.int (0 : Int32)) := F_queued.mon M0
  have F_runner' : Fld Z h1 a1 "com/example/sidelane/sidelane/Cancellation" "runner" "Ljava/lang/Thread;" .null := F_runner.mon M0
  have F_cancelEnding' : Fld Z h1 a1 "com/example/sidelane/sidelane/Cancellation" "cancelEnding" "Ljava/lang/Object;" en := F_cancelEnding.mon M0
  have F_cancelOutcome' : Fld Z h1 a1 "com/example/sidelane/sidelane/Cancellation" "cancelOutcome" "Lcom/example/sidelane/sidelane/Cancellation$Outcome;" oc := F_cancelOutcome.mon M0
  show Go p e below _ (s₁.setTop (mkL a1 m 0 #[.val (.ref a1), .val (.int p2), .val (.ref a3), .unset, .unset] []))
  refine Go.st (fun _ => XS.aloadN X0.here hx rfl (hb hby d8_0) rfl rfl) ?_
  show Go p e below _ (s₁.setTop (mkL a1 m 1 #[.val (.ref a1), .val (.int p2), .val (.ref a3), .unset, .unset] [(.ref a1)]))
  obtain ⟨T1, X1, e1, st1⟩ := getF X0 hx hZ hown (host := "") (Or.inl (hw _ (List.mem_of_getElem? (i := 21) rfl))) Via.refl e0 F_claimedBy' (g := (mkL a1 m 1 #[.val (.ref a1), .val (.int p2), .val (.ref a3), .unset, .unset] [(.ref a1)])) rfl rfl (hb hby d8_1)
  refine Go.st st1 ?_
  show Go p e below _ (T1.setTop (mkL a1 m 4 #[.val (.ref a1), .val (.int p2), .val (.ref a3), .unset, .unset] [(.ref w_EXECUTE)]))
  obtain ⟨T2, X2, e2, st2⟩ := getS2 X1 hx hZ hown (host := "") (Or.inl (hw _ (List.mem_of_getElem? (i := 23) rfl))) Via.refl e1 (oldSta O1 S_w_ADOPTER) (g := (mkL a1 m 4 #[.val (.ref a1), .val (.int p2), .val (.ref a3), .unset, .unset] [(.ref w_EXECUTE)])) rfl (hb hby d8_4)
  refine Go.st st2 ?_
  show Go p e below _ (T2.setTop (mkL a1 m 7 #[.val (.ref a1), .val (.int p2), .val (.ref a3), .unset, .unset] [(.ref w_ADOPTER), (.ref w_EXECUTE)]))
  refine Go.st (fun _ => fun k => Jvm.RoadKit.acmp (g := (mkL a1 m 7 #[.val (.ref a1), .val (.int p2), .val (.ref a3), .unset, .unset] [(.ref w_ADOPTER), (.ref w_EXECUTE)])) X2 hx rfl rfl rfl (pc0 := 7) (pc' := 14) (same := false) rfl (hb hby d8_7) rfl (decide_eq_false fun q => ne_w_EXECUTE_w_ADOPTER (Value.ref.inj q)) (by decide) (by decide) k) ?_
  show Go p e below _ (T2.setTop (mkL a1 m 14 #[.val (.ref a1), .val (.int p2), .val (.ref a3), .unset, .unset] []))
  refine Go.st (fun _ => XS.aloadN X2.here hx rfl (hb hby d8_14) rfl rfl) ?_
  show Go p e below _ (T2.setTop (mkL a1 m 15 #[.val (.ref a1), .val (.int p2), .val (.ref a3), .unset, .unset] [(.ref a1)]))
  obtain ⟨T3, X3, e3, st3⟩ := getF X2 hx hZ hown (host := "") (Or.inl (hw _ (List.mem_of_getElem? (i := 41) rfl))) Via.refl e2 F_cancelled' (g := (mkL a1 m 15 #[.val (.ref a1), .val (.int p2), .val (.ref a3), .unset, .unset] [(.ref a1)])) rfl rfl (hb hby d8_15)
  refine Go.st st3 ?_
  show Go p e below _ (T3.setTop (mkL a1 m 18 #[.val (.ref a1), .val (.int p2), .val (.ref a3), .unset, .unset] [(.int (0 : Int32))]))
  refine Go.st (fun _ => XS.ifYes X3.here hx rfl (pc0 := 18) (pc' := 44) rfl (hb hby d8_18) rfl ((if0 _ _).trans (teq (by decide : (0 : Int32) = (0 : Int32))).1) (by decide) (by decide)) ?_
  show Go p e below _ (T3.setTop (mkL a1 m 44 #[.val (.ref a1), .val (.int p2), .val (.ref a3), .unset, .unset] []))
  refine Go.st (fun _ => XS.aloadN X3.here hx rfl (hb hby d8_44) rfl rfl) ?_
  show Go p e below _ (T3.setTop (mkL a1 m 45 #[.val (.ref a1), .val (.int p2), .val (.ref a3), .unset, .unset] [(.ref a1)]))
  obtain ⟨T4, X4, e4, st4⟩ := getF X3 hx hZ hown (host := "") (Or.inl (hw _ (List.mem_of_getElem? (i := 48) rfl))) Via.refl e3 F_endingBegun' (g := (mkL a1 m 45 #[.val (.ref a1), .val (.int p2), .val (.ref a3), .unset, .unset] [(.ref a1)])) rfl rfl (hb hby d8_45)
  refine Go.st st4 ?_
  show Go p e below _ (T4.setTop (mkL a1 m 48 #[.val (.ref a1), .val (.int p2), .val (.ref a3), .unset, .unset] [(.int (0 : Int32))]))
  refine Go.st (fun _ => XS.ifYes X4.here hx rfl (pc0 := 48) (pc' := 55) rfl (hb hby d8_48) rfl ((if0 _ _).trans (teq (by decide : (0 : Int32) = (0 : Int32))).1) (by decide) (by decide)) ?_
  show Go p e below _ (T4.setTop (mkL a1 m 55 #[.val (.ref a1), .val (.int p2), .val (.ref a3), .unset, .unset] []))
  refine Go.st (fun _ => XS.aloadN X4.here hx rfl (hb hby d8_55) rfl rfl) ?_
  show Go p e below _ (T4.setTop (mkL a1 m 56 #[.val (.ref a1), .val (.int p2), .val (.ref a3), .unset, .unset] [(.ref a1)]))
  obtain ⟨T5, X5, e5, st5⟩ := getF X4 hx hZ hown (host := "") (Or.inl (hw _ (List.mem_of_getElem? (i := 21) rfl))) Via.refl e4 F_claimedBy' (g := (mkL a1 m 56 #[.val (.ref a1), .val (.int p2), .val (.ref a3), .unset, .unset] [(.ref a1)])) rfl rfl (hb hby d8_56)
  refine Go.st st5 ?_
  show Go p e below _ (T5.setTop (mkL a1 m 59 #[.val (.ref a1), .val (.int p2), .val (.ref a3), .unset, .unset] [(.ref w_EXECUTE)]))
  obtain ⟨T6, X6, e6, st6⟩ := getS2 X5 hx hZ hown (host := "") (Or.inl (hw _ (List.mem_of_getElem? (i := 50) rfl))) Via.refl e5 (oldSta O1 S_w_EXECUTE) (g := (mkL a1 m 59 #[.val (.ref a1), .val (.int p2), .val (.ref a3), .unset, .unset] [(.ref w_EXECUTE)])) rfl (hb hby d8_59)
  refine Go.st st6 ?_
  show Go p e below _ (T6.setTop (mkL a1 m 62 #[.val (.ref a1), .val (.int p2), .val (.ref a3), .unset, .unset] [(.ref w_EXECUTE), (.ref w_EXECUTE)]))
  refine Go.st (fun _ => fun k => Jvm.RoadKit.acmp (g := (mkL a1 m 62 #[.val (.ref a1), .val (.int p2), .val (.ref a3), .unset, .unset] [(.ref w_EXECUTE), (.ref w_EXECUTE)])) X6 hx rfl rfl rfl (pc0 := 62) (pc' := 65) (same := true) rfl (hb hby d8_62) rfl (decide_eq_true rfl) (by decide) (by decide) k) ?_
  show Go p e below _ (T6.setTop (mkL a1 m 65 #[.val (.ref a1), .val (.int p2), .val (.ref a3), .unset, .unset] []))
  refine Go.st (fun _ => XS.iconst X6.here hx rfl (hb hby d8_65)) ?_
  show Go p e below _ (T6.setTop (mkL a1 m 66 #[.val (.ref a1), .val (.int p2), .val (.ref a3), .unset, .unset] [(.int (1 : Int32))]))
  refine Go.st (fun _ => XS.goto X6.here hx rfl (pc0 := 66) (pc' := 70) rfl (hb hby d8_66) (by decide) (by decide)) ?_
  show Go p e below _ (T6.setTop (mkL a1 m 70 #[.val (.ref a1), .val (.int p2), .val (.ref a3), .unset, .unset] [(.int (1 : Int32))]))
  refine Go.st (fun _ => XS.istoreN X6.here hx rfl (hb hby d8_70) rfl (l' := #[.val (.ref a1), .val (.int p2), .val (.ref a3), .val (.int (1 : Int32)), .unset]) rfl) ?_
  show Go p e below _ (T6.setTop (mkL a1 m 71 #[.val (.ref a1), .val (.int p2), .val (.ref a3), .val (.int (1 : Int32)), .unset] []))
  refine Go.st (fun _ => XS.iloadN X6.here hx rfl (hb hby d8_71) rfl) ?_
  show Go p e below _ (T6.setTop (mkL a1 m 72 #[.val (.ref a1), .val (.int p2), .val (.ref a3), .val (.int (1 : Int32)), .unset] [(.int (1 : Int32))]))
  refine Go.st (fun _ => XS.ifNo X6.here hx rfl (hb hby d8_72) rfl ((if0 _ _).trans (feq (by decide : ¬ ((1 : Int32) = (0 : Int32)))).1)) ?_
  show Go p e below _ (T6.setTop (mkL a1 m 75 #[.val (.ref a1), .val (.int p2), .val (.ref a3), .val (.int (1 : Int32)), .unset] []))
  refine Go.st (fun _ => XS.aloadN X6.here hx rfl (hb hby d8_75) rfl rfl) ?_
  show Go p e below _ (T6.setTop (mkL a1 m 76 #[.val (.ref a1), .val (.int p2), .val (.ref a3), .val (.int (1 : Int32)), .unset] [(.ref a1)]))
  obtain ⟨T7, X7, e7, st7⟩ := getF X6 hx hZ hown (host := "") (Or.inl (hw _ (List.mem_of_getElem? (i := 60) rfl))) Via.refl e6 F_queued' (g := (mkL a1 m 76 #[.val (.ref a1), .val (.int p2), .val (.ref a3), .val (.int (1 : Int32)), .unset] [(.ref a1)])) rfl rfl (hb hby d8_76)
  refine Go.st st7 ?_
  show Go p e below _ (T7.setTop (mkL a1 m 79 #[.val (.ref a1), .val (.int p2), .val (.ref a3), .val (.int (1 : Int32)), .unset] [(.int (0 : Int32))]))
  refine Go.st (fun _ => XS.ifYes X7.here hx rfl (pc0 := 79) (pc' := 86) rfl (hb hby d8_79) rfl ((if0 _ _).trans (teq (by decide : (0 : Int32) = (0 : Int32))).1) (by decide) (by decide)) ?_
  show Go p e below _ (T7.setTop (mkL a1 m 86 #[.val (.ref a1), .val (.int p2), .val (.ref a3), .val (.int (1 : Int32)), .unset] []))
  refine Go.st (fun _ => XS.iconst X7.here hx rfl (hb hby d8_86)) ?_
  show Go p e below _ (T7.setTop (mkL a1 m 87 #[.val (.ref a1), .val (.int p2), .val (.ref a3), .val (.int (1 : Int32)), .unset] [(.int (0 : Int32))]))
  refine Go.st (fun _ => XS.istore X7.here hx rfl (hb hby d8_87) rfl (l' := #[.val (.ref a1), .val (.int p2), .val (.ref a3), .val (.int (1 : Int32)), .val (.int (0 : Int32))]) rfl) ?_
  show Go p e below _ (T7.setTop (mkL a1 m 89 #[.val (.ref a1), .val (.int p2), .val (.ref a3), .val (.int (1 : Int32)), .val (.int (0 : Int32))] []))
  refine Go.st (fun _ => XS.iload X7.here hx rfl (hb hby d8_89) rfl) ?_
  show Go p e below _ (T7.setTop (mkL a1 m 91 #[.val (.ref a1), .val (.int p2), .val (.ref a3), .val (.int (1 : Int32)), .val (.int (0 : Int32))] [(.int (0 : Int32))]))
  refine Go.st (fun _ => XS.ifYes X7.here hx rfl (pc0 := 91) (pc' := 102) rfl (hb hby d8_91) rfl ((if0 _ _).trans (teq (by decide : (0 : Int32) = (0 : Int32))).1) (by decide) (by decide)) ?_
  show Go p e below _ (T7.setTop (mkL a1 m 102 #[.val (.ref a1), .val (.int p2), .val (.ref a3), .val (.int (1 : Int32)), .val (.int (0 : Int32))] []))
  refine Go.st (fun _ => XS.aloadN X7.here hx rfl (hb hby d8_102) rfl rfl) ?_
  show Go p e below _ (T7.setTop (mkL a1 m 103 #[.val (.ref a1), .val (.int p2), .val (.ref a3), .val (.int (1 : Int32)), .val (.int (0 : Int32))] [(.ref a1)]))
  refine Go.st (fun _ => XS.iconst X7.here hx rfl (hb hby d8_103)) ?_
  show Go p e below _ (T7.setTop (mkL a1 m 104 #[.val (.ref a1), .val (.int p2), .val (.ref a3), .val (.int (1 : Int32)), .val (.int (0 : Int32))] [(.int (1 : Int32)), (.ref a1)]))
  obtain ⟨T8, h8, X8, e8, W8, st8⟩ := putFN X7 hx hZ hown (hw _ (List.mem_of_getElem? (i := 41) rfl)) Via.refl e7 F_cancelled' A_a1' (Or.inl (hw _ (List.mem_of_getElem? (i := 42) rfl))) (hw _ (List.mem_of_getElem? (i := 1) rfl)) (ty := .boolean) (v' := .int (nar .boolean (1 : Int32))) (by decide) rfl (fits_nar_bool _) (g := (mkL a1 m 104 #[.val (.ref a1), .val (.int p2), .val (.ref a3), .val (.int (1 : Int32)), .val (.int (0 : Int32))] [(.int (1 : Int32)), (.ref a1)])) rfl rfl (hb hby d8_104)
  refine Go.st st8 ?_
  have O9 : Old Z n0 h8 := O1.wr W8 g_a1
  have K10 : Keep h0 h8 [a1] := K0.wr W8 (Or.inl (List.mem_of_getElem? (i := 0) rfl))
  have E_11 : Exa Z h8 a1 "com/example/sidelane/sidelane/Cancellation" := A_a1'.wr W8
  have F12 : Fld Z h8 a1 "com/example/sidelane/sidelane/Cancellation" "claimedBy" "Lcom/example/sidelane/sidelane/Cancellation$Claimant;" (.ref w_EXECUTE) := F_claimedBy'.other W8 (Or.inr (slot_ne (Or.inl (hw _ (List.mem_of_getElem? (i := 22) rfl))) (Or.inl (hw _ (List.mem_of_getElem? (i := 42) rfl))) (by decide) (t := (.object "com/example/sidelane/sidelane/Cancellation$Claimant")) (t' := .boolean) (by decide) (by decide)))
  have F13 : Fld Z h8 a1 "com/example/sidelane/sidelane/Cancellation" "endingBegun" "Z" (.int (0 : Int32)) := F_endingBegun'.other W8 (Or.inr (slot_ne (Or.inl (hw _ (List.mem_of_getElem? (i := 49) rfl))) (Or.inl (hw _ (List.mem_of_getElem? (i := 42) rfl))) (by decide) (t := .boolean) (t' := .boolean) (by decide) (by decide)))
  have F14 : Fld Z h8 a1 "com/example/sidelane/sidelane/Cancellation" "queued" "Z" (.int (0 : Int32)) := F_queued'.other W8 (Or.inr (slot_ne (Or.inl (hw _ (List.mem_of_getElem? (i := 61) rfl))) (Or.inl (hw _ (List.mem_of_getElem? (i := 42) rfl))) (by decide) (t := .boolean) (t' := .boolean) (by decide) (by decide)))
  have F15 : Fld Z h8 a1 "com/example/sidelane/sidelane/Cancellation" "runner" "Ljava/lang/Thread;" .null := F_runner'.other W8 (Or.inr (slot_ne (Or.inl (hw _ (List.mem_of_getElem? (i := 91) rfl))) (Or.inl (hw _ (List.mem_of_getElem? (i := 42) rfl))) (by decide) (t := (.object "java/lang/Thread")) (t' := .boolean) (by decide) (by decide)))
  have F16 : Fld Z h8 a1 "com/example/sidelane/sidelane/Cancellation" "cancelEnding" "Ljava/lang/Object;" en := F_cancelEnding'.other W8 (Or.inr (slot_ne (Or.inl (hw _ (List.mem_of_getElem? (i := 58) rfl))) (Or.inl (hw _ (List.mem_of_getElem? (i := 42) rfl))) (by decide) (t := (.object "java/lang/Object")) (t' := .boolean) (by decide) (by decide)))
  have F17 : Fld Z h8 a1 "com/example/sidelane/sidelane/Cancellation" "cancelOutcome" "Lcom/example/sidelane/sidelane/Cancellation$Outcome;" oc := F_cancelOutcome'.other W8 (Or.inr (slot_ne (Or.inl (hw _ (List.mem_of_getElem? (i := 56) rfl))) (Or.inl (hw _ (List.mem_of_getElem? (i := 42) rfl))) (by decide) (t := (.object "com/example/sidelane/sidelane/Cancellation$Outcome")) (t' := .boolean) (by decide) (by decide)))
  have F18 : Fld Z h8 a1 "com/example/sidelane/sidelane/Cancellation" "cancelled" "Z" (.int (1 : Int32)) := F_cancelled'.same W8
  have N8 := Fr.snoc X8 N0 g_a1
  show Go p e below _ (T8.setTop (mkL a1 m 107 #[.val (.ref a1), .val (.int p2), .val (.ref a3), .val (.int (1 : Int32)), .val (.int (0 : Int32))] []))
  refine Go.st (fun _ => XS.iloadN X8.here hx rfl (hb hby d8_107) rfl) ?_
  show Go p e below _ (T8.setTop (mkL a1 m 108 #[.val (.ref a1), .val (.int p2), .val (.ref a3), .val (.int (1 : Int32)), .val (.int (0 : Int32))] [(.int p2)]))
  by_cases hc19 : p2 = (0 : Int32)
  · refine Go.st (fun _ => XS.ifYes X8.here hx rfl (pc0 := 108) (pc' := 125) rfl (hb hby d8_108) rfl ((if0 _ _).trans (teq hc19).1) (by decide) (by decide)) ?_
    show Go p e below _ (T8.setTop (mkL a1 m 125 #[.val (.ref a1), .val (.int p2), .val (.ref a3), .val (.int (1 : Int32)), .val (.int (0 : Int32))] []))
    refine Go.st (fun _ => XS.iloadN X8.here hx rfl (hb hby d8_125) rfl) ?_
    show Go p e below _ (T8.setTop (mkL a1 m 126 #[.val (.ref a1), .val (.int p2), .val (.ref a3), .val (.int (1 : Int32)), .val (.int (0 : Int32))] [(.int (1 : Int32))]))
    refine Go.st (fun _ => XS.ifYes X8.here hx rfl (pc0 := 126) (pc' := 139) rfl (hb hby d8_126) rfl ((if0 _ _).trans (feq (by decide : ¬ ((1 : Int32) = (0 : Int32)))).2) (by decide) (by decide)) ?_
    show Go p e below _ (T8.setTop (mkL a1 m 139 #[.val (.ref a1), .val (.int p2), .val (.ref a3), .val (.int (1 : Int32)), .val (.int (0 : Int32))] []))
    refine Go.st (fun _ => XS.aloadN X8.here hx rfl (hb hby d8_139) rfl rfl) ?_
    show Go p e below _ (T8.setTop (mkL a1 m 140 #[.val (.ref a1), .val (.int p2), .val (.ref a3), .val (.int (1 : Int32)), .val (.int (0 : Int32))] [(.ref a1)]))
    obtain ⟨T20, X20, e20, st20⟩ := getF X8 hx hZ hown (host := "") (Or.inl (hw _ (List.mem_of_getElem? (i := 60) rfl))) Via.refl e8 F14 (g := (mkL a1 m 140 #[.val (.ref a1), .val (.int p2), .val (.ref a3), .val (.int (1 : Int32)), .val (.int (0 : Int32))] [(.ref a1)])) rfl rfl (hb hby d8_140)
    refine Go.st st20 ?_
    show Go p e below _ (T20.setTop (mkL a1 m 143 #[.val (.ref a1), .val (.int p2), .val (.ref a3), .val (.int (1 : Int32)), .val (.int (0 : Int32))] [(.int (0 : Int32))]))
    refine Go.st (fun _ => XS.ifYes X20.here hx rfl (pc0 := 143) (pc' := 156) rfl (hb hby d8_143) rfl ((if0 _ _).trans (teq (by decide : (0 : Int32) = (0 : Int32))).1) (by decide) (by decide)) ?_
    show Go p e below _ (T20.setTop (mkL a1 m 156 #[.val (.ref a1), .val (.int p2), .val (.ref a3), .val (.int (1 : Int32)), .val (.int (0 : Int32))] []))
    refine Go.st (fun _ => XS.aloadN X20.here hx rfl (hb hby d8_156) rfl rfl) ?_
    show Go p e below _ (T20.setTop (mkL a1 m 157 #[.val (.ref a1), .val (.int p2), .val (.ref a3), .val (.int (1 : Int32)), .val (.int (0 : Int32))] [(.ref a1)]))
    obtain ⟨T21, X21, e21, st21⟩ := getS2 X20 hx hZ hown (host := "") (Or.inl (hw _ (List.mem_of_getElem? (i := 62) rfl))) Via.refl e20 (oldSta O9 S_w_CANCELLED) (g := (mkL a1 m 157 #[.val (.ref a1), .val (.int p2), .val (.ref a3), .val (.int (1 : Int32)), .val (.int (0 : Int32))] [(.ref a1)])) rfl (hb hby d8_157)
    refine Go.st st21 ?_
    show Go p e below _ (T21.setTop (mkL a1 m 160 #[.val (.ref a1), .val (.int p2), .val (.ref a3), .val (.int (1 : Int32)), .val (.int (0 : Int32))] [(.ref w_CANCELLED), (.ref a1)]))
    obtain ⟨T22, h22, X22, e22, W22, st22⟩ := putF X21 hx hZ hown (host := "") (Or.inl (hw _ (List.mem_of_getElem? (i := 55) rfl))) Via.refl e21 F17 E_11 (Or.inl (hw _ (List.mem_of_getElem? (i := 56) rfl))) (hw _ (List.mem_of_getElem? (i := 1) rfl)) (ty := (.object "com/example/sidelane/sidelane/Cancellation$Outcome")) (by decide) rfl rfl (g := (mkL a1 m 160 #[.val (.ref a1), .val (.int p2), .val (.ref a3), .val (.int (1 : Int32)), .val (.int (0 : Int32))] [(.ref w_CANCELLED), (.ref a1)])) rfl rfl (hb hby d8_160)
    refine Go.st st22 ?_
    have O23 : Old Z n0 h22 := O9.wr W22 g_a1
    have K24 : Keep h0 h22 [a1] := K10.wr W22 (Or.inl (List.mem_of_getElem? (i := 0) rfl))
    have E_25 : Exa Z h22 a1 "com/example/sidelane/sidelane/Cancellation" := E_11.wr W22
    have F26 : Fld Z h22 a1 "com/example/sidelane/sidelane/Cancellation" "claimedBy" "Lcom/example/sidelane/sidelane/Cancellation$Claimant;" (.ref w_EXECUTE) := F12.other W22 (Or.inr (slot_ne (Or.inl (hw _ (List.mem_of_getElem? (i := 22) rfl))) (Or.inl (hw _ (List.mem_of_getElem? (i := 56) rfl))) (by decide) (t := (.object "com/example/sidelane/sidelane/Cancellation$Claimant")) (t' := (.object "com/example/sidelane/sidelane/Cancellation$Outcome")) (by decide) (by decide)))
    have F27 : Fld Z h22 a1 "com/example/sidelane/sidelane/Cancellation" "endingBegun" "Z" (.int (0 : Int32)) := F13.other W22 (Or.inr (slot_ne (Or.inl (hw _ (List.mem_of_getElem? (i := 49) rfl))) (Or.inl (hw _ (List.mem_of_getElem? (i := 56) rfl))) (by decide) (t := .boolean) (t' := (.object "com/example/sidelane/sidelane/Cancellation$Outcome")) (by decide) (by decide)))
    have F28 : Fld Z h22 a1 "com/example/sidelane/sidelane/Cancellation" "queued" "Z" (.int (0 : Int32)) := F14.other W22 (Or.inr (slot_ne (Or.inl (hw _ (List.mem_of_getElem? (i := 61) rfl))) (Or.inl (hw _ (List.mem_of_getElem? (i := 56) rfl))) (by decide) (t := .boolean) (t' := (.object "com/example/sidelane/sidelane/Cancellation$Outcome")) (by decide) (by decide)))
    have F29 : Fld Z h22 a1 "com/example/sidelane/sidelane/Cancellation" "runner" "Ljava/lang/Thread;" .null := F15.other W22 (Or.inr (slot_ne (Or.inl (hw _ (List.mem_of_getElem? (i := 91) rfl))) (Or.inl (hw _ (List.mem_of_getElem? (i := 56) rfl))) (by decide) (t := (.object "java/lang/Thread")) (t' := (.object "com/example/sidelane/sidelane/Cancellation$Outcome")) (by decide) (by decide)))
    have F30 : Fld Z h22 a1 "com/example/sidelane/sidelane/Cancellation" "cancelEnding" "Ljava/lang/Object;" en := F16.other W22 (Or.inr (slot_ne (Or.inl (hw _ (List.mem_of_getElem? (i := 58) rfl))) (Or.inl (hw _ (List.mem_of_getElem? (i := 56) rfl))) (by decide) (t := (.object "java/lang/Object")) (t' := (.object "com/example/sidelane/sidelane/Cancellation$Outcome")) (by decide) (by decide)))
    have F31 : Fld Z h22 a1 "com/example/sidelane/sidelane/Cancellation" "cancelled" "Z" (.int (1 : Int32)) := F18.other W22 (Or.inr (slot_ne (Or.inl (hw _ (List.mem_of_getElem? (i := 42) rfl))) (Or.inl (hw _ (List.mem_of_getElem? (i := 56) rfl))) (by decide) (t := .boolean) (t' := (.object "com/example/sidelane/sidelane/Cancellation$Outcome")) (by decide) (by decide)))
    have F32 : Fld Z h22 a1 "com/example/sidelane/sidelane/Cancellation" "cancelOutcome" "Lcom/example/sidelane/sidelane/Cancellation$Outcome;" (.ref w_CANCELLED) := F17.same W22
    have N22 := Fr.snoc X22 N8 g_a1
    show Go p e below _ (T22.setTop (mkL a1 m 163 #[.val (.ref a1), .val (.int p2), .val (.ref a3), .val (.int (1 : Int32)), .val (.int (0 : Int32))] []))
    refine Go.st (fun _ => XS.aloadN X22.here hx rfl (hb hby d8_163) rfl rfl) ?_
    show Go p e below _ (T22.setTop (mkL a1 m 164 #[.val (.ref a1), .val (.int p2), .val (.ref a3), .val (.int (1 : Int32)), .val (.int (0 : Int32))] [(.ref a1)]))
    refine Go.st (fun _ => XS.aloadN X22.here hx rfl (hb hby d8_164) rfl rfl) ?_
    show Go p e below _ (T22.setTop (mkL a1 m 165 #[.val (.ref a1), .val (.int p2), .val (.ref a3), .val (.int (1 : Int32)), .val (.int (0 : Int32))] [(.ref a3), (.ref a1)]))
    obtain ⟨T33, h33, X33, e33, W33, st33⟩ := putF X22 hx hZ hown (host := "") (Or.inl (hw _ (List.mem_of_getElem? (i := 57) rfl))) Via.refl e22 F30 E_25 (Or.inl (hw _ (List.mem_of_getElem? (i := 58) rfl))) (hw _ (List.mem_of_getElem? (i := 1) rfl)) (ty := (.object "java/lang/Object")) (by decide) rfl rfl (g := (mkL a1 m 165 #[.val (.ref a1), .val (.int p2), .val (.ref a3), .val (.int (1 : Int32)), .val (.int (0 : Int32))] [(.ref a3), (.ref a1)])) rfl rfl (hb hby d8_165)
    refine Go.st st33 ?_
    have O34 : Old Z n0 h33 := O23.wr W33 g_a1
    have K35 : Keep h0 h33 [a1] := K24.wr W33 (Or.inl (List.mem_of_getElem? (i := 0) rfl))
    have E_36 : Exa Z h33 a1 "com/example/sidelane/sidelane/Cancellation" := E_25.wr W33
    have F37 : Fld Z h33 a1 "com/example/sidelane/sidelane/Cancellation" "claimedBy" "Lcom/example/sidelane/sidelane/Cancellation$Claimant;" (.ref w_EXECUTE) := F26.other W33 (Or.inr (slot_ne (Or.inl (hw _ (List.mem_of_getElem? (i := 22) rfl))) (Or.inl (hw _ (List.mem_of_getElem? (i := 58) rfl))) (by decide) (t := (.object "com/example/sidelane/sidelane/Cancellation$Claimant")) (t' := (.object "java/lang/Object")) (by decide) (by decide)))
    have F38 : Fld Z h33 a1 "com/example/sidelane/sidelane/Cancellation" "endingBegun" "Z" (.int (0 : Int32)) := F27.other W33 (Or.inr (slot_ne (Or.inl (hw _ (List.mem_of_getElem? (i := 49) rfl))) (Or.inl (hw _ (List.mem_of_getElem? (i := 58) rfl))) (by decide) (t := .boolean) (t' := (.object "java/lang/Object")) (by decide) (by decide)))
    have F39 : Fld Z h33 a1 "com/example/sidelane/sidelane/Cancellation" "queued" "Z" (.int (0 : Int32)) := F28.other W33 (Or.inr (slot_ne (Or.inl (hw _ (List.mem_of_getElem? (i := 61) rfl))) (Or.inl (hw _ (List.mem_of_getElem? (i := 58) rfl))) (by decide) (t := .boolean) (t' := (.object "java/lang/Object")) (by decide) (by decide)))
    have F40 : Fld Z h33 a1 "com/example/sidelane/sidelane/Cancellation" "runner" "Ljava/lang/Thread;" .null := F29.other W33 (Or.inr (slot_ne (Or.inl (hw _ (List.mem_of_getElem? (i := 91) rfl))) (Or.inl (hw _ (List.mem_of_getElem? (i := 58) rfl))) (by decide) (t := (.object "java/lang/Thread")) (t' := (.object "java/lang/Object")) (by decide) (by decide)))
    have F41 : Fld Z h33 a1 "com/example/sidelane/sidelane/Cancellation" "cancelled" "Z" (.int (1 : Int32)) := F31.other W33 (Or.inr (slot_ne (Or.inl (hw _ (List.mem_of_getElem? (i := 42) rfl))) (Or.inl (hw _ (List.mem_of_getElem? (i := 58) rfl))) (by decide) (t := .boolean) (t' := (.object "java/lang/Object")) (by decide) (by decide)))
    have F42 : Fld Z h33 a1 "com/example/sidelane/sidelane/Cancellation" "cancelOutcome" "Lcom/example/sidelane/sidelane/Cancellation$Outcome;" (.ref w_CANCELLED) := F32.other W33 (Or.inr (slot_ne (Or.inl (hw _ (List.mem_of_getElem? (i := 56) rfl))) (Or.inl (hw _ (List.mem_of_getElem? (i := 58) rfl))) (by decide) (t := (.object "com/example/sidelane/sidelane/Cancellation$Outcome")) (t' := (.object "java/lang/Object")) (by decide) (by decide)))
    have F43 : Fld Z h33 a1 "com/example/sidelane/sidelane/Cancellation" "cancelEnding" "Ljava/lang/Object;" (.ref a3) := F30.same W33
    have N33 := Fr.snoc X33 N22 g_a1
    show Go p e below _ (T33.setTop (mkL a1 m 168 #[.val (.ref a1), .val (.int p2), .val (.ref a3), .val (.int (1 : Int32)), .val (.int (0 : Int32))] []))
    refine Go.st (fun _ => XS.aloadN X33.here hx rfl (hb hby d8_168) rfl rfl) ?_
    show Go p e below _ (T33.setTop (mkL a1 m 169 #[.val (.ref a1), .val (.int p2), .val (.ref a3), .val (.int (1 : Int32)), .val (.int (0 : Int32))] [(.ref a1)]))
    obtain ⟨T44, X44, e44, st44⟩ := getF X33 hx hZ hown (host := "") (Or.inl (hw _ (List.mem_of_getElem? (i := 55) rfl))) Via.refl e33 F42 (g := (mkL a1 m 169 #[.val (.ref a1), .val (.int p2), .val (.ref a3), .val (.int (1 : Int32)), .val (.int (0 : Int32))] [(.ref a1)])) rfl rfl (hb hby d8_169)
    refine Go.st st44 ?_
    show Go p e below _ (T44.setTop (mkL a1 m 172 #[.val (.ref a1), .val (.int p2), .val (.ref a3), .val (.int (1 : Int32)), .val (.int (0 : Int32))] [(.ref w_CANCELLED)]))
    refine goRetS (v := some (.ref w_CANCELLED)) X44 hs hcell hmon hlk (fun h => by rw [hret] at h; cases h) e44 (fun V hV => retS X44 hx hret rfl (Or.inr (Or.inr (Or.inr (Or.inr ⟨rfl, rfl, rfl⟩)))) (hb hby d8_172) hV) (by decide) (by decide) (fun h' M' K' hm' => ?_)
    exact ⟨⟨_, rfl⟩, N33, (K35.trans K' (allS (Or.inl (List.mem_singleton_self _)) all0)), ⟨(E_36.mon M'), (untEnd U0 (K35.trans K' (allS (Or.inl (List.mem_singleton_self _)) all0)) hm'), (F37.mon M'), (F41.mon M'), (F38.mon M'), (F39.mon M'), (F40.mon M'), (F43.mon M'), (F42.mon M')⟩⟩
  · refine Go.st (fun _ => XS.ifNo X8.here hx rfl (hb hby d8_108) rfl ((if0 _ _).trans (feq hc19).1)) ?_
    show Go p e below _ (T8.setTop (mkL a1 m 111 #[.val (.ref a1), .val (.int p2), .val (.ref a3), .val (.int (1 : Int32)), .val (.int (0 : Int32))] []))
    refine Go.st (fun _ => XS.aloadN X8.here hx rfl (hb hby d8_111) rfl rfl) ?_
    show Go p e below _ (T8.setTop (mkL a1 m 112 #[.val (.ref a1), .val (.int p2), .val (.ref a3), .val (.int (1 : Int32)), .val (.int (0 : Int32))] [(.ref a1)]))
    obtain ⟨T45, X45, e45, st45⟩ := getF X8 hx hZ hown (host := "") (Or.inl (hw _ (List.mem_of_getElem? (i := 90) rfl))) Via.refl e8 F15 (g := (mkL a1 m 112 #[.val (.ref a1), .val (.int p2), .val (.ref a3), .val (.int (1 : Int32)), .val (.int (0 : Int32))] [(.ref a1)])) rfl rfl (hb hby d8_112)
    refine Go.st st45 ?_
    show Go p e below _ (T45.setTop (mkL a1 m 115 #[.val (.ref a1), .val (.int p2), .val (.ref a3), .val (.int (1 : Int32)), .val (.int (0 : Int32))] [.null]))
    refine Go.st (fun _ => XS.ifnullYes X45.here hx rfl (pc0 := 115) (pc' := 125) rfl (hb hby d8_115) rfl (by decide) (by decide)) ?_
    show Go p e below _ (T45.setTop (mkL a1 m 125 #[.val (.ref a1), .val (.int p2), .val (.ref a3), .val (.int (1 : Int32)), .val (.int (0 : Int32))] []))
    refine Go.st (fun _ => XS.iloadN X45.here hx rfl (hb hby d8_125) rfl) ?_
    show Go p e below _ (T45.setTop (mkL a1 m 126 #[.val (.ref a1), .val (.int p2), .val (.ref a3), .val (.int (1 : Int32)), .val (.int (0 : Int32))] [(.int (1 : Int32))]))
    refine Go.st (fun _ => XS.ifYes X45.here hx rfl (pc0 := 126) (pc' := 139) rfl (hb hby d8_126) rfl ((if0 _ _).trans (feq (by decide : ¬ ((1 : Int32) = (0 : Int32)))).2) (by decide) (by decide)) ?_
    show Go p e below _ (T45.setTop (mkL a1 m 139 #[.val (.ref a1), .val (.int p2), .val (.ref a3), .val (.int (1 : Int32)), .val (.int (0 : Int32))] []))
    refine Go.st (fun _ => XS.aloadN X45.here hx rfl (hb hby d8_139) rfl rfl) ?_
    show Go p e below _ (T45.setTop (mkL a1 m 140 #[.val (.ref a1), .val (.int p2), .val (.ref a3), .val (.int (1 : Int32)), .val (.int (0 : Int32))] [(.ref a1)]))
    obtain ⟨T46, X46, e46, st46⟩ := getF X45 hx hZ hown (host := "") (Or.inl (hw _ (List.mem_of_getElem? (i := 60) rfl))) Via.refl e45 F14 (g := (mkL a1 m 140 #[.val (.ref a1), .val (.int p2), .val (.ref a3), .val (.int (1 : Int32)), .val (.int (0 : Int32))] [(.ref a1)])) rfl rfl (hb hby d8_140)
    refine Go.st st46 ?_
    show Go p e below _ (T46.setTop (mkL a1 m 143 #[.val (.ref a1), .val (.int p2), .val (.ref a3), .val (.int (1 : Int32)), .val (.int (0 : Int32))] [(.int (0 : Int32))]))
    refine Go.st (fun _ => XS.ifYes X46.here hx rfl (pc0 := 143) (pc' := 156) rfl (hb hby d8_143) rfl ((if0 _ _).trans (teq (by decide : (0 : Int32) = (0 : Int32))).1) (by decide) (by decide)) ?_
    show Go p e below _ (T46.setTop (mkL a1 m 156 #[.val (.ref a1), .val (.int p2), .val (.ref a3), .val (.int (1 : Int32)), .val (.int (0 : Int32))] []))
    refine Go.st (fun _ => XS.aloadN X46.here hx rfl (hb hby d8_156) rfl rfl) ?_
    show Go p e below _ (T46.setTop (mkL a1 m 157 #[.val (.ref a1), .val (.int p2), .val (.ref a3), .val (.int (1 : Int32)), .val (.int (0 : Int32))] [(.ref a1)]))
    obtain ⟨T47, X47, e47, st47⟩ := getS2 X46 hx hZ hown (host := "") (Or.inl (hw _ (List.mem_of_getElem? (i := 62) rfl))) Via.refl e46 (oldSta O9 S_w_CANCELLED) (g := (mkL a1 m 157 #[.val (.ref a1), .val (.int p2), .val (.ref a3), .val (.int (1 : Int32)), .val (.int (0 : Int32))] [(.ref a1)])) rfl (hb hby d8_157)
    refine Go.st st47 ?_
    show Go p e below _ (T47.setTop (mkL a1 m 160 #[.val (.ref a1), .val (.int p2), .val (.ref a3), .val (.int (1 : Int32)), .val (.int (0 : Int32))] [(.ref w_CANCELLED), (.ref a1)]))
    obtain ⟨T48, h48, X48, e48, W48, st48⟩ := putF X47 hx hZ hown (host := "") (Or.inl (hw _ (List.mem_of_getElem? (i := 55) rfl))) Via.refl e47 F17 E_11 (Or.inl (hw _ (List.mem_of_getElem? (i := 56) rfl))) (hw _ (List.mem_of_getElem? (i := 1) rfl)) (ty := (.object "com/example/sidelane/sidelane/Cancellation$Outcome")) (by decide) rfl rfl (g := (mkL a1 m 160 #[.val (.ref a1), .val (.int p2), .val (.ref a3), .val (.int (1 : Int32)), .val (.int (0 : Int32))] [(.ref w_CANCELLED), (.ref a1)])) rfl rfl (hb hby d8_160)
    refine Go.st st48 ?_
    have O49 : Old Z n0 h48 := O9.wr W48 g_a1
    have K50 : Keep h0 h48 [a1] := K10.wr W48 (Or.inl (List.mem_of_getElem? (i := 0) rfl))
    have E_51 : Exa Z h48 a1 "com/example/sidelane/sidelane/Cancellation" := E_11.wr W48
    have F52 : Fld Z h48 a1 "com/example/sidelane/sidelane/Cancellation" "claimedBy" "Lcom/example/sidelane/sidelane/Cancellation$Claimant;" (.ref w_EXECUTE) := F12.other W48 (Or.inr (slot_ne (Or.inl (hw _ (List.mem_of_getElem? (i := 22) rfl))) (Or.inl (hw _ (List.mem_of_getElem? (i := 56) rfl))) (by decide) (t := (.object "com/example/sidelane/sidelane/Cancellation$Claimant")) (t' := (.object "com/example/sidelane/sidelane/Cancellation$Outcome")) (by decide) (by decide)))
    have F53 : Fld Z h48 a1 "com/example/sidelane/sidelane/Cancellation" "endingBegun" "Z" (.int (0 : Int32)) := F13.other W48 (Or.inr (slot_ne (Or.inl (hw _ (List.mem_of_getElem? (i := 49) rfl))) (Or.inl (hw _ (List.mem_of_getElem? (i := 56) rfl))) (by decide) (t := .boolean) (t' := (.object "com/example/sidelane/sidelane/Cancellation$Outcome")) (by decide) (by decide)))
    have F54 : Fld Z h48 a1 "com/example/sidelane/sidelane/Cancellation" "queued" "Z" (.int (0 : Int32)) := F14.other W48 (Or.inr (slot_ne (Or.inl (hw _ (List.mem_of_getElem? (i := 61) rfl))) (Or.inl (hw _ (List.mem_of_getElem? (i := 56) rfl))) (by decide) (t := .boolean) (t' := (.object "com/example/sidelane/sidelane/Cancellation$Outcome")) (by decide) (by decide)))
    have F55 : Fld Z h48 a1 "com/example/sidelane/sidelane/Cancellation" "runner" "Ljava/lang/Thread;" .null := F15.other W48 (Or.inr (slot_ne (Or.inl (hw _ (List.mem_of_getElem? (i := 91) rfl))) (Or.inl (hw _ (List.mem_of_getElem? (i := 56) rfl))) (by decide) (t := (.object "java/lang/Thread")) (t' := (.object "com/example/sidelane/sidelane/Cancellation$Outcome")) (by decide) (by decide)))
    have F56 : Fld Z h48 a1 "com/example/sidelane/sidelane/Cancellation" "cancelEnding" "Ljava/lang/Object;" en := F16.other W48 (Or.inr (slot_ne (Or.inl (hw _ (List.mem_of_getElem? (i := 58) rfl))) (Or.inl (hw _ (List.mem_of_getElem? (i := 56) rfl))) (by decide) (t := (.object "java/lang/Object")) (t' := (.object "com/example/sidelane/sidelane/Cancellation$Outcome")) (by decide) (by decide)))
    have F57 : Fld Z h48 a1 "com/example/sidelane/sidelane/Cancellation" "cancelled" "Z" (.int (1 : Int32)) := F18.other W48 (Or.inr (slot_ne (Or.inl (hw _ (List.mem_of_getElem? (i := 42) rfl))) (Or.inl (hw _ (List.mem_of_getElem? (i := 56) rfl))) (by decide) (t := .boolean) (t' := (.object "com/example/sidelane/sidelane/Cancellation$Outcome")) (by decide) (by decide)))
    have F58 : Fld Z h48 a1 "com/example/sidelane/sidelane/Cancellation" "cancelOutcome" "Lcom/example/sidelane/sidelane/Cancellation$Outcome;" (.ref w_CANCELLED) := F17.same W48
    have N48 := Fr.snoc X48 N8 g_a1
    show Go p e below _ (T48.setTop (mkL a1 m 163 #[.val (.ref a1), .val (.int p2), .val (.ref a3), .val (.int (1 : Int32)), .val (.int (0 : Int32))] []))
    refine Go.st (fun _ => XS.aloadN X48.here hx rfl (hb hby d8_163) rfl rfl) ?_
    show Go p e below _ (T48.setTop (mkL a1 m 164 #[.val (.ref a1), .val (.int p2), .val (.ref a3), .val (.int (1 : Int32)), .val (.int (0 : Int32))] [(.ref a1)]))
    refine Go.st (fun _ => XS.aloadN X48.here hx rfl (hb hby d8_164) rfl rfl) ?_
    show Go p e below _ (T48.setTop (mkL a1 m 165 #[.val (.ref a1), .val (.int p2), .val (.ref a3), .val (.int (1 : Int32)), .val (.int (0 : Int32))] [(.ref a3), (.ref a1)]))
    obtain ⟨T59, h59, X59, e59, W59, st59⟩ := putF X48 hx hZ hown (host := "") (Or.inl (hw _ (List.mem_of_getElem? (i := 57) rfl))) Via.refl e48 F56 E_51 (Or.inl (hw _ (List.mem_of_getElem? (i := 58) rfl))) (hw _ (List.mem_of_getElem? (i := 1) rfl)) (ty := (.object "java/lang/Object")) (by decide) rfl rfl (g := (mkL a1 m 165 #[.val (.ref a1), .val (.int p2), .val (.ref a3), .val (.int (1 : Int32)), .val (.int (0 : Int32))] [(.ref a3), (.ref a1)])) rfl rfl (hb hby d8_165)
    refine Go.st st59 ?_
    have O60 : Old Z n0 h59 := O49.wr W59 g_a1
    have K61 : Keep h0 h59 [a1] := K50.wr W59 (Or.inl (List.mem_of_getElem? (i := 0) rfl))
    have E_62 : Exa Z h59 a1 "com/example/sidelane/sidelane/Cancellation" := E_51.wr W59
    have F63 : Fld Z h59 a1 "com/example/sidelane/sidelane/Cancellation" "claimedBy" "Lcom/example/sidelane/sidelane/Cancellation$Claimant;" (.ref w_EXECUTE) := F52.other W59 (Or.inr (slot_ne (Or.inl (hw _ (List.mem_of_getElem? (i := 22) rfl))) (Or.inl (hw _ (List.mem_of_getElem? (i := 58) rfl))) (by decide) (t := (.object "com/example/sidelane/sidelane/Cancellation$Claimant")) (t' := (.object "java/lang/Object")) (by decide) (by decide)))
    have F64 : Fld Z h59 a1 "com/example/sidelane/sidelane/Cancellation" "endingBegun" "Z" (.int (0 : Int32)) := F53.other W59 (Or.inr (slot_ne (Or.inl (hw _ (List.mem_of_getElem? (i := 49) rfl))) (Or.inl (hw _ (List.mem_of_getElem? (i := 58) rfl))) (by decide) (t := .boolean) (t' := (.object "java/lang/Object")) (by decide) (by decide)))
    have F65 : Fld Z h59 a1 "com/example/sidelane/sidelane/Cancellation" "queued" "Z" (.int (0 : Int32)) := F54.other W59 (Or.inr (slot_ne (Or.inl (hw _ (List.mem_of_getElem? (i := 61) rfl))) (Or.inl (hw _ (List.mem_of_getElem? (i := 58) rfl))) (by decide) (t := .boolean) (t' := (.object "java/lang/Object")) (by decide) (by decide)))
    have F66 : Fld Z h59 a1 "com/example/sidelane/sidelane/Cancellation" "runner" "Ljava/lang/Thread;" .null := F55.other W59 (Or.inr (slot_ne (Or.inl (hw _ (List.mem_of_getElem? (i := 91) rfl))) (Or.inl (hw _ (List.mem_of_getElem? (i := 58) rfl))) (by decide) (t := (.object "java/lang/Thread")) (t' := (.object "java/lang/Object")) (by decide) (by decide)))
    have F67 : Fld Z h59 a1 "com/example/sidelane/sidelane/Cancellation" "cancelled" "Z" (.int (1 : Int32)) := F57.other W59 (Or.inr (slot_ne (Or.inl (hw _ (List.mem_of_getElem? (i := 42) rfl))) (Or.inl (hw _ (List.mem_of_getElem? (i := 58) rfl))) (by decide) (t := .boolean) (t' := (.object "java/lang/Object")) (by decide) (by decide)))
    have F68 : Fld Z h59 a1 "com/example/sidelane/sidelane/Cancellation" "cancelOutcome" "Lcom/example/sidelane/sidelane/Cancellation$Outcome;" (.ref w_CANCELLED) := F58.other W59 (Or.inr (slot_ne (Or.inl (hw _ (List.mem_of_getElem? (i := 56) rfl))) (Or.inl (hw _ (List.mem_of_getElem? (i := 58) rfl))) (by decide) (t := (.object "com/example/sidelane/sidelane/Cancellation$Outcome")) (t' := (.object "java/lang/Object")) (by decide) (by decide)))
    have F69 : Fld Z h59 a1 "com/example/sidelane/sidelane/Cancellation" "cancelEnding" "Ljava/lang/Object;" (.ref a3) := F56.same W59
    have N59 := Fr.snoc X59 N48 g_a1
    show Go p e below _ (T59.setTop (mkL a1 m 168 #[.val (.ref a1), .val (.int p2), .val (.ref a3), .val (.int (1 : Int32)), .val (.int (0 : Int32))] []))
    refine Go.st (fun _ => XS.aloadN X59.here hx rfl (hb hby d8_168) rfl rfl) ?_
    show Go p e below _ (T59.setTop (mkL a1 m 169 #[.val (.ref a1), .val (.int p2), .val (.ref a3), .val (.int (1 : Int32)), .val (.int (0 : Int32))] [(.ref a1)]))
    obtain ⟨T70, X70, e70, st70⟩ := getF X59 hx hZ hown (host := "") (Or.inl (hw _ (List.mem_of_getElem? (i := 55) rfl))) Via.refl e59 F68 (g := (mkL a1 m 169 #[.val (.ref a1), .val (.int p2), .val (.ref a3), .val (.int (1 : Int32)), .val (.int (0 : Int32))] [(.ref a1)])) rfl rfl (hb hby d8_169)
    refine Go.st st70 ?_
    show Go p e below _ (T70.setTop (mkL a1 m 172 #[.val (.ref a1), .val (.int p2), .val (.ref a3), .val (.int (1 : Int32)), .val (.int (0 : Int32))] [(.ref w_CANCELLED)]))
    refine goRetS (v := some (.ref w_CANCELLED)) X70 hs hcell hmon hlk (fun h => by rw [hret] at h; cases h) e70 (fun V hV => retS X70 hx hret rfl (Or.inr (Or.inr (Or.inr (Or.inr ⟨rfl, rfl, rfl⟩)))) (hb hby d8_172) hV) (by decide) (by decide) (fun h' M' K' hm' => ?_)
    exact ⟨⟨_, rfl⟩, N59, (K61.trans K' (allS (Or.inl (List.mem_singleton_self _)) all0)), ⟨(E_62.mon M'), (untEnd U0 (K61.trans K' (allS (Or.inl (List.mem_singleton_self _)) all0)) hm'), (F63.mon M'), (F67.mon M'), (F64.mon M'), (F65.mon M'), (F66.mon M'), (F69.mon M'), (F68.mon M')⟩⟩
set_option maxRecDepth 65536 in
set_option maxHeartbeats 40000000 in
theorem caH (l : Launch) (Z : State) (a0 : Array Value) (hw : ∀ d ∈ tables_1, d.before a0 Z = true) (a1 : Addr) (p2 : Int32) (a3 : Addr) (en oc : Value) (w_EXECUTE w_ADOPTER w_CANCELLED w_REFUSED w_HANDED_OVER w_CANCELLED_UNEXECUTED w_ENDING_NEEDED : Addr) (h0 : Heap) (n0 : Nat) (O0 : Old Z n0 h0) (U0 : Unt h0 a1) (g_a1 : n0 ≤ a1) (A_a1 : Exa Z h0 a1 "com/example/sidelane/sidelane/Cancellation") (F_claimedBy : Fld Z h0 a1 "com/example/sidelane/sidelane/Cancellation" "claimedBy" "Lcom/example/sidelane/sidelane/Cancellation$Claimant;" (.ref w_EXECUTE)) (F_cancelled : Fld Z h0 a1 "com/example/sidelane/sidelane/Cancellation" "cancelled" "Z" (.int (0 : Int32))) (F_endingBegun : Fld Z h0 a1 "com/example/sidelane/sidelane/Cancellation" "endingBegun" "Z" (.int (1 : Int32))) (F_queued : Fld Z h0 a1 "com/example/sidelane/sidelane/Cancellation" "queued" "Z" (.int (0 : Int32))) (F_runner : Fld Z h0 a1 "com/example/sidelane/sidelane/Cancellation" "runner" "Ljava/lang/Thread;" .null) (F_cancelEnding : Fld Z h0 a1 "com/example/sidelane/sidelane/Cancellation" "cancelEnding" "Ljava/lang/Object;" en) (F_cancelOutcome : Fld Z h0 a1 "com/example/sidelane/sidelane/Cancellation" "cancelOutcome" "Lcom/example/sidelane/sidelane/Cancellation$Outcome;" oc) (S_w_EXECUTE : Sta Z Z.heap "com/example/sidelane/sidelane/Cancellation$Claimant" "EXECUTE" "Lcom/example/sidelane/sidelane/Cancellation$Claimant;" (.ref w_EXECUTE)) (S_w_ADOPTER : Sta Z Z.heap "com/example/sidelane/sidelane/Cancellation$Claimant" "ADOPTER" "Lcom/example/sidelane/sidelane/Cancellation$Claimant;" (.ref w_ADOPTER)) (S_w_CANCELLED : Sta Z Z.heap "com/example/sidelane/sidelane/Cancellation$Outcome" "CANCELLED" "Lcom/example/sidelane/sidelane/Cancellation$Outcome;" (.ref w_CANCELLED)) (S_w_REFUSED : Sta Z Z.heap "com/example/sidelane/sidelane/Cancellation$Outcome" "REFUSED" "Lcom/example/sidelane/sidelane/Cancellation$Outcome;" (.ref w_REFUSED)) (S_w_HANDED_OVER : Sta Z Z.heap "com/example/sidelane/sidelane/Cancellation$Outcome" "HANDED_OVER" "Lcom/example/sidelane/sidelane/Cancellation$Outcome;" (.ref w_HANDED_OVER)) (S_w_CANCELLED_UNEXECUTED : Sta Z Z.heap "com/example/sidelane/sidelane/Cancellation$Outcome" "CANCELLED_UNEXECUTED" "Lcom/example/sidelane/sidelane/Cancellation$Outcome;" (.ref w_CANCELLED_UNEXECUTED)) (S_w_ENDING_NEEDED : Sta Z Z.heap "com/example/sidelane/sidelane/Cancellation$Outcome" "ENDING_NEEDED" "Lcom/example/sidelane/sidelane/Cancellation$Outcome;" (.ref w_ENDING_NEEDED)) (ne_w_EXECUTE_w_ADOPTER : w_EXECUTE ≠ w_ADOPTER) :
    CtrS l (⟨"com/example/sidelane/sidelane/Cancellation", "cancel", "(ZLjava/lang/Object;)Lcom/example/sidelane/sidelane/Cancellation$Outcome;"⟩ : MethodName) prog_3_method_2_code 5 (some (.object "com/example/sidelane/sidelane/Cancellation$Outcome")) ({ frames := 0, cells := 0, slots := 0, locals := 0 } : Room) #[(.ref a1), (.int p2), (.ref a3)] Z h0 (fun v h L => (∃ r, v = some (.ref r)) ∧ Fr n0 L ∧ Keep h0 h [a1] ∧ own_ob Z h a1 (.ref w_EXECUTE) (0 : Int32) (1 : Int32) en oc) := by
  have ef : ∀ m : MethodId, entryFrameSync m #[(.ref a1), (.int p2), (.ref a3)] 5 a1 = mkL a1 m 0 #[.val (.ref a1), .val (.int p2), .val (.ref a3), .unset, .unset] [] := fun m => by first | rfl | (simp [entryFrameSync, mkL, argsToLocals, Value.category]; done)
  refine CtrS.of (a := a1) (plainFor_of_name pn_8) rfl U0 ?_
  intro p e s0 s m below meth c s₁ cell hx hZ hby hml hown0 hnm hret hlk hs hcell hmon X0 M0 K0
  have hown : s.vm.findClass "com/example/sidelane/sidelane/Cancellation" = some m.cls := hown0
  have N0 := Fr.nil n0
  obtain ⟨h1, e0⟩ : ∃ z, s₁.heap = z := ⟨_, rfl⟩
  rw [e0] at M0 K0
  have O1 := O0.keep K0 (allS g_a1 all0)
  refine Go.st (fun t k => castTop (ef m) k) ?_
  have A_a1' : Exa Z h1 a1 "com/example/sidelane/sidelane/Cancellation" := A_a1.mon M0
  have F_claimedBy' : Fld Z h1 a1 "com/example/sidelane/sidelane/Cancellation" "claimedBy" "Lcom/example/sidelane/sidelane/Cancellation$Claimant;" (.ref w_EXECUTE) := F_claimedBy.mon M0
  have F_cancelled' : Fld Z h1 a1 "com/example/sidelane/sidelane/Cancellation" "cancelled" "Z" (.int (0 : Int32)) := F_cancelled.mon M0
  have F_endingBegun' : Fld Z h1 a1 "com/example/sidelane/sidelane/Cancellation" "endingBegun" "Z" (.int (1 : Int32)) := F_endingBegun.mon M0
  have F_queued' : Fld Z h1 a1 "com/example/sidelane/sidelane/Cancellation" "queued" "Z" (.int (0 : Int32)) := F_queued.mon M0
  have F_runner' : Fld Z h1 a1 "com/example/sidelane/sidelane/Cancellation" "runner" "Ljava/lang/Thread;" .null := F_runner.mon M0
  have F_cancelEnding' : Fld Z h1 a1 "com/example/sidelane/sidelane/Cancellation" "cancelEnding" "Ljava/lang/Object;" en := F_cancelEnding.mon M0
  have F_cancelOutcome' : Fld Z h1 a1 "com/example/sidelane/sidelane/Cancellation" "cancelOutcome" "Lcom/example/sidelane/sidelane/Cancellation$Outcome;" oc := F_cancelOutcome.mon M0
  show Go p e below _ (s₁.setTop (mkL a1 m 0 #[.val (.ref a1), .val (.int p2), .val (.ref a3), .unset, .unset] []))
  refine Go.st (fun _ => XS.aloadN X0.here hx rfl (hb hby d8_0) rfl rfl) ?_
  show Go p e below _ (s₁.setTop (mkL a1 m 1 #[.val (.ref a1), .val (.int p2), .val (.ref a3), .unset, .unset] [(.ref a1)]))
  obtain ⟨T1, X1, e1, st1⟩ := getF X0 hx hZ hown (host := "") (Or.inl (hw _ (List.mem_of_getElem? (i := 21) rfl))) Via.refl e0 F_claimedBy' (g := (mkL a1 m 1 #[.val (.ref a1), .val (.int p2), .val (.ref a3), .unset, .unset] [(.ref a1)])) rfl rfl (hb hby d8_1)
  refine Go.st st1 ?_
  show Go p e below _ (T1.setTop (mkL a1 m 4 #[.val (.ref a1), .val (.int p2), .val (.ref a3), .unset, .unset] [(.ref w_EXECUTE)]))
  obtain ⟨T2, X2, e2, st2⟩ := getS2 X1 hx hZ hown (host := "") (Or.inl (hw _ (List.mem_of_getElem? (i := 23) rfl))) Via.refl e1 (oldSta O1 S_w_ADOPTER) (g := (mkL a1 m 4 #[.val (.ref a1), .val (.int p2), .val (.ref a3), .unset, .unset] [(.ref w_EXECUTE)])) rfl (hb hby d8_4)
  refine Go.st st2 ?_
  show Go p e below _ (T2.setTop (mkL a1 m 7 #[.val (.ref a1), .val (.int p2), .val (.ref a3), .unset, .unset] [(.ref w_ADOPTER), (.ref w_EXECUTE)]))
  refine Go.st (fun _ => fun k => Jvm.RoadKit.acmp (g := (mkL a1 m 7 #[.val (.ref a1), .val (.int p2), .val (.ref a3), .unset, .unset] [(.ref w_ADOPTER), (.ref w_EXECUTE)])) X2 hx rfl rfl rfl (pc0 := 7) (pc' := 14) (same := false) rfl (hb hby d8_7) rfl (decide_eq_false fun q => ne_w_EXECUTE_w_ADOPTER (Value.ref.inj q)) (by decide) (by decide) k) ?_
  show Go p e below _ (T2.setTop (mkL a1 m 14 #[.val (.ref a1), .val (.int p2), .val (.ref a3), .unset, .unset] []))
  refine Go.st (fun _ => XS.aloadN X2.here hx rfl (hb hby d8_14) rfl rfl) ?_
  show Go p e below _ (T2.setTop (mkL a1 m 15 #[.val (.ref a1), .val (.int p2), .val (.ref a3), .unset, .unset] [(.ref a1)]))
  obtain ⟨T3, X3, e3, st3⟩ := getF X2 hx hZ hown (host := "") (Or.inl (hw _ (List.mem_of_getElem? (i := 41) rfl))) Via.refl e2 F_cancelled' (g := (mkL a1 m 15 #[.val (.ref a1), .val (.int p2), .val (.ref a3), .unset, .unset] [(.ref a1)])) rfl rfl (hb hby d8_15)
  refine Go.st st3 ?_
  show Go p e below _ (T3.setTop (mkL a1 m 18 #[.val (.ref a1), .val (.int p2), .val (.ref a3), .unset, .unset] [(.int (0 : Int32))]))
  refine Go.st (fun _ => XS.ifYes X3.here hx rfl (pc0 := 18) (pc' := 44) rfl (hb hby d8_18) rfl ((if0 _ _).trans (teq (by decide : (0 : Int32) = (0 : Int32))).1) (by decide) (by decide)) ?_
  show Go p e below _ (T3.setTop (mkL a1 m 44 #[.val (.ref a1), .val (.int p2), .val (.ref a3), .unset, .unset] []))
  refine Go.st (fun _ => XS.aloadN X3.here hx rfl (hb hby d8_44) rfl rfl) ?_
  show Go p e below _ (T3.setTop (mkL a1 m 45 #[.val (.ref a1), .val (.int p2), .val (.ref a3), .unset, .unset] [(.ref a1)]))
  obtain ⟨T4, X4, e4, st4⟩ := getF X3 hx hZ hown (host := "") (Or.inl (hw _ (List.mem_of_getElem? (i := 48) rfl))) Via.refl e3 F_endingBegun' (g := (mkL a1 m 45 #[.val (.ref a1), .val (.int p2), .val (.ref a3), .unset, .unset] [(.ref a1)])) rfl rfl (hb hby d8_45)
  refine Go.st st4 ?_
  show Go p e below _ (T4.setTop (mkL a1 m 48 #[.val (.ref a1), .val (.int p2), .val (.ref a3), .unset, .unset] [(.int (1 : Int32))]))
  refine Go.st (fun _ => XS.ifNo X4.here hx rfl (hb hby d8_48) rfl ((if0 _ _).trans (feq (by decide : ¬ ((1 : Int32) = (0 : Int32)))).1)) ?_
  show Go p e below _ (T4.setTop (mkL a1 m 51 #[.val (.ref a1), .val (.int p2), .val (.ref a3), .unset, .unset] []))
  obtain ⟨T5, X5, e5, st5⟩ := getS2 X4 hx hZ hown (host := "") (Or.inl (hw _ (List.mem_of_getElem? (i := 84) rfl))) Via.refl e4 (oldSta O1 S_w_REFUSED) (g := (mkL a1 m 51 #[.val (.ref a1), .val (.int p2), .val (.ref a3), .unset, .unset] [])) rfl (hb hby d8_51)
  refine Go.st st5 ?_
  show Go p e below _ (T5.setTop (mkL a1 m 54 #[.val (.ref a1), .val (.int p2), .val (.ref a3), .unset, .unset] [(.ref w_REFUSED)]))
  refine goRetS (v := some (.ref w_REFUSED)) X5 hs hcell hmon hlk (fun h => by rw [hret] at h; cases h) e5 (fun V hV => retS X5 hx hret rfl (Or.inr (Or.inr (Or.inr (Or.inr ⟨rfl, rfl, rfl⟩)))) (hb hby d8_54) hV) (by decide) (by decide) (fun h' M' K' hm' => ?_)
  exact ⟨⟨_, rfl⟩, N0, (K0.trans K' (allS (Or.inl (List.mem_singleton_self _)) all0)), ⟨(A_a1'.mon M'), (untEnd U0 (K0.trans K' (allS (Or.inl (List.mem_singleton_self _)) all0)) hm'), (F_claimedBy'.mon M'), (F_cancelled'.mon M'), (F_endingBegun'.mon M'), (F_queued'.mon M'), (F_runner'.mon M'), (F_cancelEnding'.mon M'), (F_cancelOutcome'.mon M')⟩⟩
set_option maxRecDepth 65536 in
set_option maxHeartbeats 40000000 in
theorem caC (l : Launch) (Z : State) (a0 : Array Value) (hw : ∀ d ∈ tables_1, d.before a0 Z = true) (a1 : Addr) (p2 : Int32) (a3 : Addr) (oc : Value) (w_EXECUTE w_ADOPTER w_CANCELLED w_REFUSED w_HANDED_OVER w_CANCELLED_UNEXECUTED w_ENDING_NEEDED : Addr) (eb : Int32) (h0 : Heap) (n0 : Nat) (O0 : Old Z n0 h0) (U0 : Unt h0 a1) (g_a1 : n0 ≤ a1) (A_a1 : Exa Z h0 a1 "com/example/sidelane/sidelane/Cancellation") (F_claimedBy : Fld Z h0 a1 "com/example/sidelane/sidelane/Cancellation" "claimedBy" "Lcom/example/sidelane/sidelane/Cancellation$Claimant;" .null) (F_cancelled : Fld Z h0 a1 "com/example/sidelane/sidelane/Cancellation" "cancelled" "Z" (.int (1 : Int32))) (F_endingBegun : Fld Z h0 a1 "com/example/sidelane/sidelane/Cancellation" "endingBegun" "Z" (.int eb)) (F_queued : Fld Z h0 a1 "com/example/sidelane/sidelane/Cancellation" "queued" "Z" (.int (0 : Int32))) (F_runner : Fld Z h0 a1 "com/example/sidelane/sidelane/Cancellation" "runner" "Ljava/lang/Thread;" .null) (F_cancelEnding : Fld Z h0 a1 "com/example/sidelane/sidelane/Cancellation" "cancelEnding" "Ljava/lang/Object;" .null) (F_cancelOutcome : Fld Z h0 a1 "com/example/sidelane/sidelane/Cancellation" "cancelOutcome" "Lcom/example/sidelane/sidelane/Cancellation$Outcome;" oc) (S_w_EXECUTE : Sta Z Z.heap "com/example/sidelane/sidelane/Cancellation$Claimant" "EXECUTE" "Lcom/example/sidelane/sidelane/Cancellation$Claimant;" (.ref w_EXECUTE)) (S_w_ADOPTER : Sta Z Z.heap "com/example/sidelane/sidelane/Cancellation$Claimant" "ADOPTER" "Lcom/example/sidelane/sidelane/Cancellation$Claimant;" (.ref w_ADOPTER)) (S_w_CANCELLED : Sta Z Z.heap "com/example/sidelane/sidelane/Cancellation$Outcome" "CANCELLED" "Lcom/example/sidelane/sidelane/Cancellation$Outcome;" (.ref w_CANCELLED)) (S_w_REFUSED : Sta Z Z.heap "com/example/sidelane/sidelane/Cancellation$Outcome" "REFUSED" "Lcom/example/sidelane/sidelane/Cancellation$Outcome;" (.ref w_REFUSED)) (S_w_HANDED_OVER : Sta Z Z.heap "com/example/sidelane/sidelane/Cancellation$Outcome" "HANDED_OVER" "Lcom/example/sidelane/sidelane/Cancellation$Outcome;" (.ref w_HANDED_OVER)) (S_w_CANCELLED_UNEXECUTED : Sta Z Z.heap "com/example/sidelane/sidelane/Cancellation$Outcome" "CANCELLED_UNEXECUTED" "Lcom/example/sidelane/sidelane/Cancellation$Outcome;" (.ref w_CANCELLED_UNEXECUTED)) (S_w_ENDING_NEEDED : Sta Z Z.heap "com/example/sidelane/sidelane/Cancellation$Outcome" "ENDING_NEEDED" "Lcom/example/sidelane/sidelane/Cancellation$Outcome;" (.ref w_ENDING_NEEDED)) (ne_w_EXECUTE_w_ADOPTER : w_EXECUTE ≠ w_ADOPTER) :
    CtrS l (⟨"com/example/sidelane/sidelane/Cancellation", "cancel", "(ZLjava/lang/Object;)Lcom/example/sidelane/sidelane/Cancellation$Outcome;"⟩ : MethodName) prog_3_method_2_code 5 (some (.object "com/example/sidelane/sidelane/Cancellation$Outcome")) ({ frames := 0, cells := 0, slots := 0, locals := 0 } : Room) #[(.ref a1), (.int p2), (.ref a3)] Z h0 (fun v h L => (∃ r, v = some (.ref r)) ∧ Fr n0 L ∧ Keep h0 h [a1] ∧ own_ob Z h a1 .null (1 : Int32) eb .null oc) := by
  have ef : ∀ m : MethodId, entryFrameSync m #[(.ref a1), (.int p2), (.ref a3)] 5 a1 = mkL a1 m 0 #[.val (.ref a1), .val (.int p2), .val (.ref a3), .unset, .unset] [] := fun m => by first | rfl | (simp [entryFrameSync, mkL, argsToLocals, Value.category]; done)
  refine CtrS.of (a := a1) (plainFor_of_name pn_8) rfl U0 ?_
  intro p e s0 s m below meth c s₁ cell hx hZ hby hml hown0 hnm hret hlk hs hcell hmon X0 M0 K0
  have hown : s.vm.findClass "com/example/sidelane/sidelane/Cancellation" = some m.cls := hown0
  have N0 := Fr.nil n0
  obtain ⟨h1, e0⟩ : ∃ z, s₁.heap = z := ⟨_, rfl⟩
  rw [e0] at M0 K0
  have O1 := O0.keep K0 (allS g_a1 all0)
  refine Go.st (fun t k => castTop (ef m) k) ?_
  have A_a1' : Exa Z h1 a1 "com/example/sidelane/sidelane/Cancellation" := A_a1.mon M0
  have F_claimedBy' : Fld Z h1 a1 "com/example/sidelane/sidelane/Cancellation" "claimedBy" "Lcom/example/sidelane/sidelane/Cancellation$Claimant;" .null := F_claimedBy.mon M0
  have F_cancelled' : Fld Z h1 a1 "com/example/sidelane/sidelane/Cancellation" "cancelled" "Z" (.int (1 : Int32)) := F_cancelled.mon M0
  have F_endingBegun' : Fld Z h1 a1 "com/example/sidelane/sidelane/Cancellation" "endingBegun" "Z" (.int eb) := F_endingBegun.mon M0
  have F_queued' : Fld Z h1 a1 "com/example/sidelane/sidelane/Cancellation" "queued" "Z" (.int (0 : Int32)) := F_queued.mon M0
  have F_runner' : Fld Z h1 a1 "com/example/sidelane/sidelane/Cancellation" "runner" "Ljava/lang/Thread;" .null := F_runner.mon M0
  have F_cancelEnding' : Fld Z h1 a1 "com/example/sidelane/sidelane/Cancellation" "cancelEnding" "Ljava/lang/Object;" .null := F_cancelEnding.mon M0
  have F_cancelOutcome' : Fld Z h1 a1 "com/example/sidelane/sidelane/Cancellation" "cancelOutcome" "Lcom/example/sidelane/sidelane/Cancellation$Outcome;" oc := F_cancelOutcome.mon M0
  show Go p e below _ (s₁.setTop (mkL a1 m 0 #[.val (.ref a1), .val (.int p2), .val (.ref a3), .unset, .unset] []))
  refine Go.st (fun _ => XS.aloadN X0.here hx rfl (hb hby d8_0) rfl rfl) ?_
  show Go p e below _ (s₁.setTop (mkL a1 m 1 #[.val (.ref a1), .val (.int p2), .val (.ref a3), .unset, .unset] [(.ref a1)]))
  obtain ⟨T1, X1, e1, st1⟩ := getF X0 hx hZ hown (host := "") (Or.inl (hw _ (List.mem_of_getElem? (i := 21) rfl))) Via.refl e0 F_claimedBy' (g := (mkL a1 m 1 #[.val (.ref a1), .val (.int p2), .val (.ref a3), .unset, .unset] [(.ref a1)])) rfl rfl (hb hby d8_1)
  refine Go.st st1 ?_
  show Go p e below _ (T1.setTop (mkL a1 m 4 #[.val (.ref a1), .val (.int p2), .val (.ref a3), .unset, .unset] [.null]))
  obtain ⟨T2, X2, e2, st2⟩ := getS2 X1 hx hZ hown (host := "") (Or.inl (hw _ (List.mem_of_getElem? (i := 23) rfl))) Via.refl e1 (oldSta O1 S_w_ADOPTER) (g := (mkL a1 m 4 #[.val (.ref a1), .val (.int p2), .val (.ref a3), .unset, .unset] [.null])) rfl (hb hby d8_4)
  refine Go.st st2 ?_
  show Go p e below _ (T2.setTop (mkL a1 m 7 #[.val (.ref a1), .val (.int p2), .val (.ref a3), .unset, .unset] [(.ref w_ADOPTER), .null]))
  refine Go.st (fun _ => fun k => Jvm.RoadKit.acmp (g := (mkL a1 m 7 #[.val (.ref a1), .val (.int p2), .val (.ref a3), .unset, .unset] [(.ref w_ADOPTER), .null])) X2 hx rfl rfl rfl (pc0 := 7) (pc' := 14) (same := false) rfl (hb hby d8_7) rfl (decide_eq_false nofun) (by decide) (by decide) k) ?_
  show Go p e below _ (T2.setTop (mkL a1 m 14 #[.val (.ref a1), .val (.int p2), .val (.ref a3), .unset, .unset] []))
  refine Go.st (fun _ => XS.aloadN X2.here hx rfl (hb hby d8_14) rfl rfl) ?_
  show Go p e below _ (T2.setTop (mkL a1 m 15 #[.val (.ref a1), .val (.int p2), .val (.ref a3), .unset, .unset] [(.ref a1)]))
  obtain ⟨T3, X3, e3, st3⟩ := getF X2 hx hZ hown (host := "") (Or.inl (hw _ (List.mem_of_getElem? (i := 41) rfl))) Via.refl e2 F_cancelled' (g := (mkL a1 m 15 #[.val (.ref a1), .val (.int p2), .val (.ref a3), .unset, .unset] [(.ref a1)])) rfl rfl (hb hby d8_15)
  refine Go.st st3 ?_
  show Go p e below _ (T3.setTop (mkL a1 m 18 #[.val (.ref a1), .val (.int p2), .val (.ref a3), .unset, .unset] [(.int (1 : Int32))]))
  refine Go.st (fun _ => XS.ifNo X3.here hx rfl (hb hby d8_18) rfl ((if0 _ _).trans (feq (by decide : ¬ ((1 : Int32) = (0 : Int32)))).1)) ?_
  show Go p e below _ (T3.setTop (mkL a1 m 21 #[.val (.ref a1), .val (.int p2), .val (.ref a3), .unset, .unset] []))
  refine Go.st (fun _ => XS.aloadN X3.here hx rfl (hb hby d8_21) rfl rfl) ?_
  show Go p e below _ (T3.setTop (mkL a1 m 22 #[.val (.ref a1), .val (.int p2), .val (.ref a3), .unset, .unset] [(.ref a3)]))
  refine Go.st (fun _ => XS.ifnullNo X3.here hx rfl (hb hby d8_22) rfl) ?_
  show Go p e below _ (T3.setTop (mkL a1 m 25 #[.val (.ref a1), .val (.int p2), .val (.ref a3), .unset, .unset] []))
  refine Go.st (fun _ => XS.aloadN X3.here hx rfl (hb hby d8_25) rfl rfl) ?_
  show Go p e below _ (T3.setTop (mkL a1 m 26 #[.val (.ref a1), .val (.int p2), .val (.ref a3), .unset, .unset] [(.ref a3)]))
  refine Go.st (fun _ => XS.aloadN X3.here hx rfl (hb hby d8_26) rfl rfl) ?_
  show Go p e below _ (T3.setTop (mkL a1 m 27 #[.val (.ref a1), .val (.int p2), .val (.ref a3), .unset, .unset] [(.ref a1), (.ref a3)]))
  obtain ⟨T4, X4, e4, st4⟩ := getF X3 hx hZ hown (host := "") (Or.inl (hw _ (List.mem_of_getElem? (i := 57) rfl))) Via.refl e3 F_cancelEnding' (g := (mkL a1 m 27 #[.val (.ref a1), .val (.int p2), .val (.ref a3), .unset, .unset] [(.ref a1), (.ref a3)])) rfl rfl (hb hby d8_27)
  refine Go.st st4 ?_
  show Go p e below _ (T4.setTop (mkL a1 m 30 #[.val (.ref a1), .val (.int p2), .val (.ref a3), .unset, .unset] [.null, (.ref a3)]))
  refine Go.st (fun _ => fun k => Jvm.RoadKit.acmp (g := (mkL a1 m 30 #[.val (.ref a1), .val (.int p2), .val (.ref a3), .unset, .unset] [.null, (.ref a3)])) X4 hx rfl rfl rfl (pc0 := 30) (pc' := 40) (same := false) rfl (hb hby d8_30) rfl (decide_eq_false nofun) (by decide) (by decide) k) ?_
  show Go p e below _ (T4.setTop (mkL a1 m 40 #[.val (.ref a1), .val (.int p2), .val (.ref a3), .unset, .unset] []))
  obtain ⟨T5, X5, e5, st5⟩ := getS2 X4 hx hZ hown (host := "") (Or.inl (hw _ (List.mem_of_getElem? (i := 84) rfl))) Via.refl e4 (oldSta O1 S_w_REFUSED) (g := (mkL a1 m 40 #[.val (.ref a1), .val (.int p2), .val (.ref a3), .unset, .unset] [])) rfl (hb hby d8_40)
  refine Go.st st5 ?_
  show Go p e below _ (T5.setTop (mkL a1 m 43 #[.val (.ref a1), .val (.int p2), .val (.ref a3), .unset, .unset] [(.ref w_REFUSED)]))
  refine goRetS (v := some (.ref w_REFUSED)) X5 hs hcell hmon hlk (fun h => by rw [hret] at h; cases h) e5 (fun V hV => retS X5 hx hret rfl (Or.inr (Or.inr (Or.inr (Or.inr ⟨rfl, rfl, rfl⟩)))) (hb hby d8_43) hV) (by decide) (by decide) (fun h' M' K' hm' => ?_)
  exact ⟨⟨_, rfl⟩, N0, (K0.trans K' (allS (Or.inl (List.mem_singleton_self _)) all0)), ⟨(A_a1'.mon M'), (untEnd U0 (K0.trans K' (allS (Or.inl (List.mem_singleton_self _)) all0)) hm'), (F_claimedBy'.mon M'), (F_cancelled'.mon M'), (F_endingBegun'.mon M'), (F_queued'.mon M'), (F_runner'.mon M'), (F_cancelEnding'.mon M'), (F_cancelOutcome'.mon M')⟩⟩
set_option maxRecDepth 65536 in
set_option maxHeartbeats 40000000 in
theorem caD (l : Launch) (Z : State) (a0 : Array Value) (hw : ∀ d ∈ tables_1, d.before a0 Z = true) (a1 : Addr) (p2 : Int32) (a3 a4 a6 : Addr) (w_EXECUTE w_ADOPTER w_CANCELLED w_REFUSED w_HANDED_OVER w_CANCELLED_UNEXECUTED w_ENDING_NEEDED : Addr) (eb : Int32) (h0 : Heap) (n0 : Nat) (O0 : Old Z n0 h0) (U0 : Unt h0 a1) (g_a1 : n0 ≤ a1) (A_a1 : Exa Z h0 a1 "com/example/sidelane/sidelane/Cancellation") (F_claimedBy : Fld Z h0 a1 "com/example/sidelane/sidelane/Cancellation" "claimedBy" "Lcom/example/sidelane/sidelane/Cancellation$Claimant;" .null) (F_cancelled : Fld Z h0 a1 "com/example/sidelane/sidelane/Cancellation" "cancelled" "Z" (.int (1 : Int32))) (F_endingBegun : Fld Z h0 a1 "com/example/sidelane/sidelane/Cancellation" "endingBegun" "Z" (.int eb)) (F_queued : Fld Z h0 a1 "com/example/sidelane/sidelane/Cancellation" "queued" "Z" (.int (0 : Int32))) (F_runner : Fld Z h0 a1 "com/example/sidelane/sidelane/Cancellation" "runner" "Ljava/lang/Thread;" .null) (F_cancelEnding : Fld Z h0 a1 "com/example/sidelane/sidelane/Cancellation" "cancelEnding" "Ljava/lang/Object;" (.ref a4)) (F_cancelOutcome : Fld Z h0 a1 "com/example/sidelane/sidelane/Cancellation" "cancelOutcome" "Lcom/example/sidelane/sidelane/Cancellation$Outcome;" (.ref a6)) (S_w_EXECUTE : Sta Z Z.heap "com/example/sidelane/sidelane/Cancellation$Claimant" "EXECUTE" "Lcom/example/sidelane/sidelane/Cancellation$Claimant;" (.ref w_EXECUTE)) (S_w_ADOPTER : Sta Z Z.heap "com/example/sidelane/sidelane/Cancellation$Claimant" "ADOPTER" "Lcom/example/sidelane/sidelane/Cancellation$Claimant;" (.ref w_ADOPTER)) (S_w_CANCELLED : Sta Z Z.heap "com/example/sidelane/sidelane/Cancellation$Outcome" "CANCELLED" "Lcom/example/sidelane/sidelane/Cancellation$Outcome;" (.ref w_CANCELLED)) (S_w_REFUSED : Sta Z Z.heap "com/example/sidelane/sidelane/Cancellation$Outcome" "REFUSED" "Lcom/example/sidelane/sidelane/Cancellation$Outcome;" (.ref w_REFUSED)) (S_w_HANDED_OVER : Sta Z Z.heap "com/example/sidelane/sidelane/Cancellation$Outcome" "HANDED_OVER" "Lcom/example/sidelane/sidelane/Cancellation$Outcome;" (.ref w_HANDED_OVER)) (S_w_CANCELLED_UNEXECUTED : Sta Z Z.heap "com/example/sidelane/sidelane/Cancellation$Outcome" "CANCELLED_UNEXECUTED" "Lcom/example/sidelane/sidelane/Cancellation$Outcome;" (.ref w_CANCELLED_UNEXECUTED)) (S_w_ENDING_NEEDED : Sta Z Z.heap "com/example/sidelane/sidelane/Cancellation$Outcome" "ENDING_NEEDED" "Lcom/example/sidelane/sidelane/Cancellation$Outcome;" (.ref w_ENDING_NEEDED)) (ne_w_EXECUTE_w_ADOPTER : w_EXECUTE ≠ w_ADOPTER) :
    CtrS l (⟨"com/example/sidelane/sidelane/Cancellation", "cancel", "(ZLjava/lang/Object;)Lcom/example/sidelane/sidelane/Cancellation$Outcome;"⟩ : MethodName) prog_3_method_2_code 5 (some (.object "com/example/sidelane/sidelane/Cancellation$Outcome")) ({ frames := 0, cells := 0, slots := 0, locals := 0 } : Room) #[(.ref a1), (.int p2), (.ref a3)] Z h0 (fun v h L => (∃ r, v = some (.ref r)) ∧ Fr n0 L ∧ Keep h0 h [a1] ∧ own_ob Z h a1 .null (1 : Int32) eb (.ref a4) (.ref a6)) := by
  have ef : ∀ m : MethodId, entryFrameSync m #[(.ref a1), (.int p2), (.ref a3)] 5 a1 = mkL a1 m 0 #[.val (.ref a1), .val (.int p2), .val (.ref a3), .unset, .unset] [] := fun m => by first | rfl | (simp [entryFrameSync, mkL, argsToLocals, Value.category]; done)
  refine CtrS.of (a := a1) (plainFor_of_name pn_8) rfl U0 ?_
  intro p e s0 s m below meth c s₁ cell hx hZ hby hml hown0 hnm hret hlk hs hcell hmon X0 M0 K0
  have hown : s.vm.findClass "com/example/sidelane/sidelane/Cancellation" = some m.cls := hown0
  have N0 := Fr.nil n0
  obtain ⟨h1, e0⟩ : ∃ z, s₁.heap = z := ⟨_, rfl⟩
  rw [e0] at M0 K0
  have O1 := O0.keep K0 (allS g_a1 all0)
  refine Go.st (fun t k => castTop (ef m) k) ?_
  have A_a1' : Exa Z h1 a1 "com/example/sidelane/sidelane/Cancellation" := A_a1.mon M0
  have F_claimedBy' : Fld Z h1 a1 "com/example/sidelane/sidelane/Cancellation" "claimedBy" "Lcom/example/sidelane/sidelane/Cancellation$Claimant;" .null := F_claimedBy.mon M0
  have F_cancelled' : Fld Z h1 a1 "com/example/sidelane/sidelane/Cancellation" "cancelled" "Z" (.int (1 : Int32)) := F_cancelled.mon M0
  have F_endingBegun' : Fld Z h1 a1 "com/example/sidelane/sidelane/Cancellation" "endingBegun" "Z" (.int eb) := F_endingBegun.mon M0
  have F_queued' : Fld Z h1 a1 "com/example/sidelane/sidelane/Cancellation" "queued" "Z" (.int (0 : Int32)) := F_queued.mon M0
  have F_runner' : Fld Z h1 a1 "com/example/sidelane/sidelane/Cancellation" "runner" "Ljava/lang/Thread;" .null := F_runner.mon M0
  have F_cancelEnding' : Fld Z h1 a1 "com/example/sidelane/sidelane/Cancellation" "cancelEnding" "Ljava/lang/Object;" (.ref a4) := F_cancelEnding.mon M0
  have F_cancelOutcome' : Fld Z h1 a1 "com/example/sidelane/sidelane/Cancellation" "cancelOutcome" "Lcom/example/sidelane/sidelane/Cancellation$Outcome;" (.ref a6) := F_cancelOutcome.mon M0
  show Go p e below _ (s₁.setTop (mkL a1 m 0 #[.val (.ref a1), .val (.int p2), .val (.ref a3), .unset, .unset] []))
  refine Go.st (fun _ => XS.aloadN X0.here hx rfl (hb hby d8_0) rfl rfl) ?_
  show Go p e below _ (s₁.setTop (mkL a1 m 1 #[.val (.ref a1), .val (.int p2), .val (.ref a3), .unset, .unset] [(.ref a1)]))
  obtain ⟨T1, X1, e1, st1⟩ := getF X0 hx hZ hown (host := "") (Or.inl (hw _ (List.mem_of_getElem? (i := 21) rfl))) Via.refl e0 F_claimedBy' (g := (mkL a1 m 1 #[.val (.ref a1), .val (.int p2), .val (.ref a3), .unset, .unset] [(.ref a1)])) rfl rfl (hb hby d8_1)
  refine Go.st st1 ?_
  show Go p e below _ (T1.setTop (mkL a1 m 4 #[.val (.ref a1), .val (.int p2), .val (.ref a3), .unset, .unset] [.null]))
  obtain ⟨T2, X2, e2, st2⟩ := getS2 X1 hx hZ hown (host := "") (Or.inl (hw _ (List.mem_of_getElem? (i := 23) rfl))) Via.refl e1 (oldSta O1 S_w_ADOPTER) (g := (mkL a1 m 4 #[.val (.ref a1), .val (.int p2), .val (.ref a3), .unset, .unset] [.null])) rfl (hb hby d8_4)
  refine Go.st st2 ?_
  show Go p e below _ (T2.setTop (mkL a1 m 7 #[.val (.ref a1), .val (.int p2), .val (.ref a3), .unset, .unset] [(.ref w_ADOPTER), .null]))
  refine Go.st (fun _ => fun k => Jvm.RoadKit.acmp (g := (mkL a1 m 7 #[.val (.ref a1), .val (.int p2), .val (.ref a3), .unset, .unset] [(.ref w_ADOPTER), .null])) X2 hx rfl rfl rfl (pc0 := 7) (pc' := 14) (same := false) rfl (hb hby d8_7) rfl (decide_eq_false nofun) (by decide) (by decide) k) ?_
  show Go p e below _ (T2.setTop (mkL a1 m 14 #[.val (.ref a1), .val (.int p2), .val (.ref a3), .unset, .unset] []))
  refine Go.st (fun _ => XS.aloadN X2.here hx rfl (hb hby d8_14) rfl rfl) ?_
  show Go p e below _ (T2.setTop (mkL a1 m 15 #[.val (.ref a1), .val (.int p2), .val (.ref a3), .unset, .unset] [(.ref a1)]))
  obtain ⟨T3, X3, e3, st3⟩ := getF X2 hx hZ hown (host := "") (Or.inl (hw _ (List.mem_of_getElem? (i := 41) rfl))) Via.refl e2 F_cancelled' (g := (mkL a1 m 15 #[.val (.ref a1), .val (.int p2), .val (.ref a3), .unset, .unset] [(.ref a1)])) rfl rfl (hb hby d8_15)
  refine Go.st st3 ?_
  show Go p e below _ (T3.setTop (mkL a1 m 18 #[.val (.ref a1), .val (.int p2), .val (.ref a3), .unset, .unset] [(.int (1 : Int32))]))
  refine Go.st (fun _ => XS.ifNo X3.here hx rfl (hb hby d8_18) rfl ((if0 _ _).trans (feq (by decide : ¬ ((1 : Int32) = (0 : Int32)))).1)) ?_
  show Go p e below _ (T3.setTop (mkL a1 m 21 #[.val (.ref a1), .val (.int p2), .val (.ref a3), .unset, .unset] []))
  refine Go.st (fun _ => XS.aloadN X3.here hx rfl (hb hby d8_21) rfl rfl) ?_
  show Go p e below _ (T3.setTop (mkL a1 m 22 #[.val (.ref a1), .val (.int p2), .val (.ref a3), .unset, .unset] [(.ref a3)]))
  refine Go.st (fun _ => XS.ifnullNo X3.here hx rfl (hb hby d8_22) rfl) ?_
  show Go p e below _ (T3.setTop (mkL a1 m 25 #[.val (.ref a1), .val (.int p2), .val (.ref a3), .unset, .unset] []))
  refine Go.st (fun _ => XS.aloadN X3.here hx rfl (hb hby d8_25) rfl rfl) ?_
  show Go p e below _ (T3.setTop (mkL a1 m 26 #[.val (.ref a1), .val (.int p2), .val (.ref a3), .unset, .unset] [(.ref a3)]))
  refine Go.st (fun _ => XS.aloadN X3.here hx rfl (hb hby d8_26) rfl rfl) ?_
  show Go p e below _ (T3.setTop (mkL a1 m 27 #[.val (.ref a1), .val (.int p2), .val (.ref a3), .unset, .unset] [(.ref a1), (.ref a3)]))
  obtain ⟨T4, X4, e4, st4⟩ := getF X3 hx hZ hown (host := "") (Or.inl (hw _ (List.mem_of_getElem? (i := 57) rfl))) Via.refl e3 F_cancelEnding' (g := (mkL a1 m 27 #[.val (.ref a1), .val (.int p2), .val (.ref a3), .unset, .unset] [(.ref a1), (.ref a3)])) rfl rfl (hb hby d8_27)
  refine Go.st st4 ?_
  show Go p e below _ (T4.setTop (mkL a1 m 30 #[.val (.ref a1), .val (.int p2), .val (.ref a3), .unset, .unset] [(.ref a4), (.ref a3)]))
  by_cases hc5 : a3 = a4
  · refine Go.st (fun _ => fun k => Jvm.RoadKit.acmp (g := (mkL a1 m 30 #[.val (.ref a1), .val (.int p2), .val (.ref a3), .unset, .unset] [(.ref a4), (.ref a3)])) X4 hx rfl rfl rfl (pc0 := 30) (pc' := 33) (same := true) rfl (hb hby d8_30) rfl (decide_eq_true (congrArg Value.ref hc5)) (by decide) (by decide) k) ?_
    show Go p e below _ (T4.setTop (mkL a1 m 33 #[.val (.ref a1), .val (.int p2), .val (.ref a3), .unset, .unset] []))
    refine Go.st (fun _ => XS.aloadN X4.here hx rfl (hb hby d8_33) rfl rfl) ?_
    show Go p e below _ (T4.setTop (mkL a1 m 34 #[.val (.ref a1), .val (.int p2), .val (.ref a3), .unset, .unset] [(.ref a1)]))
    obtain ⟨T6, X6, e6, st6⟩ := getF X4 hx hZ hown (host := "") (Or.inl (hw _ (List.mem_of_getElem? (i := 55) rfl))) Via.refl e4 F_cancelOutcome' (g := (mkL a1 m 34 #[.val (.ref a1), .val (.int p2), .val (.ref a3), .unset, .unset] [(.ref a1)])) rfl rfl (hb hby d8_34)
    refine Go.st st6 ?_
    show Go p e below _ (T6.setTop (mkL a1 m 37 #[.val (.ref a1), .val (.int p2), .val (.ref a3), .unset, .unset] [(.ref a6)]))
    refine Go.st (fun _ => XS.goto X6.here hx rfl (pc0 := 37) (pc' := 43) rfl (hb hby d8_37) (by decide) (by decide)) ?_
    show Go p e below _ (T6.setTop (mkL a1 m 43 #[.val (.ref a1), .val (.int p2), .val (.ref a3), .unset, .unset] [(.ref a6)]))
    refine goRetS (v := some (.ref a6)) X6 hs hcell hmon hlk (fun h => by rw [hret] at h; cases h) e6 (fun V hV => retS X6 hx hret rfl (Or.inr (Or.inr (Or.inr (Or.inr ⟨rfl, rfl, rfl⟩)))) (hb hby d8_43) hV) (by decide) (by decide) (fun h' M' K' hm' => ?_)
    exact ⟨⟨_, rfl⟩, N0, (K0.trans K' (allS (Or.inl (List.mem_singleton_self _)) all0)), ⟨(A_a1'.mon M'), (untEnd U0 (K0.trans K' (allS (Or.inl (List.mem_singleton_self _)) all0)) hm'), (F_claimedBy'.mon M'), (F_cancelled'.mon M'), (F_endingBegun'.mon M'), (F_queued'.mon M'), (F_runner'.mon M'), (F_cancelEnding'.mon M'), (F_cancelOutcome'.mon M')⟩⟩
  · refine Go.st (fun _ => fun k => Jvm.RoadKit.acmp (g := (mkL a1 m 30 #[.val (.ref a1), .val (.int p2), .val (.ref a3), .unset, .unset] [(.ref a4), (.ref a3)])) X4 hx rfl rfl rfl (pc0 := 30) (pc' := 40) (same := false) rfl (hb hby d8_30) rfl (decide_eq_false fun q => hc5 (Value.ref.inj q)) (by decide) (by decide) k) ?_
    show Go p e below _ (T4.setTop (mkL a1 m 40 #[.val (.ref a1), .val (.int p2), .val (.ref a3), .unset, .unset] []))
    obtain ⟨T7, X7, e7, st7⟩ := getS2 X4 hx hZ hown (host := "") (Or.inl (hw _ (List.mem_of_getElem? (i := 84) rfl))) Via.refl e4 (oldSta O1 S_w_REFUSED) (g := (mkL a1 m 40 #[.val (.ref a1), .val (.int p2), .val (.ref a3), .unset, .unset] [])) rfl (hb hby d8_40)
    refine Go.st st7 ?_
    show Go p e below _ (T7.setTop (mkL a1 m 43 #[.val (.ref a1), .val (.int p2), .val (.ref a3), .unset, .unset] [(.ref w_REFUSED)]))
    refine goRetS (v := some (.ref w_REFUSED)) X7 hs hcell hmon hlk (fun h => by rw [hret] at h; cases h) e7 (fun V hV => retS X7 hx hret rfl (Or.inr (Or.inr (Or.inr (Or.inr ⟨rfl, rfl, rfl⟩)))) (hb hby d8_43) hV) (by decide) (by decide) (fun h' M' K' hm' => ?_)
    exact ⟨⟨_, rfl⟩, N0, (K0.trans K' (allS (Or.inl (List.mem_singleton_self _)) all0)), ⟨(A_a1'.mon M'), (untEnd U0 (K0.trans K' (allS (Or.inl (List.mem_singleton_self _)) all0)) hm'), (F_claimedBy'.mon M'), (F_cancelled'.mon M'), (F_endingBegun'.mon M'), (F_queued'.mon M'), (F_runner'.mon M'), (F_cancelEnding'.mon M'), (F_cancelOutcome'.mon M')⟩⟩
set_option maxRecDepth 65536 in
set_option maxHeartbeats 40000000 in
theorem caE (l : Launch) (Z : State) (a0 : Array Value) (hw : ∀ d ∈ tables_1, d.before a0 Z = true) (a1 : Addr) (p2 : Int32) (en oc : Value) (w_EXECUTE w_ADOPTER w_CANCELLED w_REFUSED w_HANDED_OVER w_CANCELLED_UNEXECUTED w_ENDING_NEEDED : Addr) (h0 : Heap) (n0 : Nat) (O0 : Old Z n0 h0) (U0 : Unt h0 a1) (g_a1 : n0 ≤ a1) (A_a1 : Exa Z h0 a1 "com/example/sidelane/sidelane/Cancellation") (F_claimedBy : Fld Z h0 a1 "com/example/sidelane/sidelane/Cancellation" "claimedBy" "Lcom/example/sidelane/sidelane/Cancellation$Claimant;" .null) (F_cancelled : Fld Z h0 a1 "com/example/sidelane/sidelane/Cancellation" "cancelled" "Z" (.int (0 : Int32))) (F_endingBegun : Fld Z h0 a1 "com/example/sidelane/sidelane/Cancellation" "endingBegun" "Z" (.int (0 : Int32))) (F_queued : Fld Z h0 a1 "com/example/sidelane/sidelane/Cancellation" "queued" "Z" (.int (0 : Int32))) (F_runner : Fld Z h0 a1 "com/example/sidelane/sidelane/Cancellation" "runner" "Ljava/lang/Thread;" .null) (F_cancelEnding : Fld Z h0 a1 "com/example/sidelane/sidelane/Cancellation" "cancelEnding" "Ljava/lang/Object;" en) (F_cancelOutcome : Fld Z h0 a1 "com/example/sidelane/sidelane/Cancellation" "cancelOutcome" "Lcom/example/sidelane/sidelane/Cancellation$Outcome;" oc) (S_w_EXECUTE : Sta Z Z.heap "com/example/sidelane/sidelane/Cancellation$Claimant" "EXECUTE" "Lcom/example/sidelane/sidelane/Cancellation$Claimant;" (.ref w_EXECUTE)) (S_w_ADOPTER : Sta Z Z.heap "com/example/sidelane/sidelane/Cancellation$Claimant" "ADOPTER" "Lcom/example/sidelane/sidelane/Cancellation$Claimant;" (.ref w_ADOPTER)) (S_w_CANCELLED : Sta Z Z.heap "com/example/sidelane/sidelane/Cancellation$Outcome" "CANCELLED" "Lcom/example/sidelane/sidelane/Cancellation$Outcome;" (.ref w_CANCELLED)) (S_w_REFUSED : Sta Z Z.heap "com/example/sidelane/sidelane/Cancellation$Outcome" "REFUSED" "Lcom/example/sidelane/sidelane/Cancellation$Outcome;" (.ref w_REFUSED)) (S_w_HANDED_OVER : Sta Z Z.heap "com/example/sidelane/sidelane/Cancellation$Outcome" "HANDED_OVER" "Lcom/example/sidelane/sidelane/Cancellation$Outcome;" (.ref w_HANDED_OVER)) (S_w_CANCELLED_UNEXECUTED : Sta Z Z.heap "com/example/sidelane/sidelane/Cancellation$Outcome" "CANCELLED_UNEXECUTED" "Lcom/example/sidelane/sidelane/Cancellation$Outcome;" (.ref w_CANCELLED_UNEXECUTED)) (S_w_ENDING_NEEDED : Sta Z Z.heap "com/example/sidelane/sidelane/Cancellation$Outcome" "ENDING_NEEDED" "Lcom/example/sidelane/sidelane/Cancellation$Outcome;" (.ref w_ENDING_NEEDED)) (ne_w_EXECUTE_w_ADOPTER : w_EXECUTE ≠ w_ADOPTER) :
    CtrS l (⟨"com/example/sidelane/sidelane/Cancellation", "cancel", "(ZLjava/lang/Object;)Lcom/example/sidelane/sidelane/Cancellation$Outcome;"⟩ : MethodName) prog_3_method_2_code 5 (some (.object "com/example/sidelane/sidelane/Cancellation$Outcome")) ({ frames := 0, cells := 0, slots := 0, locals := 0 } : Room) #[(.ref a1), (.int p2), .null] Z h0 (fun v h L => (∃ r, v = some (.ref r)) ∧ Fr n0 L ∧ Keep h0 h [a1] ∧ own_ob Z h a1 .null (0 : Int32) (0 : Int32) en oc) := by
  have ef : ∀ m : MethodId, entryFrameSync m #[(.ref a1), (.int p2), .null] 5 a1 = mkL a1 m 0 #[.val (.ref a1), .val (.int p2), .val .null, .unset, .unset] [] := fun m => by first | rfl | (simp [entryFrameSync, mkL, argsToLocals, Value.category]; done)
  refine CtrS.of (a := a1) (plainFor_of_name pn_8) rfl U0 ?_
  intro p e s0 s m below meth c s₁ cell hx hZ hby hml hown0 hnm hret hlk hs hcell hmon X0 M0 K0
  have hown : s.vm.findClass "com/example/sidelane/sidelane/Cancellation" = some m.cls := hown0
  have N0 := Fr.nil n0
  obtain ⟨h1, e0⟩ : ∃ z, s₁.heap = z := ⟨_, rfl⟩
  rw [e0] at M0 K0
  have O1 := O0.keep K0 (allS g_a1 all0)
  refine Go.st (fun t k => castTop (ef m) k) ?_
  have A_a1' : Exa Z h1 a1 "com/example/sidelane/sidelane/Cancellation" := A_a1.mon M0
  have F_claimedBy' : Fld Z h1 a1 "com/example/sidelane/sidelane/Cancellation" "claimedBy" "Lcom/example/sidelane/sidelane/Cancellation$Claimant;" .null := F_claimedBy.mon M0
  have F_cancelled' : Fld Z h1 a1 "com/example/sidelane/sidelane/Cancellation" "cancelled" "Z" (.int (0 : Int32)) := F_cancelled.mon M0
  have F_endingBegun' : Fld Z h1 a1 "com/example/sidelane/sidelane/Cancellation" "endingBegun" "Z" (.int (0 : Int32)) := F_endingBegun.mon M0
  have F_queued' : Fld Z h1 a1 "com/example/sidelane/sidelane/Cancellation" "queued" "Z" (.int (0 : Int32)) := F_queued.mon M0
  have F_runner' : Fld Z h1 a1 "com/example/sidelane/sidelane/Cancellation" "runner" "Ljava/lang/Thread;" .null := F_runner.mon M0
  have F_cancelEnding' : Fld Z h1 a1 "com/example/sidelane/sidelane/Cancellation" "cancelEnding" "Ljava/lang/Object;" en := F_cancelEnding.mon M0
  have F_cancelOutcome' : Fld Z h1 a1 "com/example/sidelane/sidelane/Cancellation" "cancelOutcome" "Lcom/example/sidelane/sidelane/Cancellation$Outcome;" oc := F_cancelOutcome.mon M0
  show Go p e below _ (s₁.setTop (mkL a1 m 0 #[.val (.ref a1), .val (.int p2), .val .null, .unset, .unset] []))
  refine Go.st (fun _ => XS.aloadN X0.here hx rfl (hb hby d8_0) rfl rfl) ?_
  show Go p e below _ (s₁.setTop (mkL a1 m 1 #[.val (.ref a1), .val (.int p2), .val .null, .unset, .unset] [(.ref a1)]))
  obtain ⟨T1, X1, e1, st1⟩ := getF X0 hx hZ hown (host := "") (Or.inl (hw _ (List.mem_of_getElem? (i := 21) rfl))) Via.refl e0 F_claimedBy' (g := (mkL a1 m 1 #[.val (.ref a1), .val (.int p2), .val .null, .unset, .unset] [(.ref a1)])) rfl rfl (hb hby d8_1)
  refine Go.st st1 ?_
  show Go p e below _ (T1.setTop (mkL a1 m 4 #[.val (.ref a1), .val (.int p2), .val .null, .unset, .unset] [.null]))
  obtain ⟨T2, X2, e2, st2⟩ := getS2 X1 hx hZ hown (host := "") (Or.inl (hw _ (List.mem_of_getElem? (i := 23) rfl))) Via.refl e1 (oldSta O1 S_w_ADOPTER) (g := (mkL a1 m 4 #[.val (.ref a1), .val (.int p2), .val .null, .unset, .unset] [.null])) rfl (hb hby d8_4)
  refine Go.st st2 ?_
  show Go p e below _ (T2.setTop (mkL a1 m 7 #[.val (.ref a1), .val (.int p2), .val .null, .unset, .unset] [(.ref w_ADOPTER), .null]))
  refine Go.st (fun _ => fun k => Jvm.RoadKit.acmp (g := (mkL a1 m 7 #[.val (.ref a1), .val (.int p2), .val .null, .unset, .unset] [(.ref w_ADOPTER), .null])) X2 hx rfl rfl rfl (pc0 := 7) (pc' := 14) (same := false) rfl (hb hby d8_7) rfl (decide_eq_false nofun) (by decide) (by decide) k) ?_
  show Go p e below _ (T2.setTop (mkL a1 m 14 #[.val (.ref a1), .val (.int p2), .val .null, .unset, .unset] []))
  refine Go.st (fun _ => XS.aloadN X2.here hx rfl (hb hby d8_14) rfl rfl) ?_
  show Go p e below _ (T2.setTop (mkL a1 m 15 #[.val (.ref a1), .val (.int p2), .val .null, .unset, .unset] [(.ref a1)]))
  obtain ⟨T3, X3, e3, st3⟩ := getF X2 hx hZ hown (host := "") (Or.inl (hw _ (List.mem_of_getElem? (i := 41) rfl))) Via.refl e2 F_cancelled' (g := (mkL a1 m 15 #[.val (.ref a1), .val (.int p2), .val .null, .unset, .unset] [(.ref a1)])) rfl rfl (hb hby d8_15)
  refine Go.st st3 ?_
  show Go p e below _ (T3.setTop (mkL a1 m 18 #[.val (.ref a1), .val (.int p2), .val .null, .unset, .unset] [(.int (0 : Int32))]))
  refine Go.st (fun _ => XS.ifYes X3.here hx rfl (pc0 := 18) (pc' := 44) rfl (hb hby d8_18) rfl ((if0 _ _).trans (teq (by decide : (0 : Int32) = (0 : Int32))).1) (by decide) (by decide)) ?_
  show Go p e below _ (T3.setTop (mkL a1 m 44 #[.val (.ref a1), .val (.int p2), .val .null, .unset, .unset] []))
  refine Go.st (fun _ => XS.aloadN X3.here hx rfl (hb hby d8_44) rfl rfl) ?_
  show Go p e below _ (T3.setTop (mkL a1 m 45 #[.val (.ref a1), .val (.int p2), .val .null, .unset, .unset] [(.ref a1)]))
  obtain ⟨T4, X4, e4, st4⟩ := getF X3 hx hZ hown (host := "") (Or.inl (hw _ (List.mem_of_getElem? (i := 48) rfl))) Via.refl e3 F_endingBegun' (g := (mkL a1 m 45 #[.val (.ref a1), .val (.int p2), .val .null, .unset, .unset] [(.ref a1)])) rfl rfl (hb hby d8_45)
  refine Go.st st4 ?_
  show Go p e below _ (T4.setTop (mkL a1 m 48 #[.val (.ref a1), .val (.int p2), .val .null, .unset, .unset] [(.int (0 : Int32))]))
  refine Go.st (fun _ => XS.ifYes X4.here hx rfl (pc0 := 48) (pc' := 55) rfl (hb hby d8_48) rfl ((if0 _ _).trans (teq (by decide : (0 : Int32) = (0 : Int32))).1) (by decide) (by decide)) ?_
  show Go p e below _ (T4.setTop (mkL a1 m 55 #[.val (.ref a1), .val (.int p2), .val .null, .unset, .unset] []))
  refine Go.st (fun _ => XS.aloadN X4.here hx rfl (hb hby d8_55) rfl rfl) ?_
  show Go p e below _ (T4.setTop (mkL a1 m 56 #[.val (.ref a1), .val (.int p2), .val .null, .unset, .unset] [(.ref a1)]))
  obtain ⟨T5, X5, e5, st5⟩ := getF X4 hx hZ hown (host := "") (Or.inl (hw _ (List.mem_of_getElem? (i := 21) rfl))) Via.refl e4 F_claimedBy' (g := (mkL a1 m 56 #[.val (.ref a1), .val (.int p2), .val .null, .unset, .unset] [(.ref a1)])) rfl rfl (hb hby d8_56)
  refine Go.st st5 ?_
  show Go p e below _ (T5.setTop (mkL a1 m 59 #[.val (.ref a1), .val (.int p2), .val .null, .unset, .unset] [.null]))
  obtain ⟨T6, X6, e6, st6⟩ := getS2 X5 hx hZ hown (host := "") (Or.inl (hw _ (List.mem_of_getElem? (i := 50) rfl))) Via.refl e5 (oldSta O1 S_w_EXECUTE) (g := (mkL a1 m 59 #[.val (.ref a1), .val (.int p2), .val .null, .unset, .unset] [.null])) rfl (hb hby d8_59)
  refine Go.st st6 ?_
  show Go p e below _ (T6.setTop (mkL a1 m 62 #[.val (.ref a1), .val (.int p2), .val .null, .unset, .unset] [(.ref w_EXECUTE), .null]))
  refine Go.st (fun _ => fun k => Jvm.RoadKit.acmp (g := (mkL a1 m 62 #[.val (.ref a1), .val (.int p2), .val .null, .unset, .unset] [(.ref w_EXECUTE), .null])) X6 hx rfl rfl rfl (pc0 := 62) (pc' := 69) (same := false) rfl (hb hby d8_62) rfl (decide_eq_false nofun) (by decide) (by decide) k) ?_
  show Go p e below _ (T6.setTop (mkL a1 m 69 #[.val (.ref a1), .val (.int p2), .val .null, .unset, .unset] []))
  refine Go.st (fun _ => XS.iconst X6.here hx rfl (hb hby d8_69)) ?_
  show Go p e below _ (T6.setTop (mkL a1 m 70 #[.val (.ref a1), .val (.int p2), .val .null, .unset, .unset] [(.int (0 : Int32))]))
  refine Go.st (fun _ => XS.istoreN X6.here hx rfl (hb hby d8_70) rfl (l' := #[.val (.ref a1), .val (.int p2), .val .null, .val (.int (0 : Int32)), .unset]) rfl) ?_
  show Go p e below _ (T6.setTop (mkL a1 m 71 #[.val (.ref a1), .val (.int p2), .val .null, .val (.int (0 : Int32)), .unset] []))
  refine Go.st (fun _ => XS.iloadN X6.here hx rfl (hb hby d8_71) rfl) ?_
  show Go p e below _ (T6.setTop (mkL a1 m 72 #[.val (.ref a1), .val (.int p2), .val .null, .val (.int (0 : Int32)), .unset] [(.int (0 : Int32))]))
  refine Go.st (fun _ => XS.ifYes X6.here hx rfl (pc0 := 72) (pc' := 82) rfl (hb hby d8_72) rfl ((if0 _ _).trans (teq (by decide : (0 : Int32) = (0 : Int32))).1) (by decide) (by decide)) ?_
  show Go p e below _ (T6.setTop (mkL a1 m 82 #[.val (.ref a1), .val (.int p2), .val .null, .val (.int (0 : Int32)), .unset] []))
  refine Go.st (fun _ => XS.iconst X6.here hx rfl (hb hby d8_82)) ?_
  show Go p e below _ (T6.setTop (mkL a1 m 83 #[.val (.ref a1), .val (.int p2), .val .null, .val (.int (0 : Int32)), .unset] [(.int (1 : Int32))]))
  refine Go.st (fun _ => XS.goto X6.here hx rfl (pc0 := 83) (pc' := 87) rfl (hb hby d8_83) (by decide) (by decide)) ?_
  show Go p e below _ (T6.setTop (mkL a1 m 87 #[.val (.ref a1), .val (.int p2), .val .null, .val (.int (0 : Int32)), .unset] [(.int (1 : Int32))]))
  refine Go.st (fun _ => XS.istore X6.here hx rfl (hb hby d8_87) rfl (l' := #[.val (.ref a1), .val (.int p2), .val .null, .val (.int (0 : Int32)), .val (.int (1 : Int32))]) rfl) ?_
  show Go p e below _ (T6.setTop (mkL a1 m 89 #[.val (.ref a1), .val (.int p2), .val .null, .val (.int (0 : Int32)), .val (.int (1 : Int32))] []))
  refine Go.st (fun _ => XS.iload X6.here hx rfl (hb hby d8_89) rfl) ?_
  show Go p e below _ (T6.setTop (mkL a1 m 91 #[.val (.ref a1), .val (.int p2), .val .null, .val (.int (0 : Int32)), .val (.int (1 : Int32))] [(.int (1 : Int32))]))
  refine Go.st (fun _ => XS.ifNo X6.here hx rfl (hb hby d8_91) rfl ((if0 _ _).trans (feq (by decide : ¬ ((1 : Int32) = (0 : Int32)))).1)) ?_
  show Go p e below _ (T6.setTop (mkL a1 m 94 #[.val (.ref a1), .val (.int p2), .val .null, .val (.int (0 : Int32)), .val (.int (1 : Int32))] []))
  refine Go.st (fun _ => XS.aloadN X6.here hx rfl (hb hby d8_94) rfl rfl) ?_
  show Go p e below _ (T6.setTop (mkL a1 m 95 #[.val (.ref a1), .val (.int p2), .val .null, .val (.int (0 : Int32)), .val (.int (1 : Int32))] [.null]))
  refine Go.st (fun _ => XS.ifnonnullNo X6.here hx rfl (hb hby d8_95) rfl) ?_
  show Go p e below _ (T6.setTop (mkL a1 m 98 #[.val (.ref a1), .val (.int p2), .val .null, .val (.int (0 : Int32)), .val (.int (1 : Int32))] []))
  obtain ⟨T7, X7, e7, st7⟩ := getS2 X6 hx hZ hown (host := "") (Or.inl (hw _ (List.mem_of_getElem? (i := 86) rfl))) Via.refl e6 (oldSta O1 S_w_ENDING_NEEDED) (g := (mkL a1 m 98 #[.val (.ref a1), .val (.int p2), .val .null, .val (.int (0 : Int32)), .val (.int (1 : Int32))] [])) rfl (hb hby d8_98)
  refine Go.st st7 ?_
  show Go p e below _ (T7.setTop (mkL a1 m 101 #[.val (.ref a1), .val (.int p2), .val .null, .val (.int (0 : Int32)), .val (.int (1 : Int32))] [(.ref w_ENDING_NEEDED)]))
  refine goRetS (v := some (.ref w_ENDING_NEEDED)) X7 hs hcell hmon hlk (fun h => by rw [hret] at h; cases h) e7 (fun V hV => retS X7 hx hret rfl (Or.inr (Or.inr (Or.inr (Or.inr ⟨rfl, rfl, rfl⟩)))) (hb hby d8_101) hV) (by decide) (by decide) (fun h' M' K' hm' => ?_)
  exact ⟨⟨_, rfl⟩, N0, (K0.trans K' (allS (Or.inl (List.mem_singleton_self _)) all0)), ⟨(A_a1'.mon M'), (untEnd U0 (K0.trans K' (allS (Or.inl (List.mem_singleton_self _)) all0)) hm'), (F_claimedBy'.mon M'), (F_cancelled'.mon M'), (F_endingBegun'.mon M'), (F_queued'.mon M'), (F_runner'.mon M'), (F_cancelEnding'.mon M'), (F_cancelOutcome'.mon M')⟩⟩
set_option maxRecDepth 65536 in
set_option maxHeartbeats 40000000 in
theorem caF (l : Launch) (Z : State) (a0 : Array Value) (hw : ∀ d ∈ tables_1, d.before a0 Z = true) (a1 : Addr) (p2 : Int32) (a3 : Addr) (en oc : Value) (w_EXECUTE w_ADOPTER w_CANCELLED w_REFUSED w_HANDED_OVER w_CANCELLED_UNEXECUTED w_ENDING_NEEDED : Addr) (h0 : Heap) (n0 : Nat) (O0 : Old Z n0 h0) (U0 : Unt h0 a1) (g_a1 : n0 ≤ a1) (A_a1 : Exa Z h0 a1 "com/example/sidelane/sidelane/Cancellation") (F_claimedBy : Fld Z h0 a1 "com/example/sidelane/sidelane/Cancellation" "claimedBy" "Lcom/example/sidelane/sidelane/Cancellation$Claimant;" .null) (F_cancelled : Fld Z h0 a1 "com/example/sidelane/sidelane/Cancellation" "cancelled" "Z" (.int (0 : Int32))) (F_endingBegun : Fld Z h0 a1 "com/example/sidelane/sidelane/Cancellation" "endingBegun" "Z" (.int (0 : Int32))) (F_queued : Fld Z h0 a1 "com/example/sidelane/sidelane/Cancellation" "queued" "Z" (.int (0 : Int32))) (F_runner : Fld Z h0 a1 "com/example/sidelane/sidelane/Cancellation" "runner" "Ljava/lang/Thread;" .null) (F_cancelEnding : Fld Z h0 a1 "com/example/sidelane/sidelane/Cancellation" "cancelEnding" "Ljava/lang/Object;" en) (F_cancelOutcome : Fld Z h0 a1 "com/example/sidelane/sidelane/Cancellation" "cancelOutcome" "Lcom/example/sidelane/sidelane/Cancellation$Outcome;" oc) (S_w_EXECUTE : Sta Z Z.heap "com/example/sidelane/sidelane/Cancellation$Claimant" "EXECUTE" "Lcom/example/sidelane/sidelane/Cancellation$Claimant;" (.ref w_EXECUTE)) (S_w_ADOPTER : Sta Z Z.heap "com/example/sidelane/sidelane/Cancellation$Claimant" "ADOPTER" "Lcom/example/sidelane/sidelane/Cancellation$Claimant;" (.ref w_ADOPTER)) (S_w_CANCELLED : Sta Z Z.heap "com/example/sidelane/sidelane/Cancellation$Outcome" "CANCELLED" "Lcom/example/sidelane/sidelane/Cancellation$Outcome;" (.ref w_CANCELLED)) (S_w_REFUSED : Sta Z Z.heap "com/example/sidelane/sidelane/Cancellation$Outcome" "REFUSED" "Lcom/example/sidelane/sidelane/Cancellation$Outcome;" (.ref w_REFUSED)) (S_w_HANDED_OVER : Sta Z Z.heap "com/example/sidelane/sidelane/Cancellation$Outcome" "HANDED_OVER" "Lcom/example/sidelane/sidelane/Cancellation$Outcome;" (.ref w_HANDED_OVER)) (S_w_CANCELLED_UNEXECUTED : Sta Z Z.heap "com/example/sidelane/sidelane/Cancellation$Outcome" "CANCELLED_UNEXECUTED" "Lcom/example/sidelane/sidelane/Cancellation$Outcome;" (.ref w_CANCELLED_UNEXECUTED)) (S_w_ENDING_NEEDED : Sta Z Z.heap "com/example/sidelane/sidelane/Cancellation$Outcome" "ENDING_NEEDED" "Lcom/example/sidelane/sidelane/Cancellation$Outcome;" (.ref w_ENDING_NEEDED)) (ne_w_EXECUTE_w_ADOPTER : w_EXECUTE ≠ w_ADOPTER) :
    CtrS l (⟨"com/example/sidelane/sidelane/Cancellation", "cancel", "(ZLjava/lang/Object;)Lcom/example/sidelane/sidelane/Cancellation$Outcome;"⟩ : MethodName) prog_3_method_2_code 5 (some (.object "com/example/sidelane/sidelane/Cancellation$Outcome")) ({ frames := 0, cells := 0, slots := 0, locals := 0 } : Room) #[(.ref a1), (.int p2), (.ref a3)] Z h0 (fun v h L => (∃ r, v = some (.ref r)) ∧ Fr n0 L ∧ Keep h0 h [a1] ∧ own_ob Z h a1 .null (1 : Int32) (0 : Int32) (.ref a3) (.ref w_CANCELLED_UNEXECUTED)) := by
  have ef : ∀ m : MethodId, entryFrameSync m #[(.ref a1), (.int p2), (.ref a3)] 5 a1 = mkL a1 m 0 #[.val (.ref a1), .val (.int p2), .val (.ref a3), .unset, .unset] [] := fun m => by first | rfl | (simp [entryFrameSync, mkL, argsToLocals, Value.category]; done)
  refine CtrS.of (a := a1) (plainFor_of_name pn_8) rfl U0 ?_
  intro p e s0 s m below meth c s₁ cell hx hZ hby hml hown0 hnm hret hlk hs hcell hmon X0 M0 K0
  have hown : s.vm.findClass "com/example/sidelane/sidelane/Cancellation" = some m.cls := hown0
  have N0 := Fr.nil n0
  obtain ⟨h1, e0⟩ : ∃ z, s₁.heap = z := ⟨_, rfl⟩
  rw [e0] at M0 K0
  have O1 := O0.keep K0 (allS g_a1 all0)
  refine Go.st (fun t k => castTop (ef m) k) ?_
  have A_a1' : Exa Z h1 a1 "com/example/sidelane/sidelane/Cancellation" := A_a1.mon M0
  have F_claimedBy' : Fld Z h1 a1 "com/example/sidelane/sidelane/Cancellation" "claimedBy" "Lcom/example/sidelane/sidelane/Cancellation$Claimant;" .null := F_claimedBy.mon M0
  have F_cancelled' : Fld Z h1 a1 "com/example/sidelane/sidelane/Cancellation" "cancelled" "Z" (.int (0 : Int32)) := F_cancelled.mon M0
  have F_endingBegun' : Fld Z h1 a1 "com/example/sidelane/sidelane/Cancellation" "endingBegun" "Z" (.int (0 : Int32)) := F_endingBegun.mon M0
  have F_queued' : Fld Z h1 a1 "com/example/sidelane/sidelane/Cancellation" "queued" "Z" (.int (0 : Int32)) := F_queued.mon M0
  have F_runner' : Fld Z h1 a1 "com/example/sidelane/sidelane/Cancellation" "runner" "Ljava/lang/Thread;" .null := F_runner.mon M0
  have F_cancelEnding' : Fld Z h1 a1 "com/example/sidelane/sidelane/Cancellation" "cancelEnding" "Ljava/lang/Object;" en := F_cancelEnding.mon M0
  have F_cancelOutcome' : Fld Z h1 a1 "com/example/sidelane/sidelane/Cancellation" "cancelOutcome" "Lcom/example/sidelane/sidelane/Cancellation$Outcome;" oc := F_cancelOutcome.mon M0
  show Go p e below _ (s₁.setTop (mkL a1 m 0 #[.val (.ref a1), .val (.int p2), .val (.ref a3), .unset, .unset] []))
  refine Go.st (fun _ => XS.aloadN X0.here hx rfl (hb hby d8_0) rfl rfl) ?_
  show Go p e below _ (s₁.setTop (mkL a1 m 1 #[.val (.ref a1), .val (.int p2), .val (.ref a3), .unset, .unset] [(.ref a1)]))
  obtain ⟨T1, X1, e1, st1⟩ := getF X0 hx hZ hown (host := "") (Or.inl (hw _ (List.mem_of_getElem? (i := 21) rfl))) Via.refl e0 F_claimedBy' (g := (mkL a1 m 1 #[.val (.ref a1), .val (.int p2), .val (.ref a3), .unset, .unset] [(.ref a1)])) rfl rfl (hb hby d8_1)
  refine Go.st st1 ?_
  show Go p e below _ (T1.setTop (mkL a1 m 4 #[.val (.ref a1), .val (.int p2), .val (.ref a3), .unset, .unset] [.null]))
  obtain ⟨T2, X2, e2, st2⟩ := getS2 X1 hx hZ hown (host := "") (Or.inl (hw _ (List.mem_of_getElem? (i := 23) rfl))) Via.refl e1 (oldSta O1 S_w_ADOPTER) (g := (mkL a1 m 4 #[.val (.ref a1), .val (.int p2), .val (.ref a3), .unset, .unset] [.null])) rfl (hb hby d8_4)
  refine Go.st st2 ?_
  show Go p e below _ (T2.setTop (mkL a1 m 7 #[.val (.ref a1), .val (.int p2), .val (.ref a3), .unset, .unset] [(.ref w_ADOPTER), .null]))
  refine Go.st (fun _ => fun k => Jvm.RoadKit.acmp (g := (mkL a1 m 7 #[.val (.ref a1), .val (.int p2), .val (.ref a3), .unset, .unset] [(.ref w_ADOPTER), .null])) X2 hx rfl rfl rfl (pc0 := 7) (pc' := 14) (same := false) rfl (hb hby d8_7) rfl (decide_eq_false nofun) (by decide) (by decide) k) ?_
  show Go p e below _ (T2.setTop (mkL a1 m 14 #[.val (.ref a1), .val (.int p2), .val (.ref a3), .unset, .unset] []))
  refine Go.st (fun _ => XS.aloadN X2.here hx rfl (hb hby d8_14) rfl rfl) ?_
  show Go p e below _ (T2.setTop (mkL a1 m 15 #[.val (.ref a1), .val (.int p2), .val (.ref a3), .unset, .unset] [(.ref a1)]))
  obtain ⟨T3, X3, e3, st3⟩ := getF X2 hx hZ hown (host := "") (Or.inl (hw _ (List.mem_of_getElem? (i := 41) rfl))) Via.refl e2 F_cancelled' (g := (mkL a1 m 15 #[.val (.ref a1), .val (.int p2), .val (.ref a3), .unset, .unset] [(.ref a1)])) rfl rfl (hb hby d8_15)
  refine Go.st st3 ?_
  show Go p e below _ (T3.setTop (mkL a1 m 18 #[.val (.ref a1), .val (.int p2), .val (.ref a3), .unset, .unset] [(.int (0 : Int32))]))
  refine Go.st (fun _ => XS.ifYes X3.here hx rfl (pc0 := 18) (pc' := 44) rfl (hb hby d8_18) rfl ((if0 _ _).trans (teq (by decide : (0 : Int32) = (0 : Int32))).1) (by decide) (by decide)) ?_
  show Go p e below _ (T3.setTop (mkL a1 m 44 #[.val (.ref a1), .val (.int p2), .val (.ref a3), .unset, .unset] []))
  refine Go.st (fun _ => XS.aloadN X3.here hx rfl (hb hby d8_44) rfl rfl) ?_
  show Go p e below _ (T3.setTop (mkL a1 m 45 #[.val (.ref a1), .val (.int p2), .val (.ref a3), .unset, .unset] [(.ref a1)]))
  obtain ⟨T4, X4, e4, st4⟩ := getF X3 hx hZ hown (host := "") (Or.inl (hw _ (List.mem_of_getElem? (i := 48) rfl))) Via.refl e3 F_endingBegun' (g := (mkL a1 m 45 #[.val (.ref a1), .val (.int p2), .val (.ref a3), .unset, .unset] [(.ref a1)])) rfl rfl (hb hby d8_45)
  refine Go.st st4 ?_
  show Go p e below _ (T4.setTop (mkL a1 m 48 #[.val (.ref a1), .val (.int p2), .val (.ref a3), .unset, .unset] [(.int (0 : Int32))]))
  refine Go.st (fun _ => XS.ifYes X4.here hx rfl (pc0 := 48) (pc' := 55) rfl (hb hby d8_48) rfl ((if0 _ _).trans (teq (by decide : (0 : Int32) = (0 : Int32))).1) (by decide) (by decide)) ?_
  show Go p e below _ (T4.setTop (mkL a1 m 55 #[.val (.ref a1), .val (.int p2), .val (.ref a3), .unset, .unset] []))
  refine Go.st (fun _ => XS.aloadN X4.here hx rfl (hb hby d8_55) rfl rfl) ?_
  show Go p e below _ (T4.setTop (mkL a1 m 56 #[.val (.ref a1), .val (.int p2), .val (.ref a3), .unset, .unset] [(.ref a1)]))
  obtain ⟨T5, X5, e5, st5⟩ := getF X4 hx hZ hown (host := "") (Or.inl (hw _ (List.mem_of_getElem? (i := 21) rfl))) Via.refl e4 F_claimedBy' (g := (mkL a1 m 56 #[.val (.ref a1), .val (.int p2), .val (.ref a3), .unset, .unset] [(.ref a1)])) rfl rfl (hb hby d8_56)
  refine Go.st st5 ?_
  show Go p e below _ (T5.setTop (mkL a1 m 59 #[.val (.ref a1), .val (.int p2), .val (.ref a3), .unset, .unset] [.null]))
  obtain ⟨T6, X6, e6, st6⟩ := getS2 X5 hx hZ hown (host := "") (Or.inl (hw _ (List.mem_of_getElem? (i := 50) rfl))) Via.refl e5 (oldSta O1 S_w_EXECUTE) (g := (mkL a1 m 59 #[.val (.ref a1), .val (.int p2), .val (.ref a3), .unset, .unset] [.null])) rfl (hb hby d8_59)
  refine Go.st st6 ?_
  show Go p e below _ (T6.setTop (mkL a1 m 62 #[.val (.ref a1), .val (.int p2), .val (.ref a3), .unset, .unset] [(.ref w_EXECUTE), .null]))
  refine Go.st (fun _ => fun k => Jvm.RoadKit.acmp (g := (mkL a1 m 62 #[.val (.ref a1), .val (.int p2), .val (.ref a3), .unset, .unset] [(.ref w_EXECUTE), .null])) X6 hx rfl rfl rfl (pc0 := 62) (pc' := 69) (same := false) rfl (hb hby d8_62) rfl (decide_eq_false nofun) (by decide) (by decide) k) ?_
  show Go p e below _ (T6.setTop (mkL a1 m 69 #[.val (.ref a1), .val (.int p2), .val (.ref a3), .unset, .unset] []))
  refine Go.st (fun _ => XS.iconst X6.here hx rfl (hb hby d8_69)) ?_
  show Go p e below _ (T6.setTop (mkL a1 m 70 #[.val (.ref a1), .val (.int p2), .val (.ref a3), .unset, .unset] [(.int (0 : Int32))]))
  refine Go.st (fun _ => XS.istoreN X6.here hx rfl (hb hby d8_70) rfl (l' := #[.val (.ref a1), .val (.int p2), .val (.ref a3), .val (.int (0 : Int32)), .unset]) rfl) ?_
  show Go p e below _ (T6.setTop (mkL a1 m 71 #[.val (.ref a1), .val (.int p2), .val (.ref a3), .val (.int (0 : Int32)), .unset] []))
  refine Go.st (fun _ => XS.iloadN X6.here hx rfl (hb hby d8_71) rfl) ?_
  show Go p e below _ (T6.setTop (mkL a1 m 72 #[.val (.ref a1), .val (.int p2), .val (.ref a3), .val (.int (0 : Int32)), .unset] [(.int (0 : Int32))]))
  refine Go.st (fun _ => XS.ifYes X6.here hx rfl (pc0 := 72) (pc' := 82) rfl (hb hby d8_72) rfl ((if0 _ _).trans (teq (by decide : (0 : Int32) = (0 : Int32))).1) (by decide) (by decide)) ?_
  show Go p e below _ (T6.setTop (mkL a1 m 82 #[.val (.ref a1), .val (.int p2), .val (.ref a3), .val (.int (0 : Int32)), .unset] []))
  refine Go.st (fun _ => XS.iconst X6.here hx rfl (hb hby d8_82)) ?_
  show Go p e below _ (T6.setTop (mkL a1 m 83 #[.val (.ref a1), .val (.int p2), .val (.ref a3), .val (.int (0 : Int32)), .unset] [(.int (1 : Int32))]))
  refine Go.st (fun _ => XS.goto X6.here hx rfl (pc0 := 83) (pc' := 87) rfl (hb hby d8_83) (by decide) (by decide)) ?_
  show Go p e below _ (T6.setTop (mkL a1 m 87 #[.val (.ref a1), .val (.int p2), .val (.ref a3), .val (.int (0 : Int32)), .unset] [(.int (1 : Int32))]))
  refine Go.st (fun _ => XS.istore X6.here hx rfl (hb hby d8_87) rfl (l' := #[.val (.ref a1), .val (.int p2), .val (.ref a3), .val (.int (0 : Int32)), .val (.int (1 : Int32))]) rfl) ?_
  show Go p e below _ (T6.setTop (mkL a1 m 89 #[.val (.ref a1), .val (.int p2), .val (.ref a3), .val (.int (0 : Int32)), .val (.int (1 : Int32))] []))
  refine Go.st (fun _ => XS.iload X6.here hx rfl (hb hby d8_89) rfl) ?_
  show Go p e below _ (T6.setTop (mkL a1 m 91 #[.val (.ref a1), .val (.int p2), .val (.ref a3), .val (.int (0 : Int32)), .val (.int (1 : Int32))] [(.int (1 : Int32))]))
  refine Go.st (fun _ => XS.ifNo X6.here hx rfl (hb hby d8_91) rfl ((if0 _ _).trans (feq (by decide : ¬ ((1 : Int32) = (0 : Int32)))).1)) ?_
  show Go p e below _ (T6.setTop (mkL a1 m 94 #[.val (.ref a1), .val (.int p2), .val (.ref a3), .val (.int (0 : Int32)), .val (.int (1 : Int32))] []))
  refine Go.st (fun _ => XS.aloadN X6.here hx rfl (hb hby d8_94) rfl rfl) ?_
  show Go p e below _ (T6.setTop (mkL a1 m 95 #[.val (.ref a1), .val (.int p2), .val (.ref a3), .val (.int (0 : Int32)), .val (.int (1 : Int32))] [(.ref a3)]))
  refine Go.st (fun _ => XS.ifnonnullYes X6.here hx rfl (pc0 := 95) (pc' := 102) rfl (hb hby d8_95) rfl (by decide) (by decide)) ?_
  show Go p e below _ (T6.setTop (mkL a1 m 102 #[.val (.ref a1), .val (.int p2), .val (.ref a3), .val (.int (0 : Int32)), .val (.int (1 : Int32))] []))
  refine Go.st (fun _ => XS.aloadN X6.here hx rfl (hb hby d8_102) rfl rfl) ?_
  show Go p e below _ (T6.setTop (mkL a1 m 103 #[.val (.ref a1), .val (.int p2), .val (.ref a3), .val (.int (0 : Int32)), .val (.int (1 : Int32))] [(.ref a1)]))
  refine Go.st (fun _ => XS.iconst X6.here hx rfl (hb hby d8_103)) ?_
  show Go p e below _ (T6.setTop (mkL a1 m 104 #[.val (.ref a1), .val (.int p2), .val (.ref a3), .val (.int (0 : Int32)), .val (.int (1 : Int32))] [(.int (1 : Int32)), (.ref a1)]))
  obtain ⟨T7, h7, X7, e7, W7, st7⟩ := putFN X6 hx hZ hown (hw _ (List.mem_of_getElem? (i := 41) rfl)) Via.refl e6 F_cancelled' A_a1' (Or.inl (hw _ (List.mem_of_getElem? (i := 42) rfl))) (hw _ (List.mem_of_getElem? (i := 1) rfl)) (ty := .boolean) (v' := .int (nar .boolean (1 : Int32))) (by decide) rfl (fits_nar_bool _) (g := (mkL a1 m 104 #[.val (.ref a1), .val (.int p2), .val (.ref a3), .val (.int (0 : Int32)), .val (.int (1 : Int32))] [(.int (1 : Int32)), (.ref a1)])) rfl rfl (hb hby d8_104)
  refine Go.st st7 ?_
  have O8 : Old Z n0 h7 := O1.wr W7 g_a1
  have K9 : Keep h0 h7 [a1] := K0.wr W7 (Or.inl (List.mem_of_getElem? (i := 0) rfl))
  have E_10 : Exa Z h7 a1 "com/example/sidelane/sidelane/Cancellation" := A_a1'.wr W7
  have F11 : Fld Z h7 a1 "com/example/sidelane/sidelane/Cancellation" "claimedBy" "Lcom/example/sidelane/sidelane/Cancellation$Claimant;" .null := F_claimedBy'.other W7 (Or.inr (slot_ne (Or.inl (hw _ (List.mem_of_getElem? (i := 22) rfl))) (Or.inl (hw _ (List.mem_of_getElem? (i := 42) rfl))) (by decide) (t := (.object "com/example/sidelane/sidelane/Cancellation$Claimant")) (t' := .boolean) (by decide) (by decide)))
  have F12 : Fld Z h7 a1 "com/example/sidelane/sidelane/Cancellation" "endingBegun" "Z" (.int (0 : Int32)) := F_endingBegun'.other W7 (Or.inr (slot_ne (Or.inl (hw _ (List.mem_of_getElem? (i := 49) rfl))) (Or.inl (hw _ (List.mem_of_getElem? (i := 42) rfl))) (by decide) (t := .boolean) (t' := .boolean) (by decide) (by decide)))
  have F13 : Fld Z h7 a1 "com/example/sidelane/sidelane/Cancellation" "queued" "Z" (.int (0 : Int32)) := F_queued'.other W7 (Or.inr (slot_ne (Or.inl (hw _ (List.mem_of_getElem? (i := 61) rfl))) (Or.inl (hw _ (List.mem_of_getElem? (i := 42) rfl))) (by decide) (t := .boolean) (t' := .boolean) (by decide) (by decide)))
  have F14 : Fld Z h7 a1 "com/example/sidelane/sidelane/Cancellation" "runner" "Ljava/lang/Thread;" .null := F_runner'.other W7 (Or.inr (slot_ne (Or.inl (hw _ (List.mem_of_getElem? (i := 91) rfl))) (Or.inl (hw _ (List.mem_of_getElem? (i := 42) rfl))) (by decide) (t := (.object "java/lang/Thread")) (t' := .boolean) (by decide) (by decide)))
  have F15 : Fld Z h7 a1 "com/example/sidelane/sidelane/Cancellation" "cancelEnding" "Ljava/lang/Object;" en := F_cancelEnding'.other W7 (Or.inr (slot_ne (Or.inl (hw _ (List.mem_of_getElem? (i := 58) rfl))) (Or.inl (hw _ (List.mem_of_getElem? (i := 42) rfl))) (by decide) (t := (.object "java/lang/Object")) (t' := .boolean) (by decide) (by decide)))
  have F16 : Fld Z h7 a1 "com/example/sidelane/sidelane/Cancellation" "cancelOutcome" "Lcom/example/sidelane/sidelane/Cancellation$Outcome;" oc := F_cancelOutcome'.other W7 (Or.inr (slot_ne (Or.inl (hw _ (List.mem_of_getElem? (i := 56) rfl))) (Or.inl (hw _ (List.mem_of_getElem? (i := 42) rfl))) (by decide) (t := (.object "com/example/sidelane/sidelane/Cancellation$Outcome")) (t' := .boolean) (by decide) (by decide)))
  have F17 : Fld Z h7 a1 "com/example/sidelane/sidelane/Cancellation" "cancelled" "Z" (.int (1 : Int32)) := F_cancelled'.same W7
  have N7 := Fr.snoc X7 N0 g_a1
  show Go p e below _ (T7.setTop (mkL a1 m 107 #[.val (.ref a1), .val (.int p2), .val (.ref a3), .val (.int (0 : Int32)), .val (.int (1 : Int32))] []))
  refine Go.st (fun _ => XS.iloadN X7.here hx rfl (hb hby d8_107) rfl) ?_
  show Go p e below _ (T7.setTop (mkL a1 m 108 #[.val (.ref a1), .val (.int p2), .val (.ref a3), .val (.int (0 : Int32)), .val (.int (1 : Int32))] [(.int p2)]))
  by_cases hc18 : p2 = (0 : Int32)
  · refine Go.st (fun _ => XS.ifYes X7.here hx rfl (pc0 := 108) (pc' := 125) rfl (hb hby d8_108) rfl ((if0 _ _).trans (teq hc18).1) (by decide) (by decide)) ?_
    show Go p e below _ (T7.setTop (mkL a1 m 125 #[.val (.ref a1), .val (.int p2), .val (.ref a3), .val (.int (0 : Int32)), .val (.int (1 : Int32))] []))
    refine Go.st (fun _ => XS.iloadN X7.here hx rfl (hb hby d8_125) rfl) ?_
    show Go p e below _ (T7.setTop (mkL a1 m 126 #[.val (.ref a1), .val (.int p2), .val (.ref a3), .val (.int (0 : Int32)), .val (.int (1 : Int32))] [(.int (0 : Int32))]))
    refine Go.st (fun _ => XS.ifNo X7.here hx rfl (hb hby d8_126) rfl ((if0 _ _).trans (teq (by decide : (0 : Int32) = (0 : Int32))).2)) ?_
    show Go p e below _ (T7.setTop (mkL a1 m 129 #[.val (.ref a1), .val (.int p2), .val (.ref a3), .val (.int (0 : Int32)), .val (.int (1 : Int32))] []))
    refine Go.st (fun _ => XS.aloadN X7.here hx rfl (hb hby d8_129) rfl rfl) ?_
    show Go p e below _ (T7.setTop (mkL a1 m 130 #[.val (.ref a1), .val (.int p2), .val (.ref a3), .val (.int (0 : Int32)), .val (.int (1 : Int32))] [(.ref a1)]))
    obtain ⟨T19, X19, e19, st19⟩ := getS2 X7 hx hZ hown (host := "") (Or.inl (hw _ (List.mem_of_getElem? (i := 52) rfl))) Via.refl e7 (oldSta O8 S_w_CANCELLED_UNEXECUTED) (g := (mkL a1 m 130 #[.val (.ref a1), .val (.int p2), .val (.ref a3), .val (.int (0 : Int32)), .val (.int (1 : Int32))] [(.ref a1)])) rfl (hb hby d8_130)
    refine Go.st st19 ?_
    show Go p e below _ (T19.setTop (mkL a1 m 133 #[.val (.ref a1), .val (.int p2), .val (.ref a3), .val (.int (0 : Int32)), .val (.int (1 : Int32))] [(.ref w_CANCELLED_UNEXECUTED), (.ref a1)]))
    obtain ⟨T20, h20, X20, e20, W20, st20⟩ := putF X19 hx hZ hown (host := "") (Or.inl (hw _ (List.mem_of_getElem? (i := 55) rfl))) Via.refl e19 F16 E_10 (Or.inl (hw _ (List.mem_of_getElem? (i := 56) rfl))) (hw _ (List.mem_of_getElem? (i := 1) rfl)) (ty := (.object "com/example/sidelane/sidelane/Cancellation$Outcome")) (by decide) rfl rfl (g := (mkL a1 m 133 #[.val (.ref a1), .val (.int p2), .val (.ref a3), .val (.int (0 : Int32)), .val (.int (1 : Int32))] [(.ref w_CANCELLED_UNEXECUTED), (.ref a1)])) rfl rfl (hb hby d8_133)
    refine Go.st st20 ?_
    have O21 : Old Z n0 h20 := O8.wr W20 g_a1
    have K22 : Keep h0 h20 [a1] := K9.wr W20 (Or.inl (List.mem_of_getElem? (i := 0) rfl))
    have E_23 : Exa Z h20 a1 "com/example/sidelane/sidelane/Cancellation" := E_10.wr W20
    have F24 : Fld Z h20 a1 "com/example/sidelane/sidelane/Cancellation" "claimedBy" "Lcom/example/sidelane/sidelane/Cancellation$Claimant;" .null := F11.other W20 (Or.inr (slot_ne (Or.inl (hw _ (List.mem_of_getElem? (i := 22) rfl))) (Or.inl (hw _ (List.mem_of_getElem? (i := 56) rfl))) (by decide) (t := (.object "com/example/sidelane/sidelane/Cancellation$Claimant")) (t' := (.object "com/example/sidelane/sidelane/Cancellation$Outcome")) (by decide) (by decide)))
    have F25 : Fld Z h20 a1 "com/example/sidelane/sidelane/Cancellation" "endingBegun" "Z" (.int (0 : Int32)) := F12.other W20 (Or.inr (slot_ne (Or.inl (hw _ (List.mem_of_getElem? (i := 49) rfl))) (Or.inl (hw _ (List.mem_of_getElem? (i := 56) rfl))) (by decide) (t := .boolean) (t' := (.object "com/example/sidelane/sidelane/Cancellation$Outcome")) (by decide) (by decide)))
    have F26 : Fld Z h20 a1 "com/example/sidelane/sidelane/Cancellation" "queued" "Z" (.int (0 : Int32)) := F13.other W20 (Or.inr (slot_ne (Or.inl (hw _ (List.mem_of_getElem? (i := 61) rfl))) (Or.inl (hw _ (List.mem_of_getElem? (i := 56) rfl))) (by decide) (t := .boolean) (t' := (.object "com/example/sidelane/sidelane/Cancellation$Outcome")) (by decide) (by decide)))
    have F27 : Fld Z h20 a1 "com/example/sidelane/sidelane/Cancellation" "runner" "Ljava/lang/Thread;" .null := F14.other W20 (Or.inr (slot_ne (Or.inl (hw _ (List.mem_of_getElem? (i := 91) rfl))) (Or.inl (hw _ (List.mem_of_getElem? (i := 56) rfl))) (by decide) (t := (.object "java/lang/Thread")) (t' := (.object "com/example/sidelane/sidelane/Cancellation$Outcome")) (by decide) (by decide)))
    have F28 : Fld Z h20 a1 "com/example/sidelane/sidelane/Cancellation" "cancelEnding" "Ljava/lang/Object;" en := F15.other W20 (Or.inr (slot_ne (Or.inl (hw _ (List.mem_of_getElem? (i := 58) rfl))) (Or.inl (hw _ (List.mem_of_getElem? (i := 56) rfl))) (by decide) (t := (.object "java/lang/Object")) (t' := (.object "com/example/sidelane/sidelane/Cancellation$Outcome")) (by decide) (by decide)))
    have F29 : Fld Z h20 a1 "com/example/sidelane/sidelane/Cancellation" "cancelled" "Z" (.int (1 : Int32)) := F17.other W20 (Or.inr (slot_ne (Or.inl (hw _ (List.mem_of_getElem? (i := 42) rfl))) (Or.inl (hw _ (List.mem_of_getElem? (i := 56) rfl))) (by decide) (t := .boolean) (t' := (.object "com/example/sidelane/sidelane/Cancellation$Outcome")) (by decide) (by decide)))
    have F30 : Fld Z h20 a1 "com/example/sidelane/sidelane/Cancellation" "cancelOutcome" "Lcom/example/sidelane/sidelane/Cancellation$Outcome;" (.ref w_CANCELLED_UNEXECUTED) := F16.same W20
    have N20 := Fr.snoc X20 N7 g_a1
    show Go p e below _ (T20.setTop (mkL a1 m 136 #[.val (.ref a1), .val (.int p2), .val (.ref a3), .val (.int (0 : Int32)), .val (.int (1 : Int32))] []))
    refine Go.st (fun _ => XS.goto X20.here hx rfl (pc0 := 136) (pc' := 163) rfl (hb hby d8_136) (by decide) (by decide)) ?_
    show Go p e below _ (T20.setTop (mkL a1 m 163 #[.val (.ref a1), .val (.int p2), .val (.ref a3), .val (.int (0 : Int32)), .val (.int (1 : Int32))] []))
    refine Go.st (fun _ => XS.aloadN X20.here hx rfl (hb hby d8_163) rfl rfl) ?_
    show Go p e below _ (T20.setTop (mkL a1 m 164 #[.val (.ref a1), .val (.int p2), .val (.ref a3), .val (.int (0 : Int32)), .val (.int (1 : Int32))] [(.ref a1)]))
    refine Go.st (fun _ => XS.aloadN X20.here hx rfl (hb hby d8_164) rfl rfl) ?_
    show Go p e below _ (T20.setTop (mkL a1 m 165 #[.val (.ref a1), .val (.int p2), .val (.ref a3), .val (.int (0 : Int32)), .val (.int (1 : Int32))] [(.ref a3), (.ref a1)]))
    obtain ⟨T31, h31, X31, e31, W31, st31⟩ := putF X20 hx hZ hown (host := "") (Or.inl (hw _ (List.mem_of_getElem? (i := 57) rfl))) Via.refl e20 F28 E_23 (Or.inl (hw _ (List.mem_of_getElem? (i := 58) rfl))) (hw _ (List.mem_of_getElem? (i := 1) rfl)) (ty := (.object "java/lang/Object")) (by decide) rfl rfl (g := (mkL a1 m 165 #[.val (.ref a1), .val (.int p2), .val (.ref a3), .val (.int (0 : Int32)), .val (.int (1 : Int32))] [(.ref a3), (.ref a1)])) rfl rfl (hb hby d8_165)
    refine Go.st st31 ?_
    have O32 : Old Z n0 h31 := O21.wr W31 g_a1
    have K33 : Keep h0 h31 [a1] := K22.wr W31 (Or.inl (List.mem_of_getElem? (i := 0) rfl))
    have E_34 : Exa Z h31 a1 "com/example/sidelane/sidelane/Cancellation" := E_23.wr W31
    have F35 : Fld Z h31 a1 "com/example/sidelane/sidelane/Cancellation" "claimedBy" "Lcom/example/sidelane/sidelane/Cancellation$Claimant;" .null := F24.other W31 (Or.inr (slot_ne (Or.inl (hw _ (List.mem_of_getElem? (i := 22) rfl))) (Or.inl (hw _ (List.mem_of_getElem? (i := 58) rfl))) (by decide) (t := (.object "com/example/sidelane/sidelane/Cancellation$Claimant")) (t' := (.object "java/lang/Object")) (by decide) (by decide)))
    have F36 : Fld Z h31 a1 "com/example/sidelane/sidelane/Cancellation" "endingBegun" "Z" (.int (0 : Int32)) := F25.other W31 (Or.inr (slot_ne (Or.inl (hw _ (List.mem_of_getElem? (i := 49) rfl))) (Or.inl (hw _ (List.mem_of_getElem? (i := 58) rfl))) (by decide) (t := .boolean) (t' := (.object "java/lang/Object")) (by decide) (by decide)))
    have F37 : Fld Z h31 a1 "com/example/sidelane/sidelane/Cancellation" "queued" "Z" (.int (0 : Int32)) := F26.other W31 (Or.inr (slot_ne (Or.inl (hw _ (List.mem_of_getElem? (i := 61) rfl))) (Or.inl (hw _ (List.mem_of_getElem? (i := 58) rfl))) (by decide) (t := .boolean) (t' := (.object "java/lang/Object")) (by decide) (by decide)))
    have F38 : Fld Z h31 a1 "com/example/sidelane/sidelane/Cancellation" "runner" "Ljava/lang/Thread;" .null := F27.other W31 (Or.inr (slot_ne (Or.inl (hw _ (List.mem_of_getElem? (i := 91) rfl))) (Or.inl (hw _ (List.mem_of_getElem? (i := 58) rfl))) (by decide) (t := (.object "java/lang/Thread")) (t' := (.object "java/lang/Object")) (by decide) (by decide)))
    have F39 : Fld Z h31 a1 "com/example/sidelane/sidelane/Cancellation" "cancelled" "Z" (.int (1 : Int32)) := F29.other W31 (Or.inr (slot_ne (Or.inl (hw _ (List.mem_of_getElem? (i := 42) rfl))) (Or.inl (hw _ (List.mem_of_getElem? (i := 58) rfl))) (by decide) (t := .boolean) (t' := (.object "java/lang/Object")) (by decide) (by decide)))
    have F40 : Fld Z h31 a1 "com/example/sidelane/sidelane/Cancellation" "cancelOutcome" "Lcom/example/sidelane/sidelane/Cancellation$Outcome;" (.ref w_CANCELLED_UNEXECUTED) := F30.other W31 (Or.inr (slot_ne (Or.inl (hw _ (List.mem_of_getElem? (i := 56) rfl))) (Or.inl (hw _ (List.mem_of_getElem? (i := 58) rfl))) (by decide) (t := (.object "com/example/sidelane/sidelane/Cancellation$Outcome")) (t' := (.object "java/lang/Object")) (by decide) (by decide)))
    have F41 : Fld Z h31 a1 "com/example/sidelane/sidelane/Cancellation" "cancelEnding" "Ljava/lang/Object;" (.ref a3) := F28.same W31
    have N31 := Fr.snoc X31 N20 g_a1
    show Go p e below _ (T31.setTop (mkL a1 m 168 #[.val (.ref a1), .val (.int p2), .val (.ref a3), .val (.int (0 : Int32)), .val (.int (1 : Int32))] []))
    refine Go.st (fun _ => XS.aloadN X31.here hx rfl (hb hby d8_168) rfl rfl) ?_
    show Go p e below _ (T31.setTop (mkL a1 m 169 #[.val (.ref a1), .val (.int p2), .val (.ref a3), .val (.int (0 : Int32)), .val (.int (1 : Int32))] [(.ref a1)]))
    obtain ⟨T42, X42, e42, st42⟩ := getF X31 hx hZ hown (host := "") (Or.inl (hw _ (List.mem_of_getElem? (i := 55) rfl))) Via.refl e31 F40 (g := (mkL a1 m 169 #[.val (.ref a1), .val (.int p2), .val (.ref a3), .val (.int (0 : Int32)), .val (.int (1 : Int32))] [(.ref a1)])) rfl rfl (hb hby d8_169)
    refine Go.st st42 ?_
    show Go p e below _ (T42.setTop (mkL a1 m 172 #[.val (.ref a1), .val (.int p2), .val (.ref a3), .val (.int (0 : Int32)), .val (.int (1 : Int32))] [(.ref w_CANCELLED_UNEXECUTED)]))
    refine goRetS (v := some (.ref w_CANCELLED_UNEXECUTED)) X42 hs hcell hmon hlk (fun h => by rw [hret] at h; cases h) e42 (fun V hV => retS X42 hx hret rfl (Or.inr (Or.inr (Or.inr (Or.inr ⟨rfl, rfl, rfl⟩)))) (hb hby d8_172) hV) (by decide) (by decide) (fun h' M' K' hm' => ?_)
    exact ⟨⟨_, rfl⟩, N31, (K33.trans K' (allS (Or.inl (List.mem_singleton_self _)) all0)), ⟨(E_34.mon M'), (untEnd U0 (K33.trans K' (allS (Or.inl (List.mem_singleton_self _)) all0)) hm'), (F35.mon M'), (F39.mon M'), (F36.mon M'), (F37.mon M'), (F38.mon M'), (F41.mon M'), (F40.mon M')⟩⟩
  · refine Go.st (fun _ => XS.ifNo X7.here hx rfl (hb hby d8_108) rfl ((if0 _ _).trans (feq hc18).1)) ?_
    show Go p e below _ (T7.setTop (mkL a1 m 111 #[.val (.ref a1), .val (.int p2), .val (.ref a3), .val (.int (0 : Int32)), .val (.int (1 : Int32))] []))
    refine Go.st (fun _ => XS.aloadN X7.here hx rfl (hb hby d8_111) rfl rfl) ?_
    show Go p e below _ (T7.setTop (mkL a1 m 112 #[.val (.ref a1), .val (.int p2), .val (.ref a3), .val (.int (0 : Int32)), .val (.int (1 : Int32))] [(.ref a1)]))
    obtain ⟨T43, X43, e43, st43⟩ := getF X7 hx hZ hown (host := "") (Or.inl (hw _ (List.mem_of_getElem? (i := 90) rfl))) Via.refl e7 F14 (g := (mkL a1 m 112 #[.val (.ref a1), .val (.int p2), .val (.ref a3), .val (.int (0 : Int32)), .val (.int (1 : Int32))] [(.ref a1)])) rfl rfl (hb hby d8_112)
    refine Go.st st43 ?_
    show Go p e below _ (T43.setTop (mkL a1 m 115 #[.val (.ref a1), .val (.int p2), .val (.ref a3), .val (.int (0 : Int32)), .val (.int (1 : Int32))] [.null]))
    refine Go.st (fun _ => XS.ifnullYes X43.here hx rfl (pc0 := 115) (pc' := 125) rfl (hb hby d8_115) rfl (by decide) (by decide)) ?_
    show Go p e below _ (T43.setTop (mkL a1 m 125 #[.val (.ref a1), .val (.int p2), .val (.ref a3), .val (.int (0 : Int32)), .val (.int (1 : Int32))] []))
    refine Go.st (fun _ => XS.iloadN X43.here hx rfl (hb hby d8_125) rfl) ?_
    show Go p e below _ (T43.setTop (mkL a1 m 126 #[.val (.ref a1), .val (.int p2), .val (.ref a3), .val (.int (0 : Int32)), .val (.int (1 : Int32))] [(.int (0 : Int32))]))
    refine Go.st (fun _ => XS.ifNo X43.here hx rfl (hb hby d8_126) rfl ((if0 _ _).trans (teq (by decide : (0 : Int32) = (0 : Int32))).2)) ?_
    show Go p e below _ (T43.setTop (mkL a1 m 129 #[.val (.ref a1), .val (.int p2), .val (.ref a3), .val (.int (0 : Int32)), .val (.int (1 : Int32))] []))
    refine Go.st (fun _ => XS.aloadN X43.here hx rfl (hb hby d8_129) rfl rfl) ?_
    show Go p e below _ (T43.setTop (mkL a1 m 130 #[.val (.ref a1), .val (.int p2), .val (.ref a3), .val (.int (0 : Int32)), .val (.int (1 : Int32))] [(.ref a1)]))
    obtain ⟨T44, X44, e44, st44⟩ := getS2 X43 hx hZ hown (host := "") (Or.inl (hw _ (List.mem_of_getElem? (i := 52) rfl))) Via.refl e43 (oldSta O8 S_w_CANCELLED_UNEXECUTED) (g := (mkL a1 m 130 #[.val (.ref a1), .val (.int p2), .val (.ref a3), .val (.int (0 : Int32)), .val (.int (1 : Int32))] [(.ref a1)])) rfl (hb hby d8_130)
    refine Go.st st44 ?_
    show Go p e below _ (T44.setTop (mkL a1 m 133 #[.val (.ref a1), .val (.int p2), .val (.ref a3), .val (.int (0 : Int32)), .val (.int (1 : Int32))] [(.ref w_CANCELLED_UNEXECUTED), (.ref a1)]))
    obtain ⟨T45, h45, X45, e45, W45, st45⟩ := putF X44 hx hZ hown (host := "") (Or.inl (hw _ (List.mem_of_getElem? (i := 55) rfl))) Via.refl e44 F16 E_10 (Or.inl (hw _ (List.mem_of_getElem? (i := 56) rfl))) (hw _ (List.mem_of_getElem? (i := 1) rfl)) (ty := (.object "com/example/sidelane/sidelane/Cancellation$Outcome")) (by decide) rfl rfl (g := (mkL a1 m 133 #[.val (.ref a1), .val (.int p2), .val (.ref a3), .val (.int (0 : Int32)), .val (.int (1 : Int32))] [(.ref w_CANCELLED_UNEXECUTED), (.ref a1)])) rfl rfl (hb hby d8_133)
    refine Go.st st45 ?_
    have O46 : Old Z n0 h45 := O8.wr W45 g_a1
    have K47 : Keep h0 h45 [a1] := K9.wr W45 (Or.inl (List.mem_of_getElem? (i := 0) rfl))
    have E_48 : Exa Z h45 a1 "com/example/sidelane/sidelane/Cancellation" := E_10.wr W45
    have F49 : Fld Z h45 a1 "com/example/sidelane/sidelane/Cancellation" "claimedBy" "Lcom/example/sidelane/sidelane/Cancellation$Claimant;" .null := F11.other W45 (Or.inr (slot_ne (Or.inl (hw _ (List.mem_of_getElem? (i := 22) rfl))) (Or.inl (hw _ (List.mem_of_getElem? (i := 56) rfl))) (by decide) (t := (.object "com/example/sidelane/sidelane/Cancellation$Claimant")) (t' := (.object "com/example/sidelane/sidelane/Cancellation$Outcome")) (by decide) (by decide)))
    have F50 : Fld Z h45 a1 "com/example/sidelane/sidelane/Cancellation" "endingBegun" "Z" (.int (0 : Int32)) := F12.other W45 (Or.inr (slot_ne (Or.inl (hw _ (List.mem_of_getElem? (i := 49) rfl))) (Or.inl (hw _ (List.mem_of_getElem? (i := 56) rfl))) (by decide) (t := .boolean) (t' := (.object "com/example/sidelane/sidelane/Cancellation$Outcome")) (by decide) (by decide)))
    have F51 : Fld Z h45 a1 "com/example/sidelane/sidelane/Cancellation" "queued" "Z" (.int (0 : Int32)) := F13.other W45 (Or.inr (slot_ne (Or.inl (hw _ (List.mem_of_getElem? (i := 61) rfl))) (Or.inl (hw _ (List.mem_of_getElem? (i := 56) rfl))) (by decide) (t := .boolean) (t' := (.object "com/example/sidelane/sidelane/Cancellation$Outcome")) (by decide) (by decide)))
    have F52 : Fld Z h45 a1 "com/example/sidelane/sidelane/Cancellation" "runner" "Ljava/lang/Thread;" .null := F14.other W45 (Or.inr (slot_ne (Or.inl (hw _ (List.mem_of_getElem? (i := 91) rfl))) (Or.inl (hw _ (List.mem_of_getElem? (i := 56) rfl))) (by decide) (t := (.object "java/lang/Thread")) (t' := (.object "com/example/sidelane/sidelane/Cancellation$Outcome")) (by decide) (by decide)))
    have F53 : Fld Z h45 a1 "com/example/sidelane/sidelane/Cancellation" "cancelEnding" "Ljava/lang/Object;" en := F15.other W45 (Or.inr (slot_ne (Or.inl (hw _ (List.mem_of_getElem? (i := 58) rfl))) (Or.inl (hw _ (List.mem_of_getElem? (i := 56) rfl))) (by decide) (t := (.object "java/lang/Object")) (t' := (.object "com/example/sidelane/sidelane/Cancellation$Outcome")) (by decide) (by decide)))
    have F54 : Fld Z h45 a1 "com/example/sidelane/sidelane/Cancellation" "cancelled" "Z" (.int (1 : Int32)) := F17.other W45 (Or.inr (slot_ne (Or.inl (hw _ (List.mem_of_getElem? (i := 42) rfl))) (Or.inl (hw _ (List.mem_of_getElem? (i := 56) rfl))) (by decide) (t := .boolean) (t' := (.object "com/example/sidelane/sidelane/Cancellation$Outcome")) (by decide) (by decide)))
    have F55 : Fld Z h45 a1 "com/example/sidelane/sidelane/Cancellation" "cancelOutcome" "Lcom/example/sidelane/sidelane/Cancellation$Outcome;" (.ref w_CANCELLED_UNEXECUTED) := F16.same W45
    have N45 := Fr.snoc X45 N7 g_a1
    show Go p e below _ (T45.setTop (mkL a1 m 136 #[.val (.ref a1), .val (.int p2), .val (.ref a3), .val (.int (0 : Int32)), .val (.int (1 : Int32))] []))
    refine Go.st (fun _ => XS.goto X45.here hx rfl (pc0 := 136) (pc' := 163) rfl (hb hby d8_136) (by decide) (by decide)) ?_
    show Go p e below _ (T45.setTop (mkL a1 m 163 #[.val (.ref a1), .val (.int p2), .val (.ref a3), .val (.int (0 : Int32)), .val (.int (1 : Int32))] []))
    refine Go.st (fun _ => XS.aloadN X45.here hx rfl (hb hby d8_163) rfl rfl) ?_
    show Go p e below _ (T45.setTop (mkL a1 m 164 #[.val (.ref a1), .val (.int p2), .val (.ref a3), .val (.int (0 : Int32)), .val (.int (1 : Int32))] [(.ref a1)]))
    refine Go.st (fun _ => XS.aloadN X45.here hx rfl (hb hby d8_164) rfl rfl) ?_
    show Go p e below _ (T45.setTop (mkL a1 m 165 #[.val (.ref a1), .val (.int p2), .val (.ref a3), .val (.int (0 : Int32)), .val (.int (1 : Int32))] [(.ref a3), (.ref a1)]))
    obtain ⟨T56, h56, X56, e56, W56, st56⟩ := putF X45 hx hZ hown (host := "") (Or.inl (hw _ (List.mem_of_getElem? (i := 57) rfl))) Via.refl e45 F53 E_48 (Or.inl (hw _ (List.mem_of_getElem? (i := 58) rfl))) (hw _ (List.mem_of_getElem? (i := 1) rfl)) (ty := (.object "java/lang/Object")) (by decide) rfl rfl (g := (mkL a1 m 165 #[.val (.ref a1), .val (.int p2), .val (.ref a3), .val (.int (0 : Int32)), .val (.int (1 : Int32))] [(.ref a3), (.ref a1)])) rfl rfl (hb hby d8_165)
    refine Go.st st56 ?_
    have O57 : Old Z n0 h56 := O46.wr W56 g_a1
    have K58 : Keep h0 h56 [a1] := K47.wr W56 (Or.inl (List.mem_of_getElem? (i := 0) rfl))
    have E_59 : Exa Z h56 a1 "com/example/sidelane/sidelane/Cancellation" := E_48.wr W56
    have F60 : Fld Z h56 a1 "com/example/sidelane/sidelane/Cancellation" "claimedBy" "Lcom/example/sidelane/sidelane/Cancellation$Claimant;" .null := F49.other W56 (Or.inr (slot_ne (Or.inl (hw _ (List.mem_of_getElem? (i := 22) rfl))) (Or.inl (hw _ (List.mem_of_getElem? (i := 58) rfl))) (by decide) (t := (.object "com/example/sidelane/sidelane/Cancellation$Claimant")) (t' := (.object "java/lang/Object")) (by decide) (by decide)))
    have F61 : Fld Z h56 a1 "com/example/sidelane/sidelane/Cancellation" "endingBegun" "Z" (.int (0 : Int32)) := F50.other W56 (Or.inr (slot_ne (Or.inl (hw _ (List.mem_of_getElem? (i := 49) rfl))) (Or.inl (hw _ (List.mem_of_getElem? (i := 58) rfl))) (by decide) (t := .boolean) (t' := (.object "java/lang/Object")) (by decide) (by decide)))
    have F62 : Fld Z h56 a1 "com/example/sidelane/sidelane/Cancellation" "queued" "Z" (.int (0 : Int32)) := F51.other W56 (Or.inr (slot_ne (Or.inl (hw _ (List.mem_of_getElem? (i := 61) rfl))) (Or.inl (hw _ (List.mem_of_getElem? (i := 58) rfl))) (by decide) (t := .boolean) (t' := (.object "java/lang/Object")) (by decide) (by decide)))
    have F63 : Fld Z h56 a1 "com/example/sidelane/sidelane/Cancellation" "runner" "Ljava/lang/Thread;" .null := F52.other W56 (Or.inr (slot_ne (Or.inl (hw _ (List.mem_of_getElem? (i := 91) rfl))) (Or.inl (hw _ (List.mem_of_getElem? (i := 58) rfl))) (by decide) (t := (.object "java/lang/Thread")) (t' := (.object "java/lang/Object")) (by decide) (by decide)))
    have F64 : Fld Z h56 a1 "com/example/sidelane/sidelane/Cancellation" "cancelled" "Z" (.int (1 : Int32)) := F54.other W56 (Or.inr (slot_ne (Or.inl (hw _ (List.mem_of_getElem? (i := 42) rfl))) (Or.inl (hw _ (List.mem_of_getElem? (i := 58) rfl))) (by decide) (t := .boolean) (t' := (.object "java/lang/Object")) (by decide) (by decide)))
    have F65 : Fld Z h56 a1 "com/example/sidelane/sidelane/Cancellation" "cancelOutcome" "Lcom/example/sidelane/sidelane/Cancellation$Outcome;" (.ref w_CANCELLED_UNEXECUTED) := F55.other W56 (Or.inr (slot_ne (Or.inl (hw _ (List.mem_of_getElem? (i := 56) rfl))) (Or.inl (hw _ (List.mem_of_getElem? (i := 58) rfl))) (by decide) (t := (.object "com/example/sidelane/sidelane/Cancellation$Outcome")) (t' := (.object "java/lang/Object")) (by decide) (by decide)))
    have F66 : Fld Z h56 a1 "com/example/sidelane/sidelane/Cancellation" "cancelEnding" "Ljava/lang/Object;" (.ref a3) := F53.same W56
    have N56 := Fr.snoc X56 N45 g_a1
    show Go p e below _ (T56.setTop (mkL a1 m 168 #[.val (.ref a1), .val (.int p2), .val (.ref a3), .val (.int (0 : Int32)), .val (.int (1 : Int32))] []))
    refine Go.st (fun _ => XS.aloadN X56.here hx rfl (hb hby d8_168) rfl rfl) ?_
    show Go p e below _ (T56.setTop (mkL a1 m 169 #[.val (.ref a1), .val (.int p2), .val (.ref a3), .val (.int (0 : Int32)), .val (.int (1 : Int32))] [(.ref a1)]))
    obtain ⟨T67, X67, e67, st67⟩ := getF X56 hx hZ hown (host := "") (Or.inl (hw _ (List.mem_of_getElem? (i := 55) rfl))) Via.refl e56 F65 (g := (mkL a1 m 169 #[.val (.ref a1), .val (.int p2), .val (.ref a3), .val (.int (0 : Int32)), .val (.int (1 : Int32))] [(.ref a1)])) rfl rfl (hb hby d8_169)
    refine Go.st st67 ?_
    show Go p e below _ (T67.setTop (mkL a1 m 172 #[.val (.ref a1), .val (.int p2), .val (.ref a3), .val (.int (0 : Int32)), .val (.int (1 : Int32))] [(.ref w_CANCELLED_UNEXECUTED)]))
    refine goRetS (v := some (.ref w_CANCELLED_UNEXECUTED)) X67 hs hcell hmon hlk (fun h => by rw [hret] at h; cases h) e67 (fun V hV => retS X67 hx hret rfl (Or.inr (Or.inr (Or.inr (Or.inr ⟨rfl, rfl, rfl⟩)))) (hb hby d8_172) hV) (by decide) (by decide) (fun h' M' K' hm' => ?_)
    exact ⟨⟨_, rfl⟩, N56, (K58.trans K' (allS (Or.inl (List.mem_singleton_self _)) all0)), ⟨(E_59.mon M'), (untEnd U0 (K58.trans K' (allS (Or.inl (List.mem_singleton_self _)) all0)) hm'), (F60.mon M'), (F64.mon M'), (F61.mon M'), (F62.mon M'), (F63.mon M'), (F66.mon M'), (F65.mon M')⟩⟩
set_option maxRecDepth 65536 in
set_option maxHeartbeats 40000000 in
theorem rmBE (l : Launch) (Z : State) (a0 : Array Value) (hw : ∀ d ∈ tables_1, d.before a0 Z = true) (a1 : Addr) (en oc : Value) (h0 : Heap) (n0 : Nat) (O0 : Old Z n0 h0) (U0 : Unt h0 a1) (g_a1 : n0 ≤ a1) (A_a1 : Exa Z h0 a1 "com/example/sidelane/sidelane/Cancellation") (F_claimedBy : Fld Z h0 a1 "com/example/sidelane/sidelane/Cancellation" "claimedBy" "Lcom/example/sidelane/sidelane/Cancellation$Claimant;" .null) (F_cancelled : Fld Z h0 a1 "com/example/sidelane/sidelane/Cancellation" "cancelled" "Z" (.int (0 : Int32))) (F_endingBegun : Fld Z h0 a1 "com/example/sidelane/sidelane/Cancellation" "endingBegun" "Z" (.int (0 : Int32))) (F_queued : Fld Z h0 a1 "com/example/sidelane/sidelane/Cancellation" "queued" "Z" (.int (0 : Int32))) (F_runner : Fld Z h0 a1 "com/example/sidelane/sidelane/Cancellation" "runner" "Ljava/lang/Thread;" .null) (F_cancelEnding : Fld Z h0 a1 "com/example/sidelane/sidelane/Cancellation" "cancelEnding" "Ljava/lang/Object;" en) (F_cancelOutcome : Fld Z h0 a1 "com/example/sidelane/sidelane/Cancellation" "cancelOutcome" "Lcom/example/sidelane/sidelane/Cancellation$Outcome;" oc) :
    CtrS l (⟨"com/example/sidelane/sidelane/Cancellation", "beginEnding", "()Z"⟩ : MethodName) prog_3_method_11_code 1 (some .boolean) ({ frames := 0, cells := 0, slots := 0, locals := 0 } : Room) #[(.ref a1)] Z h0 (fun v h L => v = some (.int 1) ∧ Fr n0 L ∧ Keep h0 h [a1] ∧ own_ob Z h a1 .null 0 1 en oc) := by
  have ef : ∀ m : MethodId, entryFrameSync m #[(.ref a1)] 1 a1 = mkL a1 m 0 #[.val (.ref a1)] [] := fun m => by first | rfl | (simp [entryFrameSync, mkL, argsToLocals, Value.category]; done)
  refine CtrS.of (a := a1) (plainFor_of_name pn_11) rfl U0 ?_
  intro p e s0 s m below meth c s₁ cell hx hZ hby hml hown0 hnm hret hlk hs hcell hmon X0 M0 K0
  have hown : s.vm.findClass "com/example/sidelane/sidelane/Cancellation" = some m.cls := hown0
  have N0 := Fr.nil n0
  obtain ⟨h1, e0⟩ : ∃ z, s₁.heap = z := ⟨_, rfl⟩
  rw [e0] at M0 K0
  have O1 := O0.keep K0 (allS g_a1 all0)
  refine Go.st (fun t k => castTop (ef m) k) ?_
  have A_a1' : Exa Z h1 a1 "com/example/sidelane/sidelane/Cancellation" := A_a1.mon M0
  have F_claimedBy' : Fld Z h1 a1 "com/example/sidelane/sidelane/Cancellation" "claimedBy" "Lcom/example/sidelane/sidelane/Cancellation$Claimant;" .null := F_claimedBy.mon M0
  have F_cancelled' : Fld Z h1 a1 "com/example/sidelane/sidelane/Cancellation" "cancelled" "Z" (.int (0 : Int32)) := F_cancelled.mon M0
  have F_endingBegun' : Fld Z h1 a1 "com/example/sidelane/sidelane/Cancellation" "endingBegun" "Z" (.int (0 : Int32)) := F_endingBegun.mon M0
  have F_queued' : Fld Z h1 a1 "com/example/sidelane/sidelane/Cancellation" "queued" "Z" (.int (0 : Int32)) := F_queued.mon M0
  have F_runner' : Fld Z h1 a1 "com/example/sidelane/sidelane/Cancellation" "runner" "Ljava/lang/Thread;" .null := F_runner.mon M0
  have F_cancelEnding' : Fld Z h1 a1 "com/example/sidelane/sidelane/Cancellation" "cancelEnding" "Ljava/lang/Object;" en := F_cancelEnding.mon M0
  have F_cancelOutcome' : Fld Z h1 a1 "com/example/sidelane/sidelane/Cancellation" "cancelOutcome" "Lcom/example/sidelane/sidelane/Cancellation$Outcome;" oc := F_cancelOutcome.mon M0
  show Go p e below _ (s₁.setTop (mkL a1 m 0 #[.val (.ref a1)] []))
  refine Go.st (fun _ => XS.aloadN X0.here hx rfl (hb hby d11_0) rfl rfl) ?_
  show Go p e below _ (s₁.setTop (mkL a1 m 1 #[.val (.ref a1)] [(.ref a1)]))
  refine Go.st (fun _ => XS.aloadN X0.here hx rfl (hb hby d11_1) rfl rfl) ?_
  show Go p e below _ (s₁.setTop (mkL a1 m 2 #[.val (.ref a1)] [(.ref a1), (.ref a1)]))
  obtain ⟨T1, X1, e1, st1⟩ := getF X0 hx hZ hown (host := "") (Or.inl (hw _ (List.mem_of_getElem? (i := 41) rfl))) Via.refl e0 F_cancelled' (g := (mkL a1 m 2 #[.val (.ref a1)] [(.ref a1), (.ref a1)])) rfl rfl (hb hby d11_2)
  refine Go.st st1 ?_
  show Go p e below _ (T1.setTop (mkL a1 m 5 #[.val (.ref a1)] [(.int (0 : Int32)), (.ref a1)]))
  refine Go.st (fun _ => XS.ifNo X1.here hx rfl (hb hby d11_5) rfl ((if0 _ _).trans (teq (by decide : (0 : Int32) = (0 : Int32))).2)) ?_
  show Go p e below _ (T1.setTop (mkL a1 m 8 #[.val (.ref a1)] [(.ref a1)]))
  refine Go.st (fun _ => XS.iconst X1.here hx rfl (hb hby d11_8)) ?_
  show Go p e below _ (T1.setTop (mkL a1 m 9 #[.val (.ref a1)] [(.int (1 : Int32)), (.ref a1)]))
  refine Go.st (fun _ => XS.goto X1.here hx rfl (pc0 := 9) (pc' := 13) rfl (hb hby d11_9) (by decide) (by decide)) ?_
  show Go p e below _ (T1.setTop (mkL a1 m 13 #[.val (.ref a1)] [(.int (1 : Int32)), (.ref a1)]))
  obtain ⟨T2, h2, X2, e2, W2, st2⟩ := putFN X1 hx hZ hown (hw _ (List.mem_of_getElem? (i := 48) rfl)) Via.refl e1 F_endingBegun' A_a1' (Or.inl (hw _ (List.mem_of_getElem? (i := 49) rfl))) (hw _ (List.mem_of_getElem? (i := 1) rfl)) (ty := .boolean) (v' := .int (nar .boolean (1 : Int32))) (by decide) rfl (fits_nar_bool _) (g := (mkL a1 m 13 #[.val (.ref a1)] [(.int (1 : Int32)), (.ref a1)])) rfl rfl (hb hby d11_13)
  refine Go.st st2 ?_
  have O3 : Old Z n0 h2 := O1.wr W2 g_a1
  have K4 : Keep h0 h2 [a1] := K0.wr W2 (Or.inl (List.mem_of_getElem? (i := 0) rfl))
  have E_5 : Exa Z h2 a1 "com/example/sidelane/sidelane/Cancellation" := A_a1'.wr W2
  have F6 : Fld Z h2 a1 "com/example/sidelane/sidelane/Cancellation" "claimedBy" "Lcom/example/sidelane/sidelane/Cancellation$Claimant;" .null := F_claimedBy'.other W2 (Or.inr (slot_ne (Or.inl (hw _ (List.mem_of_getElem? (i := 22) rfl))) (Or.inl (hw _ (List.mem_of_getElem? (i := 49) rfl))) (by decide) (t := (.object "com/example/sidelane/sidelane/Cancellation$Claimant")) (t' := .boolean) (by decide) (by decide)))
  have F7 : Fld Z h2 a1 "com/example/sidelane/sidelane/Cancellation" "cancelled" "Z" (.int (0 : Int32)) := F_cancelled'.other W2 (Or.inr (slot_ne (Or.inl (hw _ (List.mem_of_getElem? (i := 42) rfl))) (Or.inl (hw _ (List.mem_of_getElem? (i := 49) rfl))) (by decide) (t := .boolean) (t' := .boolean) (by decide) (by decide)))
  have F8 : Fld Z h2 a1 "com/example/sidelane/sidelane/Cancellation" "queued" "Z" (.int (0 : Int32)) := F_queued'.other W2 (Or.inr (slot_ne (Or.inl (hw _ (List.mem_of_getElem? (i := 61) rfl))) (Or.inl (hw _ (List.mem_of_getElem? (i := 49) rfl))) (by decide) (t := .boolean) (t' := .boolean) (by decide) (by decide)))
  have F9 : Fld Z h2 a1 "com/example/sidelane/sidelane/Cancellation" "runner" "Ljava/lang/Thread;" .null := F_runner'.other W2 (Or.inr (slot_ne (Or.inl (hw _ (List.mem_of_getElem? (i := 91) rfl))) (Or.inl (hw _ (List.mem_of_getElem? (i := 49) rfl))) (by decide) (t := (.object "java/lang/Thread")) (t' := .boolean) (by decide) (by decide)))
  have F10 : Fld Z h2 a1 "com/example/sidelane/sidelane/Cancellation" "cancelEnding" "Ljava/lang/Object;" en := F_cancelEnding'.other W2 (Or.inr (slot_ne (Or.inl (hw _ (List.mem_of_getElem? (i := 58) rfl))) (Or.inl (hw _ (List.mem_of_getElem? (i := 49) rfl))) (by decide) (t := (.object "java/lang/Object")) (t' := .boolean) (by decide) (by decide)))
  have F11 : Fld Z h2 a1 "com/example/sidelane/sidelane/Cancellation" "cancelOutcome" "Lcom/example/sidelane/sidelane/Cancellation$Outcome;" oc := F_cancelOutcome'.other W2 (Or.inr (slot_ne (Or.inl (hw _ (List.mem_of_getElem? (i := 56) rfl))) (Or.inl (hw _ (List.mem_of_getElem? (i := 49) rfl))) (by decide) (t := (.object "com/example/sidelane/sidelane/Cancellation$Outcome")) (t' := .boolean) (by decide) (by decide)))
  have F12 : Fld Z h2 a1 "com/example/sidelane/sidelane/Cancellation" "endingBegun" "Z" (.int (1 : Int32)) := F_endingBegun'.same W2
  have N2 := Fr.snoc X2 N0 g_a1
  show Go p e below _ (T2.setTop (mkL a1 m 16 #[.val (.ref a1)] []))
  refine Go.st (fun _ => XS.aloadN X2.here hx rfl (hb hby d11_16) rfl rfl) ?_
  show Go p e below _ (T2.setTop (mkL a1 m 17 #[.val (.ref a1)] [(.ref a1)]))
  obtain ⟨T13, X13, e13, st13⟩ := getF X2 hx hZ hown (host := "") (Or.inl (hw _ (List.mem_of_getElem? (i := 48) rfl))) Via.refl e2 F12 (g := (mkL a1 m 17 #[.val (.ref a1)] [(.ref a1)])) rfl rfl (hb hby d11_17)
  refine Go.st st13 ?_
  show Go p e below _ (T13.setTop (mkL a1 m 20 #[.val (.ref a1)] [(.int (1 : Int32))]))
  refine goRetS (v := some (.int (1 : Int32))) X13 hs hcell hmon hlk (fun h => by rw [hret] at h; cases h) e13 (fun V hV => retS X13 hx hret rfl (Or.inl ⟨rfl, Or.inr (Or.inl rfl), _, rfl⟩) (hb hby d11_20) hV) (by decide) (by decide) (fun h' M' K' hm' => ?_)
  exact ⟨rfl, N2, (K4.trans K' (allS (Or.inl (List.mem_singleton_self _)) all0)), ⟨(E_5.mon M'), (untEnd U0 (K4.trans K' (allS (Or.inl (List.mem_singleton_self _)) all0)) hm'), (F6.mon M'), (F7.mon M'), (F12.mon M'), (F8.mon M'), (F9.mon M'), (F10.mon M'), (F11.mon M')⟩⟩
set_option maxRecDepth 65536 in
set_option maxHeartbeats 40000000 in
theorem ihN (l : Launch) (Z : State) (a0 : Array Value) (hw : ∀ d ∈ tables_1, d.before a0 Z = true) (ws : List Jvm.Cond) (a1 w_ADOPTER : Addr) (h0 : Heap) (n0 : Nat) (O0 : Old Z n0 h0) (F_claimedBy : Fld Z h0 a1 "com/example/sidelane/sidelane/Cancellation" "claimedBy" "Lcom/example/sidelane/sidelane/Cancellation$Claimant;" .null) (S_w_ADOPTER : Sta Z Z.heap "com/example/sidelane/sidelane/Cancellation$Claimant" "ADOPTER" "Lcom/example/sidelane/sidelane/Cancellation$Claimant;" (.ref w_ADOPTER)) :
    Ctr l (⟨"com/example/sidelane/sidelane/Cancellation", "isHandedOver", "()Z"⟩ : MethodName) prog_3_method_6_code 1 (some .boolean) ws ({ frames := 0, cells := 0, slots := 0, locals := 0 } : Room) #[(.ref a1)] Z h0 (fun v h L => v = some (.int 0) ∧ Fr n0 L ∧ h = h0) := by
  have ef : ∀ m : MethodId, entryFrame m #[(.ref a1)] 1 = mkF m 0 #[.val (.ref a1)] [] := fun m => by first | (simp [entryFrame, mkF, argsToLocals, Value.category]; done) | rfl
  refine Ctr.of (plainFor_of_name pn_4) ?_
  intro p e s m below meth c s₁ hx hZ hby hml hown0 hnm hret hlk X0 e0
  have hown : s.vm.findClass "com/example/sidelane/sidelane/Cancellation" = some m.cls := hown0
  have N0 := Fr.nil n0
  refine Go.st (fun t k => castTop (ef m) k) ?_
  show Go p e below _ (s₁.setTop (mkF m 0 #[.val (.ref a1)] []))
  refine Go.st (fun _ => XS.aloadN X0.here hx rfl (hb hby d4_0) rfl rfl) ?_
  show Go p e below _ (s₁.setTop (mkF m 1 #[.val (.ref a1)] [(.ref a1)]))
  obtain ⟨T1, X1, e1, st1⟩ := getF X0 hx hZ hown (host := "") (Or.inl (hw _ (List.mem_of_getElem? (i := 21) rfl))) Via.refl e0 F_claimedBy (g := (mkF m 1 #[.val (.ref a1)] [(.ref a1)])) rfl rfl (hb hby d4_1)
  refine Go.st st1 ?_
  show Go p e below _ (T1.setTop (mkF m 4 #[.val (.ref a1)] [.null]))
  obtain ⟨T2, X2, e2, st2⟩ := getS2 X1 hx hZ hown (host := "") (Or.inl (hw _ (List.mem_of_getElem? (i := 23) rfl))) Via.refl e1 (oldSta O0 S_w_ADOPTER) (g := (mkF m 4 #[.val (.ref a1)] [.null])) rfl (hb hby d4_4)
  refine Go.st st2 ?_
  show Go p e below _ (T2.setTop (mkF m 7 #[.val (.ref a1)] [(.ref w_ADOPTER), .null]))
  refine Go.st (fun _ => fun k => Jvm.RoadKit.acmp (g := (mkF m 7 #[.val (.ref a1)] [(.ref w_ADOPTER), .null])) X2 hx rfl rfl rfl (pc0 := 7) (pc' := 14) (same := false) rfl (hb hby d4_7) rfl (decide_eq_false nofun) (by decide) (by decide) k) ?_
  show Go p e below _ (T2.setTop (mkF m 14 #[.val (.ref a1)] []))
  refine Go.st (fun _ => XS.iconst X2.here hx rfl (hb hby d4_14)) ?_
  show Go p e below _ (T2.setTop (mkF m 15 #[.val (.ref a1)] [(.int (0 : Int32))]))
  exact goRetN X2 hx hlk hret (t := .boolean) (by simp) (w := (0 : Int32)) (by decide) e2 (hb hby d4_15) (by decide) (by decide) ⟨rfl, N0, rfl⟩
set_option maxRecDepth 65536 in
set_option maxHeartbeats 40000000 in
theorem ihR (l : Launch) (Z : State) (a0 : Array Value) (hw : ∀ d ∈ tables_1, d.before a0 Z = true) (ws : List Jvm.Cond) (a1 a5 w_ADOPTER : Addr) (h0 : Heap) (n0 : Nat) (O0 : Old Z n0 h0) (F_claimedBy : Fld Z h0 a1 "com/example/sidelane/sidelane/Cancellation" "claimedBy" "Lcom/example/sidelane/sidelane/Cancellation$Claimant;" (.ref a5)) (S_w_ADOPTER : Sta Z Z.heap "com/example/sidelane/sidelane/Cancellation$Claimant" "ADOPTER" "Lcom/example/sidelane/sidelane/Cancellation$Claimant;" (.ref w_ADOPTER)) :
    Ctr l (⟨"com/example/sidelane/sidelane/Cancellation", "isHandedOver", "()Z"⟩ : MethodName) prog_3_method_6_code 1 (some .boolean) ws ({ frames := 0, cells := 0, slots := 0, locals := 0 } : Room) #[(.ref a1)] Z h0 (fun v h L => v = some (.int (if a5 = w_ADOPTER then 1 else 0)) ∧ Fr n0 L ∧ h = h0) := by
  have ef : ∀ m : MethodId, entryFrame m #[(.ref a1)] 1 = mkF m 0 #[.val (.ref a1)] [] := fun m => by first | (simp [entryFrame, mkF, argsToLocals, Value.category]; done) | rfl
  refine Ctr.of (plainFor_of_name pn_4) ?_
  intro p e s m below meth c s₁ hx hZ hby hml hown0 hnm hret hlk X0 e0
  have hown : s.vm.findClass "com/example/sidelane/sidelane/Cancellation" = some m.cls := hown0
  have N0 := Fr.nil n0
  refine Go.st (fun t k => castTop (ef m) k) ?_
  show Go p e below _ (s₁.setTop (mkF m 0 #[.val (.ref a1)] []))
  refine Go.st (fun _ => XS.aloadN X0.here hx rfl (hb hby d4_0) rfl rfl) ?_
  show Go p e below _ (s₁.setTop (mkF m 1 #[.val (.ref a1)] [(.ref a1)]))
  obtain ⟨T1, X1, e1, st1⟩ := getF X0 hx hZ hown (host := "") (Or.inl (hw _ (List.mem_of_getElem? (i := 21) rfl))) Via.refl e0 F_claimedBy (g := (mkF m 1 #[.val (.ref a1)] [(.ref a1)])) rfl rfl (hb hby d4_1)
  refine Go.st st1 ?_
  show Go p e below _ (T1.setTop (mkF m 4 #[.val (.ref a1)] [(.ref a5)]))
  obtain ⟨T2, X2, e2, st2⟩ := getS2 X1 hx hZ hown (host := "") (Or.inl (hw _ (List.mem_of_getElem? (i := 23) rfl))) Via.refl e1 (oldSta O0 S_w_ADOPTER) (g := (mkF m 4 #[.val (.ref a1)] [(.ref a5)])) rfl (hb hby d4_4)
  refine Go.st st2 ?_
  show Go p e below _ (T2.setTop (mkF m 7 #[.val (.ref a1)] [(.ref w_ADOPTER), (.ref a5)]))
  by_cases hc3 : a5 = w_ADOPTER
  · refine Go.st (fun _ => fun k => Jvm.RoadKit.acmp (g := (mkF m 7 #[.val (.ref a1)] [(.ref w_ADOPTER), (.ref a5)])) X2 hx rfl rfl rfl (pc0 := 7) (pc' := 10) (same := true) rfl (hb hby d4_7) rfl (decide_eq_true (congrArg Value.ref hc3)) (by decide) (by decide) k) ?_
    show Go p e below _ (T2.setTop (mkF m 10 #[.val (.ref a1)] []))
    refine Go.st (fun _ => XS.iconst X2.here hx rfl (hb hby d4_10)) ?_
    show Go p e below _ (T2.setTop (mkF m 11 #[.val (.ref a1)] [(.int (1 : Int32))]))
    refine Go.st (fun _ => XS.goto X2.here hx rfl (pc0 := 11) (pc' := 15) rfl (hb hby d4_11) (by decide) (by decide)) ?_
    show Go p e below _ (T2.setTop (mkF m 15 #[.val (.ref a1)] [(.int (1 : Int32))]))
    exact goRetN X2 hx hlk hret (t := .boolean) (by simp) (w := (1 : Int32)) (by decide) e2 (hb hby d4_15) (by decide) (by decide) ⟨by simp [hc3], N0, rfl⟩
  · refine Go.st (fun _ => fun k => Jvm.RoadKit.acmp (g := (mkF m 7 #[.val (.ref a1)] [(.ref w_ADOPTER), (.ref a5)])) X2 hx rfl rfl rfl (pc0 := 7) (pc' := 14) (same := false) rfl (hb hby d4_7) rfl (decide_eq_false fun q => hc3 (Value.ref.inj q)) (by decide) (by decide) k) ?_
    show Go p e below _ (T2.setTop (mkF m 14 #[.val (.ref a1)] []))
    refine Go.st (fun _ => XS.iconst X2.here hx rfl (hb hby d4_14)) ?_
    show Go p e below _ (T2.setTop (mkF m 15 #[.val (.ref a1)] [(.int (0 : Int32))]))
    exact goRetN X2 hx hlk hret (t := .boolean) (by simp) (w := (0 : Int32)) (by decide) e2 (hb hby d4_15) (by decide) (by decide) ⟨by simp [hc3], N0, rfl⟩
theorem d5_0 : decode method_2_code 0 = .ok (.iload_n 0, 1) := by decide +kernel
theorem d5_1 : decode method_2_code 1 = .ok (.ifCond .eq 9, 3) := by decide +kernel
theorem d5_4 : decode method_2_code 4 = .ok (.getstatic 7, 3) := by decide +kernel
theorem d5_7 : decode method_2_code 7 = .ok (.goto 6, 3) := by decide +kernel
theorem d5_10 : decode method_2_code 10 = .ok (.getstatic 13, 3) := by decide +kernel
theorem d5_13 : decode method_2_code 13 = .ok (.areturn, 1) := by decide +kernel
theorem pn_5 : plainName "com/example/sidelane/sidelane/CancellationIsHandedOverPinLaw" = true := by first | (simp [plainName, overriddenIn]; done) | decide +kernel
set_option maxRecDepth 65536 in
set_option maxHeartbeats 40000000 in
theorem rmP (l : Launch) (Z : State) (a0 : Array Value) (hw : ∀ d ∈ tables_1, d.before a0 Z = true) (ws : List Jvm.Cond) (p1 : Int32) (w_EXECUTE w_ADOPTER : Addr) (h0 : Heap) (n0 : Nat) (O0 : Old Z n0 h0) (S_w_EXECUTE : Sta Z Z.heap "com/example/sidelane/sidelane/Cancellation$Claimant" "EXECUTE" "Lcom/example/sidelane/sidelane/Cancellation$Claimant;" (.ref w_EXECUTE)) (S_w_ADOPTER : Sta Z Z.heap "com/example/sidelane/sidelane/Cancellation$Claimant" "ADOPTER" "Lcom/example/sidelane/sidelane/Cancellation$Claimant;" (.ref w_ADOPTER)) :
    Ctr l (⟨"com/example/sidelane/sidelane/CancellationIsHandedOverPinLaw", "pick", "(I)Lcom/example/sidelane/sidelane/Cancellation$Claimant;"⟩ : MethodName) method_2_code 1 (some (.object "com/example/sidelane/sidelane/Cancellation$Claimant")) ws ({ frames := 0, cells := 0, slots := 0, locals := 0 } : Room) #[(.int p1)] Z h0 (fun v h L => (∃ r, v = some (.ref r) ∧ (r = w_ADOPTER ∨ r = w_EXECUTE)) ∧ Fr n0 L ∧ h = h0) := by
  have ef : ∀ m : MethodId, entryFrame m #[(.int p1)] 1 = mkF m 0 #[.val (.int p1)] [] := fun m => by first | (simp [entryFrame, mkF, argsToLocals, Value.category]; done) | rfl
  refine Ctr.of (plainFor_of_name pn_5) ?_
  intro p e s m below meth c s₁ hx hZ hby hml hown0 hnm hret hlk X0 e0
  have hown : s.vm.findClass "com/example/sidelane/sidelane/CancellationIsHandedOverPinLaw" = some m.cls := hown0
  have N0 := Fr.nil n0
  refine Go.st (fun t k => castTop (ef m) k) ?_
  show Go p e below _ (s₁.setTop (mkF m 0 #[.val (.int p1)] []))
  refine Go.st (fun _ => XS.iloadN X0.here hx rfl (hb hby d5_0) rfl) ?_
  show Go p e below _ (s₁.setTop (mkF m 1 #[.val (.int p1)] [(.int p1)]))
  by_cases hc1 : p1 = (0 : Int32)
  · refine Go.st (fun _ => XS.ifYes X0.here hx rfl (pc0 := 1) (pc' := 10) rfl (hb hby d5_1) rfl ((if0 _ _).trans (teq hc1).1) (by decide) (by decide)) ?_
    show Go p e below _ (s₁.setTop (mkF m 10 #[.val (.int p1)] []))
    obtain ⟨T2, X2, e2, st2⟩ := getS2 X0 hx hZ hown (host := "") (Or.inl (hw _ (List.mem_of_getElem? (i := 59) rfl))) Via.refl e0 (oldSta O0 S_w_EXECUTE) (g := (mkF m 10 #[.val (.int p1)] [])) rfl (hb hby d5_10)
    refine Go.st st2 ?_
    show Go p e below _ (T2.setTop (mkF m 13 #[.val (.int p1)] [(.ref w_EXECUTE)]))
    exact goRetA X2 hx hlk hret rfl rfl rfl e2 (hb hby d5_13) (by decide) (by decide) ⟨⟨_, rfl, Or.inr rfl⟩, N0, rfl⟩
  · refine Go.st (fun _ => XS.ifNo X0.here hx rfl (hb hby d5_1) rfl ((if0 _ _).trans (feq hc1).1)) ?_
    show Go p e below _ (s₁.setTop (mkF m 4 #[.val (.int p1)] []))
    obtain ⟨T3, X3, e3, st3⟩ := getS2 X0 hx hZ hown (host := "") (Or.inl (hw _ (List.mem_of_getElem? (i := 30) rfl))) Via.refl e0 (oldSta O0 S_w_ADOPTER) (g := (mkF m 4 #[.val (.int p1)] [])) rfl (hb hby d5_4)
    refine Go.st st3 ?_
    show Go p e below _ (T3.setTop (mkF m 7 #[.val (.int p1)] [(.ref w_ADOPTER)]))
    refine Go.st (fun _ => XS.goto X3.here hx rfl (pc0 := 7) (pc' := 13) rfl (hb hby d5_7) (by decide) (by decide)) ?_
    show Go p e below _ (T3.setTop (mkF m 13 #[.val (.int p1)] [(.ref w_ADOPTER)]))
    exact goRetA X3 hx hlk hret rfl rfl rfl e3 (hb hby d5_13) (by decide) (by decide) ⟨⟨_, rfl, Or.inl rfl⟩, N0, rfl⟩
theorem d1_0 : decode prog_3_method_1_code 0 = .ok (.aload_n 0, 1) := by decide +kernel
theorem d1_1 : decode prog_3_method_1_code 1 = .ok (.invokespecial 1, 3) := by decide +kernel
theorem d1_4 : decode prog_3_method_1_code 4 = .ok (.return_, 1) := by decide +kernel
theorem pn_1 : plainName "com/example/sidelane/sidelane/Cancellation" = true := by first | (simp [plainName, overriddenIn]; done) | decide +kernel
set_option maxRecDepth 65536 in
set_option maxHeartbeats 40000000 in
theorem rmCI (l : Launch) (Z : State) (a0 : Array Value) (hw : ∀ d ∈ tables_1, d.before a0 Z = true) (ws : List Jvm.Cond) (a1 : Addr) (h0 : Heap) (n0 : Nat) (O0 : Old Z n0 h0) :
    Ctr l (⟨"com/example/sidelane/sidelane/Cancellation", "<init>", "()V"⟩ : MethodName) prog_3_method_1_code 1 none ws ({ frames := 1, cells := 0, slots := 0, locals := 12 } : Room) #[(.ref a1)] Z h0 (fun v h L => v = none ∧ Fr n0 L ∧ h = h0) := by
  have ef : ∀ m : MethodId, entryFrame m #[(.ref a1)] 1 = mkF m 0 #[.val (.ref a1)] [] := fun m => by first | (simp [entryFrame, mkF, argsToLocals, Value.category]; done) | rfl
  refine Ctr.of (plainFor_of_name pn_1) ?_
  intro p e s m below meth c s₁ hx hZ hby hml hown0 hnm hret hlk X0 e0
  have hown : s.vm.findClass "com/example/sidelane/sidelane/Cancellation" = some m.cls := hown0
  have N0 := Fr.nil n0
  refine Go.st (fun t k => castTop (ef m) k) ?_
  show Go p e below _ (s₁.setTop (mkF m 0 #[.val (.ref a1)] []))
  refine Go.st (fun _ => XS.aloadN X0.here hx rfl (hb hby d1_0) rfl rfl) ?_
  show Go p e below _ (s₁.setTop (mkF m 1 #[.val (.ref a1)] [(.ref a1)]))
  obtain ⟨T1, X1, e1, st1⟩ := initO X0 hx hZ hown (hw _ (List.mem_of_getElem? (i := 6) rfl)) (hw _ (List.mem_of_getElem? (i := 7) rfl)) (hw _ (List.mem_of_getElem? (i := 8) rfl)) e0 (g := (mkF m 1 #[.val (.ref a1)] [(.ref a1)])) rfl (by rw [hml]; rfl) rfl (hb hby d1_1) (by decide) (W := 0) (by show 2 * 0 + _ ≤ _; exact Nat.le_of_eq rfl) (by decide)
  refine Go.st st1 ?_
  show Go p e below _ (T1.setTop (mkF m 4 #[.val (.ref a1)] []))
  exact goRetV X1 hx hlk hret e1 (hb hby d1_4) (by decide) (by decide) ⟨rfl, N0, rfl⟩
theorem pn_0 : plainName "com/example/sidelane/sidelane/CancellationIsHandedOverPinLaw" = true := by first | (simp [plainName, overriddenIn]; done) | decide +kernel
set_option maxRecDepth 65536 in
set_option maxHeartbeats 40000000 in
theorem rm0 (l : Launch) (Z : State) (a0 : Array Value) (hw : ∀ d ∈ tables_1, d.before a0 Z = true) (ws : List Jvm.Cond) (p0 p1 p2 : Int32) (wc : Addr) (cl : Cell) (w_EXECUTE w_ADOPTER w_CANCELLED w_REFUSED w_HANDED_OVER w_CANCELLED_UNEXECUTED w_ENDING_NEEDED : Addr) (h0 : Heap) (n0 : Nat) (O0 : Old Z n0 h0) (S_w_EXECUTE : Sta Z Z.heap "com/example/sidelane/sidelane/Cancellation$Claimant" "EXECUTE" "Lcom/example/sidelane/sidelane/Cancellation$Claimant;" (.ref w_EXECUTE)) (S_w_ADOPTER : Sta Z Z.heap "com/example/sidelane/sidelane/Cancellation$Claimant" "ADOPTER" "Lcom/example/sidelane/sidelane/Cancellation$Claimant;" (.ref w_ADOPTER)) (S_w_CANCELLED : Sta Z Z.heap "com/example/sidelane/sidelane/Cancellation$Outcome" "CANCELLED" "Lcom/example/sidelane/sidelane/Cancellation$Outcome;" (.ref w_CANCELLED)) (S_w_REFUSED : Sta Z Z.heap "com/example/sidelane/sidelane/Cancellation$Outcome" "REFUSED" "Lcom/example/sidelane/sidelane/Cancellation$Outcome;" (.ref w_REFUSED)) (S_w_HANDED_OVER : Sta Z Z.heap "com/example/sidelane/sidelane/Cancellation$Outcome" "HANDED_OVER" "Lcom/example/sidelane/sidelane/Cancellation$Outcome;" (.ref w_HANDED_OVER)) (S_w_CANCELLED_UNEXECUTED : Sta Z Z.heap "com/example/sidelane/sidelane/Cancellation$Outcome" "CANCELLED_UNEXECUTED" "Lcom/example/sidelane/sidelane/Cancellation$Outcome;" (.ref w_CANCELLED_UNEXECUTED)) (S_w_ENDING_NEEDED : Sta Z Z.heap "com/example/sidelane/sidelane/Cancellation$Outcome" "ENDING_NEEDED" "Lcom/example/sidelane/sidelane/Cancellation$Outcome;" (.ref w_ENDING_NEEDED)) (ne_w_EXECUTE_w_ADOPTER : w_EXECUTE ≠ w_ADOPTER) (S_cache : Sta Z Z.heap "java/lang/Integer$IntegerCache" "cache" "[Ljava/lang/Integer;" (.ref wc)) (S_high : Sta Z Z.heap "java/lang/Integer$IntegerCache" "high" "I" (.int (127 : Int32))) (BX : Bxs Z wc cl "java/lang/Integer" "I" 256 (fun j => .int (j - 128))) :
    Ctr l x code maxLocals ret ws room_1 #[(.int p0), (.int p1), (.int p2)] Z h0 (fun v h L => v = some (.int 1) ∧ Fr n0 L) := by
  have ef : ∀ m : MethodId, entryFrame m #[(.int p0), (.int p1), (.int p2)] 12 = mkF m 0 #[.val (.int p0), .val (.int p1), .val (.int p2), .unset, .unset, .unset, .unset, .unset, .unset, .unset, .unset, .unset] [] := fun m => by first | (simp [entryFrame, mkF, argsToLocals, Value.category]; done) | rfl
  refine Ctr.of (plainFor_of_name pn_0) ?_
  intro p e s m below meth c s₁ hx hZ hby hml hown0 hnm hret hlk X0 e0
  have hown : s.vm.findClass "com/example/sidelane/sidelane/CancellationIsHandedOverPinLaw" = some m.cls := hown0
  have N0 := Fr.nil n0
  refine Go.st (fun t k => castTop (ef m) k) ?_
  show Go p e below _ (s₁.setTop (mkF m 0 #[.val (.int p0), .val (.int p1), .val (.int p2), .unset, .unset, .unset, .unset, .unset, .unset, .unset, .unset, .unset] []))
  obtain ⟨T1, h1, X1, e1, E1, A1, D1, U1, st1⟩ := newO X0 hx hZ hown (hw _ (List.mem_of_getElem? (i := 0) rfl)) (hw _ (List.mem_of_getElem? (i := 1) rfl)) (hw _ (List.mem_of_getElem? (i := 2) rfl)) e0 (g := (mkF m 0 #[.val (.int p0), .val (.int p1), .val (.int p2), .unset, .unset, .unset, .unset, .unset, .unset, .unset, .unset, .unset] [])) rfl (hb hby at_0) (by decide) (by decide)
  obtain ⟨b1, g1⟩ : ∃ z, z = h0.size := ⟨_, rfl⟩
  rw [← g1] at A1 D1 U1 st1
  refine Go.st st1 ?_
  have gn1 : n0 ≤ b1 := oldGe O0 g1
  have O2 : Old Z n0 h1 := O0.ext E1
  have UU1 : Unt h1 b1 := U1
  have F3 : Fld Z h1 b1 "com/example/sidelane/sidelane/Cancellation" "claimedBy" "Lcom/example/sidelane/sidelane/Cancellation$Claimant;" .null := D1 (Or.inl (hw _ (List.mem_of_getElem? (i := 22) rfl))) (ty := (.object "com/example/sidelane/sidelane/Cancellation$Claimant")) (by decide)
  have F4 : Fld Z h1 b1 "com/example/sidelane/sidelane/Cancellation" "cancelled" "Z" (.int (0 : Int32)) := D1 (Or.inl (hw _ (List.mem_of_getElem? (i := 42) rfl))) (ty := .boolean) (by decide)
  have F5 : Fld Z h1 b1 "com/example/sidelane/sidelane/Cancellation" "endingBegun" "Z" (.int (0 : Int32)) := D1 (Or.inl (hw _ (List.mem_of_getElem? (i := 49) rfl))) (ty := .boolean) (by decide)
  have F6 : Fld Z h1 b1 "com/example/sidelane/sidelane/Cancellation" "cancelOutcome" "Lcom/example/sidelane/sidelane/Cancellation$Outcome;" .null := D1 (Or.inl (hw _ (List.mem_of_getElem? (i := 56) rfl))) (ty := (.object "com/example/sidelane/sidelane/Cancellation$Outcome")) (by decide)
  have F7 : Fld Z h1 b1 "com/example/sidelane/sidelane/Cancellation" "cancelEnding" "Ljava/lang/Object;" .null := D1 (Or.inl (hw _ (List.mem_of_getElem? (i := 58) rfl))) (ty := (.object "java/lang/Object")) (by decide)
  have F8 : Fld Z h1 b1 "com/example/sidelane/sidelane/Cancellation" "queued" "Z" (.int (0 : Int32)) := D1 (Or.inl (hw _ (List.mem_of_getElem? (i := 61) rfl))) (ty := .boolean) (by decide)
  have F9 : Fld Z h1 b1 "com/example/sidelane/sidelane/Cancellation" "runner" "Ljava/lang/Thread;" .null := D1 (Or.inl (hw _ (List.mem_of_getElem? (i := 91) rfl))) (ty := (.object "java/lang/Thread")) (by decide)
  show Go p e below _ (T1.setTop (mkF m 3 #[.val (.int p0), .val (.int p1), .val (.int p2), .unset, .unset, .unset, .unset, .unset, .unset, .unset, .unset, .unset] [(.ref b1)]))
  refine Go.st (fun _ => XS.dup X1.here hx rfl (hb hby at_3) rfl rfl) ?_
  show Go p e below _ (T1.setTop (mkF m 4 #[.val (.int p0), .val (.int p1), .val (.int p2), .unset, .unset, .unset, .unset, .unset, .unset, .unset, .unset, .unset] [(.ref b1), (.ref b1)]))
  refine goInit X1 hx hZ (y := (⟨"com/example/sidelane/sidelane/Cancellation", "<init>", "()V"⟩ : MethodName)) rfl hown (hw _ (List.mem_of_getElem? (i := 3) rfl)) (hw _ (List.mem_of_getElem? (i := 4) rfl)) (hw _ (List.mem_of_getElem? (i := 2) rfl)) (hw _ (List.mem_of_getElem? (i := 5) rfl)) (by decide) (a := b1) (argsL := []) (rest := [(.ref b1)]) e1 (rmCI l Z a0 hw [] b1 h1 n0 O2) 1 (by decide) (by decide) (by decide) (by decide) (mkF m 4 #[.val (.int p0), .val (.int p1), .val (.int p2), .unset, .unset, .unset, .unset, .unset, .unset, .unset, .unset, .unset] [(.ref b1), (.ref b1)]) rfl (by rw [hml]; rfl) (lenOf pd_0 rfl) rfl (hb hby at_4) (Nat.le_of_eq rfl) ?_
  intro v10 T10 L10 X10 hQ10
  obtain ⟨rfl, M10, e10⟩ := hQ10
  have N10 := Fr.app N0 M10
  show Go p e below _ (T10.setTop (mkF m 7 #[.val (.int p0), .val (.int p1), .val (.int p2), .unset, .unset, .unset, .unset, .unset, .unset, .unset, .unset, .unset] [(.ref b1)]))
  refine Go.st (fun _ => XS.astoreN X10.here hx rfl (hb hby at_7) rfl rfl (l' := #[.val (.int p0), .val (.int p1), .val (.int p2), .val (.ref b1), .unset, .unset, .unset, .unset, .unset, .unset, .unset, .unset]) rfl) ?_
  show Go p e below _ (T10.setTop (mkF m 8 #[.val (.int p0), .val (.int p1), .val (.int p2), .val (.ref b1), .unset, .unset, .unset, .unset, .unset, .unset, .unset, .unset] []))
  refine Go.st (fun _ => XS.iloadN X10.here hx rfl (hb hby at_8) rfl) ?_
  show Go p e below _ (T10.setTop (mkF m 9 #[.val (.int p0), .val (.int p1), .val (.int p2), .val (.ref b1), .unset, .unset, .unset, .unset, .unset, .unset, .unset, .unset] [(.int p2)]))
  refine goCallS X10 hx hZ (y := (⟨"java/lang/Integer", "valueOf", "(I)Ljava/lang/Integer;"⟩ : MethodName)) hown (hw _ (List.mem_of_getElem? (i := 9) rfl)) (hw _ (List.mem_of_getElem? (i := 10) rfl)) (hw _ (List.mem_of_getElem? (i := 11) rfl)) (hw _ (List.mem_of_getElem? (i := 12) rfl)) (by decide) (argsL := [(.int p2)]) (rest := []) e10 (rmBox l Z a0 hw [] p2 wc cl h1 n0 O2 S_cache S_high BX) 0 (by decide) (by decide) (by decide) (by decide) (mkF m 9 #[.val (.int p0), .val (.int p1), .val (.int p2), .val (.ref b1), .unset, .unset, .unset, .unset, .unset, .unset, .unset, .unset] [(.int p2)]) rfl (by rw [hml]; rfl) (lenOf pd_3 rfl) rfl (hb hby at_9) (Nat.le_of_eq rfl) ?_
  intro v11 T11 L11 X11 hQ11
  obtain ⟨⟨r11, rfl, Er11, Gr11⟩, M11, K11⟩ := hQ11
  have N11 := Fr.app N10 M11
  have O12 : Old Z n0 T11.heap := O2.keep K11 all0
  have Y13 : Unt T11.heap b1 := untKeep UU1 K11 nin0
  have E_14 : Exa Z T11.heap b1 "com/example/sidelane/sidelane/Cancellation" := A1.keep K11
  have F15 : Fld Z T11.heap b1 "com/example/sidelane/sidelane/Cancellation" "claimedBy" "Lcom/example/sidelane/sidelane/Cancellation$Claimant;" .null := F3.keep K11 nin0
  have F16 : Fld Z T11.heap b1 "com/example/sidelane/sidelane/Cancellation" "cancelled" "Z" (.int (0 : Int32)) := F4.keep K11 nin0
  have F17 : Fld Z T11.heap b1 "com/example/sidelane/sidelane/Cancellation" "endingBegun" "Z" (.int (0 : Int32)) := F5.keep K11 nin0
  have F18 : Fld Z T11.heap b1 "com/example/sidelane/sidelane/Cancellation" "cancelOutcome" "Lcom/example/sidelane/sidelane/Cancellation$Outcome;" .null := F6.keep K11 nin0
  have F19 : Fld Z T11.heap b1 "com/example/sidelane/sidelane/Cancellation" "cancelEnding" "Ljava/lang/Object;" .null := F7.keep K11 nin0
  have F20 : Fld Z T11.heap b1 "com/example/sidelane/sidelane/Cancellation" "queued" "Z" (.int (0 : Int32)) := F8.keep K11 nin0
  have F21 : Fld Z T11.heap b1 "com/example/sidelane/sidelane/Cancellation" "runner" "Ljava/lang/Thread;" .null := F9.keep K11 nin0
  show Go p e below _ (T11.setTop (mkF m 12 #[.val (.int p0), .val (.int p1), .val (.int p2), .val (.ref b1), .unset, .unset, .unset, .unset, .unset, .unset, .unset, .unset] [(.ref r11)]))
  refine Go.st (fun _ => XS.astore X11.here hx rfl (hb hby at_12) rfl rfl (l' := #[.val (.int p0), .val (.int p1), .val (.int p2), .val (.ref b1), .val (.ref r11), .unset, .unset, .unset, .unset, .unset, .unset, .unset]) rfl) ?_
  show Go p e below _ (T11.setTop (mkF m 14 #[.val (.int p0), .val (.int p1), .val (.int p2), .val (.ref b1), .val (.ref r11), .unset, .unset, .unset, .unset, .unset, .unset, .unset] []))
  refine Go.st (fun _ => XS.aloadN X11.here hx rfl (hb hby at_14) rfl rfl) ?_
  show Go p e below _ (T11.setTop (mkF m 15 #[.val (.int p0), .val (.int p1), .val (.int p2), .val (.ref b1), .val (.ref r11), .unset, .unset, .unset, .unset, .unset, .unset, .unset] [(.ref b1)]))
  refine goVirt X11 hx hZ (y := (⟨"com/example/sidelane/sidelane/Cancellation", "isHandedOver", "()Z"⟩ : MethodName)) (z := (⟨"com/example/sidelane/sidelane/Cancellation", "isHandedOver", "()Z"⟩ : MethodName)) hown (hw _ (List.mem_of_getElem? (i := 16) rfl)) (hw _ (List.mem_of_getElem? (i := 17) rfl)) (notFace_of_selects (args := #[]) (mvT hZ (hw _ (List.mem_of_getElem? (i := 19) rfl)))) (hw _ (List.mem_of_getElem? (i := 19) rfl)) (hw _ (List.mem_of_getElem? (i := 18) rfl)) (hw _ (List.mem_of_getElem? (i := 2) rfl)) (hw _ (List.mem_of_getElem? (i := 20) rfl)) (by decide) (a := b1) (argsL := []) (rest := []) rfl E_14 (ihN l Z a0 hw [] b1 w_ADOPTER T11.heap n0 O12 F15 S_w_ADOPTER) 0 (by decide) (by decide) (by decide) (by decide) (mkF m 15 #[.val (.int p0), .val (.int p1), .val (.int p2), .val (.ref b1), .val (.ref r11), .unset, .unset, .unset, .unset, .unset, .unset, .unset] [(.ref b1)]) rfl (by rw [hml]; rfl) (lenOf pd_2 rfl) rfl (hb hby at_15) (Nat.le_of_eq rfl) ?_
  intro v22 T22 L22 X22 hQ22
  obtain ⟨rfl, M22, e22⟩ := hQ22
  have N22 := Fr.app N11 M22
  show Go p e below _ (T22.setTop (mkF m 18 #[.val (.int p0), .val (.int p1), .val (.int p2), .val (.ref b1), .val (.ref r11), .unset, .unset, .unset, .unset, .unset, .unset, .unset] [(.int (0 : Int32))]))
  refine Go.st (fun _ => XS.ifNo X22.here hx rfl (hb hby at_18) rfl ((if0 _ _).trans (teq (by decide : (0 : Int32) = (0 : Int32))).2)) ?_
  show Go p e below _ (T22.setTop (mkF m 21 #[.val (.int p0), .val (.int p1), .val (.int p2), .val (.ref b1), .val (.ref r11), .unset, .unset, .unset, .unset, .unset, .unset, .unset] []))
  refine Go.st (fun _ => XS.iconst X22.here hx rfl (hb hby at_21)) ?_
  show Go p e below _ (T22.setTop (mkF m 22 #[.val (.int p0), .val (.int p1), .val (.int p2), .val (.ref b1), .val (.ref r11), .unset, .unset, .unset, .unset, .unset, .unset, .unset] [(.int (1 : Int32))]))
  refine Go.st (fun _ => XS.goto X22.here hx rfl (pc0 := 22) (pc' := 26) rfl (hb hby at_22) (by decide) (by decide)) ?_
  show Go p e below _ (T22.setTop (mkF m 26 #[.val (.int p0), .val (.int p1), .val (.int p2), .val (.ref b1), .val (.ref r11), .unset, .unset, .unset, .unset, .unset, .unset, .unset] [(.int (1 : Int32))]))
  refine Go.st (fun _ => XS.istore X22.here hx rfl (hb hby at_26) rfl (l' := #[.val (.int p0), .val (.int p1), .val (.int p2), .val (.ref b1), .val (.ref r11), .val (.int (1 : Int32)), .unset, .unset, .unset, .unset, .unset, .unset]) rfl) ?_
  show Go p e below _ (T22.setTop (mkF m 28 #[.val (.int p0), .val (.int p1), .val (.int p2), .val (.ref b1), .val (.ref r11), .val (.int (1 : Int32)), .unset, .unset, .unset, .unset, .unset, .unset] []))
  refine Go.st (fun _ => XS.iloadN X22.here hx rfl (hb hby at_28) rfl) ?_
  show Go p e below _ (T22.setTop (mkF m 29 #[.val (.int p0), .val (.int p1), .val (.int p2), .val (.ref b1), .val (.ref r11), .val (.int (1 : Int32)), .unset, .unset, .unset, .unset, .unset, .unset] [(.int p0)]))
  refine Go.st (fun _ => XS.iconst X22.here hx rfl (hb hby at_29)) ?_
  show Go p e below _ (T22.setTop (mkF m 30 #[.val (.int p0), .val (.int p1), .val (.int p2), .val (.ref b1), .val (.ref r11), .val (.int (1 : Int32)), .unset, .unset, .unset, .unset, .unset, .unset] [(.int (3 : Int32)), (.int p0)]))
  refine Go.st (fun _ => XS.iand X22.here hx rfl (hb hby at_30) rfl) ?_
  show Go p e below _ (T22.setTop (mkF m 31 #[.val (.int p0), .val (.int p1), .val (.int p2), .val (.ref b1), .val (.ref r11), .val (.int (1 : Int32)), .unset, .unset, .unset, .unset, .unset, .unset] [(.int (p0 &&& (3 : Int32)))]))
  refine Go.st (fun _ => XS.istore X22.here hx rfl (hb hby at_31) rfl (l' := #[.val (.int p0), .val (.int p1), .val (.int p2), .val (.ref b1), .val (.ref r11), .val (.int (1 : Int32)), .val (.int (p0 &&& (3 : Int32))), .unset, .unset, .unset, .unset, .unset]) rfl) ?_
  show Go p e below _ (T22.setTop (mkF m 33 #[.val (.int p0), .val (.int p1), .val (.int p2), .val (.ref b1), .val (.ref r11), .val (.int (1 : Int32)), .val (.int (p0 &&& (3 : Int32))), .unset, .unset, .unset, .unset, .unset] []))
  refine Go.st (fun _ => XS.iloadN X22.here hx rfl (hb hby at_33) rfl) ?_
  show Go p e below _ (T22.setTop (mkF m 34 #[.val (.int p0), .val (.int p1), .val (.int p2), .val (.ref b1), .val (.ref r11), .val (.int (1 : Int32)), .val (.int (p0 &&& (3 : Int32))), .unset, .unset, .unset, .unset, .unset] [(.int p0)]))
  refine Go.st (fun _ => XS.iconst X22.here hx rfl (hb hby at_34)) ?_
  show Go p e below _ (T22.setTop (mkF m 35 #[.val (.int p0), .val (.int p1), .val (.int p2), .val (.ref b1), .val (.ref r11), .val (.int (1 : Int32)), .val (.int (p0 &&& (3 : Int32))), .unset, .unset, .unset, .unset, .unset] [(.int (4 : Int32)), (.int p0)]))
  refine Go.st (fun _ => XS.iand X22.here hx rfl (hb hby at_35) rfl) ?_
  show Go p e below _ (T22.setTop (mkF m 36 #[.val (.int p0), .val (.int p1), .val (.int p2), .val (.ref b1), .val (.ref r11), .val (.int (1 : Int32)), .val (.int (p0 &&& (3 : Int32))), .unset, .unset, .unset, .unset, .unset] [(.int (p0 &&& (4 : Int32)))]))
  refine goJoin (P := fun z23 : Int32 => True) (F := fun z23 => T22.setTop (mkF m 44 #[.val (.int p0), .val (.int p1), .val (.int p2), .val (.ref b1), .val (.ref r11), .val (.int (1 : Int32)), .val (.int (p0 &&& (3 : Int32))), .unset, .unset, .unset, .unset, .unset] [(.int z23)])) (fun z23 hz23 => ?_) (fun J23 => ?_)
  · show Go p e below _ (T22.setTop (mkF m 44 #[.val (.int p0), .val (.int p1), .val (.int p2), .val (.ref b1), .val (.ref r11), .val (.int (1 : Int32)), .val (.int (p0 &&& (3 : Int32))), .unset, .unset, .unset, .unset, .unset] [(.int z23)]))
    refine Go.st (fun _ => XS.istore X22.here hx rfl (hb hby at_44) rfl (l' := #[.val (.int p0), .val (.int p1), .val (.int p2), .val (.ref b1), .val (.ref r11), .val (.int (1 : Int32)), .val (.int (p0 &&& (3 : Int32))), .val (.int z23), .unset, .unset, .unset, .unset]) rfl) ?_
    show Go p e below _ (T22.setTop (mkF m 46 #[.val (.int p0), .val (.int p1), .val (.int p2), .val (.ref b1), .val (.ref r11), .val (.int (1 : Int32)), .val (.int (p0 &&& (3 : Int32))), .val (.int z23), .unset, .unset, .unset, .unset] []))
    refine Go.st (fun _ => XS.iconst X22.here hx rfl (hb hby at_46)) ?_
    show Go p e below _ (T22.setTop (mkF m 47 #[.val (.int p0), .val (.int p1), .val (.int p2), .val (.ref b1), .val (.ref r11), .val (.int (1 : Int32)), .val (.int (p0 &&& (3 : Int32))), .val (.int z23), .unset, .unset, .unset, .unset] [(.int (0 : Int32))]))
    refine Go.st (fun _ => XS.istore X22.here hx rfl (hb hby at_47) rfl (l' := #[.val (.int p0), .val (.int p1), .val (.int p2), .val (.ref b1), .val (.ref r11), .val (.int (1 : Int32)), .val (.int (p0 &&& (3 : Int32))), .val (.int z23), .val (.int (0 : Int32)), .unset, .unset, .unset]) rfl) ?_
    show Go p e below _ (T22.setTop (mkF m 49 #[.val (.int p0), .val (.int p1), .val (.int p2), .val (.ref b1), .val (.ref r11), .val (.int (1 : Int32)), .val (.int (p0 &&& (3 : Int32))), .val (.int z23), .val (.int (0 : Int32)), .unset, .unset, .unset] []))
    refine goJoin (α := State) (P := fun TC => ∃ (hC : Heap) (lC : List Loc), Stand p l e room_1 s m #[(.int p0), (.int p1), (.int p2)] below meth c TC lC 2 8 ∧ TC.heap = hC ∧ Fr n0 lC ∧ Old Z n0 hC ∧ own_gen0 Z hC b1 .null) (F := fun T => T.setTop (mkF m 98 #[.val (.int p0), .val (.int p1), .val (.int p2), .val (.ref b1), .val (.ref r11), .val (.int (1 : Int32)), .val (.int (p0 &&& (3 : Int32))), .val (.int z23), .val (.int (0 : Int32)), .unset, .unset, .unset] [])) (fun TC hTC => ?_) (fun JC => ?_)
    · obtain ⟨hC, lC, XC, eC, NC, f0_C, G0⟩ := hTC
      obtain ⟨eb, en, oc, OBx, heb⟩ := G0
      obtain ⟨Ebc0, Ubc0, Fb0_c0, Fb1_c0, Fb2_c0, Fb3_c0, Fb4_c0, Fb5_c0, Fb6_c0⟩ := OBx
      show Go p e below _ (TC.setTop (mkF m 98 #[.val (.int p0), .val (.int p1), .val (.int p2), .val (.ref b1), .val (.ref r11), .val (.int (1 : Int32)), .val (.int (p0 &&& (3 : Int32))), .val (.int z23), .val (.int (0 : Int32)), .unset, .unset, .unset] []))
      refine Go.st (fun _ => XS.iloadN XC.here hx rfl (hb hby at_98) rfl) ?_
      show Go p e below _ (TC.setTop (mkF m 99 #[.val (.int p0), .val (.int p1), .val (.int p2), .val (.ref b1), .val (.ref r11), .val (.int (1 : Int32)), .val (.int (p0 &&& (3 : Int32))), .val (.int z23), .val (.int (0 : Int32)), .unset, .unset, .unset] [(.int p1)]))
      refine Go.st (fun _ => XS.iconst XC.here hx rfl (hb hby at_99)) ?_
      show Go p e below _ (TC.setTop (mkF m 100 #[.val (.int p0), .val (.int p1), .val (.int p2), .val (.ref b1), .val (.ref r11), .val (.int (1 : Int32)), .val (.int (p0 &&& (3 : Int32))), .val (.int z23), .val (.int (0 : Int32)), .unset, .unset, .unset] [(.int (1 : Int32)), (.int p1)]))
      refine Go.st (fun _ => XS.iand XC.here hx rfl (hb hby at_100) rfl) ?_
      show Go p e below _ (TC.setTop (mkF m 101 #[.val (.int p0), .val (.int p1), .val (.int p2), .val (.ref b1), .val (.ref r11), .val (.int (1 : Int32)), .val (.int (p0 &&& (3 : Int32))), .val (.int z23), .val (.int (0 : Int32)), .unset, .unset, .unset] [(.int (p1 &&& (1 : Int32)))]))
      refine goCallS XC hx hZ (y := (⟨"com/example/sidelane/sidelane/CancellationIsHandedOverPinLaw", "pick", "(I)Lcom/example/sidelane/sidelane/Cancellation$Claimant;"⟩ : MethodName)) hown (hw _ (List.mem_of_getElem? (i := 26) rfl)) (hw _ (List.mem_of_getElem? (i := 27) rfl)) (hw _ (List.mem_of_getElem? (i := 28) rfl)) (hw _ (List.mem_of_getElem? (i := 29) rfl)) (by decide) (argsL := [(.int (p1 &&& (1 : Int32)))]) (rest := []) eC (rmP l Z a0 hw [] (p1 &&& (1 : Int32)) w_EXECUTE w_ADOPTER hC n0 f0_C S_w_EXECUTE S_w_ADOPTER) 0 (by decide) (by decide) (by decide) (by decide) (mkF m 101 #[.val (.int p0), .val (.int p1), .val (.int p2), .val (.ref b1), .val (.ref r11), .val (.int (1 : Int32)), .val (.int (p0 &&& (3 : Int32))), .val (.int z23), .val (.int (0 : Int32)), .unset, .unset, .unset] [(.int (p1 &&& (1 : Int32)))]) rfl (by rw [hml]; rfl) (lenOf pd_4 rfl) rfl (hb hby at_101) (Nat.le_of_eq rfl) ?_
      intro v24 T24 L24 X24 hQ24
      obtain ⟨⟨r24, hv24, hr24⟩, M24, e24⟩ := hQ24
      have N24 := Fr.app NC M24
      rcases hr24 with hr24 | hr24
      · obtain rfl : v24 = some (.ref w_ADOPTER) := by rw [hv24, hr24]
        show Go p e below _ (T24.setTop (mkF m 104 #[.val (.int p0), .val (.int p1), .val (.int p2), .val (.ref b1), .val (.ref r11), .val (.int (1 : Int32)), .val (.int (p0 &&& (3 : Int32))), .val (.int z23), .val (.int (0 : Int32)), .unset, .unset, .unset] [(.ref w_ADOPTER)]))
        refine Go.st (fun _ => XS.astore X24.here hx rfl (hb hby at_104) rfl rfl (l' := #[.val (.int p0), .val (.int p1), .val (.int p2), .val (.ref b1), .val (.ref r11), .val (.int (1 : Int32)), .val (.int (p0 &&& (3 : Int32))), .val (.int z23), .val (.int (0 : Int32)), .val (.ref w_ADOPTER), .unset, .unset]) rfl) ?_
        show Go p e below _ (T24.setTop (mkF m 106 #[.val (.int p0), .val (.int p1), .val (.int p2), .val (.ref b1), .val (.ref r11), .val (.int (1 : Int32)), .val (.int (p0 &&& (3 : Int32))), .val (.int z23), .val (.int (0 : Int32)), .val (.ref w_ADOPTER), .unset, .unset] []))
        refine Go.st (fun _ => XS.iloadN X24.here hx rfl (hb hby at_106) rfl) ?_
        show Go p e below _ (T24.setTop (mkF m 107 #[.val (.int p0), .val (.int p1), .val (.int p2), .val (.ref b1), .val (.ref r11), .val (.int (1 : Int32)), .val (.int (p0 &&& (3 : Int32))), .val (.int z23), .val (.int (0 : Int32)), .val (.ref w_ADOPTER), .unset, .unset] [(.int p1)]))
        refine Go.st (fun _ => XS.iconst X24.here hx rfl (hb hby at_107)) ?_
        show Go p e below _ (T24.setTop (mkF m 108 #[.val (.int p0), .val (.int p1), .val (.int p2), .val (.ref b1), .val (.ref r11), .val (.int (1 : Int32)), .val (.int (p0 &&& (3 : Int32))), .val (.int z23), .val (.int (0 : Int32)), .val (.ref w_ADOPTER), .unset, .unset] [(.int (2 : Int32)), (.int p1)]))
        refine Go.st (fun _ => XS.iand X24.here hx rfl (hb hby at_108) rfl) ?_
        show Go p e below _ (T24.setTop (mkF m 109 #[.val (.int p0), .val (.int p1), .val (.int p2), .val (.ref b1), .val (.ref r11), .val (.int (1 : Int32)), .val (.int (p0 &&& (3 : Int32))), .val (.int z23), .val (.int (0 : Int32)), .val (.ref w_ADOPTER), .unset, .unset] [(.int (p1 &&& (2 : Int32)))]))
        refine goCallS X24 hx hZ (y := (⟨"com/example/sidelane/sidelane/CancellationIsHandedOverPinLaw", "pick", "(I)Lcom/example/sidelane/sidelane/Cancellation$Claimant;"⟩ : MethodName)) hown (hw _ (List.mem_of_getElem? (i := 26) rfl)) (hw _ (List.mem_of_getElem? (i := 27) rfl)) (hw _ (List.mem_of_getElem? (i := 28) rfl)) (hw _ (List.mem_of_getElem? (i := 29) rfl)) (by decide) (argsL := [(.int (p1 &&& (2 : Int32)))]) (rest := []) e24 (rmP l Z a0 hw [] (p1 &&& (2 : Int32)) w_EXECUTE w_ADOPTER hC n0 f0_C S_w_EXECUTE S_w_ADOPTER) 0 (by decide) (by decide) (by decide) (by decide) (mkF m 109 #[.val (.int p0), .val (.int p1), .val (.int p2), .val (.ref b1), .val (.ref r11), .val (.int (1 : Int32)), .val (.int (p0 &&& (3 : Int32))), .val (.int z23), .val (.int (0 : Int32)), .val (.ref w_ADOPTER), .unset, .unset] [(.int (p1 &&& (2 : Int32)))]) rfl (by rw [hml]; rfl) (lenOf pd_4 rfl) rfl (hb hby at_109) (Nat.le_of_eq rfl) ?_
        intro v25 T25 L25 X25 hQ25
        obtain ⟨⟨r25, hv25, hr25⟩, M25, e25⟩ := hQ25
        have N25 := Fr.app N24 M25
        subst hv25
        show Go p e below _ (T25.setTop (mkF m 112 #[.val (.int p0), .val (.int p1), .val (.int p2), .val (.ref b1), .val (.ref r11), .val (.int (1 : Int32)), .val (.int (p0 &&& (3 : Int32))), .val (.int z23), .val (.int (0 : Int32)), .val (.ref w_ADOPTER), .unset, .unset] [(.ref r25)]))
        refine Go.st (fun _ => XS.astore X25.here hx rfl (hb hby at_112) rfl rfl (l' := #[.val (.int p0), .val (.int p1), .val (.int p2), .val (.ref b1), .val (.ref r11), .val (.int (1 : Int32)), .val (.int (p0 &&& (3 : Int32))), .val (.int z23), .val (.int (0 : Int32)), .val (.ref w_ADOPTER), .val (.ref r25), .unset]) rfl) ?_
        show Go p e below _ (T25.setTop (mkF m 114 #[.val (.int p0), .val (.int p1), .val (.int p2), .val (.ref b1), .val (.ref r11), .val (.int (1 : Int32)), .val (.int (p0 &&& (3 : Int32))), .val (.int z23), .val (.int (0 : Int32)), .val (.ref w_ADOPTER), .val (.ref r25), .unset] []))
        refine Go.st (fun _ => XS.aloadN X25.here hx rfl (hb hby at_114) rfl rfl) ?_
        show Go p e below _ (T25.setTop (mkF m 115 #[.val (.int p0), .val (.int p1), .val (.int p2), .val (.ref b1), .val (.ref r11), .val (.int (1 : Int32)), .val (.int (p0 &&& (3 : Int32))), .val (.int z23), .val (.int (0 : Int32)), .val (.ref w_ADOPTER), .val (.ref r25), .unset] [(.ref b1)]))
        refine Go.st (fun _ => XS.aload X25.here hx rfl (hb hby at_115) rfl rfl) ?_
        show Go p e below _ (T25.setTop (mkF m 117 #[.val (.int p0), .val (.int p1), .val (.int p2), .val (.ref b1), .val (.ref r11), .val (.int (1 : Int32)), .val (.int (p0 &&& (3 : Int32))), .val (.int z23), .val (.int (0 : Int32)), .val (.ref w_ADOPTER), .val (.ref r25), .unset] [(.ref w_ADOPTER), (.ref b1)]))
        refine goVirtS X25 hx hZ (y := (⟨"com/example/sidelane/sidelane/Cancellation", "claim", "(Lcom/example/sidelane/sidelane/Cancellation$Claimant;)Z"⟩ : MethodName)) (z := (⟨"com/example/sidelane/sidelane/Cancellation", "claim", "(Lcom/example/sidelane/sidelane/Cancellation$Claimant;)Z"⟩ : MethodName)) hown (hw _ (List.mem_of_getElem? (i := 31) rfl)) (hw _ (List.mem_of_getElem? (i := 32) rfl)) (notFace_of_selects (args := #[]) (mvT hZ (hw _ (List.mem_of_getElem? (i := 34) rfl)))) (hw _ (List.mem_of_getElem? (i := 34) rfl)) (hw _ (List.mem_of_getElem? (i := 33) rfl)) (hw _ (List.mem_of_getElem? (i := 2) rfl)) (hw _ (List.mem_of_getElem? (i := 35) rfl)) (by decide) (a := b1) (argsL := [(.ref w_ADOPTER)]) (rest := []) e25 Ebc0 (cm00 l Z a0 hw b1 w_ADOPTER en oc eb hC n0 f0_C Ubc0 gn1 Ebc0 Fb0_c0 Fb1_c0 Fb2_c0 Fb3_c0 Fb4_c0 Fb5_c0 Fb6_c0) 0 (by decide) (by decide) (by decide) (by decide) (mkF m 117 #[.val (.int p0), .val (.int p1), .val (.int p2), .val (.ref b1), .val (.ref r11), .val (.int (1 : Int32)), .val (.int (p0 &&& (3 : Int32))), .val (.int z23), .val (.int (0 : Int32)), .val (.ref w_ADOPTER), .val (.ref r25), .unset] [(.ref w_ADOPTER), (.ref b1)]) rfl (by rw [hml]; rfl) (lenOf pd_5 rfl) rfl (hb hby at_117) (Nat.le_of_eq rfl) ?_
        intro v26 T26 L26 X26 hQ26
        obtain ⟨rfl, M26, K26, ⟨Eb26, Ub26, Fb0_26, Fb1_26, Fb2_26, Fb3_26, Fb4_26, Fb5_26, Fb6_26⟩⟩ := hQ26
        have N26 := Fr.app N25 M26
        have O27 : Old Z n0 T26.heap := f0_C.keep K26 (allS gn1 all0)
        have E_28 : Exa Z T26.heap b1 "com/example/sidelane/sidelane/Cancellation" := Ebc0.keep K26
        show Go p e below _ (T26.setTop (mkF m 120 #[.val (.int p0), .val (.int p1), .val (.int p2), .val (.ref b1), .val (.ref r11), .val (.int (1 : Int32)), .val (.int (p0 &&& (3 : Int32))), .val (.int z23), .val (.int (0 : Int32)), .val (.ref w_ADOPTER), .val (.ref r25), .unset] [(.int (1 : Int32))]))
        refine Go.st (fun _ => XS.pop X26.here hx rfl (hb hby at_120) rfl rfl) ?_
        show Go p e below _ (T26.setTop (mkF m 121 #[.val (.int p0), .val (.int p1), .val (.int p2), .val (.ref b1), .val (.ref r11), .val (.int (1 : Int32)), .val (.int (p0 &&& (3 : Int32))), .val (.int z23), .val (.int (0 : Int32)), .val (.ref w_ADOPTER), .val (.ref r25), .unset] []))
        refine Go.st (fun _ => XS.iload X26.here hx rfl (hb hby at_121) rfl) ?_
        show Go p e below _ (T26.setTop (mkF m 123 #[.val (.int p0), .val (.int p1), .val (.int p2), .val (.ref b1), .val (.ref r11), .val (.int (1 : Int32)), .val (.int (p0 &&& (3 : Int32))), .val (.int z23), .val (.int (0 : Int32)), .val (.ref w_ADOPTER), .val (.ref r25), .unset] [(.int (0 : Int32))]))
        refine Go.st (fun _ => XS.ifNo X26.here hx rfl (hb hby at_123) rfl ((if0 _ _).trans (teq (by decide : (0 : Int32) = (0 : Int32))).2)) ?_
        show Go p e below _ (T26.setTop (mkF m 126 #[.val (.int p0), .val (.int p1), .val (.int p2), .val (.ref b1), .val (.ref r11), .val (.int (1 : Int32)), .val (.int (p0 &&& (3 : Int32))), .val (.int z23), .val (.int (0 : Int32)), .val (.ref w_ADOPTER), .val (.ref r25), .unset] []))
        refine Go.st (fun _ => XS.aload X26.here hx rfl (hb hby at_126) rfl rfl) ?_
        show Go p e below _ (T26.setTop (mkF m 128 #[.val (.int p0), .val (.int p1), .val (.int p2), .val (.ref b1), .val (.ref r11), .val (.int (1 : Int32)), .val (.int (p0 &&& (3 : Int32))), .val (.int z23), .val (.int (0 : Int32)), .val (.ref w_ADOPTER), .val (.ref r25), .unset] [(.ref w_ADOPTER)]))
        obtain ⟨T29, X29, e29, st29⟩ := getS2 X26 hx hZ hown (host := "") (Or.inl (hw _ (List.mem_of_getElem? (i := 30) rfl))) Via.refl rfl (oldSta O27 S_w_ADOPTER) (g := (mkF m 128 #[.val (.int p0), .val (.int p1), .val (.int p2), .val (.ref b1), .val (.ref r11), .val (.int (1 : Int32)), .val (.int (p0 &&& (3 : Int32))), .val (.int z23), .val (.int (0 : Int32)), .val (.ref w_ADOPTER), .val (.ref r25), .unset] [(.ref w_ADOPTER)])) rfl (hb hby at_128)
        refine Go.st st29 ?_
        show Go p e below _ (T29.setTop (mkF m 131 #[.val (.int p0), .val (.int p1), .val (.int p2), .val (.ref b1), .val (.ref r11), .val (.int (1 : Int32)), .val (.int (p0 &&& (3 : Int32))), .val (.int z23), .val (.int (0 : Int32)), .val (.ref w_ADOPTER), .val (.ref r25), .unset] [(.ref w_ADOPTER), (.ref w_ADOPTER)]))
        refine Go.st (fun _ => fun k => Jvm.RoadKit.acmp (g := (mkF m 131 #[.val (.int p0), .val (.int p1), .val (.int p2), .val (.ref b1), .val (.ref r11), .val (.int (1 : Int32)), .val (.int (p0 &&& (3 : Int32))), .val (.int z23), .val (.int (0 : Int32)), .val (.ref w_ADOPTER), .val (.ref r25), .unset] [(.ref w_ADOPTER), (.ref w_ADOPTER)])) X29 hx rfl rfl rfl (pc0 := 131) (pc' := 134) (same := true) rfl (hb hby at_131) rfl (decide_eq_true rfl) (by decide) (by decide) k) ?_
        show Go p e below _ (T29.setTop (mkF m 134 #[.val (.int p0), .val (.int p1), .val (.int p2), .val (.ref b1), .val (.ref r11), .val (.int (1 : Int32)), .val (.int (p0 &&& (3 : Int32))), .val (.int z23), .val (.int (0 : Int32)), .val (.ref w_ADOPTER), .val (.ref r25), .unset] []))
        refine Go.st (fun _ => XS.iconst X29.here hx rfl (hb hby at_134)) ?_
        show Go p e below _ (T29.setTop (mkF m 135 #[.val (.int p0), .val (.int p1), .val (.int p2), .val (.ref b1), .val (.ref r11), .val (.int (1 : Int32)), .val (.int (p0 &&& (3 : Int32))), .val (.int z23), .val (.int (0 : Int32)), .val (.ref w_ADOPTER), .val (.ref r25), .unset] [(.int (1 : Int32))]))
        refine Go.st (fun _ => XS.goto X29.here hx rfl (pc0 := 135) (pc' := 139) rfl (hb hby at_135) (by decide) (by decide)) ?_
        show Go p e below _ (T29.setTop (mkF m 139 #[.val (.int p0), .val (.int p1), .val (.int p2), .val (.ref b1), .val (.ref r11), .val (.int (1 : Int32)), .val (.int (p0 &&& (3 : Int32))), .val (.int z23), .val (.int (0 : Int32)), .val (.ref w_ADOPTER), .val (.ref r25), .unset] [(.int (1 : Int32))]))
        refine Go.st (fun _ => XS.istore X29.here hx rfl (hb hby at_139) rfl (l' := #[.val (.int p0), .val (.int p1), .val (.int p2), .val (.ref b1), .val (.ref r11), .val (.int (1 : Int32)), .val (.int (p0 &&& (3 : Int32))), .val (.int z23), .val (.int (0 : Int32)), .val (.ref w_ADOPTER), .val (.ref r25), .val (.int (1 : Int32))]) rfl) ?_
        show Go p e below _ (T29.setTop (mkF m 141 #[.val (.int p0), .val (.int p1), .val (.int p2), .val (.ref b1), .val (.ref r11), .val (.int (1 : Int32)), .val (.int (p0 &&& (3 : Int32))), .val (.int z23), .val (.int (0 : Int32)), .val (.ref w_ADOPTER), .val (.ref r25), .val (.int (1 : Int32))] []))
        refine Go.st (fun _ => XS.iload X29.here hx rfl (hb hby at_141) rfl) ?_
        show Go p e below _ (T29.setTop (mkF m 143 #[.val (.int p0), .val (.int p1), .val (.int p2), .val (.ref b1), .val (.ref r11), .val (.int (1 : Int32)), .val (.int (p0 &&& (3 : Int32))), .val (.int z23), .val (.int (0 : Int32)), .val (.ref w_ADOPTER), .val (.ref r25), .val (.int (1 : Int32))] [(.int (1 : Int32))]))
        refine Go.st (fun _ => XS.ifNo X29.here hx rfl (hb hby at_143) rfl ((if0 _ _).trans (feq (by decide : ¬ ((1 : Int32) = (0 : Int32)))).1)) ?_
        show Go p e below _ (T29.setTop (mkF m 146 #[.val (.int p0), .val (.int p1), .val (.int p2), .val (.ref b1), .val (.ref r11), .val (.int (1 : Int32)), .val (.int (p0 &&& (3 : Int32))), .val (.int z23), .val (.int (0 : Int32)), .val (.ref w_ADOPTER), .val (.ref r25), .val (.int (1 : Int32))] []))
        refine Go.st (fun _ => XS.aloadN X29.here hx rfl (hb hby at_146) rfl rfl) ?_
        show Go p e below _ (T29.setTop (mkF m 147 #[.val (.int p0), .val (.int p1), .val (.int p2), .val (.ref b1), .val (.ref r11), .val (.int (1 : Int32)), .val (.int (p0 &&& (3 : Int32))), .val (.int z23), .val (.int (0 : Int32)), .val (.ref w_ADOPTER), .val (.ref r25), .val (.int (1 : Int32))] [(.ref b1)]))
        refine goVirt X29 hx hZ (y := (⟨"com/example/sidelane/sidelane/Cancellation", "isHandedOver", "()Z"⟩ : MethodName)) (z := (⟨"com/example/sidelane/sidelane/Cancellation", "isHandedOver", "()Z"⟩ : MethodName)) hown (hw _ (List.mem_of_getElem? (i := 16) rfl)) (hw _ (List.mem_of_getElem? (i := 17) rfl)) (notFace_of_selects (args := #[]) (mvT hZ (hw _ (List.mem_of_getElem? (i := 19) rfl)))) (hw _ (List.mem_of_getElem? (i := 19) rfl)) (hw _ (List.mem_of_getElem? (i := 18) rfl)) (hw _ (List.mem_of_getElem? (i := 2) rfl)) (hw _ (List.mem_of_getElem? (i := 20) rfl)) (by decide) (a := b1) (argsL := []) (rest := []) e29 Eb26 (ihR l Z a0 hw [] b1 w_ADOPTER w_ADOPTER T26.heap n0 O27 Fb0_26 S_w_ADOPTER) 0 (by decide) (by decide) (by decide) (by decide) (mkF m 147 #[.val (.int p0), .val (.int p1), .val (.int p2), .val (.ref b1), .val (.ref r11), .val (.int (1 : Int32)), .val (.int (p0 &&& (3 : Int32))), .val (.int z23), .val (.int (0 : Int32)), .val (.ref w_ADOPTER), .val (.ref r25), .val (.int (1 : Int32))] [(.ref b1)]) rfl (by rw [hml]; rfl) (lenOf pd_2 rfl) rfl (hb hby at_147) (Nat.le_of_eq rfl) ?_
        intro v30 T30 L30 X30 hQ30
        obtain ⟨hv30, M30, e30⟩ := hQ30
        have N30 := Fr.app N26 M30
        obtain rfl : v30 = some (.int 1) := hv30.trans (by simp [ne_w_EXECUTE_w_ADOPTER])
        show Go p e below _ (T30.setTop (mkF m 150 #[.val (.int p0), .val (.int p1), .val (.int p2), .val (.ref b1), .val (.ref r11), .val (.int (1 : Int32)), .val (.int (p0 &&& (3 : Int32))), .val (.int z23), .val (.int (0 : Int32)), .val (.ref w_ADOPTER), .val (.ref r25), .val (.int (1 : Int32))] [(.int (1 : Int32))]))
        refine Go.st (fun _ => XS.iload X30.here hx rfl (hb hby at_150) rfl) ?_
        show Go p e below _ (T30.setTop (mkF m 152 #[.val (.int p0), .val (.int p1), .val (.int p2), .val (.ref b1), .val (.ref r11), .val (.int (1 : Int32)), .val (.int (p0 &&& (3 : Int32))), .val (.int z23), .val (.int (0 : Int32)), .val (.ref w_ADOPTER), .val (.ref r25), .val (.int (1 : Int32))] [(.int (1 : Int32)), (.int (1 : Int32))]))
        refine Go.st (fun _ => XS.icmpNo X30.here hx rfl (hb hby at_152) rfl (teq (by decide : (1 : Int32) = (1 : Int32))).2) ?_
        show Go p e below _ (T30.setTop (mkF m 155 #[.val (.int p0), .val (.int p1), .val (.int p2), .val (.ref b1), .val (.ref r11), .val (.int (1 : Int32)), .val (.int (p0 &&& (3 : Int32))), .val (.int z23), .val (.int (0 : Int32)), .val (.ref w_ADOPTER), .val (.ref r25), .val (.int (1 : Int32))] []))
        refine Go.st (fun _ => XS.iconst X30.here hx rfl (hb hby at_155)) ?_
        show Go p e below _ (T30.setTop (mkF m 156 #[.val (.int p0), .val (.int p1), .val (.int p2), .val (.ref b1), .val (.ref r11), .val (.int (1 : Int32)), .val (.int (p0 &&& (3 : Int32))), .val (.int z23), .val (.int (0 : Int32)), .val (.ref w_ADOPTER), .val (.ref r25), .val (.int (1 : Int32))] [(.int (1 : Int32))]))
        refine Go.st (fun _ => XS.goto X30.here hx rfl (pc0 := 156) (pc' := 160) rfl (hb hby at_156) (by decide) (by decide)) ?_
        show Go p e below _ (T30.setTop (mkF m 160 #[.val (.int p0), .val (.int p1), .val (.int p2), .val (.ref b1), .val (.ref r11), .val (.int (1 : Int32)), .val (.int (p0 &&& (3 : Int32))), .val (.int z23), .val (.int (0 : Int32)), .val (.ref w_ADOPTER), .val (.ref r25), .val (.int (1 : Int32))] [(.int (1 : Int32))]))
        refine Go.st (fun _ => XS.istore X30.here hx rfl (hb hby at_160) rfl (l' := #[.val (.int p0), .val (.int p1), .val (.int p2), .val (.ref b1), .val (.ref r11), .val (.int (1 : Int32)), .val (.int (p0 &&& (3 : Int32))), .val (.int z23), .val (.int (0 : Int32)), .val (.ref w_ADOPTER), .val (.ref r25), .val (.int (1 : Int32))]) rfl) ?_
        show Go p e below _ (T30.setTop (mkF m 162 #[.val (.int p0), .val (.int p1), .val (.int p2), .val (.ref b1), .val (.ref r11), .val (.int (1 : Int32)), .val (.int (p0 &&& (3 : Int32))), .val (.int z23), .val (.int (0 : Int32)), .val (.ref w_ADOPTER), .val (.ref r25), .val (.int (1 : Int32))] []))
        refine Go.st (fun _ => XS.aloadN X30.here hx rfl (hb hby at_162) rfl rfl) ?_
        show Go p e below _ (T30.setTop (mkF m 163 #[.val (.int p0), .val (.int p1), .val (.int p2), .val (.ref b1), .val (.ref r11), .val (.int (1 : Int32)), .val (.int (p0 &&& (3 : Int32))), .val (.int z23), .val (.int (0 : Int32)), .val (.ref w_ADOPTER), .val (.ref r25), .val (.int (1 : Int32))] [(.ref b1)]))
        refine Go.st (fun _ => XS.aload X30.here hx rfl (hb hby at_163) rfl rfl) ?_
        show Go p e below _ (T30.setTop (mkF m 165 #[.val (.int p0), .val (.int p1), .val (.int p2), .val (.ref b1), .val (.ref r11), .val (.int (1 : Int32)), .val (.int (p0 &&& (3 : Int32))), .val (.int z23), .val (.int (0 : Int32)), .val (.ref w_ADOPTER), .val (.ref r25), .val (.int (1 : Int32))] [(.ref r25), (.ref b1)]))
        refine goVirtS X30 hx hZ (y := (⟨"com/example/sidelane/sidelane/Cancellation", "claim", "(Lcom/example/sidelane/sidelane/Cancellation$Claimant;)Z"⟩ : MethodName)) (z := (⟨"com/example/sidelane/sidelane/Cancellation", "claim", "(Lcom/example/sidelane/sidelane/Cancellation$Claimant;)Z"⟩ : MethodName)) hown (hw _ (List.mem_of_getElem? (i := 31) rfl)) (hw _ (List.mem_of_getElem? (i := 32) rfl)) (notFace_of_selects (args := #[]) (mvT hZ (hw _ (List.mem_of_getElem? (i := 34) rfl)))) (hw _ (List.mem_of_getElem? (i := 34) rfl)) (hw _ (List.mem_of_getElem? (i := 33) rfl)) (hw _ (List.mem_of_getElem? (i := 2) rfl)) (hw _ (List.mem_of_getElem? (i := 35) rfl)) (by decide) (a := b1) (argsL := [(.ref r25)]) (rest := []) e30 Eb26 (cmR0 l Z a0 hw b1 r25 w_ADOPTER en oc eb T26.heap n0 O27 Ub26 gn1 Eb26 Fb0_26 Fb1_26 Fb2_26 Fb3_26 Fb4_26 Fb5_26 Fb6_26) 0 (by decide) (by decide) (by decide) (by decide) (mkF m 165 #[.val (.int p0), .val (.int p1), .val (.int p2), .val (.ref b1), .val (.ref r11), .val (.int (1 : Int32)), .val (.int (p0 &&& (3 : Int32))), .val (.int z23), .val (.int (0 : Int32)), .val (.ref w_ADOPTER), .val (.ref r25), .val (.int (1 : Int32))] [(.ref r25), (.ref b1)]) rfl (by rw [hml]; rfl) (lenOf pd_5 rfl) rfl (hb hby at_165) (Nat.le_of_eq rfl) ?_
        intro v31 T31 L31 X31 hQ31
        obtain ⟨rfl, M31, K31, ⟨Eb31, Ub31, Fb0_31, Fb1_31, Fb2_31, Fb3_31, Fb4_31, Fb5_31, Fb6_31⟩⟩ := hQ31
        have N31 := Fr.app N30 M31
        have O32 : Old Z n0 T31.heap := O27.keep K31 (allS gn1 all0)
        have E_33 : Exa Z T31.heap b1 "com/example/sidelane/sidelane/Cancellation" := Eb26.keep K31
        show Go p e below _ (T31.setTop (mkF m 168 #[.val (.int p0), .val (.int p1), .val (.int p2), .val (.ref b1), .val (.ref r11), .val (.int (1 : Int32)), .val (.int (p0 &&& (3 : Int32))), .val (.int z23), .val (.int (0 : Int32)), .val (.ref w_ADOPTER), .val (.ref r25), .val (.int (1 : Int32))] [(.int (0 : Int32))]))
        refine Go.st (fun _ => XS.pop X31.here hx rfl (hb hby at_168) rfl rfl) ?_
        show Go p e below _ (T31.setTop (mkF m 169 #[.val (.int p0), .val (.int p1), .val (.int p2), .val (.ref b1), .val (.ref r11), .val (.int (1 : Int32)), .val (.int (p0 &&& (3 : Int32))), .val (.int z23), .val (.int (0 : Int32)), .val (.ref w_ADOPTER), .val (.ref r25), .val (.int (1 : Int32))] []))
        refine Go.st (fun _ => XS.iload X31.here hx rfl (hb hby at_169) rfl) ?_
        show Go p e below _ (T31.setTop (mkF m 171 #[.val (.int p0), .val (.int p1), .val (.int p2), .val (.ref b1), .val (.ref r11), .val (.int (1 : Int32)), .val (.int (p0 &&& (3 : Int32))), .val (.int z23), .val (.int (0 : Int32)), .val (.ref w_ADOPTER), .val (.ref r25), .val (.int (1 : Int32))] [(.int (1 : Int32))]))
        refine Go.st (fun _ => XS.ifNo X31.here hx rfl (hb hby at_171) rfl ((if0 _ _).trans (feq (by decide : ¬ ((1 : Int32) = (0 : Int32)))).1)) ?_
        show Go p e below _ (T31.setTop (mkF m 174 #[.val (.int p0), .val (.int p1), .val (.int p2), .val (.ref b1), .val (.ref r11), .val (.int (1 : Int32)), .val (.int (p0 &&& (3 : Int32))), .val (.int z23), .val (.int (0 : Int32)), .val (.ref w_ADOPTER), .val (.ref r25), .val (.int (1 : Int32))] []))
        refine Go.st (fun _ => XS.aloadN X31.here hx rfl (hb hby at_174) rfl rfl) ?_
        show Go p e below _ (T31.setTop (mkF m 175 #[.val (.int p0), .val (.int p1), .val (.int p2), .val (.ref b1), .val (.ref r11), .val (.int (1 : Int32)), .val (.int (p0 &&& (3 : Int32))), .val (.int z23), .val (.int (0 : Int32)), .val (.ref w_ADOPTER), .val (.ref r25), .val (.int (1 : Int32))] [(.ref b1)]))
        refine goVirt X31 hx hZ (y := (⟨"com/example/sidelane/sidelane/Cancellation", "isHandedOver", "()Z"⟩ : MethodName)) (z := (⟨"com/example/sidelane/sidelane/Cancellation", "isHandedOver", "()Z"⟩ : MethodName)) hown (hw _ (List.mem_of_getElem? (i := 16) rfl)) (hw _ (List.mem_of_getElem? (i := 17) rfl)) (notFace_of_selects (args := #[]) (mvT hZ (hw _ (List.mem_of_getElem? (i := 19) rfl)))) (hw _ (List.mem_of_getElem? (i := 19) rfl)) (hw _ (List.mem_of_getElem? (i := 18) rfl)) (hw _ (List.mem_of_getElem? (i := 2) rfl)) (hw _ (List.mem_of_getElem? (i := 20) rfl)) (by decide) (a := b1) (argsL := []) (rest := []) rfl Eb31 (ihR l Z a0 hw [] b1 w_ADOPTER w_ADOPTER T31.heap n0 O32 Fb0_31 S_w_ADOPTER) 0 (by decide) (by decide) (by decide) (by decide) (mkF m 175 #[.val (.int p0), .val (.int p1), .val (.int p2), .val (.ref b1), .val (.ref r11), .val (.int (1 : Int32)), .val (.int (p0 &&& (3 : Int32))), .val (.int z23), .val (.int (0 : Int32)), .val (.ref w_ADOPTER), .val (.ref r25), .val (.int (1 : Int32))] [(.ref b1)]) rfl (by rw [hml]; rfl) (lenOf pd_2 rfl) rfl (hb hby at_175) (Nat.le_of_eq rfl) ?_
        intro v34 T34 L34 X34 hQ34
        obtain ⟨hv34, M34, e34⟩ := hQ34
        have N34 := Fr.app N31 M34
        obtain rfl : v34 = some (.int 1) := hv34.trans (by simp [ne_w_EXECUTE_w_ADOPTER])
        show Go p e below _ (T34.setTop (mkF m 178 #[.val (.int p0), .val (.int p1), .val (.int p2), .val (.ref b1), .val (.ref r11), .val (.int (1 : Int32)), .val (.int (p0 &&& (3 : Int32))), .val (.int z23), .val (.int (0 : Int32)), .val (.ref w_ADOPTER), .val (.ref r25), .val (.int (1 : Int32))] [(.int (1 : Int32))]))
        refine Go.st (fun _ => XS.iload X34.here hx rfl (hb hby at_178) rfl) ?_
        show Go p e below _ (T34.setTop (mkF m 180 #[.val (.int p0), .val (.int p1), .val (.int p2), .val (.ref b1), .val (.ref r11), .val (.int (1 : Int32)), .val (.int (p0 &&& (3 : Int32))), .val (.int z23), .val (.int (0 : Int32)), .val (.ref w_ADOPTER), .val (.ref r25), .val (.int (1 : Int32))] [(.int (1 : Int32)), (.int (1 : Int32))]))
        refine Go.st (fun _ => XS.icmpNo X34.here hx rfl (hb hby at_180) rfl (teq (by decide : (1 : Int32) = (1 : Int32))).2) ?_
        show Go p e below _ (T34.setTop (mkF m 183 #[.val (.int p0), .val (.int p1), .val (.int p2), .val (.ref b1), .val (.ref r11), .val (.int (1 : Int32)), .val (.int (p0 &&& (3 : Int32))), .val (.int z23), .val (.int (0 : Int32)), .val (.ref w_ADOPTER), .val (.ref r25), .val (.int (1 : Int32))] []))
        refine Go.st (fun _ => XS.iconst X34.here hx rfl (hb hby at_183)) ?_
        show Go p e below _ (T34.setTop (mkF m 184 #[.val (.int p0), .val (.int p1), .val (.int p2), .val (.ref b1), .val (.ref r11), .val (.int (1 : Int32)), .val (.int (p0 &&& (3 : Int32))), .val (.int z23), .val (.int (0 : Int32)), .val (.ref w_ADOPTER), .val (.ref r25), .val (.int (1 : Int32))] [(.int (1 : Int32))]))
        refine Go.st (fun _ => XS.goto X34.here hx rfl (pc0 := 184) (pc' := 188) rfl (hb hby at_184) (by decide) (by decide)) ?_
        show Go p e below _ (T34.setTop (mkF m 188 #[.val (.int p0), .val (.int p1), .val (.int p2), .val (.ref b1), .val (.ref r11), .val (.int (1 : Int32)), .val (.int (p0 &&& (3 : Int32))), .val (.int z23), .val (.int (0 : Int32)), .val (.ref w_ADOPTER), .val (.ref r25), .val (.int (1 : Int32))] [(.int (1 : Int32))]))
        refine Go.st (fun _ => XS.istore X34.here hx rfl (hb hby at_188) rfl (l' := #[.val (.int p0), .val (.int p1), .val (.int p2), .val (.ref b1), .val (.ref r11), .val (.int (1 : Int32)), .val (.int (p0 &&& (3 : Int32))), .val (.int z23), .val (.int (0 : Int32)), .val (.ref w_ADOPTER), .val (.ref r25), .val (.int (1 : Int32))]) rfl) ?_
        show Go p e below _ (T34.setTop (mkF m 190 #[.val (.int p0), .val (.int p1), .val (.int p2), .val (.ref b1), .val (.ref r11), .val (.int (1 : Int32)), .val (.int (p0 &&& (3 : Int32))), .val (.int z23), .val (.int (0 : Int32)), .val (.ref w_ADOPTER), .val (.ref r25), .val (.int (1 : Int32))] []))
        refine Go.st (fun _ => XS.iloadN X34.here hx rfl (hb hby at_190) rfl) ?_
        show Go p e below _ (T34.setTop (mkF m 191 #[.val (.int p0), .val (.int p1), .val (.int p2), .val (.ref b1), .val (.ref r11), .val (.int (1 : Int32)), .val (.int (p0 &&& (3 : Int32))), .val (.int z23), .val (.int (0 : Int32)), .val (.ref w_ADOPTER), .val (.ref r25), .val (.int (1 : Int32))] [(.int p2)]))
        refine Go.st (fun _ => XS.iconst X34.here hx rfl (hb hby at_191)) ?_
        show Go p e below _ (T34.setTop (mkF m 192 #[.val (.int p0), .val (.int p1), .val (.int p2), .val (.ref b1), .val (.ref r11), .val (.int (1 : Int32)), .val (.int (p0 &&& (3 : Int32))), .val (.int z23), .val (.int (0 : Int32)), .val (.ref w_ADOPTER), .val (.ref r25), .val (.int (1 : Int32))] [(.int (1 : Int32)), (.int p2)]))
        refine Go.st (fun _ => XS.iand X34.here hx rfl (hb hby at_192) rfl) ?_
        show Go p e below _ (T34.setTop (mkF m 193 #[.val (.int p0), .val (.int p1), .val (.int p2), .val (.ref b1), .val (.ref r11), .val (.int (1 : Int32)), .val (.int (p0 &&& (3 : Int32))), .val (.int z23), .val (.int (0 : Int32)), .val (.ref w_ADOPTER), .val (.ref r25), .val (.int (1 : Int32))] [(.int (p2 &&& (1 : Int32)))]))
        by_cases hc35 : (p2 &&& (1 : Int32)) = (0 : Int32)
        · refine Go.st (fun _ => XS.ifYes X34.here hx rfl (pc0 := 193) (pc' := 204) rfl (hb hby at_193) rfl ((if0 _ _).trans (teq hc35).1) (by decide) (by decide)) ?_
          show Go p e below _ (T34.setTop (mkF m 204 #[.val (.int p0), .val (.int p1), .val (.int p2), .val (.ref b1), .val (.ref r11), .val (.int (1 : Int32)), .val (.int (p0 &&& (3 : Int32))), .val (.int z23), .val (.int (0 : Int32)), .val (.ref w_ADOPTER), .val (.ref r25), .val (.int (1 : Int32))] []))
          refine Go.st (fun _ => XS.iload X34.here hx rfl (hb hby at_204) rfl) ?_
          show Go p e below _ (T34.setTop (mkF m 206 #[.val (.int p0), .val (.int p1), .val (.int p2), .val (.ref b1), .val (.ref r11), .val (.int (1 : Int32)), .val (.int (p0 &&& (3 : Int32))), .val (.int z23), .val (.int (0 : Int32)), .val (.ref w_ADOPTER), .val (.ref r25), .val (.int (1 : Int32))] [(.int (1 : Int32))]))
          refine Go.st (fun _ => XS.ifNo X34.here hx rfl (hb hby at_206) rfl ((if0 _ _).trans (feq (by decide : ¬ ((1 : Int32) = (0 : Int32)))).1)) ?_
          show Go p e below _ (T34.setTop (mkF m 209 #[.val (.int p0), .val (.int p1), .val (.int p2), .val (.ref b1), .val (.ref r11), .val (.int (1 : Int32)), .val (.int (p0 &&& (3 : Int32))), .val (.int z23), .val (.int (0 : Int32)), .val (.ref w_ADOPTER), .val (.ref r25), .val (.int (1 : Int32))] []))
          refine Go.st (fun _ => XS.aloadN X34.here hx rfl (hb hby at_209) rfl rfl) ?_
          show Go p e below _ (T34.setTop (mkF m 210 #[.val (.int p0), .val (.int p1), .val (.int p2), .val (.ref b1), .val (.ref r11), .val (.int (1 : Int32)), .val (.int (p0 &&& (3 : Int32))), .val (.int z23), .val (.int (0 : Int32)), .val (.ref w_ADOPTER), .val (.ref r25), .val (.int (1 : Int32))] [(.ref b1)]))
          refine goVirt X34 hx hZ (y := (⟨"com/example/sidelane/sidelane/Cancellation", "isHandedOver", "()Z"⟩ : MethodName)) (z := (⟨"com/example/sidelane/sidelane/Cancellation", "isHandedOver", "()Z"⟩ : MethodName)) hown (hw _ (List.mem_of_getElem? (i := 16) rfl)) (hw _ (List.mem_of_getElem? (i := 17) rfl)) (notFace_of_selects (args := #[]) (mvT hZ (hw _ (List.mem_of_getElem? (i := 19) rfl)))) (hw _ (List.mem_of_getElem? (i := 19) rfl)) (hw _ (List.mem_of_getElem? (i := 18) rfl)) (hw _ (List.mem_of_getElem? (i := 2) rfl)) (hw _ (List.mem_of_getElem? (i := 20) rfl)) (by decide) (a := b1) (argsL := []) (rest := []) e34 Eb31 (ihR l Z a0 hw [] b1 w_ADOPTER w_ADOPTER T31.heap n0 O32 Fb0_31 S_w_ADOPTER) 0 (by decide) (by decide) (by decide) (by decide) (mkF m 210 #[.val (.int p0), .val (.int p1), .val (.int p2), .val (.ref b1), .val (.ref r11), .val (.int (1 : Int32)), .val (.int (p0 &&& (3 : Int32))), .val (.int z23), .val (.int (0 : Int32)), .val (.ref w_ADOPTER), .val (.ref r25), .val (.int (1 : Int32))] [(.ref b1)]) rfl (by rw [hml]; rfl) (lenOf pd_2 rfl) rfl (hb hby at_210) (Nat.le_of_eq rfl) ?_
          intro v36 T36 L36 X36 hQ36
          obtain ⟨hv36, M36, e36⟩ := hQ36
          have N36 := Fr.app N34 M36
          obtain rfl : v36 = some (.int 1) := hv36.trans (by simp [ne_w_EXECUTE_w_ADOPTER])
          show Go p e below _ (T36.setTop (mkF m 213 #[.val (.int p0), .val (.int p1), .val (.int p2), .val (.ref b1), .val (.ref r11), .val (.int (1 : Int32)), .val (.int (p0 &&& (3 : Int32))), .val (.int z23), .val (.int (0 : Int32)), .val (.ref w_ADOPTER), .val (.ref r25), .val (.int (1 : Int32))] [(.int (1 : Int32))]))
          refine Go.st (fun _ => XS.iload X36.here hx rfl (hb hby at_213) rfl) ?_
          show Go p e below _ (T36.setTop (mkF m 215 #[.val (.int p0), .val (.int p1), .val (.int p2), .val (.ref b1), .val (.ref r11), .val (.int (1 : Int32)), .val (.int (p0 &&& (3 : Int32))), .val (.int z23), .val (.int (0 : Int32)), .val (.ref w_ADOPTER), .val (.ref r25), .val (.int (1 : Int32))] [(.int (1 : Int32)), (.int (1 : Int32))]))
          refine Go.st (fun _ => XS.icmpNo X36.here hx rfl (hb hby at_215) rfl (teq (by decide : (1 : Int32) = (1 : Int32))).2) ?_
          show Go p e below _ (T36.setTop (mkF m 218 #[.val (.int p0), .val (.int p1), .val (.int p2), .val (.ref b1), .val (.ref r11), .val (.int (1 : Int32)), .val (.int (p0 &&& (3 : Int32))), .val (.int z23), .val (.int (0 : Int32)), .val (.ref w_ADOPTER), .val (.ref r25), .val (.int (1 : Int32))] []))
          refine Go.st (fun _ => XS.iconst X36.here hx rfl (hb hby at_218)) ?_
          show Go p e below _ (T36.setTop (mkF m 219 #[.val (.int p0), .val (.int p1), .val (.int p2), .val (.ref b1), .val (.ref r11), .val (.int (1 : Int32)), .val (.int (p0 &&& (3 : Int32))), .val (.int z23), .val (.int (0 : Int32)), .val (.ref w_ADOPTER), .val (.ref r25), .val (.int (1 : Int32))] [(.int (1 : Int32))]))
          refine Go.st (fun _ => XS.goto X36.here hx rfl (pc0 := 219) (pc' := 223) rfl (hb hby at_219) (by decide) (by decide)) ?_
          show Go p e below _ (T36.setTop (mkF m 223 #[.val (.int p0), .val (.int p1), .val (.int p2), .val (.ref b1), .val (.ref r11), .val (.int (1 : Int32)), .val (.int (p0 &&& (3 : Int32))), .val (.int z23), .val (.int (0 : Int32)), .val (.ref w_ADOPTER), .val (.ref r25), .val (.int (1 : Int32))] [(.int (1 : Int32))]))
          refine Go.st (fun _ => XS.istore X36.here hx rfl (hb hby at_223) rfl (l' := #[.val (.int p0), .val (.int p1), .val (.int p2), .val (.ref b1), .val (.ref r11), .val (.int (1 : Int32)), .val (.int (p0 &&& (3 : Int32))), .val (.int z23), .val (.int (0 : Int32)), .val (.ref w_ADOPTER), .val (.ref r25), .val (.int (1 : Int32))]) rfl) ?_
          show Go p e below _ (T36.setTop (mkF m 225 #[.val (.int p0), .val (.int p1), .val (.int p2), .val (.ref b1), .val (.ref r11), .val (.int (1 : Int32)), .val (.int (p0 &&& (3 : Int32))), .val (.int z23), .val (.int (0 : Int32)), .val (.ref w_ADOPTER), .val (.ref r25), .val (.int (1 : Int32))] []))
          refine Go.st (fun _ => XS.iload X36.here hx rfl (hb hby at_225) rfl) ?_
          show Go p e below _ (T36.setTop (mkF m 227 #[.val (.int p0), .val (.int p1), .val (.int p2), .val (.ref b1), .val (.ref r11), .val (.int (1 : Int32)), .val (.int (p0 &&& (3 : Int32))), .val (.int z23), .val (.int (0 : Int32)), .val (.ref w_ADOPTER), .val (.ref r25), .val (.int (1 : Int32))] [(.int (1 : Int32))]))
          exact goRetN X36 hx hlk hret (t := .boolean) (by simp) (w := (1 : Int32)) (by decide) e36 (hb hby at_227) (by decide) (by decide) ⟨rfl, N36⟩
        · refine Go.st (fun _ => XS.ifNo X34.here hx rfl (hb hby at_193) rfl ((if0 _ _).trans (feq hc35).1)) ?_
          show Go p e below _ (T34.setTop (mkF m 196 #[.val (.int p0), .val (.int p1), .val (.int p2), .val (.ref b1), .val (.ref r11), .val (.int (1 : Int32)), .val (.int (p0 &&& (3 : Int32))), .val (.int z23), .val (.int (0 : Int32)), .val (.ref w_ADOPTER), .val (.ref r25), .val (.int (1 : Int32))] []))
          refine Go.st (fun _ => XS.aloadN X34.here hx rfl (hb hby at_196) rfl rfl) ?_
          show Go p e below _ (T34.setTop (mkF m 197 #[.val (.int p0), .val (.int p1), .val (.int p2), .val (.ref b1), .val (.ref r11), .val (.int (1 : Int32)), .val (.int (p0 &&& (3 : Int32))), .val (.int z23), .val (.int (0 : Int32)), .val (.ref w_ADOPTER), .val (.ref r25), .val (.int (1 : Int32))] [(.ref b1)]))
          refine Go.st (fun _ => XS.iconst X34.here hx rfl (hb hby at_197)) ?_
          show Go p e below _ (T34.setTop (mkF m 198 #[.val (.int p0), .val (.int p1), .val (.int p2), .val (.ref b1), .val (.ref r11), .val (.int (1 : Int32)), .val (.int (p0 &&& (3 : Int32))), .val (.int z23), .val (.int (0 : Int32)), .val (.ref w_ADOPTER), .val (.ref r25), .val (.int (1 : Int32))] [(.int (0 : Int32)), (.ref b1)]))
          refine Go.st (fun _ => XS.aload X34.here hx rfl (hb hby at_198) rfl rfl) ?_
          show Go p e below _ (T34.setTop (mkF m 200 #[.val (.int p0), .val (.int p1), .val (.int p2), .val (.ref b1), .val (.ref r11), .val (.int (1 : Int32)), .val (.int (p0 &&& (3 : Int32))), .val (.int z23), .val (.int (0 : Int32)), .val (.ref w_ADOPTER), .val (.ref r25), .val (.int (1 : Int32))] [(.ref r11), (.int (0 : Int32)), (.ref b1)]))
          refine goVirtS X34 hx hZ (y := (⟨"com/example/sidelane/sidelane/Cancellation", "cancel", "(ZLjava/lang/Object;)Lcom/example/sidelane/sidelane/Cancellation$Outcome;"⟩ : MethodName)) (z := (⟨"com/example/sidelane/sidelane/Cancellation", "cancel", "(ZLjava/lang/Object;)Lcom/example/sidelane/sidelane/Cancellation$Outcome;"⟩ : MethodName)) hown (hw _ (List.mem_of_getElem? (i := 43) rfl)) (hw _ (List.mem_of_getElem? (i := 44) rfl)) (notFace_of_selects (args := #[]) (mvT hZ (hw _ (List.mem_of_getElem? (i := 46) rfl)))) (hw _ (List.mem_of_getElem? (i := 46) rfl)) (hw _ (List.mem_of_getElem? (i := 45) rfl)) (hw _ (List.mem_of_getElem? (i := 2) rfl)) (hw _ (List.mem_of_getElem? (i := 47) rfl)) (by decide) (a := b1) (argsL := [(.int (0 : Int32)), (.ref r11)]) (rest := []) e34 Eb31 (caA l Z a0 hw b1 (0 : Int32) r11 en oc w_EXECUTE w_ADOPTER w_CANCELLED w_REFUSED w_HANDED_OVER w_CANCELLED_UNEXECUTED w_ENDING_NEEDED eb T31.heap n0 O32 Ub31 gn1 Eb31 Fb0_31 Fb1_31 Fb2_31 Fb3_31 Fb4_31 Fb5_31 Fb6_31 S_w_EXECUTE S_w_ADOPTER S_w_CANCELLED S_w_REFUSED S_w_HANDED_OVER S_w_CANCELLED_UNEXECUTED S_w_ENDING_NEEDED ne_w_EXECUTE_w_ADOPTER) 0 (by decide) (by decide) (by decide) (by decide) (mkF m 200 #[.val (.int p0), .val (.int p1), .val (.int p2), .val (.ref b1), .val (.ref r11), .val (.int (1 : Int32)), .val (.int (p0 &&& (3 : Int32))), .val (.int z23), .val (.int (0 : Int32)), .val (.ref w_ADOPTER), .val (.ref r25), .val (.int (1 : Int32))] [(.ref r11), (.int (0 : Int32)), (.ref b1)]) rfl (by rw [hml]; rfl) (lenOf pd_6 rfl) rfl (hb hby at_200) (Nat.le_of_eq rfl) ?_
          intro v37 T37 L37 X37 hQ37
          obtain ⟨⟨r37, rfl⟩, M37, K37, ⟨Eb37, Ub37, Fb0_37, Fb1_37, Fb2_37, Fb3_37, Fb4_37, Fb5_37, Fb6_37⟩⟩ := hQ37
          have N37 := Fr.app N34 M37
          have O38 : Old Z n0 T37.heap := O32.keep K37 (allS gn1 all0)
          have E_39 : Exa Z T37.heap b1 "com/example/sidelane/sidelane/Cancellation" := Eb31.keep K37
          show Go p e below _ (T37.setTop (mkF m 203 #[.val (.int p0), .val (.int p1), .val (.int p2), .val (.ref b1), .val (.ref r11), .val (.int (1 : Int32)), .val (.int (p0 &&& (3 : Int32))), .val (.int z23), .val (.int (0 : Int32)), .val (.ref w_ADOPTER), .val (.ref r25), .val (.int (1 : Int32))] [(.ref r37)]))
          refine Go.st (fun _ => XS.pop X37.here hx rfl (hb hby at_203) rfl rfl) ?_
          show Go p e below _ (T37.setTop (mkF m 204 #[.val (.int p0), .val (.int p1), .val (.int p2), .val (.ref b1), .val (.ref r11), .val (.int (1 : Int32)), .val (.int (p0 &&& (3 : Int32))), .val (.int z23), .val (.int (0 : Int32)), .val (.ref w_ADOPTER), .val (.ref r25), .val (.int (1 : Int32))] []))
          refine Go.st (fun _ => XS.iload X37.here hx rfl (hb hby at_204) rfl) ?_
          show Go p e below _ (T37.setTop (mkF m 206 #[.val (.int p0), .val (.int p1), .val (.int p2), .val (.ref b1), .val (.ref r11), .val (.int (1 : Int32)), .val (.int (p0 &&& (3 : Int32))), .val (.int z23), .val (.int (0 : Int32)), .val (.ref w_ADOPTER), .val (.ref r25), .val (.int (1 : Int32))] [(.int (1 : Int32))]))
          refine Go.st (fun _ => XS.ifNo X37.here hx rfl (hb hby at_206) rfl ((if0 _ _).trans (feq (by decide : ¬ ((1 : Int32) = (0 : Int32)))).1)) ?_
          show Go p e below _ (T37.setTop (mkF m 209 #[.val (.int p0), .val (.int p1), .val (.int p2), .val (.ref b1), .val (.ref r11), .val (.int (1 : Int32)), .val (.int (p0 &&& (3 : Int32))), .val (.int z23), .val (.int (0 : Int32)), .val (.ref w_ADOPTER), .val (.ref r25), .val (.int (1 : Int32))] []))
          refine Go.st (fun _ => XS.aloadN X37.here hx rfl (hb hby at_209) rfl rfl) ?_
          show Go p e below _ (T37.setTop (mkF m 210 #[.val (.int p0), .val (.int p1), .val (.int p2), .val (.ref b1), .val (.ref r11), .val (.int (1 : Int32)), .val (.int (p0 &&& (3 : Int32))), .val (.int z23), .val (.int (0 : Int32)), .val (.ref w_ADOPTER), .val (.ref r25), .val (.int (1 : Int32))] [(.ref b1)]))
          refine goVirt X37 hx hZ (y := (⟨"com/example/sidelane/sidelane/Cancellation", "isHandedOver", "()Z"⟩ : MethodName)) (z := (⟨"com/example/sidelane/sidelane/Cancellation", "isHandedOver", "()Z"⟩ : MethodName)) hown (hw _ (List.mem_of_getElem? (i := 16) rfl)) (hw _ (List.mem_of_getElem? (i := 17) rfl)) (notFace_of_selects (args := #[]) (mvT hZ (hw _ (List.mem_of_getElem? (i := 19) rfl)))) (hw _ (List.mem_of_getElem? (i := 19) rfl)) (hw _ (List.mem_of_getElem? (i := 18) rfl)) (hw _ (List.mem_of_getElem? (i := 2) rfl)) (hw _ (List.mem_of_getElem? (i := 20) rfl)) (by decide) (a := b1) (argsL := []) (rest := []) rfl Eb37 (ihR l Z a0 hw [] b1 w_ADOPTER w_ADOPTER T37.heap n0 O38 Fb0_37 S_w_ADOPTER) 0 (by decide) (by decide) (by decide) (by decide) (mkF m 210 #[.val (.int p0), .val (.int p1), .val (.int p2), .val (.ref b1), .val (.ref r11), .val (.int (1 : Int32)), .val (.int (p0 &&& (3 : Int32))), .val (.int z23), .val (.int (0 : Int32)), .val (.ref w_ADOPTER), .val (.ref r25), .val (.int (1 : Int32))] [(.ref b1)]) rfl (by rw [hml]; rfl) (lenOf pd_2 rfl) rfl (hb hby at_210) (Nat.le_of_eq rfl) ?_
          intro v40 T40 L40 X40 hQ40
          obtain ⟨hv40, M40, e40⟩ := hQ40
          have N40 := Fr.app N37 M40
          obtain rfl : v40 = some (.int 1) := hv40.trans (by simp [ne_w_EXECUTE_w_ADOPTER])
          show Go p e below _ (T40.setTop (mkF m 213 #[.val (.int p0), .val (.int p1), .val (.int p2), .val (.ref b1), .val (.ref r11), .val (.int (1 : Int32)), .val (.int (p0 &&& (3 : Int32))), .val (.int z23), .val (.int (0 : Int32)), .val (.ref w_ADOPTER), .val (.ref r25), .val (.int (1 : Int32))] [(.int (1 : Int32))]))
          refine Go.st (fun _ => XS.iload X40.here hx rfl (hb hby at_213) rfl) ?_
          show Go p e below _ (T40.setTop (mkF m 215 #[.val (.int p0), .val (.int p1), .val (.int p2), .val (.ref b1), .val (.ref r11), .val (.int (1 : Int32)), .val (.int (p0 &&& (3 : Int32))), .val (.int z23), .val (.int (0 : Int32)), .val (.ref w_ADOPTER), .val (.ref r25), .val (.int (1 : Int32))] [(.int (1 : Int32)), (.int (1 : Int32))]))
          refine Go.st (fun _ => XS.icmpNo X40.here hx rfl (hb hby at_215) rfl (teq (by decide : (1 : Int32) = (1 : Int32))).2) ?_
          show Go p e below _ (T40.setTop (mkF m 218 #[.val (.int p0), .val (.int p1), .val (.int p2), .val (.ref b1), .val (.ref r11), .val (.int (1 : Int32)), .val (.int (p0 &&& (3 : Int32))), .val (.int z23), .val (.int (0 : Int32)), .val (.ref w_ADOPTER), .val (.ref r25), .val (.int (1 : Int32))] []))
          refine Go.st (fun _ => XS.iconst X40.here hx rfl (hb hby at_218)) ?_
          show Go p e below _ (T40.setTop (mkF m 219 #[.val (.int p0), .val (.int p1), .val (.int p2), .val (.ref b1), .val (.ref r11), .val (.int (1 : Int32)), .val (.int (p0 &&& (3 : Int32))), .val (.int z23), .val (.int (0 : Int32)), .val (.ref w_ADOPTER), .val (.ref r25), .val (.int (1 : Int32))] [(.int (1 : Int32))]))
          refine Go.st (fun _ => XS.goto X40.here hx rfl (pc0 := 219) (pc' := 223) rfl (hb hby at_219) (by decide) (by decide)) ?_
          show Go p e below _ (T40.setTop (mkF m 223 #[.val (.int p0), .val (.int p1), .val (.int p2), .val (.ref b1), .val (.ref r11), .val (.int (1 : Int32)), .val (.int (p0 &&& (3 : Int32))), .val (.int z23), .val (.int (0 : Int32)), .val (.ref w_ADOPTER), .val (.ref r25), .val (.int (1 : Int32))] [(.int (1 : Int32))]))
          refine Go.st (fun _ => XS.istore X40.here hx rfl (hb hby at_223) rfl (l' := #[.val (.int p0), .val (.int p1), .val (.int p2), .val (.ref b1), .val (.ref r11), .val (.int (1 : Int32)), .val (.int (p0 &&& (3 : Int32))), .val (.int z23), .val (.int (0 : Int32)), .val (.ref w_ADOPTER), .val (.ref r25), .val (.int (1 : Int32))]) rfl) ?_
          show Go p e below _ (T40.setTop (mkF m 225 #[.val (.int p0), .val (.int p1), .val (.int p2), .val (.ref b1), .val (.ref r11), .val (.int (1 : Int32)), .val (.int (p0 &&& (3 : Int32))), .val (.int z23), .val (.int (0 : Int32)), .val (.ref w_ADOPTER), .val (.ref r25), .val (.int (1 : Int32))] []))
          refine Go.st (fun _ => XS.iload X40.here hx rfl (hb hby at_225) rfl) ?_
          show Go p e below _ (T40.setTop (mkF m 227 #[.val (.int p0), .val (.int p1), .val (.int p2), .val (.ref b1), .val (.ref r11), .val (.int (1 : Int32)), .val (.int (p0 &&& (3 : Int32))), .val (.int z23), .val (.int (0 : Int32)), .val (.ref w_ADOPTER), .val (.ref r25), .val (.int (1 : Int32))] [(.int (1 : Int32))]))
          exact goRetN X40 hx hlk hret (t := .boolean) (by simp) (w := (1 : Int32)) (by decide) e40 (hb hby at_227) (by decide) (by decide) ⟨rfl, N40⟩
      · obtain rfl : v24 = some (.ref w_EXECUTE) := by rw [hv24, hr24]
        show Go p e below _ (T24.setTop (mkF m 104 #[.val (.int p0), .val (.int p1), .val (.int p2), .val (.ref b1), .val (.ref r11), .val (.int (1 : Int32)), .val (.int (p0 &&& (3 : Int32))), .val (.int z23), .val (.int (0 : Int32)), .unset, .unset, .unset] [(.ref w_EXECUTE)]))
        refine Go.st (fun _ => XS.astore X24.here hx rfl (hb hby at_104) rfl rfl (l' := #[.val (.int p0), .val (.int p1), .val (.int p2), .val (.ref b1), .val (.ref r11), .val (.int (1 : Int32)), .val (.int (p0 &&& (3 : Int32))), .val (.int z23), .val (.int (0 : Int32)), .val (.ref w_EXECUTE), .unset, .unset]) rfl) ?_
        show Go p e below _ (T24.setTop (mkF m 106 #[.val (.int p0), .val (.int p1), .val (.int p2), .val (.ref b1), .val (.ref r11), .val (.int (1 : Int32)), .val (.int (p0 &&& (3 : Int32))), .val (.int z23), .val (.int (0 : Int32)), .val (.ref w_EXECUTE), .unset, .unset] []))
        refine Go.st (fun _ => XS.iloadN X24.here hx rfl (hb hby at_106) rfl) ?_
        show Go p e below _ (T24.setTop (mkF m 107 #[.val (.int p0), .val (.int p1), .val (.int p2), .val (.ref b1), .val (.ref r11), .val (.int (1 : Int32)), .val (.int (p0 &&& (3 : Int32))), .val (.int z23), .val (.int (0 : Int32)), .val (.ref w_EXECUTE), .unset, .unset] [(.int p1)]))
        refine Go.st (fun _ => XS.iconst X24.here hx rfl (hb hby at_107)) ?_
        show Go p e below _ (T24.setTop (mkF m 108 #[.val (.int p0), .val (.int p1), .val (.int p2), .val (.ref b1), .val (.ref r11), .val (.int (1 : Int32)), .val (.int (p0 &&& (3 : Int32))), .val (.int z23), .val (.int (0 : Int32)), .val (.ref w_EXECUTE), .unset, .unset] [(.int (2 : Int32)), (.int p1)]))
        refine Go.st (fun _ => XS.iand X24.here hx rfl (hb hby at_108) rfl) ?_
        show Go p e below _ (T24.setTop (mkF m 109 #[.val (.int p0), .val (.int p1), .val (.int p2), .val (.ref b1), .val (.ref r11), .val (.int (1 : Int32)), .val (.int (p0 &&& (3 : Int32))), .val (.int z23), .val (.int (0 : Int32)), .val (.ref w_EXECUTE), .unset, .unset] [(.int (p1 &&& (2 : Int32)))]))
        refine goCallS X24 hx hZ (y := (⟨"com/example/sidelane/sidelane/CancellationIsHandedOverPinLaw", "pick", "(I)Lcom/example/sidelane/sidelane/Cancellation$Claimant;"⟩ : MethodName)) hown (hw _ (List.mem_of_getElem? (i := 26) rfl)) (hw _ (List.mem_of_getElem? (i := 27) rfl)) (hw _ (List.mem_of_getElem? (i := 28) rfl)) (hw _ (List.mem_of_getElem? (i := 29) rfl)) (by decide) (argsL := [(.int (p1 &&& (2 : Int32)))]) (rest := []) e24 (rmP l Z a0 hw [] (p1 &&& (2 : Int32)) w_EXECUTE w_ADOPTER hC n0 f0_C S_w_EXECUTE S_w_ADOPTER) 0 (by decide) (by decide) (by decide) (by decide) (mkF m 109 #[.val (.int p0), .val (.int p1), .val (.int p2), .val (.ref b1), .val (.ref r11), .val (.int (1 : Int32)), .val (.int (p0 &&& (3 : Int32))), .val (.int z23), .val (.int (0 : Int32)), .val (.ref w_EXECUTE), .unset, .unset] [(.int (p1 &&& (2 : Int32)))]) rfl (by rw [hml]; rfl) (lenOf pd_4 rfl) rfl (hb hby at_109) (Nat.le_of_eq rfl) ?_
        intro v41 T41 L41 X41 hQ41
        obtain ⟨⟨r41, hv41, hr41⟩, M41, e41⟩ := hQ41
        have N41 := Fr.app N24 M41
        subst hv41
        show Go p e below _ (T41.setTop (mkF m 112 #[.val (.int p0), .val (.int p1), .val (.int p2), .val (.ref b1), .val (.ref r11), .val (.int (1 : Int32)), .val (.int (p0 &&& (3 : Int32))), .val (.int z23), .val (.int (0 : Int32)), .val (.ref w_EXECUTE), .unset, .unset] [(.ref r41)]))
        refine Go.st (fun _ => XS.astore X41.here hx rfl (hb hby at_112) rfl rfl (l' := #[.val (.int p0), .val (.int p1), .val (.int p2), .val (.ref b1), .val (.ref r11), .val (.int (1 : Int32)), .val (.int (p0 &&& (3 : Int32))), .val (.int z23), .val (.int (0 : Int32)), .val (.ref w_EXECUTE), .val (.ref r41), .unset]) rfl) ?_
        show Go p e below _ (T41.setTop (mkF m 114 #[.val (.int p0), .val (.int p1), .val (.int p2), .val (.ref b1), .val (.ref r11), .val (.int (1 : Int32)), .val (.int (p0 &&& (3 : Int32))), .val (.int z23), .val (.int (0 : Int32)), .val (.ref w_EXECUTE), .val (.ref r41), .unset] []))
        refine Go.st (fun _ => XS.aloadN X41.here hx rfl (hb hby at_114) rfl rfl) ?_
        show Go p e below _ (T41.setTop (mkF m 115 #[.val (.int p0), .val (.int p1), .val (.int p2), .val (.ref b1), .val (.ref r11), .val (.int (1 : Int32)), .val (.int (p0 &&& (3 : Int32))), .val (.int z23), .val (.int (0 : Int32)), .val (.ref w_EXECUTE), .val (.ref r41), .unset] [(.ref b1)]))
        refine Go.st (fun _ => XS.aload X41.here hx rfl (hb hby at_115) rfl rfl) ?_
        show Go p e below _ (T41.setTop (mkF m 117 #[.val (.int p0), .val (.int p1), .val (.int p2), .val (.ref b1), .val (.ref r11), .val (.int (1 : Int32)), .val (.int (p0 &&& (3 : Int32))), .val (.int z23), .val (.int (0 : Int32)), .val (.ref w_EXECUTE), .val (.ref r41), .unset] [(.ref w_EXECUTE), (.ref b1)]))
        refine goVirtS X41 hx hZ (y := (⟨"com/example/sidelane/sidelane/Cancellation", "claim", "(Lcom/example/sidelane/sidelane/Cancellation$Claimant;)Z"⟩ : MethodName)) (z := (⟨"com/example/sidelane/sidelane/Cancellation", "claim", "(Lcom/example/sidelane/sidelane/Cancellation$Claimant;)Z"⟩ : MethodName)) hown (hw _ (List.mem_of_getElem? (i := 31) rfl)) (hw _ (List.mem_of_getElem? (i := 32) rfl)) (notFace_of_selects (args := #[]) (mvT hZ (hw _ (List.mem_of_getElem? (i := 34) rfl)))) (hw _ (List.mem_of_getElem? (i := 34) rfl)) (hw _ (List.mem_of_getElem? (i := 33) rfl)) (hw _ (List.mem_of_getElem? (i := 2) rfl)) (hw _ (List.mem_of_getElem? (i := 35) rfl)) (by decide) (a := b1) (argsL := [(.ref w_EXECUTE)]) (rest := []) e41 Ebc0 (cm00 l Z a0 hw b1 w_EXECUTE en oc eb hC n0 f0_C Ubc0 gn1 Ebc0 Fb0_c0 Fb1_c0 Fb2_c0 Fb3_c0 Fb4_c0 Fb5_c0 Fb6_c0) 0 (by decide) (by decide) (by decide) (by decide) (mkF m 117 #[.val (.int p0), .val (.int p1), .val (.int p2), .val (.ref b1), .val (.ref r11), .val (.int (1 : Int32)), .val (.int (p0 &&& (3 : Int32))), .val (.int z23), .val (.int (0 : Int32)), .val (.ref w_EXECUTE), .val (.ref r41), .unset] [(.ref w_EXECUTE), (.ref b1)]) rfl (by rw [hml]; rfl) (lenOf pd_5 rfl) rfl (hb hby at_117) (Nat.le_of_eq rfl) ?_
        intro v42 T42 L42 X42 hQ42
        obtain ⟨rfl, M42, K42, ⟨Eb42, Ub42, Fb0_42, Fb1_42, Fb2_42, Fb3_42, Fb4_42, Fb5_42, Fb6_42⟩⟩ := hQ42
        have N42 := Fr.app N41 M42
        have O43 : Old Z n0 T42.heap := f0_C.keep K42 (allS gn1 all0)
        have E_44 : Exa Z T42.heap b1 "com/example/sidelane/sidelane/Cancellation" := Ebc0.keep K42
        show Go p e below _ (T42.setTop (mkF m 120 #[.val (.int p0), .val (.int p1), .val (.int p2), .val (.ref b1), .val (.ref r11), .val (.int (1 : Int32)), .val (.int (p0 &&& (3 : Int32))), .val (.int z23), .val (.int (0 : Int32)), .val (.ref w_EXECUTE), .val (.ref r41), .unset] [(.int (1 : Int32))]))
        refine Go.st (fun _ => XS.pop X42.here hx rfl (hb hby at_120) rfl rfl) ?_
        show Go p e below _ (T42.setTop (mkF m 121 #[.val (.int p0), .val (.int p1), .val (.int p2), .val (.ref b1), .val (.ref r11), .val (.int (1 : Int32)), .val (.int (p0 &&& (3 : Int32))), .val (.int z23), .val (.int (0 : Int32)), .val (.ref w_EXECUTE), .val (.ref r41), .unset] []))
        refine Go.st (fun _ => XS.iload X42.here hx rfl (hb hby at_121) rfl) ?_
        show Go p e below _ (T42.setTop (mkF m 123 #[.val (.int p0), .val (.int p1), .val (.int p2), .val (.ref b1), .val (.ref r11), .val (.int (1 : Int32)), .val (.int (p0 &&& (3 : Int32))), .val (.int z23), .val (.int (0 : Int32)), .val (.ref w_EXECUTE), .val (.ref r41), .unset] [(.int (0 : Int32))]))
        refine Go.st (fun _ => XS.ifNo X42.here hx rfl (hb hby at_123) rfl ((if0 _ _).trans (teq (by decide : (0 : Int32) = (0 : Int32))).2)) ?_
        show Go p e below _ (T42.setTop (mkF m 126 #[.val (.int p0), .val (.int p1), .val (.int p2), .val (.ref b1), .val (.ref r11), .val (.int (1 : Int32)), .val (.int (p0 &&& (3 : Int32))), .val (.int z23), .val (.int (0 : Int32)), .val (.ref w_EXECUTE), .val (.ref r41), .unset] []))
        refine Go.st (fun _ => XS.aload X42.here hx rfl (hb hby at_126) rfl rfl) ?_
        show Go p e below _ (T42.setTop (mkF m 128 #[.val (.int p0), .val (.int p1), .val (.int p2), .val (.ref b1), .val (.ref r11), .val (.int (1 : Int32)), .val (.int (p0 &&& (3 : Int32))), .val (.int z23), .val (.int (0 : Int32)), .val (.ref w_EXECUTE), .val (.ref r41), .unset] [(.ref w_EXECUTE)]))
        obtain ⟨T45, X45, e45, st45⟩ := getS2 X42 hx hZ hown (host := "") (Or.inl (hw _ (List.mem_of_getElem? (i := 30) rfl))) Via.refl rfl (oldSta O43 S_w_ADOPTER) (g := (mkF m 128 #[.val (.int p0), .val (.int p1), .val (.int p2), .val (.ref b1), .val (.ref r11), .val (.int (1 : Int32)), .val (.int (p0 &&& (3 : Int32))), .val (.int z23), .val (.int (0 : Int32)), .val (.ref w_EXECUTE), .val (.ref r41), .unset] [(.ref w_EXECUTE)])) rfl (hb hby at_128)
        refine Go.st st45 ?_
        show Go p e below _ (T45.setTop (mkF m 131 #[.val (.int p0), .val (.int p1), .val (.int p2), .val (.ref b1), .val (.ref r11), .val (.int (1 : Int32)), .val (.int (p0 &&& (3 : Int32))), .val (.int z23), .val (.int (0 : Int32)), .val (.ref w_EXECUTE), .val (.ref r41), .unset] [(.ref w_ADOPTER), (.ref w_EXECUTE)]))
        refine Go.st (fun _ => fun k => Jvm.RoadKit.acmp (g := (mkF m 131 #[.val (.int p0), .val (.int p1), .val (.int p2), .val (.ref b1), .val (.ref r11), .val (.int (1 : Int32)), .val (.int (p0 &&& (3 : Int32))), .val (.int z23), .val (.int (0 : Int32)), .val (.ref w_EXECUTE), .val (.ref r41), .unset] [(.ref w_ADOPTER), (.ref w_EXECUTE)])) X45 hx rfl rfl rfl (pc0 := 131) (pc' := 138) (same := false) rfl (hb hby at_131) rfl (decide_eq_false fun q => ne_w_EXECUTE_w_ADOPTER (Value.ref.inj q)) (by decide) (by decide) k) ?_
        show Go p e below _ (T45.setTop (mkF m 138 #[.val (.int p0), .val (.int p1), .val (.int p2), .val (.ref b1), .val (.ref r11), .val (.int (1 : Int32)), .val (.int (p0 &&& (3 : Int32))), .val (.int z23), .val (.int (0 : Int32)), .val (.ref w_EXECUTE), .val (.ref r41), .unset] []))
        refine Go.st (fun _ => XS.iconst X45.here hx rfl (hb hby at_138)) ?_
        show Go p e below _ (T45.setTop (mkF m 139 #[.val (.int p0), .val (.int p1), .val (.int p2), .val (.ref b1), .val (.ref r11), .val (.int (1 : Int32)), .val (.int (p0 &&& (3 : Int32))), .val (.int z23), .val (.int (0 : Int32)), .val (.ref w_EXECUTE), .val (.ref r41), .unset] [(.int (0 : Int32))]))
        refine Go.st (fun _ => XS.istore X45.here hx rfl (hb hby at_139) rfl (l' := #[.val (.int p0), .val (.int p1), .val (.int p2), .val (.ref b1), .val (.ref r11), .val (.int (1 : Int32)), .val (.int (p0 &&& (3 : Int32))), .val (.int z23), .val (.int (0 : Int32)), .val (.ref w_EXECUTE), .val (.ref r41), .val (.int (0 : Int32))]) rfl) ?_
        show Go p e below _ (T45.setTop (mkF m 141 #[.val (.int p0), .val (.int p1), .val (.int p2), .val (.ref b1), .val (.ref r11), .val (.int (1 : Int32)), .val (.int (p0 &&& (3 : Int32))), .val (.int z23), .val (.int (0 : Int32)), .val (.ref w_EXECUTE), .val (.ref r41), .val (.int (0 : Int32))] []))
        refine Go.st (fun _ => XS.iload X45.here hx rfl (hb hby at_141) rfl) ?_
        show Go p e below _ (T45.setTop (mkF m 143 #[.val (.int p0), .val (.int p1), .val (.int p2), .val (.ref b1), .val (.ref r11), .val (.int (1 : Int32)), .val (.int (p0 &&& (3 : Int32))), .val (.int z23), .val (.int (0 : Int32)), .val (.ref w_EXECUTE), .val (.ref r41), .val (.int (0 : Int32))] [(.int (1 : Int32))]))
        refine Go.st (fun _ => XS.ifNo X45.here hx rfl (hb hby at_143) rfl ((if0 _ _).trans (feq (by decide : ¬ ((1 : Int32) = (0 : Int32)))).1)) ?_
        show Go p e below _ (T45.setTop (mkF m 146 #[.val (.int p0), .val (.int p1), .val (.int p2), .val (.ref b1), .val (.ref r11), .val (.int (1 : Int32)), .val (.int (p0 &&& (3 : Int32))), .val (.int z23), .val (.int (0 : Int32)), .val (.ref w_EXECUTE), .val (.ref r41), .val (.int (0 : Int32))] []))
        refine Go.st (fun _ => XS.aloadN X45.here hx rfl (hb hby at_146) rfl rfl) ?_
        show Go p e below _ (T45.setTop (mkF m 147 #[.val (.int p0), .val (.int p1), .val (.int p2), .val (.ref b1), .val (.ref r11), .val (.int (1 : Int32)), .val (.int (p0 &&& (3 : Int32))), .val (.int z23), .val (.int (0 : Int32)), .val (.ref w_EXECUTE), .val (.ref r41), .val (.int (0 : Int32))] [(.ref b1)]))
        refine goVirt X45 hx hZ (y := (⟨"com/example/sidelane/sidelane/Cancellation", "isHandedOver", "()Z"⟩ : MethodName)) (z := (⟨"com/example/sidelane/sidelane/Cancellation", "isHandedOver", "()Z"⟩ : MethodName)) hown (hw _ (List.mem_of_getElem? (i := 16) rfl)) (hw _ (List.mem_of_getElem? (i := 17) rfl)) (notFace_of_selects (args := #[]) (mvT hZ (hw _ (List.mem_of_getElem? (i := 19) rfl)))) (hw _ (List.mem_of_getElem? (i := 19) rfl)) (hw _ (List.mem_of_getElem? (i := 18) rfl)) (hw _ (List.mem_of_getElem? (i := 2) rfl)) (hw _ (List.mem_of_getElem? (i := 20) rfl)) (by decide) (a := b1) (argsL := []) (rest := []) e45 Eb42 (ihR l Z a0 hw [] b1 w_EXECUTE w_ADOPTER T42.heap n0 O43 Fb0_42 S_w_ADOPTER) 0 (by decide) (by decide) (by decide) (by decide) (mkF m 147 #[.val (.int p0), .val (.int p1), .val (.int p2), .val (.ref b1), .val (.ref r11), .val (.int (1 : Int32)), .val (.int (p0 &&& (3 : Int32))), .val (.int z23), .val (.int (0 : Int32)), .val (.ref w_EXECUTE), .val (.ref r41), .val (.int (0 : Int32))] [(.ref b1)]) rfl (by rw [hml]; rfl) (lenOf pd_2 rfl) rfl (hb hby at_147) (Nat.le_of_eq rfl) ?_
        intro v46 T46 L46 X46 hQ46
        obtain ⟨hv46, M46, e46⟩ := hQ46
        have N46 := Fr.app N42 M46
        obtain rfl : v46 = some (.int 0) := hv46.trans (by simp [ne_w_EXECUTE_w_ADOPTER])
        show Go p e below _ (T46.setTop (mkF m 150 #[.val (.int p0), .val (.int p1), .val (.int p2), .val (.ref b1), .val (.ref r11), .val (.int (1 : Int32)), .val (.int (p0 &&& (3 : Int32))), .val (.int z23), .val (.int (0 : Int32)), .val (.ref w_EXECUTE), .val (.ref r41), .val (.int (0 : Int32))] [(.int (0 : Int32))]))
        refine Go.st (fun _ => XS.iload X46.here hx rfl (hb hby at_150) rfl) ?_
        show Go p e below _ (T46.setTop (mkF m 152 #[.val (.int p0), .val (.int p1), .val (.int p2), .val (.ref b1), .val (.ref r11), .val (.int (1 : Int32)), .val (.int (p0 &&& (3 : Int32))), .val (.int z23), .val (.int (0 : Int32)), .val (.ref w_EXECUTE), .val (.ref r41), .val (.int (0 : Int32))] [(.int (0 : Int32)), (.int (0 : Int32))]))
        refine Go.st (fun _ => XS.icmpNo X46.here hx rfl (hb hby at_152) rfl (teq (by decide : (0 : Int32) = (0 : Int32))).2) ?_
        show Go p e below _ (T46.setTop (mkF m 155 #[.val (.int p0), .val (.int p1), .val (.int p2), .val (.ref b1), .val (.ref r11), .val (.int (1 : Int32)), .val (.int (p0 &&& (3 : Int32))), .val (.int z23), .val (.int (0 : Int32)), .val (.ref w_EXECUTE), .val (.ref r41), .val (.int (0 : Int32))] []))
        refine Go.st (fun _ => XS.iconst X46.here hx rfl (hb hby at_155)) ?_
        show Go p e below _ (T46.setTop (mkF m 156 #[.val (.int p0), .val (.int p1), .val (.int p2), .val (.ref b1), .val (.ref r11), .val (.int (1 : Int32)), .val (.int (p0 &&& (3 : Int32))), .val (.int z23), .val (.int (0 : Int32)), .val (.ref w_EXECUTE), .val (.ref r41), .val (.int (0 : Int32))] [(.int (1 : Int32))]))
        refine Go.st (fun _ => XS.goto X46.here hx rfl (pc0 := 156) (pc' := 160) rfl (hb hby at_156) (by decide) (by decide)) ?_
        show Go p e below _ (T46.setTop (mkF m 160 #[.val (.int p0), .val (.int p1), .val (.int p2), .val (.ref b1), .val (.ref r11), .val (.int (1 : Int32)), .val (.int (p0 &&& (3 : Int32))), .val (.int z23), .val (.int (0 : Int32)), .val (.ref w_EXECUTE), .val (.ref r41), .val (.int (0 : Int32))] [(.int (1 : Int32))]))
        refine Go.st (fun _ => XS.istore X46.here hx rfl (hb hby at_160) rfl (l' := #[.val (.int p0), .val (.int p1), .val (.int p2), .val (.ref b1), .val (.ref r11), .val (.int (1 : Int32)), .val (.int (p0 &&& (3 : Int32))), .val (.int z23), .val (.int (0 : Int32)), .val (.ref w_EXECUTE), .val (.ref r41), .val (.int (0 : Int32))]) rfl) ?_
        show Go p e below _ (T46.setTop (mkF m 162 #[.val (.int p0), .val (.int p1), .val (.int p2), .val (.ref b1), .val (.ref r11), .val (.int (1 : Int32)), .val (.int (p0 &&& (3 : Int32))), .val (.int z23), .val (.int (0 : Int32)), .val (.ref w_EXECUTE), .val (.ref r41), .val (.int (0 : Int32))] []))
        refine Go.st (fun _ => XS.aloadN X46.here hx rfl (hb hby at_162) rfl rfl) ?_
        show Go p e below _ (T46.setTop (mkF m 163 #[.val (.int p0), .val (.int p1), .val (.int p2), .val (.ref b1), .val (.ref r11), .val (.int (1 : Int32)), .val (.int (p0 &&& (3 : Int32))), .val (.int z23), .val (.int (0 : Int32)), .val (.ref w_EXECUTE), .val (.ref r41), .val (.int (0 : Int32))] [(.ref b1)]))
        refine Go.st (fun _ => XS.aload X46.here hx rfl (hb hby at_163) rfl rfl) ?_
        show Go p e below _ (T46.setTop (mkF m 165 #[.val (.int p0), .val (.int p1), .val (.int p2), .val (.ref b1), .val (.ref r11), .val (.int (1 : Int32)), .val (.int (p0 &&& (3 : Int32))), .val (.int z23), .val (.int (0 : Int32)), .val (.ref w_EXECUTE), .val (.ref r41), .val (.int (0 : Int32))] [(.ref r41), (.ref b1)]))
        refine goVirtS X46 hx hZ (y := (⟨"com/example/sidelane/sidelane/Cancellation", "claim", "(Lcom/example/sidelane/sidelane/Cancellation$Claimant;)Z"⟩ : MethodName)) (z := (⟨"com/example/sidelane/sidelane/Cancellation", "claim", "(Lcom/example/sidelane/sidelane/Cancellation$Claimant;)Z"⟩ : MethodName)) hown (hw _ (List.mem_of_getElem? (i := 31) rfl)) (hw _ (List.mem_of_getElem? (i := 32) rfl)) (notFace_of_selects (args := #[]) (mvT hZ (hw _ (List.mem_of_getElem? (i := 34) rfl)))) (hw _ (List.mem_of_getElem? (i := 34) rfl)) (hw _ (List.mem_of_getElem? (i := 33) rfl)) (hw _ (List.mem_of_getElem? (i := 2) rfl)) (hw _ (List.mem_of_getElem? (i := 35) rfl)) (by decide) (a := b1) (argsL := [(.ref r41)]) (rest := []) e46 Eb42 (cmR0 l Z a0 hw b1 r41 w_EXECUTE en oc eb T42.heap n0 O43 Ub42 gn1 Eb42 Fb0_42 Fb1_42 Fb2_42 Fb3_42 Fb4_42 Fb5_42 Fb6_42) 0 (by decide) (by decide) (by decide) (by decide) (mkF m 165 #[.val (.int p0), .val (.int p1), .val (.int p2), .val (.ref b1), .val (.ref r11), .val (.int (1 : Int32)), .val (.int (p0 &&& (3 : Int32))), .val (.int z23), .val (.int (0 : Int32)), .val (.ref w_EXECUTE), .val (.ref r41), .val (.int (0 : Int32))] [(.ref r41), (.ref b1)]) rfl (by rw [hml]; rfl) (lenOf pd_5 rfl) rfl (hb hby at_165) (Nat.le_of_eq rfl) ?_
        intro v47 T47 L47 X47 hQ47
        obtain ⟨rfl, M47, K47, ⟨Eb47, Ub47, Fb0_47, Fb1_47, Fb2_47, Fb3_47, Fb4_47, Fb5_47, Fb6_47⟩⟩ := hQ47
        have N47 := Fr.app N46 M47
        have O48 : Old Z n0 T47.heap := O43.keep K47 (allS gn1 all0)
        have E_49 : Exa Z T47.heap b1 "com/example/sidelane/sidelane/Cancellation" := Eb42.keep K47
        show Go p e below _ (T47.setTop (mkF m 168 #[.val (.int p0), .val (.int p1), .val (.int p2), .val (.ref b1), .val (.ref r11), .val (.int (1 : Int32)), .val (.int (p0 &&& (3 : Int32))), .val (.int z23), .val (.int (0 : Int32)), .val (.ref w_EXECUTE), .val (.ref r41), .val (.int (0 : Int32))] [(.int (0 : Int32))]))
        refine Go.st (fun _ => XS.pop X47.here hx rfl (hb hby at_168) rfl rfl) ?_
        show Go p e below _ (T47.setTop (mkF m 169 #[.val (.int p0), .val (.int p1), .val (.int p2), .val (.ref b1), .val (.ref r11), .val (.int (1 : Int32)), .val (.int (p0 &&& (3 : Int32))), .val (.int z23), .val (.int (0 : Int32)), .val (.ref w_EXECUTE), .val (.ref r41), .val (.int (0 : Int32))] []))
        refine Go.st (fun _ => XS.iload X47.here hx rfl (hb hby at_169) rfl) ?_
        show Go p e below _ (T47.setTop (mkF m 171 #[.val (.int p0), .val (.int p1), .val (.int p2), .val (.ref b1), .val (.ref r11), .val (.int (1 : Int32)), .val (.int (p0 &&& (3 : Int32))), .val (.int z23), .val (.int (0 : Int32)), .val (.ref w_EXECUTE), .val (.ref r41), .val (.int (0 : Int32))] [(.int (1 : Int32))]))
        refine Go.st (fun _ => XS.ifNo X47.here hx rfl (hb hby at_171) rfl ((if0 _ _).trans (feq (by decide : ¬ ((1 : Int32) = (0 : Int32)))).1)) ?_
        show Go p e below _ (T47.setTop (mkF m 174 #[.val (.int p0), .val (.int p1), .val (.int p2), .val (.ref b1), .val (.ref r11), .val (.int (1 : Int32)), .val (.int (p0 &&& (3 : Int32))), .val (.int z23), .val (.int (0 : Int32)), .val (.ref w_EXECUTE), .val (.ref r41), .val (.int (0 : Int32))] []))
        refine Go.st (fun _ => XS.aloadN X47.here hx rfl (hb hby at_174) rfl rfl) ?_
        show Go p e below _ (T47.setTop (mkF m 175 #[.val (.int p0), .val (.int p1), .val (.int p2), .val (.ref b1), .val (.ref r11), .val (.int (1 : Int32)), .val (.int (p0 &&& (3 : Int32))), .val (.int z23), .val (.int (0 : Int32)), .val (.ref w_EXECUTE), .val (.ref r41), .val (.int (0 : Int32))] [(.ref b1)]))
        refine goVirt X47 hx hZ (y := (⟨"com/example/sidelane/sidelane/Cancellation", "isHandedOver", "()Z"⟩ : MethodName)) (z := (⟨"com/example/sidelane/sidelane/Cancellation", "isHandedOver", "()Z"⟩ : MethodName)) hown (hw _ (List.mem_of_getElem? (i := 16) rfl)) (hw _ (List.mem_of_getElem? (i := 17) rfl)) (notFace_of_selects (args := #[]) (mvT hZ (hw _ (List.mem_of_getElem? (i := 19) rfl)))) (hw _ (List.mem_of_getElem? (i := 19) rfl)) (hw _ (List.mem_of_getElem? (i := 18) rfl)) (hw _ (List.mem_of_getElem? (i := 2) rfl)) (hw _ (List.mem_of_getElem? (i := 20) rfl)) (by decide) (a := b1) (argsL := []) (rest := []) rfl Eb47 (ihR l Z a0 hw [] b1 w_EXECUTE w_ADOPTER T47.heap n0 O48 Fb0_47 S_w_ADOPTER) 0 (by decide) (by decide) (by decide) (by decide) (mkF m 175 #[.val (.int p0), .val (.int p1), .val (.int p2), .val (.ref b1), .val (.ref r11), .val (.int (1 : Int32)), .val (.int (p0 &&& (3 : Int32))), .val (.int z23), .val (.int (0 : Int32)), .val (.ref w_EXECUTE), .val (.ref r41), .val (.int (0 : Int32))] [(.ref b1)]) rfl (by rw [hml]; rfl) (lenOf pd_2 rfl) rfl (hb hby at_175) (Nat.le_of_eq rfl) ?_
        intro v50 T50 L50 X50 hQ50
        obtain ⟨hv50, M50, e50⟩ := hQ50
        have N50 := Fr.app N47 M50
        obtain rfl : v50 = some (.int 0) := hv50.trans (by simp [ne_w_EXECUTE_w_ADOPTER])
        show Go p e below _ (T50.setTop (mkF m 178 #[.val (.int p0), .val (.int p1), .val (.int p2), .val (.ref b1), .val (.ref r11), .val (.int (1 : Int32)), .val (.int (p0 &&& (3 : Int32))), .val (.int z23), .val (.int (0 : Int32)), .val (.ref w_EXECUTE), .val (.ref r41), .val (.int (0 : Int32))] [(.int (0 : Int32))]))
        refine Go.st (fun _ => XS.iload X50.here hx rfl (hb hby at_178) rfl) ?_
        show Go p e below _ (T50.setTop (mkF m 180 #[.val (.int p0), .val (.int p1), .val (.int p2), .val (.ref b1), .val (.ref r11), .val (.int (1 : Int32)), .val (.int (p0 &&& (3 : Int32))), .val (.int z23), .val (.int (0 : Int32)), .val (.ref w_EXECUTE), .val (.ref r41), .val (.int (0 : Int32))] [(.int (0 : Int32)), (.int (0 : Int32))]))
        refine Go.st (fun _ => XS.icmpNo X50.here hx rfl (hb hby at_180) rfl (teq (by decide : (0 : Int32) = (0 : Int32))).2) ?_
        show Go p e below _ (T50.setTop (mkF m 183 #[.val (.int p0), .val (.int p1), .val (.int p2), .val (.ref b1), .val (.ref r11), .val (.int (1 : Int32)), .val (.int (p0 &&& (3 : Int32))), .val (.int z23), .val (.int (0 : Int32)), .val (.ref w_EXECUTE), .val (.ref r41), .val (.int (0 : Int32))] []))
        refine Go.st (fun _ => XS.iconst X50.here hx rfl (hb hby at_183)) ?_
        show Go p e below _ (T50.setTop (mkF m 184 #[.val (.int p0), .val (.int p1), .val (.int p2), .val (.ref b1), .val (.ref r11), .val (.int (1 : Int32)), .val (.int (p0 &&& (3 : Int32))), .val (.int z23), .val (.int (0 : Int32)), .val (.ref w_EXECUTE), .val (.ref r41), .val (.int (0 : Int32))] [(.int (1 : Int32))]))
        refine Go.st (fun _ => XS.goto X50.here hx rfl (pc0 := 184) (pc' := 188) rfl (hb hby at_184) (by decide) (by decide)) ?_
        show Go p e below _ (T50.setTop (mkF m 188 #[.val (.int p0), .val (.int p1), .val (.int p2), .val (.ref b1), .val (.ref r11), .val (.int (1 : Int32)), .val (.int (p0 &&& (3 : Int32))), .val (.int z23), .val (.int (0 : Int32)), .val (.ref w_EXECUTE), .val (.ref r41), .val (.int (0 : Int32))] [(.int (1 : Int32))]))
        refine Go.st (fun _ => XS.istore X50.here hx rfl (hb hby at_188) rfl (l' := #[.val (.int p0), .val (.int p1), .val (.int p2), .val (.ref b1), .val (.ref r11), .val (.int (1 : Int32)), .val (.int (p0 &&& (3 : Int32))), .val (.int z23), .val (.int (0 : Int32)), .val (.ref w_EXECUTE), .val (.ref r41), .val (.int (0 : Int32))]) rfl) ?_
        show Go p e below _ (T50.setTop (mkF m 190 #[.val (.int p0), .val (.int p1), .val (.int p2), .val (.ref b1), .val (.ref r11), .val (.int (1 : Int32)), .val (.int (p0 &&& (3 : Int32))), .val (.int z23), .val (.int (0 : Int32)), .val (.ref w_EXECUTE), .val (.ref r41), .val (.int (0 : Int32))] []))
        refine Go.st (fun _ => XS.iloadN X50.here hx rfl (hb hby at_190) rfl) ?_
        show Go p e below _ (T50.setTop (mkF m 191 #[.val (.int p0), .val (.int p1), .val (.int p2), .val (.ref b1), .val (.ref r11), .val (.int (1 : Int32)), .val (.int (p0 &&& (3 : Int32))), .val (.int z23), .val (.int (0 : Int32)), .val (.ref w_EXECUTE), .val (.ref r41), .val (.int (0 : Int32))] [(.int p2)]))
        refine Go.st (fun _ => XS.iconst X50.here hx rfl (hb hby at_191)) ?_
        show Go p e below _ (T50.setTop (mkF m 192 #[.val (.int p0), .val (.int p1), .val (.int p2), .val (.ref b1), .val (.ref r11), .val (.int (1 : Int32)), .val (.int (p0 &&& (3 : Int32))), .val (.int z23), .val (.int (0 : Int32)), .val (.ref w_EXECUTE), .val (.ref r41), .val (.int (0 : Int32))] [(.int (1 : Int32)), (.int p2)]))
        refine Go.st (fun _ => XS.iand X50.here hx rfl (hb hby at_192) rfl) ?_
        show Go p e below _ (T50.setTop (mkF m 193 #[.val (.int p0), .val (.int p1), .val (.int p2), .val (.ref b1), .val (.ref r11), .val (.int (1 : Int32)), .val (.int (p0 &&& (3 : Int32))), .val (.int z23), .val (.int (0 : Int32)), .val (.ref w_EXECUTE), .val (.ref r41), .val (.int (0 : Int32))] [(.int (p2 &&& (1 : Int32)))]))
        by_cases hc51 : (p2 &&& (1 : Int32)) = (0 : Int32)
        · refine Go.st (fun _ => XS.ifYes X50.here hx rfl (pc0 := 193) (pc' := 204) rfl (hb hby at_193) rfl ((if0 _ _).trans (teq hc51).1) (by decide) (by decide)) ?_
          show Go p e below _ (T50.setTop (mkF m 204 #[.val (.int p0), .val (.int p1), .val (.int p2), .val (.ref b1), .val (.ref r11), .val (.int (1 : Int32)), .val (.int (p0 &&& (3 : Int32))), .val (.int z23), .val (.int (0 : Int32)), .val (.ref w_EXECUTE), .val (.ref r41), .val (.int (0 : Int32))] []))
          refine Go.st (fun _ => XS.iload X50.here hx rfl (hb hby at_204) rfl) ?_
          show Go p e below _ (T50.setTop (mkF m 206 #[.val (.int p0), .val (.int p1), .val (.int p2), .val (.ref b1), .val (.ref r11), .val (.int (1 : Int32)), .val (.int (p0 &&& (3 : Int32))), .val (.int z23), .val (.int (0 : Int32)), .val (.ref w_EXECUTE), .val (.ref r41), .val (.int (0 : Int32))] [(.int (1 : Int32))]))
          refine Go.st (fun _ => XS.ifNo X50.here hx rfl (hb hby at_206) rfl ((if0 _ _).trans (feq (by decide : ¬ ((1 : Int32) = (0 : Int32)))).1)) ?_
          show Go p e below _ (T50.setTop (mkF m 209 #[.val (.int p0), .val (.int p1), .val (.int p2), .val (.ref b1), .val (.ref r11), .val (.int (1 : Int32)), .val (.int (p0 &&& (3 : Int32))), .val (.int z23), .val (.int (0 : Int32)), .val (.ref w_EXECUTE), .val (.ref r41), .val (.int (0 : Int32))] []))
          refine Go.st (fun _ => XS.aloadN X50.here hx rfl (hb hby at_209) rfl rfl) ?_
          show Go p e below _ (T50.setTop (mkF m 210 #[.val (.int p0), .val (.int p1), .val (.int p2), .val (.ref b1), .val (.ref r11), .val (.int (1 : Int32)), .val (.int (p0 &&& (3 : Int32))), .val (.int z23), .val (.int (0 : Int32)), .val (.ref w_EXECUTE), .val (.ref r41), .val (.int (0 : Int32))] [(.ref b1)]))
          refine goVirt X50 hx hZ (y := (⟨"com/example/sidelane/sidelane/Cancellation", "isHandedOver", "()Z"⟩ : MethodName)) (z := (⟨"com/example/sidelane/sidelane/Cancellation", "isHandedOver", "()Z"⟩ : MethodName)) hown (hw _ (List.mem_of_getElem? (i := 16) rfl)) (hw _ (List.mem_of_getElem? (i := 17) rfl)) (notFace_of_selects (args := #[]) (mvT hZ (hw _ (List.mem_of_getElem? (i := 19) rfl)))) (hw _ (List.mem_of_getElem? (i := 19) rfl)) (hw _ (List.mem_of_getElem? (i := 18) rfl)) (hw _ (List.mem_of_getElem? (i := 2) rfl)) (hw _ (List.mem_of_getElem? (i := 20) rfl)) (by decide) (a := b1) (argsL := []) (rest := []) e50 Eb47 (ihR l Z a0 hw [] b1 w_EXECUTE w_ADOPTER T47.heap n0 O48 Fb0_47 S_w_ADOPTER) 0 (by decide) (by decide) (by decide) (by decide) (mkF m 210 #[.val (.int p0), .val (.int p1), .val (.int p2), .val (.ref b1), .val (.ref r11), .val (.int (1 : Int32)), .val (.int (p0 &&& (3 : Int32))), .val (.int z23), .val (.int (0 : Int32)), .val (.ref w_EXECUTE), .val (.ref r41), .val (.int (0 : Int32))] [(.ref b1)]) rfl (by rw [hml]; rfl) (lenOf pd_2 rfl) rfl (hb hby at_210) (Nat.le_of_eq rfl) ?_
          intro v52 T52 L52 X52 hQ52
          obtain ⟨hv52, M52, e52⟩ := hQ52
          have N52 := Fr.app N50 M52
          obtain rfl : v52 = some (.int 0) := hv52.trans (by simp [ne_w_EXECUTE_w_ADOPTER])
          show Go p e below _ (T52.setTop (mkF m 213 #[.val (.int p0), .val (.int p1), .val (.int p2), .val (.ref b1), .val (.ref r11), .val (.int (1 : Int32)), .val (.int (p0 &&& (3 : Int32))), .val (.int z23), .val (.int (0 : Int32)), .val (.ref w_EXECUTE), .val (.ref r41), .val (.int (0 : Int32))] [(.int (0 : Int32))]))
          refine Go.st (fun _ => XS.iload X52.here hx rfl (hb hby at_213) rfl) ?_
          show Go p e below _ (T52.setTop (mkF m 215 #[.val (.int p0), .val (.int p1), .val (.int p2), .val (.ref b1), .val (.ref r11), .val (.int (1 : Int32)), .val (.int (p0 &&& (3 : Int32))), .val (.int z23), .val (.int (0 : Int32)), .val (.ref w_EXECUTE), .val (.ref r41), .val (.int (0 : Int32))] [(.int (0 : Int32)), (.int (0 : Int32))]))
          refine Go.st (fun _ => XS.icmpNo X52.here hx rfl (hb hby at_215) rfl (teq (by decide : (0 : Int32) = (0 : Int32))).2) ?_
          show Go p e below _ (T52.setTop (mkF m 218 #[.val (.int p0), .val (.int p1), .val (.int p2), .val (.ref b1), .val (.ref r11), .val (.int (1 : Int32)), .val (.int (p0 &&& (3 : Int32))), .val (.int z23), .val (.int (0 : Int32)), .val (.ref w_EXECUTE), .val (.ref r41), .val (.int (0 : Int32))] []))
          refine Go.st (fun _ => XS.iconst X52.here hx rfl (hb hby at_218)) ?_
          show Go p e below _ (T52.setTop (mkF m 219 #[.val (.int p0), .val (.int p1), .val (.int p2), .val (.ref b1), .val (.ref r11), .val (.int (1 : Int32)), .val (.int (p0 &&& (3 : Int32))), .val (.int z23), .val (.int (0 : Int32)), .val (.ref w_EXECUTE), .val (.ref r41), .val (.int (0 : Int32))] [(.int (1 : Int32))]))
          refine Go.st (fun _ => XS.goto X52.here hx rfl (pc0 := 219) (pc' := 223) rfl (hb hby at_219) (by decide) (by decide)) ?_
          show Go p e below _ (T52.setTop (mkF m 223 #[.val (.int p0), .val (.int p1), .val (.int p2), .val (.ref b1), .val (.ref r11), .val (.int (1 : Int32)), .val (.int (p0 &&& (3 : Int32))), .val (.int z23), .val (.int (0 : Int32)), .val (.ref w_EXECUTE), .val (.ref r41), .val (.int (0 : Int32))] [(.int (1 : Int32))]))
          refine Go.st (fun _ => XS.istore X52.here hx rfl (hb hby at_223) rfl (l' := #[.val (.int p0), .val (.int p1), .val (.int p2), .val (.ref b1), .val (.ref r11), .val (.int (1 : Int32)), .val (.int (p0 &&& (3 : Int32))), .val (.int z23), .val (.int (0 : Int32)), .val (.ref w_EXECUTE), .val (.ref r41), .val (.int (0 : Int32))]) rfl) ?_
          show Go p e below _ (T52.setTop (mkF m 225 #[.val (.int p0), .val (.int p1), .val (.int p2), .val (.ref b1), .val (.ref r11), .val (.int (1 : Int32)), .val (.int (p0 &&& (3 : Int32))), .val (.int z23), .val (.int (0 : Int32)), .val (.ref w_EXECUTE), .val (.ref r41), .val (.int (0 : Int32))] []))
          refine Go.st (fun _ => XS.iload X52.here hx rfl (hb hby at_225) rfl) ?_
          show Go p e below _ (T52.setTop (mkF m 227 #[.val (.int p0), .val (.int p1), .val (.int p2), .val (.ref b1), .val (.ref r11), .val (.int (1 : Int32)), .val (.int (p0 &&& (3 : Int32))), .val (.int z23), .val (.int (0 : Int32)), .val (.ref w_EXECUTE), .val (.ref r41), .val (.int (0 : Int32))] [(.int (1 : Int32))]))
          exact goRetN X52 hx hlk hret (t := .boolean) (by simp) (w := (1 : Int32)) (by decide) e52 (hb hby at_227) (by decide) (by decide) ⟨rfl, N52⟩
        · refine Go.st (fun _ => XS.ifNo X50.here hx rfl (hb hby at_193) rfl ((if0 _ _).trans (feq hc51).1)) ?_
          show Go p e below _ (T50.setTop (mkF m 196 #[.val (.int p0), .val (.int p1), .val (.int p2), .val (.ref b1), .val (.ref r11), .val (.int (1 : Int32)), .val (.int (p0 &&& (3 : Int32))), .val (.int z23), .val (.int (0 : Int32)), .val (.ref w_EXECUTE), .val (.ref r41), .val (.int (0 : Int32))] []))
          refine Go.st (fun _ => XS.aloadN X50.here hx rfl (hb hby at_196) rfl rfl) ?_
          show Go p e below _ (T50.setTop (mkF m 197 #[.val (.int p0), .val (.int p1), .val (.int p2), .val (.ref b1), .val (.ref r11), .val (.int (1 : Int32)), .val (.int (p0 &&& (3 : Int32))), .val (.int z23), .val (.int (0 : Int32)), .val (.ref w_EXECUTE), .val (.ref r41), .val (.int (0 : Int32))] [(.ref b1)]))
          refine Go.st (fun _ => XS.iconst X50.here hx rfl (hb hby at_197)) ?_
          show Go p e below _ (T50.setTop (mkF m 198 #[.val (.int p0), .val (.int p1), .val (.int p2), .val (.ref b1), .val (.ref r11), .val (.int (1 : Int32)), .val (.int (p0 &&& (3 : Int32))), .val (.int z23), .val (.int (0 : Int32)), .val (.ref w_EXECUTE), .val (.ref r41), .val (.int (0 : Int32))] [(.int (0 : Int32)), (.ref b1)]))
          refine Go.st (fun _ => XS.aload X50.here hx rfl (hb hby at_198) rfl rfl) ?_
          show Go p e below _ (T50.setTop (mkF m 200 #[.val (.int p0), .val (.int p1), .val (.int p2), .val (.ref b1), .val (.ref r11), .val (.int (1 : Int32)), .val (.int (p0 &&& (3 : Int32))), .val (.int z23), .val (.int (0 : Int32)), .val (.ref w_EXECUTE), .val (.ref r41), .val (.int (0 : Int32))] [(.ref r11), (.int (0 : Int32)), (.ref b1)]))
          rcases heb with rfl | rfl
          · show Go p e below _ (T50.setTop (mkF m 200 #[.val (.int p0), .val (.int p1), .val (.int p2), .val (.ref b1), .val (.ref r11), .val (.int (1 : Int32)), .val (.int (p0 &&& (3 : Int32))), .val (.int z23), .val (.int (0 : Int32)), .val (.ref w_EXECUTE), .val (.ref r41), .val (.int (0 : Int32))] [(.ref r11), (.int (0 : Int32)), (.ref b1)]))
            refine goVirtS X50 hx hZ (y := (⟨"com/example/sidelane/sidelane/Cancellation", "cancel", "(ZLjava/lang/Object;)Lcom/example/sidelane/sidelane/Cancellation$Outcome;"⟩ : MethodName)) (z := (⟨"com/example/sidelane/sidelane/Cancellation", "cancel", "(ZLjava/lang/Object;)Lcom/example/sidelane/sidelane/Cancellation$Outcome;"⟩ : MethodName)) hown (hw _ (List.mem_of_getElem? (i := 43) rfl)) (hw _ (List.mem_of_getElem? (i := 44) rfl)) (notFace_of_selects (args := #[]) (mvT hZ (hw _ (List.mem_of_getElem? (i := 46) rfl)))) (hw _ (List.mem_of_getElem? (i := 46) rfl)) (hw _ (List.mem_of_getElem? (i := 45) rfl)) (hw _ (List.mem_of_getElem? (i := 2) rfl)) (hw _ (List.mem_of_getElem? (i := 47) rfl)) (by decide) (a := b1) (argsL := [(.int (0 : Int32)), (.ref r11)]) (rest := []) e50 Eb47 (caG l Z a0 hw b1 (0 : Int32) r11 en oc w_EXECUTE w_ADOPTER w_CANCELLED w_REFUSED w_HANDED_OVER w_CANCELLED_UNEXECUTED w_ENDING_NEEDED  T47.heap n0 O48 Ub47 gn1 Eb47 Fb0_47 Fb1_47 Fb2_47 Fb3_47 Fb4_47 Fb5_47 Fb6_47 S_w_EXECUTE S_w_ADOPTER S_w_CANCELLED S_w_REFUSED S_w_HANDED_OVER S_w_CANCELLED_UNEXECUTED S_w_ENDING_NEEDED ne_w_EXECUTE_w_ADOPTER) 0 (by decide) (by decide) (by decide) (by decide) (mkF m 200 #[.val (.int p0), .val (.int p1), .val (.int p2), .val (.ref b1), .val (.ref r11), .val (.int (1 : Int32)), .val (.int (p0 &&& (3 : Int32))), .val (.int z23), .val (.int (0 : Int32)), .val (.ref w_EXECUTE), .val (.ref r41), .val (.int (0 : Int32))] [(.ref r11), (.int (0 : Int32)), (.ref b1)]) rfl (by rw [hml]; rfl) (lenOf pd_6 rfl) rfl (hb hby at_200) (Nat.le_of_eq rfl) ?_
            intro v53 T53 L53 X53 hQ53
            obtain ⟨⟨r53, rfl⟩, M53, K53, ⟨Eb53, Ub53, Fb0_53, Fb1_53, Fb2_53, Fb3_53, Fb4_53, Fb5_53, Fb6_53⟩⟩ := hQ53
            have N53 := Fr.app N50 M53
            have O54 : Old Z n0 T53.heap := O48.keep K53 (allS gn1 all0)
            have E_55 : Exa Z T53.heap b1 "com/example/sidelane/sidelane/Cancellation" := Eb47.keep K53
            show Go p e below _ (T53.setTop (mkF m 203 #[.val (.int p0), .val (.int p1), .val (.int p2), .val (.ref b1), .val (.ref r11), .val (.int (1 : Int32)), .val (.int (p0 &&& (3 : Int32))), .val (.int z23), .val (.int (0 : Int32)), .val (.ref w_EXECUTE), .val (.ref r41), .val (.int (0 : Int32))] [(.ref r53)]))
            refine Go.st (fun _ => XS.pop X53.here hx rfl (hb hby at_203) rfl rfl) ?_
            show Go p e below _ (T53.setTop (mkF m 204 #[.val (.int p0), .val (.int p1), .val (.int p2), .val (.ref b1), .val (.ref r11), .val (.int (1 : Int32)), .val (.int (p0 &&& (3 : Int32))), .val (.int z23), .val (.int (0 : Int32)), .val (.ref w_EXECUTE), .val (.ref r41), .val (.int (0 : Int32))] []))
            refine Go.st (fun _ => XS.iload X53.here hx rfl (hb hby at_204) rfl) ?_
            show Go p e below _ (T53.setTop (mkF m 206 #[.val (.int p0), .val (.int p1), .val (.int p2), .val (.ref b1), .val (.ref r11), .val (.int (1 : Int32)), .val (.int (p0 &&& (3 : Int32))), .val (.int z23), .val (.int (0 : Int32)), .val (.ref w_EXECUTE), .val (.ref r41), .val (.int (0 : Int32))] [(.int (1 : Int32))]))
            refine Go.st (fun _ => XS.ifNo X53.here hx rfl (hb hby at_206) rfl ((if0 _ _).trans (feq (by decide : ¬ ((1 : Int32) = (0 : Int32)))).1)) ?_
            show Go p e below _ (T53.setTop (mkF m 209 #[.val (.int p0), .val (.int p1), .val (.int p2), .val (.ref b1), .val (.ref r11), .val (.int (1 : Int32)), .val (.int (p0 &&& (3 : Int32))), .val (.int z23), .val (.int (0 : Int32)), .val (.ref w_EXECUTE), .val (.ref r41), .val (.int (0 : Int32))] []))
            refine Go.st (fun _ => XS.aloadN X53.here hx rfl (hb hby at_209) rfl rfl) ?_
            show Go p e below _ (T53.setTop (mkF m 210 #[.val (.int p0), .val (.int p1), .val (.int p2), .val (.ref b1), .val (.ref r11), .val (.int (1 : Int32)), .val (.int (p0 &&& (3 : Int32))), .val (.int z23), .val (.int (0 : Int32)), .val (.ref w_EXECUTE), .val (.ref r41), .val (.int (0 : Int32))] [(.ref b1)]))
            refine goVirt X53 hx hZ (y := (⟨"com/example/sidelane/sidelane/Cancellation", "isHandedOver", "()Z"⟩ : MethodName)) (z := (⟨"com/example/sidelane/sidelane/Cancellation", "isHandedOver", "()Z"⟩ : MethodName)) hown (hw _ (List.mem_of_getElem? (i := 16) rfl)) (hw _ (List.mem_of_getElem? (i := 17) rfl)) (notFace_of_selects (args := #[]) (mvT hZ (hw _ (List.mem_of_getElem? (i := 19) rfl)))) (hw _ (List.mem_of_getElem? (i := 19) rfl)) (hw _ (List.mem_of_getElem? (i := 18) rfl)) (hw _ (List.mem_of_getElem? (i := 2) rfl)) (hw _ (List.mem_of_getElem? (i := 20) rfl)) (by decide) (a := b1) (argsL := []) (rest := []) rfl Eb53 (ihR l Z a0 hw [] b1 w_EXECUTE w_ADOPTER T53.heap n0 O54 Fb0_53 S_w_ADOPTER) 0 (by decide) (by decide) (by decide) (by decide) (mkF m 210 #[.val (.int p0), .val (.int p1), .val (.int p2), .val (.ref b1), .val (.ref r11), .val (.int (1 : Int32)), .val (.int (p0 &&& (3 : Int32))), .val (.int z23), .val (.int (0 : Int32)), .val (.ref w_EXECUTE), .val (.ref r41), .val (.int (0 : Int32))] [(.ref b1)]) rfl (by rw [hml]; rfl) (lenOf pd_2 rfl) rfl (hb hby at_210) (Nat.le_of_eq rfl) ?_
            intro v56 T56 L56 X56 hQ56
            obtain ⟨hv56, M56, e56⟩ := hQ56
            have N56 := Fr.app N53 M56
            obtain rfl : v56 = some (.int 0) := hv56.trans (by simp [ne_w_EXECUTE_w_ADOPTER])
            show Go p e below _ (T56.setTop (mkF m 213 #[.val (.int p0), .val (.int p1), .val (.int p2), .val (.ref b1), .val (.ref r11), .val (.int (1 : Int32)), .val (.int (p0 &&& (3 : Int32))), .val (.int z23), .val (.int (0 : Int32)), .val (.ref w_EXECUTE), .val (.ref r41), .val (.int (0 : Int32))] [(.int (0 : Int32))]))
            refine Go.st (fun _ => XS.iload X56.here hx rfl (hb hby at_213) rfl) ?_
            show Go p e below _ (T56.setTop (mkF m 215 #[.val (.int p0), .val (.int p1), .val (.int p2), .val (.ref b1), .val (.ref r11), .val (.int (1 : Int32)), .val (.int (p0 &&& (3 : Int32))), .val (.int z23), .val (.int (0 : Int32)), .val (.ref w_EXECUTE), .val (.ref r41), .val (.int (0 : Int32))] [(.int (0 : Int32)), (.int (0 : Int32))]))
            refine Go.st (fun _ => XS.icmpNo X56.here hx rfl (hb hby at_215) rfl (teq (by decide : (0 : Int32) = (0 : Int32))).2) ?_
            show Go p e below _ (T56.setTop (mkF m 218 #[.val (.int p0), .val (.int p1), .val (.int p2), .val (.ref b1), .val (.ref r11), .val (.int (1 : Int32)), .val (.int (p0 &&& (3 : Int32))), .val (.int z23), .val (.int (0 : Int32)), .val (.ref w_EXECUTE), .val (.ref r41), .val (.int (0 : Int32))] []))
            refine Go.st (fun _ => XS.iconst X56.here hx rfl (hb hby at_218)) ?_
            show Go p e below _ (T56.setTop (mkF m 219 #[.val (.int p0), .val (.int p1), .val (.int p2), .val (.ref b1), .val (.ref r11), .val (.int (1 : Int32)), .val (.int (p0 &&& (3 : Int32))), .val (.int z23), .val (.int (0 : Int32)), .val (.ref w_EXECUTE), .val (.ref r41), .val (.int (0 : Int32))] [(.int (1 : Int32))]))
            refine Go.st (fun _ => XS.goto X56.here hx rfl (pc0 := 219) (pc' := 223) rfl (hb hby at_219) (by decide) (by decide)) ?_
            show Go p e below _ (T56.setTop (mkF m 223 #[.val (.int p0), .val (.int p1), .val (.int p2), .val (.ref b1), .val (.ref r11), .val (.int (1 : Int32)), .val (.int (p0 &&& (3 : Int32))), .val (.int z23), .val (.int (0 : Int32)), .val (.ref w_EXECUTE), .val (.ref r41), .val (.int (0 : Int32))] [(.int (1 : Int32))]))
            refine Go.st (fun _ => XS.istore X56.here hx rfl (hb hby at_223) rfl (l' := #[.val (.int p0), .val (.int p1), .val (.int p2), .val (.ref b1), .val (.ref r11), .val (.int (1 : Int32)), .val (.int (p0 &&& (3 : Int32))), .val (.int z23), .val (.int (0 : Int32)), .val (.ref w_EXECUTE), .val (.ref r41), .val (.int (0 : Int32))]) rfl) ?_
            show Go p e below _ (T56.setTop (mkF m 225 #[.val (.int p0), .val (.int p1), .val (.int p2), .val (.ref b1), .val (.ref r11), .val (.int (1 : Int32)), .val (.int (p0 &&& (3 : Int32))), .val (.int z23), .val (.int (0 : Int32)), .val (.ref w_EXECUTE), .val (.ref r41), .val (.int (0 : Int32))] []))
            refine Go.st (fun _ => XS.iload X56.here hx rfl (hb hby at_225) rfl) ?_
            show Go p e below _ (T56.setTop (mkF m 227 #[.val (.int p0), .val (.int p1), .val (.int p2), .val (.ref b1), .val (.ref r11), .val (.int (1 : Int32)), .val (.int (p0 &&& (3 : Int32))), .val (.int z23), .val (.int (0 : Int32)), .val (.ref w_EXECUTE), .val (.ref r41), .val (.int (0 : Int32))] [(.int (1 : Int32))]))
            exact goRetN X56 hx hlk hret (t := .boolean) (by simp) (w := (1 : Int32)) (by decide) e56 (hb hby at_227) (by decide) (by decide) ⟨rfl, N56⟩
          · show Go p e below _ (T50.setTop (mkF m 200 #[.val (.int p0), .val (.int p1), .val (.int p2), .val (.ref b1), .val (.ref r11), .val (.int (1 : Int32)), .val (.int (p0 &&& (3 : Int32))), .val (.int z23), .val (.int (0 : Int32)), .val (.ref w_EXECUTE), .val (.ref r41), .val (.int (0 : Int32))] [(.ref r11), (.int (0 : Int32)), (.ref b1)]))
            refine goVirtS X50 hx hZ (y := (⟨"com/example/sidelane/sidelane/Cancellation", "cancel", "(ZLjava/lang/Object;)Lcom/example/sidelane/sidelane/Cancellation$Outcome;"⟩ : MethodName)) (z := (⟨"com/example/sidelane/sidelane/Cancellation", "cancel", "(ZLjava/lang/Object;)Lcom/example/sidelane/sidelane/Cancellation$Outcome;"⟩ : MethodName)) hown (hw _ (List.mem_of_getElem? (i := 43) rfl)) (hw _ (List.mem_of_getElem? (i := 44) rfl)) (notFace_of_selects (args := #[]) (mvT hZ (hw _ (List.mem_of_getElem? (i := 46) rfl)))) (hw _ (List.mem_of_getElem? (i := 46) rfl)) (hw _ (List.mem_of_getElem? (i := 45) rfl)) (hw _ (List.mem_of_getElem? (i := 2) rfl)) (hw _ (List.mem_of_getElem? (i := 47) rfl)) (by decide) (a := b1) (argsL := [(.int (0 : Int32)), (.ref r11)]) (rest := []) e50 Eb47 (caH l Z a0 hw b1 (0 : Int32) r11 en oc w_EXECUTE w_ADOPTER w_CANCELLED w_REFUSED w_HANDED_OVER w_CANCELLED_UNEXECUTED w_ENDING_NEEDED  T47.heap n0 O48 Ub47 gn1 Eb47 Fb0_47 Fb1_47 Fb2_47 Fb3_47 Fb4_47 Fb5_47 Fb6_47 S_w_EXECUTE S_w_ADOPTER S_w_CANCELLED S_w_REFUSED S_w_HANDED_OVER S_w_CANCELLED_UNEXECUTED S_w_ENDING_NEEDED ne_w_EXECUTE_w_ADOPTER) 0 (by decide) (by decide) (by decide) (by decide) (mkF m 200 #[.val (.int p0), .val (.int p1), .val (.int p2), .val (.ref b1), .val (.ref r11), .val (.int (1 : Int32)), .val (.int (p0 &&& (3 : Int32))), .val (.int z23), .val (.int (0 : Int32)), .val (.ref w_EXECUTE), .val (.ref r41), .val (.int (0 : Int32))] [(.ref r11), (.int (0 : Int32)), (.ref b1)]) rfl (by rw [hml]; rfl) (lenOf pd_6 rfl) rfl (hb hby at_200) (Nat.le_of_eq rfl) ?_
            intro v57 T57 L57 X57 hQ57
            obtain ⟨⟨r57, rfl⟩, M57, K57, ⟨Eb57, Ub57, Fb0_57, Fb1_57, Fb2_57, Fb3_57, Fb4_57, Fb5_57, Fb6_57⟩⟩ := hQ57
            have N57 := Fr.app N50 M57
            have O58 : Old Z n0 T57.heap := O48.keep K57 (allS gn1 all0)
            have E_59 : Exa Z T57.heap b1 "com/example/sidelane/sidelane/Cancellation" := Eb47.keep K57
            show Go p e below _ (T57.setTop (mkF m 203 #[.val (.int p0), .val (.int p1), .val (.int p2), .val (.ref b1), .val (.ref r11), .val (.int (1 : Int32)), .val (.int (p0 &&& (3 : Int32))), .val (.int z23), .val (.int (0 : Int32)), .val (.ref w_EXECUTE), .val (.ref r41), .val (.int (0 : Int32))] [(.ref r57)]))
            refine Go.st (fun _ => XS.pop X57.here hx rfl (hb hby at_203) rfl rfl) ?_
            show Go p e below _ (T57.setTop (mkF m 204 #[.val (.int p0), .val (.int p1), .val (.int p2), .val (.ref b1), .val (.ref r11), .val (.int (1 : Int32)), .val (.int (p0 &&& (3 : Int32))), .val (.int z23), .val (.int (0 : Int32)), .val (.ref w_EXECUTE), .val (.ref r41), .val (.int (0 : Int32))] []))
            refine Go.st (fun _ => XS.iload X57.here hx rfl (hb hby at_204) rfl) ?_
            show Go p e below _ (T57.setTop (mkF m 206 #[.val (.int p0), .val (.int p1), .val (.int p2), .val (.ref b1), .val (.ref r11), .val (.int (1 : Int32)), .val (.int (p0 &&& (3 : Int32))), .val (.int z23), .val (.int (0 : Int32)), .val (.ref w_EXECUTE), .val (.ref r41), .val (.int (0 : Int32))] [(.int (1 : Int32))]))
            refine Go.st (fun _ => XS.ifNo X57.here hx rfl (hb hby at_206) rfl ((if0 _ _).trans (feq (by decide : ¬ ((1 : Int32) = (0 : Int32)))).1)) ?_
            show Go p e below _ (T57.setTop (mkF m 209 #[.val (.int p0), .val (.int p1), .val (.int p2), .val (.ref b1), .val (.ref r11), .val (.int (1 : Int32)), .val (.int (p0 &&& (3 : Int32))), .val (.int z23), .val (.int (0 : Int32)), .val (.ref w_EXECUTE), .val (.ref r41), .val (.int (0 : Int32))] []))
            refine Go.st (fun _ => XS.aloadN X57.here hx rfl (hb hby at_209) rfl rfl) ?_
            show Go p e below _ (T57.setTop (mkF m 210 #[.val (.int p0), .val (.int p1), .val (.int p2), .val (.ref b1), .val (.ref r11), .val (.int (1 : Int32)), .val (.int (p0 &&& (3 : Int32))), .val (.int z23), .val (.int (0 : Int32)), .val (.ref w_EXECUTE), .val (.ref r41), .val (.int (0 : Int32))] [(.ref b1)]))
            refine goVirt X57 hx hZ (y := (⟨"com/example/sidelane/sidelane/Cancellation", "isHandedOver", "()Z"⟩ : MethodName)) (z := (⟨"com/example/sidelane/sidelane/Cancellation", "isHandedOver", "()Z"⟩ : MethodName)) hown (hw _ (List.mem_of_getElem? (i := 16) rfl)) (hw _ (List.mem_of_getElem? (i := 17) rfl)) (notFace_of_selects (args := #[]) (mvT hZ (hw _ (List.mem_of_getElem? (i := 19) rfl)))) (hw _ (List.mem_of_getElem? (i := 19) rfl)) (hw _ (List.mem_of_getElem? (i := 18) rfl)) (hw _ (List.mem_of_getElem? (i := 2) rfl)) (hw _ (List.mem_of_getElem? (i := 20) rfl)) (by decide) (a := b1) (argsL := []) (rest := []) rfl Eb57 (ihR l Z a0 hw [] b1 w_EXECUTE w_ADOPTER T57.heap n0 O58 Fb0_57 S_w_ADOPTER) 0 (by decide) (by decide) (by decide) (by decide) (mkF m 210 #[.val (.int p0), .val (.int p1), .val (.int p2), .val (.ref b1), .val (.ref r11), .val (.int (1 : Int32)), .val (.int (p0 &&& (3 : Int32))), .val (.int z23), .val (.int (0 : Int32)), .val (.ref w_EXECUTE), .val (.ref r41), .val (.int (0 : Int32))] [(.ref b1)]) rfl (by rw [hml]; rfl) (lenOf pd_2 rfl) rfl (hb hby at_210) (Nat.le_of_eq rfl) ?_
            intro v60 T60 L60 X60 hQ60
            obtain ⟨hv60, M60, e60⟩ := hQ60
            have N60 := Fr.app N57 M60
            obtain rfl : v60 = some (.int 0) := hv60.trans (by simp [ne_w_EXECUTE_w_ADOPTER])
            show Go p e below _ (T60.setTop (mkF m 213 #[.val (.int p0), .val (.int p1), .val (.int p2), .val (.ref b1), .val (.ref r11), .val (.int (1 : Int32)), .val (.int (p0 &&& (3 : Int32))), .val (.int z23), .val (.int (0 : Int32)), .val (.ref w_EXECUTE), .val (.ref r41), .val (.int (0 : Int32))] [(.int (0 : Int32))]))
            refine Go.st (fun _ => XS.iload X60.here hx rfl (hb hby at_213) rfl) ?_
            show Go p e below _ (T60.setTop (mkF m 215 #[.val (.int p0), .val (.int p1), .val (.int p2), .val (.ref b1), .val (.ref r11), .val (.int (1 : Int32)), .val (.int (p0 &&& (3 : Int32))), .val (.int z23), .val (.int (0 : Int32)), .val (.ref w_EXECUTE), .val (.ref r41), .val (.int (0 : Int32))] [(.int (0 : Int32)), (.int (0 : Int32))]))
            refine Go.st (fun _ => XS.icmpNo X60.here hx rfl (hb hby at_215) rfl (teq (by decide : (0 : Int32) = (0 : Int32))).2) ?_
            show Go p e below _ (T60.setTop (mkF m 218 #[.val (.int p0), .val (.int p1), .val (.int p2), .val (.ref b1), .val (.ref r11), .val (.int (1 : Int32)), .val (.int (p0 &&& (3 : Int32))), .val (.int z23), .val (.int (0 : Int32)), .val (.ref w_EXECUTE), .val (.ref r41), .val (.int (0 : Int32))] []))
            refine Go.st (fun _ => XS.iconst X60.here hx rfl (hb hby at_218)) ?_
            show Go p e below _ (T60.setTop (mkF m 219 #[.val (.int p0), .val (.int p1), .val (.int p2), .val (.ref b1), .val (.ref r11), .val (.int (1 : Int32)), .val (.int (p0 &&& (3 : Int32))), .val (.int z23), .val (.int (0 : Int32)), .val (.ref w_EXECUTE), .val (.ref r41), .val (.int (0 : Int32))] [(.int (1 : Int32))]))
            refine Go.st (fun _ => XS.goto X60.here hx rfl (pc0 := 219) (pc' := 223) rfl (hb hby at_219) (by decide) (by decide)) ?_
            show Go p e below _ (T60.setTop (mkF m 223 #[.val (.int p0), .val (.int p1), .val (.int p2), .val (.ref b1), .val (.ref r11), .val (.int (1 : Int32)), .val (.int (p0 &&& (3 : Int32))), .val (.int z23), .val (.int (0 : Int32)), .val (.ref w_EXECUTE), .val (.ref r41), .val (.int (0 : Int32))] [(.int (1 : Int32))]))
            refine Go.st (fun _ => XS.istore X60.here hx rfl (hb hby at_223) rfl (l' := #[.val (.int p0), .val (.int p1), .val (.int p2), .val (.ref b1), .val (.ref r11), .val (.int (1 : Int32)), .val (.int (p0 &&& (3 : Int32))), .val (.int z23), .val (.int (0 : Int32)), .val (.ref w_EXECUTE), .val (.ref r41), .val (.int (0 : Int32))]) rfl) ?_
            show Go p e below _ (T60.setTop (mkF m 225 #[.val (.int p0), .val (.int p1), .val (.int p2), .val (.ref b1), .val (.ref r11), .val (.int (1 : Int32)), .val (.int (p0 &&& (3 : Int32))), .val (.int z23), .val (.int (0 : Int32)), .val (.ref w_EXECUTE), .val (.ref r41), .val (.int (0 : Int32))] []))
            refine Go.st (fun _ => XS.iload X60.here hx rfl (hb hby at_225) rfl) ?_
            show Go p e below _ (T60.setTop (mkF m 227 #[.val (.int p0), .val (.int p1), .val (.int p2), .val (.ref b1), .val (.ref r11), .val (.int (1 : Int32)), .val (.int (p0 &&& (3 : Int32))), .val (.int z23), .val (.int (0 : Int32)), .val (.ref w_EXECUTE), .val (.ref r41), .val (.int (0 : Int32))] [(.int (1 : Int32))]))
            exact goRetN X60 hx hlk hret (t := .boolean) (by simp) (w := (1 : Int32)) (by decide) e60 (hb hby at_227) (by decide) (by decide) ⟨rfl, N60⟩
    · show Go p e below _ (T22.setTop (mkF m 49 #[.val (.int p0), .val (.int p1), .val (.int p2), .val (.ref b1), .val (.ref r11), .val (.int (1 : Int32)), .val (.int (p0 &&& (3 : Int32))), .val (.int z23), .val (.int (0 : Int32)), .unset, .unset, .unset] []))
      refine goJoin (α := State) (P := fun TD => ∃ (hD : Heap) (lD : List Loc), Stand p l e room_1 s m #[(.int p0), (.int p1), (.int p2)] below meth c TD lD 2 8 ∧ TD.heap = hD ∧ Fr n0 lD ∧ Old Z n0 hD ∧ own_gen1 Z hD b1 .null) (F := fun T => T.setTop (mkF m 98 #[.val (.int p0), .val (.int p1), .val (.int p2), .val (.ref b1), .val (.ref r11), .val (.int (1 : Int32)), .val (.int (p0 &&& (3 : Int32))), .val (.int z23), .val (.int (1 : Int32)), .unset, .unset, .unset] [])) (fun TD hTD => ?_) (fun JD => ?_)
      · obtain ⟨hD, lD, XD, eD, ND, f0_D, G1⟩ := hTD
        obtain ⟨eb, en, oc, OBx, hen, ⟨a6, rfl⟩⟩ := G1
        obtain ⟨Ebc1, Ubc1, Fb0_c1, Fb1_c1, Fb2_c1, Fb3_c1, Fb4_c1, Fb5_c1, Fb6_c1⟩ := OBx
        show Go p e below _ (TD.setTop (mkF m 98 #[.val (.int p0), .val (.int p1), .val (.int p2), .val (.ref b1), .val (.ref r11), .val (.int (1 : Int32)), .val (.int (p0 &&& (3 : Int32))), .val (.int z23), .val (.int (1 : Int32)), .unset, .unset, .unset] []))
        refine Go.st (fun _ => XS.iloadN XD.here hx rfl (hb hby at_98) rfl) ?_
        show Go p e below _ (TD.setTop (mkF m 99 #[.val (.int p0), .val (.int p1), .val (.int p2), .val (.ref b1), .val (.ref r11), .val (.int (1 : Int32)), .val (.int (p0 &&& (3 : Int32))), .val (.int z23), .val (.int (1 : Int32)), .unset, .unset, .unset] [(.int p1)]))
        refine Go.st (fun _ => XS.iconst XD.here hx rfl (hb hby at_99)) ?_
        show Go p e below _ (TD.setTop (mkF m 100 #[.val (.int p0), .val (.int p1), .val (.int p2), .val (.ref b1), .val (.ref r11), .val (.int (1 : Int32)), .val (.int (p0 &&& (3 : Int32))), .val (.int z23), .val (.int (1 : Int32)), .unset, .unset, .unset] [(.int (1 : Int32)), (.int p1)]))
        refine Go.st (fun _ => XS.iand XD.here hx rfl (hb hby at_100) rfl) ?_
        show Go p e below _ (TD.setTop (mkF m 101 #[.val (.int p0), .val (.int p1), .val (.int p2), .val (.ref b1), .val (.ref r11), .val (.int (1 : Int32)), .val (.int (p0 &&& (3 : Int32))), .val (.int z23), .val (.int (1 : Int32)), .unset, .unset, .unset] [(.int (p1 &&& (1 : Int32)))]))
        refine goCallS XD hx hZ (y := (⟨"com/example/sidelane/sidelane/CancellationIsHandedOverPinLaw", "pick", "(I)Lcom/example/sidelane/sidelane/Cancellation$Claimant;"⟩ : MethodName)) hown (hw _ (List.mem_of_getElem? (i := 26) rfl)) (hw _ (List.mem_of_getElem? (i := 27) rfl)) (hw _ (List.mem_of_getElem? (i := 28) rfl)) (hw _ (List.mem_of_getElem? (i := 29) rfl)) (by decide) (argsL := [(.int (p1 &&& (1 : Int32)))]) (rest := []) eD (rmP l Z a0 hw [] (p1 &&& (1 : Int32)) w_EXECUTE w_ADOPTER hD n0 f0_D S_w_EXECUTE S_w_ADOPTER) 0 (by decide) (by decide) (by decide) (by decide) (mkF m 101 #[.val (.int p0), .val (.int p1), .val (.int p2), .val (.ref b1), .val (.ref r11), .val (.int (1 : Int32)), .val (.int (p0 &&& (3 : Int32))), .val (.int z23), .val (.int (1 : Int32)), .unset, .unset, .unset] [(.int (p1 &&& (1 : Int32)))]) rfl (by rw [hml]; rfl) (lenOf pd_4 rfl) rfl (hb hby at_101) (Nat.le_of_eq rfl) ?_
        intro v61 T61 L61 X61 hQ61
        obtain ⟨⟨r61, hv61, hr61⟩, M61, e61⟩ := hQ61
        have N61 := Fr.app ND M61
        rcases hr61 with hr61 | hr61
        · obtain rfl : v61 = some (.ref w_ADOPTER) := by rw [hv61, hr61]
          show Go p e below _ (T61.setTop (mkF m 104 #[.val (.int p0), .val (.int p1), .val (.int p2), .val (.ref b1), .val (.ref r11), .val (.int (1 : Int32)), .val (.int (p0 &&& (3 : Int32))), .val (.int z23), .val (.int (1 : Int32)), .unset, .unset, .unset] [(.ref w_ADOPTER)]))
          refine Go.st (fun _ => XS.astore X61.here hx rfl (hb hby at_104) rfl rfl (l' := #[.val (.int p0), .val (.int p1), .val (.int p2), .val (.ref b1), .val (.ref r11), .val (.int (1 : Int32)), .val (.int (p0 &&& (3 : Int32))), .val (.int z23), .val (.int (1 : Int32)), .val (.ref w_ADOPTER), .unset, .unset]) rfl) ?_
          show Go p e below _ (T61.setTop (mkF m 106 #[.val (.int p0), .val (.int p1), .val (.int p2), .val (.ref b1), .val (.ref r11), .val (.int (1 : Int32)), .val (.int (p0 &&& (3 : Int32))), .val (.int z23), .val (.int (1 : Int32)), .val (.ref w_ADOPTER), .unset, .unset] []))
          refine Go.st (fun _ => XS.iloadN X61.here hx rfl (hb hby at_106) rfl) ?_
          show Go p e below _ (T61.setTop (mkF m 107 #[.val (.int p0), .val (.int p1), .val (.int p2), .val (.ref b1), .val (.ref r11), .val (.int (1 : Int32)), .val (.int (p0 &&& (3 : Int32))), .val (.int z23), .val (.int (1 : Int32)), .val (.ref w_ADOPTER), .unset, .unset] [(.int p1)]))
          refine Go.st (fun _ => XS.iconst X61.here hx rfl (hb hby at_107)) ?_
          show Go p e below _ (T61.setTop (mkF m 108 #[.val (.int p0), .val (.int p1), .val (.int p2), .val (.ref b1), .val (.ref r11), .val (.int (1 : Int32)), .val (.int (p0 &&& (3 : Int32))), .val (.int z23), .val (.int (1 : Int32)), .val (.ref w_ADOPTER), .unset, .unset] [(.int (2 : Int32)), (.int p1)]))
          refine Go.st (fun _ => XS.iand X61.here hx rfl (hb hby at_108) rfl) ?_
          show Go p e below _ (T61.setTop (mkF m 109 #[.val (.int p0), .val (.int p1), .val (.int p2), .val (.ref b1), .val (.ref r11), .val (.int (1 : Int32)), .val (.int (p0 &&& (3 : Int32))), .val (.int z23), .val (.int (1 : Int32)), .val (.ref w_ADOPTER), .unset, .unset] [(.int (p1 &&& (2 : Int32)))]))
          refine goCallS X61 hx hZ (y := (⟨"com/example/sidelane/sidelane/CancellationIsHandedOverPinLaw", "pick", "(I)Lcom/example/sidelane/sidelane/Cancellation$Claimant;"⟩ : MethodName)) hown (hw _ (List.mem_of_getElem? (i := 26) rfl)) (hw _ (List.mem_of_getElem? (i := 27) rfl)) (hw _ (List.mem_of_getElem? (i := 28) rfl)) (hw _ (List.mem_of_getElem? (i := 29) rfl)) (by decide) (argsL := [(.int (p1 &&& (2 : Int32)))]) (rest := []) e61 (rmP l Z a0 hw [] (p1 &&& (2 : Int32)) w_EXECUTE w_ADOPTER hD n0 f0_D S_w_EXECUTE S_w_ADOPTER) 0 (by decide) (by decide) (by decide) (by decide) (mkF m 109 #[.val (.int p0), .val (.int p1), .val (.int p2), .val (.ref b1), .val (.ref r11), .val (.int (1 : Int32)), .val (.int (p0 &&& (3 : Int32))), .val (.int z23), .val (.int (1 : Int32)), .val (.ref w_ADOPTER), .unset, .unset] [(.int (p1 &&& (2 : Int32)))]) rfl (by rw [hml]; rfl) (lenOf pd_4 rfl) rfl (hb hby at_109) (Nat.le_of_eq rfl) ?_
          intro v62 T62 L62 X62 hQ62
          obtain ⟨⟨r62, hv62, hr62⟩, M62, e62⟩ := hQ62
          have N62 := Fr.app N61 M62
          subst hv62
          show Go p e below _ (T62.setTop (mkF m 112 #[.val (.int p0), .val (.int p1), .val (.int p2), .val (.ref b1), .val (.ref r11), .val (.int (1 : Int32)), .val (.int (p0 &&& (3 : Int32))), .val (.int z23), .val (.int (1 : Int32)), .val (.ref w_ADOPTER), .unset, .unset] [(.ref r62)]))
          refine Go.st (fun _ => XS.astore X62.here hx rfl (hb hby at_112) rfl rfl (l' := #[.val (.int p0), .val (.int p1), .val (.int p2), .val (.ref b1), .val (.ref r11), .val (.int (1 : Int32)), .val (.int (p0 &&& (3 : Int32))), .val (.int z23), .val (.int (1 : Int32)), .val (.ref w_ADOPTER), .val (.ref r62), .unset]) rfl) ?_
          show Go p e below _ (T62.setTop (mkF m 114 #[.val (.int p0), .val (.int p1), .val (.int p2), .val (.ref b1), .val (.ref r11), .val (.int (1 : Int32)), .val (.int (p0 &&& (3 : Int32))), .val (.int z23), .val (.int (1 : Int32)), .val (.ref w_ADOPTER), .val (.ref r62), .unset] []))
          refine Go.st (fun _ => XS.aloadN X62.here hx rfl (hb hby at_114) rfl rfl) ?_
          show Go p e below _ (T62.setTop (mkF m 115 #[.val (.int p0), .val (.int p1), .val (.int p2), .val (.ref b1), .val (.ref r11), .val (.int (1 : Int32)), .val (.int (p0 &&& (3 : Int32))), .val (.int z23), .val (.int (1 : Int32)), .val (.ref w_ADOPTER), .val (.ref r62), .unset] [(.ref b1)]))
          refine Go.st (fun _ => XS.aload X62.here hx rfl (hb hby at_115) rfl rfl) ?_
          show Go p e below _ (T62.setTop (mkF m 117 #[.val (.int p0), .val (.int p1), .val (.int p2), .val (.ref b1), .val (.ref r11), .val (.int (1 : Int32)), .val (.int (p0 &&& (3 : Int32))), .val (.int z23), .val (.int (1 : Int32)), .val (.ref w_ADOPTER), .val (.ref r62), .unset] [(.ref w_ADOPTER), (.ref b1)]))
          refine goVirtS X62 hx hZ (y := (⟨"com/example/sidelane/sidelane/Cancellation", "claim", "(Lcom/example/sidelane/sidelane/Cancellation$Claimant;)Z"⟩ : MethodName)) (z := (⟨"com/example/sidelane/sidelane/Cancellation", "claim", "(Lcom/example/sidelane/sidelane/Cancellation$Claimant;)Z"⟩ : MethodName)) hown (hw _ (List.mem_of_getElem? (i := 31) rfl)) (hw _ (List.mem_of_getElem? (i := 32) rfl)) (notFace_of_selects (args := #[]) (mvT hZ (hw _ (List.mem_of_getElem? (i := 34) rfl)))) (hw _ (List.mem_of_getElem? (i := 34) rfl)) (hw _ (List.mem_of_getElem? (i := 33) rfl)) (hw _ (List.mem_of_getElem? (i := 2) rfl)) (hw _ (List.mem_of_getElem? (i := 35) rfl)) (by decide) (a := b1) (argsL := [(.ref w_ADOPTER)]) (rest := []) e62 Ebc1 (cm01 l Z a0 hw b1 w_ADOPTER en (.ref a6) eb hD n0 f0_D Ubc1 gn1 Ebc1 Fb0_c1 Fb1_c1 Fb2_c1 Fb3_c1 Fb4_c1 Fb5_c1 Fb6_c1) 0 (by decide) (by decide) (by decide) (by decide) (mkF m 117 #[.val (.int p0), .val (.int p1), .val (.int p2), .val (.ref b1), .val (.ref r11), .val (.int (1 : Int32)), .val (.int (p0 &&& (3 : Int32))), .val (.int z23), .val (.int (1 : Int32)), .val (.ref w_ADOPTER), .val (.ref r62), .unset] [(.ref w_ADOPTER), (.ref b1)]) rfl (by rw [hml]; rfl) (lenOf pd_5 rfl) rfl (hb hby at_117) (Nat.le_of_eq rfl) ?_
          intro v63 T63 L63 X63 hQ63
          obtain ⟨rfl, M63, K63, ⟨Eb63, Ub63, Fb0_63, Fb1_63, Fb2_63, Fb3_63, Fb4_63, Fb5_63, Fb6_63⟩⟩ := hQ63
          have N63 := Fr.app N62 M63
          have O64 : Old Z n0 T63.heap := f0_D.keep K63 (allS gn1 all0)
          have E_65 : Exa Z T63.heap b1 "com/example/sidelane/sidelane/Cancellation" := Ebc1.keep K63
          show Go p e below _ (T63.setTop (mkF m 120 #[.val (.int p0), .val (.int p1), .val (.int p2), .val (.ref b1), .val (.ref r11), .val (.int (1 : Int32)), .val (.int (p0 &&& (3 : Int32))), .val (.int z23), .val (.int (1 : Int32)), .val (.ref w_ADOPTER), .val (.ref r62), .unset] [(.int (0 : Int32))]))
          refine Go.st (fun _ => XS.pop X63.here hx rfl (hb hby at_120) rfl rfl) ?_
          show Go p e below _ (T63.setTop (mkF m 121 #[.val (.int p0), .val (.int p1), .val (.int p2), .val (.ref b1), .val (.ref r11), .val (.int (1 : Int32)), .val (.int (p0 &&& (3 : Int32))), .val (.int z23), .val (.int (1 : Int32)), .val (.ref w_ADOPTER), .val (.ref r62), .unset] []))
          refine Go.st (fun _ => XS.iload X63.here hx rfl (hb hby at_121) rfl) ?_
          show Go p e below _ (T63.setTop (mkF m 123 #[.val (.int p0), .val (.int p1), .val (.int p2), .val (.ref b1), .val (.ref r11), .val (.int (1 : Int32)), .val (.int (p0 &&& (3 : Int32))), .val (.int z23), .val (.int (1 : Int32)), .val (.ref w_ADOPTER), .val (.ref r62), .unset] [(.int (1 : Int32))]))
          refine Go.st (fun _ => XS.ifYes X63.here hx rfl (pc0 := 123) (pc' := 138) rfl (hb hby at_123) rfl ((if0 _ _).trans (feq (by decide : ¬ ((1 : Int32) = (0 : Int32)))).2) (by decide) (by decide)) ?_
          show Go p e below _ (T63.setTop (mkF m 138 #[.val (.int p0), .val (.int p1), .val (.int p2), .val (.ref b1), .val (.ref r11), .val (.int (1 : Int32)), .val (.int (p0 &&& (3 : Int32))), .val (.int z23), .val (.int (1 : Int32)), .val (.ref w_ADOPTER), .val (.ref r62), .unset] []))
          refine Go.st (fun _ => XS.iconst X63.here hx rfl (hb hby at_138)) ?_
          show Go p e below _ (T63.setTop (mkF m 139 #[.val (.int p0), .val (.int p1), .val (.int p2), .val (.ref b1), .val (.ref r11), .val (.int (1 : Int32)), .val (.int (p0 &&& (3 : Int32))), .val (.int z23), .val (.int (1 : Int32)), .val (.ref w_ADOPTER), .val (.ref r62), .unset] [(.int (0 : Int32))]))
          refine Go.st (fun _ => XS.istore X63.here hx rfl (hb hby at_139) rfl (l' := #[.val (.int p0), .val (.int p1), .val (.int p2), .val (.ref b1), .val (.ref r11), .val (.int (1 : Int32)), .val (.int (p0 &&& (3 : Int32))), .val (.int z23), .val (.int (1 : Int32)), .val (.ref w_ADOPTER), .val (.ref r62), .val (.int (0 : Int32))]) rfl) ?_
          show Go p e below _ (T63.setTop (mkF m 141 #[.val (.int p0), .val (.int p1), .val (.int p2), .val (.ref b1), .val (.ref r11), .val (.int (1 : Int32)), .val (.int (p0 &&& (3 : Int32))), .val (.int z23), .val (.int (1 : Int32)), .val (.ref w_ADOPTER), .val (.ref r62), .val (.int (0 : Int32))] []))
          refine Go.st (fun _ => XS.iload X63.here hx rfl (hb hby at_141) rfl) ?_
          show Go p e below _ (T63.setTop (mkF m 143 #[.val (.int p0), .val (.int p1), .val (.int p2), .val (.ref b1), .val (.ref r11), .val (.int (1 : Int32)), .val (.int (p0 &&& (3 : Int32))), .val (.int z23), .val (.int (1 : Int32)), .val (.ref w_ADOPTER), .val (.ref r62), .val (.int (0 : Int32))] [(.int (1 : Int32))]))
          refine Go.st (fun _ => XS.ifNo X63.here hx rfl (hb hby at_143) rfl ((if0 _ _).trans (feq (by decide : ¬ ((1 : Int32) = (0 : Int32)))).1)) ?_
          show Go p e below _ (T63.setTop (mkF m 146 #[.val (.int p0), .val (.int p1), .val (.int p2), .val (.ref b1), .val (.ref r11), .val (.int (1 : Int32)), .val (.int (p0 &&& (3 : Int32))), .val (.int z23), .val (.int (1 : Int32)), .val (.ref w_ADOPTER), .val (.ref r62), .val (.int (0 : Int32))] []))
          refine Go.st (fun _ => XS.aloadN X63.here hx rfl (hb hby at_146) rfl rfl) ?_
          show Go p e below _ (T63.setTop (mkF m 147 #[.val (.int p0), .val (.int p1), .val (.int p2), .val (.ref b1), .val (.ref r11), .val (.int (1 : Int32)), .val (.int (p0 &&& (3 : Int32))), .val (.int z23), .val (.int (1 : Int32)), .val (.ref w_ADOPTER), .val (.ref r62), .val (.int (0 : Int32))] [(.ref b1)]))
          refine goVirt X63 hx hZ (y := (⟨"com/example/sidelane/sidelane/Cancellation", "isHandedOver", "()Z"⟩ : MethodName)) (z := (⟨"com/example/sidelane/sidelane/Cancellation", "isHandedOver", "()Z"⟩ : MethodName)) hown (hw _ (List.mem_of_getElem? (i := 16) rfl)) (hw _ (List.mem_of_getElem? (i := 17) rfl)) (notFace_of_selects (args := #[]) (mvT hZ (hw _ (List.mem_of_getElem? (i := 19) rfl)))) (hw _ (List.mem_of_getElem? (i := 19) rfl)) (hw _ (List.mem_of_getElem? (i := 18) rfl)) (hw _ (List.mem_of_getElem? (i := 2) rfl)) (hw _ (List.mem_of_getElem? (i := 20) rfl)) (by decide) (a := b1) (argsL := []) (rest := []) rfl Eb63 (ihN l Z a0 hw [] b1 w_ADOPTER T63.heap n0 O64 Fb0_63 S_w_ADOPTER) 0 (by decide) (by decide) (by decide) (by decide) (mkF m 147 #[.val (.int p0), .val (.int p1), .val (.int p2), .val (.ref b1), .val (.ref r11), .val (.int (1 : Int32)), .val (.int (p0 &&& (3 : Int32))), .val (.int z23), .val (.int (1 : Int32)), .val (.ref w_ADOPTER), .val (.ref r62), .val (.int (0 : Int32))] [(.ref b1)]) rfl (by rw [hml]; rfl) (lenOf pd_2 rfl) rfl (hb hby at_147) (Nat.le_of_eq rfl) ?_
          intro v66 T66 L66 X66 hQ66
          obtain ⟨rfl, M66, e66⟩ := hQ66
          have N66 := Fr.app N63 M66
          show Go p e below _ (T66.setTop (mkF m 150 #[.val (.int p0), .val (.int p1), .val (.int p2), .val (.ref b1), .val (.ref r11), .val (.int (1 : Int32)), .val (.int (p0 &&& (3 : Int32))), .val (.int z23), .val (.int (1 : Int32)), .val (.ref w_ADOPTER), .val (.ref r62), .val (.int (0 : Int32))] [(.int (0 : Int32))]))
          refine Go.st (fun _ => XS.iload X66.here hx rfl (hb hby at_150) rfl) ?_
          show Go p e below _ (T66.setTop (mkF m 152 #[.val (.int p0), .val (.int p1), .val (.int p2), .val (.ref b1), .val (.ref r11), .val (.int (1 : Int32)), .val (.int (p0 &&& (3 : Int32))), .val (.int z23), .val (.int (1 : Int32)), .val (.ref w_ADOPTER), .val (.ref r62), .val (.int (0 : Int32))] [(.int (0 : Int32)), (.int (0 : Int32))]))
          refine Go.st (fun _ => XS.icmpNo X66.here hx rfl (hb hby at_152) rfl (teq (by decide : (0 : Int32) = (0 : Int32))).2) ?_
          show Go p e below _ (T66.setTop (mkF m 155 #[.val (.int p0), .val (.int p1), .val (.int p2), .val (.ref b1), .val (.ref r11), .val (.int (1 : Int32)), .val (.int (p0 &&& (3 : Int32))), .val (.int z23), .val (.int (1 : Int32)), .val (.ref w_ADOPTER), .val (.ref r62), .val (.int (0 : Int32))] []))
          refine Go.st (fun _ => XS.iconst X66.here hx rfl (hb hby at_155)) ?_
          show Go p e below _ (T66.setTop (mkF m 156 #[.val (.int p0), .val (.int p1), .val (.int p2), .val (.ref b1), .val (.ref r11), .val (.int (1 : Int32)), .val (.int (p0 &&& (3 : Int32))), .val (.int z23), .val (.int (1 : Int32)), .val (.ref w_ADOPTER), .val (.ref r62), .val (.int (0 : Int32))] [(.int (1 : Int32))]))
          refine Go.st (fun _ => XS.goto X66.here hx rfl (pc0 := 156) (pc' := 160) rfl (hb hby at_156) (by decide) (by decide)) ?_
          show Go p e below _ (T66.setTop (mkF m 160 #[.val (.int p0), .val (.int p1), .val (.int p2), .val (.ref b1), .val (.ref r11), .val (.int (1 : Int32)), .val (.int (p0 &&& (3 : Int32))), .val (.int z23), .val (.int (1 : Int32)), .val (.ref w_ADOPTER), .val (.ref r62), .val (.int (0 : Int32))] [(.int (1 : Int32))]))
          refine Go.st (fun _ => XS.istore X66.here hx rfl (hb hby at_160) rfl (l' := #[.val (.int p0), .val (.int p1), .val (.int p2), .val (.ref b1), .val (.ref r11), .val (.int (1 : Int32)), .val (.int (p0 &&& (3 : Int32))), .val (.int z23), .val (.int (1 : Int32)), .val (.ref w_ADOPTER), .val (.ref r62), .val (.int (0 : Int32))]) rfl) ?_
          show Go p e below _ (T66.setTop (mkF m 162 #[.val (.int p0), .val (.int p1), .val (.int p2), .val (.ref b1), .val (.ref r11), .val (.int (1 : Int32)), .val (.int (p0 &&& (3 : Int32))), .val (.int z23), .val (.int (1 : Int32)), .val (.ref w_ADOPTER), .val (.ref r62), .val (.int (0 : Int32))] []))
          refine Go.st (fun _ => XS.aloadN X66.here hx rfl (hb hby at_162) rfl rfl) ?_
          show Go p e below _ (T66.setTop (mkF m 163 #[.val (.int p0), .val (.int p1), .val (.int p2), .val (.ref b1), .val (.ref r11), .val (.int (1 : Int32)), .val (.int (p0 &&& (3 : Int32))), .val (.int z23), .val (.int (1 : Int32)), .val (.ref w_ADOPTER), .val (.ref r62), .val (.int (0 : Int32))] [(.ref b1)]))
          refine Go.st (fun _ => XS.aload X66.here hx rfl (hb hby at_163) rfl rfl) ?_
          show Go p e below _ (T66.setTop (mkF m 165 #[.val (.int p0), .val (.int p1), .val (.int p2), .val (.ref b1), .val (.ref r11), .val (.int (1 : Int32)), .val (.int (p0 &&& (3 : Int32))), .val (.int z23), .val (.int (1 : Int32)), .val (.ref w_ADOPTER), .val (.ref r62), .val (.int (0 : Int32))] [(.ref r62), (.ref b1)]))
          refine goVirtS X66 hx hZ (y := (⟨"com/example/sidelane/sidelane/Cancellation", "claim", "(Lcom/example/sidelane/sidelane/Cancellation$Claimant;)Z"⟩ : MethodName)) (z := (⟨"com/example/sidelane/sidelane/Cancellation", "claim", "(Lcom/example/sidelane/sidelane/Cancellation$Claimant;)Z"⟩ : MethodName)) hown (hw _ (List.mem_of_getElem? (i := 31) rfl)) (hw _ (List.mem_of_getElem? (i := 32) rfl)) (notFace_of_selects (args := #[]) (mvT hZ (hw _ (List.mem_of_getElem? (i := 34) rfl)))) (hw _ (List.mem_of_getElem? (i := 34) rfl)) (hw _ (List.mem_of_getElem? (i := 33) rfl)) (hw _ (List.mem_of_getElem? (i := 2) rfl)) (hw _ (List.mem_of_getElem? (i := 35) rfl)) (by decide) (a := b1) (argsL := [(.ref r62)]) (rest := []) e66 Eb63 (cm01 l Z a0 hw b1 r62 en (.ref a6) eb T63.heap n0 O64 Ub63 gn1 Eb63 Fb0_63 Fb1_63 Fb2_63 Fb3_63 Fb4_63 Fb5_63 Fb6_63) 0 (by decide) (by decide) (by decide) (by decide) (mkF m 165 #[.val (.int p0), .val (.int p1), .val (.int p2), .val (.ref b1), .val (.ref r11), .val (.int (1 : Int32)), .val (.int (p0 &&& (3 : Int32))), .val (.int z23), .val (.int (1 : Int32)), .val (.ref w_ADOPTER), .val (.ref r62), .val (.int (0 : Int32))] [(.ref r62), (.ref b1)]) rfl (by rw [hml]; rfl) (lenOf pd_5 rfl) rfl (hb hby at_165) (Nat.le_of_eq rfl) ?_
          intro v67 T67 L67 X67 hQ67
          obtain ⟨rfl, M67, K67, ⟨Eb67, Ub67, Fb0_67, Fb1_67, Fb2_67, Fb3_67, Fb4_67, Fb5_67, Fb6_67⟩⟩ := hQ67
          have N67 := Fr.app N66 M67
          have O68 : Old Z n0 T67.heap := O64.keep K67 (allS gn1 all0)
          have E_69 : Exa Z T67.heap b1 "com/example/sidelane/sidelane/Cancellation" := Eb63.keep K67
          show Go p e below _ (T67.setTop (mkF m 168 #[.val (.int p0), .val (.int p1), .val (.int p2), .val (.ref b1), .val (.ref r11), .val (.int (1 : Int32)), .val (.int (p0 &&& (3 : Int32))), .val (.int z23), .val (.int (1 : Int32)), .val (.ref w_ADOPTER), .val (.ref r62), .val (.int (0 : Int32))] [(.int (0 : Int32))]))
          refine Go.st (fun _ => XS.pop X67.here hx rfl (hb hby at_168) rfl rfl) ?_
          show Go p e below _ (T67.setTop (mkF m 169 #[.val (.int p0), .val (.int p1), .val (.int p2), .val (.ref b1), .val (.ref r11), .val (.int (1 : Int32)), .val (.int (p0 &&& (3 : Int32))), .val (.int z23), .val (.int (1 : Int32)), .val (.ref w_ADOPTER), .val (.ref r62), .val (.int (0 : Int32))] []))
          refine Go.st (fun _ => XS.iload X67.here hx rfl (hb hby at_169) rfl) ?_
          show Go p e below _ (T67.setTop (mkF m 171 #[.val (.int p0), .val (.int p1), .val (.int p2), .val (.ref b1), .val (.ref r11), .val (.int (1 : Int32)), .val (.int (p0 &&& (3 : Int32))), .val (.int z23), .val (.int (1 : Int32)), .val (.ref w_ADOPTER), .val (.ref r62), .val (.int (0 : Int32))] [(.int (1 : Int32))]))
          refine Go.st (fun _ => XS.ifNo X67.here hx rfl (hb hby at_171) rfl ((if0 _ _).trans (feq (by decide : ¬ ((1 : Int32) = (0 : Int32)))).1)) ?_
          show Go p e below _ (T67.setTop (mkF m 174 #[.val (.int p0), .val (.int p1), .val (.int p2), .val (.ref b1), .val (.ref r11), .val (.int (1 : Int32)), .val (.int (p0 &&& (3 : Int32))), .val (.int z23), .val (.int (1 : Int32)), .val (.ref w_ADOPTER), .val (.ref r62), .val (.int (0 : Int32))] []))
          refine Go.st (fun _ => XS.aloadN X67.here hx rfl (hb hby at_174) rfl rfl) ?_
          show Go p e below _ (T67.setTop (mkF m 175 #[.val (.int p0), .val (.int p1), .val (.int p2), .val (.ref b1), .val (.ref r11), .val (.int (1 : Int32)), .val (.int (p0 &&& (3 : Int32))), .val (.int z23), .val (.int (1 : Int32)), .val (.ref w_ADOPTER), .val (.ref r62), .val (.int (0 : Int32))] [(.ref b1)]))
          refine goVirt X67 hx hZ (y := (⟨"com/example/sidelane/sidelane/Cancellation", "isHandedOver", "()Z"⟩ : MethodName)) (z := (⟨"com/example/sidelane/sidelane/Cancellation", "isHandedOver", "()Z"⟩ : MethodName)) hown (hw _ (List.mem_of_getElem? (i := 16) rfl)) (hw _ (List.mem_of_getElem? (i := 17) rfl)) (notFace_of_selects (args := #[]) (mvT hZ (hw _ (List.mem_of_getElem? (i := 19) rfl)))) (hw _ (List.mem_of_getElem? (i := 19) rfl)) (hw _ (List.mem_of_getElem? (i := 18) rfl)) (hw _ (List.mem_of_getElem? (i := 2) rfl)) (hw _ (List.mem_of_getElem? (i := 20) rfl)) (by decide) (a := b1) (argsL := []) (rest := []) rfl Eb67 (ihN l Z a0 hw [] b1 w_ADOPTER T67.heap n0 O68 Fb0_67 S_w_ADOPTER) 0 (by decide) (by decide) (by decide) (by decide) (mkF m 175 #[.val (.int p0), .val (.int p1), .val (.int p2), .val (.ref b1), .val (.ref r11), .val (.int (1 : Int32)), .val (.int (p0 &&& (3 : Int32))), .val (.int z23), .val (.int (1 : Int32)), .val (.ref w_ADOPTER), .val (.ref r62), .val (.int (0 : Int32))] [(.ref b1)]) rfl (by rw [hml]; rfl) (lenOf pd_2 rfl) rfl (hb hby at_175) (Nat.le_of_eq rfl) ?_
          intro v70 T70 L70 X70 hQ70
          obtain ⟨rfl, M70, e70⟩ := hQ70
          have N70 := Fr.app N67 M70
          show Go p e below _ (T70.setTop (mkF m 178 #[.val (.int p0), .val (.int p1), .val (.int p2), .val (.ref b1), .val (.ref r11), .val (.int (1 : Int32)), .val (.int (p0 &&& (3 : Int32))), .val (.int z23), .val (.int (1 : Int32)), .val (.ref w_ADOPTER), .val (.ref r62), .val (.int (0 : Int32))] [(.int (0 : Int32))]))
          refine Go.st (fun _ => XS.iload X70.here hx rfl (hb hby at_178) rfl) ?_
          show Go p e below _ (T70.setTop (mkF m 180 #[.val (.int p0), .val (.int p1), .val (.int p2), .val (.ref b1), .val (.ref r11), .val (.int (1 : Int32)), .val (.int (p0 &&& (3 : Int32))), .val (.int z23), .val (.int (1 : Int32)), .val (.ref w_ADOPTER), .val (.ref r62), .val (.int (0 : Int32))] [(.int (0 : Int32)), (.int (0 : Int32))]))
          refine Go.st (fun _ => XS.icmpNo X70.here hx rfl (hb hby at_180) rfl (teq (by decide : (0 : Int32) = (0 : Int32))).2) ?_
          show Go p e below _ (T70.setTop (mkF m 183 #[.val (.int p0), .val (.int p1), .val (.int p2), .val (.ref b1), .val (.ref r11), .val (.int (1 : Int32)), .val (.int (p0 &&& (3 : Int32))), .val (.int z23), .val (.int (1 : Int32)), .val (.ref w_ADOPTER), .val (.ref r62), .val (.int (0 : Int32))] []))
          refine Go.st (fun _ => XS.iconst X70.here hx rfl (hb hby at_183)) ?_
          show Go p e below _ (T70.setTop (mkF m 184 #[.val (.int p0), .val (.int p1), .val (.int p2), .val (.ref b1), .val (.ref r11), .val (.int (1 : Int32)), .val (.int (p0 &&& (3 : Int32))), .val (.int z23), .val (.int (1 : Int32)), .val (.ref w_ADOPTER), .val (.ref r62), .val (.int (0 : Int32))] [(.int (1 : Int32))]))
          refine Go.st (fun _ => XS.goto X70.here hx rfl (pc0 := 184) (pc' := 188) rfl (hb hby at_184) (by decide) (by decide)) ?_
          show Go p e below _ (T70.setTop (mkF m 188 #[.val (.int p0), .val (.int p1), .val (.int p2), .val (.ref b1), .val (.ref r11), .val (.int (1 : Int32)), .val (.int (p0 &&& (3 : Int32))), .val (.int z23), .val (.int (1 : Int32)), .val (.ref w_ADOPTER), .val (.ref r62), .val (.int (0 : Int32))] [(.int (1 : Int32))]))
          refine Go.st (fun _ => XS.istore X70.here hx rfl (hb hby at_188) rfl (l' := #[.val (.int p0), .val (.int p1), .val (.int p2), .val (.ref b1), .val (.ref r11), .val (.int (1 : Int32)), .val (.int (p0 &&& (3 : Int32))), .val (.int z23), .val (.int (1 : Int32)), .val (.ref w_ADOPTER), .val (.ref r62), .val (.int (0 : Int32))]) rfl) ?_
          show Go p e below _ (T70.setTop (mkF m 190 #[.val (.int p0), .val (.int p1), .val (.int p2), .val (.ref b1), .val (.ref r11), .val (.int (1 : Int32)), .val (.int (p0 &&& (3 : Int32))), .val (.int z23), .val (.int (1 : Int32)), .val (.ref w_ADOPTER), .val (.ref r62), .val (.int (0 : Int32))] []))
          refine Go.st (fun _ => XS.iloadN X70.here hx rfl (hb hby at_190) rfl) ?_
          show Go p e below _ (T70.setTop (mkF m 191 #[.val (.int p0), .val (.int p1), .val (.int p2), .val (.ref b1), .val (.ref r11), .val (.int (1 : Int32)), .val (.int (p0 &&& (3 : Int32))), .val (.int z23), .val (.int (1 : Int32)), .val (.ref w_ADOPTER), .val (.ref r62), .val (.int (0 : Int32))] [(.int p2)]))
          refine Go.st (fun _ => XS.iconst X70.here hx rfl (hb hby at_191)) ?_
          show Go p e below _ (T70.setTop (mkF m 192 #[.val (.int p0), .val (.int p1), .val (.int p2), .val (.ref b1), .val (.ref r11), .val (.int (1 : Int32)), .val (.int (p0 &&& (3 : Int32))), .val (.int z23), .val (.int (1 : Int32)), .val (.ref w_ADOPTER), .val (.ref r62), .val (.int (0 : Int32))] [(.int (1 : Int32)), (.int p2)]))
          refine Go.st (fun _ => XS.iand X70.here hx rfl (hb hby at_192) rfl) ?_
          show Go p e below _ (T70.setTop (mkF m 193 #[.val (.int p0), .val (.int p1), .val (.int p2), .val (.ref b1), .val (.ref r11), .val (.int (1 : Int32)), .val (.int (p0 &&& (3 : Int32))), .val (.int z23), .val (.int (1 : Int32)), .val (.ref w_ADOPTER), .val (.ref r62), .val (.int (0 : Int32))] [(.int (p2 &&& (1 : Int32)))]))
          by_cases hc71 : (p2 &&& (1 : Int32)) = (0 : Int32)
          · refine Go.st (fun _ => XS.ifYes X70.here hx rfl (pc0 := 193) (pc' := 204) rfl (hb hby at_193) rfl ((if0 _ _).trans (teq hc71).1) (by decide) (by decide)) ?_
            show Go p e below _ (T70.setTop (mkF m 204 #[.val (.int p0), .val (.int p1), .val (.int p2), .val (.ref b1), .val (.ref r11), .val (.int (1 : Int32)), .val (.int (p0 &&& (3 : Int32))), .val (.int z23), .val (.int (1 : Int32)), .val (.ref w_ADOPTER), .val (.ref r62), .val (.int (0 : Int32))] []))
            refine Go.st (fun _ => XS.iload X70.here hx rfl (hb hby at_204) rfl) ?_
            show Go p e below _ (T70.setTop (mkF m 206 #[.val (.int p0), .val (.int p1), .val (.int p2), .val (.ref b1), .val (.ref r11), .val (.int (1 : Int32)), .val (.int (p0 &&& (3 : Int32))), .val (.int z23), .val (.int (1 : Int32)), .val (.ref w_ADOPTER), .val (.ref r62), .val (.int (0 : Int32))] [(.int (1 : Int32))]))
            refine Go.st (fun _ => XS.ifNo X70.here hx rfl (hb hby at_206) rfl ((if0 _ _).trans (feq (by decide : ¬ ((1 : Int32) = (0 : Int32)))).1)) ?_
            show Go p e below _ (T70.setTop (mkF m 209 #[.val (.int p0), .val (.int p1), .val (.int p2), .val (.ref b1), .val (.ref r11), .val (.int (1 : Int32)), .val (.int (p0 &&& (3 : Int32))), .val (.int z23), .val (.int (1 : Int32)), .val (.ref w_ADOPTER), .val (.ref r62), .val (.int (0 : Int32))] []))
            refine Go.st (fun _ => XS.aloadN X70.here hx rfl (hb hby at_209) rfl rfl) ?_
            show Go p e below _ (T70.setTop (mkF m 210 #[.val (.int p0), .val (.int p1), .val (.int p2), .val (.ref b1), .val (.ref r11), .val (.int (1 : Int32)), .val (.int (p0 &&& (3 : Int32))), .val (.int z23), .val (.int (1 : Int32)), .val (.ref w_ADOPTER), .val (.ref r62), .val (.int (0 : Int32))] [(.ref b1)]))
            refine goVirt X70 hx hZ (y := (⟨"com/example/sidelane/sidelane/Cancellation", "isHandedOver", "()Z"⟩ : MethodName)) (z := (⟨"com/example/sidelane/sidelane/Cancellation", "isHandedOver", "()Z"⟩ : MethodName)) hown (hw _ (List.mem_of_getElem? (i := 16) rfl)) (hw _ (List.mem_of_getElem? (i := 17) rfl)) (notFace_of_selects (args := #[]) (mvT hZ (hw _ (List.mem_of_getElem? (i := 19) rfl)))) (hw _ (List.mem_of_getElem? (i := 19) rfl)) (hw _ (List.mem_of_getElem? (i := 18) rfl)) (hw _ (List.mem_of_getElem? (i := 2) rfl)) (hw _ (List.mem_of_getElem? (i := 20) rfl)) (by decide) (a := b1) (argsL := []) (rest := []) e70 Eb67 (ihN l Z a0 hw [] b1 w_ADOPTER T67.heap n0 O68 Fb0_67 S_w_ADOPTER) 0 (by decide) (by decide) (by decide) (by decide) (mkF m 210 #[.val (.int p0), .val (.int p1), .val (.int p2), .val (.ref b1), .val (.ref r11), .val (.int (1 : Int32)), .val (.int (p0 &&& (3 : Int32))), .val (.int z23), .val (.int (1 : Int32)), .val (.ref w_ADOPTER), .val (.ref r62), .val (.int (0 : Int32))] [(.ref b1)]) rfl (by rw [hml]; rfl) (lenOf pd_2 rfl) rfl (hb hby at_210) (Nat.le_of_eq rfl) ?_
            intro v72 T72 L72 X72 hQ72
            obtain ⟨rfl, M72, e72⟩ := hQ72
            have N72 := Fr.app N70 M72
            show Go p e below _ (T72.setTop (mkF m 213 #[.val (.int p0), .val (.int p1), .val (.int p2), .val (.ref b1), .val (.ref r11), .val (.int (1 : Int32)), .val (.int (p0 &&& (3 : Int32))), .val (.int z23), .val (.int (1 : Int32)), .val (.ref w_ADOPTER), .val (.ref r62), .val (.int (0 : Int32))] [(.int (0 : Int32))]))
            refine Go.st (fun _ => XS.iload X72.here hx rfl (hb hby at_213) rfl) ?_
            show Go p e below _ (T72.setTop (mkF m 215 #[.val (.int p0), .val (.int p1), .val (.int p2), .val (.ref b1), .val (.ref r11), .val (.int (1 : Int32)), .val (.int (p0 &&& (3 : Int32))), .val (.int z23), .val (.int (1 : Int32)), .val (.ref w_ADOPTER), .val (.ref r62), .val (.int (0 : Int32))] [(.int (0 : Int32)), (.int (0 : Int32))]))
            refine Go.st (fun _ => XS.icmpNo X72.here hx rfl (hb hby at_215) rfl (teq (by decide : (0 : Int32) = (0 : Int32))).2) ?_
            show Go p e below _ (T72.setTop (mkF m 218 #[.val (.int p0), .val (.int p1), .val (.int p2), .val (.ref b1), .val (.ref r11), .val (.int (1 : Int32)), .val (.int (p0 &&& (3 : Int32))), .val (.int z23), .val (.int (1 : Int32)), .val (.ref w_ADOPTER), .val (.ref r62), .val (.int (0 : Int32))] []))
            refine Go.st (fun _ => XS.iconst X72.here hx rfl (hb hby at_218)) ?_
            show Go p e below _ (T72.setTop (mkF m 219 #[.val (.int p0), .val (.int p1), .val (.int p2), .val (.ref b1), .val (.ref r11), .val (.int (1 : Int32)), .val (.int (p0 &&& (3 : Int32))), .val (.int z23), .val (.int (1 : Int32)), .val (.ref w_ADOPTER), .val (.ref r62), .val (.int (0 : Int32))] [(.int (1 : Int32))]))
            refine Go.st (fun _ => XS.goto X72.here hx rfl (pc0 := 219) (pc' := 223) rfl (hb hby at_219) (by decide) (by decide)) ?_
            show Go p e below _ (T72.setTop (mkF m 223 #[.val (.int p0), .val (.int p1), .val (.int p2), .val (.ref b1), .val (.ref r11), .val (.int (1 : Int32)), .val (.int (p0 &&& (3 : Int32))), .val (.int z23), .val (.int (1 : Int32)), .val (.ref w_ADOPTER), .val (.ref r62), .val (.int (0 : Int32))] [(.int (1 : Int32))]))
            refine Go.st (fun _ => XS.istore X72.here hx rfl (hb hby at_223) rfl (l' := #[.val (.int p0), .val (.int p1), .val (.int p2), .val (.ref b1), .val (.ref r11), .val (.int (1 : Int32)), .val (.int (p0 &&& (3 : Int32))), .val (.int z23), .val (.int (1 : Int32)), .val (.ref w_ADOPTER), .val (.ref r62), .val (.int (0 : Int32))]) rfl) ?_
            show Go p e below _ (T72.setTop (mkF m 225 #[.val (.int p0), .val (.int p1), .val (.int p2), .val (.ref b1), .val (.ref r11), .val (.int (1 : Int32)), .val (.int (p0 &&& (3 : Int32))), .val (.int z23), .val (.int (1 : Int32)), .val (.ref w_ADOPTER), .val (.ref r62), .val (.int (0 : Int32))] []))
            refine Go.st (fun _ => XS.iload X72.here hx rfl (hb hby at_225) rfl) ?_
            show Go p e below _ (T72.setTop (mkF m 227 #[.val (.int p0), .val (.int p1), .val (.int p2), .val (.ref b1), .val (.ref r11), .val (.int (1 : Int32)), .val (.int (p0 &&& (3 : Int32))), .val (.int z23), .val (.int (1 : Int32)), .val (.ref w_ADOPTER), .val (.ref r62), .val (.int (0 : Int32))] [(.int (1 : Int32))]))
            exact goRetN X72 hx hlk hret (t := .boolean) (by simp) (w := (1 : Int32)) (by decide) e72 (hb hby at_227) (by decide) (by decide) ⟨rfl, N72⟩
          · refine Go.st (fun _ => XS.ifNo X70.here hx rfl (hb hby at_193) rfl ((if0 _ _).trans (feq hc71).1)) ?_
            show Go p e below _ (T70.setTop (mkF m 196 #[.val (.int p0), .val (.int p1), .val (.int p2), .val (.ref b1), .val (.ref r11), .val (.int (1 : Int32)), .val (.int (p0 &&& (3 : Int32))), .val (.int z23), .val (.int (1 : Int32)), .val (.ref w_ADOPTER), .val (.ref r62), .val (.int (0 : Int32))] []))
            refine Go.st (fun _ => XS.aloadN X70.here hx rfl (hb hby at_196) rfl rfl) ?_
            show Go p e below _ (T70.setTop (mkF m 197 #[.val (.int p0), .val (.int p1), .val (.int p2), .val (.ref b1), .val (.ref r11), .val (.int (1 : Int32)), .val (.int (p0 &&& (3 : Int32))), .val (.int z23), .val (.int (1 : Int32)), .val (.ref w_ADOPTER), .val (.ref r62), .val (.int (0 : Int32))] [(.ref b1)]))
            refine Go.st (fun _ => XS.iconst X70.here hx rfl (hb hby at_197)) ?_
            show Go p e below _ (T70.setTop (mkF m 198 #[.val (.int p0), .val (.int p1), .val (.int p2), .val (.ref b1), .val (.ref r11), .val (.int (1 : Int32)), .val (.int (p0 &&& (3 : Int32))), .val (.int z23), .val (.int (1 : Int32)), .val (.ref w_ADOPTER), .val (.ref r62), .val (.int (0 : Int32))] [(.int (0 : Int32)), (.ref b1)]))
            refine Go.st (fun _ => XS.aload X70.here hx rfl (hb hby at_198) rfl rfl) ?_
            show Go p e below _ (T70.setTop (mkF m 200 #[.val (.int p0), .val (.int p1), .val (.int p2), .val (.ref b1), .val (.ref r11), .val (.int (1 : Int32)), .val (.int (p0 &&& (3 : Int32))), .val (.int z23), .val (.int (1 : Int32)), .val (.ref w_ADOPTER), .val (.ref r62), .val (.int (0 : Int32))] [(.ref r11), (.int (0 : Int32)), (.ref b1)]))
            rcases hen with rfl | ⟨a4, rfl⟩
            · show Go p e below _ (T70.setTop (mkF m 200 #[.val (.int p0), .val (.int p1), .val (.int p2), .val (.ref b1), .val (.ref r11), .val (.int (1 : Int32)), .val (.int (p0 &&& (3 : Int32))), .val (.int z23), .val (.int (1 : Int32)), .val (.ref w_ADOPTER), .val (.ref r62), .val (.int (0 : Int32))] [(.ref r11), (.int (0 : Int32)), (.ref b1)]))
              refine goVirtS X70 hx hZ (y := (⟨"com/example/sidelane/sidelane/Cancellation", "cancel", "(ZLjava/lang/Object;)Lcom/example/sidelane/sidelane/Cancellation$Outcome;"⟩ : MethodName)) (z := (⟨"com/example/sidelane/sidelane/Cancellation", "cancel", "(ZLjava/lang/Object;)Lcom/example/sidelane/sidelane/Cancellation$Outcome;"⟩ : MethodName)) hown (hw _ (List.mem_of_getElem? (i := 43) rfl)) (hw _ (List.mem_of_getElem? (i := 44) rfl)) (notFace_of_selects (args := #[]) (mvT hZ (hw _ (List.mem_of_getElem? (i := 46) rfl)))) (hw _ (List.mem_of_getElem? (i := 46) rfl)) (hw _ (List.mem_of_getElem? (i := 45) rfl)) (hw _ (List.mem_of_getElem? (i := 2) rfl)) (hw _ (List.mem_of_getElem? (i := 47) rfl)) (by decide) (a := b1) (argsL := [(.int (0 : Int32)), (.ref r11)]) (rest := []) e70 Eb67 (caC l Z a0 hw b1 (0 : Int32) r11 (.ref a6) w_EXECUTE w_ADOPTER w_CANCELLED w_REFUSED w_HANDED_OVER w_CANCELLED_UNEXECUTED w_ENDING_NEEDED eb T67.heap n0 O68 Ub67 gn1 Eb67 Fb0_67 Fb1_67 Fb2_67 Fb3_67 Fb4_67 Fb5_67 Fb6_67 S_w_EXECUTE S_w_ADOPTER S_w_CANCELLED S_w_REFUSED S_w_HANDED_OVER S_w_CANCELLED_UNEXECUTED S_w_ENDING_NEEDED ne_w_EXECUTE_w_ADOPTER) 0 (by decide) (by decide) (by decide) (by decide) (mkF m 200 #[.val (.int p0), .val (.int p1), .val (.int p2), .val (.ref b1), .val (.ref r11), .val (.int (1 : Int32)), .val (.int (p0 &&& (3 : Int32))), .val (.int z23), .val (.int (1 : Int32)), .val (.ref w_ADOPTER), .val (.ref r62), .val (.int (0 : Int32))] [(.ref r11), (.int (0 : Int32)), (.ref b1)]) rfl (by rw [hml]; rfl) (lenOf pd_6 rfl) rfl (hb hby at_200) (Nat.le_of_eq rfl) ?_
              intro v73 T73 L73 X73 hQ73
              obtain ⟨⟨r73, rfl⟩, M73, K73, ⟨Eb73, Ub73, Fb0_73, Fb1_73, Fb2_73, Fb3_73, Fb4_73, Fb5_73, Fb6_73⟩⟩ := hQ73
              have N73 := Fr.app N70 M73
              have O74 : Old Z n0 T73.heap := O68.keep K73 (allS gn1 all0)
              have E_75 : Exa Z T73.heap b1 "com/example/sidelane/sidelane/Cancellation" := Eb67.keep K73
              show Go p e below _ (T73.setTop (mkF m 203 #[.val (.int p0), .val (.int p1), .val (.int p2), .val (.ref b1), .val (.ref r11), .val (.int (1 : Int32)), .val (.int (p0 &&& (3 : Int32))), .val (.int z23), .val (.int (1 : Int32)), .val (.ref w_ADOPTER), .val (.ref r62), .val (.int (0 : Int32))] [(.ref r73)]))
              refine Go.st (fun _ => XS.pop X73.here hx rfl (hb hby at_203) rfl rfl) ?_
              show Go p e below _ (T73.setTop (mkF m 204 #[.val (.int p0), .val (.int p1), .val (.int p2), .val (.ref b1), .val (.ref r11), .val (.int (1 : Int32)), .val (.int (p0 &&& (3 : Int32))), .val (.int z23), .val (.int (1 : Int32)), .val (.ref w_ADOPTER), .val (.ref r62), .val (.int (0 : Int32))] []))
              refine Go.st (fun _ => XS.iload X73.here hx rfl (hb hby at_204) rfl) ?_
              show Go p e below _ (T73.setTop (mkF m 206 #[.val (.int p0), .val (.int p1), .val (.int p2), .val (.ref b1), .val (.ref r11), .val (.int (1 : Int32)), .val (.int (p0 &&& (3 : Int32))), .val (.int z23), .val (.int (1 : Int32)), .val (.ref w_ADOPTER), .val (.ref r62), .val (.int (0 : Int32))] [(.int (1 : Int32))]))
              refine Go.st (fun _ => XS.ifNo X73.here hx rfl (hb hby at_206) rfl ((if0 _ _).trans (feq (by decide : ¬ ((1 : Int32) = (0 : Int32)))).1)) ?_
              show Go p e below _ (T73.setTop (mkF m 209 #[.val (.int p0), .val (.int p1), .val (.int p2), .val (.ref b1), .val (.ref r11), .val (.int (1 : Int32)), .val (.int (p0 &&& (3 : Int32))), .val (.int z23), .val (.int (1 : Int32)), .val (.ref w_ADOPTER), .val (.ref r62), .val (.int (0 : Int32))] []))
              refine Go.st (fun _ => XS.aloadN X73.here hx rfl (hb hby at_209) rfl rfl) ?_
              show Go p e below _ (T73.setTop (mkF m 210 #[.val (.int p0), .val (.int p1), .val (.int p2), .val (.ref b1), .val (.ref r11), .val (.int (1 : Int32)), .val (.int (p0 &&& (3 : Int32))), .val (.int z23), .val (.int (1 : Int32)), .val (.ref w_ADOPTER), .val (.ref r62), .val (.int (0 : Int32))] [(.ref b1)]))
              refine goVirt X73 hx hZ (y := (⟨"com/example/sidelane/sidelane/Cancellation", "isHandedOver", "()Z"⟩ : MethodName)) (z := (⟨"com/example/sidelane/sidelane/Cancellation", "isHandedOver", "()Z"⟩ : MethodName)) hown (hw _ (List.mem_of_getElem? (i := 16) rfl)) (hw _ (List.mem_of_getElem? (i := 17) rfl)) (notFace_of_selects (args := #[]) (mvT hZ (hw _ (List.mem_of_getElem? (i := 19) rfl)))) (hw _ (List.mem_of_getElem? (i := 19) rfl)) (hw _ (List.mem_of_getElem? (i := 18) rfl)) (hw _ (List.mem_of_getElem? (i := 2) rfl)) (hw _ (List.mem_of_getElem? (i := 20) rfl)) (by decide) (a := b1) (argsL := []) (rest := []) rfl Eb73 (ihN l Z a0 hw [] b1 w_ADOPTER T73.heap n0 O74 Fb0_73 S_w_ADOPTER) 0 (by decide) (by decide) (by decide) (by decide) (mkF m 210 #[.val (.int p0), .val (.int p1), .val (.int p2), .val (.ref b1), .val (.ref r11), .val (.int (1 : Int32)), .val (.int (p0 &&& (3 : Int32))), .val (.int z23), .val (.int (1 : Int32)), .val (.ref w_ADOPTER), .val (.ref r62), .val (.int (0 : Int32))] [(.ref b1)]) rfl (by rw [hml]; rfl) (lenOf pd_2 rfl) rfl (hb hby at_210) (Nat.le_of_eq rfl) ?_
              intro v76 T76 L76 X76 hQ76
              obtain ⟨rfl, M76, e76⟩ := hQ76
              have N76 := Fr.app N73 M76
              show Go p e below _ (T76.setTop (mkF m 213 #[.val (.int p0), .val (.int p1), .val (.int p2), .val (.ref b1), .val (.ref r11), .val (.int (1 : Int32)), .val (.int (p0 &&& (3 : Int32))), .val (.int z23), .val (.int (1 : Int32)), .val (.ref w_ADOPTER), .val (.ref r62), .val (.int (0 : Int32))] [(.int (0 : Int32))]))
              refine Go.st (fun _ => XS.iload X76.here hx rfl (hb hby at_213) rfl) ?_
              show Go p e below _ (T76.setTop (mkF m 215 #[.val (.int p0), .val (.int p1), .val (.int p2), .val (.ref b1), .val (.ref r11), .val (.int (1 : Int32)), .val (.int (p0 &&& (3 : Int32))), .val (.int z23), .val (.int (1 : Int32)), .val (.ref w_ADOPTER), .val (.ref r62), .val (.int (0 : Int32))] [(.int (0 : Int32)), (.int (0 : Int32))]))
              refine Go.st (fun _ => XS.icmpNo X76.here hx rfl (hb hby at_215) rfl (teq (by decide : (0 : Int32) = (0 : Int32))).2) ?_
              show Go p e below _ (T76.setTop (mkF m 218 #[.val (.int p0), .val (.int p1), .val (.int p2), .val (.ref b1), .val (.ref r11), .val (.int (1 : Int32)), .val (.int (p0 &&& (3 : Int32))), .val (.int z23), .val (.int (1 : Int32)), .val (.ref w_ADOPTER), .val (.ref r62), .val (.int (0 : Int32))] []))
              refine Go.st (fun _ => XS.iconst X76.here hx rfl (hb hby at_218)) ?_
              show Go p e below _ (T76.setTop (mkF m 219 #[.val (.int p0), .val (.int p1), .val (.int p2), .val (.ref b1), .val (.ref r11), .val (.int (1 : Int32)), .val (.int (p0 &&& (3 : Int32))), .val (.int z23), .val (.int (1 : Int32)), .val (.ref w_ADOPTER), .val (.ref r62), .val (.int (0 : Int32))] [(.int (1 : Int32))]))
              refine Go.st (fun _ => XS.goto X76.here hx rfl (pc0 := 219) (pc' := 223) rfl (hb hby at_219) (by decide) (by decide)) ?_
              show Go p e below _ (T76.setTop (mkF m 223 #[.val (.int p0), .val (.int p1), .val (.int p2), .val (.ref b1), .val (.ref r11), .val (.int (1 : Int32)), .val (.int (p0 &&& (3 : Int32))), .val (.int z23), .val (.int (1 : Int32)), .val (.ref w_ADOPTER), .val (.ref r62), .val (.int (0 : Int32))] [(.int (1 : Int32))]))
              refine Go.st (fun _ => XS.istore X76.here hx rfl (hb hby at_223) rfl (l' := #[.val (.int p0), .val (.int p1), .val (.int p2), .val (.ref b1), .val (.ref r11), .val (.int (1 : Int32)), .val (.int (p0 &&& (3 : Int32))), .val (.int z23), .val (.int (1 : Int32)), .val (.ref w_ADOPTER), .val (.ref r62), .val (.int (0 : Int32))]) rfl) ?_
              show Go p e below _ (T76.setTop (mkF m 225 #[.val (.int p0), .val (.int p1), .val (.int p2), .val (.ref b1), .val (.ref r11), .val (.int (1 : Int32)), .val (.int (p0 &&& (3 : Int32))), .val (.int z23), .val (.int (1 : Int32)), .val (.ref w_ADOPTER), .val (.ref r62), .val (.int (0 : Int32))] []))
              refine Go.st (fun _ => XS.iload X76.here hx rfl (hb hby at_225) rfl) ?_
              show Go p e below _ (T76.setTop (mkF m 227 #[.val (.int p0), .val (.int p1), .val (.int p2), .val (.ref b1), .val (.ref r11), .val (.int (1 : Int32)), .val (.int (p0 &&& (3 : Int32))), .val (.int z23), .val (.int (1 : Int32)), .val (.ref w_ADOPTER), .val (.ref r62), .val (.int (0 : Int32))] [(.int (1 : Int32))]))
              exact goRetN X76 hx hlk hret (t := .boolean) (by simp) (w := (1 : Int32)) (by decide) e76 (hb hby at_227) (by decide) (by decide) ⟨rfl, N76⟩
            · show Go p e below _ (T70.setTop (mkF m 200 #[.val (.int p0), .val (.int p1), .val (.int p2), .val (.ref b1), .val (.ref r11), .val (.int (1 : Int32)), .val (.int (p0 &&& (3 : Int32))), .val (.int z23), .val (.int (1 : Int32)), .val (.ref w_ADOPTER), .val (.ref r62), .val (.int (0 : Int32))] [(.ref r11), (.int (0 : Int32)), (.ref b1)]))
              refine goVirtS X70 hx hZ (y := (⟨"com/example/sidelane/sidelane/Cancellation", "cancel", "(ZLjava/lang/Object;)Lcom/example/sidelane/sidelane/Cancellation$Outcome;"⟩ : MethodName)) (z := (⟨"com/example/sidelane/sidelane/Cancellation", "cancel", "(ZLjava/lang/Object;)Lcom/example/sidelane/sidelane/Cancellation$Outcome;"⟩ : MethodName)) hown (hw _ (List.mem_of_getElem? (i := 43) rfl)) (hw _ (List.mem_of_getElem? (i := 44) rfl)) (notFace_of_selects (args := #[]) (mvT hZ (hw _ (List.mem_of_getElem? (i := 46) rfl)))) (hw _ (List.mem_of_getElem? (i := 46) rfl)) (hw _ (List.mem_of_getElem? (i := 45) rfl)) (hw _ (List.mem_of_getElem? (i := 2) rfl)) (hw _ (List.mem_of_getElem? (i := 47) rfl)) (by decide) (a := b1) (argsL := [(.int (0 : Int32)), (.ref r11)]) (rest := []) e70 Eb67 (caD l Z a0 hw b1 (0 : Int32) r11 a4 a6  w_EXECUTE w_ADOPTER w_CANCELLED w_REFUSED w_HANDED_OVER w_CANCELLED_UNEXECUTED w_ENDING_NEEDED eb T67.heap n0 O68 Ub67 gn1 Eb67 Fb0_67 Fb1_67 Fb2_67 Fb3_67 Fb4_67 Fb5_67 Fb6_67 S_w_EXECUTE S_w_ADOPTER S_w_CANCELLED S_w_REFUSED S_w_HANDED_OVER S_w_CANCELLED_UNEXECUTED S_w_ENDING_NEEDED ne_w_EXECUTE_w_ADOPTER) 0 (by decide) (by decide) (by decide) (by decide) (mkF m 200 #[.val (.int p0), .val (.int p1), .val (.int p2), .val (.ref b1), .val (.ref r11), .val (.int (1 : Int32)), .val (.int (p0 &&& (3 : Int32))), .val (.int z23), .val (.int (1 : Int32)), .val (.ref w_ADOPTER), .val (.ref r62), .val (.int (0 : Int32))] [(.ref r11), (.int (0 : Int32)), (.ref b1)]) rfl (by rw [hml]; rfl) (lenOf pd_6 rfl) rfl (hb hby at_200) (Nat.le_of_eq rfl) ?_
              intro v77 T77 L77 X77 hQ77
              obtain ⟨⟨r77, rfl⟩, M77, K77, ⟨Eb77, Ub77, Fb0_77, Fb1_77, Fb2_77, Fb3_77, Fb4_77, Fb5_77, Fb6_77⟩⟩ := hQ77
              have N77 := Fr.app N70 M77
              have O78 : Old Z n0 T77.heap := O68.keep K77 (allS gn1 all0)
              have E_79 : Exa Z T77.heap b1 "com/example/sidelane/sidelane/Cancellation" := Eb67.keep K77
              show Go p e below _ (T77.setTop (mkF m 203 #[.val (.int p0), .val (.int p1), .val (.int p2), .val (.ref b1), .val (.ref r11), .val (.int (1 : Int32)), .val (.int (p0 &&& (3 : Int32))), .val (.int z23), .val (.int (1 : Int32)), .val (.ref w_ADOPTER), .val (.ref r62), .val (.int (0 : Int32))] [(.ref r77)]))
              refine Go.st (fun _ => XS.pop X77.here hx rfl (hb hby at_203) rfl rfl) ?_
              show Go p e below _ (T77.setTop (mkF m 204 #[.val (.int p0), .val (.int p1), .val (.int p2), .val (.ref b1), .val (.ref r11), .val (.int (1 : Int32)), .val (.int (p0 &&& (3 : Int32))), .val (.int z23), .val (.int (1 : Int32)), .val (.ref w_ADOPTER), .val (.ref r62), .val (.int (0 : Int32))] []))
              refine Go.st (fun _ => XS.iload X77.here hx rfl (hb hby at_204) rfl) ?_
              show Go p e below _ (T77.setTop (mkF m 206 #[.val (.int p0), .val (.int p1), .val (.int p2), .val (.ref b1), .val (.ref r11), .val (.int (1 : Int32)), .val (.int (p0 &&& (3 : Int32))), .val (.int z23), .val (.int (1 : Int32)), .val (.ref w_ADOPTER), .val (.ref r62), .val (.int (0 : Int32))] [(.int (1 : Int32))]))
              refine Go.st (fun _ => XS.ifNo X77.here hx rfl (hb hby at_206) rfl ((if0 _ _).trans (feq (by decide : ¬ ((1 : Int32) = (0 : Int32)))).1)) ?_
              show Go p e below _ (T77.setTop (mkF m 209 #[.val (.int p0), .val (.int p1), .val (.int p2), .val (.ref b1), .val (.ref r11), .val (.int (1 : Int32)), .val (.int (p0 &&& (3 : Int32))), .val (.int z23), .val (.int (1 : Int32)), .val (.ref w_ADOPTER), .val (.ref r62), .val (.int (0 : Int32))] []))
              refine Go.st (fun _ => XS.aloadN X77.here hx rfl (hb hby at_209) rfl rfl) ?_
              show Go p e below _ (T77.setTop (mkF m 210 #[.val (.int p0), .val (.int p1), .val (.int p2), .val (.ref b1), .val (.ref r11), .val (.int (1 : Int32)), .val (.int (p0 &&& (3 : Int32))), .val (.int z23), .val (.int (1 : Int32)), .val (.ref w_ADOPTER), .val (.ref r62), .val (.int (0 : Int32))] [(.ref b1)]))
              refine goVirt X77 hx hZ (y := (⟨"com/example/sidelane/sidelane/Cancellation", "isHandedOver", "()Z"⟩ : MethodName)) (z := (⟨"com/example/sidelane/sidelane/Cancellation", "isHandedOver", "()Z"⟩ : MethodName)) hown (hw _ (List.mem_of_getElem? (i := 16) rfl)) (hw _ (List.mem_of_getElem? (i := 17) rfl)) (notFace_of_selects (args := #[]) (mvT hZ (hw _ (List.mem_of_getElem? (i := 19) rfl)))) (hw _ (List.mem_of_getElem? (i := 19) rfl)) (hw _ (List.mem_of_getElem? (i := 18) rfl)) (hw _ (List.mem_of_getElem? (i := 2) rfl)) (hw _ (List.mem_of_getElem? (i := 20) rfl)) (by decide) (a := b1) (argsL := []) (rest := []) rfl Eb77 (ihN l Z a0 hw [] b1 w_ADOPTER T77.heap n0 O78 Fb0_77 S_w_ADOPTER) 0 (by decide) (by decide) (by decide) (by decide) (mkF m 210 #[.val (.int p0), .val (.int p1), .val (.int p2), .val (.ref b1), .val (.ref r11), .val (.int (1 : Int32)), .val (.int (p0 &&& (3 : Int32))), .val (.int z23), .val (.int (1 : Int32)), .val (.ref w_ADOPTER), .val (.ref r62), .val (.int (0 : Int32))] [(.ref b1)]) rfl (by rw [hml]; rfl) (lenOf pd_2 rfl) rfl (hb hby at_210) (Nat.le_of_eq rfl) ?_
              intro v80 T80 L80 X80 hQ80
              obtain ⟨rfl, M80, e80⟩ := hQ80
              have N80 := Fr.app N77 M80
              show Go p e below _ (T80.setTop (mkF m 213 #[.val (.int p0), .val (.int p1), .val (.int p2), .val (.ref b1), .val (.ref r11), .val (.int (1 : Int32)), .val (.int (p0 &&& (3 : Int32))), .val (.int z23), .val (.int (1 : Int32)), .val (.ref w_ADOPTER), .val (.ref r62), .val (.int (0 : Int32))] [(.int (0 : Int32))]))
              refine Go.st (fun _ => XS.iload X80.here hx rfl (hb hby at_213) rfl) ?_
              show Go p e below _ (T80.setTop (mkF m 215 #[.val (.int p0), .val (.int p1), .val (.int p2), .val (.ref b1), .val (.ref r11), .val (.int (1 : Int32)), .val (.int (p0 &&& (3 : Int32))), .val (.int z23), .val (.int (1 : Int32)), .val (.ref w_ADOPTER), .val (.ref r62), .val (.int (0 : Int32))] [(.int (0 : Int32)), (.int (0 : Int32))]))
              refine Go.st (fun _ => XS.icmpNo X80.here hx rfl (hb hby at_215) rfl (teq (by decide : (0 : Int32) = (0 : Int32))).2) ?_
              show Go p e below _ (T80.setTop (mkF m 218 #[.val (.int p0), .val (.int p1), .val (.int p2), .val (.ref b1), .val (.ref r11), .val (.int (1 : Int32)), .val (.int (p0 &&& (3 : Int32))), .val (.int z23), .val (.int (1 : Int32)), .val (.ref w_ADOPTER), .val (.ref r62), .val (.int (0 : Int32))] []))
              refine Go.st (fun _ => XS.iconst X80.here hx rfl (hb hby at_218)) ?_
              show Go p e below _ (T80.setTop (mkF m 219 #[.val (.int p0), .val (.int p1), .val (.int p2), .val (.ref b1), .val (.ref r11), .val (.int (1 : Int32)), .val (.int (p0 &&& (3 : Int32))), .val (.int z23), .val (.int (1 : Int32)), .val (.ref w_ADOPTER), .val (.ref r62), .val (.int (0 : Int32))] [(.int (1 : Int32))]))
              refine Go.st (fun _ => XS.goto X80.here hx rfl (pc0 := 219) (pc' := 223) rfl (hb hby at_219) (by decide) (by decide)) ?_
              show Go p e below _ (T80.setTop (mkF m 223 #[.val (.int p0), .val (.int p1), .val (.int p2), .val (.ref b1), .val (.ref r11), .val (.int (1 : Int32)), .val (.int (p0 &&& (3 : Int32))), .val (.int z23), .val (.int (1 : Int32)), .val (.ref w_ADOPTER), .val (.ref r62), .val (.int (0 : Int32))] [(.int (1 : Int32))]))
              refine Go.st (fun _ => XS.istore X80.here hx rfl (hb hby at_223) rfl (l' := #[.val (.int p0), .val (.int p1), .val (.int p2), .val (.ref b1), .val (.ref r11), .val (.int (1 : Int32)), .val (.int (p0 &&& (3 : Int32))), .val (.int z23), .val (.int (1 : Int32)), .val (.ref w_ADOPTER), .val (.ref r62), .val (.int (0 : Int32))]) rfl) ?_
              show Go p e below _ (T80.setTop (mkF m 225 #[.val (.int p0), .val (.int p1), .val (.int p2), .val (.ref b1), .val (.ref r11), .val (.int (1 : Int32)), .val (.int (p0 &&& (3 : Int32))), .val (.int z23), .val (.int (1 : Int32)), .val (.ref w_ADOPTER), .val (.ref r62), .val (.int (0 : Int32))] []))
              refine Go.st (fun _ => XS.iload X80.here hx rfl (hb hby at_225) rfl) ?_
              show Go p e below _ (T80.setTop (mkF m 227 #[.val (.int p0), .val (.int p1), .val (.int p2), .val (.ref b1), .val (.ref r11), .val (.int (1 : Int32)), .val (.int (p0 &&& (3 : Int32))), .val (.int z23), .val (.int (1 : Int32)), .val (.ref w_ADOPTER), .val (.ref r62), .val (.int (0 : Int32))] [(.int (1 : Int32))]))
              exact goRetN X80 hx hlk hret (t := .boolean) (by simp) (w := (1 : Int32)) (by decide) e80 (hb hby at_227) (by decide) (by decide) ⟨rfl, N80⟩
        · obtain rfl : v61 = some (.ref w_EXECUTE) := by rw [hv61, hr61]
          show Go p e below _ (T61.setTop (mkF m 104 #[.val (.int p0), .val (.int p1), .val (.int p2), .val (.ref b1), .val (.ref r11), .val (.int (1 : Int32)), .val (.int (p0 &&& (3 : Int32))), .val (.int z23), .val (.int (1 : Int32)), .unset, .unset, .unset] [(.ref w_EXECUTE)]))
          refine Go.st (fun _ => XS.astore X61.here hx rfl (hb hby at_104) rfl rfl (l' := #[.val (.int p0), .val (.int p1), .val (.int p2), .val (.ref b1), .val (.ref r11), .val (.int (1 : Int32)), .val (.int (p0 &&& (3 : Int32))), .val (.int z23), .val (.int (1 : Int32)), .val (.ref w_EXECUTE), .unset, .unset]) rfl) ?_
          show Go p e below _ (T61.setTop (mkF m 106 #[.val (.int p0), .val (.int p1), .val (.int p2), .val (.ref b1), .val (.ref r11), .val (.int (1 : Int32)), .val (.int (p0 &&& (3 : Int32))), .val (.int z23), .val (.int (1 : Int32)), .val (.ref w_EXECUTE), .unset, .unset] []))
          refine Go.st (fun _ => XS.iloadN X61.here hx rfl (hb hby at_106) rfl) ?_
          show Go p e below _ (T61.setTop (mkF m 107 #[.val (.int p0), .val (.int p1), .val (.int p2), .val (.ref b1), .val (.ref r11), .val (.int (1 : Int32)), .val (.int (p0 &&& (3 : Int32))), .val (.int z23), .val (.int (1 : Int32)), .val (.ref w_EXECUTE), .unset, .unset] [(.int p1)]))
          refine Go.st (fun _ => XS.iconst X61.here hx rfl (hb hby at_107)) ?_
          show Go p e below _ (T61.setTop (mkF m 108 #[.val (.int p0), .val (.int p1), .val (.int p2), .val (.ref b1), .val (.ref r11), .val (.int (1 : Int32)), .val (.int (p0 &&& (3 : Int32))), .val (.int z23), .val (.int (1 : Int32)), .val (.ref w_EXECUTE), .unset, .unset] [(.int (2 : Int32)), (.int p1)]))
          refine Go.st (fun _ => XS.iand X61.here hx rfl (hb hby at_108) rfl) ?_
          show Go p e below _ (T61.setTop (mkF m 109 #[.val (.int p0), .val (.int p1), .val (.int p2), .val (.ref b1), .val (.ref r11), .val (.int (1 : Int32)), .val (.int (p0 &&& (3 : Int32))), .val (.int z23), .val (.int (1 : Int32)), .val (.ref w_EXECUTE), .unset, .unset] [(.int (p1 &&& (2 : Int32)))]))
          refine goCallS X61 hx hZ (y := (⟨"com/example/sidelane/sidelane/CancellationIsHandedOverPinLaw", "pick", "(I)Lcom/example/sidelane/sidelane/Cancellation$Claimant;"⟩ : MethodName)) hown (hw _ (List.mem_of_getElem? (i := 26) rfl)) (hw _ (List.mem_of_getElem? (i := 27) rfl)) (hw _ (List.mem_of_getElem? (i := 28) rfl)) (hw _ (List.mem_of_getElem? (i := 29) rfl)) (by decide) (argsL := [(.int (p1 &&& (2 : Int32)))]) (rest := []) e61 (rmP l Z a0 hw [] (p1 &&& (2 : Int32)) w_EXECUTE w_ADOPTER hD n0 f0_D S_w_EXECUTE S_w_ADOPTER) 0 (by decide) (by decide) (by decide) (by decide) (mkF m 109 #[.val (.int p0), .val (.int p1), .val (.int p2), .val (.ref b1), .val (.ref r11), .val (.int (1 : Int32)), .val (.int (p0 &&& (3 : Int32))), .val (.int z23), .val (.int (1 : Int32)), .val (.ref w_EXECUTE), .unset, .unset] [(.int (p1 &&& (2 : Int32)))]) rfl (by rw [hml]; rfl) (lenOf pd_4 rfl) rfl (hb hby at_109) (Nat.le_of_eq rfl) ?_
          intro v81 T81 L81 X81 hQ81
          obtain ⟨⟨r81, hv81, hr81⟩, M81, e81⟩ := hQ81
          have N81 := Fr.app N61 M81
          subst hv81
          show Go p e below _ (T81.setTop (mkF m 112 #[.val (.int p0), .val (.int p1), .val (.int p2), .val (.ref b1), .val (.ref r11), .val (.int (1 : Int32)), .val (.int (p0 &&& (3 : Int32))), .val (.int z23), .val (.int (1 : Int32)), .val (.ref w_EXECUTE), .unset, .unset] [(.ref r81)]))
          refine Go.st (fun _ => XS.astore X81.here hx rfl (hb hby at_112) rfl rfl (l' := #[.val (.int p0), .val (.int p1), .val (.int p2), .val (.ref b1), .val (.ref r11), .val (.int (1 : Int32)), .val (.int (p0 &&& (3 : Int32))), .val (.int z23), .val (.int (1 : Int32)), .val (.ref w_EXECUTE), .val (.ref r81), .unset]) rfl) ?_
          show Go p e below _ (T81.setTop (mkF m 114 #[.val (.int p0), .val (.int p1), .val (.int p2), .val (.ref b1), .val (.ref r11), .val (.int (1 : Int32)), .val (.int (p0 &&& (3 : Int32))), .val (.int z23), .val (.int (1 : Int32)), .val (.ref w_EXECUTE), .val (.ref r81), .unset] []))
          refine Go.st (fun _ => XS.aloadN X81.here hx rfl (hb hby at_114) rfl rfl) ?_
          show Go p e below _ (T81.setTop (mkF m 115 #[.val (.int p0), .val (.int p1), .val (.int p2), .val (.ref b1), .val (.ref r11), .val (.int (1 : Int32)), .val (.int (p0 &&& (3 : Int32))), .val (.int z23), .val (.int (1 : Int32)), .val (.ref w_EXECUTE), .val (.ref r81), .unset] [(.ref b1)]))
          refine Go.st (fun _ => XS.aload X81.here hx rfl (hb hby at_115) rfl rfl) ?_
          show Go p e below _ (T81.setTop (mkF m 117 #[.val (.int p0), .val (.int p1), .val (.int p2), .val (.ref b1), .val (.ref r11), .val (.int (1 : Int32)), .val (.int (p0 &&& (3 : Int32))), .val (.int z23), .val (.int (1 : Int32)), .val (.ref w_EXECUTE), .val (.ref r81), .unset] [(.ref w_EXECUTE), (.ref b1)]))
          refine goVirtS X81 hx hZ (y := (⟨"com/example/sidelane/sidelane/Cancellation", "claim", "(Lcom/example/sidelane/sidelane/Cancellation$Claimant;)Z"⟩ : MethodName)) (z := (⟨"com/example/sidelane/sidelane/Cancellation", "claim", "(Lcom/example/sidelane/sidelane/Cancellation$Claimant;)Z"⟩ : MethodName)) hown (hw _ (List.mem_of_getElem? (i := 31) rfl)) (hw _ (List.mem_of_getElem? (i := 32) rfl)) (notFace_of_selects (args := #[]) (mvT hZ (hw _ (List.mem_of_getElem? (i := 34) rfl)))) (hw _ (List.mem_of_getElem? (i := 34) rfl)) (hw _ (List.mem_of_getElem? (i := 33) rfl)) (hw _ (List.mem_of_getElem? (i := 2) rfl)) (hw _ (List.mem_of_getElem? (i := 35) rfl)) (by decide) (a := b1) (argsL := [(.ref w_EXECUTE)]) (rest := []) e81 Ebc1 (cm01 l Z a0 hw b1 w_EXECUTE en (.ref a6) eb hD n0 f0_D Ubc1 gn1 Ebc1 Fb0_c1 Fb1_c1 Fb2_c1 Fb3_c1 Fb4_c1 Fb5_c1 Fb6_c1) 0 (by decide) (by decide) (by decide) (by decide) (mkF m 117 #[.val (.int p0), .val (.int p1), .val (.int p2), .val (.ref b1), .val (.ref r11), .val (.int (1 : Int32)), .val (.int (p0 &&& (3 : Int32))), .val (.int z23), .val (.int (1 : Int32)), .val (.ref w_EXECUTE), .val (.ref r81), .unset] [(.ref w_EXECUTE), (.ref b1)]) rfl (by rw [hml]; rfl) (lenOf pd_5 rfl) rfl (hb hby at_117) (Nat.le_of_eq rfl) ?_
          intro v82 T82 L82 X82 hQ82
          obtain ⟨rfl, M82, K82, ⟨Eb82, Ub82, Fb0_82, Fb1_82, Fb2_82, Fb3_82, Fb4_82, Fb5_82, Fb6_82⟩⟩ := hQ82
          have N82 := Fr.app N81 M82
          have O83 : Old Z n0 T82.heap := f0_D.keep K82 (allS gn1 all0)
          have E_84 : Exa Z T82.heap b1 "com/example/sidelane/sidelane/Cancellation" := Ebc1.keep K82
          show Go p e below _ (T82.setTop (mkF m 120 #[.val (.int p0), .val (.int p1), .val (.int p2), .val (.ref b1), .val (.ref r11), .val (.int (1 : Int32)), .val (.int (p0 &&& (3 : Int32))), .val (.int z23), .val (.int (1 : Int32)), .val (.ref w_EXECUTE), .val (.ref r81), .unset] [(.int (0 : Int32))]))
          refine Go.st (fun _ => XS.pop X82.here hx rfl (hb hby at_120) rfl rfl) ?_
          show Go p e below _ (T82.setTop (mkF m 121 #[.val (.int p0), .val (.int p1), .val (.int p2), .val (.ref b1), .val (.ref r11), .val (.int (1 : Int32)), .val (.int (p0 &&& (3 : Int32))), .val (.int z23), .val (.int (1 : Int32)), .val (.ref w_EXECUTE), .val (.ref r81), .unset] []))
          refine Go.st (fun _ => XS.iload X82.here hx rfl (hb hby at_121) rfl) ?_
          show Go p e below _ (T82.setTop (mkF m 123 #[.val (.int p0), .val (.int p1), .val (.int p2), .val (.ref b1), .val (.ref r11), .val (.int (1 : Int32)), .val (.int (p0 &&& (3 : Int32))), .val (.int z23), .val (.int (1 : Int32)), .val (.ref w_EXECUTE), .val (.ref r81), .unset] [(.int (1 : Int32))]))
          refine Go.st (fun _ => XS.ifYes X82.here hx rfl (pc0 := 123) (pc' := 138) rfl (hb hby at_123) rfl ((if0 _ _).trans (feq (by decide : ¬ ((1 : Int32) = (0 : Int32)))).2) (by decide) (by decide)) ?_
          show Go p e below _ (T82.setTop (mkF m 138 #[.val (.int p0), .val (.int p1), .val (.int p2), .val (.ref b1), .val (.ref r11), .val (.int (1 : Int32)), .val (.int (p0 &&& (3 : Int32))), .val (.int z23), .val (.int (1 : Int32)), .val (.ref w_EXECUTE), .val (.ref r81), .unset] []))
          refine Go.st (fun _ => XS.iconst X82.here hx rfl (hb hby at_138)) ?_
          show Go p e below _ (T82.setTop (mkF m 139 #[.val (.int p0), .val (.int p1), .val (.int p2), .val (.ref b1), .val (.ref r11), .val (.int (1 : Int32)), .val (.int (p0 &&& (3 : Int32))), .val (.int z23), .val (.int (1 : Int32)), .val (.ref w_EXECUTE), .val (.ref r81), .unset] [(.int (0 : Int32))]))
          refine Go.st (fun _ => XS.istore X82.here hx rfl (hb hby at_139) rfl (l' := #[.val (.int p0), .val (.int p1), .val (.int p2), .val (.ref b1), .val (.ref r11), .val (.int (1 : Int32)), .val (.int (p0 &&& (3 : Int32))), .val (.int z23), .val (.int (1 : Int32)), .val (.ref w_EXECUTE), .val (.ref r81), .val (.int (0 : Int32))]) rfl) ?_
          show Go p e below _ (T82.setTop (mkF m 141 #[.val (.int p0), .val (.int p1), .val (.int p2), .val (.ref b1), .val (.ref r11), .val (.int (1 : Int32)), .val (.int (p0 &&& (3 : Int32))), .val (.int z23), .val (.int (1 : Int32)), .val (.ref w_EXECUTE), .val (.ref r81), .val (.int (0 : Int32))] []))
          refine Go.st (fun _ => XS.iload X82.here hx rfl (hb hby at_141) rfl) ?_
          show Go p e below _ (T82.setTop (mkF m 143 #[.val (.int p0), .val (.int p1), .val (.int p2), .val (.ref b1), .val (.ref r11), .val (.int (1 : Int32)), .val (.int (p0 &&& (3 : Int32))), .val (.int z23), .val (.int (1 : Int32)), .val (.ref w_EXECUTE), .val (.ref r81), .val (.int (0 : Int32))] [(.int (1 : Int32))]))
          refine Go.st (fun _ => XS.ifNo X82.here hx rfl (hb hby at_143) rfl ((if0 _ _).trans (feq (by decide : ¬ ((1 : Int32) = (0 : Int32)))).1)) ?_
          show Go p e below _ (T82.setTop (mkF m 146 #[.val (.int p0), .val (.int p1), .val (.int p2), .val (.ref b1), .val (.ref r11), .val (.int (1 : Int32)), .val (.int (p0 &&& (3 : Int32))), .val (.int z23), .val (.int (1 : Int32)), .val (.ref w_EXECUTE), .val (.ref r81), .val (.int (0 : Int32))] []))
          refine Go.st (fun _ => XS.aloadN X82.here hx rfl (hb hby at_146) rfl rfl) ?_
          show Go p e below _ (T82.setTop (mkF m 147 #[.val (.int p0), .val (.int p1), .val (.int p2), .val (.ref b1), .val (.ref r11), .val (.int (1 : Int32)), .val (.int (p0 &&& (3 : Int32))), .val (.int z23), .val (.int (1 : Int32)), .val (.ref w_EXECUTE), .val (.ref r81), .val (.int (0 : Int32))] [(.ref b1)]))
          refine goVirt X82 hx hZ (y := (⟨"com/example/sidelane/sidelane/Cancellation", "isHandedOver", "()Z"⟩ : MethodName)) (z := (⟨"com/example/sidelane/sidelane/Cancellation", "isHandedOver", "()Z"⟩ : MethodName)) hown (hw _ (List.mem_of_getElem? (i := 16) rfl)) (hw _ (List.mem_of_getElem? (i := 17) rfl)) (notFace_of_selects (args := #[]) (mvT hZ (hw _ (List.mem_of_getElem? (i := 19) rfl)))) (hw _ (List.mem_of_getElem? (i := 19) rfl)) (hw _ (List.mem_of_getElem? (i := 18) rfl)) (hw _ (List.mem_of_getElem? (i := 2) rfl)) (hw _ (List.mem_of_getElem? (i := 20) rfl)) (by decide) (a := b1) (argsL := []) (rest := []) rfl Eb82 (ihN l Z a0 hw [] b1 w_ADOPTER T82.heap n0 O83 Fb0_82 S_w_ADOPTER) 0 (by decide) (by decide) (by decide) (by decide) (mkF m 147 #[.val (.int p0), .val (.int p1), .val (.int p2), .val (.ref b1), .val (.ref r11), .val (.int (1 : Int32)), .val (.int (p0 &&& (3 : Int32))), .val (.int z23), .val (.int (1 : Int32)), .val (.ref w_EXECUTE), .val (.ref r81), .val (.int (0 : Int32))] [(.ref b1)]) rfl (by rw [hml]; rfl) (lenOf pd_2 rfl) rfl (hb hby at_147) (Nat.le_of_eq rfl) ?_
          intro v85 T85 L85 X85 hQ85
          obtain ⟨rfl, M85, e85⟩ := hQ85
          have N85 := Fr.app N82 M85
          show Go p e below _ (T85.setTop (mkF m 150 #[.val (.int p0), .val (.int p1), .val (.int p2), .val (.ref b1), .val (.ref r11), .val (.int (1 : Int32)), .val (.int (p0 &&& (3 : Int32))), .val (.int z23), .val (.int (1 : Int32)), .val (.ref w_EXECUTE), .val (.ref r81), .val (.int (0 : Int32))] [(.int (0 : Int32))]))
          refine Go.st (fun _ => XS.iload X85.here hx rfl (hb hby at_150) rfl) ?_
          show Go p e below _ (T85.setTop (mkF m 152 #[.val (.int p0), .val (.int p1), .val (.int p2), .val (.ref b1), .val (.ref r11), .val (.int (1 : Int32)), .val (.int (p0 &&& (3 : Int32))), .val (.int z23), .val (.int (1 : Int32)), .val (.ref w_EXECUTE), .val (.ref r81), .val (.int (0 : Int32))] [(.int (0 : Int32)), (.int (0 : Int32))]))
          refine Go.st (fun _ => XS.icmpNo X85.here hx rfl (hb hby at_152) rfl (teq (by decide : (0 : Int32) = (0 : Int32))).2) ?_
          show Go p e below _ (T85.setTop (mkF m 155 #[.val (.int p0), .val (.int p1), .val (.int p2), .val (.ref b1), .val (.ref r11), .val (.int (1 : Int32)), .val (.int (p0 &&& (3 : Int32))), .val (.int z23), .val (.int (1 : Int32)), .val (.ref w_EXECUTE), .val (.ref r81), .val (.int (0 : Int32))] []))
          refine Go.st (fun _ => XS.iconst X85.here hx rfl (hb hby at_155)) ?_
          show Go p e below _ (T85.setTop (mkF m 156 #[.val (.int p0), .val (.int p1), .val (.int p2), .val (.ref b1), .val (.ref r11), .val (.int (1 : Int32)), .val (.int (p0 &&& (3 : Int32))), .val (.int z23), .val (.int (1 : Int32)), .val (.ref w_EXECUTE), .val (.ref r81), .val (.int (0 : Int32))] [(.int (1 : Int32))]))
          refine Go.st (fun _ => XS.goto X85.here hx rfl (pc0 := 156) (pc' := 160) rfl (hb hby at_156) (by decide) (by decide)) ?_
          show Go p e below _ (T85.setTop (mkF m 160 #[.val (.int p0), .val (.int p1), .val (.int p2), .val (.ref b1), .val (.ref r11), .val (.int (1 : Int32)), .val (.int (p0 &&& (3 : Int32))), .val (.int z23), .val (.int (1 : Int32)), .val (.ref w_EXECUTE), .val (.ref r81), .val (.int (0 : Int32))] [(.int (1 : Int32))]))
          refine Go.st (fun _ => XS.istore X85.here hx rfl (hb hby at_160) rfl (l' := #[.val (.int p0), .val (.int p1), .val (.int p2), .val (.ref b1), .val (.ref r11), .val (.int (1 : Int32)), .val (.int (p0 &&& (3 : Int32))), .val (.int z23), .val (.int (1 : Int32)), .val (.ref w_EXECUTE), .val (.ref r81), .val (.int (0 : Int32))]) rfl) ?_
          show Go p e below _ (T85.setTop (mkF m 162 #[.val (.int p0), .val (.int p1), .val (.int p2), .val (.ref b1), .val (.ref r11), .val (.int (1 : Int32)), .val (.int (p0 &&& (3 : Int32))), .val (.int z23), .val (.int (1 : Int32)), .val (.ref w_EXECUTE), .val (.ref r81), .val (.int (0 : Int32))] []))
          refine Go.st (fun _ => XS.aloadN X85.here hx rfl (hb hby at_162) rfl rfl) ?_
          show Go p e below _ (T85.setTop (mkF m 163 #[.val (.int p0), .val (.int p1), .val (.int p2), .val (.ref b1), .val (.ref r11), .val (.int (1 : Int32)), .val (.int (p0 &&& (3 : Int32))), .val (.int z23), .val (.int (1 : Int32)), .val (.ref w_EXECUTE), .val (.ref r81), .val (.int (0 : Int32))] [(.ref b1)]))
          refine Go.st (fun _ => XS.aload X85.here hx rfl (hb hby at_163) rfl rfl) ?_
          show Go p e below _ (T85.setTop (mkF m 165 #[.val (.int p0), .val (.int p1), .val (.int p2), .val (.ref b1), .val (.ref r11), .val (.int (1 : Int32)), .val (.int (p0 &&& (3 : Int32))), .val (.int z23), .val (.int (1 : Int32)), .val (.ref w_EXECUTE), .val (.ref r81), .val (.int (0 : Int32))] [(.ref r81), (.ref b1)]))
          refine goVirtS X85 hx hZ (y := (⟨"com/example/sidelane/sidelane/Cancellation", "claim", "(Lcom/example/sidelane/sidelane/Cancellation$Claimant;)Z"⟩ : MethodName)) (z := (⟨"com/example/sidelane/sidelane/Cancellation", "claim", "(Lcom/example/sidelane/sidelane/Cancellation$Claimant;)Z"⟩ : MethodName)) hown (hw _ (List.mem_of_getElem? (i := 31) rfl)) (hw _ (List.mem_of_getElem? (i := 32) rfl)) (notFace_of_selects (args := #[]) (mvT hZ (hw _ (List.mem_of_getElem? (i := 34) rfl)))) (hw _ (List.mem_of_getElem? (i := 34) rfl)) (hw _ (List.mem_of_getElem? (i := 33) rfl)) (hw _ (List.mem_of_getElem? (i := 2) rfl)) (hw _ (List.mem_of_getElem? (i := 35) rfl)) (by decide) (a := b1) (argsL := [(.ref r81)]) (rest := []) e85 Eb82 (cm01 l Z a0 hw b1 r81 en (.ref a6) eb T82.heap n0 O83 Ub82 gn1 Eb82 Fb0_82 Fb1_82 Fb2_82 Fb3_82 Fb4_82 Fb5_82 Fb6_82) 0 (by decide) (by decide) (by decide) (by decide) (mkF m 165 #[.val (.int p0), .val (.int p1), .val (.int p2), .val (.ref b1), .val (.ref r11), .val (.int (1 : Int32)), .val (.int (p0 &&& (3 : Int32))), .val (.int z23), .val (.int (1 : Int32)), .val (.ref w_EXECUTE), .val (.ref r81), .val (.int (0 : Int32))] [(.ref r81), (.ref b1)]) rfl (by rw [hml]; rfl) (lenOf pd_5 rfl) rfl (hb hby at_165) (Nat.le_of_eq rfl) ?_
          intro v86 T86 L86 X86 hQ86
          obtain ⟨rfl, M86, K86, ⟨Eb86, Ub86, Fb0_86, Fb1_86, Fb2_86, Fb3_86, Fb4_86, Fb5_86, Fb6_86⟩⟩ := hQ86
          have N86 := Fr.app N85 M86
          have O87 : Old Z n0 T86.heap := O83.keep K86 (allS gn1 all0)
          have E_88 : Exa Z T86.heap b1 "com/example/sidelane/sidelane/Cancellation" := Eb82.keep K86
          show Go p e below _ (T86.setTop (mkF m 168 #[.val (.int p0), .val (.int p1), .val (.int p2), .val (.ref b1), .val (.ref r11), .val (.int (1 : Int32)), .val (.int (p0 &&& (3 : Int32))), .val (.int z23), .val (.int (1 : Int32)), .val (.ref w_EXECUTE), .val (.ref r81), .val (.int (0 : Int32))] [(.int (0 : Int32))]))
          refine Go.st (fun _ => XS.pop X86.here hx rfl (hb hby at_168) rfl rfl) ?_
          show Go p e below _ (T86.setTop (mkF m 169 #[.val (.int p0), .val (.int p1), .val (.int p2), .val (.ref b1), .val (.ref r11), .val (.int (1 : Int32)), .val (.int (p0 &&& (3 : Int32))), .val (.int z23), .val (.int (1 : Int32)), .val (.ref w_EXECUTE), .val (.ref r81), .val (.int (0 : Int32))] []))
          refine Go.st (fun _ => XS.iload X86.here hx rfl (hb hby at_169) rfl) ?_
          show Go p e below _ (T86.setTop (mkF m 171 #[.val (.int p0), .val (.int p1), .val (.int p2), .val (.ref b1), .val (.ref r11), .val (.int (1 : Int32)), .val (.int (p0 &&& (3 : Int32))), .val (.int z23), .val (.int (1 : Int32)), .val (.ref w_EXECUTE), .val (.ref r81), .val (.int (0 : Int32))] [(.int (1 : Int32))]))
          refine Go.st (fun _ => XS.ifNo X86.here hx rfl (hb hby at_171) rfl ((if0 _ _).trans (feq (by decide : ¬ ((1 : Int32) = (0 : Int32)))).1)) ?_
          show Go p e below _ (T86.setTop (mkF m 174 #[.val (.int p0), .val (.int p1), .val (.int p2), .val (.ref b1), .val (.ref r11), .val (.int (1 : Int32)), .val (.int (p0 &&& (3 : Int32))), .val (.int z23), .val (.int (1 : Int32)), .val (.ref w_EXECUTE), .val (.ref r81), .val (.int (0 : Int32))] []))
          refine Go.st (fun _ => XS.aloadN X86.here hx rfl (hb hby at_174) rfl rfl) ?_
          show Go p e below _ (T86.setTop (mkF m 175 #[.val (.int p0), .val (.int p1), .val (.int p2), .val (.ref b1), .val (.ref r11), .val (.int (1 : Int32)), .val (.int (p0 &&& (3 : Int32))), .val (.int z23), .val (.int (1 : Int32)), .val (.ref w_EXECUTE), .val (.ref r81), .val (.int (0 : Int32))] [(.ref b1)]))
          refine goVirt X86 hx hZ (y := (⟨"com/example/sidelane/sidelane/Cancellation", "isHandedOver", "()Z"⟩ : MethodName)) (z := (⟨"com/example/sidelane/sidelane/Cancellation", "isHandedOver", "()Z"⟩ : MethodName)) hown (hw _ (List.mem_of_getElem? (i := 16) rfl)) (hw _ (List.mem_of_getElem? (i := 17) rfl)) (notFace_of_selects (args := #[]) (mvT hZ (hw _ (List.mem_of_getElem? (i := 19) rfl)))) (hw _ (List.mem_of_getElem? (i := 19) rfl)) (hw _ (List.mem_of_getElem? (i := 18) rfl)) (hw _ (List.mem_of_getElem? (i := 2) rfl)) (hw _ (List.mem_of_getElem? (i := 20) rfl)) (by decide) (a := b1) (argsL := []) (rest := []) rfl Eb86 (ihN l Z a0 hw [] b1 w_ADOPTER T86.heap n0 O87 Fb0_86 S_w_ADOPTER) 0 (by decide) (by decide) (by decide) (by decide) (mkF m 175 #[.val (.int p0), .val (.int p1), .val (.int p2), .val (.ref b1), .val (.ref r11), .val (.int (1 : Int32)), .val (.int (p0 &&& (3 : Int32))), .val (.int z23), .val (.int (1 : Int32)), .val (.ref w_EXECUTE), .val (.ref r81), .val (.int (0 : Int32))] [(.ref b1)]) rfl (by rw [hml]; rfl) (lenOf pd_2 rfl) rfl (hb hby at_175) (Nat.le_of_eq rfl) ?_
          intro v89 T89 L89 X89 hQ89
          obtain ⟨rfl, M89, e89⟩ := hQ89
          have N89 := Fr.app N86 M89
          show Go p e below _ (T89.setTop (mkF m 178 #[.val (.int p0), .val (.int p1), .val (.int p2), .val (.ref b1), .val (.ref r11), .val (.int (1 : Int32)), .val (.int (p0 &&& (3 : Int32))), .val (.int z23), .val (.int (1 : Int32)), .val (.ref w_EXECUTE), .val (.ref r81), .val (.int (0 : Int32))] [(.int (0 : Int32))]))
          refine Go.st (fun _ => XS.iload X89.here hx rfl (hb hby at_178) rfl) ?_
          show Go p e below _ (T89.setTop (mkF m 180 #[.val (.int p0), .val (.int p1), .val (.int p2), .val (.ref b1), .val (.ref r11), .val (.int (1 : Int32)), .val (.int (p0 &&& (3 : Int32))), .val (.int z23), .val (.int (1 : Int32)), .val (.ref w_EXECUTE), .val (.ref r81), .val (.int (0 : Int32))] [(.int (0 : Int32)), (.int (0 : Int32))]))
          refine Go.st (fun _ => XS.icmpNo X89.here hx rfl (hb hby at_180) rfl (teq (by decide : (0 : Int32) = (0 : Int32))).2) ?_
          show Go p e below _ (T89.setTop (mkF m 183 #[.val (.int p0), .val (.int p1), .val (.int p2), .val (.ref b1), .val (.ref r11), .val (.int (1 : Int32)), .val (.int (p0 &&& (3 : Int32))), .val (.int z23), .val (.int (1 : Int32)), .val (.ref w_EXECUTE), .val (.ref r81), .val (.int (0 : Int32))] []))
          refine Go.st (fun _ => XS.iconst X89.here hx rfl (hb hby at_183)) ?_
          show Go p e below _ (T89.setTop (mkF m 184 #[.val (.int p0), .val (.int p1), .val (.int p2), .val (.ref b1), .val (.ref r11), .val (.int (1 : Int32)), .val (.int (p0 &&& (3 : Int32))), .val (.int z23), .val (.int (1 : Int32)), .val (.ref w_EXECUTE), .val (.ref r81), .val (.int (0 : Int32))] [(.int (1 : Int32))]))
          refine Go.st (fun _ => XS.goto X89.here hx rfl (pc0 := 184) (pc' := 188) rfl (hb hby at_184) (by decide) (by decide)) ?_
          show Go p e below _ (T89.setTop (mkF m 188 #[.val (.int p0), .val (.int p1), .val (.int p2), .val (.ref b1), .val (.ref r11), .val (.int (1 : Int32)), .val (.int (p0 &&& (3 : Int32))), .val (.int z23), .val (.int (1 : Int32)), .val (.ref w_EXECUTE), .val (.ref r81), .val (.int (0 : Int32))] [(.int (1 : Int32))]))
          refine Go.st (fun _ => XS.istore X89.here hx rfl (hb hby at_188) rfl (l' := #[.val (.int p0), .val (.int p1), .val (.int p2), .val (.ref b1), .val (.ref r11), .val (.int (1 : Int32)), .val (.int (p0 &&& (3 : Int32))), .val (.int z23), .val (.int (1 : Int32)), .val (.ref w_EXECUTE), .val (.ref r81), .val (.int (0 : Int32))]) rfl) ?_
          show Go p e below _ (T89.setTop (mkF m 190 #[.val (.int p0), .val (.int p1), .val (.int p2), .val (.ref b1), .val (.ref r11), .val (.int (1 : Int32)), .val (.int (p0 &&& (3 : Int32))), .val (.int z23), .val (.int (1 : Int32)), .val (.ref w_EXECUTE), .val (.ref r81), .val (.int (0 : Int32))] []))
          refine Go.st (fun _ => XS.iloadN X89.here hx rfl (hb hby at_190) rfl) ?_
          show Go p e below _ (T89.setTop (mkF m 191 #[.val (.int p0), .val (.int p1), .val (.int p2), .val (.ref b1), .val (.ref r11), .val (.int (1 : Int32)), .val (.int (p0 &&& (3 : Int32))), .val (.int z23), .val (.int (1 : Int32)), .val (.ref w_EXECUTE), .val (.ref r81), .val (.int (0 : Int32))] [(.int p2)]))
          refine Go.st (fun _ => XS.iconst X89.here hx rfl (hb hby at_191)) ?_
          show Go p e below _ (T89.setTop (mkF m 192 #[.val (.int p0), .val (.int p1), .val (.int p2), .val (.ref b1), .val (.ref r11), .val (.int (1 : Int32)), .val (.int (p0 &&& (3 : Int32))), .val (.int z23), .val (.int (1 : Int32)), .val (.ref w_EXECUTE), .val (.ref r81), .val (.int (0 : Int32))] [(.int (1 : Int32)), (.int p2)]))
          refine Go.st (fun _ => XS.iand X89.here hx rfl (hb hby at_192) rfl) ?_
          show Go p e below _ (T89.setTop (mkF m 193 #[.val (.int p0), .val (.int p1), .val (.int p2), .val (.ref b1), .val (.ref r11), .val (.int (1 : Int32)), .val (.int (p0 &&& (3 : Int32))), .val (.int z23), .val (.int (1 : Int32)), .val (.ref w_EXECUTE), .val (.ref r81), .val (.int (0 : Int32))] [(.int (p2 &&& (1 : Int32)))]))
          by_cases hc90 : (p2 &&& (1 : Int32)) = (0 : Int32)
          · refine Go.st (fun _ => XS.ifYes X89.here hx rfl (pc0 := 193) (pc' := 204) rfl (hb hby at_193) rfl ((if0 _ _).trans (teq hc90).1) (by decide) (by decide)) ?_
            show Go p e below _ (T89.setTop (mkF m 204 #[.val (.int p0), .val (.int p1), .val (.int p2), .val (.ref b1), .val (.ref r11), .val (.int (1 : Int32)), .val (.int (p0 &&& (3 : Int32))), .val (.int z23), .val (.int (1 : Int32)), .val (.ref w_EXECUTE), .val (.ref r81), .val (.int (0 : Int32))] []))
            refine Go.st (fun _ => XS.iload X89.here hx rfl (hb hby at_204) rfl) ?_
            show Go p e below _ (T89.setTop (mkF m 206 #[.val (.int p0), .val (.int p1), .val (.int p2), .val (.ref b1), .val (.ref r11), .val (.int (1 : Int32)), .val (.int (p0 &&& (3 : Int32))), .val (.int z23), .val (.int (1 : Int32)), .val (.ref w_EXECUTE), .val (.ref r81), .val (.int (0 : Int32))] [(.int (1 : Int32))]))
            refine Go.st (fun _ => XS.ifNo X89.here hx rfl (hb hby at_206) rfl ((if0 _ _).trans (feq (by decide : ¬ ((1 : Int32) = (0 : Int32)))).1)) ?_
            show Go p e below _ (T89.setTop (mkF m 209 #[.val (.int p0), .val (.int p1), .val (.int p2), .val (.ref b1), .val (.ref r11), .val (.int (1 : Int32)), .val (.int (p0 &&& (3 : Int32))), .val (.int z23), .val (.int (1 : Int32)), .val (.ref w_EXECUTE), .val (.ref r81), .val (.int (0 : Int32))] []))
            refine Go.st (fun _ => XS.aloadN X89.here hx rfl (hb hby at_209) rfl rfl) ?_
            show Go p e below _ (T89.setTop (mkF m 210 #[.val (.int p0), .val (.int p1), .val (.int p2), .val (.ref b1), .val (.ref r11), .val (.int (1 : Int32)), .val (.int (p0 &&& (3 : Int32))), .val (.int z23), .val (.int (1 : Int32)), .val (.ref w_EXECUTE), .val (.ref r81), .val (.int (0 : Int32))] [(.ref b1)]))
            refine goVirt X89 hx hZ (y := (⟨"com/example/sidelane/sidelane/Cancellation", "isHandedOver", "()Z"⟩ : MethodName)) (z := (⟨"com/example/sidelane/sidelane/Cancellation", "isHandedOver", "()Z"⟩ : MethodName)) hown (hw _ (List.mem_of_getElem? (i := 16) rfl)) (hw _ (List.mem_of_getElem? (i := 17) rfl)) (notFace_of_selects (args := #[]) (mvT hZ (hw _ (List.mem_of_getElem? (i := 19) rfl)))) (hw _ (List.mem_of_getElem? (i := 19) rfl)) (hw _ (List.mem_of_getElem? (i := 18) rfl)) (hw _ (List.mem_of_getElem? (i := 2) rfl)) (hw _ (List.mem_of_getElem? (i := 20) rfl)) (by decide) (a := b1) (argsL := []) (rest := []) e89 Eb86 (ihN l Z a0 hw [] b1 w_ADOPTER T86.heap n0 O87 Fb0_86 S_w_ADOPTER) 0 (by decide) (by decide) (by decide) (by decide) (mkF m 210 #[.val (.int p0), .val (.int p1), .val (.int p2), .val (.ref b1), .val (.ref r11), .val (.int (1 : Int32)), .val (.int (p0 &&& (3 : Int32))), .val (.int z23), .val (.int (1 : Int32)), .val (.ref w_EXECUTE), .val (.ref r81), .val (.int (0 : Int32))] [(.ref b1)]) rfl (by rw [hml]; rfl) (lenOf pd_2 rfl) rfl (hb hby at_210) (Nat.le_of_eq rfl) ?_
            intro v91 T91 L91 X91 hQ91
            obtain ⟨rfl, M91, e91⟩ := hQ91
            have N91 := Fr.app N89 M91
            show Go p e below _ (T91.setTop (mkF m 213 #[.val (.int p0), .val (.int p1), .val (.int p2), .val (.ref b1), .val (.ref r11), .val (.int (1 : Int32)), .val (.int (p0 &&& (3 : Int32))), .val (.int z23), .val (.int (1 : Int32)), .val (.ref w_EXECUTE), .val (.ref r81), .val (.int (0 : Int32))] [(.int (0 : Int32))]))
            refine Go.st (fun _ => XS.iload X91.here hx rfl (hb hby at_213) rfl) ?_
            show Go p e below _ (T91.setTop (mkF m 215 #[.val (.int p0), .val (.int p1), .val (.int p2), .val (.ref b1), .val (.ref r11), .val (.int (1 : Int32)), .val (.int (p0 &&& (3 : Int32))), .val (.int z23), .val (.int (1 : Int32)), .val (.ref w_EXECUTE), .val (.ref r81), .val (.int (0 : Int32))] [(.int (0 : Int32)), (.int (0 : Int32))]))
            refine Go.st (fun _ => XS.icmpNo X91.here hx rfl (hb hby at_215) rfl (teq (by decide : (0 : Int32) = (0 : Int32))).2) ?_
            show Go p e below _ (T91.setTop (mkF m 218 #[.val (.int p0), .val (.int p1), .val (.int p2), .val (.ref b1), .val (.ref r11), .val (.int (1 : Int32)), .val (.int (p0 &&& (3 : Int32))), .val (.int z23), .val (.int (1 : Int32)), .val (.ref w_EXECUTE), .val (.ref r81), .val (.int (0 : Int32))] []))
            refine Go.st (fun _ => XS.iconst X91.here hx rfl (hb hby at_218)) ?_
            show Go p e below _ (T91.setTop (mkF m 219 #[.val (.int p0), .val (.int p1), .val (.int p2), .val (.ref b1), .val (.ref r11), .val (.int (1 : Int32)), .val (.int (p0 &&& (3 : Int32))), .val (.int z23), .val (.int (1 : Int32)), .val (.ref w_EXECUTE), .val (.ref r81), .val (.int (0 : Int32))] [(.int (1 : Int32))]))
            refine Go.st (fun _ => XS.goto X91.here hx rfl (pc0 := 219) (pc' := 223) rfl (hb hby at_219) (by decide) (by decide)) ?_
            show Go p e below _ (T91.setTop (mkF m 223 #[.val (.int p0), .val (.int p1), .val (.int p2), .val (.ref b1), .val (.ref r11), .val (.int (1 : Int32)), .val (.int (p0 &&& (3 : Int32))), .val (.int z23), .val (.int (1 : Int32)), .val (.ref w_EXECUTE), .val (.ref r81), .val (.int (0 : Int32))] [(.int (1 : Int32))]))
            refine Go.st (fun _ => XS.istore X91.here hx rfl (hb hby at_223) rfl (l' := #[.val (.int p0), .val (.int p1), .val (.int p2), .val (.ref b1), .val (.ref r11), .val (.int (1 : Int32)), .val (.int (p0 &&& (3 : Int32))), .val (.int z23), .val (.int (1 : Int32)), .val (.ref w_EXECUTE), .val (.ref r81), .val (.int (0 : Int32))]) rfl) ?_
            show Go p e below _ (T91.setTop (mkF m 225 #[.val (.int p0), .val (.int p1), .val (.int p2), .val (.ref b1), .val (.ref r11), .val (.int (1 : Int32)), .val (.int (p0 &&& (3 : Int32))), .val (.int z23), .val (.int (1 : Int32)), .val (.ref w_EXECUTE), .val (.ref r81), .val (.int (0 : Int32))] []))
            refine Go.st (fun _ => XS.iload X91.here hx rfl (hb hby at_225) rfl) ?_
            show Go p e below _ (T91.setTop (mkF m 227 #[.val (.int p0), .val (.int p1), .val (.int p2), .val (.ref b1), .val (.ref r11), .val (.int (1 : Int32)), .val (.int (p0 &&& (3 : Int32))), .val (.int z23), .val (.int (1 : Int32)), .val (.ref w_EXECUTE), .val (.ref r81), .val (.int (0 : Int32))] [(.int (1 : Int32))]))
            exact goRetN X91 hx hlk hret (t := .boolean) (by simp) (w := (1 : Int32)) (by decide) e91 (hb hby at_227) (by decide) (by decide) ⟨rfl, N91⟩
          · refine Go.st (fun _ => XS.ifNo X89.here hx rfl (hb hby at_193) rfl ((if0 _ _).trans (feq hc90).1)) ?_
            show Go p e below _ (T89.setTop (mkF m 196 #[.val (.int p0), .val (.int p1), .val (.int p2), .val (.ref b1), .val (.ref r11), .val (.int (1 : Int32)), .val (.int (p0 &&& (3 : Int32))), .val (.int z23), .val (.int (1 : Int32)), .val (.ref w_EXECUTE), .val (.ref r81), .val (.int (0 : Int32))] []))
            refine Go.st (fun _ => XS.aloadN X89.here hx rfl (hb hby at_196) rfl rfl) ?_
            show Go p e below _ (T89.setTop (mkF m 197 #[.val (.int p0), .val (.int p1), .val (.int p2), .val (.ref b1), .val (.ref r11), .val (.int (1 : Int32)), .val (.int (p0 &&& (3 : Int32))), .val (.int z23), .val (.int (1 : Int32)), .val (.ref w_EXECUTE), .val (.ref r81), .val (.int (0 : Int32))] [(.ref b1)]))
            refine Go.st (fun _ => XS.iconst X89.here hx rfl (hb hby at_197)) ?_
            show Go p e below _ (T89.setTop (mkF m 198 #[.val (.int p0), .val (.int p1), .val (.int p2), .val (.ref b1), .val (.ref r11), .val (.int (1 : Int32)), .val (.int (p0 &&& (3 : Int32))), .val (.int z23), .val (.int (1 : Int32)), .val (.ref w_EXECUTE), .val (.ref r81), .val (.int (0 : Int32))] [(.int (0 : Int32)), (.ref b1)]))
            refine Go.st (fun _ => XS.aload X89.here hx rfl (hb hby at_198) rfl rfl) ?_
            show Go p e below _ (T89.setTop (mkF m 200 #[.val (.int p0), .val (.int p1), .val (.int p2), .val (.ref b1), .val (.ref r11), .val (.int (1 : Int32)), .val (.int (p0 &&& (3 : Int32))), .val (.int z23), .val (.int (1 : Int32)), .val (.ref w_EXECUTE), .val (.ref r81), .val (.int (0 : Int32))] [(.ref r11), (.int (0 : Int32)), (.ref b1)]))
            rcases hen with rfl | ⟨a4, rfl⟩
            · show Go p e below _ (T89.setTop (mkF m 200 #[.val (.int p0), .val (.int p1), .val (.int p2), .val (.ref b1), .val (.ref r11), .val (.int (1 : Int32)), .val (.int (p0 &&& (3 : Int32))), .val (.int z23), .val (.int (1 : Int32)), .val (.ref w_EXECUTE), .val (.ref r81), .val (.int (0 : Int32))] [(.ref r11), (.int (0 : Int32)), (.ref b1)]))
              refine goVirtS X89 hx hZ (y := (⟨"com/example/sidelane/sidelane/Cancellation", "cancel", "(ZLjava/lang/Object;)Lcom/example/sidelane/sidelane/Cancellation$Outcome;"⟩ : MethodName)) (z := (⟨"com/example/sidelane/sidelane/Cancellation", "cancel", "(ZLjava/lang/Object;)Lcom/example/sidelane/sidelane/Cancellation$Outcome;"⟩ : MethodName)) hown (hw _ (List.mem_of_getElem? (i := 43) rfl)) (hw _ (List.mem_of_getElem? (i := 44) rfl)) (notFace_of_selects (args := #[]) (mvT hZ (hw _ (List.mem_of_getElem? (i := 46) rfl)))) (hw _ (List.mem_of_getElem? (i := 46) rfl)) (hw _ (List.mem_of_getElem? (i := 45) rfl)) (hw _ (List.mem_of_getElem? (i := 2) rfl)) (hw _ (List.mem_of_getElem? (i := 47) rfl)) (by decide) (a := b1) (argsL := [(.int (0 : Int32)), (.ref r11)]) (rest := []) e89 Eb86 (caC l Z a0 hw b1 (0 : Int32) r11 (.ref a6) w_EXECUTE w_ADOPTER w_CANCELLED w_REFUSED w_HANDED_OVER w_CANCELLED_UNEXECUTED w_ENDING_NEEDED eb T86.heap n0 O87 Ub86 gn1 Eb86 Fb0_86 Fb1_86 Fb2_86 Fb3_86 Fb4_86 Fb5_86 Fb6_86 S_w_EXECUTE S_w_ADOPTER S_w_CANCELLED S_w_REFUSED S_w_HANDED_OVER S_w_CANCELLED_UNEXECUTED S_w_ENDING_NEEDED ne_w_EXECUTE_w_ADOPTER) 0 (by decide) (by decide) (by decide) (by decide) (mkF m 200 #[.val (.int p0), .val (.int p1), .val (.int p2), .val (.ref b1), .val (.ref r11), .val (.int (1 : Int32)), .val (.int (p0 &&& (3 : Int32))), .val (.int z23), .val (.int (1 : Int32)), .val (.ref w_EXECUTE), .val (.ref r81), .val (.int (0 : Int32))] [(.ref r11), (.int (0 : Int32)), (.ref b1)]) rfl (by rw [hml]; rfl) (lenOf pd_6 rfl) rfl (hb hby at_200) (Nat.le_of_eq rfl) ?_
              intro v92 T92 L92 X92 hQ92
              obtain ⟨⟨r92, rfl⟩, M92, K92, ⟨Eb92, Ub92, Fb0_92, Fb1_92, Fb2_92, Fb3_92, Fb4_92, Fb5_92, Fb6_92⟩⟩ := hQ92
              have N92 := Fr.app N89 M92
              have O93 : Old Z n0 T92.heap := O87.keep K92 (allS gn1 all0)
              have E_94 : Exa Z T92.heap b1 "com/example/sidelane/sidelane/Cancellation" := Eb86.keep K92
              show Go p e below _ (T92.setTop (mkF m 203 #[.val (.int p0), .val (.int p1), .val (.int p2), .val (.ref b1), .val (.ref r11), .val (.int (1 : Int32)), .val (.int (p0 &&& (3 : Int32))), .val (.int z23), .val (.int (1 : Int32)), .val (.ref w_EXECUTE), .val (.ref r81), .val (.int (0 : Int32))] [(.ref r92)]))
              refine Go.st (fun _ => XS.pop X92.here hx rfl (hb hby at_203) rfl rfl) ?_
              show Go p e below _ (T92.setTop (mkF m 204 #[.val (.int p0), .val (.int p1), .val (.int p2), .val (.ref b1), .val (.ref r11), .val (.int (1 : Int32)), .val (.int (p0 &&& (3 : Int32))), .val (.int z23), .val (.int (1 : Int32)), .val (.ref w_EXECUTE), .val (.ref r81), .val (.int (0 : Int32))] []))
              refine Go.st (fun _ => XS.iload X92.here hx rfl (hb hby at_204) rfl) ?_
              show Go p e below _ (T92.setTop (mkF m 206 #[.val (.int p0), .val (.int p1), .val (.int p2), .val (.ref b1), .val (.ref r11), .val (.int (1 : Int32)), .val (.int (p0 &&& (3 : Int32))), .val (.int z23), .val (.int (1 : Int32)), .val (.ref w_EXECUTE), .val (.ref r81), .val (.int (0 : Int32))] [(.int (1 : Int32))]))
              refine Go.st (fun _ => XS.ifNo X92.here hx rfl (hb hby at_206) rfl ((if0 _ _).trans (feq (by decide : ¬ ((1 : Int32) = (0 : Int32)))).1)) ?_
              show Go p e below _ (T92.setTop (mkF m 209 #[.val (.int p0), .val (.int p1), .val (.int p2), .val (.ref b1), .val (.ref r11), .val (.int (1 : Int32)), .val (.int (p0 &&& (3 : Int32))), .val (.int z23), .val (.int (1 : Int32)), .val (.ref w_EXECUTE), .val (.ref r81), .val (.int (0 : Int32))] []))
              refine Go.st (fun _ => XS.aloadN X92.here hx rfl (hb hby at_209) rfl rfl) ?_
              show Go p e below _ (T92.setTop (mkF m 210 #[.val (.int p0), .val (.int p1), .val (.int p2), .val (.ref b1), .val (.ref r11), .val (.int (1 : Int32)), .val (.int (p0 &&& (3 : Int32))), .val (.int z23), .val (.int (1 : Int32)), .val (.ref w_EXECUTE), .val (.ref r81), .val (.int (0 : Int32))] [(.ref b1)]))
              refine goVirt X92 hx hZ (y := (⟨"com/example/sidelane/sidelane/Cancellation", "isHandedOver", "()Z"⟩ : MethodName)) (z := (⟨"com/example/sidelane/sidelane/Cancellation", "isHandedOver", "()Z"⟩ : MethodName)) hown (hw _ (List.mem_of_getElem? (i := 16) rfl)) (hw _ (List.mem_of_getElem? (i := 17) rfl)) (notFace_of_selects (args := #[]) (mvT hZ (hw _ (List.mem_of_getElem? (i := 19) rfl)))) (hw _ (List.mem_of_getElem? (i := 19) rfl)) (hw _ (List.mem_of_getElem? (i := 18) rfl)) (hw _ (List.mem_of_getElem? (i := 2) rfl)) (hw _ (List.mem_of_getElem? (i := 20) rfl)) (by decide) (a := b1) (argsL := []) (rest := []) rfl Eb92 (ihN l Z a0 hw [] b1 w_ADOPTER T92.heap n0 O93 Fb0_92 S_w_ADOPTER) 0 (by decide) (by decide) (by decide) (by decide) (mkF m 210 #[.val (.int p0), .val (.int p1), .val (.int p2), .val (.ref b1), .val (.ref r11), .val (.int (1 : Int32)), .val (.int (p0 &&& (3 : Int32))), .val (.int z23), .val (.int (1 : Int32)), .val (.ref w_EXECUTE), .val (.ref r81), .val (.int (0 : Int32))] [(.ref b1)]) rfl (by rw [hml]; rfl) (lenOf pd_2 rfl) rfl (hb hby at_210) (Nat.le_of_eq rfl) ?_
              intro v95 T95 L95 X95 hQ95
              obtain ⟨rfl, M95, e95⟩ := hQ95
              have N95 := Fr.app N92 M95
              show Go p e below _ (T95.setTop (mkF m 213 #[.val (.int p0), .val (.int p1), .val (.int p2), .val (.ref b1), .val (.ref r11), .val (.int (1 : Int32)), .val (.int (p0 &&& (3 : Int32))), .val (.int z23), .val (.int (1 : Int32)), .val (.ref w_EXECUTE), .val (.ref r81), .val (.int (0 : Int32))] [(.int (0 : Int32))]))
              refine Go.st (fun _ => XS.iload X95.here hx rfl (hb hby at_213) rfl) ?_
              show Go p e below _ (T95.setTop (mkF m 215 #[.val (.int p0), .val (.int p1), .val (.int p2), .val (.ref b1), .val (.ref r11), .val (.int (1 : Int32)), .val (.int (p0 &&& (3 : Int32))), .val (.int z23), .val (.int (1 : Int32)), .val (.ref w_EXECUTE), .val (.ref r81), .val (.int (0 : Int32))] [(.int (0 : Int32)), (.int (0 : Int32))]))
              refine Go.st (fun _ => XS.icmpNo X95.here hx rfl (hb hby at_215) rfl (teq (by decide : (0 : Int32) = (0 : Int32))).2) ?_
              show Go p e below _ (T95.setTop (mkF m 218 #[.val (.int p0), .val (.int p1), .val (.int p2), .val (.ref b1), .val (.ref r11), .val (.int (1 : Int32)), .val (.int (p0 &&& (3 : Int32))), .val (.int z23), .val (.int (1 : Int32)), .val (.ref w_EXECUTE), .val (.ref r81), .val (.int (0 : Int32))] []))
              refine Go.st (fun _ => XS.iconst X95.here hx rfl (hb hby at_218)) ?_
              show Go p e below _ (T95.setTop (mkF m 219 #[.val (.int p0), .val (.int p1), .val (.int p2), .val (.ref b1), .val (.ref r11), .val (.int (1 : Int32)), .val (.int (p0 &&& (3 : Int32))), .val (.int z23), .val (.int (1 : Int32)), .val (.ref w_EXECUTE), .val (.ref r81), .val (.int (0 : Int32))] [(.int (1 : Int32))]))
              refine Go.st (fun _ => XS.goto X95.here hx rfl (pc0 := 219) (pc' := 223) rfl (hb hby at_219) (by decide) (by decide)) ?_
              show Go p e below _ (T95.setTop (mkF m 223 #[.val (.int p0), .val (.int p1), .val (.int p2), .val (.ref b1), .val (.ref r11), .val (.int (1 : Int32)), .val (.int (p0 &&& (3 : Int32))), .val (.int z23), .val (.int (1 : Int32)), .val (.ref w_EXECUTE), .val (.ref r81), .val (.int (0 : Int32))] [(.int (1 : Int32))]))
              refine Go.st (fun _ => XS.istore X95.here hx rfl (hb hby at_223) rfl (l' := #[.val (.int p0), .val (.int p1), .val (.int p2), .val (.ref b1), .val (.ref r11), .val (.int (1 : Int32)), .val (.int (p0 &&& (3 : Int32))), .val (.int z23), .val (.int (1 : Int32)), .val (.ref w_EXECUTE), .val (.ref r81), .val (.int (0 : Int32))]) rfl) ?_
              show Go p e below _ (T95.setTop (mkF m 225 #[.val (.int p0), .val (.int p1), .val (.int p2), .val (.ref b1), .val (.ref r11), .val (.int (1 : Int32)), .val (.int (p0 &&& (3 : Int32))), .val (.int z23), .val (.int (1 : Int32)), .val (.ref w_EXECUTE), .val (.ref r81), .val (.int (0 : Int32))] []))
              refine Go.st (fun _ => XS.iload X95.here hx rfl (hb hby at_225) rfl) ?_
              show Go p e below _ (T95.setTop (mkF m 227 #[.val (.int p0), .val (.int p1), .val (.int p2), .val (.ref b1), .val (.ref r11), .val (.int (1 : Int32)), .val (.int (p0 &&& (3 : Int32))), .val (.int z23), .val (.int (1 : Int32)), .val (.ref w_EXECUTE), .val (.ref r81), .val (.int (0 : Int32))] [(.int (1 : Int32))]))
              exact goRetN X95 hx hlk hret (t := .boolean) (by simp) (w := (1 : Int32)) (by decide) e95 (hb hby at_227) (by decide) (by decide) ⟨rfl, N95⟩
            · show Go p e below _ (T89.setTop (mkF m 200 #[.val (.int p0), .val (.int p1), .val (.int p2), .val (.ref b1), .val (.ref r11), .val (.int (1 : Int32)), .val (.int (p0 &&& (3 : Int32))), .val (.int z23), .val (.int (1 : Int32)), .val (.ref w_EXECUTE), .val (.ref r81), .val (.int (0 : Int32))] [(.ref r11), (.int (0 : Int32)), (.ref b1)]))
              refine goVirtS X89 hx hZ (y := (⟨"com/example/sidelane/sidelane/Cancellation", "cancel", "(ZLjava/lang/Object;)Lcom/example/sidelane/sidelane/Cancellation$Outcome;"⟩ : MethodName)) (z := (⟨"com/example/sidelane/sidelane/Cancellation", "cancel", "(ZLjava/lang/Object;)Lcom/example/sidelane/sidelane/Cancellation$Outcome;"⟩ : MethodName)) hown (hw _ (List.mem_of_getElem? (i := 43) rfl)) (hw _ (List.mem_of_getElem? (i := 44) rfl)) (notFace_of_selects (args := #[]) (mvT hZ (hw _ (List.mem_of_getElem? (i := 46) rfl)))) (hw _ (List.mem_of_getElem? (i := 46) rfl)) (hw _ (List.mem_of_getElem? (i := 45) rfl)) (hw _ (List.mem_of_getElem? (i := 2) rfl)) (hw _ (List.mem_of_getElem? (i := 47) rfl)) (by decide) (a := b1) (argsL := [(.int (0 : Int32)), (.ref r11)]) (rest := []) e89 Eb86 (caD l Z a0 hw b1 (0 : Int32) r11 a4 a6  w_EXECUTE w_ADOPTER w_CANCELLED w_REFUSED w_HANDED_OVER w_CANCELLED_UNEXECUTED w_ENDING_NEEDED eb T86.heap n0 O87 Ub86 gn1 Eb86 Fb0_86 Fb1_86 Fb2_86 Fb3_86 Fb4_86 Fb5_86 Fb6_86 S_w_EXECUTE S_w_ADOPTER S_w_CANCELLED S_w_REFUSED S_w_HANDED_OVER S_w_CANCELLED_UNEXECUTED S_w_ENDING_NEEDED ne_w_EXECUTE_w_ADOPTER) 0 (by decide) (by decide) (by decide) (by decide) (mkF m 200 #[.val (.int p0), .val (.int p1), .val (.int p2), .val (.ref b1), .val (.ref r11), .val (.int (1 : Int32)), .val (.int (p0 &&& (3 : Int32))), .val (.int z23), .val (.int (1 : Int32)), .val (.ref w_EXECUTE), .val (.ref r81), .val (.int (0 : Int32))] [(.ref r11), (.int (0 : Int32)), (.ref b1)]) rfl (by rw [hml]; rfl) (lenOf pd_6 rfl) rfl (hb hby at_200) (Nat.le_of_eq rfl) ?_
              intro v96 T96 L96 X96 hQ96
              obtain ⟨⟨r96, rfl⟩, M96, K96, ⟨Eb96, Ub96, Fb0_96, Fb1_96, Fb2_96, Fb3_96, Fb4_96, Fb5_96, Fb6_96⟩⟩ := hQ96
              have N96 := Fr.app N89 M96
              have O97 : Old Z n0 T96.heap := O87.keep K96 (allS gn1 all0)
              have E_98 : Exa Z T96.heap b1 "com/example/sidelane/sidelane/Cancellation" := Eb86.keep K96
              show Go p e below _ (T96.setTop (mkF m 203 #[.val (.int p0), .val (.int p1), .val (.int p2), .val (.ref b1), .val (.ref r11), .val (.int (1 : Int32)), .val (.int (p0 &&& (3 : Int32))), .val (.int z23), .val (.int (1 : Int32)), .val (.ref w_EXECUTE), .val (.ref r81), .val (.int (0 : Int32))] [(.ref r96)]))
              refine Go.st (fun _ => XS.pop X96.here hx rfl (hb hby at_203) rfl rfl) ?_
              show Go p e below _ (T96.setTop (mkF m 204 #[.val (.int p0), .val (.int p1), .val (.int p2), .val (.ref b1), .val (.ref r11), .val (.int (1 : Int32)), .val (.int (p0 &&& (3 : Int32))), .val (.int z23), .val (.int (1 : Int32)), .val (.ref w_EXECUTE), .val (.ref r81), .val (.int (0 : Int32))] []))
              refine Go.st (fun _ => XS.iload X96.here hx rfl (hb hby at_204) rfl) ?_
              show Go p e below _ (T96.setTop (mkF m 206 #[.val (.int p0), .val (.int p1), .val (.int p2), .val (.ref b1), .val (.ref r11), .val (.int (1 : Int32)), .val (.int (p0 &&& (3 : Int32))), .val (.int z23), .val (.int (1 : Int32)), .val (.ref w_EXECUTE), .val (.ref r81), .val (.int (0 : Int32))] [(.int (1 : Int32))]))
              refine Go.st (fun _ => XS.ifNo X96.here hx rfl (hb hby at_206) rfl ((if0 _ _).trans (feq (by decide : ¬ ((1 : Int32) = (0 : Int32)))).1)) ?_
              show Go p e below _ (T96.setTop (mkF m 209 #[.val (.int p0), .val (.int p1), .val (.int p2), .val (.ref b1), .val (.ref r11), .val (.int (1 : Int32)), .val (.int (p0 &&& (3 : Int32))), .val (.int z23), .val (.int (1 : Int32)), .val (.ref w_EXECUTE), .val (.ref r81), .val (.int (0 : Int32))] []))
              refine Go.st (fun _ => XS.aloadN X96.here hx rfl (hb hby at_209) rfl rfl) ?_
              show Go p e below _ (T96.setTop (mkF m 210 #[.val (.int p0), .val (.int p1), .val (.int p2), .val (.ref b1), .val (.ref r11), .val (.int (1 : Int32)), .val (.int (p0 &&& (3 : Int32))), .val (.int z23), .val (.int (1 : Int32)), .val (.ref w_EXECUTE), .val (.ref r81), .val (.int (0 : Int32))] [(.ref b1)]))
              refine goVirt X96 hx hZ (y := (⟨"com/example/sidelane/sidelane/Cancellation", "isHandedOver", "()Z"⟩ : MethodName)) (z := (⟨"com/example/sidelane/sidelane/Cancellation", "isHandedOver", "()Z"⟩ : MethodName)) hown (hw _ (List.mem_of_getElem? (i := 16) rfl)) (hw _ (List.mem_of_getElem? (i := 17) rfl)) (notFace_of_selects (args := #[]) (mvT hZ (hw _ (List.mem_of_getElem? (i := 19) rfl)))) (hw _ (List.mem_of_getElem? (i := 19) rfl)) (hw _ (List.mem_of_getElem? (i := 18) rfl)) (hw _ (List.mem_of_getElem? (i := 2) rfl)) (hw _ (List.mem_of_getElem? (i := 20) rfl)) (by decide) (a := b1) (argsL := []) (rest := []) rfl Eb96 (ihN l Z a0 hw [] b1 w_ADOPTER T96.heap n0 O97 Fb0_96 S_w_ADOPTER) 0 (by decide) (by decide) (by decide) (by decide) (mkF m 210 #[.val (.int p0), .val (.int p1), .val (.int p2), .val (.ref b1), .val (.ref r11), .val (.int (1 : Int32)), .val (.int (p0 &&& (3 : Int32))), .val (.int z23), .val (.int (1 : Int32)), .val (.ref w_EXECUTE), .val (.ref r81), .val (.int (0 : Int32))] [(.ref b1)]) rfl (by rw [hml]; rfl) (lenOf pd_2 rfl) rfl (hb hby at_210) (Nat.le_of_eq rfl) ?_
              intro v99 T99 L99 X99 hQ99
              obtain ⟨rfl, M99, e99⟩ := hQ99
              have N99 := Fr.app N96 M99
              show Go p e below _ (T99.setTop (mkF m 213 #[.val (.int p0), .val (.int p1), .val (.int p2), .val (.ref b1), .val (.ref r11), .val (.int (1 : Int32)), .val (.int (p0 &&& (3 : Int32))), .val (.int z23), .val (.int (1 : Int32)), .val (.ref w_EXECUTE), .val (.ref r81), .val (.int (0 : Int32))] [(.int (0 : Int32))]))
              refine Go.st (fun _ => XS.iload X99.here hx rfl (hb hby at_213) rfl) ?_
              show Go p e below _ (T99.setTop (mkF m 215 #[.val (.int p0), .val (.int p1), .val (.int p2), .val (.ref b1), .val (.ref r11), .val (.int (1 : Int32)), .val (.int (p0 &&& (3 : Int32))), .val (.int z23), .val (.int (1 : Int32)), .val (.ref w_EXECUTE), .val (.ref r81), .val (.int (0 : Int32))] [(.int (0 : Int32)), (.int (0 : Int32))]))
              refine Go.st (fun _ => XS.icmpNo X99.here hx rfl (hb hby at_215) rfl (teq (by decide : (0 : Int32) = (0 : Int32))).2) ?_
              show Go p e below _ (T99.setTop (mkF m 218 #[.val (.int p0), .val (.int p1), .val (.int p2), .val (.ref b1), .val (.ref r11), .val (.int (1 : Int32)), .val (.int (p0 &&& (3 : Int32))), .val (.int z23), .val (.int (1 : Int32)), .val (.ref w_EXECUTE), .val (.ref r81), .val (.int (0 : Int32))] []))
              refine Go.st (fun _ => XS.iconst X99.here hx rfl (hb hby at_218)) ?_
              show Go p e below _ (T99.setTop (mkF m 219 #[.val (.int p0), .val (.int p1), .val (.int p2), .val (.ref b1), .val (.ref r11), .val (.int (1 : Int32)), .val (.int (p0 &&& (3 : Int32))), .val (.int z23), .val (.int (1 : Int32)), .val (.ref w_EXECUTE), .val (.ref r81), .val (.int (0 : Int32))] [(.int (1 : Int32))]))
              refine Go.st (fun _ => XS.goto X99.here hx rfl (pc0 := 219) (pc' := 223) rfl (hb hby at_219) (by decide) (by decide)) ?_
              show Go p e below _ (T99.setTop (mkF m 223 #[.val (.int p0), .val (.int p1), .val (.int p2), .val (.ref b1), .val (.ref r11), .val (.int (1 : Int32)), .val (.int (p0 &&& (3 : Int32))), .val (.int z23), .val (.int (1 : Int32)), .val (.ref w_EXECUTE), .val (.ref r81), .val (.int (0 : Int32))] [(.int (1 : Int32))]))
              refine Go.st (fun _ => XS.istore X99.here hx rfl (hb hby at_223) rfl (l' := #[.val (.int p0), .val (.int p1), .val (.int p2), .val (.ref b1), .val (.ref r11), .val (.int (1 : Int32)), .val (.int (p0 &&& (3 : Int32))), .val (.int z23), .val (.int (1 : Int32)), .val (.ref w_EXECUTE), .val (.ref r81), .val (.int (0 : Int32))]) rfl) ?_
              show Go p e below _ (T99.setTop (mkF m 225 #[.val (.int p0), .val (.int p1), .val (.int p2), .val (.ref b1), .val (.ref r11), .val (.int (1 : Int32)), .val (.int (p0 &&& (3 : Int32))), .val (.int z23), .val (.int (1 : Int32)), .val (.ref w_EXECUTE), .val (.ref r81), .val (.int (0 : Int32))] []))
              refine Go.st (fun _ => XS.iload X99.here hx rfl (hb hby at_225) rfl) ?_
              show Go p e below _ (T99.setTop (mkF m 227 #[.val (.int p0), .val (.int p1), .val (.int p2), .val (.ref b1), .val (.ref r11), .val (.int (1 : Int32)), .val (.int (p0 &&& (3 : Int32))), .val (.int z23), .val (.int (1 : Int32)), .val (.ref w_EXECUTE), .val (.ref r81), .val (.int (0 : Int32))] [(.int (1 : Int32))]))
              exact goRetN X99 hx hlk hret (t := .boolean) (by simp) (w := (1 : Int32)) (by decide) e99 (hb hby at_227) (by decide) (by decide) ⟨rfl, N99⟩
      · rcases own_and3 p0 with q0 | q0 | q0 | q0
        · have n1 : ¬ (p0 &&& (3 : Int32)) = (1 : Int32) := by rw [q0]; decide
          have n2 : ¬ (p0 &&& (3 : Int32)) = (2 : Int32) := by rw [q0]; decide
          have n3 : ¬ (p0 &&& (3 : Int32)) = (3 : Int32) := by rw [q0]; decide
          show Go p e below _ (T22.setTop (mkF m 49 #[.val (.int p0), .val (.int p1), .val (.int p2), .val (.ref b1), .val (.ref r11), .val (.int (1 : Int32)), .val (.int (p0 &&& (3 : Int32))), .val (.int z23), .val (.int (0 : Int32)), .unset, .unset, .unset] []))
          refine Go.st (fun _ => XS.iload X22.here hx rfl (hb hby at_49) rfl) ?_
          show Go p e below _ (T22.setTop (mkF m 51 #[.val (.int p0), .val (.int p1), .val (.int p2), .val (.ref b1), .val (.ref r11), .val (.int (1 : Int32)), .val (.int (p0 &&& (3 : Int32))), .val (.int z23), .val (.int (0 : Int32)), .unset, .unset, .unset] [(.int (p0 &&& (3 : Int32)))]))
          refine Go.st (fun _ => XS.iconst X22.here hx rfl (hb hby at_51)) ?_
          show Go p e below _ (T22.setTop (mkF m 52 #[.val (.int p0), .val (.int p1), .val (.int p2), .val (.ref b1), .val (.ref r11), .val (.int (1 : Int32)), .val (.int (p0 &&& (3 : Int32))), .val (.int z23), .val (.int (0 : Int32)), .unset, .unset, .unset] [(.int (1 : Int32)), (.int (p0 &&& (3 : Int32)))]))
          refine Go.st (fun _ => XS.icmpYes X22.here hx rfl (pc0 := 52) (pc' := 70) rfl (hb hby at_52) rfl (feq n1).2 (by decide) (by decide)) ?_
          show Go p e below _ (T22.setTop (mkF m 70 #[.val (.int p0), .val (.int p1), .val (.int p2), .val (.ref b1), .val (.ref r11), .val (.int (1 : Int32)), .val (.int (p0 &&& (3 : Int32))), .val (.int z23), .val (.int (0 : Int32)), .unset, .unset, .unset] []))
          refine Go.st (fun _ => XS.iload X22.here hx rfl (hb hby at_70) rfl) ?_
          show Go p e below _ (T22.setTop (mkF m 72 #[.val (.int p0), .val (.int p1), .val (.int p2), .val (.ref b1), .val (.ref r11), .val (.int (1 : Int32)), .val (.int (p0 &&& (3 : Int32))), .val (.int z23), .val (.int (0 : Int32)), .unset, .unset, .unset] [(.int (p0 &&& (3 : Int32)))]))
          refine Go.st (fun _ => XS.iconst X22.here hx rfl (hb hby at_72)) ?_
          show Go p e below _ (T22.setTop (mkF m 73 #[.val (.int p0), .val (.int p1), .val (.int p2), .val (.ref b1), .val (.ref r11), .val (.int (1 : Int32)), .val (.int (p0 &&& (3 : Int32))), .val (.int z23), .val (.int (0 : Int32)), .unset, .unset, .unset] [(.int (2 : Int32)), (.int (p0 &&& (3 : Int32)))]))
          refine Go.st (fun _ => XS.icmpYes X22.here hx rfl (pc0 := 73) (pc' := 87) rfl (hb hby at_73) rfl (feq n2).2 (by decide) (by decide)) ?_
          show Go p e below _ (T22.setTop (mkF m 87 #[.val (.int p0), .val (.int p1), .val (.int p2), .val (.ref b1), .val (.ref r11), .val (.int (1 : Int32)), .val (.int (p0 &&& (3 : Int32))), .val (.int z23), .val (.int (0 : Int32)), .unset, .unset, .unset] []))
          refine Go.st (fun _ => XS.iload X22.here hx rfl (hb hby at_87) rfl) ?_
          show Go p e below _ (T22.setTop (mkF m 89 #[.val (.int p0), .val (.int p1), .val (.int p2), .val (.ref b1), .val (.ref r11), .val (.int (1 : Int32)), .val (.int (p0 &&& (3 : Int32))), .val (.int z23), .val (.int (0 : Int32)), .unset, .unset, .unset] [(.int (p0 &&& (3 : Int32)))]))
          refine Go.st (fun _ => XS.iconst X22.here hx rfl (hb hby at_89)) ?_
          show Go p e below _ (T22.setTop (mkF m 90 #[.val (.int p0), .val (.int p1), .val (.int p2), .val (.ref b1), .val (.ref r11), .val (.int (1 : Int32)), .val (.int (p0 &&& (3 : Int32))), .val (.int z23), .val (.int (0 : Int32)), .unset, .unset, .unset] [(.int (3 : Int32)), (.int (p0 &&& (3 : Int32)))]))
          refine Go.st (fun _ => XS.icmpYes X22.here hx rfl (pc0 := 90) (pc' := 98) rfl (hb hby at_90) rfl (feq n3).2 (by decide) (by decide)) ?_
          show Go p e below _ (T22.setTop (mkF m 98 #[.val (.int p0), .val (.int p1), .val (.int p2), .val (.ref b1), .val (.ref r11), .val (.int (1 : Int32)), .val (.int (p0 &&& (3 : Int32))), .val (.int z23), .val (.int (0 : Int32)), .unset, .unset, .unset] []))
          exact JC T22 ⟨T11.heap, _, X22.more (by decide) (by decide), e22, N22, O12, ⟨_, _, _, ⟨E_14, Y13, F15, F16, F17, F20, F21, F19, F18⟩, Or.inl rfl⟩⟩
        · have n2 : ¬ (p0 &&& (3 : Int32)) = (2 : Int32) := by rw [q0]; decide
          have n3 : ¬ (p0 &&& (3 : Int32)) = (3 : Int32) := by rw [q0]; decide
          show Go p e below _ (T22.setTop (mkF m 49 #[.val (.int p0), .val (.int p1), .val (.int p2), .val (.ref b1), .val (.ref r11), .val (.int (1 : Int32)), .val (.int (p0 &&& (3 : Int32))), .val (.int z23), .val (.int (0 : Int32)), .unset, .unset, .unset] []))
          refine Go.st (fun _ => XS.iload X22.here hx rfl (hb hby at_49) rfl) ?_
          show Go p e below _ (T22.setTop (mkF m 51 #[.val (.int p0), .val (.int p1), .val (.int p2), .val (.ref b1), .val (.ref r11), .val (.int (1 : Int32)), .val (.int (p0 &&& (3 : Int32))), .val (.int z23), .val (.int (0 : Int32)), .unset, .unset, .unset] [(.int (p0 &&& (3 : Int32)))]))
          refine Go.st (fun _ => XS.iconst X22.here hx rfl (hb hby at_51)) ?_
          show Go p e below _ (T22.setTop (mkF m 52 #[.val (.int p0), .val (.int p1), .val (.int p2), .val (.ref b1), .val (.ref r11), .val (.int (1 : Int32)), .val (.int (p0 &&& (3 : Int32))), .val (.int z23), .val (.int (0 : Int32)), .unset, .unset, .unset] [(.int (1 : Int32)), (.int (p0 &&& (3 : Int32)))]))
          refine Go.st (fun _ => XS.icmpNo X22.here hx rfl (hb hby at_52) rfl (teq q0).2) ?_
          show Go p e below _ (T22.setTop (mkF m 55 #[.val (.int p0), .val (.int p1), .val (.int p2), .val (.ref b1), .val (.ref r11), .val (.int (1 : Int32)), .val (.int (p0 &&& (3 : Int32))), .val (.int z23), .val (.int (0 : Int32)), .unset, .unset, .unset] []))
          refine Go.st (fun _ => XS.aloadN X22.here hx rfl (hb hby at_55) rfl rfl) ?_
          show Go p e below _ (T22.setTop (mkF m 56 #[.val (.int p0), .val (.int p1), .val (.int p2), .val (.ref b1), .val (.ref r11), .val (.int (1 : Int32)), .val (.int (p0 &&& (3 : Int32))), .val (.int z23), .val (.int (0 : Int32)), .unset, .unset, .unset] [(.ref b1)]))
          refine Go.st (fun _ => XS.iload X22.here hx rfl (hb hby at_56) rfl) ?_
          show Go p e below _ (T22.setTop (mkF m 58 #[.val (.int p0), .val (.int p1), .val (.int p2), .val (.ref b1), .val (.ref r11), .val (.int (1 : Int32)), .val (.int (p0 &&& (3 : Int32))), .val (.int z23), .val (.int (0 : Int32)), .unset, .unset, .unset] [(.int z23), (.ref b1)]))
          refine Go.st (fun _ => XS.aload X22.here hx rfl (hb hby at_58) rfl rfl) ?_
          show Go p e below _ (T22.setTop (mkF m 60 #[.val (.int p0), .val (.int p1), .val (.int p2), .val (.ref b1), .val (.ref r11), .val (.int (1 : Int32)), .val (.int (p0 &&& (3 : Int32))), .val (.int z23), .val (.int (0 : Int32)), .unset, .unset, .unset] [(.ref r11), (.int z23), (.ref b1)]))
          refine goVirtS X22 hx hZ (y := (⟨"com/example/sidelane/sidelane/Cancellation", "cancel", "(ZLjava/lang/Object;)Lcom/example/sidelane/sidelane/Cancellation$Outcome;"⟩ : MethodName)) (z := (⟨"com/example/sidelane/sidelane/Cancellation", "cancel", "(ZLjava/lang/Object;)Lcom/example/sidelane/sidelane/Cancellation$Outcome;"⟩ : MethodName)) hown (hw _ (List.mem_of_getElem? (i := 43) rfl)) (hw _ (List.mem_of_getElem? (i := 44) rfl)) (notFace_of_selects (args := #[]) (mvT hZ (hw _ (List.mem_of_getElem? (i := 46) rfl)))) (hw _ (List.mem_of_getElem? (i := 46) rfl)) (hw _ (List.mem_of_getElem? (i := 45) rfl)) (hw _ (List.mem_of_getElem? (i := 2) rfl)) (hw _ (List.mem_of_getElem? (i := 47) rfl)) (by decide) (a := b1) (argsL := [(.int z23), (.ref r11)]) (rest := []) e22 E_14 (caF l Z a0 hw b1 z23 r11 .null .null w_EXECUTE w_ADOPTER w_CANCELLED w_REFUSED w_HANDED_OVER w_CANCELLED_UNEXECUTED w_ENDING_NEEDED  T11.heap n0 O12 Y13 gn1 E_14 F15 F16 F17 F20 F21 F19 F18 S_w_EXECUTE S_w_ADOPTER S_w_CANCELLED S_w_REFUSED S_w_HANDED_OVER S_w_CANCELLED_UNEXECUTED S_w_ENDING_NEEDED ne_w_EXECUTE_w_ADOPTER) 0 (by decide) (by decide) (by decide) (by decide) (mkF m 60 #[.val (.int p0), .val (.int p1), .val (.int p2), .val (.ref b1), .val (.ref r11), .val (.int (1 : Int32)), .val (.int (p0 &&& (3 : Int32))), .val (.int z23), .val (.int (0 : Int32)), .unset, .unset, .unset] [(.ref r11), (.int z23), (.ref b1)]) rfl (by rw [hml]; rfl) (lenOf pd_6 rfl) rfl (hb hby at_60) (Nat.le_of_eq rfl) ?_
          intro v100 T100 L100 X100 hQ100
          obtain ⟨⟨r100, rfl⟩, M100, K100, ⟨Eb100, Ub100, Fb0_100, Fb1_100, Fb2_100, Fb3_100, Fb4_100, Fb5_100, Fb6_100⟩⟩ := hQ100
          have N100 := Fr.app N22 M100
          have O101 : Old Z n0 T100.heap := O12.keep K100 (allS gn1 all0)
          have E_102 : Exa Z T100.heap b1 "com/example/sidelane/sidelane/Cancellation" := E_14.keep K100
          show Go p e below _ (T100.setTop (mkF m 63 #[.val (.int p0), .val (.int p1), .val (.int p2), .val (.ref b1), .val (.ref r11), .val (.int (1 : Int32)), .val (.int (p0 &&& (3 : Int32))), .val (.int z23), .val (.int (0 : Int32)), .unset, .unset, .unset] [(.ref r100)]))
          refine Go.st (fun _ => XS.pop X100.here hx rfl (hb hby at_63) rfl rfl) ?_
          show Go p e below _ (T100.setTop (mkF m 64 #[.val (.int p0), .val (.int p1), .val (.int p2), .val (.ref b1), .val (.ref r11), .val (.int (1 : Int32)), .val (.int (p0 &&& (3 : Int32))), .val (.int z23), .val (.int (0 : Int32)), .unset, .unset, .unset] []))
          refine Go.st (fun _ => XS.iconst X100.here hx rfl (hb hby at_64)) ?_
          show Go p e below _ (T100.setTop (mkF m 65 #[.val (.int p0), .val (.int p1), .val (.int p2), .val (.ref b1), .val (.ref r11), .val (.int (1 : Int32)), .val (.int (p0 &&& (3 : Int32))), .val (.int z23), .val (.int (0 : Int32)), .unset, .unset, .unset] [(.int (1 : Int32))]))
          refine Go.st (fun _ => XS.istore X100.here hx rfl (hb hby at_65) rfl (l' := #[.val (.int p0), .val (.int p1), .val (.int p2), .val (.ref b1), .val (.ref r11), .val (.int (1 : Int32)), .val (.int (p0 &&& (3 : Int32))), .val (.int z23), .val (.int (1 : Int32)), .unset, .unset, .unset]) rfl) ?_
          show Go p e below _ (T100.setTop (mkF m 67 #[.val (.int p0), .val (.int p1), .val (.int p2), .val (.ref b1), .val (.ref r11), .val (.int (1 : Int32)), .val (.int (p0 &&& (3 : Int32))), .val (.int z23), .val (.int (1 : Int32)), .unset, .unset, .unset] []))
          refine Go.st (fun _ => XS.goto X100.here hx rfl (pc0 := 67) (pc' := 98) rfl (hb hby at_67) (by decide) (by decide)) ?_
          show Go p e below _ (T100.setTop (mkF m 98 #[.val (.int p0), .val (.int p1), .val (.int p2), .val (.ref b1), .val (.ref r11), .val (.int (1 : Int32)), .val (.int (p0 &&& (3 : Int32))), .val (.int z23), .val (.int (1 : Int32)), .unset, .unset, .unset] []))
          exact JD T100 ⟨T100.heap, _, X100.more (by decide) (by decide), rfl, N100, O101, ⟨_, _, _, ⟨Eb100, Ub100, Fb0_100, Fb1_100, Fb2_100, Fb3_100, Fb4_100, Fb5_100, Fb6_100⟩, Or.inr ⟨_, rfl⟩, ⟨_, rfl⟩⟩⟩
        · have n1 : ¬ (p0 &&& (3 : Int32)) = (1 : Int32) := by rw [q0]; decide
          have n3 : ¬ (p0 &&& (3 : Int32)) = (3 : Int32) := by rw [q0]; decide
          show Go p e below _ (T22.setTop (mkF m 49 #[.val (.int p0), .val (.int p1), .val (.int p2), .val (.ref b1), .val (.ref r11), .val (.int (1 : Int32)), .val (.int (p0 &&& (3 : Int32))), .val (.int z23), .val (.int (0 : Int32)), .unset, .unset, .unset] []))
          refine Go.st (fun _ => XS.iload X22.here hx rfl (hb hby at_49) rfl) ?_
          show Go p e below _ (T22.setTop (mkF m 51 #[.val (.int p0), .val (.int p1), .val (.int p2), .val (.ref b1), .val (.ref r11), .val (.int (1 : Int32)), .val (.int (p0 &&& (3 : Int32))), .val (.int z23), .val (.int (0 : Int32)), .unset, .unset, .unset] [(.int (p0 &&& (3 : Int32)))]))
          refine Go.st (fun _ => XS.iconst X22.here hx rfl (hb hby at_51)) ?_
          show Go p e below _ (T22.setTop (mkF m 52 #[.val (.int p0), .val (.int p1), .val (.int p2), .val (.ref b1), .val (.ref r11), .val (.int (1 : Int32)), .val (.int (p0 &&& (3 : Int32))), .val (.int z23), .val (.int (0 : Int32)), .unset, .unset, .unset] [(.int (1 : Int32)), (.int (p0 &&& (3 : Int32)))]))
          refine Go.st (fun _ => XS.icmpYes X22.here hx rfl (pc0 := 52) (pc' := 70) rfl (hb hby at_52) rfl (feq n1).2 (by decide) (by decide)) ?_
          show Go p e below _ (T22.setTop (mkF m 70 #[.val (.int p0), .val (.int p1), .val (.int p2), .val (.ref b1), .val (.ref r11), .val (.int (1 : Int32)), .val (.int (p0 &&& (3 : Int32))), .val (.int z23), .val (.int (0 : Int32)), .unset, .unset, .unset] []))
          refine Go.st (fun _ => XS.iload X22.here hx rfl (hb hby at_70) rfl) ?_
          show Go p e below _ (T22.setTop (mkF m 72 #[.val (.int p0), .val (.int p1), .val (.int p2), .val (.ref b1), .val (.ref r11), .val (.int (1 : Int32)), .val (.int (p0 &&& (3 : Int32))), .val (.int z23), .val (.int (0 : Int32)), .unset, .unset, .unset] [(.int (p0 &&& (3 : Int32)))]))
          refine Go.st (fun _ => XS.iconst X22.here hx rfl (hb hby at_72)) ?_
          show Go p e below _ (T22.setTop (mkF m 73 #[.val (.int p0), .val (.int p1), .val (.int p2), .val (.ref b1), .val (.ref r11), .val (.int (1 : Int32)), .val (.int (p0 &&& (3 : Int32))), .val (.int z23), .val (.int (0 : Int32)), .unset, .unset, .unset] [(.int (2 : Int32)), (.int (p0 &&& (3 : Int32)))]))
          refine Go.st (fun _ => XS.icmpNo X22.here hx rfl (hb hby at_73) rfl (teq q0).2) ?_
          show Go p e below _ (T22.setTop (mkF m 76 #[.val (.int p0), .val (.int p1), .val (.int p2), .val (.ref b1), .val (.ref r11), .val (.int (1 : Int32)), .val (.int (p0 &&& (3 : Int32))), .val (.int z23), .val (.int (0 : Int32)), .unset, .unset, .unset] []))
          refine Go.st (fun _ => XS.aloadN X22.here hx rfl (hb hby at_76) rfl rfl) ?_
          show Go p e below _ (T22.setTop (mkF m 77 #[.val (.int p0), .val (.int p1), .val (.int p2), .val (.ref b1), .val (.ref r11), .val (.int (1 : Int32)), .val (.int (p0 &&& (3 : Int32))), .val (.int z23), .val (.int (0 : Int32)), .unset, .unset, .unset] [(.ref b1)]))
          refine Go.st (fun _ => XS.iload X22.here hx rfl (hb hby at_77) rfl) ?_
          show Go p e below _ (T22.setTop (mkF m 79 #[.val (.int p0), .val (.int p1), .val (.int p2), .val (.ref b1), .val (.ref r11), .val (.int (1 : Int32)), .val (.int (p0 &&& (3 : Int32))), .val (.int z23), .val (.int (0 : Int32)), .unset, .unset, .unset] [(.int z23), (.ref b1)]))
          refine Go.st (fun _ => XS.aconstNull X22.here hx rfl (hb hby at_79)) ?_
          show Go p e below _ (T22.setTop (mkF m 80 #[.val (.int p0), .val (.int p1), .val (.int p2), .val (.ref b1), .val (.ref r11), .val (.int (1 : Int32)), .val (.int (p0 &&& (3 : Int32))), .val (.int z23), .val (.int (0 : Int32)), .unset, .unset, .unset] [.null, (.int z23), (.ref b1)]))
          refine goVirtS X22 hx hZ (y := (⟨"com/example/sidelane/sidelane/Cancellation", "cancel", "(ZLjava/lang/Object;)Lcom/example/sidelane/sidelane/Cancellation$Outcome;"⟩ : MethodName)) (z := (⟨"com/example/sidelane/sidelane/Cancellation", "cancel", "(ZLjava/lang/Object;)Lcom/example/sidelane/sidelane/Cancellation$Outcome;"⟩ : MethodName)) hown (hw _ (List.mem_of_getElem? (i := 43) rfl)) (hw _ (List.mem_of_getElem? (i := 44) rfl)) (notFace_of_selects (args := #[]) (mvT hZ (hw _ (List.mem_of_getElem? (i := 46) rfl)))) (hw _ (List.mem_of_getElem? (i := 46) rfl)) (hw _ (List.mem_of_getElem? (i := 45) rfl)) (hw _ (List.mem_of_getElem? (i := 2) rfl)) (hw _ (List.mem_of_getElem? (i := 47) rfl)) (by decide) (a := b1) (argsL := [(.int z23), .null]) (rest := []) e22 E_14 (caE l Z a0 hw b1 z23  .null .null w_EXECUTE w_ADOPTER w_CANCELLED w_REFUSED w_HANDED_OVER w_CANCELLED_UNEXECUTED w_ENDING_NEEDED  T11.heap n0 O12 Y13 gn1 E_14 F15 F16 F17 F20 F21 F19 F18 S_w_EXECUTE S_w_ADOPTER S_w_CANCELLED S_w_REFUSED S_w_HANDED_OVER S_w_CANCELLED_UNEXECUTED S_w_ENDING_NEEDED ne_w_EXECUTE_w_ADOPTER) 0 (by decide) (by decide) (by decide) (by decide) (mkF m 80 #[.val (.int p0), .val (.int p1), .val (.int p2), .val (.ref b1), .val (.ref r11), .val (.int (1 : Int32)), .val (.int (p0 &&& (3 : Int32))), .val (.int z23), .val (.int (0 : Int32)), .unset, .unset, .unset] [.null, (.int z23), (.ref b1)]) rfl (by rw [hml]; rfl) (lenOf pd_6 rfl) rfl (hb hby at_80) (Nat.le_of_eq rfl) ?_
          intro v103 T103 L103 X103 hQ103
          obtain ⟨⟨r103, rfl⟩, M103, K103, ⟨Eb103, Ub103, Fb0_103, Fb1_103, Fb2_103, Fb3_103, Fb4_103, Fb5_103, Fb6_103⟩⟩ := hQ103
          have N103 := Fr.app N22 M103
          have O104 : Old Z n0 T103.heap := O12.keep K103 (allS gn1 all0)
          have E_105 : Exa Z T103.heap b1 "com/example/sidelane/sidelane/Cancellation" := E_14.keep K103
          show Go p e below _ (T103.setTop (mkF m 83 #[.val (.int p0), .val (.int p1), .val (.int p2), .val (.ref b1), .val (.ref r11), .val (.int (1 : Int32)), .val (.int (p0 &&& (3 : Int32))), .val (.int z23), .val (.int (0 : Int32)), .unset, .unset, .unset] [(.ref r103)]))
          refine Go.st (fun _ => XS.pop X103.here hx rfl (hb hby at_83) rfl rfl) ?_
          show Go p e below _ (T103.setTop (mkF m 84 #[.val (.int p0), .val (.int p1), .val (.int p2), .val (.ref b1), .val (.ref r11), .val (.int (1 : Int32)), .val (.int (p0 &&& (3 : Int32))), .val (.int z23), .val (.int (0 : Int32)), .unset, .unset, .unset] []))
          refine Go.st (fun _ => XS.goto X103.here hx rfl (pc0 := 84) (pc' := 98) rfl (hb hby at_84) (by decide) (by decide)) ?_
          show Go p e below _ (T103.setTop (mkF m 98 #[.val (.int p0), .val (.int p1), .val (.int p2), .val (.ref b1), .val (.ref r11), .val (.int (1 : Int32)), .val (.int (p0 &&& (3 : Int32))), .val (.int z23), .val (.int (0 : Int32)), .unset, .unset, .unset] []))
          exact JC T103 ⟨T103.heap, _, X103.more (by decide) (by decide), rfl, N103, O104, ⟨_, _, _, ⟨Eb103, Ub103, Fb0_103, Fb1_103, Fb2_103, Fb3_103, Fb4_103, Fb5_103, Fb6_103⟩, Or.inl rfl⟩⟩
        · have n1 : ¬ (p0 &&& (3 : Int32)) = (1 : Int32) := by rw [q0]; decide
          have n2 : ¬ (p0 &&& (3 : Int32)) = (2 : Int32) := by rw [q0]; decide
          show Go p e below _ (T22.setTop (mkF m 49 #[.val (.int p0), .val (.int p1), .val (.int p2), .val (.ref b1), .val (.ref r11), .val (.int (1 : Int32)), .val (.int (p0 &&& (3 : Int32))), .val (.int z23), .val (.int (0 : Int32)), .unset, .unset, .unset] []))
          refine Go.st (fun _ => XS.iload X22.here hx rfl (hb hby at_49) rfl) ?_
          show Go p e below _ (T22.setTop (mkF m 51 #[.val (.int p0), .val (.int p1), .val (.int p2), .val (.ref b1), .val (.ref r11), .val (.int (1 : Int32)), .val (.int (p0 &&& (3 : Int32))), .val (.int z23), .val (.int (0 : Int32)), .unset, .unset, .unset] [(.int (p0 &&& (3 : Int32)))]))
          refine Go.st (fun _ => XS.iconst X22.here hx rfl (hb hby at_51)) ?_
          show Go p e below _ (T22.setTop (mkF m 52 #[.val (.int p0), .val (.int p1), .val (.int p2), .val (.ref b1), .val (.ref r11), .val (.int (1 : Int32)), .val (.int (p0 &&& (3 : Int32))), .val (.int z23), .val (.int (0 : Int32)), .unset, .unset, .unset] [(.int (1 : Int32)), (.int (p0 &&& (3 : Int32)))]))
          refine Go.st (fun _ => XS.icmpYes X22.here hx rfl (pc0 := 52) (pc' := 70) rfl (hb hby at_52) rfl (feq n1).2 (by decide) (by decide)) ?_
          show Go p e below _ (T22.setTop (mkF m 70 #[.val (.int p0), .val (.int p1), .val (.int p2), .val (.ref b1), .val (.ref r11), .val (.int (1 : Int32)), .val (.int (p0 &&& (3 : Int32))), .val (.int z23), .val (.int (0 : Int32)), .unset, .unset, .unset] []))
          refine Go.st (fun _ => XS.iload X22.here hx rfl (hb hby at_70) rfl) ?_
          show Go p e below _ (T22.setTop (mkF m 72 #[.val (.int p0), .val (.int p1), .val (.int p2), .val (.ref b1), .val (.ref r11), .val (.int (1 : Int32)), .val (.int (p0 &&& (3 : Int32))), .val (.int z23), .val (.int (0 : Int32)), .unset, .unset, .unset] [(.int (p0 &&& (3 : Int32)))]))
          refine Go.st (fun _ => XS.iconst X22.here hx rfl (hb hby at_72)) ?_
          show Go p e below _ (T22.setTop (mkF m 73 #[.val (.int p0), .val (.int p1), .val (.int p2), .val (.ref b1), .val (.ref r11), .val (.int (1 : Int32)), .val (.int (p0 &&& (3 : Int32))), .val (.int z23), .val (.int (0 : Int32)), .unset, .unset, .unset] [(.int (2 : Int32)), (.int (p0 &&& (3 : Int32)))]))
          refine Go.st (fun _ => XS.icmpYes X22.here hx rfl (pc0 := 73) (pc' := 87) rfl (hb hby at_73) rfl (feq n2).2 (by decide) (by decide)) ?_
          show Go p e below _ (T22.setTop (mkF m 87 #[.val (.int p0), .val (.int p1), .val (.int p2), .val (.ref b1), .val (.ref r11), .val (.int (1 : Int32)), .val (.int (p0 &&& (3 : Int32))), .val (.int z23), .val (.int (0 : Int32)), .unset, .unset, .unset] []))
          refine Go.st (fun _ => XS.iload X22.here hx rfl (hb hby at_87) rfl) ?_
          show Go p e below _ (T22.setTop (mkF m 89 #[.val (.int p0), .val (.int p1), .val (.int p2), .val (.ref b1), .val (.ref r11), .val (.int (1 : Int32)), .val (.int (p0 &&& (3 : Int32))), .val (.int z23), .val (.int (0 : Int32)), .unset, .unset, .unset] [(.int (p0 &&& (3 : Int32)))]))
          refine Go.st (fun _ => XS.iconst X22.here hx rfl (hb hby at_89)) ?_
          show Go p e below _ (T22.setTop (mkF m 90 #[.val (.int p0), .val (.int p1), .val (.int p2), .val (.ref b1), .val (.ref r11), .val (.int (1 : Int32)), .val (.int (p0 &&& (3 : Int32))), .val (.int z23), .val (.int (0 : Int32)), .unset, .unset, .unset] [(.int (3 : Int32)), (.int (p0 &&& (3 : Int32)))]))
          refine Go.st (fun _ => XS.icmpNo X22.here hx rfl (hb hby at_90) rfl (teq q0).2) ?_
          show Go p e below _ (T22.setTop (mkF m 93 #[.val (.int p0), .val (.int p1), .val (.int p2), .val (.ref b1), .val (.ref r11), .val (.int (1 : Int32)), .val (.int (p0 &&& (3 : Int32))), .val (.int z23), .val (.int (0 : Int32)), .unset, .unset, .unset] []))
          refine Go.st (fun _ => XS.aloadN X22.here hx rfl (hb hby at_93) rfl rfl) ?_
          show Go p e below _ (T22.setTop (mkF m 94 #[.val (.int p0), .val (.int p1), .val (.int p2), .val (.ref b1), .val (.ref r11), .val (.int (1 : Int32)), .val (.int (p0 &&& (3 : Int32))), .val (.int z23), .val (.int (0 : Int32)), .unset, .unset, .unset] [(.ref b1)]))
          refine goVirtS X22 hx hZ (y := (⟨"com/example/sidelane/sidelane/Cancellation", "beginEnding", "()Z"⟩ : MethodName)) (z := (⟨"com/example/sidelane/sidelane/Cancellation", "beginEnding", "()Z"⟩ : MethodName)) hown (hw _ (List.mem_of_getElem? (i := 79) rfl)) (hw _ (List.mem_of_getElem? (i := 80) rfl)) (notFace_of_selects (args := #[]) (mvT hZ (hw _ (List.mem_of_getElem? (i := 82) rfl)))) (hw _ (List.mem_of_getElem? (i := 82) rfl)) (hw _ (List.mem_of_getElem? (i := 81) rfl)) (hw _ (List.mem_of_getElem? (i := 2) rfl)) (hw _ (List.mem_of_getElem? (i := 83) rfl)) (by decide) (a := b1) (argsL := []) (rest := []) e22 E_14 (rmBE l Z a0 hw b1 .null .null T11.heap n0 O12 Y13 gn1 E_14 F15 F16 F17 F20 F21 F19 F18) 0 (by decide) (by decide) (by decide) (by decide) (mkF m 94 #[.val (.int p0), .val (.int p1), .val (.int p2), .val (.ref b1), .val (.ref r11), .val (.int (1 : Int32)), .val (.int (p0 &&& (3 : Int32))), .val (.int z23), .val (.int (0 : Int32)), .unset, .unset, .unset] [(.ref b1)]) rfl (by rw [hml]; rfl) (lenOf pd_2 rfl) rfl (hb hby at_94) (Nat.le_of_eq rfl) ?_
          intro v106 T106 L106 X106 hQ106
          obtain ⟨rfl, M106, K106, ⟨Eb106, Ub106, Fb0_106, Fb1_106, Fb2_106, Fb3_106, Fb4_106, Fb5_106, Fb6_106⟩⟩ := hQ106
          have N106 := Fr.app N22 M106
          have O107 : Old Z n0 T106.heap := O12.keep K106 (allS gn1 all0)
          have E_108 : Exa Z T106.heap b1 "com/example/sidelane/sidelane/Cancellation" := E_14.keep K106
          show Go p e below _ (T106.setTop (mkF m 97 #[.val (.int p0), .val (.int p1), .val (.int p2), .val (.ref b1), .val (.ref r11), .val (.int (1 : Int32)), .val (.int (p0 &&& (3 : Int32))), .val (.int z23), .val (.int (0 : Int32)), .unset, .unset, .unset] [(.int (1 : Int32))]))
          refine Go.st (fun _ => XS.pop X106.here hx rfl (hb hby at_97) rfl rfl) ?_
          show Go p e below _ (T106.setTop (mkF m 98 #[.val (.int p0), .val (.int p1), .val (.int p2), .val (.ref b1), .val (.ref r11), .val (.int (1 : Int32)), .val (.int (p0 &&& (3 : Int32))), .val (.int z23), .val (.int (0 : Int32)), .unset, .unset, .unset] []))
          exact JC T106 ⟨T106.heap, _, X106.more (by decide) (by decide), rfl, N106, O107, ⟨_, _, _, ⟨Eb106, Ub106, Fb0_106, Fb1_106, Fb2_106, Fb3_106, Fb4_106, Fb5_106, Fb6_106⟩, Or.inr rfl⟩⟩
  · show Go p e below _ (T22.setTop (mkF m 36 #[.val (.int p0), .val (.int p1), .val (.int p2), .val (.ref b1), .val (.ref r11), .val (.int (1 : Int32)), .val (.int (p0 &&& (3 : Int32))), .unset, .unset, .unset, .unset, .unset] [(.int (p0 &&& (4 : Int32)))]))
    by_cases hc109 : (p0 &&& (4 : Int32)) = (0 : Int32)
    · refine Go.st (fun _ => XS.ifYes X22.here hx rfl (pc0 := 36) (pc' := 43) rfl (hb hby at_36) rfl ((if0 _ _).trans (teq hc109).1) (by decide) (by decide)) ?_
      show Go p e below _ (T22.setTop (mkF m 43 #[.val (.int p0), .val (.int p1), .val (.int p2), .val (.ref b1), .val (.ref r11), .val (.int (1 : Int32)), .val (.int (p0 &&& (3 : Int32))), .unset, .unset, .unset, .unset, .unset] []))
      refine Go.st (fun _ => XS.iconst X22.here hx rfl (hb hby at_43)) ?_
      exact J23 _ trivial
    · refine Go.st (fun _ => XS.ifNo X22.here hx rfl (hb hby at_36) rfl ((if0 _ _).trans (feq hc109).1)) ?_
      show Go p e below _ (T22.setTop (mkF m 39 #[.val (.int p0), .val (.int p1), .val (.int p2), .val (.ref b1), .val (.ref r11), .val (.int (1 : Int32)), .val (.int (p0 &&& (3 : Int32))), .unset, .unset, .unset, .unset, .unset] []))
      refine Go.st (fun _ => XS.iconst X22.here hx rfl (hb hby at_39)) ?_
      show Go p e below _ (T22.setTop (mkF m 40 #[.val (.int p0), .val (.int p1), .val (.int p2), .val (.ref b1), .val (.ref r11), .val (.int (1 : Int32)), .val (.int (p0 &&& (3 : Int32))), .unset, .unset, .unset, .unset, .unset] [(.int (1 : Int32))]))
      refine Go.st (fun _ => XS.goto X22.here hx rfl (pc0 := 40) (pc' := 44) rfl (hb hby at_40) (by decide) (by decide)) ?_
      exact J23 _ trivial
set_option maxRecDepth 65536 in
set_option maxHeartbeats 40000000 in
theorem comes_1 {Post : Tables → Env → Array Value → State → Outcome → State → Prop} (hpost : ∀ tb e args s v u, (limb_1_1.after args s (.returned v) u = true ∧ limb_1_2.after args s (.returned v) u = true ∧ True) → FrameEnd s (.returned v) u (Jvm.fieldLocs frame_1_writes args s ++ Jvm.arrayLocs frame_1_arrays args s ++ Jvm.staticLocs frame_1_statics s) 16 128 → Post tb e args s (.returned v) u) :
    ArmFor flags0 classFile x code maxLocals ret World_1 tables_1 room_1 Calls_1 rest_1 Pre_1 Post := by
  intro l hfl _ _ p e ha hc hk s m args below hf hA hF happ hP
  obtain ⟨hcalls, hrest, hpre⟩ := hP
  obtain ⟨-, -, -, hnamed, -, -, -, hat⟩ := (Spec.applies_iff hf).mp happ
  obtain ⟨hg, hn⟩ := and_e (Cond.before_iff.mp (show (Jvm.Cond.and given_1 narrow_1).before args s = true from hpre))
  obtain ⟨g1, g2⟩ := and_e hg
  obtain ⟨g3, g4⟩ := and_e g2
  obtain ⟨g5, g6⟩ := and_e g4
  obtain ⟨w0, w1, w2, rfl⟩ : ∃ w0 w1 w2 : Value, args = #[w0, w1, w2] := by
    have hs : args.size = 3 := by simpa [Cond.value, given_1] using g1
    obtain ⟨L⟩ := args
    match L, hs with
    | [w0, w1, w2], _ => exact ⟨w0, w1, w2, rfl⟩
  have hw := fun d (hd : d ∈ tables_1) => atoms_spec (ws := Jvm.Cond.code x code maxLocals ret :: tables_1) hat d (List.mem_cons_of_mem _ hd)
  have hfit : Fit s := fun {y c} hc i hi => by
    obtain ⟨ha, rfl⟩ := Array.getElem?_eq_some_iff.mp hc
    have q := List.all_eq_true.mp ((Array.all_eq_true_iff_forall_mem.mp hF) _ (Array.getElem_mem ha)) i (List.mem_range.mpr hi)
    simpa [Array.getElem?_eq_getElem hi] using q
  obtain ⟨hsets, hown0⟩ := atoms_of _ (rest_1_c_eq ▸ (show rest_1_c.before _ s = true from hrest))
  obtain ⟨i0, ei0⟩ := is_v g3
  obtain rfl : w0 = (.int i0) := Option.some.inj ei0
  obtain ⟨i1, ei1⟩ := is_v g5
  obtain rfl : w1 = (.int i1) := Option.some.inj ei1
  obtain ⟨i2, ei2⟩ := is_v g6
  obtain rfl : w2 = (.int i2) := Option.some.inj ei2
  obtain ⟨g7, g8⟩ := and_e hn
  obtain ⟨w_ADOPTER, ev_ADOPTER⟩ := exa_v g7
  have S_w_ADOPTER := Sta.start ev_ADOPTER (Or.inr ⟨(hw _ (List.mem_of_getElem? (i := 24) rfl)), (hw _ (List.mem_of_getElem? (i := 25) rfl))⟩)
  have E_w_ADOPTER := Exa.start ev_ADOPTER g7
  obtain ⟨g9, g10⟩ := and_e g8
  obtain ⟨w_EXECUTE, ev_EXECUTE⟩ := exa_v g9
  have S_w_EXECUTE := Sta.start ev_EXECUTE (Or.inr ⟨(hw _ (List.mem_of_getElem? (i := 24) rfl)), (hw _ (List.mem_of_getElem? (i := 51) rfl))⟩)
  have E_w_EXECUTE := Exa.start ev_EXECUTE g9
  obtain ⟨g11, g12⟩ := and_e g10
  obtain ⟨w_CANCELLED_UNEXECUTED, ev_CANCELLED_UNEXECUTED⟩ := exa_v g11
  have S_w_CANCELLED_UNEXECUTED := Sta.start ev_CANCELLED_UNEXECUTED (Or.inr ⟨(hw _ (List.mem_of_getElem? (i := 53) rfl)), (hw _ (List.mem_of_getElem? (i := 54) rfl))⟩)
  have E_w_CANCELLED_UNEXECUTED := Exa.start ev_CANCELLED_UNEXECUTED g11
  obtain ⟨g13, g14⟩ := and_e g12
  have F_w_EXECUTE_ordinal := fldStart ev_EXECUTE g13
  obtain ⟨g15, g16⟩ := and_e g14
  have F_w_ADOPTER_ordinal := fldStart ev_ADOPTER g15
  obtain ⟨g17, g18⟩ := and_e g16
  obtain ⟨w_CANCELLED, ev_CANCELLED⟩ := exa_v g17
  have S_w_CANCELLED := Sta.start ev_CANCELLED (Or.inr ⟨(hw _ (List.mem_of_getElem? (i := 53) rfl)), (hw _ (List.mem_of_getElem? (i := 63) rfl))⟩)
  have E_w_CANCELLED := Exa.start ev_CANCELLED g17
  obtain ⟨g19, g20⟩ := and_e g18
  obtain ⟨w_REFUSED, ev_REFUSED⟩ := exa_v g19
  have S_w_REFUSED := Sta.start ev_REFUSED (Or.inr ⟨(hw _ (List.mem_of_getElem? (i := 53) rfl)), (hw _ (List.mem_of_getElem? (i := 85) rfl))⟩)
  have E_w_REFUSED := Exa.start ev_REFUSED g19
  obtain ⟨g21, g22⟩ := and_e g20
  obtain ⟨w_ENDING_NEEDED, ev_ENDING_NEEDED⟩ := exa_v g21
  have S_w_ENDING_NEEDED := Sta.start ev_ENDING_NEEDED (Or.inr ⟨(hw _ (List.mem_of_getElem? (i := 53) rfl)), (hw _ (List.mem_of_getElem? (i := 87) rfl))⟩)
  have E_w_ENDING_NEEDED := Exa.start ev_ENDING_NEEDED g21
  obtain ⟨w_HANDED_OVER, ev_HANDED_OVER⟩ := exa_v g22
  have S_w_HANDED_OVER := Sta.start ev_HANDED_OVER (Or.inr ⟨(hw _ (List.mem_of_getElem? (i := 53) rfl)), (hw _ (List.mem_of_getElem? (i := 89) rfl))⟩)
  have E_w_HANDED_OVER := Exa.start ev_HANDED_OVER g22
  have hb2 := Cond.before_iff.mp (hsets _ (List.mem_of_getElem? (i := 4) rfl))
  obtain ⟨wc, evc⟩ := arr_v hb2
  obtain ⟨cl, Arc⟩ := Arr.start evc hb2
  have S_cache := Sta.start evc (Or.inr ⟨(hw _ (List.mem_of_getElem? (i := 14) rfl)), (hsets _ (List.mem_of_getElem? (i := 2) rfl))⟩)
  have S_high := Sta.start (staInt (Cond.before_iff.mp (hsets _ (List.mem_of_getElem? (i := 3) rfl)))) (Or.inl (hsets _ (List.mem_of_getElem? (i := 1) rfl)))
  obtain ⟨hlt, hle⟩ := lenStart evc (Arc.fin (Vm.Alike.refl _)) (Cond.before_iff.mp (hsets _ (List.mem_of_getElem? (i := 6) rfl)))
  have BX : Bxs s wc cl "java/lang/Integer" "I" 256 (fun j => (.int (j - 128))) := Bxs.start (fun _ => evc) Arc hlt hle (by decide) (Cond.before_iff.mp (hsets _ (List.mem_of_getElem? (i := 7) rfl))) (fun X j nn hX => eqv_i (subAt (idx_at nn) (Term.int_eval 128)) hX)
  have ne_w_EXECUTE_w_ADOPTER : w_EXECUTE ≠ w_ADOPTER := Fld.ne F_w_EXECUTE_ordinal F_w_ADOPTER_ordinal (by decide)
  obtain ⟨n, o, h1, h2, h3, _, L, rfl, ⟨rfl, N⟩, hq⟩ := rm0 l s _ hw tables_1 i0 i1 i2 wc cl w_EXECUTE w_ADOPTER w_CANCELLED w_REFUSED w_HANDED_OVER w_CANCELLED_UNEXECUTED w_ENDING_NEEDED s.heap s.heap.size (Old.start s) S_w_EXECUTE S_w_ADOPTER S_w_CANCELLED S_w_REFUSED S_w_HANDED_OVER S_w_CANCELLED_UNEXECUTED S_w_ENDING_NEEDED ne_w_EXECUTE_w_ADOPTER S_cache S_high BX p e ha hc hk s m _ below hf ((Spec.applies_iff_loose hf).mp happ).1 ⟨rfl, State.Warmed39.refl s, rfl⟩ trivial
  refine ⟨n, _, h1, h2, h3, hpost _ _ _ _ _ _ ⟨Cond.after_iff.mpr rfl, Cond.after_iff.mpr (eq_i res_at (Term.int_eval (1)) rfl), trivial⟩ ⟨hq.1, hq.2.1, (hq.2.2.sift fun y hy => Or.inr (N y hy)).mono (by decide) (by decide)⟩⟩
theorem main_1_1 : Claimed_1_1 := comes_1 fun _ _ _ _ _ _ h hF => ⟨h.1, hF⟩
theorem main_1_2 : Claimed_1_2 := comes_1 fun _ _ _ _ _ _ h hF => ⟨h.2.1, hF⟩
end Jvm.Pilot.@@N@@
namespace Jvm.Pilot.@@N@@
open Jvm Jvm.ClassFile Sem Op Lib Jvm.Free Jvm.Stand Jvm.Pilot.@@N@@.Jvm.D
/-! MADE BY PROGRAM (witnessworld.py) out of the Statement's table words and the real class files: 19 classes; the members and pool entries that the words name. The judged class is class 1, her method 2. -/
namespace start1
open Jvm.ClassFile
def u (s : String) : CpInfo := .utf8 (stringToUtf16 s)
/-- a pool by its gaps: so many unusable entries, then the entry; so many at the end -/
def gap : Nat → List CpInfo → List CpInfo
  | 0, r => r
  | n + 1, r => .unusable :: gap n r
def poolList (es : List (Nat × CpInfo)) (last : Nat) : List CpInfo := es.foldr (fun e r => gap e.1 (e.2 :: r)) (gap last [])
def pool (es : List (Nat × CpInfo)) (last : Nat) : Array CpInfo := ⟨poolList es last⟩
def fileOf (pool : Array CpInfo) (this : Nat) (attrs : Array Attribute := #[]) (ms : Array MethodInfo := #[]) (fl : Nat := 33) (sup : Nat := 0) (ifs : Array Nat := #[]) (fds : Array FieldInfo := #[]) : ClassFile where
  minorVersion := 0
  majorVersion := 65
  constantPool := pool
  accessFlags := fl
  thisClass := this
  superClass := sup
  interfaces := ifs
  fields := fds
  methods := ms
  attributes := attrs
def plain (name : String) (sup : Option ClassId) : Class where
  name := name
  kind := .ordinary
  loader := none
  accessFlags := 33
  super := sup
  interfaces := #[]
  cf := none
  fields := #[]
  methods := #[]
  instanceTypes := #[]
  staticTypes := #[]
  resolved := #[]
  callSites := []
  init := .initialized
  statics := none
  mirror := none

def pool0 : Array CpInfo := pool [(5, u "<init>"), (0, u "()V"), (1, .class_ 10), (1, u "java/lang/Object")] 113

def k0c0 : Code := { maxStack := 0, maxLocals := 1, code := object_method_1_code, exceptionTable := #[], attributes := #[] }
def k0m0 : Method := { name := "<init>", desc := "()V", sig := { parameters := [], returnType := none }, accessFlags := 1, code := some k0c0 }
/-- java/lang/Object -/
def k0 : Class := { plain "java/lang/Object" none with
  accessFlags := 33
  interfaces := #[]
  cf := some (fileOf pool0 8 #[] #[{ accessFlags := 1, nameIndex := 5, descriptorIndex := 6, attributes := #[] }] 33 0 #[] #[])
  fields := #[]
  methods := #[k0m0]
  instanceTypes := #[]
  staticTypes := #[]
  resolved := Array.replicate 124 none
  statics := none }

def pool1 : Array CpInfo := pool [(2, .class_ 4), (0, .nameAndType 5 6), (0, u "java/lang/Object"), (0, u "<init>"), (0, u "()V"), (0, .fieldref 8 9), (0, .class_ 10), (0, .nameAndType 11 12), (0, u "com/example/sidelane/sidelane/Cancellation$Claimant"), (0, u "ADOPTER"), (0, u "Lcom/example/sidelane/sidelane/Cancellation$Claimant;"), (0, .fieldref 8 14), (0, .nameAndType 15 12), (0, u "EXECUTE"), (0, .class_ 17), (0, u "com/example/sidelane/sidelane/Cancellation"), (0, .methodref 16 3), (0, .methodref 20 21), (0, .class_ 22), (0, .nameAndType 23 24), (0, u "java/lang/Integer"), (0, u "valueOf"), (0, u "(I)Ljava/lang/Integer;"), (0, .methodref 16 26), (0, .nameAndType 27 28), (0, u "isHandedOver"), (0, u "()Z"), (0, .methodref 16 30), (0, .nameAndType 31 32), (0, u "cancel"), (0, u "(ZLjava/lang/Object;)Lcom/example/sidelane/sidelane/Cancellation$Outcome;"), (0, .methodref 16 34), (0, .nameAndType 35 28), (0, u "beginEnding"), (0, .methodref 37 38), (0, .class_ 39), (0, .nameAndType 40 41), (0, u "com/example/sidelane/sidelane/CancellationIsHandedOverPinLaw"), (0, u "pick"), (0, u "(I)Lcom/example/sidelane/sidelane/Cancellation$Claimant;"), (0, .methodref 16 43), (0, .nameAndType 44 45), (0, u "claim"), (0, u "(Lcom/example/sidelane/sidelane/Cancellation$Claimant;)Z"), (3, u "law"), (0, u "(III)Z")] 7

def k1m0 : Method := { name := "<init>", desc := "()V", sig := { parameters := [], returnType := none }, accessFlags := 1, code := none }
def k1c1 : Code := { maxStack := 1, maxLocals := 1, code := method_2_code, exceptionTable := #[], attributes := #[] }
def k1m1 : Method := { name := "pick", desc := "(I)Lcom/example/sidelane/sidelane/Cancellation$Claimant;", sig := { parameters := [.int], returnType := some (.object "com/example/sidelane/sidelane/Cancellation$Claimant") }, accessFlags := 10, code := some k1c1 }
def k1c2 : Code := { maxStack := 3, maxLocals := 12, code := code, exceptionTable := #[], attributes := #[] }
def k1m2 : Method := { name := "law", desc := "(III)Z", sig := { parameters := [.int, .int, .int], returnType := some .boolean }, accessFlags := 9, code := some k1c2 }
/-- com/example/sidelane/sidelane/CancellationIsHandedOverPinLaw -/
def k1 : Class := { plain "com/example/sidelane/sidelane/CancellationIsHandedOverPinLaw" (some 0) with
  accessFlags := 49
  interfaces := #[]
  cf := some (fileOf pool1 37 #[] #[{ accessFlags := 1, nameIndex := 5, descriptorIndex := 6, attributes := #[] }, { accessFlags := 10, nameIndex := 40, descriptorIndex := 41, attributes := #[] }, { accessFlags := 9, nameIndex := 49, descriptorIndex := 50, attributes := #[] }] 49 2 #[] #[])
  fields := #[]
  methods := #[k1m0, k1m1, k1m2]
  instanceTypes := #[]
  staticTypes := #[]
  resolved := Array.replicate 58 none
  statics := none }

def pool2 : Array CpInfo := pool [(1, .methodref 2 3), (0, .class_ 4), (0, .nameAndType 5 6), (0, u "java/lang/Object"), (0, u "<init>"), (0, u "()V"), (0, .fieldref 8 9), (0, .class_ 10), (0, .nameAndType 11 12), (0, u "com/example/sidelane/sidelane/Cancellation"), (0, u "claimedBy"), (0, u "Lcom/example/sidelane/sidelane/Cancellation$Claimant;"), (0, .fieldref 14 15), (0, .class_ 16), (0, .nameAndType 17 12), (0, u "com/example/sidelane/sidelane/Cancellation$Claimant"), (0, u "ADOPTER"), (0, .fieldref 19 20), (0, .class_ 21), (0, .nameAndType 22 23), (0, u "com/example/sidelane/sidelane/Cancellation$Outcome"), (0, u "HANDED_OVER"), (0, u "Lcom/example/sidelane/sidelane/Cancellation$Outcome;"), (0, .fieldref 8 25), (0, .nameAndType 26 27), (0, u "cancelled"), (0, u "Z"), (0, .fieldref 8 29), (0, .nameAndType 30 31), (0, u "cancelEnding"), (0, u "Ljava/lang/Object;"), (0, .fieldref 8 33), (0, .nameAndType 34 23), (0, u "cancelOutcome"), (0, .fieldref 19 36), (0, .nameAndType 37 23), (0, u "REFUSED"), (0, .fieldref 8 39), (0, .nameAndType 40 27), (0, u "endingBegun"), (0, .fieldref 14 42), (0, .nameAndType 43 12), (0, u "EXECUTE"), (0, .fieldref 8 45), (0, .nameAndType 46 27), (0, u "queued"), (0, .fieldref 19 48), (0, .nameAndType 49 23), (0, u "ENDING_NEEDED"), (0, .fieldref 8 51), (0, .nameAndType 52 53), (0, u "runner"), (0, u "Ljava/lang/Thread;"), (5, .fieldref 19 60), (0, .nameAndType 61 23), (0, u "CANCELLED_UNEXECUTED"), (3, .fieldref 19 66), (0, .nameAndType 67 23), (0, u "CANCELLED"), (0, .methodref 8 69), (0, .nameAndType 70 71), (0, u "isClaimed"), (0, u "()Z"), (6, u "cancel"), (0, u "(ZLjava/lang/Object;)Lcom/example/sidelane/sidelane/Cancellation$Outcome;"), (2, u "claim"), (0, u "(Lcom/example/sidelane/sidelane/Cancellation$Claimant;)Z"), (0, u "isHandedOver"), (4, u "beginEnding")] 6

def k2c0 : Code := { maxStack := 1, maxLocals := 1, code := prog_3_method_1_code, exceptionTable := #[], attributes := #[] }
def k2m0 : Method := { name := "<init>", desc := "()V", sig := { parameters := [], returnType := none }, accessFlags := 0, code := some k2c0 }
def k2c1 : Code := { maxStack := 2, maxLocals := 5, code := prog_3_method_2_code, exceptionTable := #[], attributes := #[] }
def k2m1 : Method := { name := "cancel", desc := "(ZLjava/lang/Object;)Lcom/example/sidelane/sidelane/Cancellation$Outcome;", sig := { parameters := [.boolean, (.object "java/lang/Object")], returnType := some (.object "com/example/sidelane/sidelane/Cancellation$Outcome") }, accessFlags := 32, code := some k2c1 }
def k2c2 : Code := { maxStack := 2, maxLocals := 2, code := prog_3_method_4_code, exceptionTable := #[], attributes := #[] }
def k2m2 : Method := { name := "claim", desc := "(Lcom/example/sidelane/sidelane/Cancellation$Claimant;)Z", sig := { parameters := [(.object "com/example/sidelane/sidelane/Cancellation$Claimant")], returnType := some .boolean }, accessFlags := 32, code := some k2c2 }
def k2c3 : Code := { maxStack := 1, maxLocals := 1, code := prog_3_method_5_code, exceptionTable := #[], attributes := #[] }
def k2m3 : Method := { name := "isClaimed", desc := "()Z", sig := { parameters := [], returnType := some .boolean }, accessFlags := 0, code := some k2c3 }
def k2c4 : Code := { maxStack := 2, maxLocals := 1, code := prog_3_method_6_code, exceptionTable := #[], attributes := #[] }
def k2m4 : Method := { name := "isHandedOver", desc := "()Z", sig := { parameters := [], returnType := some .boolean }, accessFlags := 0, code := some k2c4 }
def k2c5 : Code := { maxStack := 2, maxLocals := 1, code := prog_3_method_11_code, exceptionTable := #[], attributes := #[] }
def k2m5 : Method := { name := "beginEnding", desc := "()Z", sig := { parameters := [], returnType := some .boolean }, accessFlags := 32, code := some k2c5 }
/-- com/example/sidelane/sidelane/Cancellation -/
def k2 : Class := { plain "com/example/sidelane/sidelane/Cancellation" (some 0) with
  accessFlags := 48
  interfaces := #[]
  cf := some (fileOf pool2 8 #[.nestMembers #[14, 19]] #[{ accessFlags := 0, nameIndex := 5, descriptorIndex := 6, attributes := #[] }, { accessFlags := 32, nameIndex := 78, descriptorIndex := 79, attributes := #[] }, { accessFlags := 32, nameIndex := 82, descriptorIndex := 83, attributes := #[] }, { accessFlags := 0, nameIndex := 70, descriptorIndex := 71, attributes := #[] }, { accessFlags := 0, nameIndex := 84, descriptorIndex := 71, attributes := #[] }, { accessFlags := 32, nameIndex := 89, descriptorIndex := 71, attributes := #[] }] 48 2 #[] #[{ accessFlags := 66, nameIndex := 11, descriptorIndex := 12, attributes := #[] }, { accessFlags := 66, nameIndex := 26, descriptorIndex := 27, attributes := #[] }, { accessFlags := 2, nameIndex := 40, descriptorIndex := 27, attributes := #[] }, { accessFlags := 2, nameIndex := 46, descriptorIndex := 27, attributes := #[] }, { accessFlags := 2, nameIndex := 52, descriptorIndex := 53, attributes := #[] }, { accessFlags := 2, nameIndex := 30, descriptorIndex := 31, attributes := #[] }, { accessFlags := 2, nameIndex := 34, descriptorIndex := 23, attributes := #[] }])
  fields := #[{ name := "claimedBy", type := (.object "com/example/sidelane/sidelane/Cancellation$Claimant"), accessFlags := 66, slot := 0, constantValue := 0 }, { name := "cancelled", type := .boolean, accessFlags := 66, slot := 1, constantValue := 0 }, { name := "endingBegun", type := .boolean, accessFlags := 2, slot := 2, constantValue := 0 }, { name := "queued", type := .boolean, accessFlags := 2, slot := 3, constantValue := 0 }, { name := "runner", type := (.object "java/lang/Thread"), accessFlags := 2, slot := 4, constantValue := 0 }, { name := "cancelEnding", type := (.object "java/lang/Object"), accessFlags := 2, slot := 5, constantValue := 0 }, { name := "cancelOutcome", type := (.object "com/example/sidelane/sidelane/Cancellation$Outcome"), accessFlags := 2, slot := 6, constantValue := 0 }]
  methods := #[k2m0, k2m1, k2m2, k2m3, k2m4, k2m5]
  instanceTypes := #[(.object "com/example/sidelane/sidelane/Cancellation$Claimant"), .boolean, .boolean, .boolean, (.object "java/lang/Thread"), (.object "java/lang/Object"), (.object "com/example/sidelane/sidelane/Cancellation$Outcome")]
  staticTypes := #[]
  resolved := Array.replicate 96 none
  statics := none }

def pool3 : Array CpInfo := pool [(1, .class_ 2), (0, u "java/io/Serializable"), (0, .class_ 4), (0, u "java/lang/Object")] 2

/-- java/io/Serializable -/
def k3 : Class := { plain "java/io/Serializable" (some 0) with
  accessFlags := 1537
  interfaces := #[]
  cf := some (fileOf pool3 1 #[] #[] 1537 3 #[] #[])
  fields := #[]
  methods := #[]
  instanceTypes := #[]
  staticTypes := #[]
  resolved := Array.replicate 7 none
  statics := none }

def pool4 : Array CpInfo := pool [(1, .methodref 2 3), (0, .class_ 4), (0, .nameAndType 5 6), (0, u "java/lang/Object"), (0, u "<init>"), (0, u "()V"), (1, .class_ 10), (1, u "java/lang/Number"), (2, .class_ 14), (0, u "java/io/Serializable"), (0, u "serialVersionUID"), (0, u "J")] 20

def k4c0 : Code := { maxStack := 1, maxLocals := 1, code := jdk_18_method_1_code, exceptionTable := #[], attributes := #[] }
def k4m0 : Method := { name := "<init>", desc := "()V", sig := { parameters := [], returnType := none }, accessFlags := 1, code := some k4c0 }
/-- java/lang/Number -/
def k4 : Class := { plain "java/lang/Number" (some 0) with
  accessFlags := 1057
  interfaces := #[3]
  cf := some (fileOf pool4 8 #[] #[{ accessFlags := 1, nameIndex := 5, descriptorIndex := 6, attributes := #[] }] 1057 2 #[13] #[{ accessFlags := 26, nameIndex := 15, descriptorIndex := 16, attributes := #[] }])
  fields := #[{ name := "serialVersionUID", type := .long, accessFlags := 26, slot := 0, constantValue := 0 }]
  methods := #[k4m0]
  instanceTypes := #[]
  staticTypes := #[.long]
  resolved := Array.replicate 37 none
  statics := none }

def pool5 : Array CpInfo := pool [(1, .class_ 2), (0, u "java/lang/Comparable"), (0, .class_ 4), (0, u "java/lang/Object")] 7

/-- java/lang/Comparable -/
def k5 : Class := { plain "java/lang/Comparable" (some 0) with
  accessFlags := 1537
  interfaces := #[]
  cf := some (fileOf pool5 1 #[] #[] 1537 3 #[] #[])
  fields := #[]
  methods := #[]
  instanceTypes := #[]
  staticTypes := #[]
  resolved := Array.replicate 12 none
  statics := none }

def pool6 : Array CpInfo := pool [(1, .class_ 2), (0, u "java/lang/constant/Constable"), (0, .class_ 4), (0, u "java/lang/Object")] 6

/-- java/lang/constant/Constable -/
def k6 : Class := { plain "java/lang/constant/Constable" (some 0) with
  accessFlags := 1537
  interfaces := #[]
  cf := some (fileOf pool6 1 #[] #[] 1537 3 #[] #[])
  fields := #[]
  methods := #[]
  instanceTypes := #[]
  staticTypes := #[]
  resolved := Array.replicate 11 none
  statics := none }

def pool7 : Array CpInfo := pool [(1, .class_ 2), (0, u "java/lang/constant/ConstantDesc"), (0, .class_ 4), (0, u "java/lang/Object")] 32

/-- java/lang/constant/ConstantDesc -/
def k7 : Class := { plain "java/lang/constant/ConstantDesc" (some 0) with
  accessFlags := 1537
  interfaces := #[]
  cf := some (fileOf pool7 1 #[] #[] 1537 3 #[] #[])
  fields := #[]
  methods := #[]
  instanceTypes := #[]
  staticTypes := #[]
  resolved := Array.replicate 37 none
  statics := none }

def pool8 : Array CpInfo := pool [(1, .class_ 2), (0, u "java/lang/Integer"), (16, u "digits"), (0, u "[C"), (46, u "<init>"), (17, u "DigitOnes"), (0, u "[B"), (2, u "DigitTens"), (10, .nameAndType 67 101), (0, u "()V"), (85, u "valueOf"), (0, u "(I)Ljava/lang/Integer;"), (0, .class_ 190), (0, u "java/lang/Integer$IntegerCache"), (0, .fieldref 189 192), (0, .nameAndType 193 194), (0, u "high"), (0, u "I"), (0, .fieldref 189 196), (0, .nameAndType 197 198), (0, u "cache"), (0, u "[Ljava/lang/Integer;"), (0, .methodref 1 200), (0, .nameAndType 67 201), (0, u "(I)V"), (0, .methodref 203 100), (0, .class_ 204), (0, u "java/lang/Number"), (0, .fieldref 1 206), (0, .nameAndType 207 194), (0, u "value"), (94, u "TYPE"), (0, u "Ljava/lang/Class;"), (0, .class_ 305), (0, u "java/lang/Comparable"), (0, .class_ 307), (0, u "java/lang/constant/Constable"), (0, .class_ 309), (0, u "java/lang/constant/ConstantDesc"), (0, u "MIN_VALUE"), (1, u "MAX_VALUE"), (3, u "SIZE"), (1, u "BYTES"), (1, u "serialVersionUID"), (0, u "J")] 131

def k8c0 : Code := { maxStack := 3, maxLocals := 1, code := jdk_33_method_22_code, exceptionTable := #[], attributes := #[] }
def k8m0 : Method := { name := "valueOf", desc := "(I)Ljava/lang/Integer;", sig := { parameters := [.int], returnType := some (.object "java/lang/Integer") }, accessFlags := 9, code := some k8c0 }
def k8c1 : Code := { maxStack := 2, maxLocals := 2, code := jdk_33_method_23_code, exceptionTable := #[], attributes := #[] }
def k8m1 : Method := { name := "<init>", desc := "(I)V", sig := { parameters := [.int], returnType := none }, accessFlags := 1, code := some k8c1 }
/-- java/lang/Integer -/
def k8 : Class := { plain "java/lang/Integer" (some 4) with
  accessFlags := 49
  interfaces := #[5, 6, 7]
  cf := some (fileOf pool8 1 #[.nestMembers #[189]] #[{ accessFlags := 9, nameIndex := 187, descriptorIndex := 188, attributes := #[] }, { accessFlags := 1, nameIndex := 67, descriptorIndex := 201, attributes := #[] }] 49 203 #[304, 306, 308] #[{ accessFlags := 25, nameIndex := 310, descriptorIndex := 194, attributes := #[] }, { accessFlags := 25, nameIndex := 312, descriptorIndex := 194, attributes := #[] }, { accessFlags := 25, nameIndex := 302, descriptorIndex := 303, attributes := #[] }, { accessFlags := 24, nameIndex := 19, descriptorIndex := 20, attributes := #[] }, { accessFlags := 24, nameIndex := 89, descriptorIndex := 86, attributes := #[] }, { accessFlags := 24, nameIndex := 85, descriptorIndex := 86, attributes := #[] }, { accessFlags := 18, nameIndex := 207, descriptorIndex := 194, attributes := #[] }, { accessFlags := 25, nameIndex := 316, descriptorIndex := 194, attributes := #[] }, { accessFlags := 25, nameIndex := 318, descriptorIndex := 194, attributes := #[] }, { accessFlags := 26, nameIndex := 320, descriptorIndex := 321, attributes := #[] }])
  fields := #[{ name := "MIN_VALUE", type := .int, accessFlags := 25, slot := 0, constantValue := 0 }, { name := "MAX_VALUE", type := .int, accessFlags := 25, slot := 1, constantValue := 0 }, { name := "TYPE", type := (.object "java/lang/Class"), accessFlags := 25, slot := 2, constantValue := 0 }, { name := "digits", type := (.array .char), accessFlags := 24, slot := 3, constantValue := 0 }, { name := "DigitTens", type := (.array .byte), accessFlags := 24, slot := 4, constantValue := 0 }, { name := "DigitOnes", type := (.array .byte), accessFlags := 24, slot := 5, constantValue := 0 }, { name := "value", type := .int, accessFlags := 18, slot := 0, constantValue := 0 }, { name := "SIZE", type := .int, accessFlags := 25, slot := 6, constantValue := 0 }, { name := "BYTES", type := .int, accessFlags := 25, slot := 7, constantValue := 0 }, { name := "serialVersionUID", type := .long, accessFlags := 26, slot := 8, constantValue := 0 }]
  methods := #[k8m0, k8m1]
  instanceTypes := #[.int]
  staticTypes := #[.int, .int, (.object "java/lang/Class"), (.array .char), (.array .byte), (.array .byte), .int, .int, .long]
  resolved := Array.replicate 453 none
  statics := none }

def pool9 : Array CpInfo := pool [(2, .class_ 4), (1, u "java/lang/Object"), (0, u "<init>"), (0, u "()V"), (0, .class_ 8), (0, u "java/lang/Integer"), (7, .class_ 18), (1, u "java/lang/Integer$IntegerCache"), (0, u "$assertionsDisabled"), (0, u "Z"), (26, u "high"), (0, u "I"), (8, u "archivedCache"), (0, u "[Ljava/lang/Integer;"), (12, u "cache"), (0, u "low")] 27

def k9m0 : Method := { name := "<init>", desc := "()V", sig := { parameters := [], returnType := none }, accessFlags := 2, code := none }
/-- java/lang/Integer$IntegerCache -/
def k9 : Class := { plain "java/lang/Integer$IntegerCache" (some 0) with
  accessFlags := 48
  interfaces := #[]
  cf := some (fileOf pool9 16 #[.nestHost 7] #[{ accessFlags := 2, nameIndex := 5, descriptorIndex := 6, attributes := #[] }] 48 2 #[] #[{ accessFlags := 24, nameIndex := 72, descriptorIndex := 48, attributes := #[] }, { accessFlags := 24, nameIndex := 47, descriptorIndex := 48, attributes := #[] }, { accessFlags := 24, nameIndex := 71, descriptorIndex := 58, attributes := #[] }, { accessFlags := 8, nameIndex := 57, descriptorIndex := 58, attributes := #[] }, { accessFlags := 4120, nameIndex := 19, descriptorIndex := 20, attributes := #[] }])
  fields := #[{ name := "low", type := .int, accessFlags := 24, slot := 0, constantValue := 0 }, { name := "high", type := .int, accessFlags := 24, slot := 1, constantValue := 0 }, { name := "cache", type := (.array (.object "java/lang/Integer")), accessFlags := 24, slot := 2, constantValue := 0 }, { name := "archivedCache", type := (.array (.object "java/lang/Integer")), accessFlags := 8, slot := 3, constantValue := 0 }, { name := "$assertionsDisabled", type := .boolean, accessFlags := 4120, slot := 4, constantValue := 0 }]
  methods := #[k9m0]
  instanceTypes := #[]
  staticTypes := #[.int, .int, (.array (.object "java/lang/Integer")), (.array (.object "java/lang/Integer")), .boolean]
  resolved := Array.replicate 100 none
  statics := some 0 }

def pool10 : Array CpInfo := pool [(2, .class_ 4), (1, u "java/lang/Enum"), (0, u "name"), (0, u "Ljava/lang/String;"), (2, u "ordinal"), (0, u "I"), (1, .class_ 14), (1, u "java/lang/Object"), (4, u "hash"), (86, .class_ 108), (1, u "java/lang/Enum$EnumDesc"), (2, .class_ 112), (0, u "java/lang/constant/Constable"), (0, .class_ 114), (0, u "java/lang/Comparable"), (0, .class_ 116), (0, u "java/io/Serializable")] 87

/-- java/lang/Enum -/
def k10 : Class := { plain "java/lang/Enum" (some 0) with
  accessFlags := 1057
  interfaces := #[6, 5, 3]
  cf := some (fileOf pool10 2 #[.nestMembers #[106]] #[] 1057 12 #[111, 113, 115] #[{ accessFlags := 18, nameIndex := 5, descriptorIndex := 6, attributes := #[] }, { accessFlags := 18, nameIndex := 9, descriptorIndex := 10, attributes := #[] }, { accessFlags := 2, nameIndex := 19, descriptorIndex := 10, attributes := #[] }])
  fields := #[{ name := "name", type := (.object "java/lang/String"), accessFlags := 18, slot := 0, constantValue := 0 }, { name := "ordinal", type := .int, accessFlags := 18, slot := 1, constantValue := 0 }, { name := "hash", type := .int, accessFlags := 2, slot := 2, constantValue := 0 }]
  methods := #[]
  instanceTypes := #[(.object "java/lang/String"), .int, .int]
  staticTypes := #[]
  resolved := Array.replicate 204 none
  statics := none }

def pool11 : Array CpInfo := pool [(1, .class_ 2), (0, u "com/example/sidelane/sidelane/Cancellation$Claimant"), (2, u "EXECUTE"), (0, u "Lcom/example/sidelane/sidelane/Cancellation$Claimant;"), (2, u "ADOPTER"), (2, u "$VALUES"), (0, u "[Lcom/example/sidelane/sidelane/Cancellation$Claimant;"), (6, .class_ 22), (1, u "java/lang/Enum"), (25, .class_ 49), (0, u "com/example/sidelane/sidelane/Cancellation")] 2

/-- com/example/sidelane/sidelane/Cancellation$Claimant -/
def k11 : Class := { plain "com/example/sidelane/sidelane/Cancellation$Claimant" (some 10) with
  accessFlags := 16432
  interfaces := #[]
  cf := some (fileOf pool11 1 #[.nestHost 48] #[] 16432 20 #[] #[{ accessFlags := 16409, nameIndex := 5, descriptorIndex := 6, attributes := #[] }, { accessFlags := 16409, nameIndex := 9, descriptorIndex := 6, attributes := #[] }, { accessFlags := 4122, nameIndex := 12, descriptorIndex := 13, attributes := #[] }])
  fields := #[{ name := "EXECUTE", type := (.object "com/example/sidelane/sidelane/Cancellation$Claimant"), accessFlags := 16409, slot := 0, constantValue := 0 }, { name := "ADOPTER", type := (.object "com/example/sidelane/sidelane/Cancellation$Claimant"), accessFlags := 16409, slot := 1, constantValue := 0 }, { name := "$VALUES", type := (.array (.object "com/example/sidelane/sidelane/Cancellation$Claimant")), accessFlags := 4122, slot := 2, constantValue := 0 }]
  methods := #[]
  instanceTypes := #[(.object "java/lang/String"), .int, .int]
  staticTypes := #[(.object "com/example/sidelane/sidelane/Cancellation$Claimant"), (.object "com/example/sidelane/sidelane/Cancellation$Claimant"), (.array (.object "com/example/sidelane/sidelane/Cancellation$Claimant"))]
  resolved := Array.replicate 52 none
  statics := some 1 }

def pool12 : Array CpInfo := pool [(1, .class_ 2), (0, u "com/example/sidelane/sidelane/Cancellation$Outcome"), (2, u "ENDING_NEEDED"), (0, u "Lcom/example/sidelane/sidelane/Cancellation$Outcome;"), (2, u "REFUSED"), (2, u "CANCELLED"), (2, u "CANCELLED_UNEXECUTED"), (2, u "CANCELLED_IN_QUEUE"), (2, u "HANDED_OVER"), (2, u "$VALUES"), (0, u "[Lcom/example/sidelane/sidelane/Cancellation$Outcome;"), (6, .class_ 34), (1, u "java/lang/Enum"), (29, .class_ 65), (0, u "com/example/sidelane/sidelane/Cancellation")] 2

/-- com/example/sidelane/sidelane/Cancellation$Outcome -/
def k12 : Class := { plain "com/example/sidelane/sidelane/Cancellation$Outcome" (some 10) with
  accessFlags := 16432
  interfaces := #[]
  cf := some (fileOf pool12 1 #[.nestHost 64] #[] 16432 32 #[] #[{ accessFlags := 16409, nameIndex := 5, descriptorIndex := 6, attributes := #[] }, { accessFlags := 16409, nameIndex := 9, descriptorIndex := 6, attributes := #[] }, { accessFlags := 16409, nameIndex := 12, descriptorIndex := 6, attributes := #[] }, { accessFlags := 16409, nameIndex := 15, descriptorIndex := 6, attributes := #[] }, { accessFlags := 16409, nameIndex := 18, descriptorIndex := 6, attributes := #[] }, { accessFlags := 16409, nameIndex := 21, descriptorIndex := 6, attributes := #[] }, { accessFlags := 4122, nameIndex := 24, descriptorIndex := 25, attributes := #[] }])
  fields := #[{ name := "ENDING_NEEDED", type := (.object "com/example/sidelane/sidelane/Cancellation$Outcome"), accessFlags := 16409, slot := 0, constantValue := 0 }, { name := "REFUSED", type := (.object "com/example/sidelane/sidelane/Cancellation$Outcome"), accessFlags := 16409, slot := 1, constantValue := 0 }, { name := "CANCELLED", type := (.object "com/example/sidelane/sidelane/Cancellation$Outcome"), accessFlags := 16409, slot := 2, constantValue := 0 }, { name := "CANCELLED_UNEXECUTED", type := (.object "com/example/sidelane/sidelane/Cancellation$Outcome"), accessFlags := 16409, slot := 3, constantValue := 0 }, { name := "CANCELLED_IN_QUEUE", type := (.object "com/example/sidelane/sidelane/Cancellation$Outcome"), accessFlags := 16409, slot := 4, constantValue := 0 }, { name := "HANDED_OVER", type := (.object "com/example/sidelane/sidelane/Cancellation$Outcome"), accessFlags := 16409, slot := 5, constantValue := 0 }, { name := "$VALUES", type := (.array (.object "com/example/sidelane/sidelane/Cancellation$Outcome")), accessFlags := 4122, slot := 6, constantValue := 0 }]
  methods := #[]
  instanceTypes := #[(.object "java/lang/String"), .int, .int]
  staticTypes := #[(.object "com/example/sidelane/sidelane/Cancellation$Outcome"), (.object "com/example/sidelane/sidelane/Cancellation$Outcome"), (.object "com/example/sidelane/sidelane/Cancellation$Outcome"), (.object "com/example/sidelane/sidelane/Cancellation$Outcome"), (.object "com/example/sidelane/sidelane/Cancellation$Outcome"), (.object "com/example/sidelane/sidelane/Cancellation$Outcome"), (.array (.object "com/example/sidelane/sidelane/Cancellation$Outcome"))]
  resolved := Array.replicate 68 none
  statics := some 2 }

def pool13 : Array CpInfo := pool [(1, u "java/lang/Cloneable"), (0, .class_ 1), (0, u "java/lang/Object"), (0, .class_ 3)] 3

/-- java/lang/Cloneable -/
def k13 : Class := { plain "java/lang/Cloneable" (some 0) with
  accessFlags := 1537
  interfaces := #[]
  cf := some (fileOf pool13 2 #[] #[] 1537 4 #[] #[])
  fields := #[]
  methods := #[]
  instanceTypes := #[]
  staticTypes := #[]
  resolved := Array.replicate 8 none
  statics := none }

/-- the primitive byte -/
def k14 : Class := { plain "byte" none with kind := .primitive 'B', accessFlags := 0x411 }
/-- [B -/
def k15 : Class := { plain "[B" (some 0) with kind := .array 14 .byte, interfaces := #[13, 3], accessFlags := 1041 }

/-- the primitive int -/
def k16 : Class := { plain "int" none with kind := .primitive 'I', accessFlags := 0x411 }
/-- [I -/
def k17 : Class := { plain "[I" (some 0) with kind := .array 16 .int, interfaces := #[13, 3], accessFlags := 1041 }

/-- [Ljava/lang/Integer; -/
def k18 : Class := { plain "[Ljava/lang/Integer;" (some 0) with kind := .array 8 (.object "java/lang/Integer"), interfaces := #[13, 3], accessFlags := 1041 }

def heap : Heap := #[{ cls := 9, slots := #[.int 0, .int 127, .ref 3, .null, .int 0], vm := .statics 9 },
  { cls := 11, slots := #[.ref 260, .ref 261, .null], vm := .statics 11 },
  { cls := 12, slots := #[.ref 262, .ref 263, .ref 264, .ref 265, .ref 266, .ref 267, .null], vm := .statics 12 },
  { cls := 18, slots := #[.ref 4, .ref 5, .ref 6, .ref 7, .ref 8, .ref 9, .ref 10, .ref 11, .ref 12, .ref 13, .ref 14, .ref 15, .ref 16, .ref 17, .ref 18, .ref 19, .ref 20, .ref 21, .ref 22, .ref 23, .ref 24, .ref 25, .ref 26, .ref 27, .ref 28, .ref 29, .ref 30, .ref 31, .ref 32, .ref 33, .ref 34, .ref 35, .ref 36, .ref 37, .ref 38, .ref 39, .ref 40, .ref 41, .ref 42, .ref 43, .ref 44, .ref 45, .ref 46, .ref 47, .ref 48, .ref 49, .ref 50, .ref 51, .ref 52, .ref 53, .ref 54, .ref 55, .ref 56, .ref 57, .ref 58, .ref 59, .ref 60, .ref 61, .ref 62, .ref 63, .ref 64, .ref 65, .ref 66, .ref 67, .ref 68, .ref 69, .ref 70, .ref 71, .ref 72, .ref 73, .ref 74, .ref 75, .ref 76, .ref 77, .ref 78, .ref 79, .ref 80, .ref 81, .ref 82, .ref 83, .ref 84, .ref 85, .ref 86, .ref 87, .ref 88, .ref 89, .ref 90, .ref 91, .ref 92, .ref 93, .ref 94, .ref 95, .ref 96, .ref 97, .ref 98, .ref 99, .ref 100, .ref 101, .ref 102, .ref 103, .ref 104, .ref 105, .ref 106, .ref 107, .ref 108, .ref 109, .ref 110, .ref 111, .ref 112, .ref 113, .ref 114, .ref 115, .ref 116, .ref 117, .ref 118, .ref 119, .ref 120, .ref 121, .ref 122, .ref 123, .ref 124, .ref 125, .ref 126, .ref 127, .ref 128, .ref 129, .ref 130, .ref 131, .ref 132, .ref 133, .ref 134, .ref 135, .ref 136, .ref 137, .ref 138, .ref 139, .ref 140, .ref 141, .ref 142, .ref 143, .ref 144, .ref 145, .ref 146, .ref 147, .ref 148, .ref 149, .ref 150, .ref 151, .ref 152, .ref 153, .ref 154, .ref 155, .ref 156, .ref 157, .ref 158, .ref 159, .ref 160, .ref 161, .ref 162, .ref 163, .ref 164, .ref 165, .ref 166, .ref 167, .ref 168, .ref 169, .ref 170, .ref 171, .ref 172, .ref 173, .ref 174, .ref 175, .ref 176, .ref 177, .ref 178, .ref 179, .ref 180, .ref 181, .ref 182, .ref 183, .ref 184, .ref 185, .ref 186, .ref 187, .ref 188, .ref 189, .ref 190, .ref 191, .ref 192, .ref 193, .ref 194, .ref 195, .ref 196, .ref 197, .ref 198, .ref 199, .ref 200, .ref 201, .ref 202, .ref 203, .ref 204, .ref 205, .ref 206, .ref 207, .ref 208, .ref 209, .ref 210, .ref 211, .ref 212, .ref 213, .ref 214, .ref 215, .ref 216, .ref 217, .ref 218, .ref 219, .ref 220, .ref 221, .ref 222, .ref 223, .ref 224, .ref 225, .ref 226, .ref 227, .ref 228, .ref 229, .ref 230, .ref 231, .ref 232, .ref 233, .ref 234, .ref 235, .ref 236, .ref 237, .ref 238, .ref 239, .ref 240, .ref 241, .ref 242, .ref 243, .ref 244, .ref 245, .ref 246, .ref 247, .ref 248, .ref 249, .ref 250, .ref 251, .ref 252, .ref 253, .ref 254, .ref 255, .ref 256, .ref 257, .ref 258, .ref 259], vm := .none },
  { cls := 8, slots := #[.int (-128)], vm := .none },
  { cls := 8, slots := #[.int (-127)], vm := .none },
  { cls := 8, slots := #[.int (-126)], vm := .none },
  { cls := 8, slots := #[.int (-125)], vm := .none },
  { cls := 8, slots := #[.int (-124)], vm := .none },
  { cls := 8, slots := #[.int (-123)], vm := .none },
  { cls := 8, slots := #[.int (-122)], vm := .none },
  { cls := 8, slots := #[.int (-121)], vm := .none },
  { cls := 8, slots := #[.int (-120)], vm := .none },
  { cls := 8, slots := #[.int (-119)], vm := .none },
  { cls := 8, slots := #[.int (-118)], vm := .none },
  { cls := 8, slots := #[.int (-117)], vm := .none },
  { cls := 8, slots := #[.int (-116)], vm := .none },
  { cls := 8, slots := #[.int (-115)], vm := .none },
  { cls := 8, slots := #[.int (-114)], vm := .none },
  { cls := 8, slots := #[.int (-113)], vm := .none },
  { cls := 8, slots := #[.int (-112)], vm := .none },
  { cls := 8, slots := #[.int (-111)], vm := .none },
  { cls := 8, slots := #[.int (-110)], vm := .none },
  { cls := 8, slots := #[.int (-109)], vm := .none },
  { cls := 8, slots := #[.int (-108)], vm := .none },
  { cls := 8, slots := #[.int (-107)], vm := .none },
  { cls := 8, slots := #[.int (-106)], vm := .none },
  { cls := 8, slots := #[.int (-105)], vm := .none },
  { cls := 8, slots := #[.int (-104)], vm := .none },
  { cls := 8, slots := #[.int (-103)], vm := .none },
  { cls := 8, slots := #[.int (-102)], vm := .none },
  { cls := 8, slots := #[.int (-101)], vm := .none },
  { cls := 8, slots := #[.int (-100)], vm := .none },
  { cls := 8, slots := #[.int (-99)], vm := .none },
  { cls := 8, slots := #[.int (-98)], vm := .none },
  { cls := 8, slots := #[.int (-97)], vm := .none },
  { cls := 8, slots := #[.int (-96)], vm := .none },
  { cls := 8, slots := #[.int (-95)], vm := .none },
  { cls := 8, slots := #[.int (-94)], vm := .none },
  { cls := 8, slots := #[.int (-93)], vm := .none },
  { cls := 8, slots := #[.int (-92)], vm := .none },
  { cls := 8, slots := #[.int (-91)], vm := .none },
  { cls := 8, slots := #[.int (-90)], vm := .none },
  { cls := 8, slots := #[.int (-89)], vm := .none },
  { cls := 8, slots := #[.int (-88)], vm := .none },
  { cls := 8, slots := #[.int (-87)], vm := .none },
  { cls := 8, slots := #[.int (-86)], vm := .none },
  { cls := 8, slots := #[.int (-85)], vm := .none },
  { cls := 8, slots := #[.int (-84)], vm := .none },
  { cls := 8, slots := #[.int (-83)], vm := .none },
  { cls := 8, slots := #[.int (-82)], vm := .none },
  { cls := 8, slots := #[.int (-81)], vm := .none },
  { cls := 8, slots := #[.int (-80)], vm := .none },
  { cls := 8, slots := #[.int (-79)], vm := .none },
  { cls := 8, slots := #[.int (-78)], vm := .none },
  { cls := 8, slots := #[.int (-77)], vm := .none },
  { cls := 8, slots := #[.int (-76)], vm := .none },
  { cls := 8, slots := #[.int (-75)], vm := .none },
  { cls := 8, slots := #[.int (-74)], vm := .none },
  { cls := 8, slots := #[.int (-73)], vm := .none },
  { cls := 8, slots := #[.int (-72)], vm := .none },
  { cls := 8, slots := #[.int (-71)], vm := .none },
  { cls := 8, slots := #[.int (-70)], vm := .none },
  { cls := 8, slots := #[.int (-69)], vm := .none },
  { cls := 8, slots := #[.int (-68)], vm := .none },
  { cls := 8, slots := #[.int (-67)], vm := .none },
  { cls := 8, slots := #[.int (-66)], vm := .none },
  { cls := 8, slots := #[.int (-65)], vm := .none },
  { cls := 8, slots := #[.int (-64)], vm := .none },
  { cls := 8, slots := #[.int (-63)], vm := .none },
  { cls := 8, slots := #[.int (-62)], vm := .none },
  { cls := 8, slots := #[.int (-61)], vm := .none },
  { cls := 8, slots := #[.int (-60)], vm := .none },
  { cls := 8, slots := #[.int (-59)], vm := .none },
  { cls := 8, slots := #[.int (-58)], vm := .none },
  { cls := 8, slots := #[.int (-57)], vm := .none },
  { cls := 8, slots := #[.int (-56)], vm := .none },
  { cls := 8, slots := #[.int (-55)], vm := .none },
  { cls := 8, slots := #[.int (-54)], vm := .none },
  { cls := 8, slots := #[.int (-53)], vm := .none },
  { cls := 8, slots := #[.int (-52)], vm := .none },
  { cls := 8, slots := #[.int (-51)], vm := .none },
  { cls := 8, slots := #[.int (-50)], vm := .none },
  { cls := 8, slots := #[.int (-49)], vm := .none },
  { cls := 8, slots := #[.int (-48)], vm := .none },
  { cls := 8, slots := #[.int (-47)], vm := .none },
  { cls := 8, slots := #[.int (-46)], vm := .none },
  { cls := 8, slots := #[.int (-45)], vm := .none },
  { cls := 8, slots := #[.int (-44)], vm := .none },
  { cls := 8, slots := #[.int (-43)], vm := .none },
  { cls := 8, slots := #[.int (-42)], vm := .none },
  { cls := 8, slots := #[.int (-41)], vm := .none },
  { cls := 8, slots := #[.int (-40)], vm := .none },
  { cls := 8, slots := #[.int (-39)], vm := .none },
  { cls := 8, slots := #[.int (-38)], vm := .none },
  { cls := 8, slots := #[.int (-37)], vm := .none },
  { cls := 8, slots := #[.int (-36)], vm := .none },
  { cls := 8, slots := #[.int (-35)], vm := .none },
  { cls := 8, slots := #[.int (-34)], vm := .none },
  { cls := 8, slots := #[.int (-33)], vm := .none },
  { cls := 8, slots := #[.int (-32)], vm := .none },
  { cls := 8, slots := #[.int (-31)], vm := .none },
  { cls := 8, slots := #[.int (-30)], vm := .none },
  { cls := 8, slots := #[.int (-29)], vm := .none },
  { cls := 8, slots := #[.int (-28)], vm := .none },
  { cls := 8, slots := #[.int (-27)], vm := .none },
  { cls := 8, slots := #[.int (-26)], vm := .none },
  { cls := 8, slots := #[.int (-25)], vm := .none },
  { cls := 8, slots := #[.int (-24)], vm := .none },
  { cls := 8, slots := #[.int (-23)], vm := .none },
  { cls := 8, slots := #[.int (-22)], vm := .none },
  { cls := 8, slots := #[.int (-21)], vm := .none },
  { cls := 8, slots := #[.int (-20)], vm := .none },
  { cls := 8, slots := #[.int (-19)], vm := .none },
  { cls := 8, slots := #[.int (-18)], vm := .none },
  { cls := 8, slots := #[.int (-17)], vm := .none },
  { cls := 8, slots := #[.int (-16)], vm := .none },
  { cls := 8, slots := #[.int (-15)], vm := .none },
  { cls := 8, slots := #[.int (-14)], vm := .none },
  { cls := 8, slots := #[.int (-13)], vm := .none },
  { cls := 8, slots := #[.int (-12)], vm := .none },
  { cls := 8, slots := #[.int (-11)], vm := .none },
  { cls := 8, slots := #[.int (-10)], vm := .none },
  { cls := 8, slots := #[.int (-9)], vm := .none },
  { cls := 8, slots := #[.int (-8)], vm := .none },
  { cls := 8, slots := #[.int (-7)], vm := .none },
  { cls := 8, slots := #[.int (-6)], vm := .none },
  { cls := 8, slots := #[.int (-5)], vm := .none },
  { cls := 8, slots := #[.int (-4)], vm := .none },
  { cls := 8, slots := #[.int (-3)], vm := .none },
  { cls := 8, slots := #[.int (-2)], vm := .none },
  { cls := 8, slots := #[.int (-1)], vm := .none },
  { cls := 8, slots := #[.int 0], vm := .none },
  { cls := 8, slots := #[.int 1], vm := .none },
  { cls := 8, slots := #[.int 2], vm := .none },
  { cls := 8, slots := #[.int 3], vm := .none },
  { cls := 8, slots := #[.int 4], vm := .none },
  { cls := 8, slots := #[.int 5], vm := .none },
  { cls := 8, slots := #[.int 6], vm := .none },
  { cls := 8, slots := #[.int 7], vm := .none },
  { cls := 8, slots := #[.int 8], vm := .none },
  { cls := 8, slots := #[.int 9], vm := .none },
  { cls := 8, slots := #[.int 10], vm := .none },
  { cls := 8, slots := #[.int 11], vm := .none },
  { cls := 8, slots := #[.int 12], vm := .none },
  { cls := 8, slots := #[.int 13], vm := .none },
  { cls := 8, slots := #[.int 14], vm := .none },
  { cls := 8, slots := #[.int 15], vm := .none },
  { cls := 8, slots := #[.int 16], vm := .none },
  { cls := 8, slots := #[.int 17], vm := .none },
  { cls := 8, slots := #[.int 18], vm := .none },
  { cls := 8, slots := #[.int 19], vm := .none },
  { cls := 8, slots := #[.int 20], vm := .none },
  { cls := 8, slots := #[.int 21], vm := .none },
  { cls := 8, slots := #[.int 22], vm := .none },
  { cls := 8, slots := #[.int 23], vm := .none },
  { cls := 8, slots := #[.int 24], vm := .none },
  { cls := 8, slots := #[.int 25], vm := .none },
  { cls := 8, slots := #[.int 26], vm := .none },
  { cls := 8, slots := #[.int 27], vm := .none },
  { cls := 8, slots := #[.int 28], vm := .none },
  { cls := 8, slots := #[.int 29], vm := .none },
  { cls := 8, slots := #[.int 30], vm := .none },
  { cls := 8, slots := #[.int 31], vm := .none },
  { cls := 8, slots := #[.int 32], vm := .none },
  { cls := 8, slots := #[.int 33], vm := .none },
  { cls := 8, slots := #[.int 34], vm := .none },
  { cls := 8, slots := #[.int 35], vm := .none },
  { cls := 8, slots := #[.int 36], vm := .none },
  { cls := 8, slots := #[.int 37], vm := .none },
  { cls := 8, slots := #[.int 38], vm := .none },
  { cls := 8, slots := #[.int 39], vm := .none },
  { cls := 8, slots := #[.int 40], vm := .none },
  { cls := 8, slots := #[.int 41], vm := .none },
  { cls := 8, slots := #[.int 42], vm := .none },
  { cls := 8, slots := #[.int 43], vm := .none },
  { cls := 8, slots := #[.int 44], vm := .none },
  { cls := 8, slots := #[.int 45], vm := .none },
  { cls := 8, slots := #[.int 46], vm := .none },
  { cls := 8, slots := #[.int 47], vm := .none },
  { cls := 8, slots := #[.int 48], vm := .none },
  { cls := 8, slots := #[.int 49], vm := .none },
  { cls := 8, slots := #[.int 50], vm := .none },
  { cls := 8, slots := #[.int 51], vm := .none },
  { cls := 8, slots := #[.int 52], vm := .none },
  { cls := 8, slots := #[.int 53], vm := .none },
  { cls := 8, slots := #[.int 54], vm := .none },
  { cls := 8, slots := #[.int 55], vm := .none },
  { cls := 8, slots := #[.int 56], vm := .none },
  { cls := 8, slots := #[.int 57], vm := .none },
  { cls := 8, slots := #[.int 58], vm := .none },
  { cls := 8, slots := #[.int 59], vm := .none },
  { cls := 8, slots := #[.int 60], vm := .none },
  { cls := 8, slots := #[.int 61], vm := .none },
  { cls := 8, slots := #[.int 62], vm := .none },
  { cls := 8, slots := #[.int 63], vm := .none },
  { cls := 8, slots := #[.int 64], vm := .none },
  { cls := 8, slots := #[.int 65], vm := .none },
  { cls := 8, slots := #[.int 66], vm := .none },
  { cls := 8, slots := #[.int 67], vm := .none },
  { cls := 8, slots := #[.int 68], vm := .none },
  { cls := 8, slots := #[.int 69], vm := .none },
  { cls := 8, slots := #[.int 70], vm := .none },
  { cls := 8, slots := #[.int 71], vm := .none },
  { cls := 8, slots := #[.int 72], vm := .none },
  { cls := 8, slots := #[.int 73], vm := .none },
  { cls := 8, slots := #[.int 74], vm := .none },
  { cls := 8, slots := #[.int 75], vm := .none },
  { cls := 8, slots := #[.int 76], vm := .none },
  { cls := 8, slots := #[.int 77], vm := .none },
  { cls := 8, slots := #[.int 78], vm := .none },
  { cls := 8, slots := #[.int 79], vm := .none },
  { cls := 8, slots := #[.int 80], vm := .none },
  { cls := 8, slots := #[.int 81], vm := .none },
  { cls := 8, slots := #[.int 82], vm := .none },
  { cls := 8, slots := #[.int 83], vm := .none },
  { cls := 8, slots := #[.int 84], vm := .none },
  { cls := 8, slots := #[.int 85], vm := .none },
  { cls := 8, slots := #[.int 86], vm := .none },
  { cls := 8, slots := #[.int 87], vm := .none },
  { cls := 8, slots := #[.int 88], vm := .none },
  { cls := 8, slots := #[.int 89], vm := .none },
  { cls := 8, slots := #[.int 90], vm := .none },
  { cls := 8, slots := #[.int 91], vm := .none },
  { cls := 8, slots := #[.int 92], vm := .none },
  { cls := 8, slots := #[.int 93], vm := .none },
  { cls := 8, slots := #[.int 94], vm := .none },
  { cls := 8, slots := #[.int 95], vm := .none },
  { cls := 8, slots := #[.int 96], vm := .none },
  { cls := 8, slots := #[.int 97], vm := .none },
  { cls := 8, slots := #[.int 98], vm := .none },
  { cls := 8, slots := #[.int 99], vm := .none },
  { cls := 8, slots := #[.int 100], vm := .none },
  { cls := 8, slots := #[.int 101], vm := .none },
  { cls := 8, slots := #[.int 102], vm := .none },
  { cls := 8, slots := #[.int 103], vm := .none },
  { cls := 8, slots := #[.int 104], vm := .none },
  { cls := 8, slots := #[.int 105], vm := .none },
  { cls := 8, slots := #[.int 106], vm := .none },
  { cls := 8, slots := #[.int 107], vm := .none },
  { cls := 8, slots := #[.int 108], vm := .none },
  { cls := 8, slots := #[.int 109], vm := .none },
  { cls := 8, slots := #[.int 110], vm := .none },
  { cls := 8, slots := #[.int 111], vm := .none },
  { cls := 8, slots := #[.int 112], vm := .none },
  { cls := 8, slots := #[.int 113], vm := .none },
  { cls := 8, slots := #[.int 114], vm := .none },
  { cls := 8, slots := #[.int 115], vm := .none },
  { cls := 8, slots := #[.int 116], vm := .none },
  { cls := 8, slots := #[.int 117], vm := .none },
  { cls := 8, slots := #[.int 118], vm := .none },
  { cls := 8, slots := #[.int 119], vm := .none },
  { cls := 8, slots := #[.int 120], vm := .none },
  { cls := 8, slots := #[.int 121], vm := .none },
  { cls := 8, slots := #[.int 122], vm := .none },
  { cls := 8, slots := #[.int 123], vm := .none },
  { cls := 8, slots := #[.int 124], vm := .none },
  { cls := 8, slots := #[.int 125], vm := .none },
  { cls := 8, slots := #[.int 126], vm := .none },
  { cls := 8, slots := #[.int 127], vm := .none },
  { cls := 11, slots := #[.null, .int 0, .int 0], vm := .none },
  { cls := 11, slots := #[.null, .int 1, .int 0], vm := .none },
  { cls := 12, slots := #[.null, .int 0, .int 0], vm := .none },
  { cls := 12, slots := #[.null, .int 1, .int 0], vm := .none },
  { cls := 12, slots := #[.null, .int 2, .int 0], vm := .none },
  { cls := 12, slots := #[.null, .int 3, .int 0], vm := .none },
  { cls := 12, slots := #[.null, .int 4, .int 0], vm := .none },
  { cls := 12, slots := #[.null, .int 5, .int 0], vm := .none }]
def classes : Array Class := #[k0, k1, k2, k3, k4, k5, k6, k7, k8, k9, k10, k11, k12, k13, k14, k15, k16, k17, k18]
def interned : List (Array UInt16 × Addr) := []
def slotsUsed : Nat := 551
def theMethod : MethodId := ⟨1, 2⟩
def args0 : Array Value := #[.int 5, .int 4, .int 3]
def aboutOver (below : List Frame) : State where
  vm := { classes := classes, interned := interned.toArray }
  heap := heap
  slotsUsed := slotsUsed
  threads := #[{ frames := .invoking theMethod args0 :: below }]
def below0 : List Frame := [.native { method := ⟨0, 0⟩, args := #[] }]
def about1 : State := aboutOver below0
def p0 : Program := .bare "" "" ""
def e0 : Env := launch0.env 0 0 0
theorem w_frames : about1.frames = Frame.invoking theMethod args0 :: below0 := rfl
set_option maxRecDepth 65536 in
theorem w_args : argsFit about1.vm theMethod args0 = true := by decide +kernel
set_option maxRecDepth 65536 in
theorem w_heap : heapFits about1 = true := by decide +kernel
set_option maxRecDepth 65536 in
theorem w_runnable : about1.curStatus? = some .runnable := by decide +kernel
set_option maxRecDepth 65536 in
theorem w_alone : about1.alone = true := by decide +kernel
set_option maxRecDepth 65536 in
theorem w_named : about1.methodNamed? x = some theMethod := by decide +kernel
set_option maxRecDepth 65536 in
theorem w_hears : about1.hears theMethod below0 = true := by decide +kernel
set_option maxRecDepth 65536 in
theorem w_ripe : about1.ripe theMethod args0 below0 = true := by decide +kernel
theorem w_running : about1.status = .running := rfl
set_option maxRecDepth 65536 in
theorem w_room : about1.hasRoom e0.platform room_1 = true :=
  launch0.hasRoom_least _ room_1 (by decide +kernel) (by decide +kernel) (by decide +kernel) (by decide +kernel) (by decide +kernel) (by decide +kernel)
theorem allAtoms_all (ts : List Jvm.Cond) (a : Array Jvm.Value) (st : Jvm.State) : (allAtoms ts).before a st = ts.all (fun c => c.before a st) := by
  induction ts with
  | nil => rfl
  | cons c t ih =>
    show (Jvm.Cond.and c (allAtoms t)).before a st = _
    rw [Jvm.Cond.before_and, ih, List.all_cons]
def words1 : List Jvm.Cond := Jvm.Cond.code x code maxLocals ret :: tables_1
/-- a 'code' word, met by the world's own term for the bytes: nothing is compared byte by byte -/
theorem code_word {y : MethodName} {bytes : ByteArray} {mx : Nat} {rt : Option FieldType} {a : Array Value} {s : State} {m : MethodId} {meth : Method} {c : Code} (h1 : s.methodNamed? y = some m) (h2 : s.vm.method? m = some meth) (h3 : meth.code = some c) (h4 : c.code = bytes)
    (h5 : (c.maxLocals == mx && c.exceptionTable.isEmpty && decide (c.maxStack ≤ mostOperands) && decide (meth.sig.returnType = rt) && !meth.locks && decide (parseMethodDescriptor y.desc = some meth.sig)) = true) : (Jvm.Cond.code y bytes mx rt).before a s = true := by
  simp only [Bool.and_eq_true, beq_iff_eq, Bool.not_eq_true', decide_eq_true_eq] at h5
  obtain ⟨⟨⟨⟨⟨g1, g2⟩, g3⟩, g4⟩, g5⟩, g6⟩ := h5
  simp [Cond.before, Cond.holds, Cond.value, h1, h2, h3, h4, g1, g2, g3, g4, g5, g6]
def isCode : Jvm.Cond → Bool
  | .code _ _ _ _ => true
  | _ => false
theorem all_split {L : List Jvm.Cond} {P : Jvm.Cond → Bool} (h1 : L.all (fun c => isCode c || P c) = true) (h2 : ∀ c ∈ L.filter isCode, P c = true) : L.all P = true := by
  refine List.all_eq_true.mpr fun c hc => ?_
  have h := List.all_eq_true.mp h1 c hc
  rcases Bool.eq_false_or_eq_true (isCode c) with hi | hi
  · exact h2 c (List.mem_filter.mpr ⟨hc, hi⟩)
  · simpa [hi] using h
set_option maxRecDepth 65536 in
theorem w_c0 : (Jvm.Cond.code x code maxLocals ret).before args0 about1 = true := code_word (m := ⟨1, 2⟩) (meth := k1m2) (c := k1c2) (by decide +kernel) rfl rfl rfl (by decide +kernel)
set_option maxRecDepth 65536 in
theorem w_c1 : (Jvm.Cond.code ({ cls := "com/example/sidelane/sidelane/Cancellation", name := "<init>", desc := "()V" } : Jvm.MethodName) prog_3_method_1_code (1 : Nat) (Option.none : Option Jvm.ClassFile.FieldType)).before args0 about1 = true := code_word (m := ⟨2, 0⟩) (meth := k2m0) (c := k2c0) (by decide +kernel) rfl rfl rfl (by decide +kernel)
set_option maxRecDepth 65536 in
theorem w_c2 : (Jvm.Cond.code ({ cls := "java/lang/Object", name := "<init>", desc := "()V" } : Jvm.MethodName) object_method_1_code (1 : Nat) (Option.none : Option Jvm.ClassFile.FieldType)).before args0 about1 = true := code_word (m := ⟨0, 0⟩) (meth := k0m0) (c := k0c0) (by decide +kernel) rfl rfl rfl (by decide +kernel)
set_option maxRecDepth 65536 in
theorem w_c3 : (Jvm.Cond.code ({ cls := "java/lang/Integer", name := "valueOf", desc := "(I)Ljava/lang/Integer;" } : Jvm.MethodName) jdk_33_method_22_code (1 : Nat) (Option.some (Jvm.ClassFile.FieldType.object "java/lang/Integer"))).before args0 about1 = true := code_word (m := ⟨8, 0⟩) (meth := k8m0) (c := k8c0) (by decide +kernel) rfl rfl rfl (by decide +kernel)
set_option maxRecDepth 65536 in
theorem w_c4 : (Jvm.Cond.code ({ cls := "com/example/sidelane/sidelane/Cancellation", name := "isHandedOver", desc := "()Z" } : Jvm.MethodName) prog_3_method_6_code (1 : Nat) (Option.some Jvm.ClassFile.FieldType.boolean)).before args0 about1 = true := code_word (m := ⟨2, 4⟩) (meth := k2m4) (c := k2c4) (by decide +kernel) rfl rfl rfl (by decide +kernel)
set_option maxRecDepth 65536 in
theorem w_c5 : (Jvm.Cond.code ({ cls := "com/example/sidelane/sidelane/CancellationIsHandedOverPinLaw", name := "pick", desc := "(I)Lcom/example/sidelane/sidelane/Cancellation$Claimant;" } : Jvm.MethodName) method_2_code (1 : Nat) (Option.some (Jvm.ClassFile.FieldType.object "com/example/sidelane/sidelane/Cancellation$Claimant"))).before args0 about1 = true := code_word (m := ⟨1, 1⟩) (meth := k1m1) (c := k1c1) (by decide +kernel) rfl rfl rfl (by decide +kernel)
set_option maxRecDepth 65536 in
theorem w_c6 : (Jvm.Cond.code ({ cls := "com/example/sidelane/sidelane/Cancellation", name := "isClaimed", desc := "()Z" } : Jvm.MethodName) prog_3_method_5_code (1 : Nat) (Option.some Jvm.ClassFile.FieldType.boolean)).before args0 about1 = true := code_word (m := ⟨2, 3⟩) (meth := k2m3) (c := k2c3) (by decide +kernel) rfl rfl rfl (by decide +kernel)
set_option maxRecDepth 65536 in
theorem w_c7 : (Jvm.Cond.code ({ cls := "java/lang/Integer", name := "<init>", desc := "(I)V" } : Jvm.MethodName) jdk_33_method_23_code (2 : Nat) (Option.none : Option Jvm.ClassFile.FieldType)).before args0 about1 = true := code_word (m := ⟨8, 1⟩) (meth := k8m1) (c := k8c1) (by decide +kernel) rfl rfl rfl (by decide +kernel)
set_option maxRecDepth 65536 in
theorem w_c8 : (Jvm.Cond.code ({ cls := "java/lang/Number", name := "<init>", desc := "()V" } : Jvm.MethodName) jdk_18_method_1_code (1 : Nat) (Option.none : Option Jvm.ClassFile.FieldType)).before args0 about1 = true := code_word (m := ⟨4, 0⟩) (meth := k4m0) (c := k4c0) (by decide +kernel) rfl rfl rfl (by decide +kernel)
def codes1 : List Jvm.Cond := [Jvm.Cond.code x code maxLocals ret, Jvm.Cond.code ({ cls := "com/example/sidelane/sidelane/Cancellation", name := "<init>", desc := "()V" } : Jvm.MethodName) prog_3_method_1_code (1 : Nat) (Option.none : Option Jvm.ClassFile.FieldType), Jvm.Cond.code ({ cls := "java/lang/Object", name := "<init>", desc := "()V" } : Jvm.MethodName) object_method_1_code (1 : Nat) (Option.none : Option Jvm.ClassFile.FieldType), Jvm.Cond.code ({ cls := "java/lang/Integer", name := "valueOf", desc := "(I)Ljava/lang/Integer;" } : Jvm.MethodName) jdk_33_method_22_code (1 : Nat) (Option.some (Jvm.ClassFile.FieldType.object "java/lang/Integer")), Jvm.Cond.code ({ cls := "com/example/sidelane/sidelane/Cancellation", name := "isHandedOver", desc := "()Z" } : Jvm.MethodName) prog_3_method_6_code (1 : Nat) (Option.some Jvm.ClassFile.FieldType.boolean), Jvm.Cond.code ({ cls := "com/example/sidelane/sidelane/CancellationIsHandedOverPinLaw", name := "pick", desc := "(I)Lcom/example/sidelane/sidelane/Cancellation$Claimant;" } : Jvm.MethodName) method_2_code (1 : Nat) (Option.some (Jvm.ClassFile.FieldType.object "com/example/sidelane/sidelane/Cancellation$Claimant")), Jvm.Cond.code ({ cls := "com/example/sidelane/sidelane/Cancellation", name := "isClaimed", desc := "()Z" } : Jvm.MethodName) prog_3_method_5_code (1 : Nat) (Option.some Jvm.ClassFile.FieldType.boolean), Jvm.Cond.code ({ cls := "java/lang/Integer", name := "<init>", desc := "(I)V" } : Jvm.MethodName) jdk_33_method_23_code (2 : Nat) (Option.none : Option Jvm.ClassFile.FieldType), Jvm.Cond.code ({ cls := "java/lang/Number", name := "<init>", desc := "()V" } : Jvm.MethodName) jdk_18_method_1_code (1 : Nat) (Option.none : Option Jvm.ClassFile.FieldType)]
set_option maxRecDepth 65536 in
theorem codes_eq : words1.filter isCode = codes1 := rfl
theorem w_codes : ∀ c ∈ words1.filter isCode, c.before args0 about1 = true := by
  rw [codes_eq]
  intro c hc
  simp only [codes1, List.mem_cons, List.not_mem_nil, or_false] at hc
  rcases hc with rfl | rfl | rfl | rfl | rfl | rfl | rfl | rfl | rfl
  · exact w_c0
  · exact w_c1
  · exact w_c2
  · exact w_c3
  · exact w_c4
  · exact w_c5
  · exact w_c6
  · exact w_c7
  · exact w_c8
set_option maxRecDepth 65536 in
theorem w_t1 : (words1.take 24).all (fun c => isCode c || c.before args0 about1) = true := by decide +kernel
set_option maxRecDepth 65536 in
theorem w_t2 : ((words1.drop 24).take 24).all (fun c => isCode c || c.before args0 about1) = true := by decide +kernel
set_option maxRecDepth 65536 in
theorem w_t3 : (((words1.drop 24).drop 24).take 24).all (fun c => isCode c || c.before args0 about1) = true := by decide +kernel
set_option maxRecDepth 65536 in
theorem w_t4 : (((words1.drop 24).drop 24).drop 24).all (fun c => isCode c || c.before args0 about1) = true := by decide +kernel
theorem w_tables : (allAtoms (Jvm.Cond.code x code maxLocals ret :: tables_1)).before args0 about1 = true := by
  rw [allAtoms_all]
  show words1.all (fun c => c.before args0 about1) = true
  refine all_split ?_ w_codes
  rw [← List.take_append_drop 24 words1, List.all_append, w_t1, ← List.take_append_drop 24 (words1.drop 24), List.all_append, w_t2, ← List.take_append_drop 24 ((words1.drop 24).drop 24), List.all_append, w_t3, w_t4]
  rfl
set_option maxRecDepth 65536 in
theorem w_rest : rest_1_c.before args0 about1 = true := by decide +kernel
set_option maxRecDepth 65536 in
theorem w_case : (Jvm.Cond.and given_1 narrow_1).before args0 about1 = true := by decide +kernel
theorem w_applies : (headSpec (Jvm.Cond.code x code maxLocals ret :: tables_1) room_1).applies x e0.platform about1 = true :=
  (Spec.applies_iff w_frames).mpr ⟨w_running, w_runnable, w_alone, w_named, w_hears, w_ripe, w_room, w_tables⟩
theorem atStart : AtStart classFile x code maxLocals ret World_1 tables_1 room_1 Calls_1 rest_1 Pre_1 launch0 p0 e0 about1 theMethod args0 below0 :=
  ⟨lists_1, trivial, launch0.admits_env _ _ _, launch0.least_env, fairChoices_fair.cas, fairChoices_fair.clock, w_frames, w_args, w_heap, w_applies, trivial, w_rest, w_case⟩
end start1
theorem witness_1 : WitnessClaimed_1 := ⟨start1.p0, start1.e0, start1.about1, start1.theMethod, start1.args0, start1.below0, start1.atStart⟩
end Jvm.Pilot.@@N@@
