import JvmDerived
import JvmDerived.Pilot.@@N@@Statement
import JvmDerived.Pilot.@@N@@Code
set_option linter.unusedVariables false
set_option linter.unusedSimpArgs false
namespace Jvm.Pilot.@@N@@
open Jvm Jvm.ClassFile Sem Op Lib Jvm.Free Jvm.Stand Jvm.LawKit Jvm.RoadKit Bundle Jvm.Pilot.@@N@@.Jvm.D

section OwnKit
variable {p : Program} {l : Launch} {e : Env} {R : Room} {s : State} {m : MethodId} {args : Array Value} {below : List Frame} {meth : Method} {c : Code} {T T' : State} {locs : List Loc} {cells slots : Nat} {g g' : JFrame} {Q : Option Value → Heap → List Loc → Prop} {k n : Nat} {Z : State} {h : Heap} {a0 : Array Value}
/-- from here the run comes to the method's end, and there Q holds -/
def Go (p : Program) (e : Env) (s : State) (below : List Frame) (Q : Option Value → Heap → List Loc → Prop) (k n : Nat) (T : State) (g : JFrame) : Prop :=
  ∃ s₂ o, Steps p.tables e below (T.setTop g) s₂ ∧ s₂.status = .running ∧ Ended s₂ below o ∧ ∃ v L, o = .returned v ∧ Q v s₂.heap L ∧ FrameEnd s o s₂ L k n
theorem Go.st (st : ∀ t, Steps p.tables e below (T'.setTop g') t → Steps p.tables e below (T.setTop g) t) (G : Go p e s below Q k n T' g') : Go p e s below Q k n T g := by
  obtain ⟨t, o, h1, r⟩ := G
  exact ⟨t, o, st _ h1, r⟩
theorem Go.thru (st : Steps p.tables e below (T.setTop g) (T'.setTop g')) (G : Go p e s below Q k n T' g') : Go p e s below Q k n T g := Go.st (fun _ q => st.trans q) G
theorem Go.cast (q : g = g') (G : Go p e s below Q k n T g') : Go p e s below Q k n T g := q ▸ G
theorem Go.end_ (X : Stand p l e R s m args below meth c T locs cells slots) {v : Option Value} (hv : meth.sig.returnType = none → v = none) (hlk : meth.locks = false)
    (st : ∀ fs, (∀ (f : JFrame) (acts : List Action), f.method = m → f.locked = none → f.entered = [] → (doReturn e (T.setTop f) acts v).1 = T.setFrames fs) → Steps p.tables e below (T.setTop g) (T.setFrames fs))
    (hk : cells ≤ k) (hn : slots ≤ n) (hQ : Q v T.heap locs) : Go p e s below Q k n T g := by
  obtain ⟨fs, hr, hrun, hended, hW, hsame⟩ := X.leave (v := v) hv hlk
  exact ⟨_, _, st fs hr, hrun, hended, _, _, rfl, hQ, ⟨_, rfl⟩, hW, hsame.mono hk hn⟩
theorem own_some {t : FieldType} {v : Option Value} (h : meth.sig.returnType = some t) : meth.sig.returnType = none → v = none := fun q => by rw [h] at q; cases q
/-- ireturn of a boolean (also byte, char, short) -/
theorem Go.retN (X : Stand p l e R s m args below meth c T locs cells slots) (hx : p.tables.exec = Jvm.exec) (hlk : meth.locks = false) {t : FieldType} (hret : meth.sig.returnType = some t) (ht : t = .boolean ∨ t = .byte ∨ t = .char ∨ t = .short) {pc : Nat} {Ls : Array Slot} {z : Int32} {rest : List Value}
    (hd : decode c.code pc = .ok (.ireturn, 1)) (hk : cells ≤ k) (hn : slots ≤ n) (hQ : Q (some (.int (nar t z))) T.heap locs) : Go p e s below Q k n T (mkF m pc Ls (.int z :: rest)) :=
  Go.end_ X (own_some hret) hlk (fun _ hr => Jvm.RoadKit.retN X hx hret ht hd hr) hk hn hQ
theorem Go.retI (X : Stand p l e R s m args below meth c T locs cells slots) (hx : p.tables.exec = Jvm.exec) (hlk : meth.locks = false) (hret : meth.sig.returnType = some .int) {pc : Nat} {Ls : Array Slot} {z : Int32} {rest : List Value}
    (hd : decode c.code pc = .ok (.ireturn, 1)) (hk : cells ≤ k) (hn : slots ≤ n) (hQ : Q (some (.int z)) T.heap locs) : Go p e s below Q k n T (mkF m pc Ls (.int z :: rest)) :=
  Go.end_ X (own_some hret) hlk (fun _ hr => Jvm.RoadKit.retOut X hx hret rfl (Or.inl ⟨rfl, Or.inl rfl, _, rfl⟩) hd hr) hk hn hQ
theorem Go.retJ (X : Stand p l e R s m args below meth c T locs cells slots) (hx : p.tables.exec = Jvm.exec) (hlk : meth.locks = false) (hret : meth.sig.returnType = some .long) {pc : Nat} {Ls : Array Slot} {z : Int64} {rest : List Value}
    (hd : decode c.code pc = .ok (.lreturn, 1)) (hk : cells ≤ k) (hn : slots ≤ n) (hQ : Q (some (.long z)) T.heap locs) : Go p e s below Q k n T (mkF m pc Ls (.long z :: rest)) :=
  Go.end_ X (own_some hret) hlk (fun _ hr => Jvm.RoadKit.retOut X hx hret rfl (Or.inr (Or.inl ⟨rfl, rfl, _, rfl⟩)) hd hr) hk hn hQ
theorem own_narR {t : FieldType} {v : Value} (ht : t.isReference = true) (hv : v.isRef = true) : narrow t v = v := by
  rcases ref_cases hv with rfl | ⟨a, rfl⟩ <;> cases t <;> rfl
theorem Go.retA (X : Stand p l e R s m args below meth c T locs cells slots) (hx : p.tables.exec = Jvm.exec) (hlk : meth.locks = false) {t : FieldType} (hret : meth.sig.returnType = some t) (ht : t.isReference = true) {pc : Nat} {Ls : Array Slot} {v : Value} {rest : List Value} (hv : v.isRef = true)
    (hd : decode c.code pc = .ok (.areturn, 1)) (hk : cells ≤ k) (hn : slots ≤ n) (hQ : Q (some v) T.heap locs) : Go p e s below Q k n T (mkF m pc Ls (v :: rest)) :=
  Go.end_ X (own_some hret) hlk (fun _ hr => Jvm.RoadKit.retOut X hx hret (own_narR ht hv) (Or.inr (Or.inr (Or.inr (Or.inr ⟨rfl, ht, hv⟩)))) hd hr) hk hn hQ
theorem Go.retV (X : Stand p l e R s m args below meth c T locs cells slots) (hx : p.tables.exec = Jvm.exec) (hlk : meth.locks = false) (hret : meth.sig.returnType = none) {pc : Nat} {Ls : Array Slot}
    (hd : decode c.code pc = .ok (.return_, 1)) (hk : cells ≤ k) (hn : slots ≤ n) (hQ : Q none T.heap locs) : Go p e s below Q k n T (mkF m pc Ls []) :=
  Go.end_ X (fun _ => rfl) hlk (fun _ hr => X.returnOut hx hret hd hr) hk hn hQ
/-- a body's contract -/
def Meets (l : Launch) (Z : State) (y : MethodName) (bytes : ByteArray) (maxL : Nat) (ret : Option FieldType) (rm : Room) (ws : List Jvm.Cond) (as' : Array Value) (h : Heap) (Q : Option Value → Heap → List Loc → Prop) : Prop :=
  MetFree l y (head1 (Jvm.Cond.code y bytes maxL ret :: ws) rm) (fun a U => a = as' ∧ Z.Warmed39 U.vm ∧ U.heap = h) (fun _ _ _ _ _ => True) (fun _ U o U' => ∃ v L, o = .returned v ∧ Q v U'.heap L ∧ FrameEnd U o U' L rm.cells rm.slots)
theorem Meets.of {y : MethodName} {bytes : ByteArray} {maxL : Nat} {ret : Option FieldType} {rm : Room} {ws : List Jvm.Cond} {as' : Array Value} (hpl : plainFor y = true)
    (body : ∀ (p : Program) (e : Env) (s : State) (m : MethodId) (below : List Frame) (meth : Method) (c : Code) (s₁ : State), Stand p l e rm s m as' below meth c s₁ [] 0 0 → p.tables.exec = Jvm.exec → c.code = bytes → c.maxLocals = maxL → meth.sig.returnType = ret → meth.locks = false → meth.name = y.name → Z.Warmed39 s.vm → s.vm.findClass y.cls = some m.cls → s₁.heap = h →
      Go p e s below Q rm.cells rm.slots s₁ (entryFrame m as' maxL)) : Meets l Z y bytes maxL ret rm ws as' h Q := by
  unfold Meets
  refine MetFree.of_bodySF hpl hisR ?_
  intro p e s m args below meth c s₁ Bd hml0 hP hK
  obtain ⟨rfl, hZ, hh⟩ := hP
  exact body p e s m below meth c s₁ (Stand.of_body Bd) Bd.exec Bd.bytes hml0 Bd.returns Bd.notSynchronized (name_of_methodNamed Bd.named Bd.method).1 hZ (findClass_of_methodNamed Bd.named) (by rw [← hh, Bd.state]; rfl)
section Calls
variable {y z : MethodName} {own C : String} {index : Nat} {bytes : ByteArray} {maxL : Nat} {ret : Option FieldType} {rm : Room} {W : Nat} {Q0 : Option Value → Heap → List Loc → Prop} {b : Addr} {argsL rest : List Value} {pc : Nat} {Ls : Array Slot}
theorem Go.callS (X : Stand p l e R s m args below meth c T locs cells slots) (hx : p.tables.exec = Jvm.exec) (hZ : Z.Warmed39 s.vm) (hown : s.vm.findClass own = some m.cls)
    (w1 : (Jvm.Cond.methodLink own index y).before a0 Z = true) (w2 : (Jvm.Cond.static y).before a0 Z = true) (w3 : (Jvm.Cond.initialized y.cls).before a0 Z = true) (w4 : (Jvm.Cond.code y bytes maxL ret).before a0 Z = true)
    (hM : Meets l Z y bytes maxL ret rm [] argsL.toArray h Q0) (eT : T.heap = h) (hy : y.cls ≠ "java/lang/invoke/MethodHandle" ∧ y.cls ≠ "java/lang/invoke/VarHandle")
    (hf : rm.frames + 1 ≤ R.frames) (hl : W + (maxL + 11) + rm.locals ≤ R.locals) (hcl : cells + rm.cells ≤ R.cells) (hsl : slots + rm.slots ≤ R.slots)
    (hsize : Ls.size = c.maxLocals) (hlen : ∀ sig, parseMethodDescriptor y.desc = some sig → argsL.length = sig.parameters.length) (hW : 2 * 0 + (rest.map fun v => v.category).sum ≤ W)
    (hd : decode c.code pc = .ok (.invokestatic index, 3))
    (next : ∀ (T' : State) (v : Option Value) (L : List Loc), Stand p l e R s m args below meth c T' (locs ++ L) (cells + rm.cells) (slots + rm.slots) → Q0 v T'.heap L → Go p e s below Q k n T' (mkF m (pc + 3) Ls (v.toList ++ rest))) :
    Go p e s below Q k n T (mkF m pc Ls (argsL.reverse ++ rest)) := by
  obtain ⟨v, _, ⟨T', L', k', n'⟩, -, X', ⟨Lc, hQ, l', y', z'⟩, st⟩ := Jvm.LawKit.callS X hx (y := y) hown (mvT hZ w1) (mvT hZ w2) (mvT hZ w3) (mvT hZ w4) hy (backOf (W := W) hM hZ w4 w3 hf hl) (g := mkF m pc Ls (argsL.reverse ++ rest)) rfl hsize (argsL := argsL) (rest := rest) hlen rfl hW hd (fun _ _ => ⟨rfl, eT, hcl, hsl⟩)
  dsimp only [Pt.U, Pt.locs, Pt.cells, Pt.slots] at X' l' y' z' st hQ
  subst l' y' z'
  exact Go.st st (next T' v Lc X' hQ)
theorem Go.callV (X : Stand p l e R s m args below meth c T locs cells slots) (hx : p.tables.exec = Jvm.exec) (hZ : Z.Warmed39 s.vm) (hown : s.vm.findClass own = some m.cls)
    (w1 : (Jvm.Cond.methodLink own index y).before a0 Z = true) (w2 : (Jvm.Cond.declares y).before a0 Z = true) (hnf : NotFace s y) (w3 : (Jvm.Cond.selects C y z).before a0 Z = true) (w4 : (Jvm.Cond.instanceMethod z).before a0 Z = true) (w5 : (Jvm.Cond.initialized z.cls).before a0 Z = true) (w6 : (Jvm.Cond.code z bytes maxL ret).before a0 Z = true)
    (hM : Meets l Z z bytes maxL ret rm [] (.ref b :: argsL).toArray h Q0) (eT : T.heap = h) (E : Exa Z h b C) (hy : y.cls ≠ "java/lang/invoke/MethodHandle" ∧ y.cls ≠ "java/lang/invoke/VarHandle")
    (hf : rm.frames + 1 ≤ R.frames) (hl : W + (maxL + 11) + rm.locals ≤ R.locals) (hcl : cells + rm.cells ≤ R.cells) (hsl : slots + rm.slots ≤ R.slots)
    (hsize : Ls.size = c.maxLocals) (hlen : ∀ sig, parseMethodDescriptor y.desc = some sig → argsL.length = sig.parameters.length) (hW : 2 * 0 + (rest.map fun v => v.category).sum ≤ W)
    (hd : decode c.code pc = .ok (.invokevirtual index, 3))
    (next : ∀ (T' : State) (v : Option Value) (L : List Loc), Stand p l e R s m args below meth c T' (locs ++ L) (cells + rm.cells) (slots + rm.slots) → Q0 v T'.heap L → Go p e s below Q k n T' (mkF m (pc + 3) Ls (v.toList ++ rest))) :
    Go p e s below Q k n T (mkF m pc Ls (argsL.reverse ++ .ref b :: rest)) := by
  obtain ⟨cq, kq, qa, qb, qc⟩ := isOf hZ eT E
  obtain ⟨v, _, ⟨T', L', k', n'⟩, -, X', ⟨Lc, hQ, l', y', z'⟩, st⟩ := X.virtualBack hx (y := y) (z := z) hown (mvT hZ w1) (mvT hZ w2) hnf (mvT hZ w3) (mvT hZ w4) hy (backOf (W := W) hM hZ w6 w5 hf hl) qa qc (g := mkF m pc Ls (argsL.reverse ++ .ref b :: rest)) rfl hsize (Steps.refl _) (argsL := argsL) (rest := rest) hlen rfl hW hd (fun _ _ => ⟨rfl, eT, hcl, hsl⟩)
  dsimp only [Pt.U, Pt.locs, Pt.cells, Pt.slots] at X' l' y' z' st hQ
  subst l' y' z'
  exact Go.thru st (next T' v Lc X' hQ)
/-- an inherited method, named through the subclass -/
theorem Go.callU {owner : String} {x' : MethodName} (X : Stand p l e R s m args below meth c T locs cells slots) (hx : p.tables.exec = Jvm.exec) (hZ : Z.Warmed39 s.vm) (hown : s.vm.findClass own = some m.cls)
    (w1 : (Jvm.Cond.methodLink own index x').before a0 Z = true) (w2 : (Jvm.Cond.sameMethod x'.cls owner x'.name x'.desc).before a0 Z = true) (w3 : (Jvm.Cond.declares ⟨owner, x'.name, x'.desc⟩).before a0 Z = true) (w4 : (Jvm.Cond.selects C x' z).before a0 Z = true) (w5 : (Jvm.Cond.instanceMethod z).before a0 Z = true) (w6 : (Jvm.Cond.initialized z.cls).before a0 Z = true) (w7 : (Jvm.Cond.code z bytes maxL ret).before a0 Z = true)
    (hM : Meets l Z z bytes maxL ret rm [] (.ref b :: argsL).toArray h Q0) (eT : T.heap = h) (E : Exa Z h b C) (hy : owner ≠ "java/lang/invoke/MethodHandle" ∧ owner ≠ "java/lang/invoke/VarHandle")
    (hf : rm.frames + 1 ≤ R.frames) (hl : W + (maxL + 11) + rm.locals ≤ R.locals) (hcl : cells + rm.cells ≤ R.cells) (hsl : slots + rm.slots ≤ R.slots)
    (hsize : Ls.size = c.maxLocals) (hlen : ∀ sig, parseMethodDescriptor x'.desc = some sig → argsL.length = sig.parameters.length) (hW : 2 * 0 + (rest.map fun v => v.category).sum ≤ W)
    (hd : decode c.code pc = .ok (.invokevirtual index, 3))
    (next : ∀ (T' : State) (v : Option Value) (L : List Loc), Stand p l e R s m args below meth c T' (locs ++ L) (cells + rm.cells) (slots + rm.slots) → Q0 v T'.heap L → Go p e s below Q k n T' (mkF m (pc + 3) Ls (v.toList ++ rest))) :
    Go p e s below Q k n T (mkF m pc Ls (argsL.reverse ++ .ref b :: rest)) := by
  obtain ⟨cq, kq, qa, qb, qc⟩ := isOf hZ eT E
  obtain ⟨v, _, ⟨T', L', k', n'⟩, -, X', ⟨Lc, hQ, l', y', z'⟩, st⟩ := X.virtualBackUp hx (x := x') (y := z) hown (mvT hZ w1) (mvT hZ w2) (mvT hZ w3) hy (mvT hZ w4) (mvT hZ w5) (backOf (W := W) hM hZ w7 w6 hf hl) qa qc (g := mkF m pc Ls (argsL.reverse ++ .ref b :: rest)) rfl hsize (Steps.refl _) (argsL := argsL) (rest := rest) hlen rfl hW hd (fun _ _ => ⟨rfl, eT, hcl, hsl⟩)
  dsimp only [Pt.U, Pt.locs, Pt.cells, Pt.slots] at X' l' y' z' st hQ
  subst l' y' z'
  exact Go.thru st (next T' v Lc X' hQ)
/-- a constructor -/
theorem Go.callC (X : Stand p l e R s m args below meth c T locs cells slots) (hx : p.tables.exec = Jvm.exec) (hZ : Z.Warmed39 s.vm) (hy1 : y.name = "<init>") (hown : s.vm.findClass own = some m.cls)
    (w1 : (Jvm.Cond.methodLink own index y).before a0 Z = true) (w2 : (Jvm.Cond.instanceMethod y).before a0 Z = true) (w3 : (Jvm.Cond.initialized y.cls).before a0 Z = true) (w4 : (Jvm.Cond.code y bytes maxL none).before a0 Z = true)
    (hM : Meets l Z y bytes maxL none rm [] (.ref b :: argsL).toArray h Q0) (eT : T.heap = h) (hy : y.cls ≠ "java/lang/invoke/MethodHandle" ∧ y.cls ≠ "java/lang/invoke/VarHandle")
    (hf : rm.frames + 1 ≤ R.frames) (hl : W + (maxL + 11) + rm.locals ≤ R.locals) (hcl : cells + rm.cells ≤ R.cells) (hsl : slots + rm.slots ≤ R.slots)
    (hsize : Ls.size = c.maxLocals) (hlen : ∀ sig, parseMethodDescriptor y.desc = some sig → argsL.length = sig.parameters.length) (hW : 2 * 0 + (rest.map fun v => v.category).sum ≤ W)
    (hd : decode c.code pc = .ok (.invokespecial index, 3))
    (next : ∀ (T' : State) (v : Option Value) (L : List Loc), Stand p l e R s m args below meth c T' (locs ++ L) (cells + rm.cells) (slots + rm.slots) → Q0 v T'.heap L → Go p e s below Q k n T' (mkF m (pc + 3) Ls (v.toList ++ rest))) :
    Go p e s below Q k n T (mkF m pc Ls (argsL.reverse ++ .ref b :: rest)) := by
  obtain ⟨v, _, ⟨T', L', k', n'⟩, -, X', ⟨Lc, hQ, l', y', z'⟩, st⟩ := X.specialBack hx (y := y) hy1 hown (mvT hZ w1) (mvT hZ w2) (mvT hZ w4) hy (backOf (W := W) hM hZ w4 w3 hf hl) (g := mkF m pc Ls (argsL.reverse ++ .ref b :: rest)) rfl hsize (Steps.refl _) (a := b) (argsL := argsL) (rest := rest) hlen rfl hW hd (fun _ _ => ⟨rfl, eT, hcl, hsl⟩)
  dsimp only [Pt.U, Pt.locs, Pt.cells, Pt.slots] at X' l' y' z' st hQ
  subst l' y' z'
  exact Go.thru st (next T' v Lc X' hQ)
end Calls
end OwnKit
section OwnExt
variable {Z : State} {h h' h'' : Heap} {a : Addr} {sl : Nat} {v : Value}
theorem own_extR (h : Heap) : Ext h h := ⟨Nat.le_refl _, fun _ _ q => q⟩
theorem own_extE (E : Ext h h') (E' : Ext h' h'') : Ext h h'' := ⟨Nat.le_trans E.1 E'.1, fun x c q => E'.2 x c (E.2 x c q)⟩
theorem own_extW (E : Ext h h') (W : Wr h' h'' a sl v) (q : h.size ≤ a) : Ext h h'' := by
  refine ⟨by rw [W.size]; exact E.1, fun x c r => ?_⟩
  have hlt := (Array.getElem?_eq_some_iff.mp r).1
  obtain ⟨c', e1, -, -, -, e5, -⟩ := wr_at W (E.2 x c r)
  rw [e1, e5 (Nat.ne_of_lt (Nat.lt_of_lt_of_le hlt q))]
theorem own_extK {ws : List Addr} (E : Ext h h') (K : Keep h' h'' ws) (q : ∀ x ∈ ws, h.size ≤ x) : Ext h h'' :=
  ⟨Nat.le_trans E.1 K.1, fun x c r => K.2.1 x c (E.2 x c r) fun z => absurd (Array.getElem?_eq_some_iff.mp r).1 (Nat.not_lt.mpr (q x z))⟩
end OwnExt

theorem own_eqI {args : Array Value} {Z : State} {t : Term} {i : Int32} (h : (Jvm.Cond.eq t (.int i)).value args Z none Z [] = some true) : t.eval args Z none [] Z = some (.int i) := by
  simp only [Cond.value, Term.eval] at h
  cases ht : t.eval args Z none [] Z with
  | none => simp [ht] at h
  | some x => cases x <;> simp_all
theorem own_const {C nm d : String} {i : Int32} {args : Array Value} {Z : State} (w1 : (Jvm.Cond.exactly (.static C nm d) C).value args Z none Z [] = some true)
    (w2 : (Jvm.Cond.eq (.field (.static C nm d) "java/lang/Enum" "ordinal" "I") (.int i)).value args Z none Z [] = some true) (hi : (Jvm.Cond.initialized C).before args Z = true) (hl : (Jvm.Cond.laysStatic C nm d).before args Z = true) :
    ∃ r, (Term.static C nm d).eval args Z none [] Z = some (.ref r) ∧ Sta Z Z.heap C nm d (.ref r) ∧ Exa Z Z.heap r C ∧ Fld Z Z.heap r "java/lang/Enum" "ordinal" "I" (.int i) := by
  obtain ⟨r, er⟩ := exa_v w1
  exact ⟨r, er, Sta.start er (Or.inr ⟨hi, hl⟩), Exa.start er w1, Fld.start (by rw [← fld_at er]; exact own_eqI w2)⟩

theorem own_idx {Z : State} {args : Array Value} {j : Int32} (nn : ¬ j < 0) : (Term.sub (.index 0) (.int 128)).eval args Z none [j.toNatClampNeg] Z = some (.int (j - 128)) := by
  rw [show (Term.sub (.index 0) (.int 128)).eval args Z none [j.toNatClampNeg] Z = some (.int (j.toNatClampNeg.toInt32 - 128)) from rfl, (back32 nn).1]

theorem own_mr {p q x y f l : Int64} (hx : x = (p &&& (4294967295 : Int64))) (hy : y = (q &&& (4294967295 : Int64))) (hf : f = (if y < x then y else x)) (hl : l = (if x < y then y else x)) : 0 ≤ f.toInt ∧ f.toInt ≤ l.toInt ∧ l.toInt < 4294967296 := by
  have h1 : x.toInt = p.toInt % (2 ^ 32 : Nat) := by rw [hx]; exact c_maskL p 4294967295 32 (by decide) (by decide)
  have h2 : y.toInt = q.toInt % (2 ^ 32 : Nat) := by rw [hy]; exact c_maskL q 4294967295 32 (by decide) (by decide)
  have h3 : (2 ^ 32 : Nat) = 4294967296 := by decide
  rw [h3] at h1 h2
  by_cases a : y < x <;> by_cases b : x < y <;> simp only [a, b, if_true, if_false] at hf hl <;> subst hf hl <;> rw [Int64.lt_iff_toInt_lt] at a b <;> omega
theorem own_pc {f l c : Int64} (h : 0 ≤ f.toInt ∧ f.toInt ≤ l.toInt ∧ l.toInt < 4294967296) (hc : c = ((l - f) + (1 : Int64))) : ¬ c < (1 : Int64) ∧ ¬ (4294967296 : Int64) < c ∧ ((f + c) - (1 : Int64)) = l := by
  have o1 : (1 : Int64).toInt = 1 := rfl
  have o2 : (4294967296 : Int64).toInt = 4294967296 := rfl
  have a1 := c_lsub l f
  have a2 := c_ladd (l - f) 1
  have a3 := c_ladd f c
  have a4 := c_lsub (f + c) 1
  have r1 := rng64 (l - f)
  have r2 := rng64 ((l - f) + 1)
  have r3 := rng64 (f + c)
  have r4 := rng64 (f + c - 1)
  rw [← hc] at a2 r2
  refine ⟨?_, ?_, Int64.toInt_inj.mp ?_⟩
  · rw [Int64.lt_iff_toInt_lt]; omega
  · rw [Int64.lt_iff_toInt_lt]; omega
  · omega

theorem d9_0 : decode jdk_18_method_1_code 0 = .ok (.aload_n 0, 1) := by decide +kernel
theorem d9_1 : decode jdk_18_method_1_code 1 = .ok (.invokespecial 1, 3) := by decide +kernel
theorem d9_4 : decode jdk_18_method_1_code 4 = .ok (.return_, 1) := by decide +kernel
theorem ef_N (m : MethodId) (x0 : Addr) : entryFrame m #[(.ref x0)] 1 = mkF m 0 #[.val (.ref x0)] [] := by first | (simp [entryFrame, mkF, argsToLocals, Value.category]; done) | rfl
set_option maxRecDepth 65536 in
set_option maxHeartbeats 40000000 in
theorem rmN (l : Launch) (Z : State) (a0 : Array Value) (hw : ∀ d ∈ tables_1, d.before a0 Z = true) (ws : List Jvm.Cond) (b : Addr) (h0 : Heap) (n0 : Nat) :
    Meets l Z (⟨"java/lang/Number", "<init>", "()V"⟩ : MethodName) jdk_18_method_1_code 1 none ({ frames := 1, cells := 0, slots := 0, locals := 12 } : Room) ws #[(.ref b)] h0 (fun v h L => v = none ∧ Fr n0 L ∧ h = h0) := by
  refine Meets.of (plainFor_of_name (by first | (simp [plainName, overriddenIn]; done) | decide +kernel : plainName "java/lang/Number" = true)) ?_
  intro p e s m below meth c s₁ X0 hx hby hml hret hlk hnm hZ hown e0
  replace hown : s.vm.findClass "java/lang/Number" = some m.cls := hown
  have N0 := Fr.nil n0
  refine Go.cast (ef_N m b) ?_
  show Go p e s below _ _ _ s₁ (mkF m 0 #[.val (.ref b)] [])
  refine Go.st (fun _ kont => XS.aloadN X0.here hx rfl (hb hby d9_0) rfl rfl kont) ?_
  show Go p e s below _ _ _ s₁ (mkF m 1 #[.val (.ref b)] [(.ref b)])
  obtain ⟨T1, X1, e1, st1⟩ := initO X0 hx hZ hown (hw _ (List.mem_of_getElem? (i := 55) rfl)) (hw _ (List.mem_of_getElem? (i := 27) rfl)) (hw _ (List.mem_of_getElem? (i := 28) rfl)) e0 (g := (mkF m 1 #[.val (.ref b)] [(.ref b)])) rfl (by rw [hml]; rfl) rfl (hb hby d9_1) (by decide) (W := 0) (by show 2 * 0 + _ ≤ _; exact Nat.le_of_eq rfl) (by decide)
  refine Go.st st1 ?_
  show Go p e s below _ _ _ T1 (mkF m 4 #[.val (.ref b)] [])
  exact Go.retV X1 hx hlk hret (hb hby d9_4) (by decide) (by decide) ⟨rfl, N0, e1⟩
theorem pd___V : parseMethodDescriptor "()V" = some ⟨[], none⟩ := by decide +kernel
theorem d8_0 : decode jdk_33_method_23_code 0 = .ok (.aload_n 0, 1) := by decide +kernel
theorem d8_1 : decode jdk_33_method_23_code 1 = .ok (.invokespecial 202, 3) := by decide +kernel
theorem d8_4 : decode jdk_33_method_23_code 4 = .ok (.aload_n 0, 1) := by decide +kernel
theorem d8_5 : decode jdk_33_method_23_code 5 = .ok (.iload_n 1, 1) := by decide +kernel
theorem d8_6 : decode jdk_33_method_23_code 6 = .ok (.putfield 205, 3) := by decide +kernel
theorem d8_9 : decode jdk_33_method_23_code 9 = .ok (.return_, 1) := by decide +kernel
theorem ef_I (m : MethodId) (x0 : Addr) (x1 : Int32) : entryFrame m #[(.ref x0), (.int x1)] 2 = mkF m 0 #[.val (.ref x0), .val (.int x1)] [] := by first | (simp [entryFrame, mkF, argsToLocals, Value.category]; done) | rfl
set_option maxRecDepth 65536 in
set_option maxHeartbeats 40000000 in
theorem rmI (l : Launch) (Z : State) (a0 : Array Value) (hw : ∀ d ∈ tables_1, d.before a0 Z = true) (ws : List Jvm.Cond) (b : Addr) (i : Int32) (h0 : Heap) (n0 : Nat) (gb : n0 ≤ b) (E_b : Exa Z h0 b "java/lang/Integer") (F_value_b : Fld Z h0 b "java/lang/Integer" "value" "I" (.int (0 : Int32)))  :
    Meets l Z (⟨"java/lang/Integer", "<init>", "(I)V"⟩ : MethodName) jdk_33_method_23_code 2 none ({ frames := 2, cells := 0, slots := 0, locals := 24 } : Room) ws #[(.ref b), (.int i)] h0 (fun v h L => v = none ∧ Fr n0 L ∧ Keep h0 h [b] ∧ Fld Z h b "java/lang/Integer" "value" "I" (.int i)) := by
  refine Meets.of (plainFor_of_name (by first | (simp [plainName, overriddenIn]; done) | decide +kernel : plainName "java/lang/Integer" = true)) ?_
  intro p e s m below meth c s₁ X0 hx hby hml hret hlk hnm hZ hown e0
  replace hown : s.vm.findClass "java/lang/Integer" = some m.cls := hown
  have N0 := Fr.nil n0
  have K0 := Keep.refl h0 [b]
  refine Go.cast (ef_I m b i) ?_
  show Go p e s below _ _ _ s₁ (mkF m 0 #[.val (.ref b), .val (.int i)] [])
  refine Go.st (fun _ kont => XS.aloadN X0.here hx rfl (hb hby d8_0) rfl rfl kont) ?_
  show Go p e s below _ _ _ s₁ (mkF m 1 #[.val (.ref b), .val (.int i)] [(.ref b)])
  refine Go.callC (b := b) (W := 0) (argsL := []) (rest := []) X0 hx hZ (y := (⟨"java/lang/Number", "<init>", "()V"⟩ : MethodName)) rfl hown (hw _ (List.mem_of_getElem? (i := 49) rfl)) (hw _ (List.mem_of_getElem? (i := 50) rfl)) (hw _ (List.mem_of_getElem? (i := 53) rfl)) (hw _ (List.mem_of_getElem? (i := 54) rfl)) (rmN l Z a0 hw [] b h0 n0) e0 (by decide) (by decide) (by decide) (by decide) (by decide) (by rw [hml]; rfl) (lenOf pd___V rfl) (Nat.le_of_eq rfl) (hb hby d8_1) ?_
  intro T1 v1 L1 X1 hQ1
  obtain ⟨rfl, N1, E1⟩ := hQ1
  have M1 := Fr.app N0 N1
  show Go p e s below _ _ _ T1 (mkF m 4 #[.val (.ref b), .val (.int i)] [])
  refine Go.st (fun _ kont => XS.aloadN X1.here hx rfl (hb hby d8_4) rfl rfl kont) ?_
  show Go p e s below _ _ _ T1 (mkF m 5 #[.val (.ref b), .val (.int i)] [(.ref b)])
  refine Go.st (fun _ kont => XS.iloadN X1.here hx rfl (hb hby d8_5) rfl kont) ?_
  show Go p e s below _ _ _ T1 (mkF m 6 #[.val (.ref b), .val (.int i)] [(.int i), (.ref b)])
  obtain ⟨T2, h2, X2, e2, W2, st2⟩ := putF X1 hx hZ hown (host := "") (Or.inl (hw _ (List.mem_of_getElem? (i := 56) rfl))) Via.refl E1 F_value_b E_b (Or.inr ⟨(hw _ (List.mem_of_getElem? (i := 57) rfl)), rfl, hnm⟩) (hw _ (List.mem_of_getElem? (i := 44) rfl)) (ty := .int) (by decide) rfl rfl (g := (mkF m 6 #[.val (.ref b), .val (.int i)] [(.int i), (.ref b)])) rfl rfl (hb hby d8_6)
  refine Go.st st2 ?_
  have F_value_b_2 : Fld Z h2 b "java/lang/Integer" "value" "I" (.int i) := F_value_b.same W2
  have K_2 : Keep h0 h2 [b] := K0.wr W2 (Or.inl (List.mem_singleton.mpr rfl))
  have E_b_2 := E_b.wr W2
  have N2 := Fr.snoc X2 M1 gb
  show Go p e s below _ _ _ T2 (mkF m 9 #[.val (.ref b), .val (.int i)] [])
  exact Go.retV X2 hx hlk hret (hb hby d8_9) (by decide) (by decide) ⟨rfl, N2, (by rw [e2]; exact K_2), (by rw [e2]; exact F_value_b_2)⟩
theorem pd__I_V : parseMethodDescriptor "(I)V" = some ⟨[.int], none⟩ := by decide +kernel
theorem d3_0 : decode jdk_33_method_22_code 0 = .ok (.iload_n 0, 1) := by decide +kernel
theorem d3_1 : decode jdk_33_method_22_code 1 = .ok (.bipush (-128), 2) := by decide +kernel
theorem d3_3 : decode jdk_33_method_22_code 3 = .ok (.if_icmp .lt 20, 3) := by decide +kernel
theorem d3_6 : decode jdk_33_method_22_code 6 = .ok (.iload_n 0, 1) := by decide +kernel
theorem d3_7 : decode jdk_33_method_22_code 7 = .ok (.getstatic 191, 3) := by decide +kernel
theorem d3_10 : decode jdk_33_method_22_code 10 = .ok (.if_icmp .gt 13, 3) := by decide +kernel
theorem d3_13 : decode jdk_33_method_22_code 13 = .ok (.getstatic 195, 3) := by decide +kernel
theorem d3_16 : decode jdk_33_method_22_code 16 = .ok (.iload_n 0, 1) := by decide +kernel
theorem d3_17 : decode jdk_33_method_22_code 17 = .ok (.sipush 128, 3) := by decide +kernel
theorem d3_20 : decode jdk_33_method_22_code 20 = .ok (.iadd, 1) := by decide +kernel
theorem d3_21 : decode jdk_33_method_22_code 21 = .ok (.aaload, 1) := by decide +kernel
theorem d3_22 : decode jdk_33_method_22_code 22 = .ok (.areturn, 1) := by decide +kernel
theorem d3_23 : decode jdk_33_method_22_code 23 = .ok (.new 1, 3) := by decide +kernel
theorem d3_26 : decode jdk_33_method_22_code 26 = .ok (.dup, 1) := by decide +kernel
theorem d3_27 : decode jdk_33_method_22_code 27 = .ok (.iload_n 0, 1) := by decide +kernel
theorem d3_28 : decode jdk_33_method_22_code 28 = .ok (.invokespecial 199, 3) := by decide +kernel
theorem d3_31 : decode jdk_33_method_22_code 31 = .ok (.areturn, 1) := by decide +kernel
theorem ef_V (m : MethodId) (x0 : Int32) : entryFrame m #[(.int x0)] 1 = mkF m 0 #[.val (.int x0)] [] := by first | (simp [entryFrame, mkF, argsToLocals, Value.category]; done) | rfl
set_option maxRecDepth 65536 in
set_option maxHeartbeats 40000000 in
theorem rmV (l : Launch) (Z : State) (a0 : Array Value) (hw : ∀ d ∈ tables_1, d.before a0 Z = true) (ws : List Jvm.Cond) (i : Int32) (h0 : Heap) (n0 : Nat) (Z0 : n0 ≤ h0.size) (ca : Addr) (cl : Cell) (SH : Sta Z h0 "java/lang/Integer$IntegerCache" "high" "I" (.int 127)) (SC : Sta Z h0 "java/lang/Integer$IntegerCache" "cache" "[Ljava/lang/Integer;" (.ref ca)) (B : Bxs Z ca cl "java/lang/Integer" "I" 256 (fun j => .int (j - 128))) (EZ : Ext Z.heap h0) :
    Meets l Z (⟨"java/lang/Integer", "valueOf", "(I)Ljava/lang/Integer;"⟩ : MethodName) jdk_33_method_22_code 1 (some (.object "java/lang/Integer")) ({ frames := 3, cells := 1, slots := 1, locals := 38 } : Room) ws #[(.int i)] h0 (fun v h L => ∃ b, v = some (.ref b) ∧ Fr n0 L ∧ Ext h0 h ∧ Exa Z h b "java/lang/Integer" ∧ Fld Z h b "java/lang/Integer" "value" "I" (.int i)) := by
  refine Meets.of (plainFor_of_name (by first | (simp [plainName, overriddenIn]; done) | decide +kernel : plainName "java/lang/Integer" = true)) ?_
  intro p e s m below meth c s₁ X0 hx hby hml hret hlk hnm hZ hown e0
  replace hown : s.vm.findClass "java/lang/Integer" = some m.cls := hown
  have N0 := Fr.nil n0
  have Q0 := own_extR h0
  refine Go.cast (ef_V m i) ?_
  show Go p e s below _ _ _ s₁ (mkF m 0 #[.val (.int i)] [])
  refine Go.st (fun _ kont => XS.iloadN X0.here hx rfl (hb hby d3_0) rfl kont) ?_
  show Go p e s below _ _ _ s₁ (mkF m 1 #[.val (.int i)] [(.int i)])
  refine Go.st (fun _ kont => XT.bipushV X0.here hx rfl (-128 : Int32) (hb hby d3_1) (by decide) kont) ?_
  show Go p e s below _ _ _ s₁ (mkF m 3 #[.val (.int i)] [(.int (-128 : Int32)), (.int i)])
  by_cases hc3_1 : i < (-128 : Int32)
  · --
    refine Go.st (fun _ kont => XS.icmpYes X0.here hx rfl (pc0 := 3) (pc' := 23) rfl (hb hby d3_3) rfl (tlt hc3_1).1 (by decide) (by decide) kont) ?_
    show Go p e s below _ _ _ s₁ (mkF m 23 #[.val (.int i)] [])
    obtain ⟨T2, h2, X2, e2, E2, A2, D2, -, st2⟩ := newO X0 hx hZ hown (hw _ (List.mem_of_getElem? (i := 43) rfl)) (hw _ (List.mem_of_getElem? (i := 44) rfl)) (hw _ (List.mem_of_getElem? (i := 13) rfl)) e0 (g := (mkF m 23 #[.val (.int i)] [])) rfl (hb hby d3_23) (by decide) (by decide)
    obtain ⟨b2, g2⟩ : ∃ z, z = h0.size := ⟨_, rfl⟩
    rw [← g2] at A2 D2 st2
    have sz2 : h0.size ≤ b2 := Nat.le_trans Q0.1 (Nat.le_of_eq g2.symm)
    have gn2 : n0 ≤ b2 := Nat.le_trans Z0 sz2
    refine Go.st st2 ?_
    have Q_2 : Ext h0 h2 := own_extE Q0 E2
    have F_value_b2 : Fld Z h2 b2 "java/lang/Integer" "value" "I" (.int (0 : Int32)) := D2 (Or.inr (hw _ (List.mem_of_getElem? (i := 57) rfl))) (ty := .int) (by decide)
    show Go p e s below _ _ _ T2 (mkF m 26 #[.val (.int i)] [(.ref b2)])
    refine Go.st (fun _ kont => XS.dup X2.here hx rfl (hb hby d3_26) rfl rfl kont) ?_
    show Go p e s below _ _ _ T2 (mkF m 27 #[.val (.int i)] [(.ref b2), (.ref b2)])
    refine Go.st (fun _ kont => XS.iloadN X2.here hx rfl (hb hby d3_27) rfl kont) ?_
    show Go p e s below _ _ _ T2 (mkF m 28 #[.val (.int i)] [(.int i), (.ref b2), (.ref b2)])
    refine Go.callC (b := b2) (W := 1) (argsL := [(.int i)]) (rest := [(.ref b2)]) X2 hx hZ (y := (⟨"java/lang/Integer", "<init>", "(I)V"⟩ : MethodName)) rfl hown (hw _ (List.mem_of_getElem? (i := 45) rfl)) (hw _ (List.mem_of_getElem? (i := 46) rfl)) (hw _ (List.mem_of_getElem? (i := 13) rfl)) (hw _ (List.mem_of_getElem? (i := 48) rfl)) (rmI l Z a0 hw [] b2 i h2 n0 gn2 A2 F_value_b2) e2 (by decide) (by decide) (by decide) (by decide) (by decide) (by rw [hml]; rfl) (lenOf pd__I_V rfl) (Nat.le_of_eq rfl) (hb hby d3_28) ?_
    intro T3 v3 L3 X3 hQ3
    obtain ⟨h3, e3⟩ : ∃ z, T3.heap = z := ⟨_, rfl⟩
    rw [e3] at hQ3
    obtain ⟨rfl, N3, K3, F_value_b2_3⟩ := hQ3
    have M3 := Fr.app N0 N3
    have Q_3 : Ext h0 h3 := own_extK Q_2 K3 (allS sz2 all0)
    have E_b2_3 := A2.keep K3
    show Go p e s below _ _ _ T3 (mkF m 31 #[.val (.int i)] [(.ref b2)])
    exact Go.retA X3 hx hlk hret rfl rfl (hb hby d3_31) (by decide) (by decide) ⟨b2, rfl, M3, (by rw [e3]; exact Q_3), (by rw [e3]; exact E_b2_3), (by rw [e3]; exact F_value_b2_3)⟩
  · --
    refine Go.st (fun _ kont => XS.icmpNo X0.here hx rfl (hb hby d3_3) rfl (flt hc3_1).1 kont) ?_
    show Go p e s below _ _ _ s₁ (mkF m 6 #[.val (.int i)] [])
    refine Go.st (fun _ kont => XS.iloadN X0.here hx rfl (hb hby d3_6) rfl kont) ?_
    show Go p e s below _ _ _ s₁ (mkF m 7 #[.val (.int i)] [(.int i)])
    obtain ⟨T4, X4, e4, st4⟩ := getS2 X0 hx hZ hown (host := "") (Or.inl (hw _ (List.mem_of_getElem? (i := 15) rfl))) Via.refl e0 SH (g := (mkF m 7 #[.val (.int i)] [(.int i)])) rfl (hb hby d3_7)
    refine Go.st st4 ?_
    show Go p e s below _ _ _ T4 (mkF m 10 #[.val (.int i)] [(.int (127 : Int32)), (.int i)])
    by_cases hc10_5 : (127 : Int32) < i
    · --
      refine Go.st (fun _ kont => XS.icmpYes X4.here hx rfl (pc0 := 10) (pc' := 23) rfl (hb hby d3_10) rfl (tlt hc10_5).2.2.1 (by decide) (by decide) kont) ?_
      show Go p e s below _ _ _ T4 (mkF m 23 #[.val (.int i)] [])
      obtain ⟨T6, h6, X6, e6, E6, A6, D6, -, st6⟩ := newO X4 hx hZ hown (hw _ (List.mem_of_getElem? (i := 43) rfl)) (hw _ (List.mem_of_getElem? (i := 44) rfl)) (hw _ (List.mem_of_getElem? (i := 13) rfl)) e4 (g := (mkF m 23 #[.val (.int i)] [])) rfl (hb hby d3_23) (by decide) (by decide)
      obtain ⟨b6, g6⟩ : ∃ z, z = h0.size := ⟨_, rfl⟩
      rw [← g6] at A6 D6 st6
      have sz6 : h0.size ≤ b6 := Nat.le_trans Q0.1 (Nat.le_of_eq g6.symm)
      have gn6 : n0 ≤ b6 := Nat.le_trans Z0 sz6
      refine Go.st st6 ?_
      have Q_6 : Ext h0 h6 := own_extE Q0 E6
      have F_value_b6 : Fld Z h6 b6 "java/lang/Integer" "value" "I" (.int (0 : Int32)) := D6 (Or.inr (hw _ (List.mem_of_getElem? (i := 57) rfl))) (ty := .int) (by decide)
      show Go p e s below _ _ _ T6 (mkF m 26 #[.val (.int i)] [(.ref b6)])
      refine Go.st (fun _ kont => XS.dup X6.here hx rfl (hb hby d3_26) rfl rfl kont) ?_
      show Go p e s below _ _ _ T6 (mkF m 27 #[.val (.int i)] [(.ref b6), (.ref b6)])
      refine Go.st (fun _ kont => XS.iloadN X6.here hx rfl (hb hby d3_27) rfl kont) ?_
      show Go p e s below _ _ _ T6 (mkF m 28 #[.val (.int i)] [(.int i), (.ref b6), (.ref b6)])
      refine Go.callC (b := b6) (W := 1) (argsL := [(.int i)]) (rest := [(.ref b6)]) X6 hx hZ (y := (⟨"java/lang/Integer", "<init>", "(I)V"⟩ : MethodName)) rfl hown (hw _ (List.mem_of_getElem? (i := 45) rfl)) (hw _ (List.mem_of_getElem? (i := 46) rfl)) (hw _ (List.mem_of_getElem? (i := 13) rfl)) (hw _ (List.mem_of_getElem? (i := 48) rfl)) (rmI l Z a0 hw [] b6 i h6 n0 gn6 A6 F_value_b6) e6 (by decide) (by decide) (by decide) (by decide) (by decide) (by rw [hml]; rfl) (lenOf pd__I_V rfl) (Nat.le_of_eq rfl) (hb hby d3_28) ?_
      intro T7 v7 L7 X7 hQ7
      obtain ⟨h7, e7⟩ : ∃ z, T7.heap = z := ⟨_, rfl⟩
      rw [e7] at hQ7
      obtain ⟨rfl, N7, K7, F_value_b6_7⟩ := hQ7
      have M7 := Fr.app N0 N7
      have Q_7 : Ext h0 h7 := own_extK Q_6 K7 (allS sz6 all0)
      have E_b6_7 := A6.keep K7
      show Go p e s below _ _ _ T7 (mkF m 31 #[.val (.int i)] [(.ref b6)])
      exact Go.retA X7 hx hlk hret rfl rfl (hb hby d3_31) (by decide) (by decide) ⟨b6, rfl, M7, (by rw [e7]; exact Q_7), (by rw [e7]; exact E_b6_7), (by rw [e7]; exact F_value_b6_7)⟩
    · --
      refine Go.st (fun _ kont => XS.icmpNo X4.here hx rfl (hb hby d3_10) rfl (flt hc10_5).2.2.1 kont) ?_
      show Go p e s below _ _ _ T4 (mkF m 13 #[.val (.int i)] [])
      obtain ⟨T8, X8, e8, st8⟩ := getS2 X4 hx hZ hown (host := "") (Or.inl (hw _ (List.mem_of_getElem? (i := 17) rfl))) Via.refl e4 SC (g := (mkF m 13 #[.val (.int i)] [])) rfl (hb hby d3_13)
      refine Go.st st8 ?_
      show Go p e s below _ _ _ T8 (mkF m 16 #[.val (.int i)] [(.ref ca)])
      refine Go.st (fun _ kont => XS.iloadN X8.here hx rfl (hb hby d3_16) rfl kont) ?_
      show Go p e s below _ _ _ T8 (mkF m 17 #[.val (.int i)] [(.int i), (.ref ca)])
      refine Go.st (fun _ kont => XT.sipushV X8.here hx rfl (128 : Int32) (hb hby d3_17) (by decide) kont) ?_
      show Go p e s below _ _ _ T8 (mkF m 20 #[.val (.int i)] [(.int (128 : Int32)), (.int i), (.ref ca)])
      refine Go.st (fun _ kont => XS.iadd X8.here hx rfl (hb hby d3_20) rfl kont) ?_
      show Go p e s below _ _ _ T8 (mkF m 21 #[.val (.int i)] [(.int (i + (128 : Int32))), (.ref ca)])
      have hin : ¬ ((i + (128 : Int32)) < 0 ∨ cl.slots.size ≤ (i + (128 : Int32)).toNatClampNeg) := by rw [B.2.1]; exact (Jvm.Free.IntBox.place_ok i hc3_1 hc10_5).1
      obtain ⟨bx, hbx, Ebx, Fbx⟩ := B.2.2.2 _ hin
      have Ar := (B.ext EZ).1
      have Fb : Fld Z Z.heap bx "java/lang/Integer" "value" "I" (.int (i + 128 - 128)) := Fbx
      rw [Int32.add_sub_cancel] at Fb
      refine Go.st (X8.aaload hx (j := (i + (128 : Int32))) (v := .ref bx) (by rw [e8]; exact Ar.1) (State.isArrayOf_alike hZ.alike Ar.2.1) rfl Ar.2.2 hin hbx (g := (mkF m 21 #[.val (.int i)] [(.int (i + (128 : Int32))), (.ref ca)])) rfl rfl (hb hby d3_21)) ?_
      show Go p e s below _ _ _ T8 (mkF m 22 #[.val (.int i)] [(.ref bx)])
      exact Go.retA X8 hx hlk hret rfl rfl (hb hby d3_22) (by decide) (by decide) ⟨bx, rfl, N0, (by rw [e8]; exact own_extR _), (by rw [e8]; exact Ebx.ext EZ), (by rw [e8]; exact Fb.ext EZ)⟩
theorem d1_0 : decode jdk_29_method_70_code 0 = .ok (.lload_n 0, 1) := by decide +kernel
theorem d1_1 : decode jdk_29_method_70_code 1 = .ok (.lload_n 2, 1) := by decide +kernel
theorem d1_2 : decode jdk_29_method_70_code 2 = .ok (.lcmp, 1) := by decide +kernel
theorem d1_3 : decode jdk_29_method_70_code 3 = .ok (.ifCond .gt 7, 3) := by decide +kernel
theorem d1_6 : decode jdk_29_method_70_code 6 = .ok (.lload_n 0, 1) := by decide +kernel
theorem d1_7 : decode jdk_29_method_70_code 7 = .ok (.goto 4, 3) := by decide +kernel
theorem d1_10 : decode jdk_29_method_70_code 10 = .ok (.lload_n 2, 1) := by decide +kernel
theorem d1_11 : decode jdk_29_method_70_code 11 = .ok (.lreturn, 1) := by decide +kernel
theorem ef_Mi (m : MethodId) (x0 : Int64) (x1 : Int64) : entryFrame m #[(.long x0), (.long x1)] 4 = mkF m 0 #[.val (.long x0), .second, .val (.long x1), .second] [] := by first | (simp [entryFrame, mkF, argsToLocals, Value.category]; done) | rfl
set_option maxRecDepth 65536 in
set_option maxHeartbeats 40000000 in
theorem rmMi (l : Launch) (Z : State) (a0 : Array Value) (hw : ∀ d ∈ tables_1, d.before a0 Z = true) (ws : List Jvm.Cond) (x y r : Int64) (h0 : Heap) (n0 : Nat) (hm : (y < x → r = y) ∧ (¬ y < x → r = x)) :
    Meets l Z (⟨"java/lang/Math", "min", "(JJ)J"⟩ : MethodName) jdk_29_method_70_code 4 (some .long) ({ frames := 0, cells := 0, slots := 0, locals := 0 } : Room) ws #[(.long x), (.long y)] h0 (fun v h L => v = some (.long r) ∧ Fr n0 L ∧ h = h0) := by
  refine Meets.of (Jvm.Free.JP.mathPlain rfl (by decide +kernel)) ?_
  intro p e s m below meth c s₁ X0 hx hby hml hret hlk hnm hZ hown e0
  replace hown : s.vm.findClass "java/lang/Math" = some m.cls := hown
  have N0 := Fr.nil n0
  refine Go.cast (ef_Mi m x y) ?_
  show Go p e s below _ _ _ s₁ (mkF m 0 #[.val (.long x), .second, .val (.long y), .second] [])
  refine Go.st (fun _ kont => XS.lloadN X0.here hx rfl (hb hby d1_0) rfl kont) ?_
  show Go p e s below _ _ _ s₁ (mkF m 1 #[.val (.long x), .second, .val (.long y), .second] [(.long x)])
  refine Go.st (fun _ kont => XS.lloadN X0.here hx rfl (hb hby d1_1) rfl kont) ?_
  show Go p e s below _ _ _ s₁ (mkF m 2 #[.val (.long x), .second, .val (.long y), .second] [(.long y), (.long x)])
  refine Go.st (fun _ kont => XS.lcmp X0.here hx rfl (hb hby d1_2) rfl kont) ?_
  show Go p e s below _ _ _ s₁ (mkF m 3 #[.val (.long x), .second, .val (.long y), .second] [(.int (lcmpW x y))])
  by_cases hc3_1 : y < x
  · --
    refine Go.st (fun _ kont => XS.ifYes X0.here hx rfl (pc0 := 3) (pc' := 10) rfl (hb hby d1_3) rfl ((if0 _ _).trans (tlt ((lw_gt _ _).mpr hc3_1)).2.2.1) (by decide) (by decide) kont) ?_
    show Go p e s below _ _ _ s₁ (mkF m 10 #[.val (.long x), .second, .val (.long y), .second] [])
    refine Go.st (fun _ kont => XS.lloadN X0.here hx rfl (hb hby d1_10) rfl kont) ?_
    show Go p e s below _ _ _ s₁ (mkF m 11 #[.val (.long x), .second, .val (.long y), .second] [(.long y)])
    exact Go.retJ X0 hx hlk hret (hb hby d1_11) (by decide) (by decide) ⟨by rw [hm.1 hc3_1], N0, e0⟩
  · --
    refine Go.st (fun _ kont => XS.ifNo X0.here hx rfl (hb hby d1_3) rfl ((if0 _ _).trans (flt (mt (lw_gt _ _).mp hc3_1)).2.2.1) kont) ?_
    show Go p e s below _ _ _ s₁ (mkF m 6 #[.val (.long x), .second, .val (.long y), .second] [])
    refine Go.st (fun _ kont => XS.lloadN X0.here hx rfl (hb hby d1_6) rfl kont) ?_
    show Go p e s below _ _ _ s₁ (mkF m 7 #[.val (.long x), .second, .val (.long y), .second] [(.long x)])
    refine Go.st (fun _ kont => XS.goto X0.here hx rfl (pc0 := 7) (pc' := 11) rfl (hb hby d1_7) (by decide) (by decide) kont) ?_
    show Go p e s below _ _ _ s₁ (mkF m 11 #[.val (.long x), .second, .val (.long y), .second] [(.long x)])
    exact Go.retJ X0 hx hlk hret (hb hby d1_11) (by decide) (by decide) ⟨by rw [hm.2 hc3_1], N0, e0⟩
theorem d2_0 : decode jdk_29_method_66_code 0 = .ok (.lload_n 0, 1) := by decide +kernel
theorem d2_1 : decode jdk_29_method_66_code 1 = .ok (.lload_n 2, 1) := by decide +kernel
theorem d2_2 : decode jdk_29_method_66_code 2 = .ok (.lcmp, 1) := by decide +kernel
theorem d2_3 : decode jdk_29_method_66_code 3 = .ok (.ifCond .lt 7, 3) := by decide +kernel
theorem d2_6 : decode jdk_29_method_66_code 6 = .ok (.lload_n 0, 1) := by decide +kernel
theorem d2_7 : decode jdk_29_method_66_code 7 = .ok (.goto 4, 3) := by decide +kernel
theorem d2_10 : decode jdk_29_method_66_code 10 = .ok (.lload_n 2, 1) := by decide +kernel
theorem d2_11 : decode jdk_29_method_66_code 11 = .ok (.lreturn, 1) := by decide +kernel
theorem ef_Mx (m : MethodId) (x0 : Int64) (x1 : Int64) : entryFrame m #[(.long x0), (.long x1)] 4 = mkF m 0 #[.val (.long x0), .second, .val (.long x1), .second] [] := by first | (simp [entryFrame, mkF, argsToLocals, Value.category]; done) | rfl
set_option maxRecDepth 65536 in
set_option maxHeartbeats 40000000 in
theorem rmMx (l : Launch) (Z : State) (a0 : Array Value) (hw : ∀ d ∈ tables_1, d.before a0 Z = true) (ws : List Jvm.Cond) (x y r : Int64) (h0 : Heap) (n0 : Nat) (hm : (x < y → r = y) ∧ (¬ x < y → r = x)) :
    Meets l Z (⟨"java/lang/Math", "max", "(JJ)J"⟩ : MethodName) jdk_29_method_66_code 4 (some .long) ({ frames := 0, cells := 0, slots := 0, locals := 0 } : Room) ws #[(.long x), (.long y)] h0 (fun v h L => v = some (.long r) ∧ Fr n0 L ∧ h = h0) := by
  refine Meets.of (Jvm.Free.JP.mathPlain rfl (by decide +kernel)) ?_
  intro p e s m below meth c s₁ X0 hx hby hml hret hlk hnm hZ hown e0
  replace hown : s.vm.findClass "java/lang/Math" = some m.cls := hown
  have N0 := Fr.nil n0
  refine Go.cast (ef_Mx m x y) ?_
  show Go p e s below _ _ _ s₁ (mkF m 0 #[.val (.long x), .second, .val (.long y), .second] [])
  refine Go.st (fun _ kont => XS.lloadN X0.here hx rfl (hb hby d2_0) rfl kont) ?_
  show Go p e s below _ _ _ s₁ (mkF m 1 #[.val (.long x), .second, .val (.long y), .second] [(.long x)])
  refine Go.st (fun _ kont => XS.lloadN X0.here hx rfl (hb hby d2_1) rfl kont) ?_
  show Go p e s below _ _ _ s₁ (mkF m 2 #[.val (.long x), .second, .val (.long y), .second] [(.long y), (.long x)])
  refine Go.st (fun _ kont => XS.lcmp X0.here hx rfl (hb hby d2_2) rfl kont) ?_
  show Go p e s below _ _ _ s₁ (mkF m 3 #[.val (.long x), .second, .val (.long y), .second] [(.int (lcmpW x y))])
  by_cases hc3_1 : x < y
  · --
    refine Go.st (fun _ kont => XS.ifYes X0.here hx rfl (pc0 := 3) (pc' := 10) rfl (hb hby d2_3) rfl ((if0 _ _).trans (tlt ((lw_lt _ _).mpr hc3_1)).1) (by decide) (by decide) kont) ?_
    show Go p e s below _ _ _ s₁ (mkF m 10 #[.val (.long x), .second, .val (.long y), .second] [])
    refine Go.st (fun _ kont => XS.lloadN X0.here hx rfl (hb hby d2_10) rfl kont) ?_
    show Go p e s below _ _ _ s₁ (mkF m 11 #[.val (.long x), .second, .val (.long y), .second] [(.long y)])
    exact Go.retJ X0 hx hlk hret (hb hby d2_11) (by decide) (by decide) ⟨by rw [hm.1 hc3_1], N0, e0⟩
  · --
    refine Go.st (fun _ kont => XS.ifNo X0.here hx rfl (hb hby d2_3) rfl ((if0 _ _).trans (flt (mt (lw_lt _ _).mp hc3_1)).1) kont) ?_
    show Go p e s below _ _ _ s₁ (mkF m 6 #[.val (.long x), .second, .val (.long y), .second] [])
    refine Go.st (fun _ kont => XS.lloadN X0.here hx rfl (hb hby d2_6) rfl kont) ?_
    show Go p e s below _ _ _ s₁ (mkF m 7 #[.val (.long x), .second, .val (.long y), .second] [(.long x)])
    refine Go.st (fun _ kont => XS.goto X0.here hx rfl (pc0 := 7) (pc' := 11) rfl (hb hby d2_7) (by decide) (by decide) kont) ?_
    show Go p e s below _ _ _ s₁ (mkF m 11 #[.val (.long x), .second, .val (.long y), .second] [(.long x)])
    exact Go.retJ X0 hx hlk hret (hb hby d2_11) (by decide) (by decide) ⟨by rw [hm.2 hc3_1], N0, e0⟩
theorem d5_0 : decode jdk_30_method_1_code 0 = .ok (.aload_n 0, 1) := by decide +kernel
theorem d5_1 : decode jdk_30_method_1_code 1 = .ok (.invokespecial 1, 3) := by decide +kernel
theorem d5_4 : decode jdk_30_method_1_code 4 = .ok (.return_, 1) := by decide +kernel
theorem ef_R (m : MethodId) (x0 : Addr) : entryFrame m #[(.ref x0)] 1 = mkF m 0 #[.val (.ref x0)] [] := by first | (simp [entryFrame, mkF, argsToLocals, Value.category]; done) | rfl
set_option maxRecDepth 65536 in
set_option maxHeartbeats 40000000 in
theorem rmR (l : Launch) (Z : State) (a0 : Array Value) (hw : ∀ d ∈ tables_1, d.before a0 Z = true) (ws : List Jvm.Cond) (b : Addr) (h0 : Heap) (n0 : Nat) :
    Meets l Z (⟨"java/lang/Record", "<init>", "()V"⟩ : MethodName) jdk_30_method_1_code 1 none ({ frames := 1, cells := 0, slots := 0, locals := 12 } : Room) ws #[(.ref b)] h0 (fun v h L => v = none ∧ Fr n0 L ∧ h = h0) := by
  refine Meets.of (plainFor_of_name (by first | (simp [plainName, overriddenIn]; done) | decide +kernel : plainName "java/lang/Record" = true)) ?_
  intro p e s m below meth c s₁ X0 hx hby hml hret hlk hnm hZ hown e0
  replace hown : s.vm.findClass "java/lang/Record" = some m.cls := hown
  have N0 := Fr.nil n0
  refine Go.cast (ef_R m b) ?_
  show Go p e s below _ _ _ s₁ (mkF m 0 #[.val (.ref b)] [])
  refine Go.st (fun _ kont => XS.aloadN X0.here hx rfl (hb hby d5_0) rfl rfl kont) ?_
  show Go p e s below _ _ _ s₁ (mkF m 1 #[.val (.ref b)] [(.ref b)])
  obtain ⟨T1, X1, e1, st1⟩ := initO X0 hx hZ hown (hw _ (List.mem_of_getElem? (i := 26) rfl)) (hw _ (List.mem_of_getElem? (i := 27) rfl)) (hw _ (List.mem_of_getElem? (i := 28) rfl)) e0 (g := (mkF m 1 #[.val (.ref b)] [(.ref b)])) rfl (by rw [hml]; rfl) rfl (hb hby d5_1) (by decide) (W := 0) (by show 2 * 0 + _ ≤ _; exact Nat.le_of_eq rfl) (by decide)
  refine Go.st st1 ?_
  show Go p e s below _ _ _ T1 (mkF m 4 #[.val (.ref b)] [])
  exact Go.retV X1 hx hlk hret (hb hby d5_4) (by decide) (by decide) ⟨rfl, N0, e1⟩
theorem d4_0 : decode prog_16_method_1_code 0 = .ok (.aload_n 0, 1) := by decide +kernel
theorem d4_1 : decode prog_16_method_1_code 1 = .ok (.invokespecial 1, 3) := by decide +kernel
theorem d4_4 : decode prog_16_method_1_code 4 = .ok (.aload_n 0, 1) := by decide +kernel
theorem d4_5 : decode prog_16_method_1_code 5 = .ok (.lload_n 1, 1) := by decide +kernel
theorem d4_6 : decode prog_16_method_1_code 6 = .ok (.putfield 7, 3) := by decide +kernel
theorem d4_9 : decode prog_16_method_1_code 9 = .ok (.aload_n 0, 1) := by decide +kernel
theorem d4_10 : decode prog_16_method_1_code 10 = .ok (.lload_n 3, 1) := by decide +kernel
theorem d4_11 : decode prog_16_method_1_code 11 = .ok (.putfield 13, 3) := by decide +kernel
theorem d4_14 : decode prog_16_method_1_code 14 = .ok (.aload_n 0, 1) := by decide +kernel
theorem d4_15 : decode prog_16_method_1_code 15 = .ok (.aload 5, 2) := by decide +kernel
theorem d4_17 : decode prog_16_method_1_code 17 = .ok (.putfield 16, 3) := by decide +kernel
theorem d4_20 : decode prog_16_method_1_code 20 = .ok (.aload_n 0, 1) := by decide +kernel
theorem d4_21 : decode prog_16_method_1_code 21 = .ok (.aload 6, 2) := by decide +kernel
theorem d4_23 : decode prog_16_method_1_code 23 = .ok (.putfield 20, 3) := by decide +kernel
theorem d4_26 : decode prog_16_method_1_code 26 = .ok (.return_, 1) := by decide +kernel
theorem ef_C (m : MethodId) (x0 : Addr) (x1 : Int64) (x2 : Int64) (x3 : Addr) (x4 : Addr) : entryFrame m #[(.ref x0), (.long x1), (.long x2), (.ref x3), (.ref x4)] 7 = mkF m 0 #[.val (.ref x0), .val (.long x1), .second, .val (.long x2), .second, .val (.ref x3), .val (.ref x4)] [] := by first | (simp [entryFrame, mkF, argsToLocals, Value.category]; done) | rfl
set_option maxRecDepth 65536 in
set_option maxHeartbeats 40000000 in
theorem rmC (l : Launch) (Z : State) (a0 : Array Value) (hw : ∀ d ∈ tables_1, d.before a0 Z = true) (ws : List Jvm.Cond) (b : Addr) (f g : Int64) (gv rc : Addr) (h0 : Heap) (n0 : Nat) (gb : n0 ≤ b) (E_b : Exa Z h0 b "com/example/ringward/ringward/moves/MovedRange") (F_first_b : Fld Z h0 b "com/example/ringward/ringward/moves/MovedRange" "first" "J" (.long (0 : Int64))) (F_last_b : Fld Z h0 b "com/example/ringward/ringward/moves/MovedRange" "last" "J" (.long (0 : Int64))) (F_giver_b : Fld Z h0 b "com/example/ringward/ringward/moves/MovedRange" "giver" "Ljava/lang/Object;" .null) (F_receiver_b : Fld Z h0 b "com/example/ringward/ringward/moves/MovedRange" "receiver" "Ljava/lang/Object;" .null)  :
    Meets l Z (⟨"com/example/ringward/ringward/moves/MovedRange", "<init>", "(JJLjava/lang/Object;Ljava/lang/Object;)V"⟩ : MethodName) prog_16_method_1_code 7 none ({ frames := 2, cells := 0, slots := 0, locals := 24 } : Room) ws #[(.ref b), (.long f), (.long g), (.ref gv), (.ref rc)] h0 (fun v h L => v = none ∧ Fr n0 L ∧ Keep h0 h [b] ∧ Fld Z h b "com/example/ringward/ringward/moves/MovedRange" "first" "J" (.long f) ∧ Fld Z h b "com/example/ringward/ringward/moves/MovedRange" "last" "J" (.long g) ∧ Fld Z h b "com/example/ringward/ringward/moves/MovedRange" "giver" "Ljava/lang/Object;" (.ref gv) ∧ Fld Z h b "com/example/ringward/ringward/moves/MovedRange" "receiver" "Ljava/lang/Object;" (.ref rc)) := by
  refine Meets.of (plainFor_of_name (by first | (simp [plainName, overriddenIn]; done) | decide +kernel : plainName "com/example/ringward/ringward/moves/MovedRange" = true)) ?_
  intro p e s m below meth c s₁ X0 hx hby hml hret hlk hnm hZ hown e0
  replace hown : s.vm.findClass "com/example/ringward/ringward/moves/MovedRange" = some m.cls := hown
  have N0 := Fr.nil n0
  have K0 := Keep.refl h0 [b]
  refine Go.cast (ef_C m b f g gv rc) ?_
  show Go p e s below _ _ _ s₁ (mkF m 0 #[.val (.ref b), .val (.long f), .second, .val (.long g), .second, .val (.ref gv), .val (.ref rc)] [])
  refine Go.st (fun _ kont => XS.aloadN X0.here hx rfl (hb hby d4_0) rfl rfl kont) ?_
  show Go p e s below _ _ _ s₁ (mkF m 1 #[.val (.ref b), .val (.long f), .second, .val (.long g), .second, .val (.ref gv), .val (.ref rc)] [(.ref b)])
  refine Go.callC (b := b) (W := 0) (argsL := []) (rest := []) X0 hx hZ (y := (⟨"java/lang/Record", "<init>", "()V"⟩ : MethodName)) rfl hown (hw _ (List.mem_of_getElem? (i := 21) rfl)) (hw _ (List.mem_of_getElem? (i := 22) rfl)) (hw _ (List.mem_of_getElem? (i := 24) rfl)) (hw _ (List.mem_of_getElem? (i := 25) rfl)) (rmR l Z a0 hw [] b h0 n0) e0 (by decide) (by decide) (by decide) (by decide) (by decide) (by rw [hml]; rfl) (lenOf pd___V rfl) (Nat.le_of_eq rfl) (hb hby d4_1) ?_
  intro T1 v1 L1 X1 hQ1
  obtain ⟨rfl, N1, E1⟩ := hQ1
  have M1 := Fr.app N0 N1
  show Go p e s below _ _ _ T1 (mkF m 4 #[.val (.ref b), .val (.long f), .second, .val (.long g), .second, .val (.ref gv), .val (.ref rc)] [])
  refine Go.st (fun _ kont => XS.aloadN X1.here hx rfl (hb hby d4_4) rfl rfl kont) ?_
  show Go p e s below _ _ _ T1 (mkF m 5 #[.val (.ref b), .val (.long f), .second, .val (.long g), .second, .val (.ref gv), .val (.ref rc)] [(.ref b)])
  refine Go.st (fun _ kont => XS.lloadN X1.here hx rfl (hb hby d4_5) rfl kont) ?_
  show Go p e s below _ _ _ T1 (mkF m 6 #[.val (.ref b), .val (.long f), .second, .val (.long g), .second, .val (.ref gv), .val (.ref rc)] [(.long f), (.ref b)])
  obtain ⟨T2, h2, X2, e2, W2, st2⟩ := putF X1 hx hZ hown (host := "") (Or.inl (hw _ (List.mem_of_getElem? (i := 29) rfl))) Via.refl E1 F_first_b E_b (Or.inr ⟨(hw _ (List.mem_of_getElem? (i := 30) rfl)), rfl, hnm⟩) (hw _ (List.mem_of_getElem? (i := 9) rfl)) (ty := .long) (by decide) rfl rfl (g := (mkF m 6 #[.val (.ref b), .val (.long f), .second, .val (.long g), .second, .val (.ref gv), .val (.ref rc)] [(.long f), (.ref b)])) rfl rfl (hb hby d4_6)
  refine Go.st st2 ?_
  have F_first_b_2 : Fld Z h2 b "com/example/ringward/ringward/moves/MovedRange" "first" "J" (.long f) := F_first_b.same W2
  have K_2 : Keep h0 h2 [b] := K0.wr W2 (Or.inl (List.mem_singleton.mpr rfl))
  have E_b_2 := E_b.wr W2
  have F_last_b_2 := F_last_b.other W2 (Or.inr (slot_ne (Or.inr (hw _ (List.mem_of_getElem? (i := 32) rfl))) (Or.inr (hw _ (List.mem_of_getElem? (i := 30) rfl))) (by decide) (t := .long) (t' := .long) (by decide) (by decide)))
  have F_giver_b_2 := F_giver_b.other W2 (Or.inr (slot_ne (Or.inr (hw _ (List.mem_of_getElem? (i := 34) rfl))) (Or.inr (hw _ (List.mem_of_getElem? (i := 30) rfl))) (by decide) (t := (.object "java/lang/Object")) (t' := .long) (by decide) (by decide)))
  have F_receiver_b_2 := F_receiver_b.other W2 (Or.inr (slot_ne (Or.inr (hw _ (List.mem_of_getElem? (i := 36) rfl))) (Or.inr (hw _ (List.mem_of_getElem? (i := 30) rfl))) (by decide) (t := (.object "java/lang/Object")) (t' := .long) (by decide) (by decide)))
  have N2 := Fr.snoc X2 M1 gb
  show Go p e s below _ _ _ T2 (mkF m 9 #[.val (.ref b), .val (.long f), .second, .val (.long g), .second, .val (.ref gv), .val (.ref rc)] [])
  refine Go.st (fun _ kont => XS.aloadN X2.here hx rfl (hb hby d4_9) rfl rfl kont) ?_
  show Go p e s below _ _ _ T2 (mkF m 10 #[.val (.ref b), .val (.long f), .second, .val (.long g), .second, .val (.ref gv), .val (.ref rc)] [(.ref b)])
  refine Go.st (fun _ kont => XS.lloadN X2.here hx rfl (hb hby d4_10) rfl kont) ?_
  show Go p e s below _ _ _ T2 (mkF m 11 #[.val (.ref b), .val (.long f), .second, .val (.long g), .second, .val (.ref gv), .val (.ref rc)] [(.long g), (.ref b)])
  obtain ⟨T3, h3, X3, e3, W3, st3⟩ := putF X2 hx hZ hown (host := "") (Or.inl (hw _ (List.mem_of_getElem? (i := 31) rfl))) Via.refl e2 F_last_b_2 E_b_2 (Or.inr ⟨(hw _ (List.mem_of_getElem? (i := 32) rfl)), rfl, hnm⟩) (hw _ (List.mem_of_getElem? (i := 9) rfl)) (ty := .long) (by decide) rfl rfl (g := (mkF m 11 #[.val (.ref b), .val (.long f), .second, .val (.long g), .second, .val (.ref gv), .val (.ref rc)] [(.long g), (.ref b)])) rfl rfl (hb hby d4_11)
  refine Go.st st3 ?_
  have F_last_b_3 : Fld Z h3 b "com/example/ringward/ringward/moves/MovedRange" "last" "J" (.long g) := F_last_b_2.same W3
  have K_3 : Keep h0 h3 [b] := K_2.wr W3 (Or.inl (List.mem_singleton.mpr rfl))
  have E_b_3 := E_b_2.wr W3
  have F_first_b_3 := F_first_b_2.other W3 (Or.inr (slot_ne (Or.inr (hw _ (List.mem_of_getElem? (i := 30) rfl))) (Or.inr (hw _ (List.mem_of_getElem? (i := 32) rfl))) (by decide) (t := .long) (t' := .long) (by decide) (by decide)))
  have F_giver_b_3 := F_giver_b_2.other W3 (Or.inr (slot_ne (Or.inr (hw _ (List.mem_of_getElem? (i := 34) rfl))) (Or.inr (hw _ (List.mem_of_getElem? (i := 32) rfl))) (by decide) (t := (.object "java/lang/Object")) (t' := .long) (by decide) (by decide)))
  have F_receiver_b_3 := F_receiver_b_2.other W3 (Or.inr (slot_ne (Or.inr (hw _ (List.mem_of_getElem? (i := 36) rfl))) (Or.inr (hw _ (List.mem_of_getElem? (i := 32) rfl))) (by decide) (t := (.object "java/lang/Object")) (t' := .long) (by decide) (by decide)))
  have N3 := Fr.snoc X3 N2 gb
  show Go p e s below _ _ _ T3 (mkF m 14 #[.val (.ref b), .val (.long f), .second, .val (.long g), .second, .val (.ref gv), .val (.ref rc)] [])
  refine Go.st (fun _ kont => XS.aloadN X3.here hx rfl (hb hby d4_14) rfl rfl kont) ?_
  show Go p e s below _ _ _ T3 (mkF m 15 #[.val (.ref b), .val (.long f), .second, .val (.long g), .second, .val (.ref gv), .val (.ref rc)] [(.ref b)])
  refine Go.st (fun _ kont => XS.aload X3.here hx rfl (hb hby d4_15) rfl rfl kont) ?_
  show Go p e s below _ _ _ T3 (mkF m 17 #[.val (.ref b), .val (.long f), .second, .val (.long g), .second, .val (.ref gv), .val (.ref rc)] [(.ref gv), (.ref b)])
  obtain ⟨T4, h4, X4, e4, W4, st4⟩ := putF X3 hx hZ hown (host := "") (Or.inl (hw _ (List.mem_of_getElem? (i := 33) rfl))) Via.refl e3 F_giver_b_3 E_b_3 (Or.inr ⟨(hw _ (List.mem_of_getElem? (i := 34) rfl)), rfl, hnm⟩) (hw _ (List.mem_of_getElem? (i := 9) rfl)) (ty := (.object "java/lang/Object")) (by decide) rfl rfl (g := (mkF m 17 #[.val (.ref b), .val (.long f), .second, .val (.long g), .second, .val (.ref gv), .val (.ref rc)] [(.ref gv), (.ref b)])) rfl rfl (hb hby d4_17)
  refine Go.st st4 ?_
  have F_giver_b_4 : Fld Z h4 b "com/example/ringward/ringward/moves/MovedRange" "giver" "Ljava/lang/Object;" (.ref gv) := F_giver_b_3.same W4
  have K_4 : Keep h0 h4 [b] := K_3.wr W4 (Or.inl (List.mem_singleton.mpr rfl))
  have E_b_4 := E_b_3.wr W4
  have F_first_b_4 := F_first_b_3.other W4 (Or.inr (slot_ne (Or.inr (hw _ (List.mem_of_getElem? (i := 30) rfl))) (Or.inr (hw _ (List.mem_of_getElem? (i := 34) rfl))) (by decide) (t := .long) (t' := (.object "java/lang/Object")) (by decide) (by decide)))
  have F_last_b_4 := F_last_b_3.other W4 (Or.inr (slot_ne (Or.inr (hw _ (List.mem_of_getElem? (i := 32) rfl))) (Or.inr (hw _ (List.mem_of_getElem? (i := 34) rfl))) (by decide) (t := .long) (t' := (.object "java/lang/Object")) (by decide) (by decide)))
  have F_receiver_b_4 := F_receiver_b_3.other W4 (Or.inr (slot_ne (Or.inr (hw _ (List.mem_of_getElem? (i := 36) rfl))) (Or.inr (hw _ (List.mem_of_getElem? (i := 34) rfl))) (by decide) (t := (.object "java/lang/Object")) (t' := (.object "java/lang/Object")) (by decide) (by decide)))
  have N4 := Fr.snoc X4 N3 gb
  show Go p e s below _ _ _ T4 (mkF m 20 #[.val (.ref b), .val (.long f), .second, .val (.long g), .second, .val (.ref gv), .val (.ref rc)] [])
  refine Go.st (fun _ kont => XS.aloadN X4.here hx rfl (hb hby d4_20) rfl rfl kont) ?_
  show Go p e s below _ _ _ T4 (mkF m 21 #[.val (.ref b), .val (.long f), .second, .val (.long g), .second, .val (.ref gv), .val (.ref rc)] [(.ref b)])
  refine Go.st (fun _ kont => XS.aload X4.here hx rfl (hb hby d4_21) rfl rfl kont) ?_
  show Go p e s below _ _ _ T4 (mkF m 23 #[.val (.ref b), .val (.long f), .second, .val (.long g), .second, .val (.ref gv), .val (.ref rc)] [(.ref rc), (.ref b)])
  obtain ⟨T5, h5, X5, e5, W5, st5⟩ := putF X4 hx hZ hown (host := "") (Or.inl (hw _ (List.mem_of_getElem? (i := 35) rfl))) Via.refl e4 F_receiver_b_4 E_b_4 (Or.inr ⟨(hw _ (List.mem_of_getElem? (i := 36) rfl)), rfl, hnm⟩) (hw _ (List.mem_of_getElem? (i := 9) rfl)) (ty := (.object "java/lang/Object")) (by decide) rfl rfl (g := (mkF m 23 #[.val (.ref b), .val (.long f), .second, .val (.long g), .second, .val (.ref gv), .val (.ref rc)] [(.ref rc), (.ref b)])) rfl rfl (hb hby d4_23)
  refine Go.st st5 ?_
  have F_receiver_b_5 : Fld Z h5 b "com/example/ringward/ringward/moves/MovedRange" "receiver" "Ljava/lang/Object;" (.ref rc) := F_receiver_b_4.same W5
  have K_5 : Keep h0 h5 [b] := K_4.wr W5 (Or.inl (List.mem_singleton.mpr rfl))
  have E_b_5 := E_b_4.wr W5
  have F_first_b_5 := F_first_b_4.other W5 (Or.inr (slot_ne (Or.inr (hw _ (List.mem_of_getElem? (i := 30) rfl))) (Or.inr (hw _ (List.mem_of_getElem? (i := 36) rfl))) (by decide) (t := .long) (t' := (.object "java/lang/Object")) (by decide) (by decide)))
  have F_last_b_5 := F_last_b_4.other W5 (Or.inr (slot_ne (Or.inr (hw _ (List.mem_of_getElem? (i := 32) rfl))) (Or.inr (hw _ (List.mem_of_getElem? (i := 36) rfl))) (by decide) (t := .long) (t' := (.object "java/lang/Object")) (by decide) (by decide)))
  have F_giver_b_5 := F_giver_b_4.other W5 (Or.inr (slot_ne (Or.inr (hw _ (List.mem_of_getElem? (i := 34) rfl))) (Or.inr (hw _ (List.mem_of_getElem? (i := 36) rfl))) (by decide) (t := (.object "java/lang/Object")) (t' := (.object "java/lang/Object")) (by decide) (by decide)))
  have N5 := Fr.snoc X5 N4 gb
  show Go p e s below _ _ _ T5 (mkF m 26 #[.val (.ref b), .val (.long f), .second, .val (.long g), .second, .val (.ref gv), .val (.ref rc)] [])
  exact Go.retV X5 hx hlk hret (hb hby d4_26) (by decide) (by decide) ⟨rfl, N5, (by rw [e5]; exact K_5), (by rw [e5]; exact F_first_b_5), (by rw [e5]; exact F_last_b_5), (by rw [e5]; exact F_giver_b_5), (by rw [e5]; exact F_receiver_b_5)⟩
theorem d7_0 : decode prog_16_method_2_code 0 = .ok (.aload_n 0, 1) := by decide +kernel
theorem d7_1 : decode prog_16_method_2_code 1 = .ok (.getfield 13, 3) := by decide +kernel
theorem d7_4 : decode prog_16_method_2_code 4 = .ok (.aload_n 0, 1) := by decide +kernel
theorem d7_5 : decode prog_16_method_2_code 5 = .ok (.getfield 7, 3) := by decide +kernel
theorem d7_8 : decode prog_16_method_2_code 8 = .ok (.lsub, 1) := by decide +kernel
theorem d7_9 : decode prog_16_method_2_code 9 = .ok (.lconst 1, 1) := by decide +kernel
theorem d7_10 : decode prog_16_method_2_code 10 = .ok (.ladd, 1) := by decide +kernel
theorem d7_11 : decode prog_16_method_2_code 11 = .ok (.lreturn, 1) := by decide +kernel
theorem ef_P (m : MethodId) (x0 : Addr) : entryFrame m #[(.ref x0)] 1 = mkF m 0 #[.val (.ref x0)] [] := by first | (simp [entryFrame, mkF, argsToLocals, Value.category]; done) | rfl
set_option maxRecDepth 65536 in
set_option maxHeartbeats 40000000 in
theorem rmP (l : Launch) (Z : State) (a0 : Array Value) (hw : ∀ d ∈ tables_1, d.before a0 Z = true) (ws : List Jvm.Cond) (b : Addr) (f g : Int64) (h0 : Heap) (n0 : Nat) (F1 : Fld Z h0 b "com/example/ringward/ringward/moves/MovedRange" "first" "J" (.long f)) (F2 : Fld Z h0 b "com/example/ringward/ringward/moves/MovedRange" "last" "J" (.long g)) :
    Meets l Z (⟨"com/example/ringward/ringward/moves/MovedRange", "positionCount", "()J"⟩ : MethodName) prog_16_method_2_code 1 (some .long) ({ frames := 0, cells := 0, slots := 0, locals := 0 } : Room) ws #[(.ref b)] h0 (fun v h L => v = some (.long ((g - f) + (1 : Int64))) ∧ Fr n0 L ∧ h = h0) := by
  refine Meets.of (plainFor_of_name (by first | (simp [plainName, overriddenIn]; done) | decide +kernel : plainName "com/example/ringward/ringward/moves/MovedRange" = true)) ?_
  intro p e s m below meth c s₁ X0 hx hby hml hret hlk hnm hZ hown e0
  replace hown : s.vm.findClass "com/example/ringward/ringward/moves/MovedRange" = some m.cls := hown
  have N0 := Fr.nil n0
  refine Go.cast (ef_P m b) ?_
  show Go p e s below _ _ _ s₁ (mkF m 0 #[.val (.ref b)] [])
  refine Go.st (fun _ kont => XS.aloadN X0.here hx rfl (hb hby d7_0) rfl rfl kont) ?_
  show Go p e s below _ _ _ s₁ (mkF m 1 #[.val (.ref b)] [(.ref b)])
  obtain ⟨T1, X1, e1, st1⟩ := getF X0 hx hZ hown (host := "") (Or.inl (hw _ (List.mem_of_getElem? (i := 31) rfl))) Via.refl e0 F2 (g := (mkF m 1 #[.val (.ref b)] [(.ref b)])) rfl rfl (hb hby d7_1)
  refine Go.st st1 ?_
  show Go p e s below _ _ _ T1 (mkF m 4 #[.val (.ref b)] [(.long g)])
  refine Go.st (fun _ kont => XS.aloadN X1.here hx rfl (hb hby d7_4) rfl rfl kont) ?_
  show Go p e s below _ _ _ T1 (mkF m 5 #[.val (.ref b)] [(.ref b), (.long g)])
  obtain ⟨T2, X2, e2, st2⟩ := getF X1 hx hZ hown (host := "") (Or.inl (hw _ (List.mem_of_getElem? (i := 29) rfl))) Via.refl e1 F1 (g := (mkF m 5 #[.val (.ref b)] [(.ref b), (.long g)])) rfl rfl (hb hby d7_5)
  refine Go.st st2 ?_
  show Go p e s below _ _ _ T2 (mkF m 8 #[.val (.ref b)] [(.long f), (.long g)])
  refine Go.st (fun _ kont => XS.lsub X2.here hx rfl (hb hby d7_8) rfl kont) ?_
  show Go p e s below _ _ _ T2 (mkF m 9 #[.val (.ref b)] [(.long (g - f))])
  refine Go.st (fun _ kont => XT.lconstV X2.here hx rfl (1 : Int64) (hb hby d7_9) (by decide) kont) ?_
  show Go p e s below _ _ _ T2 (mkF m 10 #[.val (.ref b)] [(.long (1 : Int64)), (.long (g - f))])
  refine Go.st (fun _ kont => XS.ladd X2.here hx rfl (hb hby d7_10) rfl kont) ?_
  show Go p e s below _ _ _ T2 (mkF m 11 #[.val (.ref b)] [(.long ((g - f) + (1 : Int64)))])
  exact Go.retJ X2 hx hlk hret (hb hby d7_11) (by decide) (by decide) ⟨rfl, N0, e2⟩
theorem pd__JJ_J : parseMethodDescriptor "(JJ)J" = some ⟨[.long, .long], some .long⟩ := by decide +kernel
theorem pd__I_Ljava_lang_Integer_ : parseMethodDescriptor "(I)Ljava/lang/Integer;" = some ⟨[.int], some (.object "java/lang/Integer")⟩ := by decide +kernel
theorem pd__JJLjava_lang_Object_Ljava_lang_Object__V : parseMethodDescriptor "(JJLjava/lang/Object;Ljava/lang/Object;)V" = some ⟨[.long, .long, (.object "java/lang/Object"), (.object "java/lang/Object")], none⟩ := by decide +kernel
theorem pd___J : parseMethodDescriptor "()J" = some ⟨[], some .long⟩ := by decide +kernel
theorem ef_0 (m : MethodId) (x0 : Int64) (x1 : Int64) (x2 : Int32) : entryFrame m #[(.long x0), (.long x1), (.int x2)] maxLocals = mkF m 0 #[.val (.long x0), .second, .val (.long x1), .second, .val (.int x2), .unset, .unset, .unset, .unset, .unset, .unset, .unset, .unset, .unset, .unset, .unset] [] := by first | (simp [entryFrame, mkF, argsToLocals, Value.category, maxLocals]; done) | rfl
set_option maxRecDepth 65536 in
set_option maxHeartbeats 40000000 in
theorem rm0 (l : Launch) (Z : State) (a0 : Array Value) (hw : ∀ d ∈ tables_1, d.before a0 Z = true) (ws : List Jvm.Cond) (p0 p1 : Int64) (p2 : Int32) (h0 : Heap) (n0 : Nat) (Z0 : n0 ≤ h0.size) (ca : Addr) (cl : Cell) (SH : Sta Z h0 "java/lang/Integer$IntegerCache" "high" "I" (.int 127)) (SC : Sta Z h0 "java/lang/Integer$IntegerCache" "cache" "[Ljava/lang/Integer;" (.ref ca)) (B : Bxs Z ca cl "java/lang/Integer" "I" 256 (fun j => .int (j - 128))) (EZ : Ext Z.heap h0) :
    Meets l Z x code maxLocals ret room_1 ws #[(.long p0), (.long p1), (.int p2)] h0 (fun v h L => v = some (.int 1) ∧ Fr n0 L) := by
  refine Meets.of (plainFor_of_name (by first | (simp [plainName, overriddenIn]; done) | decide +kernel : plainName "com/example/ringward/ringward/moves/MovedRangePositionCountPinLaw" = true)) ?_
  intro p e s m below meth c s₁ X0 hx hby hml hret hlk hnm hZ hown e0
  replace hown : s.vm.findClass "com/example/ringward/ringward/moves/MovedRangePositionCountPinLaw" = some m.cls := hown
  have N0 := Fr.nil n0
  have Q0 := own_extR h0
  refine Go.cast (ef_0 m p0 p1 p2) ?_
  show Go p e s below _ _ _ s₁ (mkF m 0 #[.val (.long p0), .second, .val (.long p1), .second, .val (.int p2), .unset, .unset, .unset, .unset, .unset, .unset, .unset, .unset, .unset, .unset, .unset] [])
  refine Go.st (fun _ kont => XS.lloadN X0.here hx rfl (hb hby at_0) rfl kont) ?_
  show Go p e s below _ _ _ s₁ (mkF m 1 #[.val (.long p0), .second, .val (.long p1), .second, .val (.int p2), .unset, .unset, .unset, .unset, .unset, .unset, .unset, .unset, .unset, .unset, .unset] [(.long p0)])
  refine Go.st (X0.ldc2Long hx hown (mvT hZ (hw _ (List.mem_of_getElem? (i := 0) rfl))) (g := (mkF m 1 #[.val (.long p0), .second, .val (.long p1), .second, .val (.int p2), .unset, .unset, .unset, .unset, .unset, .unset, .unset, .unset, .unset, .unset, .unset] [(.long p0)])) rfl (hb hby at_1)) ?_
  show Go p e s below _ _ _ s₁ (mkF m 4 #[.val (.long p0), .second, .val (.long p1), .second, .val (.int p2), .unset, .unset, .unset, .unset, .unset, .unset, .unset, .unset, .unset, .unset, .unset] [(.long (4294967295 : Int64)), (.long p0)])
  refine Go.st (fun _ kont => XS.land X0.here hx rfl (hb hby at_4) rfl kont) ?_
  show Go p e s below _ _ _ s₁ (mkF m 5 #[.val (.long p0), .second, .val (.long p1), .second, .val (.int p2), .unset, .unset, .unset, .unset, .unset, .unset, .unset, .unset, .unset, .unset, .unset] [(.long (p0 &&& (4294967295 : Int64)))])
  refine Go.st (fun _ kont => XS.lstore X0.here hx rfl (hb hby at_5) rfl (l' := #[.val (.long p0), .second, .val (.long p1), .second, .val (.int p2), .val (.long (p0 &&& (4294967295 : Int64))), .second, .unset, .unset, .unset, .unset, .unset, .unset, .unset, .unset, .unset]) rfl kont) ?_
  show Go p e s below _ _ _ s₁ (mkF m 7 #[.val (.long p0), .second, .val (.long p1), .second, .val (.int p2), .val (.long (p0 &&& (4294967295 : Int64))), .second, .unset, .unset, .unset, .unset, .unset, .unset, .unset, .unset, .unset] [])
  refine Go.st (fun _ kont => XS.lloadN X0.here hx rfl (hb hby at_7) rfl kont) ?_
  show Go p e s below _ _ _ s₁ (mkF m 8 #[.val (.long p0), .second, .val (.long p1), .second, .val (.int p2), .val (.long (p0 &&& (4294967295 : Int64))), .second, .unset, .unset, .unset, .unset, .unset, .unset, .unset, .unset, .unset] [(.long p1)])
  refine Go.st (X0.ldc2Long hx hown (mvT hZ (hw _ (List.mem_of_getElem? (i := 0) rfl))) (g := (mkF m 8 #[.val (.long p0), .second, .val (.long p1), .second, .val (.int p2), .val (.long (p0 &&& (4294967295 : Int64))), .second, .unset, .unset, .unset, .unset, .unset, .unset, .unset, .unset, .unset] [(.long p1)])) rfl (hb hby at_8)) ?_
  show Go p e s below _ _ _ s₁ (mkF m 11 #[.val (.long p0), .second, .val (.long p1), .second, .val (.int p2), .val (.long (p0 &&& (4294967295 : Int64))), .second, .unset, .unset, .unset, .unset, .unset, .unset, .unset, .unset, .unset] [(.long (4294967295 : Int64)), (.long p1)])
  refine Go.st (fun _ kont => XS.land X0.here hx rfl (hb hby at_11) rfl kont) ?_
  show Go p e s below _ _ _ s₁ (mkF m 12 #[.val (.long p0), .second, .val (.long p1), .second, .val (.int p2), .val (.long (p0 &&& (4294967295 : Int64))), .second, .unset, .unset, .unset, .unset, .unset, .unset, .unset, .unset, .unset] [(.long (p1 &&& (4294967295 : Int64)))])
  refine Go.st (fun _ kont => XS.lstore X0.here hx rfl (hb hby at_12) rfl (l' := #[.val (.long p0), .second, .val (.long p1), .second, .val (.int p2), .val (.long (p0 &&& (4294967295 : Int64))), .second, .val (.long (p1 &&& (4294967295 : Int64))), .second, .unset, .unset, .unset, .unset, .unset, .unset, .unset]) rfl kont) ?_
  show Go p e s below _ _ _ s₁ (mkF m 14 #[.val (.long p0), .second, .val (.long p1), .second, .val (.int p2), .val (.long (p0 &&& (4294967295 : Int64))), .second, .val (.long (p1 &&& (4294967295 : Int64))), .second, .unset, .unset, .unset, .unset, .unset, .unset, .unset] [])
  obtain ⟨xa, hxa⟩ : ∃ z : Int64, z = (p0 &&& (4294967295 : Int64)) := ⟨_, rfl⟩
  rw [← hxa]
  show Go p e s below _ _ _ s₁ (mkF m 14 #[.val (.long p0), .second, .val (.long p1), .second, .val (.int p2), .val (.long xa), .second, .val (.long (p1 &&& (4294967295 : Int64))), .second, .unset, .unset, .unset, .unset, .unset, .unset, .unset] [])
  obtain ⟨ya, hya⟩ : ∃ z : Int64, z = (p1 &&& (4294967295 : Int64)) := ⟨_, rfl⟩
  rw [← hya]
  show Go p e s below _ _ _ s₁ (mkF m 14 #[.val (.long p0), .second, .val (.long p1), .second, .val (.int p2), .val (.long xa), .second, .val (.long ya), .second, .unset, .unset, .unset, .unset, .unset, .unset, .unset] [])
  refine Go.st (fun _ kont => XS.lload X0.here hx rfl (hb hby at_14) rfl kont) ?_
  show Go p e s below _ _ _ s₁ (mkF m 16 #[.val (.long p0), .second, .val (.long p1), .second, .val (.int p2), .val (.long xa), .second, .val (.long ya), .second, .unset, .unset, .unset, .unset, .unset, .unset, .unset] [(.long xa)])
  refine Go.st (fun _ kont => XS.lload X0.here hx rfl (hb hby at_16) rfl kont) ?_
  show Go p e s below _ _ _ s₁ (mkF m 18 #[.val (.long p0), .second, .val (.long p1), .second, .val (.int p2), .val (.long xa), .second, .val (.long ya), .second, .unset, .unset, .unset, .unset, .unset, .unset, .unset] [(.long ya), (.long xa)])
  refine Go.callS (W := 0) (argsL := [(.long xa), (.long ya)]) (rest := []) X0 hx hZ hown (y := (⟨"java/lang/Math", "min", "(JJ)J"⟩ : MethodName)) (hw _ (List.mem_of_getElem? (i := 1) rfl)) (hw _ (List.mem_of_getElem? (i := 2) rfl)) (hw _ (List.mem_of_getElem? (i := 3) rfl)) (hw _ (List.mem_of_getElem? (i := 4) rfl)) (rmMi l Z a0 hw [] xa ya (if ya < xa then ya else xa) h0 n0 ⟨fun q => if_pos q, fun q => if_neg q⟩) e0 (by decide) (by decide) (by decide) (by decide) (by decide) (by rw [hml]; rfl) (lenOf pd__JJ_J rfl) (Nat.le_of_eq rfl) (hb hby at_18) ?_
  intro T1 v1 L1 X1 hQ1
  obtain ⟨rfl, N1, E1⟩ := hQ1
  have M1 := Fr.app N0 N1
  show Go p e s below _ _ _ T1 (mkF m 21 #[.val (.long p0), .second, .val (.long p1), .second, .val (.int p2), .val (.long xa), .second, .val (.long ya), .second, .unset, .unset, .unset, .unset, .unset, .unset, .unset] [(.long (if ya < xa then ya else xa))])
  refine Go.st (fun _ kont => XS.lstore X1.here hx rfl (hb hby at_21) rfl (l' := #[.val (.long p0), .second, .val (.long p1), .second, .val (.int p2), .val (.long xa), .second, .val (.long ya), .second, .val (.long (if ya < xa then ya else xa)), .second, .unset, .unset, .unset, .unset, .unset]) rfl kont) ?_
  show Go p e s below _ _ _ T1 (mkF m 23 #[.val (.long p0), .second, .val (.long p1), .second, .val (.int p2), .val (.long xa), .second, .val (.long ya), .second, .val (.long (if ya < xa then ya else xa)), .second, .unset, .unset, .unset, .unset, .unset] [])
  obtain ⟨fst, hfst⟩ : ∃ z : Int64, z = (if ya < xa then ya else xa) := ⟨_, rfl⟩
  rw [← hfst]
  show Go p e s below _ _ _ T1 (mkF m 23 #[.val (.long p0), .second, .val (.long p1), .second, .val (.int p2), .val (.long xa), .second, .val (.long ya), .second, .val (.long fst), .second, .unset, .unset, .unset, .unset, .unset] [])
  refine Go.st (fun _ kont => XS.lload X1.here hx rfl (hb hby at_23) rfl kont) ?_
  show Go p e s below _ _ _ T1 (mkF m 25 #[.val (.long p0), .second, .val (.long p1), .second, .val (.int p2), .val (.long xa), .second, .val (.long ya), .second, .val (.long fst), .second, .unset, .unset, .unset, .unset, .unset] [(.long xa)])
  refine Go.st (fun _ kont => XS.lload X1.here hx rfl (hb hby at_25) rfl kont) ?_
  show Go p e s below _ _ _ T1 (mkF m 27 #[.val (.long p0), .second, .val (.long p1), .second, .val (.int p2), .val (.long xa), .second, .val (.long ya), .second, .val (.long fst), .second, .unset, .unset, .unset, .unset, .unset] [(.long ya), (.long xa)])
  refine Go.callS (W := 0) (argsL := [(.long xa), (.long ya)]) (rest := []) X1 hx hZ hown (y := (⟨"java/lang/Math", "max", "(JJ)J"⟩ : MethodName)) (hw _ (List.mem_of_getElem? (i := 5) rfl)) (hw _ (List.mem_of_getElem? (i := 6) rfl)) (hw _ (List.mem_of_getElem? (i := 3) rfl)) (hw _ (List.mem_of_getElem? (i := 7) rfl)) (rmMx l Z a0 hw [] xa ya (if xa < ya then ya else xa) h0 n0 ⟨fun q => if_pos q, fun q => if_neg q⟩) E1 (by decide) (by decide) (by decide) (by decide) (by decide) (by rw [hml]; rfl) (lenOf pd__JJ_J rfl) (Nat.le_of_eq rfl) (hb hby at_27) ?_
  intro T2 v2 L2 X2 hQ2
  obtain ⟨rfl, N2, E2⟩ := hQ2
  have M2 := Fr.app M1 N2
  show Go p e s below _ _ _ T2 (mkF m 30 #[.val (.long p0), .second, .val (.long p1), .second, .val (.int p2), .val (.long xa), .second, .val (.long ya), .second, .val (.long fst), .second, .unset, .unset, .unset, .unset, .unset] [(.long (if xa < ya then ya else xa))])
  refine Go.st (fun _ kont => XS.lstore X2.here hx rfl (hb hby at_30) rfl (l' := #[.val (.long p0), .second, .val (.long p1), .second, .val (.int p2), .val (.long xa), .second, .val (.long ya), .second, .val (.long fst), .second, .val (.long (if xa < ya then ya else xa)), .second, .unset, .unset, .unset]) rfl kont) ?_
  show Go p e s below _ _ _ T2 (mkF m 32 #[.val (.long p0), .second, .val (.long p1), .second, .val (.int p2), .val (.long xa), .second, .val (.long ya), .second, .val (.long fst), .second, .val (.long (if xa < ya then ya else xa)), .second, .unset, .unset, .unset] [])
  obtain ⟨lst, hlst⟩ : ∃ z : Int64, z = (if xa < ya then ya else xa) := ⟨_, rfl⟩
  rw [← hlst]
  show Go p e s below _ _ _ T2 (mkF m 32 #[.val (.long p0), .second, .val (.long p1), .second, .val (.int p2), .val (.long xa), .second, .val (.long ya), .second, .val (.long fst), .second, .val (.long lst), .second, .unset, .unset, .unset] [])
  have hm := own_mr hxa hya hfst hlst
  refine Go.st (fun _ kont => XS.iload X2.here hx rfl (hb hby at_32) rfl kont) ?_
  show Go p e s below _ _ _ T2 (mkF m 34 #[.val (.long p0), .second, .val (.long p1), .second, .val (.int p2), .val (.long xa), .second, .val (.long ya), .second, .val (.long fst), .second, .val (.long lst), .second, .unset, .unset, .unset] [(.int p2)])
  refine Go.st (fun _ kont => XT.iconstV X2.here hx rfl (1 : Int32) (hb hby at_34) (by decide) kont) ?_
  show Go p e s below _ _ _ T2 (mkF m 35 #[.val (.long p0), .second, .val (.long p1), .second, .val (.int p2), .val (.long xa), .second, .val (.long ya), .second, .val (.long fst), .second, .val (.long lst), .second, .unset, .unset, .unset] [(.int (1 : Int32)), (.int p2)])
  refine Go.st (fun _ kont => XS.iand X2.here hx rfl (hb hby at_35) rfl kont) ?_
  show Go p e s below _ _ _ T2 (mkF m 36 #[.val (.long p0), .second, .val (.long p1), .second, .val (.int p2), .val (.long xa), .second, .val (.long ya), .second, .val (.long fst), .second, .val (.long lst), .second, .unset, .unset, .unset] [(.int (p2 &&& (1 : Int32)))])
  by_cases hc36_3 : (p2 &&& (1 : Int32)) = (0 : Int32)
  · --
    refine Go.st (fun _ kont => XS.ifYes X2.here hx rfl (pc0 := 36) (pc' := 43) rfl (hb hby at_36) rfl ((if0 _ _).trans (teq hc36_3).1) (by decide) (by decide) kont) ?_
    show Go p e s below _ _ _ T2 (mkF m 43 #[.val (.long p0), .second, .val (.long p1), .second, .val (.int p2), .val (.long xa), .second, .val (.long ya), .second, .val (.long fst), .second, .val (.long lst), .second, .unset, .unset, .unset] [])
    have hm2 : 0 ≤ fst.toInt ∧ fst.toInt ≤ lst.toInt ∧ lst.toInt < 4294967296 := hm
    obtain ⟨T4, h4, X4, e4, E4, A4, D4, -, st4⟩ := newO X2 hx hZ hown (hw _ (List.mem_of_getElem? (i := 8) rfl)) (hw _ (List.mem_of_getElem? (i := 9) rfl)) (hw _ (List.mem_of_getElem? (i := 10) rfl)) E2 (g := (mkF m 43 #[.val (.long p0), .second, .val (.long p1), .second, .val (.int p2), .val (.long xa), .second, .val (.long ya), .second, .val (.long fst), .second, .val (.long lst), .second, .unset, .unset, .unset] [])) rfl (hb hby at_43) (by decide) (by decide)
    obtain ⟨b4, g4⟩ : ∃ z, z = h0.size := ⟨_, rfl⟩
    rw [← g4] at A4 D4 st4
    have sz4 : h0.size ≤ b4 := Nat.le_trans Q0.1 (Nat.le_of_eq g4.symm)
    have gn4 : n0 ≤ b4 := Nat.le_trans Z0 sz4
    refine Go.st st4 ?_
    have Q_4 : Ext h0 h4 := own_extE Q0 E4
    have F_first_b4 : Fld Z h4 b4 "com/example/ringward/ringward/moves/MovedRange" "first" "J" (.long (0 : Int64)) := D4 (Or.inr (hw _ (List.mem_of_getElem? (i := 30) rfl))) (ty := .long) (by decide)
    have F_last_b4 : Fld Z h4 b4 "com/example/ringward/ringward/moves/MovedRange" "last" "J" (.long (0 : Int64)) := D4 (Or.inr (hw _ (List.mem_of_getElem? (i := 32) rfl))) (ty := .long) (by decide)
    have F_giver_b4 : Fld Z h4 b4 "com/example/ringward/ringward/moves/MovedRange" "giver" "Ljava/lang/Object;" .null := D4 (Or.inr (hw _ (List.mem_of_getElem? (i := 34) rfl))) (ty := (.object "java/lang/Object")) (by decide)
    have F_receiver_b4 : Fld Z h4 b4 "com/example/ringward/ringward/moves/MovedRange" "receiver" "Ljava/lang/Object;" .null := D4 (Or.inr (hw _ (List.mem_of_getElem? (i := 36) rfl))) (ty := (.object "java/lang/Object")) (by decide)
    show Go p e s below _ _ _ T4 (mkF m 46 #[.val (.long p0), .second, .val (.long p1), .second, .val (.int p2), .val (.long xa), .second, .val (.long ya), .second, .val (.long fst), .second, .val (.long lst), .second, .unset, .unset, .unset] [(.ref b4)])
    refine Go.st (fun _ kont => XS.dup X4.here hx rfl (hb hby at_46) rfl rfl kont) ?_
    show Go p e s below _ _ _ T4 (mkF m 47 #[.val (.long p0), .second, .val (.long p1), .second, .val (.int p2), .val (.long xa), .second, .val (.long ya), .second, .val (.long fst), .second, .val (.long lst), .second, .unset, .unset, .unset] [(.ref b4), (.ref b4)])
    refine Go.st (fun _ kont => XS.lload X4.here hx rfl (hb hby at_47) rfl kont) ?_
    show Go p e s below _ _ _ T4 (mkF m 49 #[.val (.long p0), .second, .val (.long p1), .second, .val (.int p2), .val (.long xa), .second, .val (.long ya), .second, .val (.long fst), .second, .val (.long lst), .second, .unset, .unset, .unset] [(.long fst), (.ref b4), (.ref b4)])
    refine Go.st (fun _ kont => XS.lload X4.here hx rfl (hb hby at_49) rfl kont) ?_
    show Go p e s below _ _ _ T4 (mkF m 51 #[.val (.long p0), .second, .val (.long p1), .second, .val (.int p2), .val (.long xa), .second, .val (.long ya), .second, .val (.long fst), .second, .val (.long lst), .second, .unset, .unset, .unset] [(.long lst), (.long fst), (.ref b4), (.ref b4)])
    refine Go.st (fun _ kont => XS.iload X4.here hx rfl (hb hby at_51) rfl kont) ?_
    show Go p e s below _ _ _ T4 (mkF m 53 #[.val (.long p0), .second, .val (.long p1), .second, .val (.int p2), .val (.long xa), .second, .val (.long ya), .second, .val (.long fst), .second, .val (.long lst), .second, .unset, .unset, .unset] [(.int p2), (.long lst), (.long fst), (.ref b4), (.ref b4)])
    refine Go.callS (W := 6) (argsL := [(.int p2)]) (rest := [(.long lst), (.long fst), (.ref b4), (.ref b4)]) X4 hx hZ hown (y := (⟨"java/lang/Integer", "valueOf", "(I)Ljava/lang/Integer;"⟩ : MethodName)) (hw _ (List.mem_of_getElem? (i := 11) rfl)) (hw _ (List.mem_of_getElem? (i := 12) rfl)) (hw _ (List.mem_of_getElem? (i := 13) rfl)) (hw _ (List.mem_of_getElem? (i := 14) rfl)) (rmV l Z a0 hw [] p2 h4 n0 (Nat.le_trans Z0 Q_4.1) ca cl (SH.ext Q_4) (SC.ext Q_4) B (own_extE EZ Q_4)) e4 (by decide) (by decide) (by decide) (by decide) (by decide) (by rw [hml]; rfl) (lenOf pd__I_Ljava_lang_Integer_ rfl) (Nat.le_of_eq rfl) (hb hby at_53) ?_
    intro T5 v5 L5 X5 hQ5
    obtain ⟨h5, e5⟩ : ∃ z, T5.heap = z := ⟨_, rfl⟩
    rw [e5] at hQ5
    obtain ⟨x5, rfl, N5, E5, A5, F5⟩ := hQ5
    have M5 := Fr.app M2 N5
    have Q_5 : Ext h0 h5 := own_extE Q_4 E5
    have E_b4_5 := A4.ext E5
    have F_first_b4_5 := F_first_b4.ext E5
    have F_last_b4_5 := F_last_b4.ext E5
    have F_giver_b4_5 := F_giver_b4.ext E5
    have F_receiver_b4_5 := F_receiver_b4.ext E5
    show Go p e s below _ _ _ T5 (mkF m 56 #[.val (.long p0), .second, .val (.long p1), .second, .val (.int p2), .val (.long xa), .second, .val (.long ya), .second, .val (.long fst), .second, .val (.long lst), .second, .unset, .unset, .unset] [(.ref x5), (.long lst), (.long fst), (.ref b4), (.ref b4)])
    refine Go.st (fun _ kont => XT.iconstV X5.here hx rfl (0 : Int32) (hb hby at_56) (by decide) kont) ?_
    show Go p e s below _ _ _ T5 (mkF m 57 #[.val (.long p0), .second, .val (.long p1), .second, .val (.int p2), .val (.long xa), .second, .val (.long ya), .second, .val (.long fst), .second, .val (.long lst), .second, .unset, .unset, .unset] [(.int (0 : Int32)), (.ref x5), (.long lst), (.long fst), (.ref b4), (.ref b4)])
    refine Go.callS (W := 7) (argsL := [(.int (0 : Int32))]) (rest := [(.ref x5), (.long lst), (.long fst), (.ref b4), (.ref b4)]) X5 hx hZ hown (y := (⟨"java/lang/Integer", "valueOf", "(I)Ljava/lang/Integer;"⟩ : MethodName)) (hw _ (List.mem_of_getElem? (i := 11) rfl)) (hw _ (List.mem_of_getElem? (i := 12) rfl)) (hw _ (List.mem_of_getElem? (i := 13) rfl)) (hw _ (List.mem_of_getElem? (i := 14) rfl)) (rmV l Z a0 hw [] (0 : Int32) h5 n0 (Nat.le_trans Z0 Q_5.1) ca cl (SH.ext Q_5) (SC.ext Q_5) B (own_extE EZ Q_5)) e5 (by decide) (by decide) (by decide) (by decide) (by decide) (by rw [hml]; rfl) (lenOf pd__I_Ljava_lang_Integer_ rfl) (Nat.le_of_eq rfl) (hb hby at_57) ?_
    intro T6 v6 L6 X6 hQ6
    obtain ⟨h6, e6⟩ : ∃ z, T6.heap = z := ⟨_, rfl⟩
    rw [e6] at hQ6
    obtain ⟨x6, rfl, N6, E6, A6, F6⟩ := hQ6
    have M6 := Fr.app M5 N6
    have Q_6 : Ext h0 h6 := own_extE Q_5 E6
    have E_b4_6 := E_b4_5.ext E6
    have F_first_b4_6 := F_first_b4_5.ext E6
    have F_last_b4_6 := F_last_b4_5.ext E6
    have F_giver_b4_6 := F_giver_b4_5.ext E6
    have F_receiver_b4_6 := F_receiver_b4_5.ext E6
    have E_x5_6 := A5.ext E6
    show Go p e s below _ _ _ T6 (mkF m 60 #[.val (.long p0), .second, .val (.long p1), .second, .val (.int p2), .val (.long xa), .second, .val (.long ya), .second, .val (.long fst), .second, .val (.long lst), .second, .unset, .unset, .unset] [(.ref x6), (.ref x5), (.long lst), (.long fst), (.ref b4), (.ref b4)])
    refine Go.callC (b := b4) (W := 1) (argsL := [(.long fst), (.long lst), (.ref x5), (.ref x6)]) (rest := [(.ref b4)]) X6 hx hZ (y := (⟨"com/example/ringward/ringward/moves/MovedRange", "<init>", "(JJLjava/lang/Object;Ljava/lang/Object;)V"⟩ : MethodName)) rfl hown (hw _ (List.mem_of_getElem? (i := 18) rfl)) (hw _ (List.mem_of_getElem? (i := 19) rfl)) (hw _ (List.mem_of_getElem? (i := 10) rfl)) (hw _ (List.mem_of_getElem? (i := 20) rfl)) (rmC l Z a0 hw [] b4 fst lst x5 x6 h6 n0 gn4 E_b4_6 F_first_b4_6 F_last_b4_6 F_giver_b4_6 F_receiver_b4_6) e6 (by decide) (by decide) (by decide) (by decide) (by decide) (by rw [hml]; rfl) (lenOf pd__JJLjava_lang_Object_Ljava_lang_Object__V rfl) (Nat.le_of_eq rfl) (hb hby at_60) ?_
    intro T7 v7 L7 X7 hQ7
    obtain ⟨h7, e7⟩ : ∃ z, T7.heap = z := ⟨_, rfl⟩
    rw [e7] at hQ7
    obtain ⟨rfl, N7, K7, F_first_b4_7, F_last_b4_7, F_giver_b4_7, F_receiver_b4_7⟩ := hQ7
    have M7 := Fr.app M6 N7
    have Q_7 : Ext h0 h7 := own_extK Q_6 K7 (allS sz4 all0)
    have E_b4_7 := E_b4_6.keep K7
    have E_x5_7 := E_x5_6.keep K7
    have E_x6_7 := A6.keep K7
    show Go p e s below _ _ _ T7 (mkF m 63 #[.val (.long p0), .second, .val (.long p1), .second, .val (.int p2), .val (.long xa), .second, .val (.long ya), .second, .val (.long fst), .second, .val (.long lst), .second, .unset, .unset, .unset] [(.ref b4)])
    refine Go.st (fun _ kont => XS.astore X7.here hx rfl (hb hby at_63) rfl rfl (l' := #[.val (.long p0), .second, .val (.long p1), .second, .val (.int p2), .val (.long xa), .second, .val (.long ya), .second, .val (.long fst), .second, .val (.long lst), .second, .val (.ref b4), .unset, .unset]) rfl kont) ?_
    show Go p e s below _ _ _ T7 (mkF m 65 #[.val (.long p0), .second, .val (.long p1), .second, .val (.int p2), .val (.long xa), .second, .val (.long ya), .second, .val (.long fst), .second, .val (.long lst), .second, .val (.ref b4), .unset, .unset] [])
    refine Go.st (fun _ kont => XS.aload X7.here hx rfl (hb hby at_65) rfl rfl kont) ?_
    show Go p e s below _ _ _ T7 (mkF m 67 #[.val (.long p0), .second, .val (.long p1), .second, .val (.int p2), .val (.long xa), .second, .val (.long ya), .second, .val (.long fst), .second, .val (.long lst), .second, .val (.ref b4), .unset, .unset] [(.ref b4)])
    refine Go.callV (b := b4) (W := 0) (argsL := []) (rest := []) X7 hx hZ hown (y := (⟨"com/example/ringward/ringward/moves/MovedRange", "positionCount", "()J"⟩ : MethodName)) (z := (⟨"com/example/ringward/ringward/moves/MovedRange", "positionCount", "()J"⟩ : MethodName)) (hw _ (List.mem_of_getElem? (i := 37) rfl)) (hw _ (List.mem_of_getElem? (i := 38) rfl)) (notFace_of_selects (args := #[]) (mvT hZ (hw _ (List.mem_of_getElem? (i := 40) rfl)))) (hw _ (List.mem_of_getElem? (i := 40) rfl)) (hw _ (List.mem_of_getElem? (i := 39) rfl)) (hw _ (List.mem_of_getElem? (i := 10) rfl)) (hw _ (List.mem_of_getElem? (i := 41) rfl)) (rmP l Z a0 hw [] b4 fst lst h7 n0 F_first_b4_7 F_last_b4_7) e7 E_b4_7 (by decide) (by decide) (by decide) (by decide) (by decide) (by rw [hml]; rfl) (lenOf pd___J rfl) (Nat.le_of_eq rfl) (hb hby at_67) ?_
    intro T8 v8 L8 X8 hQ8
    obtain ⟨rfl, N8, E8⟩ := hQ8
    have M8 := Fr.app M7 N8
    show Go p e s below _ _ _ T8 (mkF m 70 #[.val (.long p0), .second, .val (.long p1), .second, .val (.int p2), .val (.long xa), .second, .val (.long ya), .second, .val (.long fst), .second, .val (.long lst), .second, .val (.ref b4), .unset, .unset] [(.long ((lst - fst) + (1 : Int64)))])
    refine Go.st (fun _ kont => XS.lstore X8.here hx rfl (hb hby at_70) rfl (l' := #[.val (.long p0), .second, .val (.long p1), .second, .val (.int p2), .val (.long xa), .second, .val (.long ya), .second, .val (.long fst), .second, .val (.long lst), .second, .val (.ref b4), .val (.long ((lst - fst) + (1 : Int64))), .second]) rfl kont) ?_
    show Go p e s below _ _ _ T8 (mkF m 72 #[.val (.long p0), .second, .val (.long p1), .second, .val (.int p2), .val (.long xa), .second, .val (.long ya), .second, .val (.long fst), .second, .val (.long lst), .second, .val (.ref b4), .val (.long ((lst - fst) + (1 : Int64))), .second] [])
    obtain ⟨cc, hcc⟩ : ∃ z : Int64, z = ((lst - fst) + (1 : Int64)) := ⟨_, rfl⟩
    rw [← hcc]
    show Go p e s below _ _ _ T8 (mkF m 72 #[.val (.long p0), .second, .val (.long p1), .second, .val (.int p2), .val (.long xa), .second, .val (.long ya), .second, .val (.long fst), .second, .val (.long lst), .second, .val (.ref b4), .val (.long cc), .second] [])
    have hk := own_pc hm2 hcc
    refine Go.st (fun _ kont => XS.lload X8.here hx rfl (hb hby at_72) rfl kont) ?_
    show Go p e s below _ _ _ T8 (mkF m 74 #[.val (.long p0), .second, .val (.long p1), .second, .val (.int p2), .val (.long xa), .second, .val (.long ya), .second, .val (.long fst), .second, .val (.long lst), .second, .val (.ref b4), .val (.long cc), .second] [(.long cc)])
    refine Go.st (fun _ kont => XT.lconstV X8.here hx rfl (1 : Int64) (hb hby at_74) (by decide) kont) ?_
    show Go p e s below _ _ _ T8 (mkF m 75 #[.val (.long p0), .second, .val (.long p1), .second, .val (.int p2), .val (.long xa), .second, .val (.long ya), .second, .val (.long fst), .second, .val (.long lst), .second, .val (.ref b4), .val (.long cc), .second] [(.long (1 : Int64)), (.long cc)])
    refine Go.st (fun _ kont => XS.lcmp X8.here hx rfl (hb hby at_75) rfl kont) ?_
    show Go p e s below _ _ _ T8 (mkF m 76 #[.val (.long p0), .second, .val (.long p1), .second, .val (.int p2), .val (.long xa), .second, .val (.long ya), .second, .val (.long fst), .second, .val (.long lst), .second, .val (.ref b4), .val (.long cc), .second] [(.int (lcmpW cc (1 : Int64)))])
    refine Go.st (fun _ kont => XS.ifNo X8.here hx rfl (hb hby at_76) rfl ((if0 _ _).trans (flt (mt (lw_lt _ _).mp hk.1)).1) kont) ?_
    show Go p e s below _ _ _ T8 (mkF m 79 #[.val (.long p0), .second, .val (.long p1), .second, .val (.int p2), .val (.long xa), .second, .val (.long ya), .second, .val (.long fst), .second, .val (.long lst), .second, .val (.ref b4), .val (.long cc), .second] [])
    refine Go.st (fun _ kont => XS.lload X8.here hx rfl (hb hby at_79) rfl kont) ?_
    show Go p e s below _ _ _ T8 (mkF m 81 #[.val (.long p0), .second, .val (.long p1), .second, .val (.int p2), .val (.long xa), .second, .val (.long ya), .second, .val (.long fst), .second, .val (.long lst), .second, .val (.ref b4), .val (.long cc), .second] [(.long cc)])
    refine Go.st (X8.ldc2Long hx hown (mvT hZ (hw _ (List.mem_of_getElem? (i := 42) rfl))) (g := (mkF m 81 #[.val (.long p0), .second, .val (.long p1), .second, .val (.int p2), .val (.long xa), .second, .val (.long ya), .second, .val (.long fst), .second, .val (.long lst), .second, .val (.ref b4), .val (.long cc), .second] [(.long cc)])) rfl (hb hby at_81)) ?_
    show Go p e s below _ _ _ T8 (mkF m 84 #[.val (.long p0), .second, .val (.long p1), .second, .val (.int p2), .val (.long xa), .second, .val (.long ya), .second, .val (.long fst), .second, .val (.long lst), .second, .val (.ref b4), .val (.long cc), .second] [(.long (4294967296 : Int64)), (.long cc)])
    refine Go.st (fun _ kont => XS.lcmp X8.here hx rfl (hb hby at_84) rfl kont) ?_
    show Go p e s below _ _ _ T8 (mkF m 85 #[.val (.long p0), .second, .val (.long p1), .second, .val (.int p2), .val (.long xa), .second, .val (.long ya), .second, .val (.long fst), .second, .val (.long lst), .second, .val (.ref b4), .val (.long cc), .second] [(.int (lcmpW cc (4294967296 : Int64)))])
    refine Go.st (fun _ kont => XS.ifYes X8.here hx rfl (pc0 := 85) (pc' := 90) rfl (hb hby at_85) rfl ((if0 _ _).trans (flt (mt (lw_gt _ _).mp hk.2.1)).2.2.2) (by decide) (by decide) kont) ?_
    show Go p e s below _ _ _ T8 (mkF m 90 #[.val (.long p0), .second, .val (.long p1), .second, .val (.int p2), .val (.long xa), .second, .val (.long ya), .second, .val (.long fst), .second, .val (.long lst), .second, .val (.ref b4), .val (.long cc), .second] [])
    refine Go.st (fun _ kont => XS.lload X8.here hx rfl (hb hby at_90) rfl kont) ?_
    show Go p e s below _ _ _ T8 (mkF m 92 #[.val (.long p0), .second, .val (.long p1), .second, .val (.int p2), .val (.long xa), .second, .val (.long ya), .second, .val (.long fst), .second, .val (.long lst), .second, .val (.ref b4), .val (.long cc), .second] [(.long fst)])
    refine Go.st (fun _ kont => XS.lload X8.here hx rfl (hb hby at_92) rfl kont) ?_
    show Go p e s below _ _ _ T8 (mkF m 94 #[.val (.long p0), .second, .val (.long p1), .second, .val (.int p2), .val (.long xa), .second, .val (.long ya), .second, .val (.long fst), .second, .val (.long lst), .second, .val (.ref b4), .val (.long cc), .second] [(.long cc), (.long fst)])
    refine Go.st (fun _ kont => XS.ladd X8.here hx rfl (hb hby at_94) rfl kont) ?_
    show Go p e s below _ _ _ T8 (mkF m 95 #[.val (.long p0), .second, .val (.long p1), .second, .val (.int p2), .val (.long xa), .second, .val (.long ya), .second, .val (.long fst), .second, .val (.long lst), .second, .val (.ref b4), .val (.long cc), .second] [(.long (fst + cc))])
    refine Go.st (fun _ kont => XT.lconstV X8.here hx rfl (1 : Int64) (hb hby at_95) (by decide) kont) ?_
    show Go p e s below _ _ _ T8 (mkF m 96 #[.val (.long p0), .second, .val (.long p1), .second, .val (.int p2), .val (.long xa), .second, .val (.long ya), .second, .val (.long fst), .second, .val (.long lst), .second, .val (.ref b4), .val (.long cc), .second] [(.long (1 : Int64)), (.long (fst + cc))])
    refine Go.st (fun _ kont => XS.lsub X8.here hx rfl (hb hby at_96) rfl kont) ?_
    show Go p e s below _ _ _ T8 (mkF m 97 #[.val (.long p0), .second, .val (.long p1), .second, .val (.int p2), .val (.long xa), .second, .val (.long ya), .second, .val (.long fst), .second, .val (.long lst), .second, .val (.ref b4), .val (.long cc), .second] [(.long ((fst + cc) - (1 : Int64)))])
    refine Go.st (fun _ kont => XS.lload X8.here hx rfl (hb hby at_97) rfl kont) ?_
    show Go p e s below _ _ _ T8 (mkF m 99 #[.val (.long p0), .second, .val (.long p1), .second, .val (.int p2), .val (.long xa), .second, .val (.long ya), .second, .val (.long fst), .second, .val (.long lst), .second, .val (.ref b4), .val (.long cc), .second] [(.long lst), (.long ((fst + cc) - (1 : Int64)))])
    refine Go.st (fun _ kont => XS.lcmp X8.here hx rfl (hb hby at_99) rfl kont) ?_
    show Go p e s below _ _ _ T8 (mkF m 100 #[.val (.long p0), .second, .val (.long p1), .second, .val (.int p2), .val (.long xa), .second, .val (.long ya), .second, .val (.long fst), .second, .val (.long lst), .second, .val (.ref b4), .val (.long cc), .second] [(.int (lcmpW ((fst + cc) - (1 : Int64)) lst))])
    refine Go.st (fun _ kont => XS.ifNo X8.here hx rfl (hb hby at_100) rfl ((if0 _ _).trans (teq ((lw_eq _ _).mpr hk.2.2)).2) kont) ?_
    show Go p e s below _ _ _ T8 (mkF m 103 #[.val (.long p0), .second, .val (.long p1), .second, .val (.int p2), .val (.long xa), .second, .val (.long ya), .second, .val (.long fst), .second, .val (.long lst), .second, .val (.ref b4), .val (.long cc), .second] [])
    refine Go.st (fun _ kont => XT.iconstV X8.here hx rfl (1 : Int32) (hb hby at_103) (by decide) kont) ?_
    show Go p e s below _ _ _ T8 (mkF m 104 #[.val (.long p0), .second, .val (.long p1), .second, .val (.int p2), .val (.long xa), .second, .val (.long ya), .second, .val (.long fst), .second, .val (.long lst), .second, .val (.ref b4), .val (.long cc), .second] [(.int (1 : Int32))])
    refine Go.st (fun _ kont => XS.goto X8.here hx rfl (pc0 := 104) (pc' := 108) rfl (hb hby at_104) (by decide) (by decide) kont) ?_
    show Go p e s below _ _ _ T8 (mkF m 108 #[.val (.long p0), .second, .val (.long p1), .second, .val (.int p2), .val (.long xa), .second, .val (.long ya), .second, .val (.long fst), .second, .val (.long lst), .second, .val (.ref b4), .val (.long cc), .second] [(.int (1 : Int32))])
    exact Go.retN X8 hx hlk hret (by simp) (hb hby at_108) (by decide) (by decide) ⟨rfl, M8⟩
  · --
    refine Go.st (fun _ kont => XS.ifNo X2.here hx rfl (hb hby at_36) rfl ((if0 _ _).trans (feq hc36_3).1) kont) ?_
    show Go p e s below _ _ _ T2 (mkF m 39 #[.val (.long p0), .second, .val (.long p1), .second, .val (.int p2), .val (.long xa), .second, .val (.long ya), .second, .val (.long fst), .second, .val (.long lst), .second, .unset, .unset, .unset] [])
    refine Go.st (fun _ kont => XS.lload X2.here hx rfl (hb hby at_39) rfl kont) ?_
    show Go p e s below _ _ _ T2 (mkF m 41 #[.val (.long p0), .second, .val (.long p1), .second, .val (.int p2), .val (.long xa), .second, .val (.long ya), .second, .val (.long fst), .second, .val (.long lst), .second, .unset, .unset, .unset] [(.long fst)])
    refine Go.st (fun _ kont => XS.lstore X2.here hx rfl (hb hby at_41) rfl (l' := #[.val (.long p0), .second, .val (.long p1), .second, .val (.int p2), .val (.long xa), .second, .val (.long ya), .second, .val (.long fst), .second, .val (.long fst), .second, .unset, .unset, .unset]) rfl kont) ?_
    show Go p e s below _ _ _ T2 (mkF m 43 #[.val (.long p0), .second, .val (.long p1), .second, .val (.int p2), .val (.long xa), .second, .val (.long ya), .second, .val (.long fst), .second, .val (.long fst), .second, .unset, .unset, .unset] [])
    have hm2 : 0 ≤ fst.toInt ∧ fst.toInt ≤ fst.toInt ∧ fst.toInt < 4294967296 := ⟨hm.1, Int.le_refl _, by omega⟩
    obtain ⟨T9, h9, X9, e9, E9, A9, D9, -, st9⟩ := newO X2 hx hZ hown (hw _ (List.mem_of_getElem? (i := 8) rfl)) (hw _ (List.mem_of_getElem? (i := 9) rfl)) (hw _ (List.mem_of_getElem? (i := 10) rfl)) E2 (g := (mkF m 43 #[.val (.long p0), .second, .val (.long p1), .second, .val (.int p2), .val (.long xa), .second, .val (.long ya), .second, .val (.long fst), .second, .val (.long fst), .second, .unset, .unset, .unset] [])) rfl (hb hby at_43) (by decide) (by decide)
    obtain ⟨b9, g9⟩ : ∃ z, z = h0.size := ⟨_, rfl⟩
    rw [← g9] at A9 D9 st9
    have sz9 : h0.size ≤ b9 := Nat.le_trans Q0.1 (Nat.le_of_eq g9.symm)
    have gn9 : n0 ≤ b9 := Nat.le_trans Z0 sz9
    refine Go.st st9 ?_
    have Q_9 : Ext h0 h9 := own_extE Q0 E9
    have F_first_b9 : Fld Z h9 b9 "com/example/ringward/ringward/moves/MovedRange" "first" "J" (.long (0 : Int64)) := D9 (Or.inr (hw _ (List.mem_of_getElem? (i := 30) rfl))) (ty := .long) (by decide)
    have F_last_b9 : Fld Z h9 b9 "com/example/ringward/ringward/moves/MovedRange" "last" "J" (.long (0 : Int64)) := D9 (Or.inr (hw _ (List.mem_of_getElem? (i := 32) rfl))) (ty := .long) (by decide)
    have F_giver_b9 : Fld Z h9 b9 "com/example/ringward/ringward/moves/MovedRange" "giver" "Ljava/lang/Object;" .null := D9 (Or.inr (hw _ (List.mem_of_getElem? (i := 34) rfl))) (ty := (.object "java/lang/Object")) (by decide)
    have F_receiver_b9 : Fld Z h9 b9 "com/example/ringward/ringward/moves/MovedRange" "receiver" "Ljava/lang/Object;" .null := D9 (Or.inr (hw _ (List.mem_of_getElem? (i := 36) rfl))) (ty := (.object "java/lang/Object")) (by decide)
    show Go p e s below _ _ _ T9 (mkF m 46 #[.val (.long p0), .second, .val (.long p1), .second, .val (.int p2), .val (.long xa), .second, .val (.long ya), .second, .val (.long fst), .second, .val (.long fst), .second, .unset, .unset, .unset] [(.ref b9)])
    refine Go.st (fun _ kont => XS.dup X9.here hx rfl (hb hby at_46) rfl rfl kont) ?_
    show Go p e s below _ _ _ T9 (mkF m 47 #[.val (.long p0), .second, .val (.long p1), .second, .val (.int p2), .val (.long xa), .second, .val (.long ya), .second, .val (.long fst), .second, .val (.long fst), .second, .unset, .unset, .unset] [(.ref b9), (.ref b9)])
    refine Go.st (fun _ kont => XS.lload X9.here hx rfl (hb hby at_47) rfl kont) ?_
    show Go p e s below _ _ _ T9 (mkF m 49 #[.val (.long p0), .second, .val (.long p1), .second, .val (.int p2), .val (.long xa), .second, .val (.long ya), .second, .val (.long fst), .second, .val (.long fst), .second, .unset, .unset, .unset] [(.long fst), (.ref b9), (.ref b9)])
    refine Go.st (fun _ kont => XS.lload X9.here hx rfl (hb hby at_49) rfl kont) ?_
    show Go p e s below _ _ _ T9 (mkF m 51 #[.val (.long p0), .second, .val (.long p1), .second, .val (.int p2), .val (.long xa), .second, .val (.long ya), .second, .val (.long fst), .second, .val (.long fst), .second, .unset, .unset, .unset] [(.long fst), (.long fst), (.ref b9), (.ref b9)])
    refine Go.st (fun _ kont => XS.iload X9.here hx rfl (hb hby at_51) rfl kont) ?_
    show Go p e s below _ _ _ T9 (mkF m 53 #[.val (.long p0), .second, .val (.long p1), .second, .val (.int p2), .val (.long xa), .second, .val (.long ya), .second, .val (.long fst), .second, .val (.long fst), .second, .unset, .unset, .unset] [(.int p2), (.long fst), (.long fst), (.ref b9), (.ref b9)])
    refine Go.callS (W := 6) (argsL := [(.int p2)]) (rest := [(.long fst), (.long fst), (.ref b9), (.ref b9)]) X9 hx hZ hown (y := (⟨"java/lang/Integer", "valueOf", "(I)Ljava/lang/Integer;"⟩ : MethodName)) (hw _ (List.mem_of_getElem? (i := 11) rfl)) (hw _ (List.mem_of_getElem? (i := 12) rfl)) (hw _ (List.mem_of_getElem? (i := 13) rfl)) (hw _ (List.mem_of_getElem? (i := 14) rfl)) (rmV l Z a0 hw [] p2 h9 n0 (Nat.le_trans Z0 Q_9.1) ca cl (SH.ext Q_9) (SC.ext Q_9) B (own_extE EZ Q_9)) e9 (by decide) (by decide) (by decide) (by decide) (by decide) (by rw [hml]; rfl) (lenOf pd__I_Ljava_lang_Integer_ rfl) (Nat.le_of_eq rfl) (hb hby at_53) ?_
    intro T10 v10 L10 X10 hQ10
    obtain ⟨h10, e10⟩ : ∃ z, T10.heap = z := ⟨_, rfl⟩
    rw [e10] at hQ10
    obtain ⟨x10, rfl, N10, E10, A10, F10⟩ := hQ10
    have M10 := Fr.app M2 N10
    have Q_10 : Ext h0 h10 := own_extE Q_9 E10
    have E_b9_10 := A9.ext E10
    have F_first_b9_10 := F_first_b9.ext E10
    have F_last_b9_10 := F_last_b9.ext E10
    have F_giver_b9_10 := F_giver_b9.ext E10
    have F_receiver_b9_10 := F_receiver_b9.ext E10
    show Go p e s below _ _ _ T10 (mkF m 56 #[.val (.long p0), .second, .val (.long p1), .second, .val (.int p2), .val (.long xa), .second, .val (.long ya), .second, .val (.long fst), .second, .val (.long fst), .second, .unset, .unset, .unset] [(.ref x10), (.long fst), (.long fst), (.ref b9), (.ref b9)])
    refine Go.st (fun _ kont => XT.iconstV X10.here hx rfl (0 : Int32) (hb hby at_56) (by decide) kont) ?_
    show Go p e s below _ _ _ T10 (mkF m 57 #[.val (.long p0), .second, .val (.long p1), .second, .val (.int p2), .val (.long xa), .second, .val (.long ya), .second, .val (.long fst), .second, .val (.long fst), .second, .unset, .unset, .unset] [(.int (0 : Int32)), (.ref x10), (.long fst), (.long fst), (.ref b9), (.ref b9)])
    refine Go.callS (W := 7) (argsL := [(.int (0 : Int32))]) (rest := [(.ref x10), (.long fst), (.long fst), (.ref b9), (.ref b9)]) X10 hx hZ hown (y := (⟨"java/lang/Integer", "valueOf", "(I)Ljava/lang/Integer;"⟩ : MethodName)) (hw _ (List.mem_of_getElem? (i := 11) rfl)) (hw _ (List.mem_of_getElem? (i := 12) rfl)) (hw _ (List.mem_of_getElem? (i := 13) rfl)) (hw _ (List.mem_of_getElem? (i := 14) rfl)) (rmV l Z a0 hw [] (0 : Int32) h10 n0 (Nat.le_trans Z0 Q_10.1) ca cl (SH.ext Q_10) (SC.ext Q_10) B (own_extE EZ Q_10)) e10 (by decide) (by decide) (by decide) (by decide) (by decide) (by rw [hml]; rfl) (lenOf pd__I_Ljava_lang_Integer_ rfl) (Nat.le_of_eq rfl) (hb hby at_57) ?_
    intro T11 v11 L11 X11 hQ11
    obtain ⟨h11, e11⟩ : ∃ z, T11.heap = z := ⟨_, rfl⟩
    rw [e11] at hQ11
    obtain ⟨x11, rfl, N11, E11, A11, F11⟩ := hQ11
    have M11 := Fr.app M10 N11
    have Q_11 : Ext h0 h11 := own_extE Q_10 E11
    have E_b9_11 := E_b9_10.ext E11
    have F_first_b9_11 := F_first_b9_10.ext E11
    have F_last_b9_11 := F_last_b9_10.ext E11
    have F_giver_b9_11 := F_giver_b9_10.ext E11
    have F_receiver_b9_11 := F_receiver_b9_10.ext E11
    have E_x10_11 := A10.ext E11
    show Go p e s below _ _ _ T11 (mkF m 60 #[.val (.long p0), .second, .val (.long p1), .second, .val (.int p2), .val (.long xa), .second, .val (.long ya), .second, .val (.long fst), .second, .val (.long fst), .second, .unset, .unset, .unset] [(.ref x11), (.ref x10), (.long fst), (.long fst), (.ref b9), (.ref b9)])
    refine Go.callC (b := b9) (W := 1) (argsL := [(.long fst), (.long fst), (.ref x10), (.ref x11)]) (rest := [(.ref b9)]) X11 hx hZ (y := (⟨"com/example/ringward/ringward/moves/MovedRange", "<init>", "(JJLjava/lang/Object;Ljava/lang/Object;)V"⟩ : MethodName)) rfl hown (hw _ (List.mem_of_getElem? (i := 18) rfl)) (hw _ (List.mem_of_getElem? (i := 19) rfl)) (hw _ (List.mem_of_getElem? (i := 10) rfl)) (hw _ (List.mem_of_getElem? (i := 20) rfl)) (rmC l Z a0 hw [] b9 fst fst x10 x11 h11 n0 gn9 E_b9_11 F_first_b9_11 F_last_b9_11 F_giver_b9_11 F_receiver_b9_11) e11 (by decide) (by decide) (by decide) (by decide) (by decide) (by rw [hml]; rfl) (lenOf pd__JJLjava_lang_Object_Ljava_lang_Object__V rfl) (Nat.le_of_eq rfl) (hb hby at_60) ?_
    intro T12 v12 L12 X12 hQ12
    obtain ⟨h12, e12⟩ : ∃ z, T12.heap = z := ⟨_, rfl⟩
    rw [e12] at hQ12
    obtain ⟨rfl, N12, K12, F_first_b9_12, F_last_b9_12, F_giver_b9_12, F_receiver_b9_12⟩ := hQ12
    have M12 := Fr.app M11 N12
    have Q_12 : Ext h0 h12 := own_extK Q_11 K12 (allS sz9 all0)
    have E_b9_12 := E_b9_11.keep K12
    have E_x10_12 := E_x10_11.keep K12
    have E_x11_12 := A11.keep K12
    show Go p e s below _ _ _ T12 (mkF m 63 #[.val (.long p0), .second, .val (.long p1), .second, .val (.int p2), .val (.long xa), .second, .val (.long ya), .second, .val (.long fst), .second, .val (.long fst), .second, .unset, .unset, .unset] [(.ref b9)])
    refine Go.st (fun _ kont => XS.astore X12.here hx rfl (hb hby at_63) rfl rfl (l' := #[.val (.long p0), .second, .val (.long p1), .second, .val (.int p2), .val (.long xa), .second, .val (.long ya), .second, .val (.long fst), .second, .val (.long fst), .second, .val (.ref b9), .unset, .unset]) rfl kont) ?_
    show Go p e s below _ _ _ T12 (mkF m 65 #[.val (.long p0), .second, .val (.long p1), .second, .val (.int p2), .val (.long xa), .second, .val (.long ya), .second, .val (.long fst), .second, .val (.long fst), .second, .val (.ref b9), .unset, .unset] [])
    refine Go.st (fun _ kont => XS.aload X12.here hx rfl (hb hby at_65) rfl rfl kont) ?_
    show Go p e s below _ _ _ T12 (mkF m 67 #[.val (.long p0), .second, .val (.long p1), .second, .val (.int p2), .val (.long xa), .second, .val (.long ya), .second, .val (.long fst), .second, .val (.long fst), .second, .val (.ref b9), .unset, .unset] [(.ref b9)])
    refine Go.callV (b := b9) (W := 0) (argsL := []) (rest := []) X12 hx hZ hown (y := (⟨"com/example/ringward/ringward/moves/MovedRange", "positionCount", "()J"⟩ : MethodName)) (z := (⟨"com/example/ringward/ringward/moves/MovedRange", "positionCount", "()J"⟩ : MethodName)) (hw _ (List.mem_of_getElem? (i := 37) rfl)) (hw _ (List.mem_of_getElem? (i := 38) rfl)) (notFace_of_selects (args := #[]) (mvT hZ (hw _ (List.mem_of_getElem? (i := 40) rfl)))) (hw _ (List.mem_of_getElem? (i := 40) rfl)) (hw _ (List.mem_of_getElem? (i := 39) rfl)) (hw _ (List.mem_of_getElem? (i := 10) rfl)) (hw _ (List.mem_of_getElem? (i := 41) rfl)) (rmP l Z a0 hw [] b9 fst fst h12 n0 F_first_b9_12 F_last_b9_12) e12 E_b9_12 (by decide) (by decide) (by decide) (by decide) (by decide) (by rw [hml]; rfl) (lenOf pd___J rfl) (Nat.le_of_eq rfl) (hb hby at_67) ?_
    intro T13 v13 L13 X13 hQ13
    obtain ⟨rfl, N13, E13⟩ := hQ13
    have M13 := Fr.app M12 N13
    show Go p e s below _ _ _ T13 (mkF m 70 #[.val (.long p0), .second, .val (.long p1), .second, .val (.int p2), .val (.long xa), .second, .val (.long ya), .second, .val (.long fst), .second, .val (.long fst), .second, .val (.ref b9), .unset, .unset] [(.long ((fst - fst) + (1 : Int64)))])
    refine Go.st (fun _ kont => XS.lstore X13.here hx rfl (hb hby at_70) rfl (l' := #[.val (.long p0), .second, .val (.long p1), .second, .val (.int p2), .val (.long xa), .second, .val (.long ya), .second, .val (.long fst), .second, .val (.long fst), .second, .val (.ref b9), .val (.long ((fst - fst) + (1 : Int64))), .second]) rfl kont) ?_
    show Go p e s below _ _ _ T13 (mkF m 72 #[.val (.long p0), .second, .val (.long p1), .second, .val (.int p2), .val (.long xa), .second, .val (.long ya), .second, .val (.long fst), .second, .val (.long fst), .second, .val (.ref b9), .val (.long ((fst - fst) + (1 : Int64))), .second] [])
    obtain ⟨cc, hcc⟩ : ∃ z : Int64, z = ((fst - fst) + (1 : Int64)) := ⟨_, rfl⟩
    rw [← hcc]
    show Go p e s below _ _ _ T13 (mkF m 72 #[.val (.long p0), .second, .val (.long p1), .second, .val (.int p2), .val (.long xa), .second, .val (.long ya), .second, .val (.long fst), .second, .val (.long fst), .second, .val (.ref b9), .val (.long cc), .second] [])
    have hk := own_pc hm2 hcc
    refine Go.st (fun _ kont => XS.lload X13.here hx rfl (hb hby at_72) rfl kont) ?_
    show Go p e s below _ _ _ T13 (mkF m 74 #[.val (.long p0), .second, .val (.long p1), .second, .val (.int p2), .val (.long xa), .second, .val (.long ya), .second, .val (.long fst), .second, .val (.long fst), .second, .val (.ref b9), .val (.long cc), .second] [(.long cc)])
    refine Go.st (fun _ kont => XT.lconstV X13.here hx rfl (1 : Int64) (hb hby at_74) (by decide) kont) ?_
    show Go p e s below _ _ _ T13 (mkF m 75 #[.val (.long p0), .second, .val (.long p1), .second, .val (.int p2), .val (.long xa), .second, .val (.long ya), .second, .val (.long fst), .second, .val (.long fst), .second, .val (.ref b9), .val (.long cc), .second] [(.long (1 : Int64)), (.long cc)])
    refine Go.st (fun _ kont => XS.lcmp X13.here hx rfl (hb hby at_75) rfl kont) ?_
    show Go p e s below _ _ _ T13 (mkF m 76 #[.val (.long p0), .second, .val (.long p1), .second, .val (.int p2), .val (.long xa), .second, .val (.long ya), .second, .val (.long fst), .second, .val (.long fst), .second, .val (.ref b9), .val (.long cc), .second] [(.int (lcmpW cc (1 : Int64)))])
    refine Go.st (fun _ kont => XS.ifNo X13.here hx rfl (hb hby at_76) rfl ((if0 _ _).trans (flt (mt (lw_lt _ _).mp hk.1)).1) kont) ?_
    show Go p e s below _ _ _ T13 (mkF m 79 #[.val (.long p0), .second, .val (.long p1), .second, .val (.int p2), .val (.long xa), .second, .val (.long ya), .second, .val (.long fst), .second, .val (.long fst), .second, .val (.ref b9), .val (.long cc), .second] [])
    refine Go.st (fun _ kont => XS.lload X13.here hx rfl (hb hby at_79) rfl kont) ?_
    show Go p e s below _ _ _ T13 (mkF m 81 #[.val (.long p0), .second, .val (.long p1), .second, .val (.int p2), .val (.long xa), .second, .val (.long ya), .second, .val (.long fst), .second, .val (.long fst), .second, .val (.ref b9), .val (.long cc), .second] [(.long cc)])
    refine Go.st (X13.ldc2Long hx hown (mvT hZ (hw _ (List.mem_of_getElem? (i := 42) rfl))) (g := (mkF m 81 #[.val (.long p0), .second, .val (.long p1), .second, .val (.int p2), .val (.long xa), .second, .val (.long ya), .second, .val (.long fst), .second, .val (.long fst), .second, .val (.ref b9), .val (.long cc), .second] [(.long cc)])) rfl (hb hby at_81)) ?_
    show Go p e s below _ _ _ T13 (mkF m 84 #[.val (.long p0), .second, .val (.long p1), .second, .val (.int p2), .val (.long xa), .second, .val (.long ya), .second, .val (.long fst), .second, .val (.long fst), .second, .val (.ref b9), .val (.long cc), .second] [(.long (4294967296 : Int64)), (.long cc)])
    refine Go.st (fun _ kont => XS.lcmp X13.here hx rfl (hb hby at_84) rfl kont) ?_
    show Go p e s below _ _ _ T13 (mkF m 85 #[.val (.long p0), .second, .val (.long p1), .second, .val (.int p2), .val (.long xa), .second, .val (.long ya), .second, .val (.long fst), .second, .val (.long fst), .second, .val (.ref b9), .val (.long cc), .second] [(.int (lcmpW cc (4294967296 : Int64)))])
    refine Go.st (fun _ kont => XS.ifYes X13.here hx rfl (pc0 := 85) (pc' := 90) rfl (hb hby at_85) rfl ((if0 _ _).trans (flt (mt (lw_gt _ _).mp hk.2.1)).2.2.2) (by decide) (by decide) kont) ?_
    show Go p e s below _ _ _ T13 (mkF m 90 #[.val (.long p0), .second, .val (.long p1), .second, .val (.int p2), .val (.long xa), .second, .val (.long ya), .second, .val (.long fst), .second, .val (.long fst), .second, .val (.ref b9), .val (.long cc), .second] [])
    refine Go.st (fun _ kont => XS.lload X13.here hx rfl (hb hby at_90) rfl kont) ?_
    show Go p e s below _ _ _ T13 (mkF m 92 #[.val (.long p0), .second, .val (.long p1), .second, .val (.int p2), .val (.long xa), .second, .val (.long ya), .second, .val (.long fst), .second, .val (.long fst), .second, .val (.ref b9), .val (.long cc), .second] [(.long fst)])
    refine Go.st (fun _ kont => XS.lload X13.here hx rfl (hb hby at_92) rfl kont) ?_
    show Go p e s below _ _ _ T13 (mkF m 94 #[.val (.long p0), .second, .val (.long p1), .second, .val (.int p2), .val (.long xa), .second, .val (.long ya), .second, .val (.long fst), .second, .val (.long fst), .second, .val (.ref b9), .val (.long cc), .second] [(.long cc), (.long fst)])
    refine Go.st (fun _ kont => XS.ladd X13.here hx rfl (hb hby at_94) rfl kont) ?_
    show Go p e s below _ _ _ T13 (mkF m 95 #[.val (.long p0), .second, .val (.long p1), .second, .val (.int p2), .val (.long xa), .second, .val (.long ya), .second, .val (.long fst), .second, .val (.long fst), .second, .val (.ref b9), .val (.long cc), .second] [(.long (fst + cc))])
    refine Go.st (fun _ kont => XT.lconstV X13.here hx rfl (1 : Int64) (hb hby at_95) (by decide) kont) ?_
    show Go p e s below _ _ _ T13 (mkF m 96 #[.val (.long p0), .second, .val (.long p1), .second, .val (.int p2), .val (.long xa), .second, .val (.long ya), .second, .val (.long fst), .second, .val (.long fst), .second, .val (.ref b9), .val (.long cc), .second] [(.long (1 : Int64)), (.long (fst + cc))])
    refine Go.st (fun _ kont => XS.lsub X13.here hx rfl (hb hby at_96) rfl kont) ?_
    show Go p e s below _ _ _ T13 (mkF m 97 #[.val (.long p0), .second, .val (.long p1), .second, .val (.int p2), .val (.long xa), .second, .val (.long ya), .second, .val (.long fst), .second, .val (.long fst), .second, .val (.ref b9), .val (.long cc), .second] [(.long ((fst + cc) - (1 : Int64)))])
    refine Go.st (fun _ kont => XS.lload X13.here hx rfl (hb hby at_97) rfl kont) ?_
    show Go p e s below _ _ _ T13 (mkF m 99 #[.val (.long p0), .second, .val (.long p1), .second, .val (.int p2), .val (.long xa), .second, .val (.long ya), .second, .val (.long fst), .second, .val (.long fst), .second, .val (.ref b9), .val (.long cc), .second] [(.long fst), (.long ((fst + cc) - (1 : Int64)))])
    refine Go.st (fun _ kont => XS.lcmp X13.here hx rfl (hb hby at_99) rfl kont) ?_
    show Go p e s below _ _ _ T13 (mkF m 100 #[.val (.long p0), .second, .val (.long p1), .second, .val (.int p2), .val (.long xa), .second, .val (.long ya), .second, .val (.long fst), .second, .val (.long fst), .second, .val (.ref b9), .val (.long cc), .second] [(.int (lcmpW ((fst + cc) - (1 : Int64)) fst))])
    refine Go.st (fun _ kont => XS.ifNo X13.here hx rfl (hb hby at_100) rfl ((if0 _ _).trans (teq ((lw_eq _ _).mpr hk.2.2)).2) kont) ?_
    show Go p e s below _ _ _ T13 (mkF m 103 #[.val (.long p0), .second, .val (.long p1), .second, .val (.int p2), .val (.long xa), .second, .val (.long ya), .second, .val (.long fst), .second, .val (.long fst), .second, .val (.ref b9), .val (.long cc), .second] [])
    refine Go.st (fun _ kont => XT.iconstV X13.here hx rfl (1 : Int32) (hb hby at_103) (by decide) kont) ?_
    show Go p e s below _ _ _ T13 (mkF m 104 #[.val (.long p0), .second, .val (.long p1), .second, .val (.int p2), .val (.long xa), .second, .val (.long ya), .second, .val (.long fst), .second, .val (.long fst), .second, .val (.ref b9), .val (.long cc), .second] [(.int (1 : Int32))])
    refine Go.st (fun _ kont => XS.goto X13.here hx rfl (pc0 := 104) (pc' := 108) rfl (hb hby at_104) (by decide) (by decide) kont) ?_
    show Go p e s below _ _ _ T13 (mkF m 108 #[.val (.long p0), .second, .val (.long p1), .second, .val (.int p2), .val (.long xa), .second, .val (.long ya), .second, .val (.long fst), .second, .val (.long fst), .second, .val (.ref b9), .val (.long cc), .second] [(.int (1 : Int32))])
    exact Go.retN X13 hx hlk hret (by simp) (hb hby at_108) (by decide) (by decide) ⟨rfl, M13⟩
set_option maxRecDepth 65536 in
set_option maxHeartbeats 40000000 in
theorem comes_1 {Post : Tables → Env → Array Value → State → Outcome → State → Prop} (hpost : ∀ tb e args s v u, (limb_1_1.after args s (.returned v) u = true ∧ limb_1_2.after args s (.returned v) u = true ∧ True) → FrameEnd s (.returned v) u (Jvm.fieldLocs frame_1_writes args s ++ Jvm.arrayLocs frame_1_arrays args s ++ Jvm.staticLocs frame_1_statics s) 16 128 → Post tb e args s (.returned v) u) :
    ArmFor flags0 classFile x code maxLocals ret World_1 tables_1 room_1 Calls_1 rest_1 Pre_1 Post := by
  intro l hfl _ _ p e ha hc hk s m args below hf hA hF happ hP
  obtain ⟨hcalls, hrest, hpre⟩ := hP
  obtain ⟨-, -, -, hnamed, -, -, -, hat⟩ := (Spec.applies_iff hf).mp happ
  obtain ⟨hg, hn⟩ := and_e (Cond.before_iff.mp (show (Jvm.Cond.and given_1 narrow_1).before args s = true from hpre))
  obtain ⟨hg_1, hg_1'⟩ := and_e hg
  obtain ⟨hg_2, hg_2'⟩ := and_e hg_1'
  obtain ⟨hg_3, hg_3'⟩ := and_e hg_2'
  obtain ⟨w0, w1, w2, rfl⟩ : ∃ w0 w1 w2 : Value, args = #[w0, w1, w2] := by
    have hs : args.size = 3 := by simpa [Cond.value, given_1] using hg_1
    obtain ⟨L⟩ := args
    match L, hs with
    | [w0, w1, w2], _ => exact ⟨w0, w1, w2, rfl⟩
  have hw := fun d (hd : d ∈ tables_1) => atoms_spec (ws := Jvm.Cond.code x code maxLocals ret :: tables_1) hat d (List.mem_cons_of_mem _ hd)
  have hfit : Fit s := fun {y c} hc i hi => by
    obtain ⟨ha, rfl⟩ := Array.getElem?_eq_some_iff.mp hc
    have q := List.all_eq_true.mp ((Array.all_eq_true_iff_forall_mem.mp hF) _ (Array.getElem_mem ha)) i (List.mem_range.mpr hi)
    simpa [Array.getElem?_eq_getElem hi] using q
  obtain ⟨hsets, hown0⟩ := atoms_of _ (rest_1_c_eq ▸ (show rest_1_c.before _ s = true from hrest))
  obtain ⟨i0, ei0⟩ := isL_v hg_2
  obtain rfl : w0 = (.long i0) := Option.some.inj ei0
  obtain ⟨i1, ei1⟩ := isL_v hg_3
  obtain rfl : w1 = (.long i1) := Option.some.inj ei1
  obtain ⟨i2, ei2⟩ := is_v hg_3'
  obtain rfl : w2 = (.int i2) := Option.some.inj ei2
  have eH := own_eqI (Cond.before_iff.mp (hsets _ (List.mem_of_getElem? (i := 3) rfl)))
  have SH : Sta s s.heap "java/lang/Integer$IntegerCache" "high" "I" (.int 127) := Sta.start eH (Or.inl (hsets _ (List.mem_of_getElem? (i := 1) rfl)))
  obtain ⟨ca, eC⟩ := arr_v (Cond.before_iff.mp (hsets _ (List.mem_of_getElem? (i := 4) rfl)))
  have SC : Sta s s.heap "java/lang/Integer$IntegerCache" "cache" "[Ljava/lang/Integer;" (.ref ca) := Sta.start eC (Or.inr ⟨(hw _ (List.mem_of_getElem? (i := 16) rfl)), (hsets _ (List.mem_of_getElem? (i := 2) rfl))⟩)
  obtain ⟨cl, AC⟩ := Arr.start eC (Cond.before_iff.mp (hsets _ (List.mem_of_getElem? (i := 4) rfl)))
  obtain ⟨hs1, hs2⟩ := Jvm.Free.IntBox.length_fwd (hsets _ (List.mem_of_getElem? (i := 6) rfl)) eC AC.1 AC.2.1 AC.2.2
  have B : Bxs s ca cl "java/lang/Integer" "I" 256 (fun j => .int (j - 128)) := Bxs.start (fun _ => eC) AC hs1 hs2 (by decide) (Cond.before_iff.mp (hsets _ (List.mem_of_getElem? (i := 7) rfl))) (fun X j nn hj => eqv_i (own_idx nn) hj)
  obtain ⟨n, o, h1, h2, h3, _, L, rfl, ⟨rfl, N⟩, hq⟩ := rm0 l s _ hw tables_1 i0 i1 i2 s.heap s.heap.size (Nat.le_refl _) ca cl SH SC B (own_extR _) p e ha hc hk s m _ below hf ((Spec.applies_iff_loose hf).mp happ).1 ⟨rfl, State.Warmed39.refl s, rfl⟩ trivial
  refine ⟨n, _, h1, h2, h3, hpost _ _ _ _ _ _ ⟨Cond.after_iff.mpr rfl, Cond.after_iff.mpr (eq_i res_at (Term.int_eval (1)) rfl), trivial⟩ ⟨hq.1, hq.2.1, (hq.2.2.sift fun y hy => Or.inr (N y hy)).mono (by decide) (by decide)⟩⟩
theorem main_1_1 : Claimed_1_1 := comes_1 fun _ _ _ _ _ _ h hF => ⟨h.1, hF⟩
theorem main_1_2 : Claimed_1_2 := comes_1 fun _ _ _ _ _ _ h hF => ⟨h.2.1, hF⟩
end Jvm.Pilot.@@N@@
namespace Jvm.Pilot.@@N@@
open Jvm Jvm.ClassFile Sem Op Lib Jvm.Free Jvm.Stand Jvm.Pilot.@@N@@.Jvm.D
/-! MADE BY PROGRAM (witnessworld.py) out of the Statement's table words and the real class files: 18 classes; the members and pool entries that the words name. The judged class is class 1, her method 1. -/
namespace start1
open Jvm.ClassFile
def u (s : String) : CpInfo := .utf8 (stringToUtf16 s)
/-- a pool by its gaps: so many unusable entries, then the entry; so many at the end -/
def gap : Nat → List CpInfo → List CpInfo
  | 0, r => r
  | n + 1, r => .unusable :: gap n r
def poolList (es : List (Nat × CpInfo)) (last : Nat) : List CpInfo := es.foldr (fun e r => gap e.1 (e.2 :: r)) (gap last [])
def pool (es : List (Nat × CpInfo)) (last : Nat) : Array CpInfo := ⟨poolList es last⟩
def fileOf (pool : Array CpInfo) (this : Nat) (attrs : Array Attribute := #[]) (ms : Array MethodInfo := #[]) (fl : Nat := 33) (sup : Nat := 0) (ifs : Array Nat := #[]) (fds : Array FieldInfo := #[]) : ClassFile where
  minorVersion := 0
  majorVersion := 65
  constantPool := pool
  accessFlags := fl
  thisClass := this
  superClass := sup
  interfaces := ifs
  fields := fds
  methods := ms
  attributes := attrs
def plain (name : String) (sup : Option ClassId) : Class where
  name := name
  kind := .ordinary
  loader := none
  accessFlags := 33
  super := sup
  interfaces := #[]
  cf := none
  fields := #[]
  methods := #[]
  instanceTypes := #[]
  staticTypes := #[]
  resolved := #[]
  callSites := []
  init := .initialized
  statics := none
  mirror := none

def pool0 : Array CpInfo := pool [(5, u "<init>"), (0, u "()V"), (1, .class_ 10), (1, u "java/lang/Object")] 113

def k0c0 : Code := { maxStack := 0, maxLocals := 1, code := object_method_1_code, exceptionTable := #[], attributes := #[] }
def k0m0 : Method := { name := "<init>", desc := "()V", sig := { parameters := [], returnType := none }, accessFlags := 1, code := some k0c0 }
/-- java/lang/Object -/
def k0 : Class := { plain "java/lang/Object" none with
  accessFlags := 33
  interfaces := #[]
  cf := some (fileOf pool0 8 #[] #[{ accessFlags := 1, nameIndex := 5, descriptorIndex := 6, attributes := #[] }] 33 0 #[] #[])
  fields := #[]
  methods := #[k0m0]
  instanceTypes := #[]
  staticTypes := #[]
  resolved := Array.replicate 124 none
  statics := none }

def pool1 : Array CpInfo := pool [(2, .class_ 4), (1, u "java/lang/Object"), (0, u "<init>"), (0, u "()V"), (0, .long 4294967295), (1, .methodref 10 11), (0, .class_ 12), (0, .nameAndType 13 14), (0, u "java/lang/Math"), (0, u "min"), (0, u "(JJ)J"), (0, .methodref 10 16), (0, .nameAndType 17 14), (0, u "max"), (0, .class_ 19), (0, u "com/example/ringward/ringward/moves/MovedRange"), (0, .methodref 21 22), (0, .class_ 23), (0, .nameAndType 24 25), (0, u "java/lang/Integer"), (0, u "valueOf"), (0, u "(I)Ljava/lang/Integer;"), (0, .methodref 18 27), (0, .nameAndType 5 28), (0, u "(JJLjava/lang/Object;Ljava/lang/Object;)V"), (0, .methodref 18 30), (0, .nameAndType 31 32), (0, u "positionCount"), (0, u "()J"), (0, .long 4294967296), (1, .class_ 36), (0, u "com/example/ringward/ringward/moves/MovedRangePositionCountPinLaw"), (2, u "law"), (0, u "(JJI)Z")] 3

def k1m0 : Method := { name := "<init>", desc := "()V", sig := { parameters := [], returnType := none }, accessFlags := 1, code := none }
def k1c1 : Code := { maxStack := 8, maxLocals := 16, code := code, exceptionTable := #[], attributes := #[] }
def k1m1 : Method := { name := "law", desc := "(JJI)Z", sig := { parameters := [.long, .long, .int], returnType := some .boolean }, accessFlags := 9, code := some k1c1 }
/-- com/example/ringward/ringward/moves/MovedRangePositionCountPinLaw -/
def k1 : Class := { plain "com/example/ringward/ringward/moves/MovedRangePositionCountPinLaw" (some 0) with
  accessFlags := 49
  interfaces := #[]
  cf := some (fileOf pool1 35 #[] #[{ accessFlags := 1, nameIndex := 5, descriptorIndex := 6, attributes := #[] }, { accessFlags := 9, nameIndex := 39, descriptorIndex := 40, attributes := #[] }] 49 2 #[] #[])
  fields := #[]
  methods := #[k1m0, k1m1]
  instanceTypes := #[]
  staticTypes := #[]
  resolved := Array.replicate 44 none
  statics := none }

def pool2 : Array CpInfo := pool [(1, .class_ 2), (0, u "java/lang/Math"), (1, .class_ 6), (1, u "java/lang/Object"), (0, u "<init>"), (0, u "()V"), (89, .class_ 100), (1, u "java/lang/Math$RandomNumberGeneratorHolder"), (20, u "(JJ)J"), (50, u "negativeZeroFloatBits"), (0, u "J"), (2, u "negativeZeroDoubleBits"), (21, u "max"), (2, u "min"), (43, u "$assertionsDisabled"), (0, u "Z"), (91, u "twoToTheDoubleScaleDown"), (0, u "D"), (4, u "twoToTheDoubleScaleUp"), (9, u "E"), (3, u "PI"), (2, u "TAU"), (2, u "DEGREES_TO_RADIANS"), (0, u "RADIANS_TO_DEGREES")] 94

def k2m0 : Method := { name := "<init>", desc := "()V", sig := { parameters := [], returnType := none }, accessFlags := 2, code := none }
def k2c1 : Code := { maxStack := 4, maxLocals := 4, code := jdk_29_method_66_code, exceptionTable := #[], attributes := #[] }
def k2m1 : Method := { name := "max", desc := "(JJ)J", sig := { parameters := [.long, .long], returnType := some .long }, accessFlags := 9, code := some k2c1 }
def k2c2 : Code := { maxStack := 4, maxLocals := 4, code := jdk_29_method_70_code, exceptionTable := #[], attributes := #[] }
def k2m2 : Method := { name := "min", desc := "(JJ)J", sig := { parameters := [.long, .long], returnType := some .long }, accessFlags := 9, code := some k2c2 }
/-- java/lang/Math -/
def k2 : Class := { plain "java/lang/Math" (some 0) with
  accessFlags := 49
  interfaces := #[]
  cf := some (fileOf pool2 1 #[.nestMembers #[98]] #[{ accessFlags := 2, nameIndex := 7, descriptorIndex := 8, attributes := #[] }, { accessFlags := 9, nameIndex := 198, descriptorIndex := 121, attributes := #[] }, { accessFlags := 9, nameIndex := 201, descriptorIndex := 121, attributes := #[] }] 49 4 #[] #[{ accessFlags := 25, nameIndex := 354, descriptorIndex := 339, attributes := #[] }, { accessFlags := 25, nameIndex := 358, descriptorIndex := 339, attributes := #[] }, { accessFlags := 25, nameIndex := 361, descriptorIndex := 339, attributes := #[] }, { accessFlags := 26, nameIndex := 364, descriptorIndex := 339, attributes := #[] }, { accessFlags := 26, nameIndex := 365, descriptorIndex := 339, attributes := #[] }, { accessFlags := 26, nameIndex := 172, descriptorIndex := 173, attributes := #[] }, { accessFlags := 26, nameIndex := 176, descriptorIndex := 173, attributes := #[] }, { accessFlags := 8, nameIndex := 344, descriptorIndex := 339, attributes := #[] }, { accessFlags := 8, nameIndex := 338, descriptorIndex := 339, attributes := #[] }, { accessFlags := 4120, nameIndex := 245, descriptorIndex := 246, attributes := #[] }])
  fields := #[{ name := "E", type := .double, accessFlags := 25, slot := 0, constantValue := 0 }, { name := "PI", type := .double, accessFlags := 25, slot := 1, constantValue := 0 }, { name := "TAU", type := .double, accessFlags := 25, slot := 2, constantValue := 0 }, { name := "DEGREES_TO_RADIANS", type := .double, accessFlags := 26, slot := 3, constantValue := 0 }, { name := "RADIANS_TO_DEGREES", type := .double, accessFlags := 26, slot := 4, constantValue := 0 }, { name := "negativeZeroFloatBits", type := .long, accessFlags := 26, slot := 5, constantValue := 0 }, { name := "negativeZeroDoubleBits", type := .long, accessFlags := 26, slot := 6, constantValue := 0 }, { name := "twoToTheDoubleScaleUp", type := .double, accessFlags := 8, slot := 7, constantValue := 0 }, { name := "twoToTheDoubleScaleDown", type := .double, accessFlags := 8, slot := 8, constantValue := 0 }, { name := "$assertionsDisabled", type := .boolean, accessFlags := 4120, slot := 9, constantValue := 0 }]
  methods := #[k2m0, k2m1, k2m2]
  instanceTypes := #[]
  staticTypes := #[.double, .double, .double, .double, .double, .long, .long, .double, .double, .boolean]
  resolved := Array.replicate 460 none
  statics := none }

def pool3 : Array CpInfo := pool [(1, .methodref 2 3), (0, .class_ 4), (0, .nameAndType 5 6), (0, u "java/lang/Object"), (0, u "<init>"), (0, u "()V"), (0, .class_ 8), (0, u "java/lang/Record")] 13

def k3c0 : Code := { maxStack := 1, maxLocals := 1, code := jdk_30_method_1_code, exceptionTable := #[], attributes := #[] }
def k3m0 : Method := { name := "<init>", desc := "()V", sig := { parameters := [], returnType := none }, accessFlags := 4, code := some k3c0 }
/-- java/lang/Record -/
def k3 : Class := { plain "java/lang/Record" (some 0) with
  accessFlags := 1057
  interfaces := #[]
  cf := some (fileOf pool3 7 #[] #[{ accessFlags := 4, nameIndex := 5, descriptorIndex := 6, attributes := #[] }] 1057 2 #[] #[])
  fields := #[]
  methods := #[k3m0]
  instanceTypes := #[]
  staticTypes := #[]
  resolved := Array.replicate 22 none
  statics := none }

def pool4 : Array CpInfo := pool [(1, .methodref 2 3), (0, .class_ 4), (0, .nameAndType 5 6), (0, u "java/lang/Record"), (0, u "<init>"), (0, u "()V"), (0, .fieldref 8 9), (0, .class_ 10), (0, .nameAndType 11 12), (0, u "com/example/ringward/ringward/moves/MovedRange"), (0, u "first"), (0, u "J"), (0, .fieldref 8 14), (0, .nameAndType 15 12), (0, u "last"), (0, .fieldref 8 17), (0, .nameAndType 18 19), (0, u "giver"), (0, u "Ljava/lang/Object;"), (0, .fieldref 8 21), (0, .nameAndType 22 19), (0, u "receiver"), (14, u "(JJLjava/lang/Object;Ljava/lang/Object;)V"), (4, u "positionCount"), (0, u "()J")] 29

def k4c0 : Code := { maxStack := 3, maxLocals := 7, code := prog_16_method_1_code, exceptionTable := #[], attributes := #[] }
def k4m0 : Method := { name := "<init>", desc := "(JJLjava/lang/Object;Ljava/lang/Object;)V", sig := { parameters := [.long, .long, (.object "java/lang/Object"), (.object "java/lang/Object")], returnType := none }, accessFlags := 1, code := some k4c0 }
def k4c1 : Code := { maxStack := 4, maxLocals := 1, code := prog_16_method_2_code, exceptionTable := #[], attributes := #[] }
def k4m1 : Method := { name := "positionCount", desc := "()J", sig := { parameters := [], returnType := some .long }, accessFlags := 1, code := some k4c1 }
/-- com/example/ringward/ringward/moves/MovedRange -/
def k4 : Class := { plain "com/example/ringward/ringward/moves/MovedRange" (some 3) with
  accessFlags := 49
  interfaces := #[]
  cf := some (fileOf pool4 8 #[] #[{ accessFlags := 1, nameIndex := 5, descriptorIndex := 37, attributes := #[] }, { accessFlags := 1, nameIndex := 42, descriptorIndex := 43, attributes := #[] }] 49 2 #[] #[{ accessFlags := 18, nameIndex := 11, descriptorIndex := 12, attributes := #[] }, { accessFlags := 18, nameIndex := 15, descriptorIndex := 12, attributes := #[] }, { accessFlags := 18, nameIndex := 18, descriptorIndex := 19, attributes := #[] }, { accessFlags := 18, nameIndex := 22, descriptorIndex := 19, attributes := #[] }])
  fields := #[{ name := "first", type := .long, accessFlags := 18, slot := 0, constantValue := 0 }, { name := "last", type := .long, accessFlags := 18, slot := 1, constantValue := 0 }, { name := "giver", type := (.object "java/lang/Object"), accessFlags := 18, slot := 2, constantValue := 0 }, { name := "receiver", type := (.object "java/lang/Object"), accessFlags := 18, slot := 3, constantValue := 0 }]
  methods := #[k4m0, k4m1]
  instanceTypes := #[.long, .long, (.object "java/lang/Object"), (.object "java/lang/Object")]
  staticTypes := #[]
  resolved := Array.replicate 73 none
  statics := none }

def pool5 : Array CpInfo := pool [(1, .class_ 2), (0, u "java/io/Serializable"), (0, .class_ 4), (0, u "java/lang/Object")] 2

/-- java/io/Serializable -/
def k5 : Class := { plain "java/io/Serializable" (some 0) with
  accessFlags := 1537
  interfaces := #[]
  cf := some (fileOf pool5 1 #[] #[] 1537 3 #[] #[])
  fields := #[]
  methods := #[]
  instanceTypes := #[]
  staticTypes := #[]
  resolved := Array.replicate 7 none
  statics := none }

def pool6 : Array CpInfo := pool [(1, .methodref 2 3), (0, .class_ 4), (0, .nameAndType 5 6), (0, u "java/lang/Object"), (0, u "<init>"), (0, u "()V"), (1, .class_ 10), (1, u "java/lang/Number"), (2, .class_ 14), (0, u "java/io/Serializable"), (0, u "serialVersionUID"), (0, u "J")] 20

def k6c0 : Code := { maxStack := 1, maxLocals := 1, code := jdk_18_method_1_code, exceptionTable := #[], attributes := #[] }
def k6m0 : Method := { name := "<init>", desc := "()V", sig := { parameters := [], returnType := none }, accessFlags := 1, code := some k6c0 }
/-- java/lang/Number -/
def k6 : Class := { plain "java/lang/Number" (some 0) with
  accessFlags := 1057
  interfaces := #[5]
  cf := some (fileOf pool6 8 #[] #[{ accessFlags := 1, nameIndex := 5, descriptorIndex := 6, attributes := #[] }] 1057 2 #[13] #[{ accessFlags := 26, nameIndex := 15, descriptorIndex := 16, attributes := #[] }])
  fields := #[{ name := "serialVersionUID", type := .long, accessFlags := 26, slot := 0, constantValue := 0 }]
  methods := #[k6m0]
  instanceTypes := #[]
  staticTypes := #[.long]
  resolved := Array.replicate 37 none
  statics := none }

def pool7 : Array CpInfo := pool [(1, .class_ 2), (0, u "java/lang/Comparable"), (0, .class_ 4), (0, u "java/lang/Object")] 7

/-- java/lang/Comparable -/
def k7 : Class := { plain "java/lang/Comparable" (some 0) with
  accessFlags := 1537
  interfaces := #[]
  cf := some (fileOf pool7 1 #[] #[] 1537 3 #[] #[])
  fields := #[]
  methods := #[]
  instanceTypes := #[]
  staticTypes := #[]
  resolved := Array.replicate 12 none
  statics := none }

def pool8 : Array CpInfo := pool [(1, .class_ 2), (0, u "java/lang/constant/Constable"), (0, .class_ 4), (0, u "java/lang/Object")] 6

/-- java/lang/constant/Constable -/
def k8 : Class := { plain "java/lang/constant/Constable" (some 0) with
  accessFlags := 1537
  interfaces := #[]
  cf := some (fileOf pool8 1 #[] #[] 1537 3 #[] #[])
  fields := #[]
  methods := #[]
  instanceTypes := #[]
  staticTypes := #[]
  resolved := Array.replicate 11 none
  statics := none }

def pool9 : Array CpInfo := pool [(1, .class_ 2), (0, u "java/lang/constant/ConstantDesc"), (0, .class_ 4), (0, u "java/lang/Object")] 32

/-- java/lang/constant/ConstantDesc -/
def k9 : Class := { plain "java/lang/constant/ConstantDesc" (some 0) with
  accessFlags := 1537
  interfaces := #[]
  cf := some (fileOf pool9 1 #[] #[] 1537 3 #[] #[])
  fields := #[]
  methods := #[]
  instanceTypes := #[]
  staticTypes := #[]
  resolved := Array.replicate 37 none
  statics := none }

def pool10 : Array CpInfo := pool [(1, .class_ 2), (0, u "java/lang/Integer"), (16, u "digits"), (0, u "[C"), (46, u "<init>"), (17, u "DigitOnes"), (0, u "[B"), (2, u "DigitTens"), (10, .nameAndType 67 101), (0, u "()V"), (85, u "valueOf"), (0, u "(I)Ljava/lang/Integer;"), (0, .class_ 190), (0, u "java/lang/Integer$IntegerCache"), (0, .fieldref 189 192), (0, .nameAndType 193 194), (0, u "high"), (0, u "I"), (0, .fieldref 189 196), (0, .nameAndType 197 198), (0, u "cache"), (0, u "[Ljava/lang/Integer;"), (0, .methodref 1 200), (0, .nameAndType 67 201), (0, u "(I)V"), (0, .methodref 203 100), (0, .class_ 204), (0, u "java/lang/Number"), (0, .fieldref 1 206), (0, .nameAndType 207 194), (0, u "value"), (94, u "TYPE"), (0, u "Ljava/lang/Class;"), (0, .class_ 305), (0, u "java/lang/Comparable"), (0, .class_ 307), (0, u "java/lang/constant/Constable"), (0, .class_ 309), (0, u "java/lang/constant/ConstantDesc"), (0, u "MIN_VALUE"), (1, u "MAX_VALUE"), (3, u "SIZE"), (1, u "BYTES"), (1, u "serialVersionUID"), (0, u "J")] 131

def k10c0 : Code := { maxStack := 3, maxLocals := 1, code := jdk_33_method_22_code, exceptionTable := #[], attributes := #[] }
def k10m0 : Method := { name := "valueOf", desc := "(I)Ljava/lang/Integer;", sig := { parameters := [.int], returnType := some (.object "java/lang/Integer") }, accessFlags := 9, code := some k10c0 }
def k10c1 : Code := { maxStack := 2, maxLocals := 2, code := jdk_33_method_23_code, exceptionTable := #[], attributes := #[] }
def k10m1 : Method := { name := "<init>", desc := "(I)V", sig := { parameters := [.int], returnType := none }, accessFlags := 1, code := some k10c1 }
/-- java/lang/Integer -/
def k10 : Class := { plain "java/lang/Integer" (some 6) with
  accessFlags := 49
  interfaces := #[7, 8, 9]
  cf := some (fileOf pool10 1 #[.nestMembers #[189]] #[{ accessFlags := 9, nameIndex := 187, descriptorIndex := 188, attributes := #[] }, { accessFlags := 1, nameIndex := 67, descriptorIndex := 201, attributes := #[] }] 49 203 #[304, 306, 308] #[{ accessFlags := 25, nameIndex := 310, descriptorIndex := 194, attributes := #[] }, { accessFlags := 25, nameIndex := 312, descriptorIndex := 194, attributes := #[] }, { accessFlags := 25, nameIndex := 302, descriptorIndex := 303, attributes := #[] }, { accessFlags := 24, nameIndex := 19, descriptorIndex := 20, attributes := #[] }, { accessFlags := 24, nameIndex := 89, descriptorIndex := 86, attributes := #[] }, { accessFlags := 24, nameIndex := 85, descriptorIndex := 86, attributes := #[] }, { accessFlags := 18, nameIndex := 207, descriptorIndex := 194, attributes := #[] }, { accessFlags := 25, nameIndex := 316, descriptorIndex := 194, attributes := #[] }, { accessFlags := 25, nameIndex := 318, descriptorIndex := 194, attributes := #[] }, { accessFlags := 26, nameIndex := 320, descriptorIndex := 321, attributes := #[] }])
  fields := #[{ name := "MIN_VALUE", type := .int, accessFlags := 25, slot := 0, constantValue := 0 }, { name := "MAX_VALUE", type := .int, accessFlags := 25, slot := 1, constantValue := 0 }, { name := "TYPE", type := (.object "java/lang/Class"), accessFlags := 25, slot := 2, constantValue := 0 }, { name := "digits", type := (.array .char), accessFlags := 24, slot := 3, constantValue := 0 }, { name := "DigitTens", type := (.array .byte), accessFlags := 24, slot := 4, constantValue := 0 }, { name := "DigitOnes", type := (.array .byte), accessFlags := 24, slot := 5, constantValue := 0 }, { name := "value", type := .int, accessFlags := 18, slot := 0, constantValue := 0 }, { name := "SIZE", type := .int, accessFlags := 25, slot := 6, constantValue := 0 }, { name := "BYTES", type := .int, accessFlags := 25, slot := 7, constantValue := 0 }, { name := "serialVersionUID", type := .long, accessFlags := 26, slot := 8, constantValue := 0 }]
  methods := #[k10m0, k10m1]
  instanceTypes := #[.int]
  staticTypes := #[.int, .int, (.object "java/lang/Class"), (.array .char), (.array .byte), (.array .byte), .int, .int, .long]
  resolved := Array.replicate 453 none
  statics := none }

def pool11 : Array CpInfo := pool [(2, .class_ 4), (1, u "java/lang/Object"), (0, u "<init>"), (0, u "()V"), (0, .class_ 8), (0, u "java/lang/Integer"), (7, .class_ 18), (1, u "java/lang/Integer$IntegerCache"), (0, u "$assertionsDisabled"), (0, u "Z"), (26, u "high"), (0, u "I"), (8, u "archivedCache"), (0, u "[Ljava/lang/Integer;"), (12, u "cache"), (0, u "low")] 27

def k11m0 : Method := { name := "<init>", desc := "()V", sig := { parameters := [], returnType := none }, accessFlags := 2, code := none }
/-- java/lang/Integer$IntegerCache -/
def k11 : Class := { plain "java/lang/Integer$IntegerCache" (some 0) with
  accessFlags := 48
  interfaces := #[]
  cf := some (fileOf pool11 16 #[.nestHost 7] #[{ accessFlags := 2, nameIndex := 5, descriptorIndex := 6, attributes := #[] }] 48 2 #[] #[{ accessFlags := 24, nameIndex := 72, descriptorIndex := 48, attributes := #[] }, { accessFlags := 24, nameIndex := 47, descriptorIndex := 48, attributes := #[] }, { accessFlags := 24, nameIndex := 71, descriptorIndex := 58, attributes := #[] }, { accessFlags := 8, nameIndex := 57, descriptorIndex := 58, attributes := #[] }, { accessFlags := 4120, nameIndex := 19, descriptorIndex := 20, attributes := #[] }])
  fields := #[{ name := "low", type := .int, accessFlags := 24, slot := 0, constantValue := 0 }, { name := "high", type := .int, accessFlags := 24, slot := 1, constantValue := 0 }, { name := "cache", type := (.array (.object "java/lang/Integer")), accessFlags := 24, slot := 2, constantValue := 0 }, { name := "archivedCache", type := (.array (.object "java/lang/Integer")), accessFlags := 8, slot := 3, constantValue := 0 }, { name := "$assertionsDisabled", type := .boolean, accessFlags := 4120, slot := 4, constantValue := 0 }]
  methods := #[k11m0]
  instanceTypes := #[]
  staticTypes := #[.int, .int, (.array (.object "java/lang/Integer")), (.array (.object "java/lang/Integer")), .boolean]
  resolved := Array.replicate 100 none
  statics := some 0 }

def pool12 : Array CpInfo := pool [(1, u "java/lang/Cloneable"), (0, .class_ 1), (0, u "java/lang/Object"), (0, .class_ 3)] 3

/-- java/lang/Cloneable -/
def k12 : Class := { plain "java/lang/Cloneable" (some 0) with
  accessFlags := 1537
  interfaces := #[]
  cf := some (fileOf pool12 2 #[] #[] 1537 4 #[] #[])
  fields := #[]
  methods := #[]
  instanceTypes := #[]
  staticTypes := #[]
  resolved := Array.replicate 8 none
  statics := none }

/-- the primitive byte -/
def k13 : Class := { plain "byte" none with kind := .primitive 'B', accessFlags := 0x411 }
/-- [B -/
def k14 : Class := { plain "[B" (some 0) with kind := .array 13 .byte, interfaces := #[12, 5], accessFlags := 1041 }

/-- the primitive int -/
def k15 : Class := { plain "int" none with kind := .primitive 'I', accessFlags := 0x411 }
/-- [I -/
def k16 : Class := { plain "[I" (some 0) with kind := .array 15 .int, interfaces := #[12, 5], accessFlags := 1041 }

/-- [Ljava/lang/Integer; -/
def k17 : Class := { plain "[Ljava/lang/Integer;" (some 0) with kind := .array 10 (.object "java/lang/Integer"), interfaces := #[12, 5], accessFlags := 1041 }

def heap : Heap := #[{ cls := 11, slots := #[.int 0, .int 127, .ref 1, .null, .int 0], vm := .statics 11 },
  { cls := 17, slots := #[.ref 2, .ref 3, .ref 4, .ref 5, .ref 6, .ref 7, .ref 8, .ref 9, .ref 10, .ref 11, .ref 12, .ref 13, .ref 14, .ref 15, .ref 16, .ref 17, .ref 18, .ref 19, .ref 20, .ref 21, .ref 22, .ref 23, .ref 24, .ref 25, .ref 26, .ref 27, .ref 28, .ref 29, .ref 30, .ref 31, .ref 32, .ref 33, .ref 34, .ref 35, .ref 36, .ref 37, .ref 38, .ref 39, .ref 40, .ref 41, .ref 42, .ref 43, .ref 44, .ref 45, .ref 46, .ref 47, .ref 48, .ref 49, .ref 50, .ref 51, .ref 52, .ref 53, .ref 54, .ref 55, .ref 56, .ref 57, .ref 58, .ref 59, .ref 60, .ref 61, .ref 62, .ref 63, .ref 64, .ref 65, .ref 66, .ref 67, .ref 68, .ref 69, .ref 70, .ref 71, .ref 72, .ref 73, .ref 74, .ref 75, .ref 76, .ref 77, .ref 78, .ref 79, .ref 80, .ref 81, .ref 82, .ref 83, .ref 84, .ref 85, .ref 86, .ref 87, .ref 88, .ref 89, .ref 90, .ref 91, .ref 92, .ref 93, .ref 94, .ref 95, .ref 96, .ref 97, .ref 98, .ref 99, .ref 100, .ref 101, .ref 102, .ref 103, .ref 104, .ref 105, .ref 106, .ref 107, .ref 108, .ref 109, .ref 110, .ref 111, .ref 112, .ref 113, .ref 114, .ref 115, .ref 116, .ref 117, .ref 118, .ref 119, .ref 120, .ref 121, .ref 122, .ref 123, .ref 124, .ref 125, .ref 126, .ref 127, .ref 128, .ref 129, .ref 130, .ref 131, .ref 132, .ref 133, .ref 134, .ref 135, .ref 136, .ref 137, .ref 138, .ref 139, .ref 140, .ref 141, .ref 142, .ref 143, .ref 144, .ref 145, .ref 146, .ref 147, .ref 148, .ref 149, .ref 150, .ref 151, .ref 152, .ref 153, .ref 154, .ref 155, .ref 156, .ref 157, .ref 158, .ref 159, .ref 160, .ref 161, .ref 162, .ref 163, .ref 164, .ref 165, .ref 166, .ref 167, .ref 168, .ref 169, .ref 170, .ref 171, .ref 172, .ref 173, .ref 174, .ref 175, .ref 176, .ref 177, .ref 178, .ref 179, .ref 180, .ref 181, .ref 182, .ref 183, .ref 184, .ref 185, .ref 186, .ref 187, .ref 188, .ref 189, .ref 190, .ref 191, .ref 192, .ref 193, .ref 194, .ref 195, .ref 196, .ref 197, .ref 198, .ref 199, .ref 200, .ref 201, .ref 202, .ref 203, .ref 204, .ref 205, .ref 206, .ref 207, .ref 208, .ref 209, .ref 210, .ref 211, .ref 212, .ref 213, .ref 214, .ref 215, .ref 216, .ref 217, .ref 218, .ref 219, .ref 220, .ref 221, .ref 222, .ref 223, .ref 224, .ref 225, .ref 226, .ref 227, .ref 228, .ref 229, .ref 230, .ref 231, .ref 232, .ref 233, .ref 234, .ref 235, .ref 236, .ref 237, .ref 238, .ref 239, .ref 240, .ref 241, .ref 242, .ref 243, .ref 244, .ref 245, .ref 246, .ref 247, .ref 248, .ref 249, .ref 250, .ref 251, .ref 252, .ref 253, .ref 254, .ref 255, .ref 256, .ref 257], vm := .none },
  { cls := 10, slots := #[.int (-128)], vm := .none },
  { cls := 10, slots := #[.int (-127)], vm := .none },
  { cls := 10, slots := #[.int (-126)], vm := .none },
  { cls := 10, slots := #[.int (-125)], vm := .none },
  { cls := 10, slots := #[.int (-124)], vm := .none },
  { cls := 10, slots := #[.int (-123)], vm := .none },
  { cls := 10, slots := #[.int (-122)], vm := .none },
  { cls := 10, slots := #[.int (-121)], vm := .none },
  { cls := 10, slots := #[.int (-120)], vm := .none },
  { cls := 10, slots := #[.int (-119)], vm := .none },
  { cls := 10, slots := #[.int (-118)], vm := .none },
  { cls := 10, slots := #[.int (-117)], vm := .none },
  { cls := 10, slots := #[.int (-116)], vm := .none },
  { cls := 10, slots := #[.int (-115)], vm := .none },
  { cls := 10, slots := #[.int (-114)], vm := .none },
  { cls := 10, slots := #[.int (-113)], vm := .none },
  { cls := 10, slots := #[.int (-112)], vm := .none },
  { cls := 10, slots := #[.int (-111)], vm := .none },
  { cls := 10, slots := #[.int (-110)], vm := .none },
  { cls := 10, slots := #[.int (-109)], vm := .none },
  { cls := 10, slots := #[.int (-108)], vm := .none },
  { cls := 10, slots := #[.int (-107)], vm := .none },
  { cls := 10, slots := #[.int (-106)], vm := .none },
  { cls := 10, slots := #[.int (-105)], vm := .none },
  { cls := 10, slots := #[.int (-104)], vm := .none },
  { cls := 10, slots := #[.int (-103)], vm := .none },
  { cls := 10, slots := #[.int (-102)], vm := .none },
  { cls := 10, slots := #[.int (-101)], vm := .none },
  { cls := 10, slots := #[.int (-100)], vm := .none },
  { cls := 10, slots := #[.int (-99)], vm := .none },
  { cls := 10, slots := #[.int (-98)], vm := .none },
  { cls := 10, slots := #[.int (-97)], vm := .none },
  { cls := 10, slots := #[.int (-96)], vm := .none },
  { cls := 10, slots := #[.int (-95)], vm := .none },
  { cls := 10, slots := #[.int (-94)], vm := .none },
  { cls := 10, slots := #[.int (-93)], vm := .none },
  { cls := 10, slots := #[.int (-92)], vm := .none },
  { cls := 10, slots := #[.int (-91)], vm := .none },
  { cls := 10, slots := #[.int (-90)], vm := .none },
  { cls := 10, slots := #[.int (-89)], vm := .none },
  { cls := 10, slots := #[.int (-88)], vm := .none },
  { cls := 10, slots := #[.int (-87)], vm := .none },
  { cls := 10, slots := #[.int (-86)], vm := .none },
  { cls := 10, slots := #[.int (-85)], vm := .none },
  { cls := 10, slots := #[.int (-84)], vm := .none },
  { cls := 10, slots := #[.int (-83)], vm := .none },
  { cls := 10, slots := #[.int (-82)], vm := .none },
  { cls := 10, slots := #[.int (-81)], vm := .none },
  { cls := 10, slots := #[.int (-80)], vm := .none },
  { cls := 10, slots := #[.int (-79)], vm := .none },
  { cls := 10, slots := #[.int (-78)], vm := .none },
  { cls := 10, slots := #[.int (-77)], vm := .none },
  { cls := 10, slots := #[.int (-76)], vm := .none },
  { cls := 10, slots := #[.int (-75)], vm := .none },
  { cls := 10, slots := #[.int (-74)], vm := .none },
  { cls := 10, slots := #[.int (-73)], vm := .none },
  { cls := 10, slots := #[.int (-72)], vm := .none },
  { cls := 10, slots := #[.int (-71)], vm := .none },
  { cls := 10, slots := #[.int (-70)], vm := .none },
  { cls := 10, slots := #[.int (-69)], vm := .none },
  { cls := 10, slots := #[.int (-68)], vm := .none },
  { cls := 10, slots := #[.int (-67)], vm := .none },
  { cls := 10, slots := #[.int (-66)], vm := .none },
  { cls := 10, slots := #[.int (-65)], vm := .none },
  { cls := 10, slots := #[.int (-64)], vm := .none },
  { cls := 10, slots := #[.int (-63)], vm := .none },
  { cls := 10, slots := #[.int (-62)], vm := .none },
  { cls := 10, slots := #[.int (-61)], vm := .none },
  { cls := 10, slots := #[.int (-60)], vm := .none },
  { cls := 10, slots := #[.int (-59)], vm := .none },
  { cls := 10, slots := #[.int (-58)], vm := .none },
  { cls := 10, slots := #[.int (-57)], vm := .none },
  { cls := 10, slots := #[.int (-56)], vm := .none },
  { cls := 10, slots := #[.int (-55)], vm := .none },
  { cls := 10, slots := #[.int (-54)], vm := .none },
  { cls := 10, slots := #[.int (-53)], vm := .none },
  { cls := 10, slots := #[.int (-52)], vm := .none },
  { cls := 10, slots := #[.int (-51)], vm := .none },
  { cls := 10, slots := #[.int (-50)], vm := .none },
  { cls := 10, slots := #[.int (-49)], vm := .none },
  { cls := 10, slots := #[.int (-48)], vm := .none },
  { cls := 10, slots := #[.int (-47)], vm := .none },
  { cls := 10, slots := #[.int (-46)], vm := .none },
  { cls := 10, slots := #[.int (-45)], vm := .none },
  { cls := 10, slots := #[.int (-44)], vm := .none },
  { cls := 10, slots := #[.int (-43)], vm := .none },
  { cls := 10, slots := #[.int (-42)], vm := .none },
  { cls := 10, slots := #[.int (-41)], vm := .none },
  { cls := 10, slots := #[.int (-40)], vm := .none },
  { cls := 10, slots := #[.int (-39)], vm := .none },
  { cls := 10, slots := #[.int (-38)], vm := .none },
  { cls := 10, slots := #[.int (-37)], vm := .none },
  { cls := 10, slots := #[.int (-36)], vm := .none },
  { cls := 10, slots := #[.int (-35)], vm := .none },
  { cls := 10, slots := #[.int (-34)], vm := .none },
  { cls := 10, slots := #[.int (-33)], vm := .none },
  { cls := 10, slots := #[.int (-32)], vm := .none },
  { cls := 10, slots := #[.int (-31)], vm := .none },
  { cls := 10, slots := #[.int (-30)], vm := .none },
  { cls := 10, slots := #[.int (-29)], vm := .none },
  { cls := 10, slots := #[.int (-28)], vm := .none },
  { cls := 10, slots := #[.int (-27)], vm := .none },
  { cls := 10, slots := #[.int (-26)], vm := .none },
  { cls := 10, slots := #[.int (-25)], vm := .none },
  { cls := 10, slots := #[.int (-24)], vm := .none },
  { cls := 10, slots := #[.int (-23)], vm := .none },
  { cls := 10, slots := #[.int (-22)], vm := .none },
  { cls := 10, slots := #[.int (-21)], vm := .none },
  { cls := 10, slots := #[.int (-20)], vm := .none },
  { cls := 10, slots := #[.int (-19)], vm := .none },
  { cls := 10, slots := #[.int (-18)], vm := .none },
  { cls := 10, slots := #[.int (-17)], vm := .none },
  { cls := 10, slots := #[.int (-16)], vm := .none },
  { cls := 10, slots := #[.int (-15)], vm := .none },
  { cls := 10, slots := #[.int (-14)], vm := .none },
  { cls := 10, slots := #[.int (-13)], vm := .none },
  { cls := 10, slots := #[.int (-12)], vm := .none },
  { cls := 10, slots := #[.int (-11)], vm := .none },
  { cls := 10, slots := #[.int (-10)], vm := .none },
  { cls := 10, slots := #[.int (-9)], vm := .none },
  { cls := 10, slots := #[.int (-8)], vm := .none },
  { cls := 10, slots := #[.int (-7)], vm := .none },
  { cls := 10, slots := #[.int (-6)], vm := .none },
  { cls := 10, slots := #[.int (-5)], vm := .none },
  { cls := 10, slots := #[.int (-4)], vm := .none },
  { cls := 10, slots := #[.int (-3)], vm := .none },
  { cls := 10, slots := #[.int (-2)], vm := .none },
  { cls := 10, slots := #[.int (-1)], vm := .none },
  { cls := 10, slots := #[.int 0], vm := .none },
  { cls := 10, slots := #[.int 1], vm := .none },
  { cls := 10, slots := #[.int 2], vm := .none },
  { cls := 10, slots := #[.int 3], vm := .none },
  { cls := 10, slots := #[.int 4], vm := .none },
  { cls := 10, slots := #[.int 5], vm := .none },
  { cls := 10, slots := #[.int 6], vm := .none },
  { cls := 10, slots := #[.int 7], vm := .none },
  { cls := 10, slots := #[.int 8], vm := .none },
  { cls := 10, slots := #[.int 9], vm := .none },
  { cls := 10, slots := #[.int 10], vm := .none },
  { cls := 10, slots := #[.int 11], vm := .none },
  { cls := 10, slots := #[.int 12], vm := .none },
  { cls := 10, slots := #[.int 13], vm := .none },
  { cls := 10, slots := #[.int 14], vm := .none },
  { cls := 10, slots := #[.int 15], vm := .none },
  { cls := 10, slots := #[.int 16], vm := .none },
  { cls := 10, slots := #[.int 17], vm := .none },
  { cls := 10, slots := #[.int 18], vm := .none },
  { cls := 10, slots := #[.int 19], vm := .none },
  { cls := 10, slots := #[.int 20], vm := .none },
  { cls := 10, slots := #[.int 21], vm := .none },
  { cls := 10, slots := #[.int 22], vm := .none },
  { cls := 10, slots := #[.int 23], vm := .none },
  { cls := 10, slots := #[.int 24], vm := .none },
  { cls := 10, slots := #[.int 25], vm := .none },
  { cls := 10, slots := #[.int 26], vm := .none },
  { cls := 10, slots := #[.int 27], vm := .none },
  { cls := 10, slots := #[.int 28], vm := .none },
  { cls := 10, slots := #[.int 29], vm := .none },
  { cls := 10, slots := #[.int 30], vm := .none },
  { cls := 10, slots := #[.int 31], vm := .none },
  { cls := 10, slots := #[.int 32], vm := .none },
  { cls := 10, slots := #[.int 33], vm := .none },
  { cls := 10, slots := #[.int 34], vm := .none },
  { cls := 10, slots := #[.int 35], vm := .none },
  { cls := 10, slots := #[.int 36], vm := .none },
  { cls := 10, slots := #[.int 37], vm := .none },
  { cls := 10, slots := #[.int 38], vm := .none },
  { cls := 10, slots := #[.int 39], vm := .none },
  { cls := 10, slots := #[.int 40], vm := .none },
  { cls := 10, slots := #[.int 41], vm := .none },
  { cls := 10, slots := #[.int 42], vm := .none },
  { cls := 10, slots := #[.int 43], vm := .none },
  { cls := 10, slots := #[.int 44], vm := .none },
  { cls := 10, slots := #[.int 45], vm := .none },
  { cls := 10, slots := #[.int 46], vm := .none },
  { cls := 10, slots := #[.int 47], vm := .none },
  { cls := 10, slots := #[.int 48], vm := .none },
  { cls := 10, slots := #[.int 49], vm := .none },
  { cls := 10, slots := #[.int 50], vm := .none },
  { cls := 10, slots := #[.int 51], vm := .none },
  { cls := 10, slots := #[.int 52], vm := .none },
  { cls := 10, slots := #[.int 53], vm := .none },
  { cls := 10, slots := #[.int 54], vm := .none },
  { cls := 10, slots := #[.int 55], vm := .none },
  { cls := 10, slots := #[.int 56], vm := .none },
  { cls := 10, slots := #[.int 57], vm := .none },
  { cls := 10, slots := #[.int 58], vm := .none },
  { cls := 10, slots := #[.int 59], vm := .none },
  { cls := 10, slots := #[.int 60], vm := .none },
  { cls := 10, slots := #[.int 61], vm := .none },
  { cls := 10, slots := #[.int 62], vm := .none },
  { cls := 10, slots := #[.int 63], vm := .none },
  { cls := 10, slots := #[.int 64], vm := .none },
  { cls := 10, slots := #[.int 65], vm := .none },
  { cls := 10, slots := #[.int 66], vm := .none },
  { cls := 10, slots := #[.int 67], vm := .none },
  { cls := 10, slots := #[.int 68], vm := .none },
  { cls := 10, slots := #[.int 69], vm := .none },
  { cls := 10, slots := #[.int 70], vm := .none },
  { cls := 10, slots := #[.int 71], vm := .none },
  { cls := 10, slots := #[.int 72], vm := .none },
  { cls := 10, slots := #[.int 73], vm := .none },
  { cls := 10, slots := #[.int 74], vm := .none },
  { cls := 10, slots := #[.int 75], vm := .none },
  { cls := 10, slots := #[.int 76], vm := .none },
  { cls := 10, slots := #[.int 77], vm := .none },
  { cls := 10, slots := #[.int 78], vm := .none },
  { cls := 10, slots := #[.int 79], vm := .none },
  { cls := 10, slots := #[.int 80], vm := .none },
  { cls := 10, slots := #[.int 81], vm := .none },
  { cls := 10, slots := #[.int 82], vm := .none },
  { cls := 10, slots := #[.int 83], vm := .none },
  { cls := 10, slots := #[.int 84], vm := .none },
  { cls := 10, slots := #[.int 85], vm := .none },
  { cls := 10, slots := #[.int 86], vm := .none },
  { cls := 10, slots := #[.int 87], vm := .none },
  { cls := 10, slots := #[.int 88], vm := .none },
  { cls := 10, slots := #[.int 89], vm := .none },
  { cls := 10, slots := #[.int 90], vm := .none },
  { cls := 10, slots := #[.int 91], vm := .none },
  { cls := 10, slots := #[.int 92], vm := .none },
  { cls := 10, slots := #[.int 93], vm := .none },
  { cls := 10, slots := #[.int 94], vm := .none },
  { cls := 10, slots := #[.int 95], vm := .none },
  { cls := 10, slots := #[.int 96], vm := .none },
  { cls := 10, slots := #[.int 97], vm := .none },
  { cls := 10, slots := #[.int 98], vm := .none },
  { cls := 10, slots := #[.int 99], vm := .none },
  { cls := 10, slots := #[.int 100], vm := .none },
  { cls := 10, slots := #[.int 101], vm := .none },
  { cls := 10, slots := #[.int 102], vm := .none },
  { cls := 10, slots := #[.int 103], vm := .none },
  { cls := 10, slots := #[.int 104], vm := .none },
  { cls := 10, slots := #[.int 105], vm := .none },
  { cls := 10, slots := #[.int 106], vm := .none },
  { cls := 10, slots := #[.int 107], vm := .none },
  { cls := 10, slots := #[.int 108], vm := .none },
  { cls := 10, slots := #[.int 109], vm := .none },
  { cls := 10, slots := #[.int 110], vm := .none },
  { cls := 10, slots := #[.int 111], vm := .none },
  { cls := 10, slots := #[.int 112], vm := .none },
  { cls := 10, slots := #[.int 113], vm := .none },
  { cls := 10, slots := #[.int 114], vm := .none },
  { cls := 10, slots := #[.int 115], vm := .none },
  { cls := 10, slots := #[.int 116], vm := .none },
  { cls := 10, slots := #[.int 117], vm := .none },
  { cls := 10, slots := #[.int 118], vm := .none },
  { cls := 10, slots := #[.int 119], vm := .none },
  { cls := 10, slots := #[.int 120], vm := .none },
  { cls := 10, slots := #[.int 121], vm := .none },
  { cls := 10, slots := #[.int 122], vm := .none },
  { cls := 10, slots := #[.int 123], vm := .none },
  { cls := 10, slots := #[.int 124], vm := .none },
  { cls := 10, slots := #[.int 125], vm := .none },
  { cls := 10, slots := #[.int 126], vm := .none },
  { cls := 10, slots := #[.int 127], vm := .none }]
def classes : Array Class := #[k0, k1, k2, k3, k4, k5, k6, k7, k8, k9, k10, k11, k12, k13, k14, k15, k16, k17]
def interned : List (Array UInt16 × Addr) := []
def slotsUsed : Nat := 517
def theMethod : MethodId := ⟨1, 1⟩
def args0 : Array Value := #[.long 5, .long 6, .int 1]
def aboutOver (below : List Frame) : State where
  vm := { classes := classes, interned := interned.toArray }
  heap := heap
  slotsUsed := slotsUsed
  threads := #[{ frames := .invoking theMethod args0 :: below }]
def below0 : List Frame := [.native { method := ⟨0, 0⟩, args := #[] }]
def about1 : State := aboutOver below0
def p0 : Program := .bare "" "" ""
def e0 : Env := launch0.env 0 0 0
theorem w_frames : about1.frames = Frame.invoking theMethod args0 :: below0 := rfl
set_option maxRecDepth 65536 in
theorem w_args : argsFit about1.vm theMethod args0 = true := by decide +kernel
set_option maxRecDepth 65536 in
theorem w_heap : heapFits about1 = true := by decide +kernel
set_option maxRecDepth 65536 in
theorem w_runnable : about1.curStatus? = some .runnable := by decide +kernel
set_option maxRecDepth 65536 in
theorem w_alone : about1.alone = true := by decide +kernel
set_option maxRecDepth 65536 in
theorem w_named : about1.methodNamed? x = some theMethod := by decide +kernel
set_option maxRecDepth 65536 in
theorem w_hears : about1.hears theMethod below0 = true := by decide +kernel
set_option maxRecDepth 65536 in
theorem w_ripe : about1.ripe theMethod args0 below0 = true := by decide +kernel
theorem w_running : about1.status = .running := rfl
set_option maxRecDepth 65536 in
theorem w_room : about1.hasRoom e0.platform room_1 = true :=
  launch0.hasRoom_least _ room_1 (by decide +kernel) (by decide +kernel) (by decide +kernel) (by decide +kernel) (by decide +kernel) (by decide +kernel)
theorem allAtoms_all (ts : List Jvm.Cond) (a : Array Jvm.Value) (st : Jvm.State) : (allAtoms ts).before a st = ts.all (fun c => c.before a st) := by
  induction ts with
  | nil => rfl
  | cons c t ih =>
    show (Jvm.Cond.and c (allAtoms t)).before a st = _
    rw [Jvm.Cond.before_and, ih, List.all_cons]
def words1 : List Jvm.Cond := Jvm.Cond.code x code maxLocals ret :: tables_1
/-- a 'code' word, met by the world's own term for the bytes: nothing is compared byte by byte -/
theorem code_word {y : MethodName} {bytes : ByteArray} {mx : Nat} {rt : Option FieldType} {a : Array Value} {s : State} {m : MethodId} {meth : Method} {c : Code} (h1 : s.methodNamed? y = some m) (h2 : s.vm.method? m = some meth) (h3 : meth.code = some c) (h4 : c.code = bytes)
    (h5 : (c.maxLocals == mx && c.exceptionTable.isEmpty && decide (c.maxStack ≤ mostOperands) && decide (meth.sig.returnType = rt) && !meth.locks && decide (parseMethodDescriptor y.desc = some meth.sig)) = true) : (Jvm.Cond.code y bytes mx rt).before a s = true := by
  simp only [Bool.and_eq_true, beq_iff_eq, Bool.not_eq_true', decide_eq_true_eq] at h5
  obtain ⟨⟨⟨⟨⟨g1, g2⟩, g3⟩, g4⟩, g5⟩, g6⟩ := h5
  simp [Cond.before, Cond.holds, Cond.value, h1, h2, h3, h4, g1, g2, g3, g4, g5, g6]
def isCode : Jvm.Cond → Bool
  | .code _ _ _ _ => true
  | _ => false
theorem all_split {L : List Jvm.Cond} {P : Jvm.Cond → Bool} (h1 : L.all (fun c => isCode c || P c) = true) (h2 : ∀ c ∈ L.filter isCode, P c = true) : L.all P = true := by
  refine List.all_eq_true.mpr fun c hc => ?_
  have h := List.all_eq_true.mp h1 c hc
  rcases Bool.eq_false_or_eq_true (isCode c) with hi | hi
  · exact h2 c (List.mem_filter.mpr ⟨hc, hi⟩)
  · simpa [hi] using h
set_option maxRecDepth 65536 in
theorem w_c0 : (Jvm.Cond.code x code maxLocals ret).before args0 about1 = true := code_word (m := ⟨1, 1⟩) (meth := k1m1) (c := k1c1) (by decide +kernel) rfl rfl rfl (by decide +kernel)
set_option maxRecDepth 65536 in
theorem w_c1 : (Jvm.Cond.code ({ cls := "java/lang/Math", name := "min", desc := "(JJ)J" } : Jvm.MethodName) jdk_29_method_70_code (4 : Nat) (Option.some Jvm.ClassFile.FieldType.long)).before args0 about1 = true := code_word (m := ⟨2, 2⟩) (meth := k2m2) (c := k2c2) (by decide +kernel) rfl rfl rfl (by decide +kernel)
set_option maxRecDepth 65536 in
theorem w_c2 : (Jvm.Cond.code ({ cls := "java/lang/Math", name := "max", desc := "(JJ)J" } : Jvm.MethodName) jdk_29_method_66_code (4 : Nat) (Option.some Jvm.ClassFile.FieldType.long)).before args0 about1 = true := code_word (m := ⟨2, 1⟩) (meth := k2m1) (c := k2c1) (by decide +kernel) rfl rfl rfl (by decide +kernel)
set_option maxRecDepth 65536 in
theorem w_c3 : (Jvm.Cond.code ({ cls := "java/lang/Integer", name := "valueOf", desc := "(I)Ljava/lang/Integer;" } : Jvm.MethodName) jdk_33_method_22_code (1 : Nat) (Option.some (Jvm.ClassFile.FieldType.object "java/lang/Integer"))).before args0 about1 = true := code_word (m := ⟨10, 0⟩) (meth := k10m0) (c := k10c0) (by decide +kernel) rfl rfl rfl (by decide +kernel)
set_option maxRecDepth 65536 in
theorem w_c4 : (Jvm.Cond.code ({ cls := "com/example/ringward/ringward/moves/MovedRange", name := "<init>", desc := "(JJLjava/lang/Object;Ljava/lang/Object;)V" } : Jvm.MethodName) prog_16_method_1_code (7 : Nat) (Option.none : Option Jvm.ClassFile.FieldType)).before args0 about1 = true := code_word (m := ⟨4, 0⟩) (meth := k4m0) (c := k4c0) (by decide +kernel) rfl rfl rfl (by decide +kernel)
set_option maxRecDepth 65536 in
theorem w_c5 : (Jvm.Cond.code ({ cls := "java/lang/Record", name := "<init>", desc := "()V" } : Jvm.MethodName) jdk_30_method_1_code (1 : Nat) (Option.none : Option Jvm.ClassFile.FieldType)).before args0 about1 = true := code_word (m := ⟨3, 0⟩) (meth := k3m0) (c := k3c0) (by decide +kernel) rfl rfl rfl (by decide +kernel)
set_option maxRecDepth 65536 in
theorem w_c6 : (Jvm.Cond.code ({ cls := "java/lang/Object", name := "<init>", desc := "()V" } : Jvm.MethodName) object_method_1_code (1 : Nat) (Option.none : Option Jvm.ClassFile.FieldType)).before args0 about1 = true := code_word (m := ⟨0, 0⟩) (meth := k0m0) (c := k0c0) (by decide +kernel) rfl rfl rfl (by decide +kernel)
set_option maxRecDepth 65536 in
theorem w_c7 : (Jvm.Cond.code ({ cls := "com/example/ringward/ringward/moves/MovedRange", name := "positionCount", desc := "()J" } : Jvm.MethodName) prog_16_method_2_code (1 : Nat) (Option.some Jvm.ClassFile.FieldType.long)).before args0 about1 = true := code_word (m := ⟨4, 1⟩) (meth := k4m1) (c := k4c1) (by decide +kernel) rfl rfl rfl (by decide +kernel)
set_option maxRecDepth 65536 in
theorem w_c8 : (Jvm.Cond.code ({ cls := "java/lang/Integer", name := "<init>", desc := "(I)V" } : Jvm.MethodName) jdk_33_method_23_code (2 : Nat) (Option.none : Option Jvm.ClassFile.FieldType)).before args0 about1 = true := code_word (m := ⟨10, 1⟩) (meth := k10m1) (c := k10c1) (by decide +kernel) rfl rfl rfl (by decide +kernel)
set_option maxRecDepth 65536 in
theorem w_c9 : (Jvm.Cond.code ({ cls := "java/lang/Number", name := "<init>", desc := "()V" } : Jvm.MethodName) jdk_18_method_1_code (1 : Nat) (Option.none : Option Jvm.ClassFile.FieldType)).before args0 about1 = true := code_word (m := ⟨6, 0⟩) (meth := k6m0) (c := k6c0) (by decide +kernel) rfl rfl rfl (by decide +kernel)
def codes1 : List Jvm.Cond := [Jvm.Cond.code x code maxLocals ret, Jvm.Cond.code ({ cls := "java/lang/Math", name := "min", desc := "(JJ)J" } : Jvm.MethodName) jdk_29_method_70_code (4 : Nat) (Option.some Jvm.ClassFile.FieldType.long), Jvm.Cond.code ({ cls := "java/lang/Math", name := "max", desc := "(JJ)J" } : Jvm.MethodName) jdk_29_method_66_code (4 : Nat) (Option.some Jvm.ClassFile.FieldType.long), Jvm.Cond.code ({ cls := "java/lang/Integer", name := "valueOf", desc := "(I)Ljava/lang/Integer;" } : Jvm.MethodName) jdk_33_method_22_code (1 : Nat) (Option.some (Jvm.ClassFile.FieldType.object "java/lang/Integer")), Jvm.Cond.code ({ cls := "com/example/ringward/ringward/moves/MovedRange", name := "<init>", desc := "(JJLjava/lang/Object;Ljava/lang/Object;)V" } : Jvm.MethodName) prog_16_method_1_code (7 : Nat) (Option.none : Option Jvm.ClassFile.FieldType), Jvm.Cond.code ({ cls := "java/lang/Record", name := "<init>", desc := "()V" } : Jvm.MethodName) jdk_30_method_1_code (1 : Nat) (Option.none : Option Jvm.ClassFile.FieldType), Jvm.Cond.code ({ cls := "java/lang/Object", name := "<init>", desc := "()V" } : Jvm.MethodName) object_method_1_code (1 : Nat) (Option.none : Option Jvm.ClassFile.FieldType), Jvm.Cond.code ({ cls := "com/example/ringward/ringward/moves/MovedRange", name := "positionCount", desc := "()J" } : Jvm.MethodName) prog_16_method_2_code (1 : Nat) (Option.some Jvm.ClassFile.FieldType.long), Jvm.Cond.code ({ cls := "java/lang/Integer", name := "<init>", desc := "(I)V" } : Jvm.MethodName) jdk_33_method_23_code (2 : Nat) (Option.none : Option Jvm.ClassFile.FieldType), Jvm.Cond.code ({ cls := "java/lang/Number", name := "<init>", desc := "()V" } : Jvm.MethodName) jdk_18_method_1_code (1 : Nat) (Option.none : Option Jvm.ClassFile.FieldType)]
set_option maxRecDepth 65536 in
theorem codes_eq : words1.filter isCode = codes1 := rfl
theorem w_codes : ∀ c ∈ words1.filter isCode, c.before args0 about1 = true := by
  rw [codes_eq]
  intro c hc
  simp only [codes1, List.mem_cons, List.not_mem_nil, or_false] at hc
  rcases hc with rfl | rfl | rfl | rfl | rfl | rfl | rfl | rfl | rfl | rfl
  · exact w_c0
  · exact w_c1
  · exact w_c2
  · exact w_c3
  · exact w_c4
  · exact w_c5
  · exact w_c6
  · exact w_c7
  · exact w_c8
  · exact w_c9
set_option maxRecDepth 65536 in
theorem w_t1 : (words1.take 24).all (fun c => isCode c || c.before args0 about1) = true := by decide +kernel
set_option maxRecDepth 65536 in
theorem w_t2 : ((words1.drop 24).take 24).all (fun c => isCode c || c.before args0 about1) = true := by decide +kernel
set_option maxRecDepth 65536 in
theorem w_t3 : ((words1.drop 24).drop 24).all (fun c => isCode c || c.before args0 about1) = true := by decide +kernel
theorem w_tables : (allAtoms (Jvm.Cond.code x code maxLocals ret :: tables_1)).before args0 about1 = true := by
  rw [allAtoms_all]
  show words1.all (fun c => c.before args0 about1) = true
  refine all_split ?_ w_codes
  rw [← List.take_append_drop 24 words1, List.all_append, w_t1, ← List.take_append_drop 24 (words1.drop 24), List.all_append, w_t2, w_t3]
  rfl
set_option maxRecDepth 65536 in
theorem w_rest : rest_1_c.before args0 about1 = true := by decide +kernel
set_option maxRecDepth 65536 in
theorem w_case : (Jvm.Cond.and given_1 narrow_1).before args0 about1 = true := by decide +kernel
theorem w_applies : (headSpec (Jvm.Cond.code x code maxLocals ret :: tables_1) room_1).applies x e0.platform about1 = true :=
  (Spec.applies_iff w_frames).mpr ⟨w_running, w_runnable, w_alone, w_named, w_hears, w_ripe, w_room, w_tables⟩
theorem atStart : AtStart classFile x code maxLocals ret World_1 tables_1 room_1 Calls_1 rest_1 Pre_1 launch0 p0 e0 about1 theMethod args0 below0 :=
  ⟨lists_1, trivial, launch0.admits_env _ _ _, launch0.least_env, fairChoices_fair.cas, fairChoices_fair.clock, w_frames, w_args, w_heap, w_applies, trivial, w_rest, w_case⟩
end start1
theorem witness_1 : WitnessClaimed_1 := ⟨start1.p0, start1.e0, start1.about1, start1.theMethod, start1.args0, start1.below0, start1.atStart⟩
end Jvm.Pilot.@@N@@
