import JvmDerived
import JvmDerived.Pilot.@@N@@Statement
import JvmDerived.Pilot.@@N@@Code
set_option linter.unusedVariables false
set_option linter.unusedSimpArgs false
namespace Jvm.Pilot.@@N@@
open Jvm Jvm.ClassFile Sem Op Lib Jvm.Free Jvm.Stand Jvm.LawKit Jvm.RoadKit Bundle Jvm.Pilot.@@N@@.Jvm.D

section OwnKit
variable {p : Program} {l : Launch} {e : Env} {R : Room} {s : State} {m : MethodId} {args : Array Value} {below : List Frame} {meth : Method} {c : Code} {T T' : State} {locs : List Loc} {cells slots : Nat} {g g' : JFrame} {Q : Option Value → Heap → List Loc → Prop} {k n : Nat} {Z : State} {h : Heap} {a0 : Array Value}
/-- from here the run comes to the method's end, and there Q holds -/
def Go (p : Program) (e : Env) (s : State) (below : List Frame) (Q : Option Value → Heap → List Loc → Prop) (k n : Nat) (T : State) (g : JFrame) : Prop :=
  ∃ s₂ o, Steps p.tables e below (T.setTop g) s₂ ∧ s₂.status = .running ∧ Ended s₂ below o ∧ ∃ v L, o = .returned v ∧ Q v s₂.heap L ∧ FrameEnd s o s₂ L k n
theorem Go.st (st : ∀ t, Steps p.tables e below (T'.setTop g') t → Steps p.tables e below (T.setTop g) t) (G : Go p e s below Q k n T' g') : Go p e s below Q k n T g := by
  obtain ⟨t, o, h1, r⟩ := G
  exact ⟨t, o, st _ h1, r⟩
theorem Go.thru (st : Steps p.tables e below (T.setTop g) (T'.setTop g')) (G : Go p e s below Q k n T' g') : Go p e s below Q k n T g := Go.st (fun _ q => st.trans q) G
theorem Go.cast (q : g = g') (G : Go p e s below Q k n T g') : Go p e s below Q k n T g := q ▸ G
theorem Go.end_ (X : Stand p l e R s m args below meth c T locs cells slots) {v : Option Value} (hv : meth.sig.returnType = none → v = none) (hlk : meth.locks = false)
    (st : ∀ fs, (∀ (f : JFrame) (acts : List Action), f.method = m → f.locked = none → f.entered = [] → (doReturn e (T.setTop f) acts v).1 = T.setFrames fs) → Steps p.tables e below (T.setTop g) (T.setFrames fs))
    (hk : cells ≤ k) (hn : slots ≤ n) (hQ : Q v T.heap locs) : Go p e s below Q k n T g := by
  obtain ⟨fs, hr, hrun, hended, hW, hsame⟩ := X.leave (v := v) hv hlk
  exact ⟨_, _, st fs hr, hrun, hended, _, _, rfl, hQ, ⟨_, rfl⟩, hW, hsame.mono hk hn⟩
theorem own_some {t : FieldType} {v : Option Value} (h : meth.sig.returnType = some t) : meth.sig.returnType = none → v = none := fun q => by rw [h] at q; cases q
/-- ireturn of a boolean (also byte, char, short) -/
theorem Go.retN (X : Stand p l e R s m args below meth c T locs cells slots) (hx : p.tables.exec = Jvm.exec) (hlk : meth.locks = false) {t : FieldType} (hret : meth.sig.returnType = some t) (ht : t = .boolean ∨ t = .byte ∨ t = .char ∨ t = .short) {pc : Nat} {Ls : Array Slot} {z : Int32} {rest : List Value}
    (hd : decode c.code pc = .ok (.ireturn, 1)) (hk : cells ≤ k) (hn : slots ≤ n) (hQ : Q (some (.int (nar t z))) T.heap locs) : Go p e s below Q k n T (mkF m pc Ls (.int z :: rest)) :=
  Go.end_ X (own_some hret) hlk (fun _ hr => Jvm.RoadKit.retN X hx hret ht hd hr) hk hn hQ
theorem Go.retI (X : Stand p l e R s m args below meth c T locs cells slots) (hx : p.tables.exec = Jvm.exec) (hlk : meth.locks = false) (hret : meth.sig.returnType = some .int) {pc : Nat} {Ls : Array Slot} {z : Int32} {rest : List Value}
    (hd : decode c.code pc = .ok (.ireturn, 1)) (hk : cells ≤ k) (hn : slots ≤ n) (hQ : Q (some (.int z)) T.heap locs) : Go p e s below Q k n T (mkF m pc Ls (.int z :: rest)) :=
  Go.end_ X (own_some hret) hlk (fun _ hr => Jvm.RoadKit.retOut X hx hret rfl (Or.inl ⟨rfl, Or.inl rfl, _, rfl⟩) hd hr) hk hn hQ
theorem Go.retJ (X : Stand p l e R s m args below meth c T locs cells slots) (hx : p.tables.exec = Jvm.exec) (hlk : meth.locks = false) (hret : meth.sig.returnType = some .long) {pc : Nat} {Ls : Array Slot} {z : Int64} {rest : List Value}
    (hd : decode c.code pc = .ok (.lreturn, 1)) (hk : cells ≤ k) (hn : slots ≤ n) (hQ : Q (some (.long z)) T.heap locs) : Go p e s below Q k n T (mkF m pc Ls (.long z :: rest)) :=
  Go.end_ X (own_some hret) hlk (fun _ hr => Jvm.RoadKit.retOut X hx hret rfl (Or.inr (Or.inl ⟨rfl, rfl, _, rfl⟩)) hd hr) hk hn hQ
theorem own_narR {t : FieldType} {v : Value} (ht : t.isReference = true) (hv : v.isRef = true) : narrow t v = v := by
  rcases ref_cases hv with rfl | ⟨a, rfl⟩ <;> cases t <;> rfl
theorem Go.retA (X : Stand p l e R s m args below meth c T locs cells slots) (hx : p.tables.exec = Jvm.exec) (hlk : meth.locks = false) {t : FieldType} (hret : meth.sig.returnType = some t) (ht : t.isReference = true) {pc : Nat} {Ls : Array Slot} {v : Value} {rest : List Value} (hv : v.isRef = true)
    (hd : decode c.code pc = .ok (.areturn, 1)) (hk : cells ≤ k) (hn : slots ≤ n) (hQ : Q (some v) T.heap locs) : Go p e s below Q k n T (mkF m pc Ls (v :: rest)) :=
  Go.end_ X (own_some hret) hlk (fun _ hr => Jvm.RoadKit.retOut X hx hret (own_narR ht hv) (Or.inr (Or.inr (Or.inr (Or.inr ⟨rfl, ht, hv⟩)))) hd hr) hk hn hQ
theorem Go.retV (X : Stand p l e R s m args below meth c T locs cells slots) (hx : p.tables.exec = Jvm.exec) (hlk : meth.locks = false) (hret : meth.sig.returnType = none) {pc : Nat} {Ls : Array Slot}
    (hd : decode c.code pc = .ok (.return_, 1)) (hk : cells ≤ k) (hn : slots ≤ n) (hQ : Q none T.heap locs) : Go p e s below Q k n T (mkF m pc Ls []) :=
  Go.end_ X (fun _ => rfl) hlk (fun _ hr => X.returnOut hx hret hd hr) hk hn hQ
/-- a body's contract -/
def Meets (l : Launch) (Z : State) (y : MethodName) (bytes : ByteArray) (maxL : Nat) (ret : Option FieldType) (rm : Room) (ws : List Jvm.Cond) (as' : Array Value) (h : Heap) (Q : Option Value → Heap → List Loc → Prop) : Prop :=
  MetFree l y (head1 (Jvm.Cond.code y bytes maxL ret :: ws) rm) (fun a U => a = as' ∧ Z.Warmed39 U.vm ∧ U.heap = h) (fun _ _ _ _ _ => True) (fun _ U o U' => ∃ v L, o = .returned v ∧ Q v U'.heap L ∧ FrameEnd U o U' L rm.cells rm.slots)
theorem Meets.of {y : MethodName} {bytes : ByteArray} {maxL : Nat} {ret : Option FieldType} {rm : Room} {ws : List Jvm.Cond} {as' : Array Value} (hpl : plainFor y = true)
    (body : ∀ (p : Program) (e : Env) (s : State) (m : MethodId) (below : List Frame) (meth : Method) (c : Code) (s₁ : State), Stand p l e rm s m as' below meth c s₁ [] 0 0 → p.tables.exec = Jvm.exec → c.code = bytes → c.maxLocals = maxL → meth.sig.returnType = ret → meth.locks = false → meth.name = y.name → Z.Warmed39 s.vm → s.vm.findClass y.cls = some m.cls → s₁.heap = h →
      Go p e s below Q rm.cells rm.slots s₁ (entryFrame m as' maxL)) : Meets l Z y bytes maxL ret rm ws as' h Q := by
  unfold Meets
  refine MetFree.of_bodySF hpl hisR ?_
  intro p e s m args below meth c s₁ Bd hml0 hP hK
  obtain ⟨rfl, hZ, hh⟩ := hP
  exact body p e s m below meth c s₁ (Stand.of_body Bd) Bd.exec Bd.bytes hml0 Bd.returns Bd.notSynchronized (name_of_methodNamed Bd.named Bd.method).1 hZ (findClass_of_methodNamed Bd.named) (by rw [← hh, Bd.state]; rfl)
section Calls
variable {y z : MethodName} {own C : String} {index : Nat} {bytes : ByteArray} {maxL : Nat} {ret : Option FieldType} {rm : Room} {W : Nat} {Q0 : Option Value → Heap → List Loc → Prop} {b : Addr} {argsL rest : List Value} {pc : Nat} {Ls : Array Slot}
theorem Go.callS (X : Stand p l e R s m args below meth c T locs cells slots) (hx : p.tables.exec = Jvm.exec) (hZ : Z.Warmed39 s.vm) (hown : s.vm.findClass own = some m.cls)
    (w1 : (Jvm.Cond.methodLink own index y).before a0 Z = true) (w2 : (Jvm.Cond.static y).before a0 Z = true) (w3 : (Jvm.Cond.initialized y.cls).before a0 Z = true) (w4 : (Jvm.Cond.code y bytes maxL ret).before a0 Z = true)
    (hM : Meets l Z y bytes maxL ret rm [] argsL.toArray h Q0) (eT : T.heap = h) (hy : y.cls ≠ "java/lang/invoke/MethodHandle" ∧ y.cls ≠ "java/lang/invoke/VarHandle")
    (hf : rm.frames + 1 ≤ R.frames) (hl : W + (maxL + 11) + rm.locals ≤ R.locals) (hcl : cells + rm.cells ≤ R.cells) (hsl : slots + rm.slots ≤ R.slots)
    (hsize : Ls.size = c.maxLocals) (hlen : ∀ sig, parseMethodDescriptor y.desc = some sig → argsL.length = sig.parameters.length) (hW : 2 * 0 + (rest.map fun v => v.category).sum ≤ W)
    (hd : decode c.code pc = .ok (.invokestatic index, 3))
    (next : ∀ (T' : State) (v : Option Value) (L : List Loc), Stand p l e R s m args below meth c T' (locs ++ L) (cells + rm.cells) (slots + rm.slots) → Q0 v T'.heap L → Go p e s below Q k n T' (mkF m (pc + 3) Ls (v.toList ++ rest))) :
    Go p e s below Q k n T (mkF m pc Ls (argsL.reverse ++ rest)) := by
  obtain ⟨v, _, ⟨T', L', k', n'⟩, -, X', ⟨Lc, hQ, l', y', z'⟩, st⟩ := Jvm.LawKit.callS X hx (y := y) hown (mvT hZ w1) (mvT hZ w2) (mvT hZ w3) (mvT hZ w4) hy (backOf (W := W) hM hZ w4 w3 hf hl) (g := mkF m pc Ls (argsL.reverse ++ rest)) rfl hsize (argsL := argsL) (rest := rest) hlen rfl hW hd (fun _ _ => ⟨rfl, eT, hcl, hsl⟩)
  dsimp only [Pt.U, Pt.locs, Pt.cells, Pt.slots] at X' l' y' z' st hQ
  subst l' y' z'
  exact Go.st st (next T' v Lc X' hQ)
theorem Go.callV (X : Stand p l e R s m args below meth c T locs cells slots) (hx : p.tables.exec = Jvm.exec) (hZ : Z.Warmed39 s.vm) (hown : s.vm.findClass own = some m.cls)
    (w1 : (Jvm.Cond.methodLink own index y).before a0 Z = true) (w2 : (Jvm.Cond.declares y).before a0 Z = true) (hnf : NotFace s y) (w3 : (Jvm.Cond.selects C y z).before a0 Z = true) (w4 : (Jvm.Cond.instanceMethod z).before a0 Z = true) (w5 : (Jvm.Cond.initialized z.cls).before a0 Z = true) (w6 : (Jvm.Cond.code z bytes maxL ret).before a0 Z = true)
    (hM : Meets l Z z bytes maxL ret rm [] (.ref b :: argsL).toArray h Q0) (eT : T.heap = h) (E : Exa Z h b C) (hy : y.cls ≠ "java/lang/invoke/MethodHandle" ∧ y.cls ≠ "java/lang/invoke/VarHandle")
    (hf : rm.frames + 1 ≤ R.frames) (hl : W + (maxL + 11) + rm.locals ≤ R.locals) (hcl : cells + rm.cells ≤ R.cells) (hsl : slots + rm.slots ≤ R.slots)
    (hsize : Ls.size = c.maxLocals) (hlen : ∀ sig, parseMethodDescriptor y.desc = some sig → argsL.length = sig.parameters.length) (hW : 2 * 0 + (rest.map fun v => v.category).sum ≤ W)
    (hd : decode c.code pc = .ok (.invokevirtual index, 3))
    (next : ∀ (T' : State) (v : Option Value) (L : List Loc), Stand p l e R s m args below meth c T' (locs ++ L) (cells + rm.cells) (slots + rm.slots) → Q0 v T'.heap L → Go p e s below Q k n T' (mkF m (pc + 3) Ls (v.toList ++ rest))) :
    Go p e s below Q k n T (mkF m pc Ls (argsL.reverse ++ .ref b :: rest)) := by
  obtain ⟨cq, kq, qa, qb, qc⟩ := isOf hZ eT E
  obtain ⟨v, _, ⟨T', L', k', n'⟩, -, X', ⟨Lc, hQ, l', y', z'⟩, st⟩ := X.virtualBack hx (y := y) (z := z) hown (mvT hZ w1) (mvT hZ w2) hnf (mvT hZ w3) (mvT hZ w4) hy (backOf (W := W) hM hZ w6 w5 hf hl) qa qc (g := mkF m pc Ls (argsL.reverse ++ .ref b :: rest)) rfl hsize (Steps.refl _) (argsL := argsL) (rest := rest) hlen rfl hW hd (fun _ _ => ⟨rfl, eT, hcl, hsl⟩)
  dsimp only [Pt.U, Pt.locs, Pt.cells, Pt.slots] at X' l' y' z' st hQ
  subst l' y' z'
  exact Go.thru st (next T' v Lc X' hQ)
/-- an inherited method, named through the subclass -/
theorem Go.callU {owner : String} {x' : MethodName} (X : Stand p l e R s m args below meth c T locs cells slots) (hx : p.tables.exec = Jvm.exec) (hZ : Z.Warmed39 s.vm) (hown : s.vm.findClass own = some m.cls)
    (w1 : (Jvm.Cond.methodLink own index x').before a0 Z = true) (w2 : (Jvm.Cond.sameMethod x'.cls owner x'.name x'.desc).before a0 Z = true) (w3 : (Jvm.Cond.declares ⟨owner, x'.name, x'.desc⟩).before a0 Z = true) (w4 : (Jvm.Cond.selects C x' z).before a0 Z = true) (w5 : (Jvm.Cond.instanceMethod z).before a0 Z = true) (w6 : (Jvm.Cond.initialized z.cls).before a0 Z = true) (w7 : (Jvm.Cond.code z bytes maxL ret).before a0 Z = true)
    (hM : Meets l Z z bytes maxL ret rm [] (.ref b :: argsL).toArray h Q0) (eT : T.heap = h) (E : Exa Z h b C) (hy : owner ≠ "java/lang/invoke/MethodHandle" ∧ owner ≠ "java/lang/invoke/VarHandle")
    (hf : rm.frames + 1 ≤ R.frames) (hl : W + (maxL + 11) + rm.locals ≤ R.locals) (hcl : cells + rm.cells ≤ R.cells) (hsl : slots + rm.slots ≤ R.slots)
    (hsize : Ls.size = c.maxLocals) (hlen : ∀ sig, parseMethodDescriptor x'.desc = some sig → argsL.length = sig.parameters.length) (hW : 2 * 0 + (rest.map fun v => v.category).sum ≤ W)
    (hd : decode c.code pc = .ok (.invokevirtual index, 3))
    (next : ∀ (T' : State) (v : Option Value) (L : List Loc), Stand p l e R s m args below meth c T' (locs ++ L) (cells + rm.cells) (slots + rm.slots) → Q0 v T'.heap L → Go p e s below Q k n T' (mkF m (pc + 3) Ls (v.toList ++ rest))) :
    Go p e s below Q k n T (mkF m pc Ls (argsL.reverse ++ .ref b :: rest)) := by
  obtain ⟨cq, kq, qa, qb, qc⟩ := isOf hZ eT E
  obtain ⟨v, _, ⟨T', L', k', n'⟩, -, X', ⟨Lc, hQ, l', y', z'⟩, st⟩ := X.virtualBackUp hx (x := x') (y := z) hown (mvT hZ w1) (mvT hZ w2) (mvT hZ w3) hy (mvT hZ w4) (mvT hZ w5) (backOf (W := W) hM hZ w7 w6 hf hl) qa qc (g := mkF m pc Ls (argsL.reverse ++ .ref b :: rest)) rfl hsize (Steps.refl _) (argsL := argsL) (rest := rest) hlen rfl hW hd (fun _ _ => ⟨rfl, eT, hcl, hsl⟩)
  dsimp only [Pt.U, Pt.locs, Pt.cells, Pt.slots] at X' l' y' z' st hQ
  subst l' y' z'
  exact Go.thru st (next T' v Lc X' hQ)
/-- a constructor -/
theorem Go.callC (X : Stand p l e R s m args below meth c T locs cells slots) (hx : p.tables.exec = Jvm.exec) (hZ : Z.Warmed39 s.vm) (hy1 : y.name = "<init>") (hown : s.vm.findClass own = some m.cls)
    (w1 : (Jvm.Cond.methodLink own index y).before a0 Z = true) (w2 : (Jvm.Cond.instanceMethod y).before a0 Z = true) (w3 : (Jvm.Cond.initialized y.cls).before a0 Z = true) (w4 : (Jvm.Cond.code y bytes maxL none).before a0 Z = true)
    (hM : Meets l Z y bytes maxL none rm [] (.ref b :: argsL).toArray h Q0) (eT : T.heap = h) (hy : y.cls ≠ "java/lang/invoke/MethodHandle" ∧ y.cls ≠ "java/lang/invoke/VarHandle")
    (hf : rm.frames + 1 ≤ R.frames) (hl : W + (maxL + 11) + rm.locals ≤ R.locals) (hcl : cells + rm.cells ≤ R.cells) (hsl : slots + rm.slots ≤ R.slots)
    (hsize : Ls.size = c.maxLocals) (hlen : ∀ sig, parseMethodDescriptor y.desc = some sig → argsL.length = sig.parameters.length) (hW : 2 * 0 + (rest.map fun v => v.category).sum ≤ W)
    (hd : decode c.code pc = .ok (.invokespecial index, 3))
    (next : ∀ (T' : State) (v : Option Value) (L : List Loc), Stand p l e R s m args below meth c T' (locs ++ L) (cells + rm.cells) (slots + rm.slots) → Q0 v T'.heap L → Go p e s below Q k n T' (mkF m (pc + 3) Ls (v.toList ++ rest))) :
    Go p e s below Q k n T (mkF m pc Ls (argsL.reverse ++ .ref b :: rest)) := by
  obtain ⟨v, _, ⟨T', L', k', n'⟩, -, X', ⟨Lc, hQ, l', y', z'⟩, st⟩ := X.specialBack hx (y := y) hy1 hown (mvT hZ w1) (mvT hZ w2) (mvT hZ w4) hy (backOf (W := W) hM hZ w4 w3 hf hl) (g := mkF m pc Ls (argsL.reverse ++ .ref b :: rest)) rfl hsize (Steps.refl _) (a := b) (argsL := argsL) (rest := rest) hlen rfl hW hd (fun _ _ => ⟨rfl, eT, hcl, hsl⟩)
  dsimp only [Pt.U, Pt.locs, Pt.cells, Pt.slots] at X' l' y' z' st hQ
  subst l' y' z'
  exact Go.thru st (next T' v Lc X' hQ)
end Calls
end OwnKit
section OwnExt
variable {Z : State} {h h' h'' : Heap} {a : Addr} {sl : Nat} {v : Value}
theorem own_extR (h : Heap) : Ext h h := ⟨Nat.le_refl _, fun _ _ q => q⟩
theorem own_extE (E : Ext h h') (E' : Ext h' h'') : Ext h h'' := ⟨Nat.le_trans E.1 E'.1, fun x c q => E'.2 x c (E.2 x c q)⟩
theorem own_extW (E : Ext h h') (W : Wr h' h'' a sl v) (q : h.size ≤ a) : Ext h h'' := by
  refine ⟨by rw [W.size]; exact E.1, fun x c r => ?_⟩
  have hlt := (Array.getElem?_eq_some_iff.mp r).1
  obtain ⟨c', e1, -, -, -, e5, -⟩ := wr_at W (E.2 x c r)
  rw [e1, e5 (Nat.ne_of_lt (Nat.lt_of_lt_of_le hlt q))]
theorem own_extK {ws : List Addr} (E : Ext h h') (K : Keep h' h'' ws) (q : ∀ x ∈ ws, h.size ≤ x) : Ext h h'' :=
  ⟨Nat.le_trans E.1 K.1, fun x c r => K.2.1 x c (E.2 x c r) fun z => absurd (Array.getElem?_eq_some_iff.mp r).1 (Nat.not_lt.mpr (q x z))⟩
end OwnExt

theorem own_eqI {args : Array Value} {Z : State} {t : Term} {i : Int32} (h : (Jvm.Cond.eq t (.int i)).value args Z none Z [] = some true) : t.eval args Z none [] Z = some (.int i) := by
  simp only [Cond.value, Term.eval] at h
  cases ht : t.eval args Z none [] Z with
  | none => simp [ht] at h
  | some x => cases x <;> simp_all
theorem own_const {C nm d : String} {i : Int32} {args : Array Value} {Z : State} (w1 : (Jvm.Cond.exactly (.static C nm d) C).value args Z none Z [] = some true)
    (w2 : (Jvm.Cond.eq (.field (.static C nm d) "java/lang/Enum" "ordinal" "I") (.int i)).value args Z none Z [] = some true) (hi : (Jvm.Cond.initialized C).before args Z = true) (hl : (Jvm.Cond.laysStatic C nm d).before args Z = true) :
    ∃ r, (Term.static C nm d).eval args Z none [] Z = some (.ref r) ∧ Sta Z Z.heap C nm d (.ref r) ∧ Exa Z Z.heap r C ∧ Fld Z Z.heap r "java/lang/Enum" "ordinal" "I" (.int i) := by
  obtain ⟨r, er⟩ := exa_v w1
  exact ⟨r, er, Sta.start er (Or.inr ⟨hi, hl⟩), Exa.start er w1, Fld.start (by rw [← fld_at er]; exact own_eqI w2)⟩

theorem own_idx {Z : State} {args : Array Value} {j : Int32} (nn : ¬ j < 0) : (Term.sub (.index 0) (.int 128)).eval args Z none [j.toNatClampNeg] Z = some (.int (j - 128)) := by
  rw [show (Term.sub (.index 0) (.int 128)).eval args Z none [j.toNatClampNeg] Z = some (.int (j.toNatClampNeg.toInt32 - 128)) from rfl, (back32 nn).1]

theorem own_nsRoot {Z : State} {a0 : Array Value} {O K : String} {n : Nat} (w : (Jvm.Cond.noSuperclass O).before a0 Z = true) (wk : (Jvm.Cond.instantiable K n).before a0 Z = true) (hn : O ≠ K) : NS Z O K := by
  obtain ⟨c, k, h1, h2, h3, -, -⟩ := Cond.noSuperclass_spec w
  obtain ⟨t, kt, g1, -⟩ := Cond.instantiable_spec wk
  have ne := ids_ne h1 g1 hn
  refine ⟨c, t, h1, g1, fun fuel => ?_⟩
  cases fuel with
  | zero => rfl
  | succ f => simp [Vm.isSubclassAux, ne, h2, h3]
theorem own_nsNo {Z : State} {a0 : Array Value} {C S K : String} {n : Nat} (w : (Jvm.Cond.superclass C S).before a0 Z = true) (wk : (Jvm.Cond.instantiable K n).before a0 Z = true) (ns : NS Z C K) (hn : C ≠ K) : ∃ c t, Z.vm.findClass C = some c ∧ Z.vm.findClass K = some t ∧ Z.vm.assignable c t = false := by
  obtain ⟨c, t, h0, g0, n3⟩ := ns
  obtain ⟨p, k, kp, h1, h2, h3, h4, h5, -, h7⟩ := Cond.superclass_spec h0 w
  obtain ⟨t', kt, g1, g2, g3, g4, -⟩ := Cond.instantiable_spec wk
  cases g0.symm.trans g1
  have g5 : kt.isInterface = false := by simp only [Bool.or_eq_false_iff] at g4; exact g4.1
  have ne := ids_ne h0 g0 hn
  refine ⟨c, t, h0, g0, ?_⟩
  show Z.vm.assignableAux (255 + 1) c t = false
  simp [Vm.assignableAux, ne, h2, g2, h5, g3, g5, Vm.isSubclass, n3]

theorem d6_0 : decode jdk_18_method_1_code 0 = .ok (.aload_n 0, 1) := by decide +kernel
theorem d6_1 : decode jdk_18_method_1_code 1 = .ok (.invokespecial 1, 3) := by decide +kernel
theorem d6_4 : decode jdk_18_method_1_code 4 = .ok (.return_, 1) := by decide +kernel
theorem ef_N (m : MethodId) (x0 : Addr) : entryFrame m #[(.ref x0)] 1 = mkF m 0 #[.val (.ref x0)] [] := by first | (simp [entryFrame, mkF, argsToLocals, Value.category]; done) | rfl
set_option maxRecDepth 65536 in
set_option maxHeartbeats 40000000 in
theorem rmN (l : Launch) (Z : State) (a0 : Array Value) (hw : ∀ d ∈ tables_1, d.before a0 Z = true) (ws : List Jvm.Cond) (b : Addr) (h0 : Heap) (n0 : Nat) :
    Meets l Z (⟨"java/lang/Number", "<init>", "()V"⟩ : MethodName) jdk_18_method_1_code 1 none ({ frames := 1, cells := 0, slots := 0, locals := 12 } : Room) ws #[(.ref b)] h0 (fun v h L => v = none ∧ Fr n0 L ∧ h = h0) := by
  refine Meets.of (plainFor_of_name (by first | (simp [plainName, overriddenIn]; done) | decide +kernel : plainName "java/lang/Number" = true)) ?_
  intro p e s m below meth c s₁ X0 hx hby hml hret hlk hnm hZ hown e0
  replace hown : s.vm.findClass "java/lang/Number" = some m.cls := hown
  have N0 := Fr.nil n0
  refine Go.cast (ef_N m b) ?_
  show Go p e s below _ _ _ s₁ (mkF m 0 #[.val (.ref b)] [])
  refine Go.st (fun _ kont => XS.aloadN X0.here hx rfl (hb hby d6_0) rfl rfl kont) ?_
  show Go p e s below _ _ _ s₁ (mkF m 1 #[.val (.ref b)] [(.ref b)])
  obtain ⟨T1, X1, e1, st1⟩ := initO X0 hx hZ hown (hw _ (List.mem_of_getElem? (i := 43) rfl)) (hw _ (List.mem_of_getElem? (i := 7) rfl)) (hw _ (List.mem_of_getElem? (i := 8) rfl)) e0 (g := (mkF m 1 #[.val (.ref b)] [(.ref b)])) rfl (by rw [hml]; rfl) rfl (hb hby d6_1) (by decide) (W := 0) (by show 2 * 0 + _ ≤ _; exact Nat.le_of_eq rfl) (by decide)
  refine Go.st st1 ?_
  show Go p e s below _ _ _ T1 (mkF m 4 #[.val (.ref b)] [])
  exact Go.retV X1 hx hlk hret (hb hby d6_4) (by decide) (by decide) ⟨rfl, N0, e1⟩
theorem pd___V : parseMethodDescriptor "()V" = some ⟨[], none⟩ := by decide +kernel
theorem d5_0 : decode jdk_33_method_23_code 0 = .ok (.aload_n 0, 1) := by decide +kernel
theorem d5_1 : decode jdk_33_method_23_code 1 = .ok (.invokespecial 202, 3) := by decide +kernel
theorem d5_4 : decode jdk_33_method_23_code 4 = .ok (.aload_n 0, 1) := by decide +kernel
theorem d5_5 : decode jdk_33_method_23_code 5 = .ok (.iload_n 1, 1) := by decide +kernel
theorem d5_6 : decode jdk_33_method_23_code 6 = .ok (.putfield 205, 3) := by decide +kernel
theorem d5_9 : decode jdk_33_method_23_code 9 = .ok (.return_, 1) := by decide +kernel
theorem ef_I (m : MethodId) (x0 : Addr) (x1 : Int32) : entryFrame m #[(.ref x0), (.int x1)] 2 = mkF m 0 #[.val (.ref x0), .val (.int x1)] [] := by first | (simp [entryFrame, mkF, argsToLocals, Value.category]; done) | rfl
set_option maxRecDepth 65536 in
set_option maxHeartbeats 40000000 in
theorem rmI (l : Launch) (Z : State) (a0 : Array Value) (hw : ∀ d ∈ tables_1, d.before a0 Z = true) (ws : List Jvm.Cond) (b : Addr) (i : Int32) (h0 : Heap) (n0 : Nat) (gb : n0 ≤ b) (E_b : Exa Z h0 b "java/lang/Integer") (F_value_b : Fld Z h0 b "java/lang/Integer" "value" "I" (.int (0 : Int32)))  :
    Meets l Z (⟨"java/lang/Integer", "<init>", "(I)V"⟩ : MethodName) jdk_33_method_23_code 2 none ({ frames := 2, cells := 0, slots := 0, locals := 24 } : Room) ws #[(.ref b), (.int i)] h0 (fun v h L => v = none ∧ Fr n0 L ∧ Keep h0 h [b] ∧ Fld Z h b "java/lang/Integer" "value" "I" (.int i)) := by
  refine Meets.of (plainFor_of_name (by first | (simp [plainName, overriddenIn]; done) | decide +kernel : plainName "java/lang/Integer" = true)) ?_
  intro p e s m below meth c s₁ X0 hx hby hml hret hlk hnm hZ hown e0
  replace hown : s.vm.findClass "java/lang/Integer" = some m.cls := hown
  have N0 := Fr.nil n0
  have K0 := Keep.refl h0 [b]
  refine Go.cast (ef_I m b i) ?_
  show Go p e s below _ _ _ s₁ (mkF m 0 #[.val (.ref b), .val (.int i)] [])
  refine Go.st (fun _ kont => XS.aloadN X0.here hx rfl (hb hby d5_0) rfl rfl kont) ?_
  show Go p e s below _ _ _ s₁ (mkF m 1 #[.val (.ref b), .val (.int i)] [(.ref b)])
  refine Go.callC (b := b) (W := 0) (argsL := []) (rest := []) X0 hx hZ (y := (⟨"java/lang/Number", "<init>", "()V"⟩ : MethodName)) rfl hown (hw _ (List.mem_of_getElem? (i := 37) rfl)) (hw _ (List.mem_of_getElem? (i := 38) rfl)) (hw _ (List.mem_of_getElem? (i := 41) rfl)) (hw _ (List.mem_of_getElem? (i := 42) rfl)) (rmN l Z a0 hw [] b h0 n0) e0 (by decide) (by decide) (by decide) (by decide) (by decide) (by rw [hml]; rfl) (lenOf pd___V rfl) (Nat.le_of_eq rfl) (hb hby d5_1) ?_
  intro T1 v1 L1 X1 hQ1
  obtain ⟨rfl, N1, E1⟩ := hQ1
  have M1 := Fr.app N0 N1
  show Go p e s below _ _ _ T1 (mkF m 4 #[.val (.ref b), .val (.int i)] [])
  refine Go.st (fun _ kont => XS.aloadN X1.here hx rfl (hb hby d5_4) rfl rfl kont) ?_
  show Go p e s below _ _ _ T1 (mkF m 5 #[.val (.ref b), .val (.int i)] [(.ref b)])
  refine Go.st (fun _ kont => XS.iloadN X1.here hx rfl (hb hby d5_5) rfl kont) ?_
  show Go p e s below _ _ _ T1 (mkF m 6 #[.val (.ref b), .val (.int i)] [(.int i), (.ref b)])
  obtain ⟨T2, h2, X2, e2, W2, st2⟩ := putF X1 hx hZ hown (host := "") (Or.inl (hw _ (List.mem_of_getElem? (i := 44) rfl))) Via.refl E1 F_value_b E_b (Or.inr ⟨(hw _ (List.mem_of_getElem? (i := 45) rfl)), rfl, hnm⟩) (hw _ (List.mem_of_getElem? (i := 32) rfl)) (ty := .int) (by decide) rfl rfl (g := (mkF m 6 #[.val (.ref b), .val (.int i)] [(.int i), (.ref b)])) rfl rfl (hb hby d5_6)
  refine Go.st st2 ?_
  have F_value_b_2 : Fld Z h2 b "java/lang/Integer" "value" "I" (.int i) := F_value_b.same W2
  have K_2 : Keep h0 h2 [b] := K0.wr W2 (Or.inl (List.mem_singleton.mpr rfl))
  have E_b_2 := E_b.wr W2
  have N2 := Fr.snoc X2 M1 gb
  show Go p e s below _ _ _ T2 (mkF m 9 #[.val (.ref b), .val (.int i)] [])
  exact Go.retV X2 hx hlk hret (hb hby d5_9) (by decide) (by decide) ⟨rfl, N2, (by rw [e2]; exact K_2), (by rw [e2]; exact F_value_b_2)⟩
theorem pd__I_V : parseMethodDescriptor "(I)V" = some ⟨[.int], none⟩ := by decide +kernel
theorem d4_0 : decode jdk_33_method_22_code 0 = .ok (.iload_n 0, 1) := by decide +kernel
theorem d4_1 : decode jdk_33_method_22_code 1 = .ok (.bipush (-128), 2) := by decide +kernel
theorem d4_3 : decode jdk_33_method_22_code 3 = .ok (.if_icmp .lt 20, 3) := by decide +kernel
theorem d4_6 : decode jdk_33_method_22_code 6 = .ok (.iload_n 0, 1) := by decide +kernel
theorem d4_7 : decode jdk_33_method_22_code 7 = .ok (.getstatic 191, 3) := by decide +kernel
theorem d4_10 : decode jdk_33_method_22_code 10 = .ok (.if_icmp .gt 13, 3) := by decide +kernel
theorem d4_13 : decode jdk_33_method_22_code 13 = .ok (.getstatic 195, 3) := by decide +kernel
theorem d4_16 : decode jdk_33_method_22_code 16 = .ok (.iload_n 0, 1) := by decide +kernel
theorem d4_17 : decode jdk_33_method_22_code 17 = .ok (.sipush 128, 3) := by decide +kernel
theorem d4_20 : decode jdk_33_method_22_code 20 = .ok (.iadd, 1) := by decide +kernel
theorem d4_21 : decode jdk_33_method_22_code 21 = .ok (.aaload, 1) := by decide +kernel
theorem d4_22 : decode jdk_33_method_22_code 22 = .ok (.areturn, 1) := by decide +kernel
theorem d4_23 : decode jdk_33_method_22_code 23 = .ok (.new 1, 3) := by decide +kernel
theorem d4_26 : decode jdk_33_method_22_code 26 = .ok (.dup, 1) := by decide +kernel
theorem d4_27 : decode jdk_33_method_22_code 27 = .ok (.iload_n 0, 1) := by decide +kernel
theorem d4_28 : decode jdk_33_method_22_code 28 = .ok (.invokespecial 199, 3) := by decide +kernel
theorem d4_31 : decode jdk_33_method_22_code 31 = .ok (.areturn, 1) := by decide +kernel
theorem ef_V (m : MethodId) (x0 : Int32) : entryFrame m #[(.int x0)] 1 = mkF m 0 #[.val (.int x0)] [] := by first | (simp [entryFrame, mkF, argsToLocals, Value.category]; done) | rfl
set_option maxRecDepth 65536 in
set_option maxHeartbeats 40000000 in
theorem rmV (l : Launch) (Z : State) (a0 : Array Value) (hw : ∀ d ∈ tables_1, d.before a0 Z = true) (ws : List Jvm.Cond) (i : Int32) (h0 : Heap) (n0 : Nat) (Z0 : n0 ≤ h0.size) (ca : Addr) (cl : Cell) (SH : Sta Z h0 "java/lang/Integer$IntegerCache" "high" "I" (.int 127)) (SC : Sta Z h0 "java/lang/Integer$IntegerCache" "cache" "[Ljava/lang/Integer;" (.ref ca)) (B : Bxs Z ca cl "java/lang/Integer" "I" 256 (fun j => .int (j - 128))) (EZ : Ext Z.heap h0) :
    Meets l Z (⟨"java/lang/Integer", "valueOf", "(I)Ljava/lang/Integer;"⟩ : MethodName) jdk_33_method_22_code 1 (some (.object "java/lang/Integer")) ({ frames := 3, cells := 1, slots := 1, locals := 38 } : Room) ws #[(.int i)] h0 (fun v h L => ∃ b, v = some (.ref b) ∧ Fr n0 L ∧ Ext h0 h ∧ Exa Z h b "java/lang/Integer" ∧ Fld Z h b "java/lang/Integer" "value" "I" (.int i)) := by
  refine Meets.of (plainFor_of_name (by first | (simp [plainName, overriddenIn]; done) | decide +kernel : plainName "java/lang/Integer" = true)) ?_
  intro p e s m below meth c s₁ X0 hx hby hml hret hlk hnm hZ hown e0
  replace hown : s.vm.findClass "java/lang/Integer" = some m.cls := hown
  have N0 := Fr.nil n0
  have Q0 := own_extR h0
  refine Go.cast (ef_V m i) ?_
  show Go p e s below _ _ _ s₁ (mkF m 0 #[.val (.int i)] [])
  refine Go.st (fun _ kont => XS.iloadN X0.here hx rfl (hb hby d4_0) rfl kont) ?_
  show Go p e s below _ _ _ s₁ (mkF m 1 #[.val (.int i)] [(.int i)])
  refine Go.st (fun _ kont => XT.bipushV X0.here hx rfl (-128 : Int32) (hb hby d4_1) (by decide) kont) ?_
  show Go p e s below _ _ _ s₁ (mkF m 3 #[.val (.int i)] [(.int (-128 : Int32)), (.int i)])
  by_cases hc3_1 : i < (-128 : Int32)
  · --
    refine Go.st (fun _ kont => XS.icmpYes X0.here hx rfl (pc0 := 3) (pc' := 23) rfl (hb hby d4_3) rfl (tlt hc3_1).1 (by decide) (by decide) kont) ?_
    show Go p e s below _ _ _ s₁ (mkF m 23 #[.val (.int i)] [])
    obtain ⟨T2, h2, X2, e2, E2, A2, D2, -, st2⟩ := newO X0 hx hZ hown (hw _ (List.mem_of_getElem? (i := 31) rfl)) (hw _ (List.mem_of_getElem? (i := 32) rfl)) (hw _ (List.mem_of_getElem? (i := 24) rfl)) e0 (g := (mkF m 23 #[.val (.int i)] [])) rfl (hb hby d4_23) (by decide) (by decide)
    obtain ⟨b2, g2⟩ : ∃ z, z = h0.size := ⟨_, rfl⟩
    rw [← g2] at A2 D2 st2
    have sz2 : h0.size ≤ b2 := Nat.le_trans Q0.1 (Nat.le_of_eq g2.symm)
    have gn2 : n0 ≤ b2 := Nat.le_trans Z0 sz2
    refine Go.st st2 ?_
    have Q_2 : Ext h0 h2 := own_extE Q0 E2
    have F_value_b2 : Fld Z h2 b2 "java/lang/Integer" "value" "I" (.int (0 : Int32)) := D2 (Or.inr (hw _ (List.mem_of_getElem? (i := 45) rfl))) (ty := .int) (by decide)
    show Go p e s below _ _ _ T2 (mkF m 26 #[.val (.int i)] [(.ref b2)])
    refine Go.st (fun _ kont => XS.dup X2.here hx rfl (hb hby d4_26) rfl rfl kont) ?_
    show Go p e s below _ _ _ T2 (mkF m 27 #[.val (.int i)] [(.ref b2), (.ref b2)])
    refine Go.st (fun _ kont => XS.iloadN X2.here hx rfl (hb hby d4_27) rfl kont) ?_
    show Go p e s below _ _ _ T2 (mkF m 28 #[.val (.int i)] [(.int i), (.ref b2), (.ref b2)])
    refine Go.callC (b := b2) (W := 1) (argsL := [(.int i)]) (rest := [(.ref b2)]) X2 hx hZ (y := (⟨"java/lang/Integer", "<init>", "(I)V"⟩ : MethodName)) rfl hown (hw _ (List.mem_of_getElem? (i := 33) rfl)) (hw _ (List.mem_of_getElem? (i := 34) rfl)) (hw _ (List.mem_of_getElem? (i := 24) rfl)) (hw _ (List.mem_of_getElem? (i := 36) rfl)) (rmI l Z a0 hw [] b2 i h2 n0 gn2 A2 F_value_b2) e2 (by decide) (by decide) (by decide) (by decide) (by decide) (by rw [hml]; rfl) (lenOf pd__I_V rfl) (Nat.le_of_eq rfl) (hb hby d4_28) ?_
    intro T3 v3 L3 X3 hQ3
    obtain ⟨h3, e3⟩ : ∃ z, T3.heap = z := ⟨_, rfl⟩
    rw [e3] at hQ3
    obtain ⟨rfl, N3, K3, F_value_b2_3⟩ := hQ3
    have M3 := Fr.app N0 N3
    have Q_3 : Ext h0 h3 := own_extK Q_2 K3 (allS sz2 all0)
    have E_b2_3 := A2.keep K3
    show Go p e s below _ _ _ T3 (mkF m 31 #[.val (.int i)] [(.ref b2)])
    exact Go.retA X3 hx hlk hret rfl rfl (hb hby d4_31) (by decide) (by decide) ⟨b2, rfl, M3, (by rw [e3]; exact Q_3), (by rw [e3]; exact E_b2_3), (by rw [e3]; exact F_value_b2_3)⟩
  · --
    refine Go.st (fun _ kont => XS.icmpNo X0.here hx rfl (hb hby d4_3) rfl (flt hc3_1).1 kont) ?_
    show Go p e s below _ _ _ s₁ (mkF m 6 #[.val (.int i)] [])
    refine Go.st (fun _ kont => XS.iloadN X0.here hx rfl (hb hby d4_6) rfl kont) ?_
    show Go p e s below _ _ _ s₁ (mkF m 7 #[.val (.int i)] [(.int i)])
    obtain ⟨T4, X4, e4, st4⟩ := getS2 X0 hx hZ hown (host := "") (Or.inl (hw _ (List.mem_of_getElem? (i := 26) rfl))) Via.refl e0 SH (g := (mkF m 7 #[.val (.int i)] [(.int i)])) rfl (hb hby d4_7)
    refine Go.st st4 ?_
    show Go p e s below _ _ _ T4 (mkF m 10 #[.val (.int i)] [(.int (127 : Int32)), (.int i)])
    by_cases hc10_5 : (127 : Int32) < i
    · --
      refine Go.st (fun _ kont => XS.icmpYes X4.here hx rfl (pc0 := 10) (pc' := 23) rfl (hb hby d4_10) rfl (tlt hc10_5).2.2.1 (by decide) (by decide) kont) ?_
      show Go p e s below _ _ _ T4 (mkF m 23 #[.val (.int i)] [])
      obtain ⟨T6, h6, X6, e6, E6, A6, D6, -, st6⟩ := newO X4 hx hZ hown (hw _ (List.mem_of_getElem? (i := 31) rfl)) (hw _ (List.mem_of_getElem? (i := 32) rfl)) (hw _ (List.mem_of_getElem? (i := 24) rfl)) e4 (g := (mkF m 23 #[.val (.int i)] [])) rfl (hb hby d4_23) (by decide) (by decide)
      obtain ⟨b6, g6⟩ : ∃ z, z = h0.size := ⟨_, rfl⟩
      rw [← g6] at A6 D6 st6
      have sz6 : h0.size ≤ b6 := Nat.le_trans Q0.1 (Nat.le_of_eq g6.symm)
      have gn6 : n0 ≤ b6 := Nat.le_trans Z0 sz6
      refine Go.st st6 ?_
      have Q_6 : Ext h0 h6 := own_extE Q0 E6
      have F_value_b6 : Fld Z h6 b6 "java/lang/Integer" "value" "I" (.int (0 : Int32)) := D6 (Or.inr (hw _ (List.mem_of_getElem? (i := 45) rfl))) (ty := .int) (by decide)
      show Go p e s below _ _ _ T6 (mkF m 26 #[.val (.int i)] [(.ref b6)])
      refine Go.st (fun _ kont => XS.dup X6.here hx rfl (hb hby d4_26) rfl rfl kont) ?_
      show Go p e s below _ _ _ T6 (mkF m 27 #[.val (.int i)] [(.ref b6), (.ref b6)])
      refine Go.st (fun _ kont => XS.iloadN X6.here hx rfl (hb hby d4_27) rfl kont) ?_
      show Go p e s below _ _ _ T6 (mkF m 28 #[.val (.int i)] [(.int i), (.ref b6), (.ref b6)])
      refine Go.callC (b := b6) (W := 1) (argsL := [(.int i)]) (rest := [(.ref b6)]) X6 hx hZ (y := (⟨"java/lang/Integer", "<init>", "(I)V"⟩ : MethodName)) rfl hown (hw _ (List.mem_of_getElem? (i := 33) rfl)) (hw _ (List.mem_of_getElem? (i := 34) rfl)) (hw _ (List.mem_of_getElem? (i := 24) rfl)) (hw _ (List.mem_of_getElem? (i := 36) rfl)) (rmI l Z a0 hw [] b6 i h6 n0 gn6 A6 F_value_b6) e6 (by decide) (by decide) (by decide) (by decide) (by decide) (by rw [hml]; rfl) (lenOf pd__I_V rfl) (Nat.le_of_eq rfl) (hb hby d4_28) ?_
      intro T7 v7 L7 X7 hQ7
      obtain ⟨h7, e7⟩ : ∃ z, T7.heap = z := ⟨_, rfl⟩
      rw [e7] at hQ7
      obtain ⟨rfl, N7, K7, F_value_b6_7⟩ := hQ7
      have M7 := Fr.app N0 N7
      have Q_7 : Ext h0 h7 := own_extK Q_6 K7 (allS sz6 all0)
      have E_b6_7 := A6.keep K7
      show Go p e s below _ _ _ T7 (mkF m 31 #[.val (.int i)] [(.ref b6)])
      exact Go.retA X7 hx hlk hret rfl rfl (hb hby d4_31) (by decide) (by decide) ⟨b6, rfl, M7, (by rw [e7]; exact Q_7), (by rw [e7]; exact E_b6_7), (by rw [e7]; exact F_value_b6_7)⟩
    · --
      refine Go.st (fun _ kont => XS.icmpNo X4.here hx rfl (hb hby d4_10) rfl (flt hc10_5).2.2.1 kont) ?_
      show Go p e s below _ _ _ T4 (mkF m 13 #[.val (.int i)] [])
      obtain ⟨T8, X8, e8, st8⟩ := getS2 X4 hx hZ hown (host := "") (Or.inl (hw _ (List.mem_of_getElem? (i := 28) rfl))) Via.refl e4 SC (g := (mkF m 13 #[.val (.int i)] [])) rfl (hb hby d4_13)
      refine Go.st st8 ?_
      show Go p e s below _ _ _ T8 (mkF m 16 #[.val (.int i)] [(.ref ca)])
      refine Go.st (fun _ kont => XS.iloadN X8.here hx rfl (hb hby d4_16) rfl kont) ?_
      show Go p e s below _ _ _ T8 (mkF m 17 #[.val (.int i)] [(.int i), (.ref ca)])
      refine Go.st (fun _ kont => XT.sipushV X8.here hx rfl (128 : Int32) (hb hby d4_17) (by decide) kont) ?_
      show Go p e s below _ _ _ T8 (mkF m 20 #[.val (.int i)] [(.int (128 : Int32)), (.int i), (.ref ca)])
      refine Go.st (fun _ kont => XS.iadd X8.here hx rfl (hb hby d4_20) rfl kont) ?_
      show Go p e s below _ _ _ T8 (mkF m 21 #[.val (.int i)] [(.int (i + (128 : Int32))), (.ref ca)])
      have hin : ¬ ((i + (128 : Int32)) < 0 ∨ cl.slots.size ≤ (i + (128 : Int32)).toNatClampNeg) := by rw [B.2.1]; exact (Jvm.Free.IntBox.place_ok i hc3_1 hc10_5).1
      obtain ⟨bx, hbx, Ebx, Fbx⟩ := B.2.2.2 _ hin
      have Ar := (B.ext EZ).1
      have Fb : Fld Z Z.heap bx "java/lang/Integer" "value" "I" (.int (i + 128 - 128)) := Fbx
      rw [Int32.add_sub_cancel] at Fb
      refine Go.st (X8.aaload hx (j := (i + (128 : Int32))) (v := .ref bx) (by rw [e8]; exact Ar.1) (State.isArrayOf_alike hZ.alike Ar.2.1) rfl Ar.2.2 hin hbx (g := (mkF m 21 #[.val (.int i)] [(.int (i + (128 : Int32))), (.ref ca)])) rfl rfl (hb hby d4_21)) ?_
      show Go p e s below _ _ _ T8 (mkF m 22 #[.val (.int i)] [(.ref bx)])
      exact Go.retA X8 hx hlk hret rfl rfl (hb hby d4_22) (by decide) (by decide) ⟨bx, rfl, N0, (by rw [e8]; exact own_extR _), (by rw [e8]; exact Ebx.ext EZ), (by rw [e8]; exact Fb.ext EZ)⟩
theorem d1_0 : decode prog_14_method_1_code 0 = .ok (.aload_n 0, 1) := by decide +kernel
theorem d1_1 : decode prog_14_method_1_code 1 = .ok (.invokespecial 1, 3) := by decide +kernel
theorem d1_4 : decode prog_14_method_1_code 4 = .ok (.aload_n 0, 1) := by decide +kernel
theorem d1_5 : decode prog_14_method_1_code 5 = .ok (.iload_n 1, 1) := by decide +kernel
theorem d1_6 : decode prog_14_method_1_code 6 = .ok (.putfield 7, 3) := by decide +kernel
theorem d1_9 : decode prog_14_method_1_code 9 = .ok (.return_, 1) := by decide +kernel
theorem ef_C (m : MethodId) (x0 : Addr) (x1 : Int32) : entryFrame m #[(.ref x0), (.int x1)] 2 = mkF m 0 #[.val (.ref x0), .val (.int x1)] [] := by first | (simp [entryFrame, mkF, argsToLocals, Value.category]; done) | rfl
set_option maxRecDepth 65536 in
set_option maxHeartbeats 40000000 in
theorem rmC (l : Launch) (Z : State) (a0 : Array Value) (hw : ∀ d ∈ tables_1, d.before a0 Z = true) (ws : List Jvm.Cond) (b : Addr) (i : Int32) (h0 : Heap) (n0 : Nat) (gb : n0 ≤ b) (E_b : Exa Z h0 b "com/example/ringward/ringward/layout/Murmur3Hash") (F_seed_b : Fld Z h0 b "com/example/ringward/ringward/layout/Murmur3Hash" "seed" "I" (.int (0 : Int32)))  :
    Meets l Z (⟨"com/example/ringward/ringward/layout/Murmur3Hash", "<init>", "(I)V"⟩ : MethodName) prog_14_method_1_code 2 none ({ frames := 1, cells := 0, slots := 0, locals := 12 } : Room) ws #[(.ref b), (.int i)] h0 (fun v h L => v = none ∧ Fr n0 L ∧ Keep h0 h [b] ∧ Fld Z h b "com/example/ringward/ringward/layout/Murmur3Hash" "seed" "I" (.int i)) := by
  refine Meets.of (plainFor_of_name (by first | (simp [plainName, overriddenIn]; done) | decide +kernel : plainName "com/example/ringward/ringward/layout/Murmur3Hash" = true)) ?_
  intro p e s m below meth c s₁ X0 hx hby hml hret hlk hnm hZ hown e0
  replace hown : s.vm.findClass "com/example/ringward/ringward/layout/Murmur3Hash" = some m.cls := hown
  have N0 := Fr.nil n0
  have K0 := Keep.refl h0 [b]
  refine Go.cast (ef_C m b i) ?_
  show Go p e s below _ _ _ s₁ (mkF m 0 #[.val (.ref b), .val (.int i)] [])
  refine Go.st (fun _ kont => XS.aloadN X0.here hx rfl (hb hby d1_0) rfl rfl kont) ?_
  show Go p e s below _ _ _ s₁ (mkF m 1 #[.val (.ref b), .val (.int i)] [(.ref b)])
  obtain ⟨T1, X1, e1, st1⟩ := initO X0 hx hZ hown (hw _ (List.mem_of_getElem? (i := 6) rfl)) (hw _ (List.mem_of_getElem? (i := 7) rfl)) (hw _ (List.mem_of_getElem? (i := 8) rfl)) e0 (g := (mkF m 1 #[.val (.ref b), .val (.int i)] [(.ref b)])) rfl (by rw [hml]; rfl) rfl (hb hby d1_1) (by decide) (W := 0) (by show 2 * 0 + _ ≤ _; exact Nat.le_of_eq rfl) (by decide)
  refine Go.st st1 ?_
  show Go p e s below _ _ _ T1 (mkF m 4 #[.val (.ref b), .val (.int i)] [])
  refine Go.st (fun _ kont => XS.aloadN X1.here hx rfl (hb hby d1_4) rfl rfl kont) ?_
  show Go p e s below _ _ _ T1 (mkF m 5 #[.val (.ref b), .val (.int i)] [(.ref b)])
  refine Go.st (fun _ kont => XS.iloadN X1.here hx rfl (hb hby d1_5) rfl kont) ?_
  show Go p e s below _ _ _ T1 (mkF m 6 #[.val (.ref b), .val (.int i)] [(.int i), (.ref b)])
  obtain ⟨T2, h2, X2, e2, W2, st2⟩ := putF X1 hx hZ hown (host := "") (Or.inl (hw _ (List.mem_of_getElem? (i := 9) rfl))) Via.refl e1 F_seed_b E_b (Or.inr ⟨(hw _ (List.mem_of_getElem? (i := 10) rfl)), rfl, hnm⟩) (hw _ (List.mem_of_getElem? (i := 1) rfl)) (ty := .int) (by decide) rfl rfl (g := (mkF m 6 #[.val (.ref b), .val (.int i)] [(.int i), (.ref b)])) rfl rfl (hb hby d1_6)
  refine Go.st st2 ?_
  have F_seed_b_2 : Fld Z h2 b "com/example/ringward/ringward/layout/Murmur3Hash" "seed" "I" (.int i) := F_seed_b.same W2
  have K_2 : Keep h0 h2 [b] := K0.wr W2 (Or.inl (List.mem_singleton.mpr rfl))
  have E_b_2 := E_b.wr W2
  have N2 := Fr.snoc X2 N0 gb
  show Go p e s below _ _ _ T2 (mkF m 9 #[.val (.ref b), .val (.int i)] [])
  exact Go.retV X2 hx hlk hret (hb hby d1_9) (by decide) (by decide) ⟨rfl, N2, (by rw [e2]; exact K_2), (by rw [e2]; exact F_seed_b_2)⟩
theorem d3_0 : decode prog_14_method_3_code 0 = .ok (.aload_n 1, 1) := by decide +kernel
theorem d3_1 : decode prog_14_method_3_code 1 = .ok (.instanceof 8, 3) := by decide +kernel
theorem d3_4 : decode prog_14_method_3_code 4 = .ok (.ifCond .eq 23, 3) := by decide +kernel
theorem d3_7 : decode prog_14_method_3_code 7 = .ok (.aload_n 1, 1) := by decide +kernel
theorem d3_8 : decode prog_14_method_3_code 8 = .ok (.checkcast 8, 3) := by decide +kernel
theorem d3_11 : decode prog_14_method_3_code 11 = .ok (.astore_n 2, 1) := by decide +kernel
theorem d3_12 : decode prog_14_method_3_code 12 = .ok (.aload_n 0, 1) := by decide +kernel
theorem d3_13 : decode prog_14_method_3_code 13 = .ok (.getfield 7, 3) := by decide +kernel
theorem d3_16 : decode prog_14_method_3_code 16 = .ok (.aload_n 2, 1) := by decide +kernel
theorem d3_17 : decode prog_14_method_3_code 17 = .ok (.getfield 7, 3) := by decide +kernel
theorem d3_20 : decode prog_14_method_3_code 20 = .ok (.if_icmp .ne 7, 3) := by decide +kernel
theorem d3_23 : decode prog_14_method_3_code 23 = .ok (.iconst 1, 1) := by decide +kernel
theorem d3_24 : decode prog_14_method_3_code 24 = .ok (.goto 4, 3) := by decide +kernel
theorem d3_27 : decode prog_14_method_3_code 27 = .ok (.iconst 0, 1) := by decide +kernel
theorem d3_28 : decode prog_14_method_3_code 28 = .ok (.ireturn, 1) := by decide +kernel
theorem ef_E (m : MethodId) (x0 : Addr) (x1 : Addr) : entryFrame m #[(.ref x0), (.ref x1)] 3 = mkF m 0 #[.val (.ref x0), .val (.ref x1), .unset] [] := by first | (simp [entryFrame, mkF, argsToLocals, Value.category]; done) | rfl
set_option maxRecDepth 65536 in
set_option maxHeartbeats 40000000 in
theorem rmE (l : Launch) (Z : State) (a0 : Array Value) (hw : ∀ d ∈ tables_1, d.before a0 Z = true) (ws : List Jvm.Cond) (b cc : Addr) (u t v0 : Int32) (h0 : Heap) (n0 : Nat) (F_seed_b : Fld Z h0 b "com/example/ringward/ringward/layout/Murmur3Hash" "seed" "I" (.int u)) (F_seed_cc : Fld Z h0 cc "com/example/ringward/ringward/layout/Murmur3Hash" "seed" "I" (.int t)) (E_c : Exa Z h0 cc "com/example/ringward/ringward/layout/Murmur3Hash") (hv : (u = t → v0 = 1) ∧ (¬ u = t → v0 = 0)) :
    Meets l Z (⟨"com/example/ringward/ringward/layout/Murmur3Hash", "equals", "(Ljava/lang/Object;)Z"⟩ : MethodName) prog_14_method_3_code 3 (some .boolean) ({ frames := 0, cells := 0, slots := 0, locals := 0 } : Room) ws #[(.ref b), (.ref cc)] h0 (fun v h L => v = some (.int v0) ∧ Fr n0 L ∧ h = h0) := by
  refine Meets.of (plainFor_of_name (by first | (simp [plainName, overriddenIn]; done) | decide +kernel : plainName "com/example/ringward/ringward/layout/Murmur3Hash" = true)) ?_
  intro p e s m below meth c s₁ X0 hx hby hml hret hlk hnm hZ hown e0
  replace hown : s.vm.findClass "com/example/ringward/ringward/layout/Murmur3Hash" = some m.cls := hown
  have N0 := Fr.nil n0
  refine Go.cast (ef_E m b cc) ?_
  show Go p e s below _ _ _ s₁ (mkF m 0 #[.val (.ref b), .val (.ref cc), .unset] [])
  refine Go.st (fun _ kont => XS.aloadN X0.here hx rfl (hb hby d3_0) rfl rfl kont) ?_
  show Go p e s below _ _ _ s₁ (mkF m 1 #[.val (.ref b), .val (.ref cc), .unset] [(.ref cc)])
  obtain ⟨T1, X1, e1, st1⟩ := instY X0 hx hZ hown (hw _ (List.mem_of_getElem? (i := 19) rfl)) e0 (Ins.self E_c) (g := (mkF m 1 #[.val (.ref b), .val (.ref cc), .unset] [(.ref cc)])) rfl rfl (hb hby d3_1)
  refine Go.st st1 ?_
  show Go p e s below _ _ _ T1 (mkF m 4 #[.val (.ref b), .val (.ref cc), .unset] [(.int (1 : Int32))])
  refine Go.st (fun _ kont => XS.ifNo X1.here hx rfl (hb hby d3_4) rfl ((if0 _ _).trans (feq (by decide : ¬ ((1 : Int32) = (0 : Int32)))).1) kont) ?_
  show Go p e s below _ _ _ T1 (mkF m 7 #[.val (.ref b), .val (.ref cc), .unset] [])
  refine Go.st (fun _ kont => XS.aloadN X1.here hx rfl (hb hby d3_7) rfl rfl kont) ?_
  show Go p e s below _ _ _ T1 (mkF m 8 #[.val (.ref b), .val (.ref cc), .unset] [(.ref cc)])
  obtain ⟨T2, X2, e2, st2⟩ := castY X1 hx hZ hown (hw _ (List.mem_of_getElem? (i := 19) rfl)) e1 (Ins.self E_c) (g := (mkF m 8 #[.val (.ref b), .val (.ref cc), .unset] [(.ref cc)])) rfl rfl (hb hby d3_8)
  refine Go.st st2 ?_
  show Go p e s below _ _ _ T2 (mkF m 11 #[.val (.ref b), .val (.ref cc), .unset] [(.ref cc)])
  refine Go.st (fun _ kont => XS.astoreN X2.here hx rfl (hb hby d3_11) rfl rfl (l' := #[.val (.ref b), .val (.ref cc), .val (.ref cc)]) rfl kont) ?_
  show Go p e s below _ _ _ T2 (mkF m 12 #[.val (.ref b), .val (.ref cc), .val (.ref cc)] [])
  refine Go.st (fun _ kont => XS.aloadN X2.here hx rfl (hb hby d3_12) rfl rfl kont) ?_
  show Go p e s below _ _ _ T2 (mkF m 13 #[.val (.ref b), .val (.ref cc), .val (.ref cc)] [(.ref b)])
  obtain ⟨T3, X3, e3, st3⟩ := getF X2 hx hZ hown (host := "") (Or.inl (hw _ (List.mem_of_getElem? (i := 9) rfl))) Via.refl e2 F_seed_b (g := (mkF m 13 #[.val (.ref b), .val (.ref cc), .val (.ref cc)] [(.ref b)])) rfl rfl (hb hby d3_13)
  refine Go.st st3 ?_
  show Go p e s below _ _ _ T3 (mkF m 16 #[.val (.ref b), .val (.ref cc), .val (.ref cc)] [(.int u)])
  refine Go.st (fun _ kont => XS.aloadN X3.here hx rfl (hb hby d3_16) rfl rfl kont) ?_
  show Go p e s below _ _ _ T3 (mkF m 17 #[.val (.ref b), .val (.ref cc), .val (.ref cc)] [(.ref cc), (.int u)])
  obtain ⟨T4, X4, e4, st4⟩ := getF X3 hx hZ hown (host := "") (Or.inl (hw _ (List.mem_of_getElem? (i := 9) rfl))) Via.refl e3 F_seed_cc (g := (mkF m 17 #[.val (.ref b), .val (.ref cc), .val (.ref cc)] [(.ref cc), (.int u)])) rfl rfl (hb hby d3_17)
  refine Go.st st4 ?_
  show Go p e s below _ _ _ T4 (mkF m 20 #[.val (.ref b), .val (.ref cc), .val (.ref cc)] [(.int t), (.int u)])
  by_cases hc20_5 : u = t
  · --
    refine Go.st (fun _ kont => XS.icmpNo X4.here hx rfl (hb hby d3_20) rfl (teq hc20_5).2 kont) ?_
    show Go p e s below _ _ _ T4 (mkF m 23 #[.val (.ref b), .val (.ref cc), .val (.ref cc)] [])
    refine Go.st (fun _ kont => XT.iconstV X4.here hx rfl (1 : Int32) (hb hby d3_23) (by decide) kont) ?_
    show Go p e s below _ _ _ T4 (mkF m 24 #[.val (.ref b), .val (.ref cc), .val (.ref cc)] [(.int (1 : Int32))])
    refine Go.st (fun _ kont => XS.goto X4.here hx rfl (pc0 := 24) (pc' := 28) rfl (hb hby d3_24) (by decide) (by decide) kont) ?_
    show Go p e s below _ _ _ T4 (mkF m 28 #[.val (.ref b), .val (.ref cc), .val (.ref cc)] [(.int (1 : Int32))])
    exact Go.retN X4 hx hlk hret (by simp) (hb hby d3_28) (by decide) (by decide) ⟨by rw [hv.1 hc20_5]; rfl, N0, e4⟩
  · --
    refine Go.st (fun _ kont => XS.icmpYes X4.here hx rfl (pc0 := 20) (pc' := 27) rfl (hb hby d3_20) rfl (feq hc20_5).2 (by decide) (by decide) kont) ?_
    show Go p e s below _ _ _ T4 (mkF m 27 #[.val (.ref b), .val (.ref cc), .val (.ref cc)] [])
    refine Go.st (fun _ kont => XT.iconstV X4.here hx rfl (0 : Int32) (hb hby d3_27) (by decide) kont) ?_
    show Go p e s below _ _ _ T4 (mkF m 28 #[.val (.ref b), .val (.ref cc), .val (.ref cc)] [(.int (0 : Int32))])
    exact Go.retN X4 hx hlk hret (by simp) (hb hby d3_28) (by decide) (by decide) ⟨by rw [hv.2 hc20_5]; rfl, N0, e4⟩
theorem ef_E0 (m : MethodId) (x0 : Addr) : entryFrame m #[(.ref x0), .null] 3 = mkF m 0 #[.val (.ref x0), .val .null, .unset] [] := by first | (simp [entryFrame, mkF, argsToLocals, Value.category]; done) | rfl
set_option maxRecDepth 65536 in
set_option maxHeartbeats 40000000 in
theorem rmE0 (l : Launch) (Z : State) (a0 : Array Value) (hw : ∀ d ∈ tables_1, d.before a0 Z = true) (ws : List Jvm.Cond) (b : Addr) (h0 : Heap) (n0 : Nat) :
    Meets l Z (⟨"com/example/ringward/ringward/layout/Murmur3Hash", "equals", "(Ljava/lang/Object;)Z"⟩ : MethodName) prog_14_method_3_code 3 (some .boolean) ({ frames := 0, cells := 0, slots := 0, locals := 0 } : Room) ws #[(.ref b), .null] h0 (fun v h L => v = some (.int 0) ∧ Fr n0 L ∧ h = h0) := by
  refine Meets.of (plainFor_of_name (by first | (simp [plainName, overriddenIn]; done) | decide +kernel : plainName "com/example/ringward/ringward/layout/Murmur3Hash" = true)) ?_
  intro p e s m below meth c s₁ X0 hx hby hml hret hlk hnm hZ hown e0
  replace hown : s.vm.findClass "com/example/ringward/ringward/layout/Murmur3Hash" = some m.cls := hown
  have N0 := Fr.nil n0
  refine Go.cast (ef_E0 m b) ?_
  show Go p e s below _ _ _ s₁ (mkF m 0 #[.val (.ref b), .val .null, .unset] [])
  refine Go.st (fun _ kont => XS.aloadN X0.here hx rfl (hb hby d3_0) rfl rfl kont) ?_
  show Go p e s below _ _ _ s₁ (mkF m 1 #[.val (.ref b), .val .null, .unset] [.null])
  refine Go.st (X0.instanceofNull hx (g := (mkF m 1 #[.val (.ref b), .val .null, .unset] [.null])) rfl rfl (hb hby d3_1)) ?_
  show Go p e s below _ _ _ s₁ (mkF m 4 #[.val (.ref b), .val .null, .unset] [(.int (0 : Int32))])
  refine Go.st (fun _ kont => XS.ifYes X0.here hx rfl (pc0 := 4) (pc' := 27) rfl (hb hby d3_4) rfl ((if0 _ _).trans (teq rfl).1) (by decide) (by decide) kont) ?_
  show Go p e s below _ _ _ s₁ (mkF m 27 #[.val (.ref b), .val .null, .unset] [])
  refine Go.st (fun _ kont => XT.iconstV X0.here hx rfl (0 : Int32) (hb hby d3_27) (by decide) kont) ?_
  show Go p e s below _ _ _ s₁ (mkF m 28 #[.val (.ref b), .val .null, .unset] [(.int (0 : Int32))])
  exact Go.retN X0 hx hlk hret (by simp) (hb hby d3_28) (by decide) (by decide) ⟨rfl, N0, e0⟩
theorem ef_En (m : MethodId) (x0 : Addr) (x1 : Addr) : entryFrame m #[(.ref x0), (.ref x1)] 3 = mkF m 0 #[.val (.ref x0), .val (.ref x1), .unset] [] := by first | (simp [entryFrame, mkF, argsToLocals, Value.category]; done) | rfl
set_option maxRecDepth 65536 in
set_option maxHeartbeats 40000000 in
theorem rmEn (l : Launch) (Z : State) (a0 : Array Value) (hw : ∀ d ∈ tables_1, d.before a0 Z = true) (ws : List Jvm.Cond) (b cc : Addr) (K : String) (h0 : Heap) (n0 : Nat) (E_c : Exa Z h0 cc K) (ns : ∃ c t, Z.vm.findClass K = some c ∧ Z.vm.findClass "com/example/ringward/ringward/layout/Murmur3Hash" = some t ∧ Z.vm.assignable c t = false) :
    Meets l Z (⟨"com/example/ringward/ringward/layout/Murmur3Hash", "equals", "(Ljava/lang/Object;)Z"⟩ : MethodName) prog_14_method_3_code 3 (some .boolean) ({ frames := 0, cells := 0, slots := 0, locals := 0 } : Room) ws #[(.ref b), (.ref cc)] h0 (fun v h L => v = some (.int 0) ∧ Fr n0 L ∧ h = h0) := by
  refine Meets.of (plainFor_of_name (by first | (simp [plainName, overriddenIn]; done) | decide +kernel : plainName "com/example/ringward/ringward/layout/Murmur3Hash" = true)) ?_
  intro p e s m below meth c s₁ X0 hx hby hml hret hlk hnm hZ hown e0
  replace hown : s.vm.findClass "com/example/ringward/ringward/layout/Murmur3Hash" = some m.cls := hown
  have N0 := Fr.nil n0
  refine Go.cast (ef_En m b cc) ?_
  show Go p e s below _ _ _ s₁ (mkF m 0 #[.val (.ref b), .val (.ref cc), .unset] [])
  refine Go.st (fun _ kont => XS.aloadN X0.here hx rfl (hb hby d3_0) rfl rfl kont) ?_
  show Go p e s below _ _ _ s₁ (mkF m 1 #[.val (.ref b), .val (.ref cc), .unset] [(.ref cc)])
  obtain ⟨T1, X1, e1, st1⟩ := instNo X0 hx hZ hown (hw _ (List.mem_of_getElem? (i := 19) rfl)) e0 E_c ns (g := (mkF m 1 #[.val (.ref b), .val (.ref cc), .unset] [(.ref cc)])) rfl rfl (hb hby d3_1)
  refine Go.st st1 ?_
  show Go p e s below _ _ _ T1 (mkF m 4 #[.val (.ref b), .val (.ref cc), .unset] [(.int (0 : Int32))])
  refine Go.st (fun _ kont => XS.ifYes X1.here hx rfl (pc0 := 4) (pc' := 27) rfl (hb hby d3_4) rfl ((if0 _ _).trans (teq rfl).1) (by decide) (by decide) kont) ?_
  show Go p e s below _ _ _ T1 (mkF m 27 #[.val (.ref b), .val (.ref cc), .unset] [])
  refine Go.st (fun _ kont => XT.iconstV X1.here hx rfl (0 : Int32) (hb hby d3_27) (by decide) kont) ?_
  show Go p e s below _ _ _ T1 (mkF m 28 #[.val (.ref b), .val (.ref cc), .unset] [(.int (0 : Int32))])
  exact Go.retN X1 hx hlk hret (by simp) (hb hby d3_28) (by decide) (by decide) ⟨rfl, N0, e1⟩
theorem pd__Ljava_lang_Object__Z : parseMethodDescriptor "(Ljava/lang/Object;)Z" = some ⟨[(.object "java/lang/Object")], some .boolean⟩ := by decide +kernel
theorem pd__I_Ljava_lang_Integer_ : parseMethodDescriptor "(I)Ljava/lang/Integer;" = some ⟨[.int], some (.object "java/lang/Integer")⟩ := by decide +kernel
theorem ef_0 (m : MethodId) (x0 : Int32) (x1 : Int32) (x2 : Int32) : entryFrame m #[(.int x0), (.int x1), (.int x2)] maxLocals = mkF m 0 #[.val (.int x0), .val (.int x1), .val (.int x2), .unset, .unset, .unset, .unset, .unset] [] := by first | (simp [entryFrame, mkF, argsToLocals, Value.category, maxLocals]; done) | rfl
set_option maxRecDepth 65536 in
set_option maxHeartbeats 40000000 in
theorem rm0 (l : Launch) (Z : State) (a0 : Array Value) (hw : ∀ d ∈ tables_1, d.before a0 Z = true) (ws : List Jvm.Cond) (p0 p1 p2 : Int32) (h0 : Heap) (n0 : Nat) (Z0 : n0 ≤ h0.size) (ca : Addr) (cl : Cell) (SH : Sta Z h0 "java/lang/Integer$IntegerCache" "high" "I" (.int 127)) (SC : Sta Z h0 "java/lang/Integer$IntegerCache" "cache" "[Ljava/lang/Integer;" (.ref ca)) (B : Bxs Z ca cl "java/lang/Integer" "I" 256 (fun j => .int (j - 128))) (EZ : Ext Z.heap h0) (fi : Addr) (SF : Sta Z h0 "com/example/ringward/ringward/layout/Fnv1aHash" "INSTANCE" "Lcom/example/ringward/ringward/layout/Fnv1aHash;" (.ref fi)) (EF : Exa Z h0 fi "com/example/ringward/ringward/layout/Fnv1aHash") :
    Meets l Z x code maxLocals ret room_1 ws #[(.int p0), (.int p1), (.int p2)] h0 (fun v h L => v = some (.int 1) ∧ Fr n0 L) := by
  refine Meets.of (plainFor_of_name (by first | (simp [plainName, overriddenIn]; done) | decide +kernel : plainName "com/example/ringward/ringward/layout/Murmur3HashEqualsPinLaw" = true)) ?_
  intro p e s m below meth c s₁ X0 hx hby hml hret hlk hnm hZ hown e0
  replace hown : s.vm.findClass "com/example/ringward/ringward/layout/Murmur3HashEqualsPinLaw" = some m.cls := hown
  have N0 := Fr.nil n0
  have Q0 := own_extR h0
  refine Go.cast (ef_0 m p0 p1 p2) ?_
  show Go p e s below _ _ _ s₁ (mkF m 0 #[.val (.int p0), .val (.int p1), .val (.int p2), .unset, .unset, .unset, .unset, .unset] [])
  obtain ⟨T1, h1, X1, e1, E1, A1, D1, -, st1⟩ := newO X0 hx hZ hown (hw _ (List.mem_of_getElem? (i := 0) rfl)) (hw _ (List.mem_of_getElem? (i := 1) rfl)) (hw _ (List.mem_of_getElem? (i := 2) rfl)) e0 (g := (mkF m 0 #[.val (.int p0), .val (.int p1), .val (.int p2), .unset, .unset, .unset, .unset, .unset] [])) rfl (hb hby at_0) (by decide) (by decide)
  obtain ⟨b1, g1⟩ : ∃ z, z = h0.size := ⟨_, rfl⟩
  rw [← g1] at A1 D1 st1
  have sz1 : h0.size ≤ b1 := Nat.le_trans Q0.1 (Nat.le_of_eq g1.symm)
  have gn1 : n0 ≤ b1 := Nat.le_trans Z0 sz1
  refine Go.st st1 ?_
  have Q_1 : Ext h0 h1 := own_extE Q0 E1
  have F_seed_b1 : Fld Z h1 b1 "com/example/ringward/ringward/layout/Murmur3Hash" "seed" "I" (.int (0 : Int32)) := D1 (Or.inr (hw _ (List.mem_of_getElem? (i := 10) rfl))) (ty := .int) (by decide)
  show Go p e s below _ _ _ T1 (mkF m 3 #[.val (.int p0), .val (.int p1), .val (.int p2), .unset, .unset, .unset, .unset, .unset] [(.ref b1)])
  refine Go.st (fun _ kont => XS.dup X1.here hx rfl (hb hby at_3) rfl rfl kont) ?_
  show Go p e s below _ _ _ T1 (mkF m 4 #[.val (.int p0), .val (.int p1), .val (.int p2), .unset, .unset, .unset, .unset, .unset] [(.ref b1), (.ref b1)])
  refine Go.st (fun _ kont => XS.iloadN X1.here hx rfl (hb hby at_4) rfl kont) ?_
  show Go p e s below _ _ _ T1 (mkF m 5 #[.val (.int p0), .val (.int p1), .val (.int p2), .unset, .unset, .unset, .unset, .unset] [(.int p0), (.ref b1), (.ref b1)])
  refine Go.callC (b := b1) (W := 1) (argsL := [(.int p0)]) (rest := [(.ref b1)]) X1 hx hZ (y := (⟨"com/example/ringward/ringward/layout/Murmur3Hash", "<init>", "(I)V"⟩ : MethodName)) rfl hown (hw _ (List.mem_of_getElem? (i := 3) rfl)) (hw _ (List.mem_of_getElem? (i := 4) rfl)) (hw _ (List.mem_of_getElem? (i := 2) rfl)) (hw _ (List.mem_of_getElem? (i := 5) rfl)) (rmC l Z a0 hw [] b1 p0 h1 n0 gn1 A1 F_seed_b1) e1 (by decide) (by decide) (by decide) (by decide) (by decide) (by rw [hml]; rfl) (lenOf pd__I_V rfl) (Nat.le_of_eq rfl) (hb hby at_5) ?_
  intro T2 v2 L2 X2 hQ2
  obtain ⟨h2, e2⟩ : ∃ z, T2.heap = z := ⟨_, rfl⟩
  rw [e2] at hQ2
  obtain ⟨rfl, N2, K2, F_seed_b1_2⟩ := hQ2
  have M2 := Fr.app N0 N2
  have Q_2 : Ext h0 h2 := own_extK Q_1 K2 (allS sz1 all0)
  have E_b1_2 := A1.keep K2
  show Go p e s below _ _ _ T2 (mkF m 8 #[.val (.int p0), .val (.int p1), .val (.int p2), .unset, .unset, .unset, .unset, .unset] [(.ref b1)])
  refine Go.st (fun _ kont => XS.astoreN X2.here hx rfl (hb hby at_8) rfl rfl (l' := #[.val (.int p0), .val (.int p1), .val (.int p2), .val (.ref b1), .unset, .unset, .unset, .unset]) rfl kont) ?_
  show Go p e s below _ _ _ T2 (mkF m 9 #[.val (.int p0), .val (.int p1), .val (.int p2), .val (.ref b1), .unset, .unset, .unset, .unset] [])
  refine Go.st (fun _ kont => XS.iloadN X2.here hx rfl (hb hby at_9) rfl kont) ?_
  show Go p e s below _ _ _ T2 (mkF m 10 #[.val (.int p0), .val (.int p1), .val (.int p2), .val (.ref b1), .unset, .unset, .unset, .unset] [(.int p2)])
  refine Go.st (fun _ kont => XT.iconstV X2.here hx rfl (3 : Int32) (hb hby at_10) (by decide) kont) ?_
  show Go p e s below _ _ _ T2 (mkF m 11 #[.val (.int p0), .val (.int p1), .val (.int p2), .val (.ref b1), .unset, .unset, .unset, .unset] [(.int (3 : Int32)), (.int p2)])
  refine Go.st (fun _ kont => XS.iand X2.here hx rfl (hb hby at_11) rfl kont) ?_
  show Go p e s below _ _ _ T2 (mkF m 12 #[.val (.int p0), .val (.int p1), .val (.int p2), .val (.ref b1), .unset, .unset, .unset, .unset] [(.int (p2 &&& (3 : Int32)))])
  refine Go.st (fun _ kont => XS.istore X2.here hx rfl (hb hby at_12) rfl (l' := #[.val (.int p0), .val (.int p1), .val (.int p2), .val (.ref b1), .val (.int (p2 &&& (3 : Int32))), .unset, .unset, .unset]) rfl kont) ?_
  show Go p e s below _ _ _ T2 (mkF m 14 #[.val (.int p0), .val (.int p1), .val (.int p2), .val (.ref b1), .val (.int (p2 &&& (3 : Int32))), .unset, .unset, .unset] [])
  refine Go.st (fun _ kont => XS.iloadN X2.here hx rfl (hb hby at_14) rfl kont) ?_
  show Go p e s below _ _ _ T2 (mkF m 15 #[.val (.int p0), .val (.int p1), .val (.int p2), .val (.ref b1), .val (.int (p2 &&& (3 : Int32))), .unset, .unset, .unset] [(.int p2)])
  refine Go.st (fun _ kont => XT.iconstV X2.here hx rfl (2 : Int32) (hb hby at_15) (by decide) kont) ?_
  show Go p e s below _ _ _ T2 (mkF m 16 #[.val (.int p0), .val (.int p1), .val (.int p2), .val (.ref b1), .val (.int (p2 &&& (3 : Int32))), .unset, .unset, .unset] [(.int (2 : Int32)), (.int p2)])
  refine Go.st (fun _ kont => XS.iushr X2.here hx rfl (hb hby at_16) rfl kont) ?_
  show Go p e s below _ _ _ T2 (mkF m 17 #[.val (.int p0), .val (.int p1), .val (.int p2), .val (.ref b1), .val (.int (p2 &&& (3 : Int32))), .unset, .unset, .unset] [(.int ((p2.toUInt32 >>> ((2 : Int32) &&& 31).toUInt32).toInt32))])
  refine Go.st (fun _ kont => XT.iconstV X2.here hx rfl (1 : Int32) (hb hby at_17) (by decide) kont) ?_
  show Go p e s below _ _ _ T2 (mkF m 18 #[.val (.int p0), .val (.int p1), .val (.int p2), .val (.ref b1), .val (.int (p2 &&& (3 : Int32))), .unset, .unset, .unset] [(.int (1 : Int32)), (.int ((p2.toUInt32 >>> ((2 : Int32) &&& 31).toUInt32).toInt32))])
  refine Go.st (fun _ kont => XS.iand X2.here hx rfl (hb hby at_18) rfl kont) ?_
  show Go p e s below _ _ _ T2 (mkF m 19 #[.val (.int p0), .val (.int p1), .val (.int p2), .val (.ref b1), .val (.int (p2 &&& (3 : Int32))), .unset, .unset, .unset] [(.int (((p2.toUInt32 >>> ((2 : Int32) &&& 31).toUInt32).toInt32) &&& (1 : Int32)))])
  have J3 : ∀ z3 : Int32, Go p e s below (fun v h L => v = some (.int 1) ∧ Fr n0 L) room_1.cells room_1.slots T2 (mkF m 27 #[.val (.int p0), .val (.int p1), .val (.int p2), .val (.ref b1), .val (.int (p2 &&& (3 : Int32))), .unset, .unset, .unset] [(.int z3)]) := by
    intro z3
    show Go p e s below _ _ _ T2 (mkF m 27 #[.val (.int p0), .val (.int p1), .val (.int p2), .val (.ref b1), .val (.int (p2 &&& (3 : Int32))), .unset, .unset, .unset] [(.int z3)])
    refine Go.st (fun _ kont => XS.istore X2.here hx rfl (hb hby at_27) rfl (l' := #[.val (.int p0), .val (.int p1), .val (.int p2), .val (.ref b1), .val (.int (p2 &&& (3 : Int32))), .val (.int z3), .unset, .unset]) rfl kont) ?_
    show Go p e s below _ _ _ T2 (mkF m 29 #[.val (.int p0), .val (.int p1), .val (.int p2), .val (.ref b1), .val (.int (p2 &&& (3 : Int32))), .val (.int z3), .unset, .unset] [])
    obtain ⟨k, hk⟩ : ∃ z : Int32, z = (p2 &&& (3 : Int32)) := ⟨_, rfl⟩
    rw [← hk]
    show Go p e s below _ _ _ T2 (mkF m 29 #[.val (.int p0), .val (.int p1), .val (.int p2), .val (.ref b1), .val (.int k), .val (.int z3), .unset, .unset] [])
    refine Go.st (fun _ kont => XS.iload X2.here hx rfl (hb hby at_29) rfl kont) ?_
    show Go p e s below _ _ _ T2 (mkF m 31 #[.val (.int p0), .val (.int p1), .val (.int p2), .val (.ref b1), .val (.int k), .val (.int z3), .unset, .unset] [(.int k)])
    by_cases hc31_4 : k = (0 : Int32)
    · --
      refine Go.st (fun _ kont => XS.ifNo X2.here hx rfl (hb hby at_31) rfl ((if0 _ _).trans (teq hc31_4).2) kont) ?_
      show Go p e s below _ _ _ T2 (mkF m 34 #[.val (.int p0), .val (.int p1), .val (.int p2), .val (.ref b1), .val (.int k), .val (.int z3), .unset, .unset] [])
      obtain ⟨T5, h5, X5, e5, E5, A5, D5, -, st5⟩ := newO X2 hx hZ hown (hw _ (List.mem_of_getElem? (i := 0) rfl)) (hw _ (List.mem_of_getElem? (i := 1) rfl)) (hw _ (List.mem_of_getElem? (i := 2) rfl)) e2 (g := (mkF m 34 #[.val (.int p0), .val (.int p1), .val (.int p2), .val (.ref b1), .val (.int k), .val (.int z3), .unset, .unset] [])) rfl (hb hby at_34) (by decide) (by decide)
      obtain ⟨b5, g5⟩ : ∃ z, z = h2.size := ⟨_, rfl⟩
      rw [← g5] at A5 D5 st5
      have sz5 : h0.size ≤ b5 := Nat.le_trans Q_2.1 (Nat.le_of_eq g5.symm)
      have gn5 : n0 ≤ b5 := Nat.le_trans Z0 sz5
      refine Go.st st5 ?_
      have Q_5 : Ext h0 h5 := own_extE Q_2 E5
      have E_b1_5 := E_b1_2.ext E5
      have F_seed_b1_5 := F_seed_b1_2.ext E5
      have F_seed_b5 : Fld Z h5 b5 "com/example/ringward/ringward/layout/Murmur3Hash" "seed" "I" (.int (0 : Int32)) := D5 (Or.inr (hw _ (List.mem_of_getElem? (i := 10) rfl))) (ty := .int) (by decide)
      show Go p e s below _ _ _ T5 (mkF m 37 #[.val (.int p0), .val (.int p1), .val (.int p2), .val (.ref b1), .val (.int k), .val (.int z3), .unset, .unset] [(.ref b5)])
      refine Go.st (fun _ kont => XS.dup X5.here hx rfl (hb hby at_37) rfl rfl kont) ?_
      show Go p e s below _ _ _ T5 (mkF m 38 #[.val (.int p0), .val (.int p1), .val (.int p2), .val (.ref b1), .val (.int k), .val (.int z3), .unset, .unset] [(.ref b5), (.ref b5)])
      refine Go.st (fun _ kont => XS.iload X5.here hx rfl (hb hby at_38) rfl kont) ?_
      show Go p e s below _ _ _ T5 (mkF m 40 #[.val (.int p0), .val (.int p1), .val (.int p2), .val (.ref b1), .val (.int k), .val (.int z3), .unset, .unset] [(.int z3), (.ref b5), (.ref b5)])
      refine Go.callC (b := b5) (W := 1) (argsL := [(.int z3)]) (rest := [(.ref b5)]) X5 hx hZ (y := (⟨"com/example/ringward/ringward/layout/Murmur3Hash", "<init>", "(I)V"⟩ : MethodName)) rfl hown (hw _ (List.mem_of_getElem? (i := 3) rfl)) (hw _ (List.mem_of_getElem? (i := 4) rfl)) (hw _ (List.mem_of_getElem? (i := 2) rfl)) (hw _ (List.mem_of_getElem? (i := 5) rfl)) (rmC l Z a0 hw [] b5 z3 h5 n0 gn5 A5 F_seed_b5) e5 (by decide) (by decide) (by decide) (by decide) (by decide) (by rw [hml]; rfl) (lenOf pd__I_V rfl) (Nat.le_of_eq rfl) (hb hby at_40) ?_
      intro T6 v6 L6 X6 hQ6
      obtain ⟨h6, e6⟩ : ∃ z, T6.heap = z := ⟨_, rfl⟩
      rw [e6] at hQ6
      obtain ⟨rfl, N6, K6, F_seed_b5_6⟩ := hQ6
      have M6 := Fr.app M2 N6
      have Q_6 : Ext h0 h6 := own_extK Q_5 K6 (allS sz5 all0)
      have E_b1_6 := E_b1_5.keep K6
      have F_seed_b1_6 := F_seed_b1_5.keep K6 (ninS (Nat.ne_of_lt (Nat.lt_of_lt_of_le E_b1_2.lt (Nat.le_of_eq g5.symm))) nin0)
      have E_b5_6 := A5.keep K6
      show Go p e s below _ _ _ T6 (mkF m 43 #[.val (.int p0), .val (.int p1), .val (.int p2), .val (.ref b1), .val (.int k), .val (.int z3), .unset, .unset] [(.ref b5)])
      refine Go.st (fun _ kont => XS.astore X6.here hx rfl (hb hby at_43) rfl rfl (l' := #[.val (.int p0), .val (.int p1), .val (.int p2), .val (.ref b1), .val (.int k), .val (.int z3), .val (.ref b5), .unset]) rfl kont) ?_
      show Go p e s below _ _ _ T6 (mkF m 45 #[.val (.int p0), .val (.int p1), .val (.int p2), .val (.ref b1), .val (.int k), .val (.int z3), .val (.ref b5), .unset] [])
      refine Go.st (fun _ kont => XS.iload X6.here hx rfl (hb hby at_45) rfl kont) ?_
      show Go p e s below _ _ _ T6 (mkF m 47 #[.val (.int p0), .val (.int p1), .val (.int p2), .val (.ref b1), .val (.int k), .val (.int z3), .val (.ref b5), .unset] [(.int z3)])
      refine Go.st (fun _ kont => XS.iloadN X6.here hx rfl (hb hby at_47) rfl kont) ?_
      show Go p e s below _ _ _ T6 (mkF m 48 #[.val (.int p0), .val (.int p1), .val (.int p2), .val (.ref b1), .val (.int k), .val (.int z3), .val (.ref b5), .unset] [(.int p0), (.int z3)])
      by_cases hc48_7 : z3 = p0
      · --
        refine Go.st (fun _ kont => XS.icmpNo X6.here hx rfl (hb hby at_48) rfl (teq hc48_7).2 kont) ?_
        show Go p e s below _ _ _ T6 (mkF m 51 #[.val (.int p0), .val (.int p1), .val (.int p2), .val (.ref b1), .val (.int k), .val (.int z3), .val (.ref b5), .unset] [])
        refine Go.st (fun _ kont => XT.iconstV X6.here hx rfl (1 : Int32) (hb hby at_51) (by decide) kont) ?_
        show Go p e s below _ _ _ T6 (mkF m 52 #[.val (.int p0), .val (.int p1), .val (.int p2), .val (.ref b1), .val (.int k), .val (.int z3), .val (.ref b5), .unset] [(.int (1 : Int32))])
        refine Go.st (fun _ kont => XS.goto X6.here hx rfl (pc0 := 52) (pc' := 56) rfl (hb hby at_52) (by decide) (by decide) kont) ?_
        show Go p e s below _ _ _ T6 (mkF m 56 #[.val (.int p0), .val (.int p1), .val (.int p2), .val (.ref b1), .val (.int k), .val (.int z3), .val (.ref b5), .unset] [(.int (1 : Int32))])
        refine Go.st (fun _ kont => XS.istore X6.here hx rfl (hb hby at_56) rfl (l' := #[.val (.int p0), .val (.int p1), .val (.int p2), .val (.ref b1), .val (.int k), .val (.int z3), .val (.ref b5), .val (.int (1 : Int32))]) rfl kont) ?_
        show Go p e s below _ _ _ T6 (mkF m 58 #[.val (.int p0), .val (.int p1), .val (.int p2), .val (.ref b1), .val (.int k), .val (.int z3), .val (.ref b5), .val (.int (1 : Int32))] [])
        refine Go.st (fun _ kont => XS.aloadN X6.here hx rfl (hb hby at_58) rfl rfl kont) ?_
        show Go p e s below _ _ _ T6 (mkF m 59 #[.val (.int p0), .val (.int p1), .val (.int p2), .val (.ref b1), .val (.int k), .val (.int z3), .val (.ref b5), .val (.int (1 : Int32))] [(.ref b1)])
        refine Go.st (fun _ kont => XS.aload X6.here hx rfl (hb hby at_59) rfl rfl kont) ?_
        show Go p e s below _ _ _ T6 (mkF m 61 #[.val (.int p0), .val (.int p1), .val (.int p2), .val (.ref b1), .val (.int k), .val (.int z3), .val (.ref b5), .val (.int (1 : Int32))] [(.ref b5), (.ref b1)])
        refine Go.callV (b := b1) (W := 0) (argsL := [(.ref b5)]) (rest := []) X6 hx hZ hown (y := (⟨"com/example/ringward/ringward/layout/Murmur3Hash", "equals", "(Ljava/lang/Object;)Z"⟩ : MethodName)) (z := (⟨"com/example/ringward/ringward/layout/Murmur3Hash", "equals", "(Ljava/lang/Object;)Z"⟩ : MethodName)) (hw _ (List.mem_of_getElem? (i := 14) rfl)) (hw _ (List.mem_of_getElem? (i := 15) rfl)) (notFace_of_selects (args := #[]) (mvT hZ (hw _ (List.mem_of_getElem? (i := 17) rfl)))) (hw _ (List.mem_of_getElem? (i := 17) rfl)) (hw _ (List.mem_of_getElem? (i := 16) rfl)) (hw _ (List.mem_of_getElem? (i := 2) rfl)) (hw _ (List.mem_of_getElem? (i := 18) rfl)) (rmE l Z a0 hw [] b1 b5 p0 z3 (1 : Int32) h6 n0 F_seed_b1_6 F_seed_b5_6 E_b5_6 ⟨fun _ => rfl, fun q => absurd hc48_7.symm q⟩) e6 E_b1_6 (by decide) (by decide) (by decide) (by decide) (by decide) (by rw [hml]; rfl) (lenOf pd__Ljava_lang_Object__Z rfl) (Nat.le_of_eq rfl) (hb hby at_61) ?_
        intro T8 v8 L8 X8 hQ8
        obtain ⟨rfl, N8, E8⟩ := hQ8
        have M8 := Fr.app M6 N8
        show Go p e s below _ _ _ T8 (mkF m 64 #[.val (.int p0), .val (.int p1), .val (.int p2), .val (.ref b1), .val (.int k), .val (.int z3), .val (.ref b5), .val (.int (1 : Int32))] [(.int (1 : Int32))])
        refine Go.st (fun _ kont => XS.iload X8.here hx rfl (hb hby at_64) rfl kont) ?_
        show Go p e s below _ _ _ T8 (mkF m 66 #[.val (.int p0), .val (.int p1), .val (.int p2), .val (.ref b1), .val (.int k), .val (.int z3), .val (.ref b5), .val (.int (1 : Int32))] [(.int (1 : Int32)), (.int (1 : Int32))])
        refine Go.st (fun _ kont => XS.icmpNo X8.here hx rfl (hb hby at_66) rfl (teq rfl).2 kont) ?_
        show Go p e s below _ _ _ T8 (mkF m 69 #[.val (.int p0), .val (.int p1), .val (.int p2), .val (.ref b1), .val (.int k), .val (.int z3), .val (.ref b5), .val (.int (1 : Int32))] [])
        refine Go.st (fun _ kont => XS.aload X8.here hx rfl (hb hby at_69) rfl rfl kont) ?_
        show Go p e s below _ _ _ T8 (mkF m 71 #[.val (.int p0), .val (.int p1), .val (.int p2), .val (.ref b1), .val (.int k), .val (.int z3), .val (.ref b5), .val (.int (1 : Int32))] [(.ref b5)])
        refine Go.st (fun _ kont => XS.aloadN X8.here hx rfl (hb hby at_71) rfl rfl kont) ?_
        show Go p e s below _ _ _ T8 (mkF m 72 #[.val (.int p0), .val (.int p1), .val (.int p2), .val (.ref b1), .val (.int k), .val (.int z3), .val (.ref b5), .val (.int (1 : Int32))] [(.ref b1), (.ref b5)])
        refine Go.callV (b := b5) (W := 0) (argsL := [(.ref b1)]) (rest := []) X8 hx hZ hown (y := (⟨"com/example/ringward/ringward/layout/Murmur3Hash", "equals", "(Ljava/lang/Object;)Z"⟩ : MethodName)) (z := (⟨"com/example/ringward/ringward/layout/Murmur3Hash", "equals", "(Ljava/lang/Object;)Z"⟩ : MethodName)) (hw _ (List.mem_of_getElem? (i := 14) rfl)) (hw _ (List.mem_of_getElem? (i := 15) rfl)) (notFace_of_selects (args := #[]) (mvT hZ (hw _ (List.mem_of_getElem? (i := 17) rfl)))) (hw _ (List.mem_of_getElem? (i := 17) rfl)) (hw _ (List.mem_of_getElem? (i := 16) rfl)) (hw _ (List.mem_of_getElem? (i := 2) rfl)) (hw _ (List.mem_of_getElem? (i := 18) rfl)) (rmE l Z a0 hw [] b5 b1 z3 p0 (1 : Int32) h6 n0 F_seed_b5_6 F_seed_b1_6 E_b1_6 ⟨fun _ => rfl, fun q => absurd hc48_7 q⟩) E8 E_b5_6 (by decide) (by decide) (by decide) (by decide) (by decide) (by rw [hml]; rfl) (lenOf pd__Ljava_lang_Object__Z rfl) (Nat.le_of_eq rfl) (hb hby at_72) ?_
        intro T9 v9 L9 X9 hQ9
        obtain ⟨rfl, N9, E9⟩ := hQ9
        have M9 := Fr.app M8 N9
        show Go p e s below _ _ _ T9 (mkF m 75 #[.val (.int p0), .val (.int p1), .val (.int p2), .val (.ref b1), .val (.int k), .val (.int z3), .val (.ref b5), .val (.int (1 : Int32))] [(.int (1 : Int32))])
        refine Go.st (fun _ kont => XS.iload X9.here hx rfl (hb hby at_75) rfl kont) ?_
        show Go p e s below _ _ _ T9 (mkF m 77 #[.val (.int p0), .val (.int p1), .val (.int p2), .val (.ref b1), .val (.int k), .val (.int z3), .val (.ref b5), .val (.int (1 : Int32))] [(.int (1 : Int32)), (.int (1 : Int32))])
        refine Go.st (fun _ kont => XS.icmpNo X9.here hx rfl (hb hby at_77) rfl (teq rfl).2 kont) ?_
        show Go p e s below _ _ _ T9 (mkF m 80 #[.val (.int p0), .val (.int p1), .val (.int p2), .val (.ref b1), .val (.int k), .val (.int z3), .val (.ref b5), .val (.int (1 : Int32))] [])
        refine Go.st (fun _ kont => XS.aloadN X9.here hx rfl (hb hby at_80) rfl rfl kont) ?_
        show Go p e s below _ _ _ T9 (mkF m 81 #[.val (.int p0), .val (.int p1), .val (.int p2), .val (.ref b1), .val (.int k), .val (.int z3), .val (.ref b5), .val (.int (1 : Int32))] [(.ref b1)])
        refine Go.st (fun _ kont => XS.aloadN X9.here hx rfl (hb hby at_81) rfl rfl kont) ?_
        show Go p e s below _ _ _ T9 (mkF m 82 #[.val (.int p0), .val (.int p1), .val (.int p2), .val (.ref b1), .val (.int k), .val (.int z3), .val (.ref b5), .val (.int (1 : Int32))] [(.ref b1), (.ref b1)])
        refine Go.callV (b := b1) (W := 0) (argsL := [(.ref b1)]) (rest := []) X9 hx hZ hown (y := (⟨"com/example/ringward/ringward/layout/Murmur3Hash", "equals", "(Ljava/lang/Object;)Z"⟩ : MethodName)) (z := (⟨"com/example/ringward/ringward/layout/Murmur3Hash", "equals", "(Ljava/lang/Object;)Z"⟩ : MethodName)) (hw _ (List.mem_of_getElem? (i := 14) rfl)) (hw _ (List.mem_of_getElem? (i := 15) rfl)) (notFace_of_selects (args := #[]) (mvT hZ (hw _ (List.mem_of_getElem? (i := 17) rfl)))) (hw _ (List.mem_of_getElem? (i := 17) rfl)) (hw _ (List.mem_of_getElem? (i := 16) rfl)) (hw _ (List.mem_of_getElem? (i := 2) rfl)) (hw _ (List.mem_of_getElem? (i := 18) rfl)) (rmE l Z a0 hw [] b1 b1 p0 p0 (1 : Int32) h6 n0 F_seed_b1_6 F_seed_b1_6 E_b1_6 ⟨fun _ => rfl, fun q => absurd rfl q⟩) E9 E_b1_6 (by decide) (by decide) (by decide) (by decide) (by decide) (by rw [hml]; rfl) (lenOf pd__Ljava_lang_Object__Z rfl) (Nat.le_of_eq rfl) (hb hby at_82) ?_
        intro T10 v10 L10 X10 hQ10
        obtain ⟨rfl, N10, E10⟩ := hQ10
        have M10 := Fr.app M9 N10
        show Go p e s below _ _ _ T10 (mkF m 85 #[.val (.int p0), .val (.int p1), .val (.int p2), .val (.ref b1), .val (.int k), .val (.int z3), .val (.ref b5), .val (.int (1 : Int32))] [(.int (1 : Int32))])
        refine Go.st (fun _ kont => XS.ifNo X10.here hx rfl (hb hby at_85) rfl ((if0 _ _).trans (feq (by decide : ¬ ((1 : Int32) = (0 : Int32)))).1) kont) ?_
        show Go p e s below _ _ _ T10 (mkF m 88 #[.val (.int p0), .val (.int p1), .val (.int p2), .val (.ref b1), .val (.int k), .val (.int z3), .val (.ref b5), .val (.int (1 : Int32))] [])
        refine Go.st (fun _ kont => XT.iconstV X10.here hx rfl (1 : Int32) (hb hby at_88) (by decide) kont) ?_
        show Go p e s below _ _ _ T10 (mkF m 89 #[.val (.int p0), .val (.int p1), .val (.int p2), .val (.ref b1), .val (.int k), .val (.int z3), .val (.ref b5), .val (.int (1 : Int32))] [(.int (1 : Int32))])
        refine Go.st (fun _ kont => XS.goto X10.here hx rfl (pc0 := 89) (pc' := 93) rfl (hb hby at_89) (by decide) (by decide) kont) ?_
        show Go p e s below _ _ _ T10 (mkF m 93 #[.val (.int p0), .val (.int p1), .val (.int p2), .val (.ref b1), .val (.int k), .val (.int z3), .val (.ref b5), .val (.int (1 : Int32))] [(.int (1 : Int32))])
        exact Go.retN X10 hx hlk hret (by simp) (hb hby at_93) (by decide) (by decide) ⟨rfl, M10⟩
      · --
        refine Go.st (fun _ kont => XS.icmpYes X6.here hx rfl (pc0 := 48) (pc' := 55) rfl (hb hby at_48) rfl (feq hc48_7).2 (by decide) (by decide) kont) ?_
        show Go p e s below _ _ _ T6 (mkF m 55 #[.val (.int p0), .val (.int p1), .val (.int p2), .val (.ref b1), .val (.int k), .val (.int z3), .val (.ref b5), .unset] [])
        refine Go.st (fun _ kont => XT.iconstV X6.here hx rfl (0 : Int32) (hb hby at_55) (by decide) kont) ?_
        show Go p e s below _ _ _ T6 (mkF m 56 #[.val (.int p0), .val (.int p1), .val (.int p2), .val (.ref b1), .val (.int k), .val (.int z3), .val (.ref b5), .unset] [(.int (0 : Int32))])
        refine Go.st (fun _ kont => XS.istore X6.here hx rfl (hb hby at_56) rfl (l' := #[.val (.int p0), .val (.int p1), .val (.int p2), .val (.ref b1), .val (.int k), .val (.int z3), .val (.ref b5), .val (.int (0 : Int32))]) rfl kont) ?_
        show Go p e s below _ _ _ T6 (mkF m 58 #[.val (.int p0), .val (.int p1), .val (.int p2), .val (.ref b1), .val (.int k), .val (.int z3), .val (.ref b5), .val (.int (0 : Int32))] [])
        refine Go.st (fun _ kont => XS.aloadN X6.here hx rfl (hb hby at_58) rfl rfl kont) ?_
        show Go p e s below _ _ _ T6 (mkF m 59 #[.val (.int p0), .val (.int p1), .val (.int p2), .val (.ref b1), .val (.int k), .val (.int z3), .val (.ref b5), .val (.int (0 : Int32))] [(.ref b1)])
        refine Go.st (fun _ kont => XS.aload X6.here hx rfl (hb hby at_59) rfl rfl kont) ?_
        show Go p e s below _ _ _ T6 (mkF m 61 #[.val (.int p0), .val (.int p1), .val (.int p2), .val (.ref b1), .val (.int k), .val (.int z3), .val (.ref b5), .val (.int (0 : Int32))] [(.ref b5), (.ref b1)])
        refine Go.callV (b := b1) (W := 0) (argsL := [(.ref b5)]) (rest := []) X6 hx hZ hown (y := (⟨"com/example/ringward/ringward/layout/Murmur3Hash", "equals", "(Ljava/lang/Object;)Z"⟩ : MethodName)) (z := (⟨"com/example/ringward/ringward/layout/Murmur3Hash", "equals", "(Ljava/lang/Object;)Z"⟩ : MethodName)) (hw _ (List.mem_of_getElem? (i := 14) rfl)) (hw _ (List.mem_of_getElem? (i := 15) rfl)) (notFace_of_selects (args := #[]) (mvT hZ (hw _ (List.mem_of_getElem? (i := 17) rfl)))) (hw _ (List.mem_of_getElem? (i := 17) rfl)) (hw _ (List.mem_of_getElem? (i := 16) rfl)) (hw _ (List.mem_of_getElem? (i := 2) rfl)) (hw _ (List.mem_of_getElem? (i := 18) rfl)) (rmE l Z a0 hw [] b1 b5 p0 z3 (0 : Int32) h6 n0 F_seed_b1_6 F_seed_b5_6 E_b5_6 ⟨fun q => absurd q.symm hc48_7, fun _ => rfl⟩) e6 E_b1_6 (by decide) (by decide) (by decide) (by decide) (by decide) (by rw [hml]; rfl) (lenOf pd__Ljava_lang_Object__Z rfl) (Nat.le_of_eq rfl) (hb hby at_61) ?_
        intro T11 v11 L11 X11 hQ11
        obtain ⟨rfl, N11, E11⟩ := hQ11
        have M11 := Fr.app M6 N11
        show Go p e s below _ _ _ T11 (mkF m 64 #[.val (.int p0), .val (.int p1), .val (.int p2), .val (.ref b1), .val (.int k), .val (.int z3), .val (.ref b5), .val (.int (0 : Int32))] [(.int (0 : Int32))])
        refine Go.st (fun _ kont => XS.iload X11.here hx rfl (hb hby at_64) rfl kont) ?_
        show Go p e s below _ _ _ T11 (mkF m 66 #[.val (.int p0), .val (.int p1), .val (.int p2), .val (.ref b1), .val (.int k), .val (.int z3), .val (.ref b5), .val (.int (0 : Int32))] [(.int (0 : Int32)), (.int (0 : Int32))])
        refine Go.st (fun _ kont => XS.icmpNo X11.here hx rfl (hb hby at_66) rfl (teq rfl).2 kont) ?_
        show Go p e s below _ _ _ T11 (mkF m 69 #[.val (.int p0), .val (.int p1), .val (.int p2), .val (.ref b1), .val (.int k), .val (.int z3), .val (.ref b5), .val (.int (0 : Int32))] [])
        refine Go.st (fun _ kont => XS.aload X11.here hx rfl (hb hby at_69) rfl rfl kont) ?_
        show Go p e s below _ _ _ T11 (mkF m 71 #[.val (.int p0), .val (.int p1), .val (.int p2), .val (.ref b1), .val (.int k), .val (.int z3), .val (.ref b5), .val (.int (0 : Int32))] [(.ref b5)])
        refine Go.st (fun _ kont => XS.aloadN X11.here hx rfl (hb hby at_71) rfl rfl kont) ?_
        show Go p e s below _ _ _ T11 (mkF m 72 #[.val (.int p0), .val (.int p1), .val (.int p2), .val (.ref b1), .val (.int k), .val (.int z3), .val (.ref b5), .val (.int (0 : Int32))] [(.ref b1), (.ref b5)])
        refine Go.callV (b := b5) (W := 0) (argsL := [(.ref b1)]) (rest := []) X11 hx hZ hown (y := (⟨"com/example/ringward/ringward/layout/Murmur3Hash", "equals", "(Ljava/lang/Object;)Z"⟩ : MethodName)) (z := (⟨"com/example/ringward/ringward/layout/Murmur3Hash", "equals", "(Ljava/lang/Object;)Z"⟩ : MethodName)) (hw _ (List.mem_of_getElem? (i := 14) rfl)) (hw _ (List.mem_of_getElem? (i := 15) rfl)) (notFace_of_selects (args := #[]) (mvT hZ (hw _ (List.mem_of_getElem? (i := 17) rfl)))) (hw _ (List.mem_of_getElem? (i := 17) rfl)) (hw _ (List.mem_of_getElem? (i := 16) rfl)) (hw _ (List.mem_of_getElem? (i := 2) rfl)) (hw _ (List.mem_of_getElem? (i := 18) rfl)) (rmE l Z a0 hw [] b5 b1 z3 p0 (0 : Int32) h6 n0 F_seed_b5_6 F_seed_b1_6 E_b1_6 ⟨fun q => absurd q hc48_7, fun _ => rfl⟩) E11 E_b5_6 (by decide) (by decide) (by decide) (by decide) (by decide) (by rw [hml]; rfl) (lenOf pd__Ljava_lang_Object__Z rfl) (Nat.le_of_eq rfl) (hb hby at_72) ?_
        intro T12 v12 L12 X12 hQ12
        obtain ⟨rfl, N12, E12⟩ := hQ12
        have M12 := Fr.app M11 N12
        show Go p e s below _ _ _ T12 (mkF m 75 #[.val (.int p0), .val (.int p1), .val (.int p2), .val (.ref b1), .val (.int k), .val (.int z3), .val (.ref b5), .val (.int (0 : Int32))] [(.int (0 : Int32))])
        refine Go.st (fun _ kont => XS.iload X12.here hx rfl (hb hby at_75) rfl kont) ?_
        show Go p e s below _ _ _ T12 (mkF m 77 #[.val (.int p0), .val (.int p1), .val (.int p2), .val (.ref b1), .val (.int k), .val (.int z3), .val (.ref b5), .val (.int (0 : Int32))] [(.int (0 : Int32)), (.int (0 : Int32))])
        refine Go.st (fun _ kont => XS.icmpNo X12.here hx rfl (hb hby at_77) rfl (teq rfl).2 kont) ?_
        show Go p e s below _ _ _ T12 (mkF m 80 #[.val (.int p0), .val (.int p1), .val (.int p2), .val (.ref b1), .val (.int k), .val (.int z3), .val (.ref b5), .val (.int (0 : Int32))] [])
        refine Go.st (fun _ kont => XS.aloadN X12.here hx rfl (hb hby at_80) rfl rfl kont) ?_
        show Go p e s below _ _ _ T12 (mkF m 81 #[.val (.int p0), .val (.int p1), .val (.int p2), .val (.ref b1), .val (.int k), .val (.int z3), .val (.ref b5), .val (.int (0 : Int32))] [(.ref b1)])
        refine Go.st (fun _ kont => XS.aloadN X12.here hx rfl (hb hby at_81) rfl rfl kont) ?_
        show Go p e s below _ _ _ T12 (mkF m 82 #[.val (.int p0), .val (.int p1), .val (.int p2), .val (.ref b1), .val (.int k), .val (.int z3), .val (.ref b5), .val (.int (0 : Int32))] [(.ref b1), (.ref b1)])
        refine Go.callV (b := b1) (W := 0) (argsL := [(.ref b1)]) (rest := []) X12 hx hZ hown (y := (⟨"com/example/ringward/ringward/layout/Murmur3Hash", "equals", "(Ljava/lang/Object;)Z"⟩ : MethodName)) (z := (⟨"com/example/ringward/ringward/layout/Murmur3Hash", "equals", "(Ljava/lang/Object;)Z"⟩ : MethodName)) (hw _ (List.mem_of_getElem? (i := 14) rfl)) (hw _ (List.mem_of_getElem? (i := 15) rfl)) (notFace_of_selects (args := #[]) (mvT hZ (hw _ (List.mem_of_getElem? (i := 17) rfl)))) (hw _ (List.mem_of_getElem? (i := 17) rfl)) (hw _ (List.mem_of_getElem? (i := 16) rfl)) (hw _ (List.mem_of_getElem? (i := 2) rfl)) (hw _ (List.mem_of_getElem? (i := 18) rfl)) (rmE l Z a0 hw [] b1 b1 p0 p0 (1 : Int32) h6 n0 F_seed_b1_6 F_seed_b1_6 E_b1_6 ⟨fun _ => rfl, fun q => absurd rfl q⟩) E12 E_b1_6 (by decide) (by decide) (by decide) (by decide) (by decide) (by rw [hml]; rfl) (lenOf pd__Ljava_lang_Object__Z rfl) (Nat.le_of_eq rfl) (hb hby at_82) ?_
        intro T13 v13 L13 X13 hQ13
        obtain ⟨rfl, N13, E13⟩ := hQ13
        have M13 := Fr.app M12 N13
        show Go p e s below _ _ _ T13 (mkF m 85 #[.val (.int p0), .val (.int p1), .val (.int p2), .val (.ref b1), .val (.int k), .val (.int z3), .val (.ref b5), .val (.int (0 : Int32))] [(.int (1 : Int32))])
        refine Go.st (fun _ kont => XS.ifNo X13.here hx rfl (hb hby at_85) rfl ((if0 _ _).trans (feq (by decide : ¬ ((1 : Int32) = (0 : Int32)))).1) kont) ?_
        show Go p e s below _ _ _ T13 (mkF m 88 #[.val (.int p0), .val (.int p1), .val (.int p2), .val (.ref b1), .val (.int k), .val (.int z3), .val (.ref b5), .val (.int (0 : Int32))] [])
        refine Go.st (fun _ kont => XT.iconstV X13.here hx rfl (1 : Int32) (hb hby at_88) (by decide) kont) ?_
        show Go p e s below _ _ _ T13 (mkF m 89 #[.val (.int p0), .val (.int p1), .val (.int p2), .val (.ref b1), .val (.int k), .val (.int z3), .val (.ref b5), .val (.int (0 : Int32))] [(.int (1 : Int32))])
        refine Go.st (fun _ kont => XS.goto X13.here hx rfl (pc0 := 89) (pc' := 93) rfl (hb hby at_89) (by decide) (by decide) kont) ?_
        show Go p e s below _ _ _ T13 (mkF m 93 #[.val (.int p0), .val (.int p1), .val (.int p2), .val (.ref b1), .val (.int k), .val (.int z3), .val (.ref b5), .val (.int (0 : Int32))] [(.int (1 : Int32))])
        exact Go.retN X13 hx hlk hret (by simp) (hb hby at_93) (by decide) (by decide) ⟨rfl, M13⟩
    · --
      refine Go.st (fun _ kont => XS.ifYes X2.here hx rfl (pc0 := 31) (pc' := 94) rfl (hb hby at_31) rfl ((if0 _ _).trans (feq hc31_4).2) (by decide) (by decide) kont) ?_
      show Go p e s below _ _ _ T2 (mkF m 94 #[.val (.int p0), .val (.int p1), .val (.int p2), .val (.ref b1), .val (.int k), .val (.int z3), .unset, .unset] [])
      refine Go.st (fun _ kont => XS.iload X2.here hx rfl (hb hby at_94) rfl kont) ?_
      show Go p e s below _ _ _ T2 (mkF m 96 #[.val (.int p0), .val (.int p1), .val (.int p2), .val (.ref b1), .val (.int k), .val (.int z3), .unset, .unset] [(.int k)])
      refine Go.st (fun _ kont => XT.iconstV X2.here hx rfl (1 : Int32) (hb hby at_96) (by decide) kont) ?_
      show Go p e s below _ _ _ T2 (mkF m 97 #[.val (.int p0), .val (.int p1), .val (.int p2), .val (.ref b1), .val (.int k), .val (.int z3), .unset, .unset] [(.int (1 : Int32)), (.int k)])
      by_cases hc97_14 : k = (1 : Int32)
      · --
        refine Go.st (fun _ kont => XS.icmpNo X2.here hx rfl (hb hby at_97) rfl (teq hc97_14).2 kont) ?_
        show Go p e s below _ _ _ T2 (mkF m 100 #[.val (.int p0), .val (.int p1), .val (.int p2), .val (.ref b1), .val (.int k), .val (.int z3), .unset, .unset] [])
        refine Go.st (fun _ kont => XS.aloadN X2.here hx rfl (hb hby at_100) rfl rfl kont) ?_
        show Go p e s below _ _ _ T2 (mkF m 101 #[.val (.int p0), .val (.int p1), .val (.int p2), .val (.ref b1), .val (.int k), .val (.int z3), .unset, .unset] [(.ref b1)])
        refine Go.st (fun _ kont => XS.aconstNull X2.here hx rfl (hb hby at_101) kont) ?_
        show Go p e s below _ _ _ T2 (mkF m 102 #[.val (.int p0), .val (.int p1), .val (.int p2), .val (.ref b1), .val (.int k), .val (.int z3), .unset, .unset] [.null, (.ref b1)])
        refine Go.callV (b := b1) (W := 0) (argsL := [.null]) (rest := []) X2 hx hZ hown (y := (⟨"com/example/ringward/ringward/layout/Murmur3Hash", "equals", "(Ljava/lang/Object;)Z"⟩ : MethodName)) (z := (⟨"com/example/ringward/ringward/layout/Murmur3Hash", "equals", "(Ljava/lang/Object;)Z"⟩ : MethodName)) (hw _ (List.mem_of_getElem? (i := 14) rfl)) (hw _ (List.mem_of_getElem? (i := 15) rfl)) (notFace_of_selects (args := #[]) (mvT hZ (hw _ (List.mem_of_getElem? (i := 17) rfl)))) (hw _ (List.mem_of_getElem? (i := 17) rfl)) (hw _ (List.mem_of_getElem? (i := 16) rfl)) (hw _ (List.mem_of_getElem? (i := 2) rfl)) (hw _ (List.mem_of_getElem? (i := 18) rfl)) (rmE0 l Z a0 hw [] b1 h2 n0) e2 E_b1_2 (by decide) (by decide) (by decide) (by decide) (by decide) (by rw [hml]; rfl) (lenOf pd__Ljava_lang_Object__Z rfl) (Nat.le_of_eq rfl) (hb hby at_102) ?_
        intro T15 v15 L15 X15 hQ15
        obtain ⟨rfl, N15, E15⟩ := hQ15
        have M15 := Fr.app M2 N15
        show Go p e s below _ _ _ T15 (mkF m 105 #[.val (.int p0), .val (.int p1), .val (.int p2), .val (.ref b1), .val (.int k), .val (.int z3), .unset, .unset] [(.int (0 : Int32))])
        refine Go.st (fun _ kont => XS.ifNo X15.here hx rfl (hb hby at_105) rfl ((if0 _ _).trans (teq rfl).2) kont) ?_
        show Go p e s below _ _ _ T15 (mkF m 108 #[.val (.int p0), .val (.int p1), .val (.int p2), .val (.ref b1), .val (.int k), .val (.int z3), .unset, .unset] [])
        refine Go.st (fun _ kont => XT.iconstV X15.here hx rfl (1 : Int32) (hb hby at_108) (by decide) kont) ?_
        show Go p e s below _ _ _ T15 (mkF m 109 #[.val (.int p0), .val (.int p1), .val (.int p2), .val (.ref b1), .val (.int k), .val (.int z3), .unset, .unset] [(.int (1 : Int32))])
        refine Go.st (fun _ kont => XS.goto X15.here hx rfl (pc0 := 109) (pc' := 113) rfl (hb hby at_109) (by decide) (by decide) kont) ?_
        show Go p e s below _ _ _ T15 (mkF m 113 #[.val (.int p0), .val (.int p1), .val (.int p2), .val (.ref b1), .val (.int k), .val (.int z3), .unset, .unset] [(.int (1 : Int32))])
        exact Go.retN X15 hx hlk hret (by simp) (hb hby at_113) (by decide) (by decide) ⟨rfl, M15⟩
      · --
        refine Go.st (fun _ kont => XS.icmpYes X2.here hx rfl (pc0 := 97) (pc' := 114) rfl (hb hby at_97) rfl (feq hc97_14).2 (by decide) (by decide) kont) ?_
        show Go p e s below _ _ _ T2 (mkF m 114 #[.val (.int p0), .val (.int p1), .val (.int p2), .val (.ref b1), .val (.int k), .val (.int z3), .unset, .unset] [])
        refine Go.st (fun _ kont => XS.iload X2.here hx rfl (hb hby at_114) rfl kont) ?_
        show Go p e s below _ _ _ T2 (mkF m 116 #[.val (.int p0), .val (.int p1), .val (.int p2), .val (.ref b1), .val (.int k), .val (.int z3), .unset, .unset] [(.int k)])
        refine Go.st (fun _ kont => XT.iconstV X2.here hx rfl (2 : Int32) (hb hby at_116) (by decide) kont) ?_
        show Go p e s below _ _ _ T2 (mkF m 117 #[.val (.int p0), .val (.int p1), .val (.int p2), .val (.ref b1), .val (.int k), .val (.int z3), .unset, .unset] [(.int (2 : Int32)), (.int k)])
        by_cases hc117_16 : k = (2 : Int32)
        · --
          refine Go.st (fun _ kont => XS.icmpNo X2.here hx rfl (hb hby at_117) rfl (teq hc117_16).2 kont) ?_
          show Go p e s below _ _ _ T2 (mkF m 120 #[.val (.int p0), .val (.int p1), .val (.int p2), .val (.ref b1), .val (.int k), .val (.int z3), .unset, .unset] [])
          refine Go.st (fun _ kont => XS.aloadN X2.here hx rfl (hb hby at_120) rfl rfl kont) ?_
          show Go p e s below _ _ _ T2 (mkF m 121 #[.val (.int p0), .val (.int p1), .val (.int p2), .val (.ref b1), .val (.int k), .val (.int z3), .unset, .unset] [(.ref b1)])
          obtain ⟨T17, X17, e17, st17⟩ := getS2 X2 hx hZ hown (host := "") (Or.inl (hw _ (List.mem_of_getElem? (i := 11) rfl))) Via.refl e2 (SF.ext Q_2) (g := (mkF m 121 #[.val (.int p0), .val (.int p1), .val (.int p2), .val (.ref b1), .val (.int k), .val (.int z3), .unset, .unset] [(.ref b1)])) rfl (hb hby at_121)
          refine Go.st st17 ?_
          show Go p e s below _ _ _ T17 (mkF m 124 #[.val (.int p0), .val (.int p1), .val (.int p2), .val (.ref b1), .val (.int k), .val (.int z3), .unset, .unset] [(.ref fi), (.ref b1)])
          refine Go.callV (b := b1) (W := 0) (argsL := [(.ref fi)]) (rest := []) X17 hx hZ hown (y := (⟨"com/example/ringward/ringward/layout/Murmur3Hash", "equals", "(Ljava/lang/Object;)Z"⟩ : MethodName)) (z := (⟨"com/example/ringward/ringward/layout/Murmur3Hash", "equals", "(Ljava/lang/Object;)Z"⟩ : MethodName)) (hw _ (List.mem_of_getElem? (i := 14) rfl)) (hw _ (List.mem_of_getElem? (i := 15) rfl)) (notFace_of_selects (args := #[]) (mvT hZ (hw _ (List.mem_of_getElem? (i := 17) rfl)))) (hw _ (List.mem_of_getElem? (i := 17) rfl)) (hw _ (List.mem_of_getElem? (i := 16) rfl)) (hw _ (List.mem_of_getElem? (i := 2) rfl)) (hw _ (List.mem_of_getElem? (i := 18) rfl)) (rmEn l Z a0 hw [] b1 fi "com/example/ringward/ringward/layout/Fnv1aHash" h2 n0 (EF.ext Q_2) (own_nsNo (hw _ (List.mem_of_getElem? (i := 20) rfl)) (hw _ (List.mem_of_getElem? (i := 1) rfl)) (NS.step (hw _ (List.mem_of_getElem? (i := 20) rfl)) (own_nsRoot (hw _ (List.mem_of_getElem? (i := 21) rfl)) (hw _ (List.mem_of_getElem? (i := 1) rfl)) (by decide)) (by decide)) (by decide))) e17 E_b1_2 (by decide) (by decide) (by decide) (by decide) (by decide) (by rw [hml]; rfl) (lenOf pd__Ljava_lang_Object__Z rfl) (Nat.le_of_eq rfl) (hb hby at_124) ?_
          intro T18 v18 L18 X18 hQ18
          obtain ⟨rfl, N18, E18⟩ := hQ18
          have M18 := Fr.app M2 N18
          show Go p e s below _ _ _ T18 (mkF m 127 #[.val (.int p0), .val (.int p1), .val (.int p2), .val (.ref b1), .val (.int k), .val (.int z3), .unset, .unset] [(.int (0 : Int32))])
          refine Go.st (fun _ kont => XS.ifNo X18.here hx rfl (hb hby at_127) rfl ((if0 _ _).trans (teq rfl).2) kont) ?_
          show Go p e s below _ _ _ T18 (mkF m 130 #[.val (.int p0), .val (.int p1), .val (.int p2), .val (.ref b1), .val (.int k), .val (.int z3), .unset, .unset] [])
          refine Go.st (fun _ kont => XT.iconstV X18.here hx rfl (1 : Int32) (hb hby at_130) (by decide) kont) ?_
          show Go p e s below _ _ _ T18 (mkF m 131 #[.val (.int p0), .val (.int p1), .val (.int p2), .val (.ref b1), .val (.int k), .val (.int z3), .unset, .unset] [(.int (1 : Int32))])
          refine Go.st (fun _ kont => XS.goto X18.here hx rfl (pc0 := 131) (pc' := 135) rfl (hb hby at_131) (by decide) (by decide) kont) ?_
          show Go p e s below _ _ _ T18 (mkF m 135 #[.val (.int p0), .val (.int p1), .val (.int p2), .val (.ref b1), .val (.int k), .val (.int z3), .unset, .unset] [(.int (1 : Int32))])
          exact Go.retN X18 hx hlk hret (by simp) (hb hby at_135) (by decide) (by decide) ⟨rfl, M18⟩
        · --
          refine Go.st (fun _ kont => XS.icmpYes X2.here hx rfl (pc0 := 117) (pc' := 136) rfl (hb hby at_117) rfl (feq hc117_16).2 (by decide) (by decide) kont) ?_
          show Go p e s below _ _ _ T2 (mkF m 136 #[.val (.int p0), .val (.int p1), .val (.int p2), .val (.ref b1), .val (.int k), .val (.int z3), .unset, .unset] [])
          refine Go.st (fun _ kont => XS.aloadN X2.here hx rfl (hb hby at_136) rfl rfl kont) ?_
          show Go p e s below _ _ _ T2 (mkF m 137 #[.val (.int p0), .val (.int p1), .val (.int p2), .val (.ref b1), .val (.int k), .val (.int z3), .unset, .unset] [(.ref b1)])
          refine Go.st (fun _ kont => XS.iloadN X2.here hx rfl (hb hby at_137) rfl kont) ?_
          show Go p e s below _ _ _ T2 (mkF m 138 #[.val (.int p0), .val (.int p1), .val (.int p2), .val (.ref b1), .val (.int k), .val (.int z3), .unset, .unset] [(.int p0), (.ref b1)])
          refine Go.callS (W := 1) (argsL := [(.int p0)]) (rest := [(.ref b1)]) X2 hx hZ hown (y := (⟨"java/lang/Integer", "valueOf", "(I)Ljava/lang/Integer;"⟩ : MethodName)) (hw _ (List.mem_of_getElem? (i := 22) rfl)) (hw _ (List.mem_of_getElem? (i := 23) rfl)) (hw _ (List.mem_of_getElem? (i := 24) rfl)) (hw _ (List.mem_of_getElem? (i := 25) rfl)) (rmV l Z a0 hw [] p0 h2 n0 (Nat.le_trans Z0 Q_2.1) ca cl (SH.ext Q_2) (SC.ext Q_2) B (own_extE EZ Q_2)) e2 (by decide) (by decide) (by decide) (by decide) (by decide) (by rw [hml]; rfl) (lenOf pd__I_Ljava_lang_Integer_ rfl) (Nat.le_of_eq rfl) (hb hby at_138) ?_
          intro T19 v19 L19 X19 hQ19
          obtain ⟨h19, e19⟩ : ∃ z, T19.heap = z := ⟨_, rfl⟩
          rw [e19] at hQ19
          obtain ⟨x19, rfl, N19, E19, A19, F19⟩ := hQ19
          have M19 := Fr.app M2 N19
          have Q_19 : Ext h0 h19 := own_extE Q_2 E19
          have E_b1_19 := E_b1_2.ext E19
          have F_seed_b1_19 := F_seed_b1_2.ext E19
          show Go p e s below _ _ _ T19 (mkF m 141 #[.val (.int p0), .val (.int p1), .val (.int p2), .val (.ref b1), .val (.int k), .val (.int z3), .unset, .unset] [(.ref x19), (.ref b1)])
          refine Go.callV (b := b1) (W := 0) (argsL := [(.ref x19)]) (rest := []) X19 hx hZ hown (y := (⟨"com/example/ringward/ringward/layout/Murmur3Hash", "equals", "(Ljava/lang/Object;)Z"⟩ : MethodName)) (z := (⟨"com/example/ringward/ringward/layout/Murmur3Hash", "equals", "(Ljava/lang/Object;)Z"⟩ : MethodName)) (hw _ (List.mem_of_getElem? (i := 14) rfl)) (hw _ (List.mem_of_getElem? (i := 15) rfl)) (notFace_of_selects (args := #[]) (mvT hZ (hw _ (List.mem_of_getElem? (i := 17) rfl)))) (hw _ (List.mem_of_getElem? (i := 17) rfl)) (hw _ (List.mem_of_getElem? (i := 16) rfl)) (hw _ (List.mem_of_getElem? (i := 2) rfl)) (hw _ (List.mem_of_getElem? (i := 18) rfl)) (rmEn l Z a0 hw [] b1 x19 "java/lang/Integer" h19 n0 A19 (own_nsNo (hw _ (List.mem_of_getElem? (i := 29) rfl)) (hw _ (List.mem_of_getElem? (i := 1) rfl)) (NS.step (hw _ (List.mem_of_getElem? (i := 29) rfl)) (NS.step (hw _ (List.mem_of_getElem? (i := 30) rfl)) (own_nsRoot (hw _ (List.mem_of_getElem? (i := 21) rfl)) (hw _ (List.mem_of_getElem? (i := 1) rfl)) (by decide)) (by decide)) (by decide)) (by decide))) e19 E_b1_19 (by decide) (by decide) (by decide) (by decide) (by decide) (by rw [hml]; rfl) (lenOf pd__Ljava_lang_Object__Z rfl) (Nat.le_of_eq rfl) (hb hby at_141) ?_
          intro T20 v20 L20 X20 hQ20
          obtain ⟨rfl, N20, E20⟩ := hQ20
          have M20 := Fr.app M19 N20
          show Go p e s below _ _ _ T20 (mkF m 144 #[.val (.int p0), .val (.int p1), .val (.int p2), .val (.ref b1), .val (.int k), .val (.int z3), .unset, .unset] [(.int (0 : Int32))])
          refine Go.st (fun _ kont => XS.ifNo X20.here hx rfl (hb hby at_144) rfl ((if0 _ _).trans (teq rfl).2) kont) ?_
          show Go p e s below _ _ _ T20 (mkF m 147 #[.val (.int p0), .val (.int p1), .val (.int p2), .val (.ref b1), .val (.int k), .val (.int z3), .unset, .unset] [])
          refine Go.st (fun _ kont => XT.iconstV X20.here hx rfl (1 : Int32) (hb hby at_147) (by decide) kont) ?_
          show Go p e s below _ _ _ T20 (mkF m 148 #[.val (.int p0), .val (.int p1), .val (.int p2), .val (.ref b1), .val (.int k), .val (.int z3), .unset, .unset] [(.int (1 : Int32))])
          refine Go.st (fun _ kont => XS.goto X20.here hx rfl (pc0 := 148) (pc' := 152) rfl (hb hby at_148) (by decide) (by decide) kont) ?_
          show Go p e s below _ _ _ T20 (mkF m 152 #[.val (.int p0), .val (.int p1), .val (.int p2), .val (.ref b1), .val (.int k), .val (.int z3), .unset, .unset] [(.int (1 : Int32))])
          exact Go.retN X20 hx hlk hret (by simp) (hb hby at_152) (by decide) (by decide) ⟨rfl, M20⟩
  by_cases hc19_21 : (((p2.toUInt32 >>> ((2 : Int32) &&& 31).toUInt32).toInt32) &&& (1 : Int32)) = (0 : Int32)
  · --
    refine Go.st (fun _ kont => XS.ifYes X2.here hx rfl (pc0 := 19) (pc' := 26) rfl (hb hby at_19) rfl ((if0 _ _).trans (teq hc19_21).1) (by decide) (by decide) kont) ?_
    show Go p e s below _ _ _ T2 (mkF m 26 #[.val (.int p0), .val (.int p1), .val (.int p2), .val (.ref b1), .val (.int (p2 &&& (3 : Int32))), .unset, .unset, .unset] [])
    refine Go.st (fun _ kont => XS.iloadN X2.here hx rfl (hb hby at_26) rfl kont) ?_
    show Go p e s below _ _ _ T2 (mkF m 27 #[.val (.int p0), .val (.int p1), .val (.int p2), .val (.ref b1), .val (.int (p2 &&& (3 : Int32))), .unset, .unset, .unset] [(.int p1)])
    exact J3 p1
  · --
    refine Go.st (fun _ kont => XS.ifNo X2.here hx rfl (hb hby at_19) rfl ((if0 _ _).trans (feq hc19_21).1) kont) ?_
    show Go p e s below _ _ _ T2 (mkF m 22 #[.val (.int p0), .val (.int p1), .val (.int p2), .val (.ref b1), .val (.int (p2 &&& (3 : Int32))), .unset, .unset, .unset] [])
    refine Go.st (fun _ kont => XS.iloadN X2.here hx rfl (hb hby at_22) rfl kont) ?_
    show Go p e s below _ _ _ T2 (mkF m 23 #[.val (.int p0), .val (.int p1), .val (.int p2), .val (.ref b1), .val (.int (p2 &&& (3 : Int32))), .unset, .unset, .unset] [(.int p0)])
    refine Go.st (fun _ kont => XS.goto X2.here hx rfl (pc0 := 23) (pc' := 27) rfl (hb hby at_23) (by decide) (by decide) kont) ?_
    show Go p e s below _ _ _ T2 (mkF m 27 #[.val (.int p0), .val (.int p1), .val (.int p2), .val (.ref b1), .val (.int (p2 &&& (3 : Int32))), .unset, .unset, .unset] [(.int p0)])
    exact J3 p0
set_option maxRecDepth 65536 in
set_option maxHeartbeats 40000000 in
theorem comes_1 {Post : Tables → Env → Array Value → State → Outcome → State → Prop} (hpost : ∀ tb e args s v u, (limb_1_1.after args s (.returned v) u = true ∧ limb_1_2.after args s (.returned v) u = true ∧ True) → FrameEnd s (.returned v) u (Jvm.fieldLocs frame_1_writes args s ++ Jvm.arrayLocs frame_1_arrays args s ++ Jvm.staticLocs frame_1_statics s) 16 128 → Post tb e args s (.returned v) u) :
    ArmFor flags0 classFile x code maxLocals ret World_1 tables_1 room_1 Calls_1 rest_1 Pre_1 Post := by
  intro l hfl _ _ p e ha hc hk s m args below hf hA hF happ hP
  obtain ⟨hcalls, hrest, hpre⟩ := hP
  obtain ⟨-, -, -, hnamed, -, -, -, hat⟩ := (Spec.applies_iff hf).mp happ
  obtain ⟨hg, hn⟩ := and_e (Cond.before_iff.mp (show (Jvm.Cond.and given_1 narrow_1).before args s = true from hpre))
  obtain ⟨hg_1, hg_1'⟩ := and_e hg
  obtain ⟨hg_2, hg_2'⟩ := and_e hg_1'
  obtain ⟨hg_3, hg_3'⟩ := and_e hg_2'
  obtain ⟨w0, w1, w2, rfl⟩ : ∃ w0 w1 w2 : Value, args = #[w0, w1, w2] := by
    have hs : args.size = 3 := by simpa [Cond.value, given_1] using hg_1
    obtain ⟨L⟩ := args
    match L, hs with
    | [w0, w1, w2], _ => exact ⟨w0, w1, w2, rfl⟩
  have hw := fun d (hd : d ∈ tables_1) => atoms_spec (ws := Jvm.Cond.code x code maxLocals ret :: tables_1) hat d (List.mem_cons_of_mem _ hd)
  have hfit : Fit s := fun {y c} hc i hi => by
    obtain ⟨ha, rfl⟩ := Array.getElem?_eq_some_iff.mp hc
    have q := List.all_eq_true.mp ((Array.all_eq_true_iff_forall_mem.mp hF) _ (Array.getElem_mem ha)) i (List.mem_range.mpr hi)
    simpa [Array.getElem?_eq_getElem hi] using q
  obtain ⟨hsets, hown0⟩ := atoms_of _ (rest_1_c_eq ▸ (show rest_1_c.before _ s = true from hrest))
  obtain ⟨i0, ei0⟩ := is_v hg_2
  obtain rfl : w0 = (.int i0) := Option.some.inj ei0
  obtain ⟨i1, ei1⟩ := is_v hg_3
  obtain rfl : w1 = (.int i1) := Option.some.inj ei1
  obtain ⟨i2, ei2⟩ := is_v hg_3'
  obtain rfl : w2 = (.int i2) := Option.some.inj ei2
  have eH := own_eqI (Cond.before_iff.mp (hsets _ (List.mem_of_getElem? (i := 3) rfl)))
  have SH : Sta s s.heap "java/lang/Integer$IntegerCache" "high" "I" (.int 127) := Sta.start eH (Or.inl (hsets _ (List.mem_of_getElem? (i := 1) rfl)))
  obtain ⟨ca, eC⟩ := arr_v (Cond.before_iff.mp (hsets _ (List.mem_of_getElem? (i := 4) rfl)))
  have SC : Sta s s.heap "java/lang/Integer$IntegerCache" "cache" "[Ljava/lang/Integer;" (.ref ca) := Sta.start eC (Or.inr ⟨(hw _ (List.mem_of_getElem? (i := 27) rfl)), (hsets _ (List.mem_of_getElem? (i := 2) rfl))⟩)
  obtain ⟨cl, AC⟩ := Arr.start eC (Cond.before_iff.mp (hsets _ (List.mem_of_getElem? (i := 4) rfl)))
  obtain ⟨hs1, hs2⟩ := Jvm.Free.IntBox.length_fwd (hsets _ (List.mem_of_getElem? (i := 6) rfl)) eC AC.1 AC.2.1 AC.2.2
  have B : Bxs s ca cl "java/lang/Integer" "I" 256 (fun j => .int (j - 128)) := Bxs.start (fun _ => eC) AC hs1 hs2 (by decide) (Cond.before_iff.mp (hsets _ (List.mem_of_getElem? (i := 7) rfl))) (fun X j nn hj => eqv_i (own_idx nn) hj)
  obtain ⟨fi, eF⟩ := exa_v hn
  have SF : Sta s s.heap "com/example/ringward/ringward/layout/Fnv1aHash" "INSTANCE" "Lcom/example/ringward/ringward/layout/Fnv1aHash;" (.ref fi) := Sta.start eF (Or.inr ⟨(hw _ (List.mem_of_getElem? (i := 12) rfl)), (hw _ (List.mem_of_getElem? (i := 13) rfl))⟩)
  have EF := Exa.start eF hn
  obtain ⟨n, o, h1, h2, h3, _, L, rfl, ⟨rfl, N⟩, hq⟩ := rm0 l s _ hw tables_1 i0 i1 i2 s.heap s.heap.size (Nat.le_refl _) ca cl SH SC B (own_extR _) fi SF EF p e ha hc hk s m _ below hf ((Spec.applies_iff_loose hf).mp happ).1 ⟨rfl, State.Warmed39.refl s, rfl⟩ trivial
  refine ⟨n, _, h1, h2, h3, hpost _ _ _ _ _ _ ⟨Cond.after_iff.mpr rfl, Cond.after_iff.mpr (eq_i res_at (Term.int_eval (1)) rfl), trivial⟩ ⟨hq.1, hq.2.1, (hq.2.2.sift fun y hy => Or.inr (N y hy)).mono (by decide) (by decide)⟩⟩
theorem main_1_1 : Claimed_1_1 := comes_1 fun _ _ _ _ _ _ h hF => ⟨h.1, hF⟩
theorem main_1_2 : Claimed_1_2 := comes_1 fun _ _ _ _ _ _ h hF => ⟨h.2.1, hF⟩
end Jvm.Pilot.@@N@@
namespace Jvm.Pilot.@@N@@
open Jvm Jvm.ClassFile Sem Op Lib Jvm.Free Jvm.Stand Jvm.Pilot.@@N@@.Jvm.D
/-! MADE BY PROGRAM (witnessworld.py) out of the Statement's table words and the real class files: 18 classes; the members and pool entries that the words name. The judged class is class 1, her method 1. -/
namespace start1
open Jvm.ClassFile
def u (s : String) : CpInfo := .utf8 (stringToUtf16 s)
/-- a pool by its gaps: so many unusable entries, then the entry; so many at the end -/
def gap : Nat → List CpInfo → List CpInfo
  | 0, r => r
  | n + 1, r => .unusable :: gap n r
def poolList (es : List (Nat × CpInfo)) (last : Nat) : List CpInfo := es.foldr (fun e r => gap e.1 (e.2 :: r)) (gap last [])
def pool (es : List (Nat × CpInfo)) (last : Nat) : Array CpInfo := ⟨poolList es last⟩
def fileOf (pool : Array CpInfo) (this : Nat) (attrs : Array Attribute := #[]) (ms : Array MethodInfo := #[]) (fl : Nat := 33) (sup : Nat := 0) (ifs : Array Nat := #[]) (fds : Array FieldInfo := #[]) : ClassFile where
  minorVersion := 0
  majorVersion := 65
  constantPool := pool
  accessFlags := fl
  thisClass := this
  superClass := sup
  interfaces := ifs
  fields := fds
  methods := ms
  attributes := attrs
def plain (name : String) (sup : Option ClassId) : Class where
  name := name
  kind := .ordinary
  loader := none
  accessFlags := 33
  super := sup
  interfaces := #[]
  cf := none
  fields := #[]
  methods := #[]
  instanceTypes := #[]
  staticTypes := #[]
  resolved := #[]
  callSites := []
  init := .initialized
  statics := none
  mirror := none

def pool0 : Array CpInfo := pool [(5, u "<init>"), (0, u "()V"), (1, .class_ 10), (1, u "java/lang/Object")] 113

def k0c0 : Code := { maxStack := 0, maxLocals := 1, code := object_method_1_code, exceptionTable := #[], attributes := #[] }
def k0m0 : Method := { name := "<init>", desc := "()V", sig := { parameters := [], returnType := none }, accessFlags := 1, code := some k0c0 }
/-- java/lang/Object -/
def k0 : Class := { plain "java/lang/Object" none with
  accessFlags := 33
  interfaces := #[]
  cf := some (fileOf pool0 8 #[] #[{ accessFlags := 1, nameIndex := 5, descriptorIndex := 6, attributes := #[] }] 33 0 #[] #[])
  fields := #[]
  methods := #[k0m0]
  instanceTypes := #[]
  staticTypes := #[]
  resolved := Array.replicate 124 none
  statics := none }

def pool1 : Array CpInfo := pool [(2, .class_ 4), (1, u "java/lang/Object"), (0, u "<init>"), (0, u "()V"), (0, .class_ 8), (0, u "com/example/ringward/ringward/layout/Murmur3Hash"), (0, .methodref 7 10), (0, .nameAndType 5 11), (0, u "(I)V"), (0, .methodref 7 13), (0, .nameAndType 14 15), (0, u "equals"), (0, u "(Ljava/lang/Object;)Z"), (0, .fieldref 17 18), (0, .class_ 19), (0, .nameAndType 20 21), (0, u "com/example/ringward/ringward/layout/Fnv1aHash"), (0, u "INSTANCE"), (0, u "Lcom/example/ringward/ringward/layout/Fnv1aHash;"), (0, .methodref 23 24), (0, .class_ 25), (0, .nameAndType 26 27), (0, u "java/lang/Integer"), (0, u "valueOf"), (0, u "(I)Ljava/lang/Integer;"), (0, .class_ 29), (0, u "com/example/ringward/ringward/layout/Murmur3HashEqualsPinLaw"), (2, u "law"), (0, u "(III)Z")] 3

def k1m0 : Method := { name := "<init>", desc := "()V", sig := { parameters := [], returnType := none }, accessFlags := 1, code := none }
def k1c1 : Code := { maxStack := 3, maxLocals := 8, code := code, exceptionTable := #[], attributes := #[] }
def k1m1 : Method := { name := "law", desc := "(III)Z", sig := { parameters := [.int, .int, .int], returnType := some .boolean }, accessFlags := 9, code := some k1c1 }
/-- com/example/ringward/ringward/layout/Murmur3HashEqualsPinLaw -/
def k1 : Class := { plain "com/example/ringward/ringward/layout/Murmur3HashEqualsPinLaw" (some 0) with
  accessFlags := 49
  interfaces := #[]
  cf := some (fileOf pool1 28 #[] #[{ accessFlags := 1, nameIndex := 5, descriptorIndex := 6, attributes := #[] }, { accessFlags := 9, nameIndex := 32, descriptorIndex := 33, attributes := #[] }] 49 2 #[] #[])
  fields := #[]
  methods := #[k1m0, k1m1]
  instanceTypes := #[]
  staticTypes := #[]
  resolved := Array.replicate 37 none
  statics := none }

def pool2 : Array CpInfo := pool [(10, .class_ 12), (1, u "com/example/ringward/ringward/layout/Hash"), (52, .class_ 66), (0, u "java/lang/Object")] 11

/-- com/example/ringward/ringward/layout/Hash -/
def k2 : Class := { plain "com/example/ringward/ringward/layout/Hash" (some 0) with
  accessFlags := 1537
  interfaces := #[]
  cf := some (fileOf pool2 10 #[] #[] 1537 65 #[] #[])
  fields := #[]
  methods := #[]
  instanceTypes := #[]
  staticTypes := #[]
  resolved := Array.replicate 78 none
  statics := none }

def pool3 : Array CpInfo := pool [(1, .methodref 2 3), (0, .class_ 4), (0, .nameAndType 5 6), (0, u "java/lang/Object"), (0, u "<init>"), (0, u "()V"), (0, .fieldref 8 9), (0, .class_ 10), (0, .nameAndType 11 12), (0, u "com/example/ringward/ringward/layout/Murmur3Hash"), (0, u "seed"), (0, u "I"), (4, u "LITTLE_ENDIAN_INT"), (0, u "Ljava/lang/invoke/VarHandle;"), (39, .class_ 59), (0, u "com/example/ringward/ringward/layout/Hash"), (0, u "C1"), (1, u "C2"), (0, u "(I)V"), (7, u "equals"), (0, u "(Ljava/lang/Object;)Z")] 4

def k3c0 : Code := { maxStack := 2, maxLocals := 2, code := prog_14_method_1_code, exceptionTable := #[], attributes := #[] }
def k3m0 : Method := { name := "<init>", desc := "(I)V", sig := { parameters := [.int], returnType := none }, accessFlags := 0, code := some k3c0 }
def k3c1 : Code := { maxStack := 2, maxLocals := 3, code := prog_14_method_3_code, exceptionTable := #[], attributes := #[] }
def k3m1 : Method := { name := "equals", desc := "(Ljava/lang/Object;)Z", sig := { parameters := [(.object "java/lang/Object")], returnType := some .boolean }, accessFlags := 1, code := some k3c1 }
/-- com/example/ringward/ringward/layout/Murmur3Hash -/
def k3 : Class := { plain "com/example/ringward/ringward/layout/Murmur3Hash" (some 0) with
  accessFlags := 48
  interfaces := #[2]
  cf := some (fileOf pool3 8 #[] #[{ accessFlags := 0, nameIndex := 5, descriptorIndex := 63, attributes := #[] }, { accessFlags := 1, nameIndex := 71, descriptorIndex := 72, attributes := #[] }] 48 2 #[58] #[{ accessFlags := 26, nameIndex := 17, descriptorIndex := 18, attributes := #[] }, { accessFlags := 26, nameIndex := 60, descriptorIndex := 12, attributes := #[] }, { accessFlags := 26, nameIndex := 62, descriptorIndex := 12, attributes := #[] }, { accessFlags := 18, nameIndex := 11, descriptorIndex := 12, attributes := #[] }])
  fields := #[{ name := "LITTLE_ENDIAN_INT", type := (.object "java/lang/invoke/VarHandle"), accessFlags := 26, slot := 0, constantValue := 0 }, { name := "C1", type := .int, accessFlags := 26, slot := 1, constantValue := 0 }, { name := "C2", type := .int, accessFlags := 26, slot := 2, constantValue := 0 }, { name := "seed", type := .int, accessFlags := 18, slot := 0, constantValue := 0 }]
  methods := #[k3m0, k3m1]
  instanceTypes := #[.int]
  staticTypes := #[(.object "java/lang/invoke/VarHandle"), .int, .int]
  resolved := Array.replicate 77 none
  statics := none }

def pool4 : Array CpInfo := pool [(2, .class_ 4), (1, u "java/lang/Object"), (0, u "<init>"), (0, u "()V"), (0, .class_ 8), (0, u "com/example/ringward/ringward/layout/Fnv1aHash"), (5, u "INSTANCE"), (0, u "Lcom/example/ringward/ringward/layout/Fnv1aHash;"), (0, .class_ 17), (0, u "com/example/ringward/ringward/layout/Hash"), (0, u "OFFSET_BASIS"), (0, u "I"), (1, u "PRIME")] 10

def k4m0 : Method := { name := "<init>", desc := "()V", sig := { parameters := [], returnType := none }, accessFlags := 2, code := none }
/-- com/example/ringward/ringward/layout/Fnv1aHash -/
def k4 : Class := { plain "com/example/ringward/ringward/layout/Fnv1aHash" (some 0) with
  accessFlags := 48
  interfaces := #[2]
  cf := some (fileOf pool4 7 #[] #[{ accessFlags := 2, nameIndex := 5, descriptorIndex := 6, attributes := #[] }] 48 2 #[16] #[{ accessFlags := 24, nameIndex := 14, descriptorIndex := 15, attributes := #[] }, { accessFlags := 26, nameIndex := 18, descriptorIndex := 19, attributes := #[] }, { accessFlags := 26, nameIndex := 21, descriptorIndex := 19, attributes := #[] }])
  fields := #[{ name := "INSTANCE", type := (.object "com/example/ringward/ringward/layout/Fnv1aHash"), accessFlags := 24, slot := 0, constantValue := 0 }, { name := "OFFSET_BASIS", type := .int, accessFlags := 26, slot := 1, constantValue := 0 }, { name := "PRIME", type := .int, accessFlags := 26, slot := 2, constantValue := 0 }]
  methods := #[k4m0]
  instanceTypes := #[]
  staticTypes := #[(.object "com/example/ringward/ringward/layout/Fnv1aHash"), .int, .int]
  resolved := Array.replicate 32 none
  statics := some 0 }

def pool5 : Array CpInfo := pool [(1, .class_ 2), (0, u "java/io/Serializable"), (0, .class_ 4), (0, u "java/lang/Object")] 2

/-- java/io/Serializable -/
def k5 : Class := { plain "java/io/Serializable" (some 0) with
  accessFlags := 1537
  interfaces := #[]
  cf := some (fileOf pool5 1 #[] #[] 1537 3 #[] #[])
  fields := #[]
  methods := #[]
  instanceTypes := #[]
  staticTypes := #[]
  resolved := Array.replicate 7 none
  statics := none }

def pool6 : Array CpInfo := pool [(1, .methodref 2 3), (0, .class_ 4), (0, .nameAndType 5 6), (0, u "java/lang/Object"), (0, u "<init>"), (0, u "()V"), (1, .class_ 10), (1, u "java/lang/Number"), (2, .class_ 14), (0, u "java/io/Serializable"), (0, u "serialVersionUID"), (0, u "J")] 20

def k6c0 : Code := { maxStack := 1, maxLocals := 1, code := jdk_18_method_1_code, exceptionTable := #[], attributes := #[] }
def k6m0 : Method := { name := "<init>", desc := "()V", sig := { parameters := [], returnType := none }, accessFlags := 1, code := some k6c0 }
/-- java/lang/Number -/
def k6 : Class := { plain "java/lang/Number" (some 0) with
  accessFlags := 1057
  interfaces := #[5]
  cf := some (fileOf pool6 8 #[] #[{ accessFlags := 1, nameIndex := 5, descriptorIndex := 6, attributes := #[] }] 1057 2 #[13] #[{ accessFlags := 26, nameIndex := 15, descriptorIndex := 16, attributes := #[] }])
  fields := #[{ name := "serialVersionUID", type := .long, accessFlags := 26, slot := 0, constantValue := 0 }]
  methods := #[k6m0]
  instanceTypes := #[]
  staticTypes := #[.long]
  resolved := Array.replicate 37 none
  statics := none }

def pool7 : Array CpInfo := pool [(1, .class_ 2), (0, u "java/lang/Comparable"), (0, .class_ 4), (0, u "java/lang/Object")] 7

/-- java/lang/Comparable -/
def k7 : Class := { plain "java/lang/Comparable" (some 0) with
  accessFlags := 1537
  interfaces := #[]
  cf := some (fileOf pool7 1 #[] #[] 1537 3 #[] #[])
  fields := #[]
  methods := #[]
  instanceTypes := #[]
  staticTypes := #[]
  resolved := Array.replicate 12 none
  statics := none }

def pool8 : Array CpInfo := pool [(1, .class_ 2), (0, u "java/lang/constant/Constable"), (0, .class_ 4), (0, u "java/lang/Object")] 6

/-- java/lang/constant/Constable -/
def k8 : Class := { plain "java/lang/constant/Constable" (some 0) with
  accessFlags := 1537
  interfaces := #[]
  cf := some (fileOf pool8 1 #[] #[] 1537 3 #[] #[])
  fields := #[]
  methods := #[]
  instanceTypes := #[]
  staticTypes := #[]
  resolved := Array.replicate 11 none
  statics := none }

def pool9 : Array CpInfo := pool [(1, .class_ 2), (0, u "java/lang/constant/ConstantDesc"), (0, .class_ 4), (0, u "java/lang/Object")] 32

/-- java/lang/constant/ConstantDesc -/
def k9 : Class := { plain "java/lang/constant/ConstantDesc" (some 0) with
  accessFlags := 1537
  interfaces := #[]
  cf := some (fileOf pool9 1 #[] #[] 1537 3 #[] #[])
  fields := #[]
  methods := #[]
  instanceTypes := #[]
  staticTypes := #[]
  resolved := Array.replicate 37 none
  statics := none }

def pool10 : Array CpInfo := pool [(1, .class_ 2), (0, u "java/lang/Integer"), (16, u "digits"), (0, u "[C"), (46, u "<init>"), (17, u "DigitOnes"), (0, u "[B"), (2, u "DigitTens"), (10, .nameAndType 67 101), (0, u "()V"), (85, u "valueOf"), (0, u "(I)Ljava/lang/Integer;"), (0, .class_ 190), (0, u "java/lang/Integer$IntegerCache"), (0, .fieldref 189 192), (0, .nameAndType 193 194), (0, u "high"), (0, u "I"), (0, .fieldref 189 196), (0, .nameAndType 197 198), (0, u "cache"), (0, u "[Ljava/lang/Integer;"), (0, .methodref 1 200), (0, .nameAndType 67 201), (0, u "(I)V"), (0, .methodref 203 100), (0, .class_ 204), (0, u "java/lang/Number"), (0, .fieldref 1 206), (0, .nameAndType 207 194), (0, u "value"), (94, u "TYPE"), (0, u "Ljava/lang/Class;"), (0, .class_ 305), (0, u "java/lang/Comparable"), (0, .class_ 307), (0, u "java/lang/constant/Constable"), (0, .class_ 309), (0, u "java/lang/constant/ConstantDesc"), (0, u "MIN_VALUE"), (1, u "MAX_VALUE"), (3, u "SIZE"), (1, u "BYTES"), (1, u "serialVersionUID"), (0, u "J")] 131

def k10c0 : Code := { maxStack := 3, maxLocals := 1, code := jdk_33_method_22_code, exceptionTable := #[], attributes := #[] }
def k10m0 : Method := { name := "valueOf", desc := "(I)Ljava/lang/Integer;", sig := { parameters := [.int], returnType := some (.object "java/lang/Integer") }, accessFlags := 9, code := some k10c0 }
def k10c1 : Code := { maxStack := 2, maxLocals := 2, code := jdk_33_method_23_code, exceptionTable := #[], attributes := #[] }
def k10m1 : Method := { name := "<init>", desc := "(I)V", sig := { parameters := [.int], returnType := none }, accessFlags := 1, code := some k10c1 }
/-- java/lang/Integer -/
def k10 : Class := { plain "java/lang/Integer" (some 6) with
  accessFlags := 49
  interfaces := #[7, 8, 9]
  cf := some (fileOf pool10 1 #[.nestMembers #[189]] #[{ accessFlags := 9, nameIndex := 187, descriptorIndex := 188, attributes := #[] }, { accessFlags := 1, nameIndex := 67, descriptorIndex := 201, attributes := #[] }] 49 203 #[304, 306, 308] #[{ accessFlags := 25, nameIndex := 310, descriptorIndex := 194, attributes := #[] }, { accessFlags := 25, nameIndex := 312, descriptorIndex := 194, attributes := #[] }, { accessFlags := 25, nameIndex := 302, descriptorIndex := 303, attributes := #[] }, { accessFlags := 24, nameIndex := 19, descriptorIndex := 20, attributes := #[] }, { accessFlags := 24, nameIndex := 89, descriptorIndex := 86, attributes := #[] }, { accessFlags := 24, nameIndex := 85, descriptorIndex := 86, attributes := #[] }, { accessFlags := 18, nameIndex := 207, descriptorIndex := 194, attributes := #[] }, { accessFlags := 25, nameIndex := 316, descriptorIndex := 194, attributes := #[] }, { accessFlags := 25, nameIndex := 318, descriptorIndex := 194, attributes := #[] }, { accessFlags := 26, nameIndex := 320, descriptorIndex := 321, attributes := #[] }])
  fields := #[{ name := "MIN_VALUE", type := .int, accessFlags := 25, slot := 0, constantValue := 0 }, { name := "MAX_VALUE", type := .int, accessFlags := 25, slot := 1, constantValue := 0 }, { name := "TYPE", type := (.object "java/lang/Class"), accessFlags := 25, slot := 2, constantValue := 0 }, { name := "digits", type := (.array .char), accessFlags := 24, slot := 3, constantValue := 0 }, { name := "DigitTens", type := (.array .byte), accessFlags := 24, slot := 4, constantValue := 0 }, { name := "DigitOnes", type := (.array .byte), accessFlags := 24, slot := 5, constantValue := 0 }, { name := "value", type := .int, accessFlags := 18, slot := 0, constantValue := 0 }, { name := "SIZE", type := .int, accessFlags := 25, slot := 6, constantValue := 0 }, { name := "BYTES", type := .int, accessFlags := 25, slot := 7, constantValue := 0 }, { name := "serialVersionUID", type := .long, accessFlags := 26, slot := 8, constantValue := 0 }]
  methods := #[k10m0, k10m1]
  instanceTypes := #[.int]
  staticTypes := #[.int, .int, (.object "java/lang/Class"), (.array .char), (.array .byte), (.array .byte), .int, .int, .long]
  resolved := Array.replicate 453 none
  statics := none }

def pool11 : Array CpInfo := pool [(2, .class_ 4), (1, u "java/lang/Object"), (0, u "<init>"), (0, u "()V"), (0, .class_ 8), (0, u "java/lang/Integer"), (7, .class_ 18), (1, u "java/lang/Integer$IntegerCache"), (0, u "$assertionsDisabled"), (0, u "Z"), (26, u "high"), (0, u "I"), (8, u "archivedCache"), (0, u "[Ljava/lang/Integer;"), (12, u "cache"), (0, u "low")] 27

def k11m0 : Method := { name := "<init>", desc := "()V", sig := { parameters := [], returnType := none }, accessFlags := 2, code := none }
/-- java/lang/Integer$IntegerCache -/
def k11 : Class := { plain "java/lang/Integer$IntegerCache" (some 0) with
  accessFlags := 48
  interfaces := #[]
  cf := some (fileOf pool11 16 #[.nestHost 7] #[{ accessFlags := 2, nameIndex := 5, descriptorIndex := 6, attributes := #[] }] 48 2 #[] #[{ accessFlags := 24, nameIndex := 72, descriptorIndex := 48, attributes := #[] }, { accessFlags := 24, nameIndex := 47, descriptorIndex := 48, attributes := #[] }, { accessFlags := 24, nameIndex := 71, descriptorIndex := 58, attributes := #[] }, { accessFlags := 8, nameIndex := 57, descriptorIndex := 58, attributes := #[] }, { accessFlags := 4120, nameIndex := 19, descriptorIndex := 20, attributes := #[] }])
  fields := #[{ name := "low", type := .int, accessFlags := 24, slot := 0, constantValue := 0 }, { name := "high", type := .int, accessFlags := 24, slot := 1, constantValue := 0 }, { name := "cache", type := (.array (.object "java/lang/Integer")), accessFlags := 24, slot := 2, constantValue := 0 }, { name := "archivedCache", type := (.array (.object "java/lang/Integer")), accessFlags := 8, slot := 3, constantValue := 0 }, { name := "$assertionsDisabled", type := .boolean, accessFlags := 4120, slot := 4, constantValue := 0 }]
  methods := #[k11m0]
  instanceTypes := #[]
  staticTypes := #[.int, .int, (.array (.object "java/lang/Integer")), (.array (.object "java/lang/Integer")), .boolean]
  resolved := Array.replicate 100 none
  statics := some 1 }

def pool12 : Array CpInfo := pool [(1, u "java/lang/Cloneable"), (0, .class_ 1), (0, u "java/lang/Object"), (0, .class_ 3)] 3

/-- java/lang/Cloneable -/
def k12 : Class := { plain "java/lang/Cloneable" (some 0) with
  accessFlags := 1537
  interfaces := #[]
  cf := some (fileOf pool12 2 #[] #[] 1537 4 #[] #[])
  fields := #[]
  methods := #[]
  instanceTypes := #[]
  staticTypes := #[]
  resolved := Array.replicate 8 none
  statics := none }

/-- the primitive byte -/
def k13 : Class := { plain "byte" none with kind := .primitive 'B', accessFlags := 0x411 }
/-- [B -/
def k14 : Class := { plain "[B" (some 0) with kind := .array 13 .byte, interfaces := #[12, 5], accessFlags := 1041 }

/-- the primitive int -/
def k15 : Class := { plain "int" none with kind := .primitive 'I', accessFlags := 0x411 }
/-- [I -/
def k16 : Class := { plain "[I" (some 0) with kind := .array 15 .int, interfaces := #[12, 5], accessFlags := 1041 }

/-- [Ljava/lang/Integer; -/
def k17 : Class := { plain "[Ljava/lang/Integer;" (some 0) with kind := .array 10 (.object "java/lang/Integer"), interfaces := #[12, 5], accessFlags := 1041 }

def heap : Heap := #[{ cls := 4, slots := #[.ref 259, .int 0, .int 0], vm := .statics 4 },
  { cls := 11, slots := #[.int 0, .int 127, .ref 2, .null, .int 0], vm := .statics 11 },
  { cls := 17, slots := #[.ref 3, .ref 4, .ref 5, .ref 6, .ref 7, .ref 8, .ref 9, .ref 10, .ref 11, .ref 12, .ref 13, .ref 14, .ref 15, .ref 16, .ref 17, .ref 18, .ref 19, .ref 20, .ref 21, .ref 22, .ref 23, .ref 24, .ref 25, .ref 26, .ref 27, .ref 28, .ref 29, .ref 30, .ref 31, .ref 32, .ref 33, .ref 34, .ref 35, .ref 36, .ref 37, .ref 38, .ref 39, .ref 40, .ref 41, .ref 42, .ref 43, .ref 44, .ref 45, .ref 46, .ref 47, .ref 48, .ref 49, .ref 50, .ref 51, .ref 52, .ref 53, .ref 54, .ref 55, .ref 56, .ref 57, .ref 58, .ref 59, .ref 60, .ref 61, .ref 62, .ref 63, .ref 64, .ref 65, .ref 66, .ref 67, .ref 68, .ref 69, .ref 70, .ref 71, .ref 72, .ref 73, .ref 74, .ref 75, .ref 76, .ref 77, .ref 78, .ref 79, .ref 80, .ref 81, .ref 82, .ref 83, .ref 84, .ref 85, .ref 86, .ref 87, .ref 88, .ref 89, .ref 90, .ref 91, .ref 92, .ref 93, .ref 94, .ref 95, .ref 96, .ref 97, .ref 98, .ref 99, .ref 100, .ref 101, .ref 102, .ref 103, .ref 104, .ref 105, .ref 106, .ref 107, .ref 108, .ref 109, .ref 110, .ref 111, .ref 112, .ref 113, .ref 114, .ref 115, .ref 116, .ref 117, .ref 118, .ref 119, .ref 120, .ref 121, .ref 122, .ref 123, .ref 124, .ref 125, .ref 126, .ref 127, .ref 128, .ref 129, .ref 130, .ref 131, .ref 132, .ref 133, .ref 134, .ref 135, .ref 136, .ref 137, .ref 138, .ref 139, .ref 140, .ref 141, .ref 142, .ref 143, .ref 144, .ref 145, .ref 146, .ref 147, .ref 148, .ref 149, .ref 150, .ref 151, .ref 152, .ref 153, .ref 154, .ref 155, .ref 156, .ref 157, .ref 158, .ref 159, .ref 160, .ref 161, .ref 162, .ref 163, .ref 164, .ref 165, .ref 166, .ref 167, .ref 168, .ref 169, .ref 170, .ref 171, .ref 172, .ref 173, .ref 174, .ref 175, .ref 176, .ref 177, .ref 178, .ref 179, .ref 180, .ref 181, .ref 182, .ref 183, .ref 184, .ref 185, .ref 186, .ref 187, .ref 188, .ref 189, .ref 190, .ref 191, .ref 192, .ref 193, .ref 194, .ref 195, .ref 196, .ref 197, .ref 198, .ref 199, .ref 200, .ref 201, .ref 202, .ref 203, .ref 204, .ref 205, .ref 206, .ref 207, .ref 208, .ref 209, .ref 210, .ref 211, .ref 212, .ref 213, .ref 214, .ref 215, .ref 216, .ref 217, .ref 218, .ref 219, .ref 220, .ref 221, .ref 222, .ref 223, .ref 224, .ref 225, .ref 226, .ref 227, .ref 228, .ref 229, .ref 230, .ref 231, .ref 232, .ref 233, .ref 234, .ref 235, .ref 236, .ref 237, .ref 238, .ref 239, .ref 240, .ref 241, .ref 242, .ref 243, .ref 244, .ref 245, .ref 246, .ref 247, .ref 248, .ref 249, .ref 250, .ref 251, .ref 252, .ref 253, .ref 254, .ref 255, .ref 256, .ref 257, .ref 258], vm := .none },
  { cls := 10, slots := #[.int (-128)], vm := .none },
  { cls := 10, slots := #[.int (-127)], vm := .none },
  { cls := 10, slots := #[.int (-126)], vm := .none },
  { cls := 10, slots := #[.int (-125)], vm := .none },
  { cls := 10, slots := #[.int (-124)], vm := .none },
  { cls := 10, slots := #[.int (-123)], vm := .none },
  { cls := 10, slots := #[.int (-122)], vm := .none },
  { cls := 10, slots := #[.int (-121)], vm := .none },
  { cls := 10, slots := #[.int (-120)], vm := .none },
  { cls := 10, slots := #[.int (-119)], vm := .none },
  { cls := 10, slots := #[.int (-118)], vm := .none },
  { cls := 10, slots := #[.int (-117)], vm := .none },
  { cls := 10, slots := #[.int (-116)], vm := .none },
  { cls := 10, slots := #[.int (-115)], vm := .none },
  { cls := 10, slots := #[.int (-114)], vm := .none },
  { cls := 10, slots := #[.int (-113)], vm := .none },
  { cls := 10, slots := #[.int (-112)], vm := .none },
  { cls := 10, slots := #[.int (-111)], vm := .none },
  { cls := 10, slots := #[.int (-110)], vm := .none },
  { cls := 10, slots := #[.int (-109)], vm := .none },
  { cls := 10, slots := #[.int (-108)], vm := .none },
  { cls := 10, slots := #[.int (-107)], vm := .none },
  { cls := 10, slots := #[.int (-106)], vm := .none },
  { cls := 10, slots := #[.int (-105)], vm := .none },
  { cls := 10, slots := #[.int (-104)], vm := .none },
  { cls := 10, slots := #[.int (-103)], vm := .none },
  { cls := 10, slots := #[.int (-102)], vm := .none },
  { cls := 10, slots := #[.int (-101)], vm := .none },
  { cls := 10, slots := #[.int (-100)], vm := .none },
  { cls := 10, slots := #[.int (-99)], vm := .none },
  { cls := 10, slots := #[.int (-98)], vm := .none },
  { cls := 10, slots := #[.int (-97)], vm := .none },
  { cls := 10, slots := #[.int (-96)], vm := .none },
  { cls := 10, slots := #[.int (-95)], vm := .none },
  { cls := 10, slots := #[.int (-94)], vm := .none },
  { cls := 10, slots := #[.int (-93)], vm := .none },
  { cls := 10, slots := #[.int (-92)], vm := .none },
  { cls := 10, slots := #[.int (-91)], vm := .none },
  { cls := 10, slots := #[.int (-90)], vm := .none },
  { cls := 10, slots := #[.int (-89)], vm := .none },
  { cls := 10, slots := #[.int (-88)], vm := .none },
  { cls := 10, slots := #[.int (-87)], vm := .none },
  { cls := 10, slots := #[.int (-86)], vm := .none },
  { cls := 10, slots := #[.int (-85)], vm := .none },
  { cls := 10, slots := #[.int (-84)], vm := .none },
  { cls := 10, slots := #[.int (-83)], vm := .none },
  { cls := 10, slots := #[.int (-82)], vm := .none },
  { cls := 10, slots := #[.int (-81)], vm := .none },
  { cls := 10, slots := #[.int (-80)], vm := .none },
  { cls := 10, slots := #[.int (-79)], vm := .none },
  { cls := 10, slots := #[.int (-78)], vm := .none },
  { cls := 10, slots := #[.int (-77)], vm := .none },
  { cls := 10, slots := #[.int (-76)], vm := .none },
  { cls := 10, slots := #[.int (-75)], vm := .none },
  { cls := 10, slots := #[.int (-74)], vm := .none },
  { cls := 10, slots := #[.int (-73)], vm := .none },
  { cls := 10, slots := #[.int (-72)], vm := .none },
  { cls := 10, slots := #[.int (-71)], vm := .none },
  { cls := 10, slots := #[.int (-70)], vm := .none },
  { cls := 10, slots := #[.int (-69)], vm := .none },
  { cls := 10, slots := #[.int (-68)], vm := .none },
  { cls := 10, slots := #[.int (-67)], vm := .none },
  { cls := 10, slots := #[.int (-66)], vm := .none },
  { cls := 10, slots := #[.int (-65)], vm := .none },
  { cls := 10, slots := #[.int (-64)], vm := .none },
  { cls := 10, slots := #[.int (-63)], vm := .none },
  { cls := 10, slots := #[.int (-62)], vm := .none },
  { cls := 10, slots := #[.int (-61)], vm := .none },
  { cls := 10, slots := #[.int (-60)], vm := .none },
  { cls := 10, slots := #[.int (-59)], vm := .none },
  { cls := 10, slots := #[.int (-58)], vm := .none },
  { cls := 10, slots := #[.int (-57)], vm := .none },
  { cls := 10, slots := #[.int (-56)], vm := .none },
  { cls := 10, slots := #[.int (-55)], vm := .none },
  { cls := 10, slots := #[.int (-54)], vm := .none },
  { cls := 10, slots := #[.int (-53)], vm := .none },
  { cls := 10, slots := #[.int (-52)], vm := .none },
  { cls := 10, slots := #[.int (-51)], vm := .none },
  { cls := 10, slots := #[.int (-50)], vm := .none },
  { cls := 10, slots := #[.int (-49)], vm := .none },
  { cls := 10, slots := #[.int (-48)], vm := .none },
  { cls := 10, slots := #[.int (-47)], vm := .none },
  { cls := 10, slots := #[.int (-46)], vm := .none },
  { cls := 10, slots := #[.int (-45)], vm := .none },
  { cls := 10, slots := #[.int (-44)], vm := .none },
  { cls := 10, slots := #[.int (-43)], vm := .none },
  { cls := 10, slots := #[.int (-42)], vm := .none },
  { cls := 10, slots := #[.int (-41)], vm := .none },
  { cls := 10, slots := #[.int (-40)], vm := .none },
  { cls := 10, slots := #[.int (-39)], vm := .none },
  { cls := 10, slots := #[.int (-38)], vm := .none },
  { cls := 10, slots := #[.int (-37)], vm := .none },
  { cls := 10, slots := #[.int (-36)], vm := .none },
  { cls := 10, slots := #[.int (-35)], vm := .none },
  { cls := 10, slots := #[.int (-34)], vm := .none },
  { cls := 10, slots := #[.int (-33)], vm := .none },
  { cls := 10, slots := #[.int (-32)], vm := .none },
  { cls := 10, slots := #[.int (-31)], vm := .none },
  { cls := 10, slots := #[.int (-30)], vm := .none },
  { cls := 10, slots := #[.int (-29)], vm := .none },
  { cls := 10, slots := #[.int (-28)], vm := .none },
  { cls := 10, slots := #[.int (-27)], vm := .none },
  { cls := 10, slots := #[.int (-26)], vm := .none },
  { cls := 10, slots := #[.int (-25)], vm := .none },
  { cls := 10, slots := #[.int (-24)], vm := .none },
  { cls := 10, slots := #[.int (-23)], vm := .none },
  { cls := 10, slots := #[.int (-22)], vm := .none },
  { cls := 10, slots := #[.int (-21)], vm := .none },
  { cls := 10, slots := #[.int (-20)], vm := .none },
  { cls := 10, slots := #[.int (-19)], vm := .none },
  { cls := 10, slots := #[.int (-18)], vm := .none },
  { cls := 10, slots := #[.int (-17)], vm := .none },
  { cls := 10, slots := #[.int (-16)], vm := .none },
  { cls := 10, slots := #[.int (-15)], vm := .none },
  { cls := 10, slots := #[.int (-14)], vm := .none },
  { cls := 10, slots := #[.int (-13)], vm := .none },
  { cls := 10, slots := #[.int (-12)], vm := .none },
  { cls := 10, slots := #[.int (-11)], vm := .none },
  { cls := 10, slots := #[.int (-10)], vm := .none },
  { cls := 10, slots := #[.int (-9)], vm := .none },
  { cls := 10, slots := #[.int (-8)], vm := .none },
  { cls := 10, slots := #[.int (-7)], vm := .none },
  { cls := 10, slots := #[.int (-6)], vm := .none },
  { cls := 10, slots := #[.int (-5)], vm := .none },
  { cls := 10, slots := #[.int (-4)], vm := .none },
  { cls := 10, slots := #[.int (-3)], vm := .none },
  { cls := 10, slots := #[.int (-2)], vm := .none },
  { cls := 10, slots := #[.int (-1)], vm := .none },
  { cls := 10, slots := #[.int 0], vm := .none },
  { cls := 10, slots := #[.int 1], vm := .none },
  { cls := 10, slots := #[.int 2], vm := .none },
  { cls := 10, slots := #[.int 3], vm := .none },
  { cls := 10, slots := #[.int 4], vm := .none },
  { cls := 10, slots := #[.int 5], vm := .none },
  { cls := 10, slots := #[.int 6], vm := .none },
  { cls := 10, slots := #[.int 7], vm := .none },
  { cls := 10, slots := #[.int 8], vm := .none },
  { cls := 10, slots := #[.int 9], vm := .none },
  { cls := 10, slots := #[.int 10], vm := .none },
  { cls := 10, slots := #[.int 11], vm := .none },
  { cls := 10, slots := #[.int 12], vm := .none },
  { cls := 10, slots := #[.int 13], vm := .none },
  { cls := 10, slots := #[.int 14], vm := .none },
  { cls := 10, slots := #[.int 15], vm := .none },
  { cls := 10, slots := #[.int 16], vm := .none },
  { cls := 10, slots := #[.int 17], vm := .none },
  { cls := 10, slots := #[.int 18], vm := .none },
  { cls := 10, slots := #[.int 19], vm := .none },
  { cls := 10, slots := #[.int 20], vm := .none },
  { cls := 10, slots := #[.int 21], vm := .none },
  { cls := 10, slots := #[.int 22], vm := .none },
  { cls := 10, slots := #[.int 23], vm := .none },
  { cls := 10, slots := #[.int 24], vm := .none },
  { cls := 10, slots := #[.int 25], vm := .none },
  { cls := 10, slots := #[.int 26], vm := .none },
  { cls := 10, slots := #[.int 27], vm := .none },
  { cls := 10, slots := #[.int 28], vm := .none },
  { cls := 10, slots := #[.int 29], vm := .none },
  { cls := 10, slots := #[.int 30], vm := .none },
  { cls := 10, slots := #[.int 31], vm := .none },
  { cls := 10, slots := #[.int 32], vm := .none },
  { cls := 10, slots := #[.int 33], vm := .none },
  { cls := 10, slots := #[.int 34], vm := .none },
  { cls := 10, slots := #[.int 35], vm := .none },
  { cls := 10, slots := #[.int 36], vm := .none },
  { cls := 10, slots := #[.int 37], vm := .none },
  { cls := 10, slots := #[.int 38], vm := .none },
  { cls := 10, slots := #[.int 39], vm := .none },
  { cls := 10, slots := #[.int 40], vm := .none },
  { cls := 10, slots := #[.int 41], vm := .none },
  { cls := 10, slots := #[.int 42], vm := .none },
  { cls := 10, slots := #[.int 43], vm := .none },
  { cls := 10, slots := #[.int 44], vm := .none },
  { cls := 10, slots := #[.int 45], vm := .none },
  { cls := 10, slots := #[.int 46], vm := .none },
  { cls := 10, slots := #[.int 47], vm := .none },
  { cls := 10, slots := #[.int 48], vm := .none },
  { cls := 10, slots := #[.int 49], vm := .none },
  { cls := 10, slots := #[.int 50], vm := .none },
  { cls := 10, slots := #[.int 51], vm := .none },
  { cls := 10, slots := #[.int 52], vm := .none },
  { cls := 10, slots := #[.int 53], vm := .none },
  { cls := 10, slots := #[.int 54], vm := .none },
  { cls := 10, slots := #[.int 55], vm := .none },
  { cls := 10, slots := #[.int 56], vm := .none },
  { cls := 10, slots := #[.int 57], vm := .none },
  { cls := 10, slots := #[.int 58], vm := .none },
  { cls := 10, slots := #[.int 59], vm := .none },
  { cls := 10, slots := #[.int 60], vm := .none },
  { cls := 10, slots := #[.int 61], vm := .none },
  { cls := 10, slots := #[.int 62], vm := .none },
  { cls := 10, slots := #[.int 63], vm := .none },
  { cls := 10, slots := #[.int 64], vm := .none },
  { cls := 10, slots := #[.int 65], vm := .none },
  { cls := 10, slots := #[.int 66], vm := .none },
  { cls := 10, slots := #[.int 67], vm := .none },
  { cls := 10, slots := #[.int 68], vm := .none },
  { cls := 10, slots := #[.int 69], vm := .none },
  { cls := 10, slots := #[.int 70], vm := .none },
  { cls := 10, slots := #[.int 71], vm := .none },
  { cls := 10, slots := #[.int 72], vm := .none },
  { cls := 10, slots := #[.int 73], vm := .none },
  { cls := 10, slots := #[.int 74], vm := .none },
  { cls := 10, slots := #[.int 75], vm := .none },
  { cls := 10, slots := #[.int 76], vm := .none },
  { cls := 10, slots := #[.int 77], vm := .none },
  { cls := 10, slots := #[.int 78], vm := .none },
  { cls := 10, slots := #[.int 79], vm := .none },
  { cls := 10, slots := #[.int 80], vm := .none },
  { cls := 10, slots := #[.int 81], vm := .none },
  { cls := 10, slots := #[.int 82], vm := .none },
  { cls := 10, slots := #[.int 83], vm := .none },
  { cls := 10, slots := #[.int 84], vm := .none },
  { cls := 10, slots := #[.int 85], vm := .none },
  { cls := 10, slots := #[.int 86], vm := .none },
  { cls := 10, slots := #[.int 87], vm := .none },
  { cls := 10, slots := #[.int 88], vm := .none },
  { cls := 10, slots := #[.int 89], vm := .none },
  { cls := 10, slots := #[.int 90], vm := .none },
  { cls := 10, slots := #[.int 91], vm := .none },
  { cls := 10, slots := #[.int 92], vm := .none },
  { cls := 10, slots := #[.int 93], vm := .none },
  { cls := 10, slots := #[.int 94], vm := .none },
  { cls := 10, slots := #[.int 95], vm := .none },
  { cls := 10, slots := #[.int 96], vm := .none },
  { cls := 10, slots := #[.int 97], vm := .none },
  { cls := 10, slots := #[.int 98], vm := .none },
  { cls := 10, slots := #[.int 99], vm := .none },
  { cls := 10, slots := #[.int 100], vm := .none },
  { cls := 10, slots := #[.int 101], vm := .none },
  { cls := 10, slots := #[.int 102], vm := .none },
  { cls := 10, slots := #[.int 103], vm := .none },
  { cls := 10, slots := #[.int 104], vm := .none },
  { cls := 10, slots := #[.int 105], vm := .none },
  { cls := 10, slots := #[.int 106], vm := .none },
  { cls := 10, slots := #[.int 107], vm := .none },
  { cls := 10, slots := #[.int 108], vm := .none },
  { cls := 10, slots := #[.int 109], vm := .none },
  { cls := 10, slots := #[.int 110], vm := .none },
  { cls := 10, slots := #[.int 111], vm := .none },
  { cls := 10, slots := #[.int 112], vm := .none },
  { cls := 10, slots := #[.int 113], vm := .none },
  { cls := 10, slots := #[.int 114], vm := .none },
  { cls := 10, slots := #[.int 115], vm := .none },
  { cls := 10, slots := #[.int 116], vm := .none },
  { cls := 10, slots := #[.int 117], vm := .none },
  { cls := 10, slots := #[.int 118], vm := .none },
  { cls := 10, slots := #[.int 119], vm := .none },
  { cls := 10, slots := #[.int 120], vm := .none },
  { cls := 10, slots := #[.int 121], vm := .none },
  { cls := 10, slots := #[.int 122], vm := .none },
  { cls := 10, slots := #[.int 123], vm := .none },
  { cls := 10, slots := #[.int 124], vm := .none },
  { cls := 10, slots := #[.int 125], vm := .none },
  { cls := 10, slots := #[.int 126], vm := .none },
  { cls := 10, slots := #[.int 127], vm := .none },
  { cls := 4, slots := #[], vm := .none }]
def classes : Array Class := #[k0, k1, k2, k3, k4, k5, k6, k7, k8, k9, k10, k11, k12, k13, k14, k15, k16, k17]
def interned : List (Array UInt16 × Addr) := []
def slotsUsed : Nat := 520
def theMethod : MethodId := ⟨1, 1⟩
def args0 : Array Value := #[.int 5, .int 6, .int 1]
def aboutOver (below : List Frame) : State where
  vm := { classes := classes, interned := interned.toArray }
  heap := heap
  slotsUsed := slotsUsed
  threads := #[{ frames := .invoking theMethod args0 :: below }]
def below0 : List Frame := [.native { method := ⟨0, 0⟩, args := #[] }]
def about1 : State := aboutOver below0
def p0 : Program := .bare "" "" ""
def e0 : Env := launch0.env 0 0 0
theorem w_frames : about1.frames = Frame.invoking theMethod args0 :: below0 := rfl
set_option maxRecDepth 65536 in
theorem w_args : argsFit about1.vm theMethod args0 = true := by decide +kernel
set_option maxRecDepth 65536 in
theorem w_heap : heapFits about1 = true := by decide +kernel
set_option maxRecDepth 65536 in
theorem w_runnable : about1.curStatus? = some .runnable := by decide +kernel
set_option maxRecDepth 65536 in
theorem w_alone : about1.alone = true := by decide +kernel
set_option maxRecDepth 65536 in
theorem w_named : about1.methodNamed? x = some theMethod := by decide +kernel
set_option maxRecDepth 65536 in
theorem w_hears : about1.hears theMethod below0 = true := by decide +kernel
set_option maxRecDepth 65536 in
theorem w_ripe : about1.ripe theMethod args0 below0 = true := by decide +kernel
theorem w_running : about1.status = .running := rfl
set_option maxRecDepth 65536 in
theorem w_room : about1.hasRoom e0.platform room_1 = true :=
  launch0.hasRoom_least _ room_1 (by decide +kernel) (by decide +kernel) (by decide +kernel) (by decide +kernel) (by decide +kernel) (by decide +kernel)
theorem allAtoms_all (ts : List Jvm.Cond) (a : Array Jvm.Value) (st : Jvm.State) : (allAtoms ts).before a st = ts.all (fun c => c.before a st) := by
  induction ts with
  | nil => rfl
  | cons c t ih =>
    show (Jvm.Cond.and c (allAtoms t)).before a st = _
    rw [Jvm.Cond.before_and, ih, List.all_cons]
def words1 : List Jvm.Cond := Jvm.Cond.code x code maxLocals ret :: tables_1
/-- a 'code' word, met by the world's own term for the bytes: nothing is compared byte by byte -/
theorem code_word {y : MethodName} {bytes : ByteArray} {mx : Nat} {rt : Option FieldType} {a : Array Value} {s : State} {m : MethodId} {meth : Method} {c : Code} (h1 : s.methodNamed? y = some m) (h2 : s.vm.method? m = some meth) (h3 : meth.code = some c) (h4 : c.code = bytes)
    (h5 : (c.maxLocals == mx && c.exceptionTable.isEmpty && decide (c.maxStack ≤ mostOperands) && decide (meth.sig.returnType = rt) && !meth.locks && decide (parseMethodDescriptor y.desc = some meth.sig)) = true) : (Jvm.Cond.code y bytes mx rt).before a s = true := by
  simp only [Bool.and_eq_true, beq_iff_eq, Bool.not_eq_true', decide_eq_true_eq] at h5
  obtain ⟨⟨⟨⟨⟨g1, g2⟩, g3⟩, g4⟩, g5⟩, g6⟩ := h5
  simp [Cond.before, Cond.holds, Cond.value, h1, h2, h3, h4, g1, g2, g3, g4, g5, g6]
def isCode : Jvm.Cond → Bool
  | .code _ _ _ _ => true
  | _ => false
theorem all_split {L : List Jvm.Cond} {P : Jvm.Cond → Bool} (h1 : L.all (fun c => isCode c || P c) = true) (h2 : ∀ c ∈ L.filter isCode, P c = true) : L.all P = true := by
  refine List.all_eq_true.mpr fun c hc => ?_
  have h := List.all_eq_true.mp h1 c hc
  rcases Bool.eq_false_or_eq_true (isCode c) with hi | hi
  · exact h2 c (List.mem_filter.mpr ⟨hc, hi⟩)
  · simpa [hi] using h
set_option maxRecDepth 65536 in
theorem w_c0 : (Jvm.Cond.code x code maxLocals ret).before args0 about1 = true := code_word (m := ⟨1, 1⟩) (meth := k1m1) (c := k1c1) (by decide +kernel) rfl rfl rfl (by decide +kernel)
set_option maxRecDepth 65536 in
theorem w_c1 : (Jvm.Cond.code ({ cls := "com/example/ringward/ringward/layout/Murmur3Hash", name := "<init>", desc := "(I)V" } : Jvm.MethodName) prog_14_method_1_code (2 : Nat) (Option.none : Option Jvm.ClassFile.FieldType)).before args0 about1 = true := code_word (m := ⟨3, 0⟩) (meth := k3m0) (c := k3c0) (by decide +kernel) rfl rfl rfl (by decide +kernel)
set_option maxRecDepth 65536 in
theorem w_c2 : (Jvm.Cond.code ({ cls := "java/lang/Object", name := "<init>", desc := "()V" } : Jvm.MethodName) object_method_1_code (1 : Nat) (Option.none : Option Jvm.ClassFile.FieldType)).before args0 about1 = true := code_word (m := ⟨0, 0⟩) (meth := k0m0) (c := k0c0) (by decide +kernel) rfl rfl rfl (by decide +kernel)
set_option maxRecDepth 65536 in
theorem w_c3 : (Jvm.Cond.code ({ cls := "com/example/ringward/ringward/layout/Murmur3Hash", name := "equals", desc := "(Ljava/lang/Object;)Z" } : Jvm.MethodName) prog_14_method_3_code (3 : Nat) (Option.some Jvm.ClassFile.FieldType.boolean)).before args0 about1 = true := code_word (m := ⟨3, 1⟩) (meth := k3m1) (c := k3c1) (by decide +kernel) rfl rfl rfl (by decide +kernel)
set_option maxRecDepth 65536 in
theorem w_c4 : (Jvm.Cond.code ({ cls := "java/lang/Integer", name := "valueOf", desc := "(I)Ljava/lang/Integer;" } : Jvm.MethodName) jdk_33_method_22_code (1 : Nat) (Option.some (Jvm.ClassFile.FieldType.object "java/lang/Integer"))).before args0 about1 = true := code_word (m := ⟨10, 0⟩) (meth := k10m0) (c := k10c0) (by decide +kernel) rfl rfl rfl (by decide +kernel)
set_option maxRecDepth 65536 in
theorem w_c5 : (Jvm.Cond.code ({ cls := "java/lang/Integer", name := "<init>", desc := "(I)V" } : Jvm.MethodName) jdk_33_method_23_code (2 : Nat) (Option.none : Option Jvm.ClassFile.FieldType)).before args0 about1 = true := code_word (m := ⟨10, 1⟩) (meth := k10m1) (c := k10c1) (by decide +kernel) rfl rfl rfl (by decide +kernel)
set_option maxRecDepth 65536 in
theorem w_c6 : (Jvm.Cond.code ({ cls := "java/lang/Number", name := "<init>", desc := "()V" } : Jvm.MethodName) jdk_18_method_1_code (1 : Nat) (Option.none : Option Jvm.ClassFile.FieldType)).before args0 about1 = true := code_word (m := ⟨6, 0⟩) (meth := k6m0) (c := k6c0) (by decide +kernel) rfl rfl rfl (by decide +kernel)
def codes1 : List Jvm.Cond := [Jvm.Cond.code x code maxLocals ret, Jvm.Cond.code ({ cls := "com/example/ringward/ringward/layout/Murmur3Hash", name := "<init>", desc := "(I)V" } : Jvm.MethodName) prog_14_method_1_code (2 : Nat) (Option.none : Option Jvm.ClassFile.FieldType), Jvm.Cond.code ({ cls := "java/lang/Object", name := "<init>", desc := "()V" } : Jvm.MethodName) object_method_1_code (1 : Nat) (Option.none : Option Jvm.ClassFile.FieldType), Jvm.Cond.code ({ cls := "com/example/ringward/ringward/layout/Murmur3Hash", name := "equals", desc := "(Ljava/lang/Object;)Z" } : Jvm.MethodName) prog_14_method_3_code (3 : Nat) (Option.some Jvm.ClassFile.FieldType.boolean), Jvm.Cond.code ({ cls := "java/lang/Integer", name := "valueOf", desc := "(I)Ljava/lang/Integer;" } : Jvm.MethodName) jdk_33_method_22_code (1 : Nat) (Option.some (Jvm.ClassFile.FieldType.object "java/lang/Integer")), Jvm.Cond.code ({ cls := "java/lang/Integer", name := "<init>", desc := "(I)V" } : Jvm.MethodName) jdk_33_method_23_code (2 : Nat) (Option.none : Option Jvm.ClassFile.FieldType), Jvm.Cond.code ({ cls := "java/lang/Number", name := "<init>", desc := "()V" } : Jvm.MethodName) jdk_18_method_1_code (1 : Nat) (Option.none : Option Jvm.ClassFile.FieldType)]
set_option maxRecDepth 65536 in
theorem codes_eq : words1.filter isCode = codes1 := rfl
theorem w_codes : ∀ c ∈ words1.filter isCode, c.before args0 about1 = true := by
  rw [codes_eq]
  intro c hc
  simp only [codes1, List.mem_cons, List.not_mem_nil, or_false] at hc
  rcases hc with rfl | rfl | rfl | rfl | rfl | rfl | rfl
  · exact w_c0
  · exact w_c1
  · exact w_c2
  · exact w_c3
  · exact w_c4
  · exact w_c5
  · exact w_c6
set_option maxRecDepth 65536 in
theorem w_t1 : (words1.take 24).all (fun c => isCode c || c.before args0 about1) = true := by decide +kernel
set_option maxRecDepth 65536 in
theorem w_t2 : (words1.drop 24).all (fun c => isCode c || c.before args0 about1) = true := by decide +kernel
theorem w_tables : (allAtoms (Jvm.Cond.code x code maxLocals ret :: tables_1)).before args0 about1 = true := by
  rw [allAtoms_all]
  show words1.all (fun c => c.before args0 about1) = true
  refine all_split ?_ w_codes
  rw [← List.take_append_drop 24 words1, List.all_append, w_t1, w_t2]
  rfl
set_option maxRecDepth 65536 in
theorem w_rest : rest_1_c.before args0 about1 = true := by decide +kernel
set_option maxRecDepth 65536 in
theorem w_case : (Jvm.Cond.and given_1 narrow_1).before args0 about1 = true := by decide +kernel
theorem w_applies : (headSpec (Jvm.Cond.code x code maxLocals ret :: tables_1) room_1).applies x e0.platform about1 = true :=
  (Spec.applies_iff w_frames).mpr ⟨w_running, w_runnable, w_alone, w_named, w_hears, w_ripe, w_room, w_tables⟩
theorem atStart : AtStart classFile x code maxLocals ret World_1 tables_1 room_1 Calls_1 rest_1 Pre_1 launch0 p0 e0 about1 theMethod args0 below0 :=
  ⟨lists_1, trivial, launch0.admits_env _ _ _, launch0.least_env, fairChoices_fair.cas, fairChoices_fair.clock, w_frames, w_args, w_heap, w_applies, trivial, w_rest, w_case⟩
end start1
theorem witness_1 : WitnessClaimed_1 := ⟨start1.p0, start1.e0, start1.about1, start1.theMethod, start1.args0, start1.below0, start1.atStart⟩
end Jvm.Pilot.@@N@@
