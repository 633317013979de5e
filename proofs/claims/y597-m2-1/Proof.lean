import JvmDerived
import JvmDerived.Pilot.@@N@@Statement
import JvmDerived.Pilot.@@N@@Code
set_option linter.unusedVariables false
set_option linter.unusedSimpArgs false
@@BLOCK:HandJ.lean.txt@@
@@BLOCK:SymMore.lean.txt@@
namespace Jvm.Pilot.@@N@@
open Jvm Jvm.ClassFile Sem Op Lib Jvm.Free Jvm.Stand Jvm.LawKit Jvm.RoadKit Bundle Jvm.Pilot.@@N@@.Jvm.D

section OwnKit
variable {p : Program} {l : Launch} {e : Env} {R : Room} {s : State} {m : MethodId} {args : Array Value} {below : List Frame} {meth : Method} {c : Code} {T T' : State} {locs : List Loc} {cells slots : Nat} {g g' : JFrame} {Q : Option Value → Heap → List Loc → Prop} {k n : Nat} {Z : State} {h : Heap} {a0 : Array Value}
/-- from here the run comes to the method's end, and there Q holds -/
def Go (p : Program) (e : Env) (s : State) (below : List Frame) (Q : Option Value → Heap → List Loc → Prop) (k n : Nat) (T : State) (g : JFrame) : Prop :=
  ∃ s₂ o, Steps p.tables e below (T.setTop g) s₂ ∧ s₂.status = .running ∧ Ended s₂ below o ∧ ∃ v L, o = .returned v ∧ Q v s₂.heap L ∧ FrameEnd s o s₂ L k n
theorem Go.st (st : ∀ t, Steps p.tables e below (T'.setTop g') t → Steps p.tables e below (T.setTop g) t) (G : Go p e s below Q k n T' g') : Go p e s below Q k n T g := by
  obtain ⟨t, o, h1, r⟩ := G
  exact ⟨t, o, st _ h1, r⟩
theorem Go.thru (st : Steps p.tables e below (T.setTop g) (T'.setTop g')) (G : Go p e s below Q k n T' g') : Go p e s below Q k n T g := Go.st (fun _ q => st.trans q) G
theorem Go.cast (q : g = g') (G : Go p e s below Q k n T g') : Go p e s below Q k n T g := q ▸ G
theorem Go.end_ (X : Stand p l e R s m args below meth c T locs cells slots) {v : Option Value} (hv : meth.sig.returnType = none → v = none) (hlk : meth.locks = false)
    (st : ∀ fs, (∀ (f : JFrame) (acts : List Action), f.method = m → f.locked = none → f.entered = [] → (doReturn e (T.setTop f) acts v).1 = T.setFrames fs) → Steps p.tables e below (T.setTop g) (T.setFrames fs))
    (hk : cells ≤ k) (hn : slots ≤ n) (hQ : Q v T.heap locs) : Go p e s below Q k n T g := by
  obtain ⟨fs, hr, hrun, hended, hW, hsame⟩ := X.leave (v := v) hv hlk
  exact ⟨_, _, st fs hr, hrun, hended, _, _, rfl, hQ, ⟨_, rfl⟩, hW, hsame.mono hk hn⟩
theorem own_some {t : FieldType} {v : Option Value} (h : meth.sig.returnType = some t) : meth.sig.returnType = none → v = none := fun q => by rw [h] at q; cases q
/-- ireturn of a boolean (also byte, char, short) -/
theorem Go.retN (X : Stand p l e R s m args below meth c T locs cells slots) (hx : p.tables.exec = Jvm.exec) (hlk : meth.locks = false) {t : FieldType} (hret : meth.sig.returnType = some t) (ht : t = .boolean ∨ t = .byte ∨ t = .char ∨ t = .short) {pc : Nat} {Ls : Array Slot} {z : Int32} {rest : List Value}
    (hd : decode c.code pc = .ok (.ireturn, 1)) (hk : cells ≤ k) (hn : slots ≤ n) (hQ : Q (some (.int (nar t z))) T.heap locs) : Go p e s below Q k n T (mkF m pc Ls (.int z :: rest)) :=
  Go.end_ X (own_some hret) hlk (fun _ hr => Jvm.RoadKit.retN X hx hret ht hd hr) hk hn hQ
theorem Go.retI (X : Stand p l e R s m args below meth c T locs cells slots) (hx : p.tables.exec = Jvm.exec) (hlk : meth.locks = false) (hret : meth.sig.returnType = some .int) {pc : Nat} {Ls : Array Slot} {z : Int32} {rest : List Value}
    (hd : decode c.code pc = .ok (.ireturn, 1)) (hk : cells ≤ k) (hn : slots ≤ n) (hQ : Q (some (.int z)) T.heap locs) : Go p e s below Q k n T (mkF m pc Ls (.int z :: rest)) :=
  Go.end_ X (own_some hret) hlk (fun _ hr => Jvm.RoadKit.retOut X hx hret rfl (Or.inl ⟨rfl, Or.inl rfl, _, rfl⟩) hd hr) hk hn hQ
theorem Go.retJ (X : Stand p l e R s m args below meth c T locs cells slots) (hx : p.tables.exec = Jvm.exec) (hlk : meth.locks = false) (hret : meth.sig.returnType = some .long) {pc : Nat} {Ls : Array Slot} {z : Int64} {rest : List Value}
    (hd : decode c.code pc = .ok (.lreturn, 1)) (hk : cells ≤ k) (hn : slots ≤ n) (hQ : Q (some (.long z)) T.heap locs) : Go p e s below Q k n T (mkF m pc Ls (.long z :: rest)) :=
  Go.end_ X (own_some hret) hlk (fun _ hr => Jvm.RoadKit.retOut X hx hret rfl (Or.inr (Or.inl ⟨rfl, rfl, _, rfl⟩)) hd hr) hk hn hQ
theorem own_narR {t : FieldType} {v : Value} (ht : t.isReference = true) (hv : v.isRef = true) : narrow t v = v := by
  rcases ref_cases hv with rfl | ⟨a, rfl⟩ <;> cases t <;> rfl
theorem Go.retA (X : Stand p l e R s m args below meth c T locs cells slots) (hx : p.tables.exec = Jvm.exec) (hlk : meth.locks = false) {t : FieldType} (hret : meth.sig.returnType = some t) (ht : t.isReference = true) {pc : Nat} {Ls : Array Slot} {v : Value} {rest : List Value} (hv : v.isRef = true)
    (hd : decode c.code pc = .ok (.areturn, 1)) (hk : cells ≤ k) (hn : slots ≤ n) (hQ : Q (some v) T.heap locs) : Go p e s below Q k n T (mkF m pc Ls (v :: rest)) :=
  Go.end_ X (own_some hret) hlk (fun _ hr => Jvm.RoadKit.retOut X hx hret (own_narR ht hv) (Or.inr (Or.inr (Or.inr (Or.inr ⟨rfl, ht, hv⟩)))) hd hr) hk hn hQ
theorem Go.retV (X : Stand p l e R s m args below meth c T locs cells slots) (hx : p.tables.exec = Jvm.exec) (hlk : meth.locks = false) (hret : meth.sig.returnType = none) {pc : Nat} {Ls : Array Slot}
    (hd : decode c.code pc = .ok (.return_, 1)) (hk : cells ≤ k) (hn : slots ≤ n) (hQ : Q none T.heap locs) : Go p e s below Q k n T (mkF m pc Ls []) :=
  Go.end_ X (fun _ => rfl) hlk (fun _ hr => X.returnOut hx hret hd hr) hk hn hQ
/-- a body's contract -/
def Meets (l : Launch) (Z : State) (y : MethodName) (bytes : ByteArray) (maxL : Nat) (ret : Option FieldType) (rm : Room) (ws : List Jvm.Cond) (as' : Array Value) (h : Heap) (Q : Option Value → Heap → List Loc → Prop) : Prop :=
  MetFree l y (head1 (Jvm.Cond.code y bytes maxL ret :: ws) rm) (fun a U => a = as' ∧ Z.Warmed39 U.vm ∧ U.heap = h) (fun _ _ _ _ _ => True) (fun _ U o U' => ∃ v L, o = .returned v ∧ Q v U'.heap L ∧ FrameEnd U o U' L rm.cells rm.slots)
theorem Meets.of {y : MethodName} {bytes : ByteArray} {maxL : Nat} {ret : Option FieldType} {rm : Room} {ws : List Jvm.Cond} {as' : Array Value} (hpl : plainFor y = true)
    (body : ∀ (p : Program) (e : Env) (s : State) (m : MethodId) (below : List Frame) (meth : Method) (c : Code) (s₁ : State), Stand p l e rm s m as' below meth c s₁ [] 0 0 → p.tables.exec = Jvm.exec → c.code = bytes → c.maxLocals = maxL → meth.sig.returnType = ret → meth.locks = false → meth.name = y.name → Z.Warmed39 s.vm → s.vm.findClass y.cls = some m.cls → s₁.heap = h →
      Go p e s below Q rm.cells rm.slots s₁ (entryFrame m as' maxL)) : Meets l Z y bytes maxL ret rm ws as' h Q := by
  unfold Meets
  refine MetFree.of_bodySF hpl hisR ?_
  intro p e s m args below meth c s₁ Bd hml0 hP hK
  obtain ⟨rfl, hZ, hh⟩ := hP
  exact body p e s m below meth c s₁ (Stand.of_body Bd) Bd.exec Bd.bytes hml0 Bd.returns Bd.notSynchronized (name_of_methodNamed Bd.named Bd.method).1 hZ (findClass_of_methodNamed Bd.named) (by rw [← hh, Bd.state]; rfl)
section Calls
variable {y z : MethodName} {own C : String} {index : Nat} {bytes : ByteArray} {maxL : Nat} {ret : Option FieldType} {rm : Room} {W : Nat} {Q0 : Option Value → Heap → List Loc → Prop} {b : Addr} {argsL rest : List Value} {pc : Nat} {Ls : Array Slot}
theorem Go.callS (X : Stand p l e R s m args below meth c T locs cells slots) (hx : p.tables.exec = Jvm.exec) (hZ : Z.Warmed39 s.vm) (hown : s.vm.findClass own = some m.cls)
    (w1 : (Jvm.Cond.methodLink own index y).before a0 Z = true) (w2 : (Jvm.Cond.static y).before a0 Z = true) (w3 : (Jvm.Cond.initialized y.cls).before a0 Z = true) (w4 : (Jvm.Cond.code y bytes maxL ret).before a0 Z = true)
    (hM : Meets l Z y bytes maxL ret rm [] argsL.toArray h Q0) (eT : T.heap = h) (hy : y.cls ≠ "java/lang/invoke/MethodHandle" ∧ y.cls ≠ "java/lang/invoke/VarHandle")
    (hf : rm.frames + 1 ≤ R.frames) (hl : W + (maxL + 11) + rm.locals ≤ R.locals) (hcl : cells + rm.cells ≤ R.cells) (hsl : slots + rm.slots ≤ R.slots)
    (hsize : Ls.size = c.maxLocals) (hlen : ∀ sig, parseMethodDescriptor y.desc = some sig → argsL.length = sig.parameters.length) (hW : 2 * 0 + (rest.map fun v => v.category).sum ≤ W)
    (hd : decode c.code pc = .ok (.invokestatic index, 3))
    (next : ∀ (T' : State) (v : Option Value) (L : List Loc), Stand p l e R s m args below meth c T' (locs ++ L) (cells + rm.cells) (slots + rm.slots) → Q0 v T'.heap L → Go p e s below Q k n T' (mkF m (pc + 3) Ls (v.toList ++ rest))) :
    Go p e s below Q k n T (mkF m pc Ls (argsL.reverse ++ rest)) := by
  obtain ⟨v, _, ⟨T', L', k', n'⟩, -, X', ⟨Lc, hQ, l', y', z'⟩, st⟩ := Jvm.LawKit.callS X hx (y := y) hown (mvT hZ w1) (mvT hZ w2) (mvT hZ w3) (mvT hZ w4) hy (backOf (W := W) hM hZ w4 w3 hf hl) (g := mkF m pc Ls (argsL.reverse ++ rest)) rfl hsize (argsL := argsL) (rest := rest) hlen rfl hW hd (fun _ _ => ⟨rfl, eT, hcl, hsl⟩)
  dsimp only [Pt.U, Pt.locs, Pt.cells, Pt.slots] at X' l' y' z' st hQ
  subst l' y' z'
  exact Go.st st (next T' v Lc X' hQ)
theorem Go.callV (X : Stand p l e R s m args below meth c T locs cells slots) (hx : p.tables.exec = Jvm.exec) (hZ : Z.Warmed39 s.vm) (hown : s.vm.findClass own = some m.cls)
    (w1 : (Jvm.Cond.methodLink own index y).before a0 Z = true) (w2 : (Jvm.Cond.declares y).before a0 Z = true) (hnf : NotFace s y) (w3 : (Jvm.Cond.selects C y z).before a0 Z = true) (w4 : (Jvm.Cond.instanceMethod z).before a0 Z = true) (w5 : (Jvm.Cond.initialized z.cls).before a0 Z = true) (w6 : (Jvm.Cond.code z bytes maxL ret).before a0 Z = true)
    (hM : Meets l Z z bytes maxL ret rm [] (.ref b :: argsL).toArray h Q0) (eT : T.heap = h) (E : Exa Z h b C) (hy : y.cls ≠ "java/lang/invoke/MethodHandle" ∧ y.cls ≠ "java/lang/invoke/VarHandle")
    (hf : rm.frames + 1 ≤ R.frames) (hl : W + (maxL + 11) + rm.locals ≤ R.locals) (hcl : cells + rm.cells ≤ R.cells) (hsl : slots + rm.slots ≤ R.slots)
    (hsize : Ls.size = c.maxLocals) (hlen : ∀ sig, parseMethodDescriptor y.desc = some sig → argsL.length = sig.parameters.length) (hW : 2 * 0 + (rest.map fun v => v.category).sum ≤ W)
    (hd : decode c.code pc = .ok (.invokevirtual index, 3))
    (next : ∀ (T' : State) (v : Option Value) (L : List Loc), Stand p l e R s m args below meth c T' (locs ++ L) (cells + rm.cells) (slots + rm.slots) → Q0 v T'.heap L → Go p e s below Q k n T' (mkF m (pc + 3) Ls (v.toList ++ rest))) :
    Go p e s below Q k n T (mkF m pc Ls (argsL.reverse ++ .ref b :: rest)) := by
  obtain ⟨cq, kq, qa, qb, qc⟩ := isOf hZ eT E
  obtain ⟨v, _, ⟨T', L', k', n'⟩, -, X', ⟨Lc, hQ, l', y', z'⟩, st⟩ := X.virtualBack hx (y := y) (z := z) hown (mvT hZ w1) (mvT hZ w2) hnf (mvT hZ w3) (mvT hZ w4) hy (backOf (W := W) hM hZ w6 w5 hf hl) qa qc (g := mkF m pc Ls (argsL.reverse ++ .ref b :: rest)) rfl hsize (Steps.refl _) (argsL := argsL) (rest := rest) hlen rfl hW hd (fun _ _ => ⟨rfl, eT, hcl, hsl⟩)
  dsimp only [Pt.U, Pt.locs, Pt.cells, Pt.slots] at X' l' y' z' st hQ
  subst l' y' z'
  exact Go.thru st (next T' v Lc X' hQ)
/-- an inherited method, named through the subclass -/
theorem Go.callU {owner : String} {x' : MethodName} (X : Stand p l e R s m args below meth c T locs cells slots) (hx : p.tables.exec = Jvm.exec) (hZ : Z.Warmed39 s.vm) (hown : s.vm.findClass own = some m.cls)
    (w1 : (Jvm.Cond.methodLink own index x').before a0 Z = true) (w2 : (Jvm.Cond.sameMethod x'.cls owner x'.name x'.desc).before a0 Z = true) (w3 : (Jvm.Cond.declares ⟨owner, x'.name, x'.desc⟩).before a0 Z = true) (w4 : (Jvm.Cond.selects C x' z).before a0 Z = true) (w5 : (Jvm.Cond.instanceMethod z).before a0 Z = true) (w6 : (Jvm.Cond.initialized z.cls).before a0 Z = true) (w7 : (Jvm.Cond.code z bytes maxL ret).before a0 Z = true)
    (hM : Meets l Z z bytes maxL ret rm [] (.ref b :: argsL).toArray h Q0) (eT : T.heap = h) (E : Exa Z h b C) (hy : owner ≠ "java/lang/invoke/MethodHandle" ∧ owner ≠ "java/lang/invoke/VarHandle")
    (hf : rm.frames + 1 ≤ R.frames) (hl : W + (maxL + 11) + rm.locals ≤ R.locals) (hcl : cells + rm.cells ≤ R.cells) (hsl : slots + rm.slots ≤ R.slots)
    (hsize : Ls.size = c.maxLocals) (hlen : ∀ sig, parseMethodDescriptor x'.desc = some sig → argsL.length = sig.parameters.length) (hW : 2 * 0 + (rest.map fun v => v.category).sum ≤ W)
    (hd : decode c.code pc = .ok (.invokevirtual index, 3))
    (next : ∀ (T' : State) (v : Option Value) (L : List Loc), Stand p l e R s m args below meth c T' (locs ++ L) (cells + rm.cells) (slots + rm.slots) → Q0 v T'.heap L → Go p e s below Q k n T' (mkF m (pc + 3) Ls (v.toList ++ rest))) :
    Go p e s below Q k n T (mkF m pc Ls (argsL.reverse ++ .ref b :: rest)) := by
  obtain ⟨cq, kq, qa, qb, qc⟩ := isOf hZ eT E
  obtain ⟨v, _, ⟨T', L', k', n'⟩, -, X', ⟨Lc, hQ, l', y', z'⟩, st⟩ := X.virtualBackUp hx (x := x') (y := z) hown (mvT hZ w1) (mvT hZ w2) (mvT hZ w3) hy (mvT hZ w4) (mvT hZ w5) (backOf (W := W) hM hZ w7 w6 hf hl) qa qc (g := mkF m pc Ls (argsL.reverse ++ .ref b :: rest)) rfl hsize (Steps.refl _) (argsL := argsL) (rest := rest) hlen rfl hW hd (fun _ _ => ⟨rfl, eT, hcl, hsl⟩)
  dsimp only [Pt.U, Pt.locs, Pt.cells, Pt.slots] at X' l' y' z' st hQ
  subst l' y' z'
  exact Go.thru st (next T' v Lc X' hQ)
/-- a constructor -/
theorem Go.callC (X : Stand p l e R s m args below meth c T locs cells slots) (hx : p.tables.exec = Jvm.exec) (hZ : Z.Warmed39 s.vm) (hy1 : y.name = "<init>") (hown : s.vm.findClass own = some m.cls)
    (w1 : (Jvm.Cond.methodLink own index y).before a0 Z = true) (w2 : (Jvm.Cond.instanceMethod y).before a0 Z = true) (w3 : (Jvm.Cond.initialized y.cls).before a0 Z = true) (w4 : (Jvm.Cond.code y bytes maxL none).before a0 Z = true)
    (hM : Meets l Z y bytes maxL none rm [] (.ref b :: argsL).toArray h Q0) (eT : T.heap = h) (hy : y.cls ≠ "java/lang/invoke/MethodHandle" ∧ y.cls ≠ "java/lang/invoke/VarHandle")
    (hf : rm.frames + 1 ≤ R.frames) (hl : W + (maxL + 11) + rm.locals ≤ R.locals) (hcl : cells + rm.cells ≤ R.cells) (hsl : slots + rm.slots ≤ R.slots)
    (hsize : Ls.size = c.maxLocals) (hlen : ∀ sig, parseMethodDescriptor y.desc = some sig → argsL.length = sig.parameters.length) (hW : 2 * 0 + (rest.map fun v => v.category).sum ≤ W)
    (hd : decode c.code pc = .ok (.invokespecial index, 3))
    (next : ∀ (T' : State) (v : Option Value) (L : List Loc), Stand p l e R s m args below meth c T' (locs ++ L) (cells + rm.cells) (slots + rm.slots) → Q0 v T'.heap L → Go p e s below Q k n T' (mkF m (pc + 3) Ls (v.toList ++ rest))) :
    Go p e s below Q k n T (mkF m pc Ls (argsL.reverse ++ .ref b :: rest)) := by
  obtain ⟨v, _, ⟨T', L', k', n'⟩, -, X', ⟨Lc, hQ, l', y', z'⟩, st⟩ := X.specialBack hx (y := y) hy1 hown (mvT hZ w1) (mvT hZ w2) (mvT hZ w4) hy (backOf (W := W) hM hZ w4 w3 hf hl) (g := mkF m pc Ls (argsL.reverse ++ .ref b :: rest)) rfl hsize (Steps.refl _) (a := b) (argsL := argsL) (rest := rest) hlen rfl hW hd (fun _ _ => ⟨rfl, eT, hcl, hsl⟩)
  dsimp only [Pt.U, Pt.locs, Pt.cells, Pt.slots] at X' l' y' z' st hQ
  subst l' y' z'
  exact Go.thru st (next T' v Lc X' hQ)
end Calls
end OwnKit
section OwnExt
variable {Z : State} {h h' h'' : Heap} {a : Addr} {sl : Nat} {v : Value}
theorem own_extR (h : Heap) : Ext h h := ⟨Nat.le_refl _, fun _ _ q => q⟩
theorem own_extE (E : Ext h h') (E' : Ext h' h'') : Ext h h'' := ⟨Nat.le_trans E.1 E'.1, fun x c q => E'.2 x c (E.2 x c q)⟩
theorem own_extW (E : Ext h h') (W : Wr h' h'' a sl v) (q : h.size ≤ a) : Ext h h'' := by
  refine ⟨by rw [W.size]; exact E.1, fun x c r => ?_⟩
  have hlt := (Array.getElem?_eq_some_iff.mp r).1
  obtain ⟨c', e1, -, -, -, e5, -⟩ := wr_at W (E.2 x c r)
  rw [e1, e5 (Nat.ne_of_lt (Nat.lt_of_lt_of_le hlt q))]
theorem own_extK {ws : List Addr} (E : Ext h h') (K : Keep h' h'' ws) (q : ∀ x ∈ ws, h.size ≤ x) : Ext h h'' :=
  ⟨Nat.le_trans E.1 K.1, fun x c r => K.2.1 x c (E.2 x c r) fun z => absurd (Array.getElem?_eq_some_iff.mp r).1 (Nat.not_lt.mpr (q x z))⟩
end OwnExt
section OwnPriv
variable {p : Program} {l : Launch} {e : Env} {R : Room} {s : State} {m : MethodId} {args : Array Value} {below : List Frame} {meth : Method} {c : Code} {T T' : State} {locs : List Loc} {cells slots : Nat} {g : JFrame} {Q : Option Value → Heap → List Loc → Prop} {k n : Nat} {Z : State} {h : Heap} {a0 : Array Value}
variable {y : MethodName} {own : String} {index : Nat} {bytes : ByteArray} {maxL : Nat} {ret : Option FieldType} {rm : Room} {W : Nat} {Q0 : Option Value → Heap → List Loc → Prop} {b : Addr} {argsL rest : List Value} {pc : Nat} {Ls : Array Slot}
/-- a private method, by invokevirtual -/
theorem Go.callP {nn : Nat} (X : Stand p l e R s m args below meth c T locs cells slots) (hx : p.tables.exec = Jvm.exec) (hZ : Z.Warmed39 s.vm) (hown : s.vm.findClass own = some m.cls)
    (w1 : (Jvm.Cond.methodLink own index y).before a0 Z = true) (w2 : (Jvm.Cond.instanceMethod y).before a0 Z = true) (w3 : (Jvm.Cond.privateMethod y).before a0 Z = true) (wi : (Jvm.Cond.instantiable y.cls nn).before a0 Z = true) (w4 : (Jvm.Cond.initialized y.cls).before a0 Z = true) (w5 : (Jvm.Cond.code y bytes maxL ret).before a0 Z = true)
    (hM : Meets l Z y bytes maxL ret rm [] (.ref b :: argsL).toArray h Q0) (eT : T.heap = h) (E : Exa Z h b y.cls) (hy : y.cls ≠ "java/lang/invoke/MethodHandle" ∧ y.cls ≠ "java/lang/invoke/VarHandle")
    (hf : rm.frames + 1 ≤ R.frames) (hl : W + (maxL + 11) + rm.locals ≤ R.locals) (hcl : cells + rm.cells ≤ R.cells) (hsl : slots + rm.slots ≤ R.slots)
    (hsize : Ls.size = c.maxLocals) (hlen : ∀ sig, parseMethodDescriptor y.desc = some sig → argsL.length = sig.parameters.length) (hW : 2 * 0 + (rest.map fun v => v.category).sum ≤ W)
    (hd : decode c.code pc = .ok (.invokevirtual index, 3))
    (next : ∀ (T' : State) (v : Option Value) (L : List Loc), Stand p l e R s m args below meth c T' (locs ++ L) (cells + rm.cells) (slots + rm.slots) → Q0 v T'.heap L → Go p e s below Q k n T' (mkF m (pc + 3) Ls (v.toList ++ rest))) :
    Go p e s below Q k n T (mkF m pc Ls (argsL.reverse ++ .ref b :: rest)) := by
  obtain ⟨cq, q, q'⟩ := E.cell
  have hsel : (Jvm.Cond.selects y.cls y y).before a0 Z = true := Jvm.Kit.selects_private hy wi w3 w2
  obtain ⟨v, _, ⟨T', L', k', n'⟩, -, X', ⟨Lc, hQ, l', y', z'⟩, st⟩ := X.privateBack hx (y := y) hown (mvT hZ w1) (mvT hZ w2) (mvT hZ hsel) (Cond.privateMethod_at (mvP hZ w3 (args := #[]))) (mvT hZ w5) hy (backOf (W := W) hM hZ w5 w4 hf hl) (g := mkF m pc Ls (argsL.reverse ++ .ref b :: rest)) rfl hsize (Steps.refl _) (a := b) (cell := cq) (by rw [eT]; exact q) q' (argsL := argsL) (rest := rest) hlen rfl hW hd (fun _ _ => ⟨rfl, eT, hcl, hsl⟩)
  dsimp only [Pt.U, Pt.locs, Pt.cells, Pt.slots] at X' l' y' z' st hQ
  subst l' y' z'
  exact Go.thru st (next T' v Lc X' hQ)
theorem own_lremM {target : State} (X : Stand p l e R s m args below meth c T locs cells slots) (hx : p.tables.exec = Jvm.exec) (hg : g.method = m) {x y : Int64} {rest : List Value} (hd : decode c.code g.pc = .ok (.lrem, 1)) (hs : g.stack = .long y :: .long x :: rest) (hy : y ≠ 0)
    (hr : Steps p.tables e below (T.setTop { g with pc := g.pc + 1, stack := .long (x % y) :: rest }) target) : Steps p.tables e below (T.setTop g) target :=
  XS.lrem X.here hx hg hd hs hy (by rw [lrem_mod]; exact hr)
/-- what is said of the end may be weakened -/
theorem Meets.mono {ws : List Jvm.Cond} {as' : Array Value} {Q' : Option Value → Heap → List Loc → Prop} (M : Meets l Z y bytes maxL ret rm ws as' h Q) (hq : ∀ v h L, Q v h L → Q' v h L) : Meets l Z y bytes maxL ret rm ws as' h Q' := by
  intro p e ha hc hk s m args below hf happ hP hK
  obtain ⟨n, o, h1, h2, h3, v, L, rfl, hQ, hF⟩ := M p e ha hc hk s m args below hf happ hP hK
  exact ⟨n, _, h1, h2, h3, v, L, rfl, hq _ _ _ hQ, hF⟩
end OwnPriv
section OwnPW
variable {Z : State} {h h' : Heap} {o ps b : Addr} {w : Int} {P : Nat} {pg : Nat → Addr} {f : Int → Int64}
/-- the pages: page q is a long[] that holds the words 32768 q, 32768 q + 1, .. as f says them -/
def Pgs (Z : State) (h : Heap) (w : Int) (P : Nat) (pg : Nat → Addr) (f : Int → Int64) : Prop :=
  ∀ q : Nat, q < P → ∃ c : Cell, Arr Z h (pg q) c .long ∧ ∀ y : Nat, y < 32768 → (q : Int) * 32768 + y < w → c.slots[y]? = some (.long (f ((q : Int) * 32768 + y)))
def PW (Z : State) (h : Heap) (o ps : Addr) (w : Int) (P : Nat) (pg : Nat → Addr) (f : Int → Int64) : Prop :=
  Exa Z h o "com/example/criba/criba/PagedWords" ∧ Fld Z h o "com/example/criba/criba/PagedWords" "onlyPage" "[J" (if P = 1 then .ref (pg 0) else .null) ∧ Fld Z h o "com/example/criba/criba/PagedWords" "pages" "[[J" (.ref ps) ∧
  (∃ c : Cell, Arr Z h ps c (.array .long) ∧ ∀ q : Nat, q < P → c.slots[q]? = some (.ref (pg q))) ∧ Pgs Z h w P pg f ∧ (∀ q q' : Nat, q < P → q' < P → pg q = pg q' → q = q') ∧ ∀ q : Nat, q < P → o ≠ pg q ∧ ps ≠ pg q
theorem PW.set (F : PW Z h o ps w P pg f) {x : Int} {q y : Nat} (hq : q < P) (hy : y < 32768) (hx : x = (q : Int) * 32768 + y) {v : Int64} (W : Wr h h' (pg q) y (.long v)) : PW Z h' o ps w P pg (fun z => if z = x then v else f z) := by
  obtain ⟨F1, F2, F3, ⟨c, F4, F5⟩, F6, F7, F8⟩ := F
  refine ⟨F1.wr W, F2.other W (Or.inl (F8 q hq).1), F3.other W (Or.inl (F8 q hq).1), ⟨c, F4.other W (F8 q hq).2, F5⟩, ?_, F7, F8⟩
  intro q' hq'
  obtain ⟨c', A, H⟩ := F6 q' hq'
  by_cases e : q' = q
  · subst e
    refine ⟨_, A.same W, fun y' hy' hw => ?_⟩
    have h0 := H y' hy' hw
    have hlt := (Array.getElem?_eq_some_iff.mp h0).1
    by_cases e2 : y' = y
    · subst e2
      have : ((q' : Int) * 32768 + y' = x) := hx.symm
      simp only [this, if_true]
      simp [Cell.setSlot, hlt]
    · have : ¬ ((q' : Int) * 32768 + y' = x) := by omega
      simp only [this, if_false]
      show (c'.slots.setIfInBounds y (.long v))[y']? = _
      rw [Array.getElem?_setIfInBounds_ne (Ne.symm e2)]; exact h0
  · refine ⟨c', A.other W (fun z => e (F7 q' q hq' hq z)), fun y' hy' hw => ?_⟩
    have : ¬ ((q' : Int) * 32768 + y' = x) := by omega
    simp only [this, if_false]
    exact H y' hy' hw
theorem PW.at (F : PW Z h o ps w P pg f) {x : Int} {q y : Nat} (hq : q < P) (hy : y < 32768) (hx : x = (q : Int) * 32768 + y) (hw : x < w) : ∃ c : Cell, Arr Z h (pg q) c .long ∧ c.slots[y]? = some (.long (f x)) := by
  obtain ⟨c, A, H⟩ := F.2.2.2.2.1 q hq
  exact ⟨c, A, by rw [hx]; exact H y hy (by omega)⟩
/-- an index into the words: its page and its place there -/
def Ix (x : Int64) (w : Int) (P q y : Nat) : Prop := q < P ∧ y < 32768 ∧ x.toInt = (q : Int) * 32768 + y ∧ x.toInt < w
theorem own_ix {x : Int64} {P : Nat} (h0 : 0 ≤ x.toInt) (h1 : x.toInt < w) (h2 : w ≤ (P : Int) * 32768) : Ix x w P (x.toInt / 32768).toNat (x.toInt % 32768).toNat := by
  refine ⟨by omega, by omega, by omega, h1⟩
theorem own_lo {x : Int64} {P q y : Nat} (I : Ix x w P q y) (hw : w ≤ 98304) : ((x.toInt32) &&& (32767 : Int32)).toNatClampNeg = y ∧ ¬ ((x.toInt32) &&& (32767 : Int32)) < 0 := by
  obtain ⟨i1, i2, i3, i4⟩ := I
  have h1 : ((x.toInt32) &&& (32767 : Int32)).toInt = x.toInt32.toInt % (2 ^ 15 : Nat) := c_mask _ 32767 15 (by decide) (by decide)
  have h2 := c_l2i x
  have h3 : (2 ^ 15 : Nat) = 32768 := by decide
  rw [h3] at h1
  have z0 : (0 : Int32).toInt = 0 := rfl
  have h4 : ((x.toInt32) &&& (32767 : Int32)).toInt = (y : Int) := by omega
  refine ⟨?_, by rw [Int32.lt_iff_toInt_lt]; omega⟩
  simp only [Int32.toNatClampNeg]; omega
theorem own_hi {x : Int64} {P q y : Nat} (I : Ix x w P q y) (hw : w ≤ 98304) : (((x.toUInt64 >>> ((15 : Int32) &&& 0x3f).toInt64.toUInt64).toInt64).toInt32).toNatClampNeg = q ∧ ¬ (((x.toUInt64 >>> ((15 : Int32) &&& 0x3f).toInt64.toUInt64).toInt64).toInt32) < 0 := by
  obtain ⟨i1, i2, i3, i4⟩ := I
  have h1 := c_lushr x 15 15 (by decide) (by decide)
  have h3 : (2 ^ 15 : Nat) = 32768 := by decide
  rw [h3] at h1
  have h2 := c_l2i ((x.toUInt64 >>> ((15 : Int32) &&& 0x3f).toInt64.toUInt64).toInt64)
  have r := rng32 (((x.toUInt64 >>> ((15 : Int32) &&& 0x3f).toInt64.toUInt64).toInt64).toInt32)
  have z0 : (0 : Int32).toInt = 0 := rfl
  have h4 : (((x.toUInt64 >>> ((15 : Int32) &&& 0x3f).toInt64.toUInt64).toInt64).toInt32).toInt = (q : Int) := by omega
  refine ⟨?_, by rw [Int32.lt_iff_toInt_lt]; omega⟩
  simp only [Int32.toNatClampNeg]; omega
theorem own_in {c : Cell} {j : Int32} {y : Nat} {v : Value} (hj : j.toNatClampNeg = y ∧ ¬ j < 0) (hc : c.slots[y]? = some v) : ¬ (j < 0 ∨ c.slots.size ≤ j.toNatClampNeg) := by
  have := (Array.getElem?_eq_some_iff.mp hc).1
  rintro (q | q)
  · exact hj.2 q
  · rw [hj.1] at q; omega
theorem own_np {w : Int64} {P : Int32} {p : Int} (hP : P.toInt = p) (hp : 1 ≤ p ∧ p ≤ 3) (h1 : (p - 1) * 32768 < w.toInt) (h2 : w.toInt ≤ p * 32768) : (((((w - (1 : Int64)).toUInt64 >>> ((15 : Int32) &&& 0x3f).toInt64.toUInt64).toInt64) + (1 : Int64)).toInt32) = P := by
  apply Int32.toInt_inj.mp
  have a1 := c_lsub w 1
  have a2 := c_lushr (w - (1 : Int64)) 15 15 (by decide) (by decide)
  have h3 : (2 ^ 15 : Nat) = 32768 := by decide
  rw [h3] at a2
  have a3 := c_ladd (((w - (1 : Int64)).toUInt64 >>> ((15 : Int32) &&& 0x3f).toInt64.toUInt64).toInt64) 1
  have a4 := c_l2i ((((w - (1 : Int64)).toUInt64 >>> ((15 : Int32) &&& 0x3f).toInt64.toUInt64).toInt64) + (1 : Int64))
  have r1 := rng64 (w - (1 : Int64))
  have r2 := rng64 ((((w - (1 : Int64)).toUInt64 >>> ((15 : Int32) &&& 0x3f).toInt64.toUInt64).toInt64) + (1 : Int64))
  have r3 := rng32 (((((w - (1 : Int64)).toUInt64 >>> ((15 : Int32) &&& 0x3f).toInt64.toUInt64).toInt64) + (1 : Int64)).toInt32)
  have o1 : (1 : Int64).toInt = 1 := rfl
  omega
/-- a page's length -/
def pgl (w : Int) (q : Nat) : Int := if w - (q : Int) * 32768 < 32768 then w - (q : Int) * 32768 else 32768
theorem own_pl {w : Int64} {p : Int32} {q : Nat} (hp : p.toInt = q) (hq : q < 3) (h1 : (q : Int) * 32768 < w.toInt) (h2 : w.toInt ≤ 98304) {z : Int64} (hz : z = (w - (p.toInt64 <<< ((15 : Int32) &&& 0x3f).toInt64))) : ((if z < (32768 : Int64) then z else (32768 : Int64)).toInt32).toInt = pgl w.toInt q := by
  have a1 := c_i2l p
  have a2 := c_lshl p.toInt64 15 15 (by decide)
  have h3 : (2 ^ 15 : Nat) = 32768 := by decide
  rw [h3] at a2
  have r1 := rng64 (p.toInt64 <<< ((15 : Int32) &&& 0x3f).toInt64)
  have a3 := c_lsub w (p.toInt64 <<< ((15 : Int32) &&& 0x3f).toInt64)
  rw [← hz] at a3
  have r2 := rng64 z
  have o1 : (32768 : Int64).toInt = 32768 := rfl
  have hz2 : z.toInt = w.toInt - (q : Int) * 32768 := by omega
  unfold pgl
  by_cases e : z < (32768 : Int64)
  · simp only [e, if_true]
    rw [Int64.lt_iff_toInt_lt] at e
    have a4 := c_l2i z
    have r3 := rng32 z.toInt32
    split <;> omega
  · simp only [e, if_false]
    rw [Int64.lt_iff_toInt_lt] at e
    have a4 := c_l2i (32768 : Int64)
    have r3 := rng32 (32768 : Int64).toInt32
    split <;> omega
theorem own_cap {n : Int32} {w : Int} {q : Nat} (hn : n.toInt = pgl w q) (h1 : (q : Int) * 32768 < w) : ¬ n < 0 ∧ n.toNatClampNeg ≤ 32768 := by
  have z0 : (0 : Int32).toInt = 0 := rfl
  unfold pgl at hn
  refine ⟨by rw [Int32.lt_iff_toInt_lt]; split at hn <;> omega, ?_⟩
  simp only [Int32.toNatClampNeg]; split at hn <;> omega
theorem own_page {k : ClassId} {n : Int32} {q : Nat} (V : Arv Z h b k .long n [] (.long (0 : Int64))) (hn : n.toInt = pgl w q) : ∃ c : Cell, Arr Z h b c .long ∧ ∀ y : Nat, y < 32768 → (q : Int) * 32768 + y < w → c.slots[y]? = some (.long (0 : Int64)) := by
  obtain ⟨c, A, -, S, M, H, -⟩ := V
  refine ⟨c, A, fun y hy hw => ?_⟩
  have hs : y < c.slots.size := by
    rw [S]; simp only [Int32.toNatClampNeg]; unfold pgl at hn; split at hn <;> omega
  exact H y hs
theorem own_words {x w : Int64} (hx : 1 ≤ x.toInt ∧ x.toInt ≤ 6291456) (hw : w = (((x + (63 : Int64)).toUInt64 >>> ((6 : Int32) &&& 0x3f).toInt64.toUInt64).toInt64)) : w.toInt = (x.toInt + 63) / 64 ∧ 1 ≤ w.toInt ∧ w.toInt ≤ 98304 := by
  have a1 := c_ladd x 63
  have r1 := rng64 (x + (63 : Int64))
  have o1 : (63 : Int64).toInt = 63 := rfl
  have a2 := c_lushr (x + (63 : Int64)) 6 6 (by decide) (by decide)
  have h3 : (2 ^ 6 : Nat) = 64 := by decide
  rw [h3, ← hw] at a2
  omega
theorem own_lmod {x w i : Int64} (h0 : 0 ≤ x.toInt) (h1 : 0 < w.toInt) (hi : i = (x % w)) : 0 ≤ i.toInt ∧ i.toInt < w.toInt := by
  have h2 : i.toInt = x.toInt.tmod w.toInt := by rw [hi, Int64.toInt_mod]
  rw [Int.tmod_eq_emod_of_nonneg h0] at h2
  rw [h2]
  exact ⟨Int.emod_nonneg _ (by omega), Int.emod_lt_of_pos _ h1⟩
theorem own_nz {w : Int64} (h : 0 < w.toInt) : w ≠ 0 := fun q => by rw [q] at h; exact absurd h (by decide)
end OwnPW

theorem own_b2 (f : Int32) : 1 ≤ ((1 : Int64) + (((f.toUInt32 >>> ((1 : Int32) &&& 31).toUInt32).toInt32 &&& (255 : Int32)).toInt64)).toInt ∧ ((1 : Int64) + (((f.toUInt32 >>> ((1 : Int32) &&& 31).toUInt32).toInt32 &&& (255 : Int32)).toInt64)).toInt ≤ 256 := by
  have a0 := c_i2l ((f.toUInt32 >>> ((1 : Int32) &&& 31).toUInt32).toInt32 &&& (255 : Int32))
  have a1 : ((f.toUInt32 >>> ((1 : Int32) &&& 31).toUInt32).toInt32 &&& (255 : Int32)).toInt = ((f.toUInt32 >>> ((1 : Int32) &&& 31).toUInt32).toInt32).toInt % (2 ^ 8 : Nat) := c_mask _ 255 8 (by decide) (by decide)
  have h3 : (2 ^ 8 : Nat) = 256 := by decide
  rw [h3] at a1
  have a2 := c_ladd 1 (((f.toUInt32 >>> ((1 : Int32) &&& 31).toUInt32).toInt32 &&& (255 : Int32)).toInt64)
  have r2 := rng64 ((1 : Int64) + (((f.toUInt32 >>> ((1 : Int32) &&& 31).toUInt32).toInt32 &&& (255 : Int32)).toInt64))
  have o1 : (1 : Int64).toInt = 1 := rfl
  omega
theorem own_wd {b : Int64} (h : 1 ≤ b.toInt ∧ b.toInt ≤ 256) : ((b + (63 : Int64)) / (64 : Int64)) = (((b + (63 : Int64)).toUInt64 >>> ((6 : Int32) &&& 0x3f).toInt64.toUInt64).toInt64) := by
  apply Int64.toInt_inj.mp
  have a1 := c_ladd b 63
  have r1 := rng64 (b + (63 : Int64))
  have o1 : (63 : Int64).toInt = 63 := rfl
  have a2 := (c_ldiv (b + (63 : Int64)) 64 64 (by rfl) (by decide)).1 (by omega)
  have a3 := (own_words (x := b) ⟨h.1, by omega⟩ rfl).1
  rw [a2, a3]; omega
theorem own_mi (x : Int32) : 0 ≤ ((x &&& (2147483647 : Int32)).toInt64).toInt := by
  have a0 := c_i2l (x &&& (2147483647 : Int32))
  have a1 : (x &&& (2147483647 : Int32)).toInt = x.toInt % (2 ^ 31 : Nat) := c_mask x 2147483647 31 (by decide) (by decide)
  rw [a0, a1]; exact Int.emod_nonneg _ (by decide)

theorem d2_0 : decode prog_30_method_5_code 0 = .ok (.lload_n 0, 1) := by decide +kernel
theorem d2_1 : decode prog_30_method_5_code 1 = .ok (.ldc2_w 70, 3) := by decide +kernel
theorem d2_4 : decode prog_30_method_5_code 4 = .ok (.ladd, 1) := by decide +kernel
theorem d2_5 : decode prog_30_method_5_code 5 = .ok (.bipush 6, 2) := by decide +kernel
theorem d2_7 : decode prog_30_method_5_code 7 = .ok (.lushr, 1) := by decide +kernel
theorem d2_8 : decode prog_30_method_5_code 8 = .ok (.lreturn, 1) := by decide +kernel
theorem ef_W (m : MethodId) (x0 : Int64) : entryFrame m #[(.long x0)] 2 = mkF m 0 #[.val (.long x0), .second] [] := by first | (simp [entryFrame, mkF, argsToLocals, Value.category]; done) | rfl
set_option maxRecDepth 65536 in
set_option maxHeartbeats 40000000 in
theorem rmW (l : Launch) (Z : State) (a0 : Array Value) (hw : ∀ d ∈ tables_1, d.before a0 Z = true) (ws : List Jvm.Cond) (x : Int64) (h0 : Heap) (n0 : Nat) :
    Meets l Z (⟨"com/example/criba/criba/PagedWords", "words", "(J)J"⟩ : MethodName) prog_30_method_5_code 2 (some .long) ({ frames := 0, cells := 0, slots := 0, locals := 0 } : Room) ws #[(.long x)] h0 (fun v h L => v = some (.long (((x + (63 : Int64)).toUInt64 >>> ((6 : Int32) &&& 0x3f).toInt64.toUInt64).toInt64)) ∧ Fr n0 L ∧ h = h0) := by
  refine Meets.of (plainFor_of_name (by first | (simp [plainName, overriddenIn]; done) | decide +kernel : plainName "com/example/criba/criba/PagedWords" = true)) ?_
  intro p e s m below meth c s₁ X0 hx hby hml hret hlk hnm hZ hown e0
  replace hown : s.vm.findClass "com/example/criba/criba/PagedWords" = some m.cls := hown
  have N0 := Fr.nil n0
  refine Go.cast (ef_W m x) ?_
  show Go p e s below _ _ _ s₁ (mkF m 0 #[.val (.long x), .second] [])
  refine Go.st (fun _ kont => XS.lloadN X0.here hx rfl (hb hby d2_0) rfl kont) ?_
  show Go p e s below _ _ _ s₁ (mkF m 1 #[.val (.long x), .second] [(.long x)])
  refine Go.st (X0.ldc2Long hx hown (mvT hZ (hw _ (List.mem_of_getElem? (i := 12) rfl))) (g := (mkF m 1 #[.val (.long x), .second] [(.long x)])) rfl (hb hby d2_1)) ?_
  show Go p e s below _ _ _ s₁ (mkF m 4 #[.val (.long x), .second] [(.long (63 : Int64)), (.long x)])
  refine Go.st (fun _ kont => XS.ladd X0.here hx rfl (hb hby d2_4) rfl kont) ?_
  show Go p e s below _ _ _ s₁ (mkF m 5 #[.val (.long x), .second] [(.long (x + (63 : Int64)))])
  refine Go.st (fun _ kont => XT.bipushV X0.here hx rfl (6 : Int32) (hb hby d2_5) (by decide) kont) ?_
  show Go p e s below _ _ _ s₁ (mkF m 7 #[.val (.long x), .second] [(.int (6 : Int32)), (.long (x + (63 : Int64)))])
  refine Go.st (fun _ kont => XS.lushr X0.here hx rfl (hb hby d2_7) rfl kont) ?_
  show Go p e s below _ _ _ s₁ (mkF m 8 #[.val (.long x), .second] [(.long (((x + (63 : Int64)).toUInt64 >>> ((6 : Int32) &&& 0x3f).toInt64.toUInt64).toInt64))])
  exact Go.retJ X0 hx hlk hret (hb hby d2_8) (by decide) (by decide) ⟨rfl, N0, e0⟩
theorem d5_0 : decode jdk_29_method_70_code 0 = .ok (.lload_n 0, 1) := by decide +kernel
theorem d5_1 : decode jdk_29_method_70_code 1 = .ok (.lload_n 2, 1) := by decide +kernel
theorem d5_2 : decode jdk_29_method_70_code 2 = .ok (.lcmp, 1) := by decide +kernel
theorem d5_3 : decode jdk_29_method_70_code 3 = .ok (.ifCond .gt 7, 3) := by decide +kernel
theorem d5_6 : decode jdk_29_method_70_code 6 = .ok (.lload_n 0, 1) := by decide +kernel
theorem d5_7 : decode jdk_29_method_70_code 7 = .ok (.goto 4, 3) := by decide +kernel
theorem d5_10 : decode jdk_29_method_70_code 10 = .ok (.lload_n 2, 1) := by decide +kernel
theorem d5_11 : decode jdk_29_method_70_code 11 = .ok (.lreturn, 1) := by decide +kernel
theorem ef_M (m : MethodId) (x0 : Int64) (x1 : Int64) : entryFrame m #[(.long x0), (.long x1)] 4 = mkF m 0 #[.val (.long x0), .second, .val (.long x1), .second] [] := by first | (simp [entryFrame, mkF, argsToLocals, Value.category]; done) | rfl
set_option maxRecDepth 65536 in
set_option maxHeartbeats 40000000 in
theorem rmM (l : Launch) (Z : State) (a0 : Array Value) (hw : ∀ d ∈ tables_1, d.before a0 Z = true) (ws : List Jvm.Cond) (x y r : Int64) (h0 : Heap) (n0 : Nat) (hm : (y < x → r = y) ∧ (¬ y < x → r = x)) :
    Meets l Z (⟨"java/lang/Math", "min", "(JJ)J"⟩ : MethodName) jdk_29_method_70_code 4 (some .long) ({ frames := 0, cells := 0, slots := 0, locals := 0 } : Room) ws #[(.long x), (.long y)] h0 (fun v h L => v = some (.long r) ∧ Fr n0 L ∧ h = h0) := by
  refine Meets.of (Jvm.Free.JP.mathPlain rfl (by decide +kernel)) ?_
  intro p e s m below meth c s₁ X0 hx hby hml hret hlk hnm hZ hown e0
  replace hown : s.vm.findClass "java/lang/Math" = some m.cls := hown
  have N0 := Fr.nil n0
  refine Go.cast (ef_M m x y) ?_
  show Go p e s below _ _ _ s₁ (mkF m 0 #[.val (.long x), .second, .val (.long y), .second] [])
  refine Go.st (fun _ kont => XS.lloadN X0.here hx rfl (hb hby d5_0) rfl kont) ?_
  show Go p e s below _ _ _ s₁ (mkF m 1 #[.val (.long x), .second, .val (.long y), .second] [(.long x)])
  refine Go.st (fun _ kont => XS.lloadN X0.here hx rfl (hb hby d5_1) rfl kont) ?_
  show Go p e s below _ _ _ s₁ (mkF m 2 #[.val (.long x), .second, .val (.long y), .second] [(.long y), (.long x)])
  refine Go.st (fun _ kont => XS.lcmp X0.here hx rfl (hb hby d5_2) rfl kont) ?_
  show Go p e s below _ _ _ s₁ (mkF m 3 #[.val (.long x), .second, .val (.long y), .second] [(.int (lcmpW x y))])
  by_cases hc3_1 : y < x
  · --
    refine Go.st (fun _ kont => XS.ifYes X0.here hx rfl (pc0 := 3) (pc' := 10) rfl (hb hby d5_3) rfl ((if0 _ _).trans (tlt ((lw_gt _ _).mpr hc3_1)).2.2.1) (by decide) (by decide) kont) ?_
    show Go p e s below _ _ _ s₁ (mkF m 10 #[.val (.long x), .second, .val (.long y), .second] [])
    refine Go.st (fun _ kont => XS.lloadN X0.here hx rfl (hb hby d5_10) rfl kont) ?_
    show Go p e s below _ _ _ s₁ (mkF m 11 #[.val (.long x), .second, .val (.long y), .second] [(.long y)])
    exact Go.retJ X0 hx hlk hret (hb hby d5_11) (by decide) (by decide) ⟨by rw [hm.1 hc3_1], N0, e0⟩
  · --
    refine Go.st (fun _ kont => XS.ifNo X0.here hx rfl (hb hby d5_3) rfl ((if0 _ _).trans (flt (mt (lw_gt _ _).mp hc3_1)).2.2.1) kont) ?_
    show Go p e s below _ _ _ s₁ (mkF m 6 #[.val (.long x), .second, .val (.long y), .second] [])
    refine Go.st (fun _ kont => XS.lloadN X0.here hx rfl (hb hby d5_6) rfl kont) ?_
    show Go p e s below _ _ _ s₁ (mkF m 7 #[.val (.long x), .second, .val (.long y), .second] [(.long x)])
    refine Go.st (fun _ kont => XS.goto X0.here hx rfl (pc0 := 7) (pc' := 11) rfl (hb hby d5_7) (by decide) (by decide) kont) ?_
    show Go p e s below _ _ _ s₁ (mkF m 11 #[.val (.long x), .second, .val (.long y), .second] [(.long x)])
    exact Go.retJ X0 hx hlk hret (hb hby d5_11) (by decide) (by decide) ⟨by rw [hm.2 hc3_1], N0, e0⟩
theorem pd__JJ_J : parseMethodDescriptor "(JJ)J" = some ⟨[.long, .long], some .long⟩ := by decide +kernel
theorem d4_0 : decode prog_30_method_7_code 0 = .ok (.iload_n 2, 1) := by decide +kernel
theorem d4_1 : decode prog_30_method_7_code 1 = .ok (.i2l, 1) := by decide +kernel
theorem d4_2 : decode prog_30_method_7_code 2 = .ok (.bipush 15, 2) := by decide +kernel
theorem d4_4 : decode prog_30_method_7_code 4 = .ok (.lshl, 1) := by decide +kernel
theorem d4_5 : decode prog_30_method_7_code 5 = .ok (.lstore_n 3, 1) := by decide +kernel
theorem d4_6 : decode prog_30_method_7_code 6 = .ok (.ldc2_w 72, 3) := by decide +kernel
theorem d4_9 : decode prog_30_method_7_code 9 = .ok (.lload_n 0, 1) := by decide +kernel
theorem d4_10 : decode prog_30_method_7_code 10 = .ok (.lload_n 3, 1) := by decide +kernel
theorem d4_11 : decode prog_30_method_7_code 11 = .ok (.lsub, 1) := by decide +kernel
theorem d4_12 : decode prog_30_method_7_code 12 = .ok (.invokestatic 74, 3) := by decide +kernel
theorem d4_15 : decode prog_30_method_7_code 15 = .ok (.l2i, 1) := by decide +kernel
theorem d4_16 : decode prog_30_method_7_code 16 = .ok (.ireturn, 1) := by decide +kernel
theorem ef_L (m : MethodId) (x0 : Int64) (x1 : Int32) : entryFrame m #[(.long x0), (.int x1)] 5 = mkF m 0 #[.val (.long x0), .second, .val (.int x1), .unset, .unset] [] := by first | (simp [entryFrame, mkF, argsToLocals, Value.category]; done) | rfl
set_option maxRecDepth 65536 in
set_option maxHeartbeats 40000000 in
theorem rmL (l : Launch) (Z : State) (a0 : Array Value) (hw : ∀ d ∈ tables_1, d.before a0 Z = true) (ws : List Jvm.Cond) (w : Int64) (p_ n : Int32) (q : Nat) (h0 : Heap) (n0 : Nat) (hp : p_.toInt = q) (hq : q < 3) (h1 : (q : Int) * 32768 < w.toInt) (h2 : w.toInt ≤ 98304) (hn : n.toInt = pgl w.toInt q) :
    Meets l Z (⟨"com/example/criba/criba/PagedWords", "pageLength", "(JI)I"⟩ : MethodName) prog_30_method_7_code 5 (some .int) ({ frames := 1, cells := 0, slots := 0, locals := 15 } : Room) ws #[(.long w), (.int p_)] h0 (fun v h L => v = some (.int n) ∧ Fr n0 L ∧ h = h0) := by
  refine Meets.of (plainFor_of_name (by first | (simp [plainName, overriddenIn]; done) | decide +kernel : plainName "com/example/criba/criba/PagedWords" = true)) ?_
  intro p e s m below meth c s₁ X0 hx hby hml hret hlk hnm hZ hown e0
  replace hown : s.vm.findClass "com/example/criba/criba/PagedWords" = some m.cls := hown
  have N0 := Fr.nil n0
  refine Go.cast (ef_L m w p_) ?_
  show Go p e s below _ _ _ s₁ (mkF m 0 #[.val (.long w), .second, .val (.int p_), .unset, .unset] [])
  refine Go.st (fun _ kont => XS.iloadN X0.here hx rfl (hb hby d4_0) rfl kont) ?_
  show Go p e s below _ _ _ s₁ (mkF m 1 #[.val (.long w), .second, .val (.int p_), .unset, .unset] [(.int p_)])
  refine Go.st (fun _ kont => XS.i2l X0.here hx rfl (hb hby d4_1) rfl kont) ?_
  show Go p e s below _ _ _ s₁ (mkF m 2 #[.val (.long w), .second, .val (.int p_), .unset, .unset] [(.long (p_.toInt64))])
  refine Go.st (fun _ kont => XT.bipushV X0.here hx rfl (15 : Int32) (hb hby d4_2) (by decide) kont) ?_
  show Go p e s below _ _ _ s₁ (mkF m 4 #[.val (.long w), .second, .val (.int p_), .unset, .unset] [(.int (15 : Int32)), (.long (p_.toInt64))])
  refine Go.st (fun _ kont => XS.lshl X0.here hx rfl (hb hby d4_4) rfl kont) ?_
  show Go p e s below _ _ _ s₁ (mkF m 5 #[.val (.long w), .second, .val (.int p_), .unset, .unset] [(.long ((p_.toInt64) <<< ((15 : Int32) &&& 0x3f).toInt64))])
  refine Go.st (fun _ kont => XS.lstoreN X0.here hx rfl (hb hby d4_5) rfl (l' := #[.val (.long w), .second, .val (.int p_), .val (.long ((p_.toInt64) <<< ((15 : Int32) &&& 0x3f).toInt64)), .second]) rfl kont) ?_
  show Go p e s below _ _ _ s₁ (mkF m 6 #[.val (.long w), .second, .val (.int p_), .val (.long ((p_.toInt64) <<< ((15 : Int32) &&& 0x3f).toInt64)), .second] [])
  refine Go.st (X0.ldc2Long hx hown (mvT hZ (hw _ (List.mem_of_getElem? (i := 21) rfl))) (g := (mkF m 6 #[.val (.long w), .second, .val (.int p_), .val (.long ((p_.toInt64) <<< ((15 : Int32) &&& 0x3f).toInt64)), .second] [])) rfl (hb hby d4_6)) ?_
  show Go p e s below _ _ _ s₁ (mkF m 9 #[.val (.long w), .second, .val (.int p_), .val (.long ((p_.toInt64) <<< ((15 : Int32) &&& 0x3f).toInt64)), .second] [(.long (32768 : Int64))])
  refine Go.st (fun _ kont => XS.lloadN X0.here hx rfl (hb hby d4_9) rfl kont) ?_
  show Go p e s below _ _ _ s₁ (mkF m 10 #[.val (.long w), .second, .val (.int p_), .val (.long ((p_.toInt64) <<< ((15 : Int32) &&& 0x3f).toInt64)), .second] [(.long w), (.long (32768 : Int64))])
  refine Go.st (fun _ kont => XS.lloadN X0.here hx rfl (hb hby d4_10) rfl kont) ?_
  show Go p e s below _ _ _ s₁ (mkF m 11 #[.val (.long w), .second, .val (.int p_), .val (.long ((p_.toInt64) <<< ((15 : Int32) &&& 0x3f).toInt64)), .second] [(.long ((p_.toInt64) <<< ((15 : Int32) &&& 0x3f).toInt64)), (.long w), (.long (32768 : Int64))])
  refine Go.st (fun _ kont => XS.lsub X0.here hx rfl (hb hby d4_11) rfl kont) ?_
  show Go p e s below _ _ _ s₁ (mkF m 12 #[.val (.long w), .second, .val (.int p_), .val (.long ((p_.toInt64) <<< ((15 : Int32) &&& 0x3f).toInt64)), .second] [(.long (w - ((p_.toInt64) <<< ((15 : Int32) &&& 0x3f).toInt64))), (.long (32768 : Int64))])
  obtain ⟨z, hz⟩ : ∃ z : Int64, z = (w - ((p_.toInt64) <<< ((15 : Int32) &&& 0x3f).toInt64)) := ⟨_, rfl⟩
  rw [← hz]
  show Go p e s below _ _ _ s₁ (mkF m 12 #[.val (.long w), .second, .val (.int p_), .val (.long ((p_.toInt64) <<< ((15 : Int32) &&& 0x3f).toInt64)), .second] [(.long z), (.long (32768 : Int64))])
  refine Go.callS (W := 0) (argsL := [(.long (32768 : Int64)), (.long z)]) (rest := []) X0 hx hZ hown (y := (⟨"java/lang/Math", "min", "(JJ)J"⟩ : MethodName)) (hw _ (List.mem_of_getElem? (i := 22) rfl)) (hw _ (List.mem_of_getElem? (i := 23) rfl)) (hw _ (List.mem_of_getElem? (i := 24) rfl)) (hw _ (List.mem_of_getElem? (i := 25) rfl)) (rmM l Z a0 hw [] (32768 : Int64) z (if z < (32768 : Int64) then z else (32768 : Int64)) h0 n0 ⟨fun q => if_pos q, fun q => if_neg q⟩) e0 (by decide) (by decide) (by decide) (by decide) (by decide) (by rw [hml]; rfl) (lenOf pd__JJ_J rfl) (Nat.le_of_eq rfl) (hb hby d4_12) ?_
  intro T1 v1 L1 X1 hQ1
  obtain ⟨rfl, N1, E1⟩ := hQ1
  have M1 := Fr.app N0 N1
  show Go p e s below _ _ _ T1 (mkF m 15 #[.val (.long w), .second, .val (.int p_), .val (.long ((p_.toInt64) <<< ((15 : Int32) &&& 0x3f).toInt64)), .second] [(.long (if z < (32768 : Int64) then z else (32768 : Int64)))])
  refine Go.st (fun _ kont => XS.l2i X1.here hx rfl (hb hby d4_15) rfl kont) ?_
  show Go p e s below _ _ _ T1 (mkF m 16 #[.val (.long w), .second, .val (.int p_), .val (.long ((p_.toInt64) <<< ((15 : Int32) &&& 0x3f).toInt64)), .second] [(.int ((if z < (32768 : Int64) then z else (32768 : Int64)).toInt32))])
  exact Go.retI X1 hx hlk hret (hb hby d4_16) (by decide) (by decide) ⟨congrArg (fun q => some (Value.int q)) (Int32.toInt_inj.mp ((own_pl hp hq h1 h2 hz).trans hn.symm)), M1, E1⟩
theorem pd__JI_I : parseMethodDescriptor "(JI)I" = some ⟨[.long, .int], some .int⟩ := by decide +kernel
theorem d3_0 : decode prog_30_method_6_code 0 = .ok (.lload_n 0, 1) := by decide +kernel
theorem d3_1 : decode prog_30_method_6_code 1 = .ok (.lconst 1, 1) := by decide +kernel
theorem d3_2 : decode prog_30_method_6_code 2 = .ok (.lsub, 1) := by decide +kernel
theorem d3_3 : decode prog_30_method_6_code 3 = .ok (.bipush 15, 2) := by decide +kernel
theorem d3_5 : decode prog_30_method_6_code 5 = .ok (.lushr, 1) := by decide +kernel
theorem d3_6 : decode prog_30_method_6_code 6 = .ok (.lconst 1, 1) := by decide +kernel
theorem d3_7 : decode prog_30_method_6_code 7 = .ok (.ladd, 1) := by decide +kernel
theorem d3_8 : decode prog_30_method_6_code 8 = .ok (.l2i, 1) := by decide +kernel
theorem d3_9 : decode prog_30_method_6_code 9 = .ok (.istore_n 2, 1) := by decide +kernel
theorem d3_10 : decode prog_30_method_6_code 10 = .ok (.iload_n 2, 1) := by decide +kernel
theorem d3_11 : decode prog_30_method_6_code 11 = .ok (.anewarray 53, 3) := by decide +kernel
theorem d3_14 : decode prog_30_method_6_code 14 = .ok (.astore_n 3, 1) := by decide +kernel
theorem d3_15 : decode prog_30_method_6_code 15 = .ok (.iconst 0, 1) := by decide +kernel
theorem d3_16 : decode prog_30_method_6_code 16 = .ok (.istore 4, 2) := by decide +kernel
theorem d3_18 : decode prog_30_method_6_code 18 = .ok (.iload 4, 2) := by decide +kernel
theorem d3_20 : decode prog_30_method_6_code 20 = .ok (.iload_n 2, 1) := by decide +kernel
theorem d3_21 : decode prog_30_method_6_code 21 = .ok (.if_icmp .ge 21, 3) := by decide +kernel
theorem d3_24 : decode prog_30_method_6_code 24 = .ok (.aload_n 3, 1) := by decide +kernel
theorem d3_25 : decode prog_30_method_6_code 25 = .ok (.iload 4, 2) := by decide +kernel
theorem d3_27 : decode prog_30_method_6_code 27 = .ok (.lload_n 0, 1) := by decide +kernel
theorem d3_28 : decode prog_30_method_6_code 28 = .ok (.iload 4, 2) := by decide +kernel
theorem d3_30 : decode prog_30_method_6_code 30 = .ok (.invokestatic 38, 3) := by decide +kernel
theorem d3_33 : decode prog_30_method_6_code 33 = .ok (.newarray .long, 2) := by decide +kernel
theorem d3_35 : decode prog_30_method_6_code 35 = .ok (.aastore, 1) := by decide +kernel
theorem d3_36 : decode prog_30_method_6_code 36 = .ok (.iinc 4 1, 3) := by decide +kernel
theorem d3_39 : decode prog_30_method_6_code 39 = .ok (.goto (-21), 3) := by decide +kernel
theorem d3_42 : decode prog_30_method_6_code 42 = .ok (.aload_n 3, 1) := by decide +kernel
theorem d3_43 : decode prog_30_method_6_code 43 = .ok (.areturn, 1) := by decide +kernel
theorem ef_E2 (m : MethodId) (x0 : Int64) : entryFrame m #[(.long x0)] 5 = mkF m 0 #[.val (.long x0), .second, .unset, .unset, .unset] [] := by first | (simp [entryFrame, mkF, argsToLocals, Value.category]; done) | rfl
set_option maxRecDepth 65536 in
set_option maxHeartbeats 40000000 in
theorem rmE2 (l : Launch) (Z : State) (a0 : Array Value) (hw : ∀ d ∈ tables_1, d.before a0 Z = true) (ws : List Jvm.Cond) (w : Int64) (ln0 ln1 : Int32) (h0 : Heap) (n0 : Nat) (Z0 : n0 ≤ h0.size) (hw1 : 32768 < w.toInt) (hw2 : w.toInt ≤ 65536) (hn0 : ln0.toInt = pgl w.toInt 0) (hn1 : ln1.toInt = pgl w.toInt 1) :
    Meets l Z (⟨"com/example/criba/criba/PagedWords", "emptyPages", "(J)[[J"⟩ : MethodName) prog_30_method_6_code 5 (some (.array (.array .long))) ({ frames := 2, cells := 3, slots := 65538, locals := 33 } : Room) ws #[(.long w)] h0 (fun v h L => ∃ (ps : Addr) (kk : ClassId) (b0 b1 : Addr), v = some (.ref ps) ∧ Fr n0 L ∧ Ext h0 h ∧ Arv Z h ps kk (.array .long) 2 [.ref b0, .ref b1] .null ∧ h0.size ≤ ps ∧ (∃ k, Arv Z h b0 k .long ln0 [] (.long (0 : Int64))) ∧ h0.size ≤ b0 ∧ ps ≠ b0 ∧ (∃ k, Arv Z h b1 k .long ln1 [] (.long (0 : Int64))) ∧ h0.size ≤ b1 ∧ ps ≠ b1 ∧ b1 ≠ b0) := by
  refine Meets.of (plainFor_of_name (by first | (simp [plainName, overriddenIn]; done) | decide +kernel : plainName "com/example/criba/criba/PagedWords" = true)) ?_
  intro p e s m below meth c s₁ X0 hx hby hml hret hlk hnm hZ hown e0
  replace hown : s.vm.findClass "com/example/criba/criba/PagedWords" = some m.cls := hown
  have N0 := Fr.nil n0
  have Q0 := own_extR h0
  refine Go.cast (ef_E2 m w) ?_
  show Go p e s below _ _ _ s₁ (mkF m 0 #[.val (.long w), .second, .unset, .unset, .unset] [])
  refine Go.st (fun _ kont => XS.lloadN X0.here hx rfl (hb hby d3_0) rfl kont) ?_
  show Go p e s below _ _ _ s₁ (mkF m 1 #[.val (.long w), .second, .unset, .unset, .unset] [(.long w)])
  refine Go.st (fun _ kont => XT.lconstV X0.here hx rfl (1 : Int64) (hb hby d3_1) (by decide) kont) ?_
  show Go p e s below _ _ _ s₁ (mkF m 2 #[.val (.long w), .second, .unset, .unset, .unset] [(.long (1 : Int64)), (.long w)])
  refine Go.st (fun _ kont => XS.lsub X0.here hx rfl (hb hby d3_2) rfl kont) ?_
  show Go p e s below _ _ _ s₁ (mkF m 3 #[.val (.long w), .second, .unset, .unset, .unset] [(.long (w - (1 : Int64)))])
  refine Go.st (fun _ kont => XT.bipushV X0.here hx rfl (15 : Int32) (hb hby d3_3) (by decide) kont) ?_
  show Go p e s below _ _ _ s₁ (mkF m 5 #[.val (.long w), .second, .unset, .unset, .unset] [(.int (15 : Int32)), (.long (w - (1 : Int64)))])
  refine Go.st (fun _ kont => XS.lushr X0.here hx rfl (hb hby d3_5) rfl kont) ?_
  show Go p e s below _ _ _ s₁ (mkF m 6 #[.val (.long w), .second, .unset, .unset, .unset] [(.long (((w - (1 : Int64)).toUInt64 >>> ((15 : Int32) &&& 0x3f).toInt64.toUInt64).toInt64))])
  refine Go.st (fun _ kont => XT.lconstV X0.here hx rfl (1 : Int64) (hb hby d3_6) (by decide) kont) ?_
  show Go p e s below _ _ _ s₁ (mkF m 7 #[.val (.long w), .second, .unset, .unset, .unset] [(.long (1 : Int64)), (.long (((w - (1 : Int64)).toUInt64 >>> ((15 : Int32) &&& 0x3f).toInt64.toUInt64).toInt64))])
  refine Go.st (fun _ kont => XS.ladd X0.here hx rfl (hb hby d3_7) rfl kont) ?_
  show Go p e s below _ _ _ s₁ (mkF m 8 #[.val (.long w), .second, .unset, .unset, .unset] [(.long ((((w - (1 : Int64)).toUInt64 >>> ((15 : Int32) &&& 0x3f).toInt64.toUInt64).toInt64) + (1 : Int64)))])
  refine Go.st (fun _ kont => XS.l2i X0.here hx rfl (hb hby d3_8) rfl kont) ?_
  show Go p e s below _ _ _ s₁ (mkF m 9 #[.val (.long w), .second, .unset, .unset, .unset] [(.int (((((w - (1 : Int64)).toUInt64 >>> ((15 : Int32) &&& 0x3f).toInt64.toUInt64).toInt64) + (1 : Int64)).toInt32))])
  refine Go.st (fun _ kont => XS.istoreN X0.here hx rfl (hb hby d3_9) rfl (l' := #[.val (.long w), .second, .val (.int (((((w - (1 : Int64)).toUInt64 >>> ((15 : Int32) &&& 0x3f).toInt64.toUInt64).toInt64) + (1 : Int64)).toInt32)), .unset, .unset]) rfl kont) ?_
  show Go p e s below _ _ _ s₁ (mkF m 10 #[.val (.long w), .second, .val (.int (((((w - (1 : Int64)).toUInt64 >>> ((15 : Int32) &&& 0x3f).toInt64.toUInt64).toInt64) + (1 : Int64)).toInt32)), .unset, .unset] [])
  have hnp := own_np (w := w) (P := 2) (p := 2) (by rfl) (by omega) (by omega) (by omega)
  rw [hnp]
  show Go p e s below _ _ _ s₁ (mkF m 10 #[.val (.long w), .second, .val (.int (2 : Int32)), .unset, .unset] [])
  refine Go.st (fun _ kont => XS.iloadN X0.here hx rfl (hb hby d3_10) rfl kont) ?_
  show Go p e s below _ _ _ s₁ (mkF m 11 #[.val (.long w), .second, .val (.int (2 : Int32)), .unset, .unset] [(.int (2 : Int32))])
  obtain ⟨T1, h1, k1, X1, e1, E1, A1, Y1, O1, st1⟩ := newRA X0 hx hZ hown (by decide) (hw _ (List.mem_of_getElem? (i := 16) rfl)) (hw _ (List.mem_of_getElem? (i := 17) rfl)) e0 (g := (mkF m 11 #[.val (.long w), .second, .val (.int (2 : Int32)), .unset, .unset] [(.int (2 : Int32))])) rfl (hb hby d3_11) rfl (by decide) (cap := 2) (by decide) (by decide) (by decide) (by decide) (ad := "[[J") (by decide)
  obtain ⟨b1, g1⟩ : ∃ z, z = h0.size := ⟨_, rfl⟩
  rw [← g1] at A1 Y1 st1
  have sz1 : h0.size ≤ b1 := Nat.le_trans Q0.1 (Nat.le_of_eq g1.symm)
  have gn1 : n0 ≤ b1 := Nat.le_trans Z0 sz1
  refine Go.st st1 ?_
  have Q_1 : Ext h0 h1 := own_extE Q0 E1
  have V_b1 : Arv Z h1 b1 k1 (.array .long) (2 : Int32) [.null, .null] .null := (Arv.new A1 (by decide)).pad (pad_rep [] .null 2)
  show Go p e s below _ _ _ T1 (mkF m 14 #[.val (.long w), .second, .val (.int (2 : Int32)), .unset, .unset] [(.ref b1)])
  refine Go.st (fun _ kont => XS.astoreN X1.here hx rfl (hb hby d3_14) rfl rfl (l' := #[.val (.long w), .second, .val (.int (2 : Int32)), .val (.ref b1), .unset]) rfl kont) ?_
  show Go p e s below _ _ _ T1 (mkF m 15 #[.val (.long w), .second, .val (.int (2 : Int32)), .val (.ref b1), .unset] [])
  refine Go.st (fun _ kont => XT.iconstV X1.here hx rfl (0 : Int32) (hb hby d3_15) (by decide) kont) ?_
  show Go p e s below _ _ _ T1 (mkF m 16 #[.val (.long w), .second, .val (.int (2 : Int32)), .val (.ref b1), .unset] [(.int (0 : Int32))])
  refine Go.st (fun _ kont => XS.istore X1.here hx rfl (hb hby d3_16) rfl (l' := #[.val (.long w), .second, .val (.int (2 : Int32)), .val (.ref b1), .val (.int (0 : Int32))]) rfl kont) ?_
  show Go p e s below _ _ _ T1 (mkF m 18 #[.val (.long w), .second, .val (.int (2 : Int32)), .val (.ref b1), .val (.int (0 : Int32))] [])
  refine Go.st (fun _ kont => XS.iload X1.here hx rfl (hb hby d3_18) rfl kont) ?_
  show Go p e s below _ _ _ T1 (mkF m 20 #[.val (.long w), .second, .val (.int (2 : Int32)), .val (.ref b1), .val (.int (0 : Int32))] [(.int (0 : Int32))])
  refine Go.st (fun _ kont => XS.iloadN X1.here hx rfl (hb hby d3_20) rfl kont) ?_
  show Go p e s below _ _ _ T1 (mkF m 21 #[.val (.long w), .second, .val (.int (2 : Int32)), .val (.ref b1), .val (.int (0 : Int32))] [(.int (2 : Int32)), (.int (0 : Int32))])
  refine Go.st (fun _ kont => XS.icmpNo X1.here hx rfl (hb hby d3_21) rfl (tlt (by decide : (0 : Int32) < (2 : Int32))).2.1 kont) ?_
  show Go p e s below _ _ _ T1 (mkF m 24 #[.val (.long w), .second, .val (.int (2 : Int32)), .val (.ref b1), .val (.int (0 : Int32))] [])
  refine Go.st (fun _ kont => XS.aloadN X1.here hx rfl (hb hby d3_24) rfl rfl kont) ?_
  show Go p e s below _ _ _ T1 (mkF m 25 #[.val (.long w), .second, .val (.int (2 : Int32)), .val (.ref b1), .val (.int (0 : Int32))] [(.ref b1)])
  refine Go.st (fun _ kont => XS.iload X1.here hx rfl (hb hby d3_25) rfl kont) ?_
  show Go p e s below _ _ _ T1 (mkF m 27 #[.val (.long w), .second, .val (.int (2 : Int32)), .val (.ref b1), .val (.int (0 : Int32))] [(.int (0 : Int32)), (.ref b1)])
  refine Go.st (fun _ kont => XS.lloadN X1.here hx rfl (hb hby d3_27) rfl kont) ?_
  show Go p e s below _ _ _ T1 (mkF m 28 #[.val (.long w), .second, .val (.int (2 : Int32)), .val (.ref b1), .val (.int (0 : Int32))] [(.long w), (.int (0 : Int32)), (.ref b1)])
  refine Go.st (fun _ kont => XS.iload X1.here hx rfl (hb hby d3_28) rfl kont) ?_
  show Go p e s below _ _ _ T1 (mkF m 30 #[.val (.long w), .second, .val (.int (2 : Int32)), .val (.ref b1), .val (.int (0 : Int32))] [(.int (0 : Int32)), (.long w), (.int (0 : Int32)), (.ref b1)])
  refine Go.callS (W := 2) (argsL := [(.long w), (.int (0 : Int32))]) (rest := [(.int (0 : Int32)), (.ref b1)]) X1 hx hZ hown (y := (⟨"com/example/criba/criba/PagedWords", "pageLength", "(JI)I"⟩ : MethodName)) (hw _ (List.mem_of_getElem? (i := 18) rfl)) (hw _ (List.mem_of_getElem? (i := 19) rfl)) (hw _ (List.mem_of_getElem? (i := 5) rfl)) (hw _ (List.mem_of_getElem? (i := 20) rfl)) (rmL l Z a0 hw [] w (0 : Int32) ln0 0 h1 n0 (by rfl) (by decide) (by omega) (by omega) hn0) e1 (by decide) (by decide) (by decide) (by decide) (by decide) (by rw [hml]; rfl) (lenOf pd__JI_I rfl) (Nat.le_of_eq rfl) (hb hby d3_30) ?_
  intro T2 v2 L2 X2 hQ2
  obtain ⟨rfl, N2, E2⟩ := hQ2
  have M2 := Fr.app N0 N2
  show Go p e s below _ _ _ T2 (mkF m 33 #[.val (.long w), .second, .val (.int (2 : Int32)), .val (.ref b1), .val (.int (0 : Int32))] [(.int ln0), (.int (0 : Int32)), (.ref b1)])
  obtain ⟨T3, h3, k3, X3, e3, E3, A3, Y3, st3⟩ := newPE X2 hx hZ (hw _ (List.mem_of_getElem? (i := 26) rfl)) E2 (g := (mkF m 33 #[.val (.long w), .second, .val (.int (2 : Int32)), .val (.ref b1), .val (.int (0 : Int32))] [(.int ln0), (.int (0 : Int32)), (.ref b1)])) rfl (hb hby d3_33) rfl (own_cap hn0 (by omega)).1 (cap := 32768) (own_cap hn0 (by omega)).2 (by decide) (by decide) (by decide) (ad := "[J") (by decide)
  obtain ⟨b3, g3⟩ : ∃ z, z = h1.size := ⟨_, rfl⟩
  rw [← g3] at A3 Y3 st3
  have sz3 : h0.size ≤ b3 := Nat.le_trans Q_1.1 (Nat.le_of_eq g3.symm)
  have gn3 : n0 ≤ b3 := Nat.le_trans Z0 sz3
  refine Go.st st3 ?_
  have Q_3 : Ext h0 h3 := own_extE Q_1 E3
  have V_b1_3 := V_b1.ext E3
  have V_b3 : Arv Z h3 b3 k3 .long ln0 [] (.long (0 : Int64)) := (Arv.new A3 (own_cap hn0 (by omega)).1)
  show Go p e s below _ _ _ T3 (mkF m 35 #[.val (.long w), .second, .val (.int (2 : Int32)), .val (.ref b1), .val (.int (0 : Int32))] [(.ref b3), (.int (0 : Int32)), (.ref b1)])
  obtain ⟨cl4, Ar4, q4, S4, M4, H4, G4⟩ := (id V_b1_3)
  have in4 : ¬ ((0 : Int32) < 0 ∨ cl4.slots.size ≤ ((0 : Int32)).toNatClampNeg) := inb_of S4 ⟨by decide, by decide⟩
  obtain ⟨T4, h4, X4, e4, W4, st4⟩ := stR X3 hx hZ e3 Ar4 (j := (0 : Int32)) in4 rfl (Sto.ofVA Ar4 q4 O1 (Ins.self Y3)) (g := (mkF m 35 #[.val (.long w), .second, .val (.int (2 : Int32)), .val (.ref b1), .val (.int (0 : Int32))] [(.ref b3), (.int (0 : Int32)), (.ref b1)])) rfl rfl (hb hby d3_35)
  refine Go.st st4 ?_
  have V_b1_4 : Arv Z h4 b1 k1 (.array .long) (2 : Int32) [(.ref b3), .null] .null := Arv.set Ar4 q4 S4 M4 H4 G4 rfl W4 0 rfl (by simp)
  have Q_4 : Ext h0 h4 := own_extW Q_3 W4 sz1
  have V_b3_4 := V_b3.other W4 (Ne.symm (Nat.ne_of_lt (Nat.lt_of_lt_of_le V_b1.lt (Nat.le_of_eq g3.symm))))
  have E_b3_4 := Y3.wr W4
  have N4 := Fr.snoc X4 M2 gn1
  show Go p e s below _ _ _ T4 (mkF m 36 #[.val (.long w), .second, .val (.int (2 : Int32)), .val (.ref b1), .val (.int (0 : Int32))] [])
  refine Go.st (fun _ kont => XS.iinc X4.here hx rfl (hb hby d3_36) rfl (l' := #[.val (.long w), .second, .val (.int (2 : Int32)), .val (.ref b1), .val (.int ((0 : Int32) + (1 : Int32)))]) rfl kont) ?_
  show Go p e s below _ _ _ T4 (mkF m 39 #[.val (.long w), .second, .val (.int (2 : Int32)), .val (.ref b1), .val (.int ((0 : Int32) + (1 : Int32)))] [])
  refine Go.st (fun _ kont => XS.goto X4.here hx rfl (pc0 := 39) (pc' := 18) rfl (hb hby d3_39) (by decide) (by decide) kont) ?_
  show Go p e s below _ _ _ T4 (mkF m 18 #[.val (.long w), .second, .val (.int (2 : Int32)), .val (.ref b1), .val (.int ((0 : Int32) + (1 : Int32)))] [])
  show Go p e s below _ _ _ T4 (mkF m 18 #[.val (.long w), .second, .val (.int (2 : Int32)), .val (.ref b1), .val (.int (1 : Int32))] [])
  refine Go.st (fun _ kont => XS.iload X4.here hx rfl (hb hby d3_18) rfl kont) ?_
  show Go p e s below _ _ _ T4 (mkF m 20 #[.val (.long w), .second, .val (.int (2 : Int32)), .val (.ref b1), .val (.int (1 : Int32))] [(.int (1 : Int32))])
  refine Go.st (fun _ kont => XS.iloadN X4.here hx rfl (hb hby d3_20) rfl kont) ?_
  show Go p e s below _ _ _ T4 (mkF m 21 #[.val (.long w), .second, .val (.int (2 : Int32)), .val (.ref b1), .val (.int (1 : Int32))] [(.int (2 : Int32)), (.int (1 : Int32))])
  refine Go.st (fun _ kont => XS.icmpNo X4.here hx rfl (hb hby d3_21) rfl (tlt (by decide : (1 : Int32) < (2 : Int32))).2.1 kont) ?_
  show Go p e s below _ _ _ T4 (mkF m 24 #[.val (.long w), .second, .val (.int (2 : Int32)), .val (.ref b1), .val (.int (1 : Int32))] [])
  refine Go.st (fun _ kont => XS.aloadN X4.here hx rfl (hb hby d3_24) rfl rfl kont) ?_
  show Go p e s below _ _ _ T4 (mkF m 25 #[.val (.long w), .second, .val (.int (2 : Int32)), .val (.ref b1), .val (.int (1 : Int32))] [(.ref b1)])
  refine Go.st (fun _ kont => XS.iload X4.here hx rfl (hb hby d3_25) rfl kont) ?_
  show Go p e s below _ _ _ T4 (mkF m 27 #[.val (.long w), .second, .val (.int (2 : Int32)), .val (.ref b1), .val (.int (1 : Int32))] [(.int (1 : Int32)), (.ref b1)])
  refine Go.st (fun _ kont => XS.lloadN X4.here hx rfl (hb hby d3_27) rfl kont) ?_
  show Go p e s below _ _ _ T4 (mkF m 28 #[.val (.long w), .second, .val (.int (2 : Int32)), .val (.ref b1), .val (.int (1 : Int32))] [(.long w), (.int (1 : Int32)), (.ref b1)])
  refine Go.st (fun _ kont => XS.iload X4.here hx rfl (hb hby d3_28) rfl kont) ?_
  show Go p e s below _ _ _ T4 (mkF m 30 #[.val (.long w), .second, .val (.int (2 : Int32)), .val (.ref b1), .val (.int (1 : Int32))] [(.int (1 : Int32)), (.long w), (.int (1 : Int32)), (.ref b1)])
  refine Go.callS (W := 2) (argsL := [(.long w), (.int (1 : Int32))]) (rest := [(.int (1 : Int32)), (.ref b1)]) X4 hx hZ hown (y := (⟨"com/example/criba/criba/PagedWords", "pageLength", "(JI)I"⟩ : MethodName)) (hw _ (List.mem_of_getElem? (i := 18) rfl)) (hw _ (List.mem_of_getElem? (i := 19) rfl)) (hw _ (List.mem_of_getElem? (i := 5) rfl)) (hw _ (List.mem_of_getElem? (i := 20) rfl)) (rmL l Z a0 hw [] w (1 : Int32) ln1 1 h4 n0 (by rfl) (by decide) (by omega) (by omega) hn1) e4 (by decide) (by decide) (by decide) (by decide) (by decide) (by rw [hml]; rfl) (lenOf pd__JI_I rfl) (Nat.le_of_eq rfl) (hb hby d3_30) ?_
  intro T5 v5 L5 X5 hQ5
  obtain ⟨rfl, N5, E5⟩ := hQ5
  have M5 := Fr.app N4 N5
  show Go p e s below _ _ _ T5 (mkF m 33 #[.val (.long w), .second, .val (.int (2 : Int32)), .val (.ref b1), .val (.int (1 : Int32))] [(.int ln1), (.int (1 : Int32)), (.ref b1)])
  obtain ⟨T6, h6, k6, X6, e6, E6, A6, Y6, st6⟩ := newPE X5 hx hZ (hw _ (List.mem_of_getElem? (i := 26) rfl)) E5 (g := (mkF m 33 #[.val (.long w), .second, .val (.int (2 : Int32)), .val (.ref b1), .val (.int (1 : Int32))] [(.int ln1), (.int (1 : Int32)), (.ref b1)])) rfl (hb hby d3_33) rfl (own_cap hn1 (by omega)).1 (cap := 32768) (own_cap hn1 (by omega)).2 (by decide) (by decide) (by decide) (ad := "[J") (by decide)
  obtain ⟨b6, g6⟩ : ∃ z, z = h4.size := ⟨_, rfl⟩
  rw [← g6] at A6 Y6 st6
  have sz6 : h0.size ≤ b6 := Nat.le_trans Q_4.1 (Nat.le_of_eq g6.symm)
  have gn6 : n0 ≤ b6 := Nat.le_trans Z0 sz6
  refine Go.st st6 ?_
  have Q_6 : Ext h0 h6 := own_extE Q_4 E6
  have V_b1_6 := V_b1_4.ext E6
  have V_b3_6 := V_b3_4.ext E6
  have E_b3_6 := E_b3_4.ext E6
  have V_b6 : Arv Z h6 b6 k6 .long ln1 [] (.long (0 : Int64)) := (Arv.new A6 (own_cap hn1 (by omega)).1)
  show Go p e s below _ _ _ T6 (mkF m 35 #[.val (.long w), .second, .val (.int (2 : Int32)), .val (.ref b1), .val (.int (1 : Int32))] [(.ref b6), (.int (1 : Int32)), (.ref b1)])
  obtain ⟨cl7, Ar7, q7, S7, M7, H7, G7⟩ := (id V_b1_6)
  have in7 : ¬ ((1 : Int32) < 0 ∨ cl7.slots.size ≤ ((1 : Int32)).toNatClampNeg) := inb_of S7 ⟨by decide, by decide⟩
  obtain ⟨T7, h7, X7, e7, W7, st7⟩ := stR X6 hx hZ e6 Ar7 (j := (1 : Int32)) in7 rfl (Sto.ofVA Ar7 q7 O1 (Ins.self Y6)) (g := (mkF m 35 #[.val (.long w), .second, .val (.int (2 : Int32)), .val (.ref b1), .val (.int (1 : Int32))] [(.ref b6), (.int (1 : Int32)), (.ref b1)])) rfl rfl (hb hby d3_35)
  refine Go.st st7 ?_
  have V_b1_7 : Arv Z h7 b1 k1 (.array .long) (2 : Int32) [(.ref b3), (.ref b6)] .null := Arv.set Ar7 q7 S7 M7 H7 G7 rfl W7 1 rfl (by simp)
  have Q_7 : Ext h0 h7 := own_extW Q_6 W7 sz1
  have V_b3_7 := V_b3_6.other W7 (Ne.symm (Nat.ne_of_lt (Nat.lt_of_lt_of_le V_b1.lt (Nat.le_of_eq g3.symm))))
  have E_b3_7 := E_b3_6.wr W7
  have V_b6_7 := V_b6.other W7 (Ne.symm (Nat.ne_of_lt (Nat.lt_of_lt_of_le V_b1_4.lt (Nat.le_of_eq g6.symm))))
  have E_b6_7 := Y6.wr W7
  have N7 := Fr.snoc X7 M5 gn1
  show Go p e s below _ _ _ T7 (mkF m 36 #[.val (.long w), .second, .val (.int (2 : Int32)), .val (.ref b1), .val (.int (1 : Int32))] [])
  refine Go.st (fun _ kont => XS.iinc X7.here hx rfl (hb hby d3_36) rfl (l' := #[.val (.long w), .second, .val (.int (2 : Int32)), .val (.ref b1), .val (.int ((1 : Int32) + (1 : Int32)))]) rfl kont) ?_
  show Go p e s below _ _ _ T7 (mkF m 39 #[.val (.long w), .second, .val (.int (2 : Int32)), .val (.ref b1), .val (.int ((1 : Int32) + (1 : Int32)))] [])
  refine Go.st (fun _ kont => XS.goto X7.here hx rfl (pc0 := 39) (pc' := 18) rfl (hb hby d3_39) (by decide) (by decide) kont) ?_
  show Go p e s below _ _ _ T7 (mkF m 18 #[.val (.long w), .second, .val (.int (2 : Int32)), .val (.ref b1), .val (.int ((1 : Int32) + (1 : Int32)))] [])
  show Go p e s below _ _ _ T7 (mkF m 18 #[.val (.long w), .second, .val (.int (2 : Int32)), .val (.ref b1), .val (.int (2 : Int32))] [])
  refine Go.st (fun _ kont => XS.iload X7.here hx rfl (hb hby d3_18) rfl kont) ?_
  show Go p e s below _ _ _ T7 (mkF m 20 #[.val (.long w), .second, .val (.int (2 : Int32)), .val (.ref b1), .val (.int (2 : Int32))] [(.int (2 : Int32))])
  refine Go.st (fun _ kont => XS.iloadN X7.here hx rfl (hb hby d3_20) rfl kont) ?_
  show Go p e s below _ _ _ T7 (mkF m 21 #[.val (.long w), .second, .val (.int (2 : Int32)), .val (.ref b1), .val (.int (2 : Int32))] [(.int (2 : Int32)), (.int (2 : Int32))])
  refine Go.st (fun _ kont => XS.icmpYes X7.here hx rfl (pc0 := 21) (pc' := 42) rfl (hb hby d3_21) rfl (flt (by decide : ¬ ((2 : Int32) < (2 : Int32)))).2.1 (by decide) (by decide) kont) ?_
  show Go p e s below _ _ _ T7 (mkF m 42 #[.val (.long w), .second, .val (.int (2 : Int32)), .val (.ref b1), .val (.int (2 : Int32))] [])
  refine Go.st (fun _ kont => XS.aloadN X7.here hx rfl (hb hby d3_42) rfl rfl kont) ?_
  show Go p e s below _ _ _ T7 (mkF m 43 #[.val (.long w), .second, .val (.int (2 : Int32)), .val (.ref b1), .val (.int (2 : Int32))] [(.ref b1)])
  exact Go.retA X7 hx hlk hret rfl rfl (hb hby d3_43) (by decide) (by decide) ⟨b1, k1, b3, b6, rfl, N7, (by rw [e7]; exact Q_7), (by rw [e7]; exact V_b1_7), sz1, (by rw [e7]; exact ⟨_, V_b3_7⟩), sz3, (Nat.ne_of_lt (Nat.lt_of_lt_of_le V_b1.lt (Nat.le_of_eq g3.symm))), (by rw [e7]; exact ⟨_, V_b6_7⟩), sz6, (Nat.ne_of_lt (Nat.lt_of_lt_of_le V_b1_4.lt (Nat.le_of_eq g6.symm))), (Ne.symm (Nat.ne_of_lt (Nat.lt_of_lt_of_le V_b3_4.lt (Nat.le_of_eq g6.symm))))⟩
theorem ef_E1 (m : MethodId) (x0 : Int64) : entryFrame m #[(.long x0)] 5 = mkF m 0 #[.val (.long x0), .second, .unset, .unset, .unset] [] := by first | (simp [entryFrame, mkF, argsToLocals, Value.category]; done) | rfl
set_option maxRecDepth 65536 in
set_option maxHeartbeats 40000000 in
theorem rmE1 (l : Launch) (Z : State) (a0 : Array Value) (hw : ∀ d ∈ tables_1, d.before a0 Z = true) (ws : List Jvm.Cond) (w : Int64) (ln0 : Int32) (h0 : Heap) (n0 : Nat) (Z0 : n0 ≤ h0.size) (hw1 : 0 < w.toInt) (hw2 : w.toInt ≤ 32768) (hn0 : ln0.toInt = pgl w.toInt 0) :
    Meets l Z (⟨"com/example/criba/criba/PagedWords", "emptyPages", "(J)[[J"⟩ : MethodName) prog_30_method_6_code 5 (some (.array (.array .long))) ({ frames := 2, cells := 3, slots := 65538, locals := 33 } : Room) ws #[(.long w)] h0 (fun v h L => ∃ (ps : Addr) (kk : ClassId) (b0 : Addr), v = some (.ref ps) ∧ Fr n0 L ∧ Ext h0 h ∧ Arv Z h ps kk (.array .long) 1 [.ref b0] .null ∧ h0.size ≤ ps ∧ (∃ k, Arv Z h b0 k .long ln0 [] (.long (0 : Int64))) ∧ h0.size ≤ b0 ∧ ps ≠ b0) := by
  refine Meets.of (plainFor_of_name (by first | (simp [plainName, overriddenIn]; done) | decide +kernel : plainName "com/example/criba/criba/PagedWords" = true)) ?_
  intro p e s m below meth c s₁ X0 hx hby hml hret hlk hnm hZ hown e0
  replace hown : s.vm.findClass "com/example/criba/criba/PagedWords" = some m.cls := hown
  have N0 := Fr.nil n0
  have Q0 := own_extR h0
  refine Go.cast (ef_E1 m w) ?_
  show Go p e s below _ _ _ s₁ (mkF m 0 #[.val (.long w), .second, .unset, .unset, .unset] [])
  refine Go.st (fun _ kont => XS.lloadN X0.here hx rfl (hb hby d3_0) rfl kont) ?_
  show Go p e s below _ _ _ s₁ (mkF m 1 #[.val (.long w), .second, .unset, .unset, .unset] [(.long w)])
  refine Go.st (fun _ kont => XT.lconstV X0.here hx rfl (1 : Int64) (hb hby d3_1) (by decide) kont) ?_
  show Go p e s below _ _ _ s₁ (mkF m 2 #[.val (.long w), .second, .unset, .unset, .unset] [(.long (1 : Int64)), (.long w)])
  refine Go.st (fun _ kont => XS.lsub X0.here hx rfl (hb hby d3_2) rfl kont) ?_
  show Go p e s below _ _ _ s₁ (mkF m 3 #[.val (.long w), .second, .unset, .unset, .unset] [(.long (w - (1 : Int64)))])
  refine Go.st (fun _ kont => XT.bipushV X0.here hx rfl (15 : Int32) (hb hby d3_3) (by decide) kont) ?_
  show Go p e s below _ _ _ s₁ (mkF m 5 #[.val (.long w), .second, .unset, .unset, .unset] [(.int (15 : Int32)), (.long (w - (1 : Int64)))])
  refine Go.st (fun _ kont => XS.lushr X0.here hx rfl (hb hby d3_5) rfl kont) ?_
  show Go p e s below _ _ _ s₁ (mkF m 6 #[.val (.long w), .second, .unset, .unset, .unset] [(.long (((w - (1 : Int64)).toUInt64 >>> ((15 : Int32) &&& 0x3f).toInt64.toUInt64).toInt64))])
  refine Go.st (fun _ kont => XT.lconstV X0.here hx rfl (1 : Int64) (hb hby d3_6) (by decide) kont) ?_
  show Go p e s below _ _ _ s₁ (mkF m 7 #[.val (.long w), .second, .unset, .unset, .unset] [(.long (1 : Int64)), (.long (((w - (1 : Int64)).toUInt64 >>> ((15 : Int32) &&& 0x3f).toInt64.toUInt64).toInt64))])
  refine Go.st (fun _ kont => XS.ladd X0.here hx rfl (hb hby d3_7) rfl kont) ?_
  show Go p e s below _ _ _ s₁ (mkF m 8 #[.val (.long w), .second, .unset, .unset, .unset] [(.long ((((w - (1 : Int64)).toUInt64 >>> ((15 : Int32) &&& 0x3f).toInt64.toUInt64).toInt64) + (1 : Int64)))])
  refine Go.st (fun _ kont => XS.l2i X0.here hx rfl (hb hby d3_8) rfl kont) ?_
  show Go p e s below _ _ _ s₁ (mkF m 9 #[.val (.long w), .second, .unset, .unset, .unset] [(.int (((((w - (1 : Int64)).toUInt64 >>> ((15 : Int32) &&& 0x3f).toInt64.toUInt64).toInt64) + (1 : Int64)).toInt32))])
  refine Go.st (fun _ kont => XS.istoreN X0.here hx rfl (hb hby d3_9) rfl (l' := #[.val (.long w), .second, .val (.int (((((w - (1 : Int64)).toUInt64 >>> ((15 : Int32) &&& 0x3f).toInt64.toUInt64).toInt64) + (1 : Int64)).toInt32)), .unset, .unset]) rfl kont) ?_
  show Go p e s below _ _ _ s₁ (mkF m 10 #[.val (.long w), .second, .val (.int (((((w - (1 : Int64)).toUInt64 >>> ((15 : Int32) &&& 0x3f).toInt64.toUInt64).toInt64) + (1 : Int64)).toInt32)), .unset, .unset] [])
  have hnp := own_np (w := w) (P := 1) (p := 1) (by rfl) (by omega) (by omega) (by omega)
  rw [hnp]
  show Go p e s below _ _ _ s₁ (mkF m 10 #[.val (.long w), .second, .val (.int (1 : Int32)), .unset, .unset] [])
  refine Go.st (fun _ kont => XS.iloadN X0.here hx rfl (hb hby d3_10) rfl kont) ?_
  show Go p e s below _ _ _ s₁ (mkF m 11 #[.val (.long w), .second, .val (.int (1 : Int32)), .unset, .unset] [(.int (1 : Int32))])
  obtain ⟨T1, h1, k1, X1, e1, E1, A1, Y1, O1, st1⟩ := newRA X0 hx hZ hown (by decide) (hw _ (List.mem_of_getElem? (i := 16) rfl)) (hw _ (List.mem_of_getElem? (i := 17) rfl)) e0 (g := (mkF m 11 #[.val (.long w), .second, .val (.int (1 : Int32)), .unset, .unset] [(.int (1 : Int32))])) rfl (hb hby d3_11) rfl (by decide) (cap := 1) (by decide) (by decide) (by decide) (by decide) (ad := "[[J") (by decide)
  obtain ⟨b1, g1⟩ : ∃ z, z = h0.size := ⟨_, rfl⟩
  rw [← g1] at A1 Y1 st1
  have sz1 : h0.size ≤ b1 := Nat.le_trans Q0.1 (Nat.le_of_eq g1.symm)
  have gn1 : n0 ≤ b1 := Nat.le_trans Z0 sz1
  refine Go.st st1 ?_
  have Q_1 : Ext h0 h1 := own_extE Q0 E1
  have V_b1 : Arv Z h1 b1 k1 (.array .long) (1 : Int32) [.null] .null := (Arv.new A1 (by decide)).pad (pad_rep [] .null 1)
  show Go p e s below _ _ _ T1 (mkF m 14 #[.val (.long w), .second, .val (.int (1 : Int32)), .unset, .unset] [(.ref b1)])
  refine Go.st (fun _ kont => XS.astoreN X1.here hx rfl (hb hby d3_14) rfl rfl (l' := #[.val (.long w), .second, .val (.int (1 : Int32)), .val (.ref b1), .unset]) rfl kont) ?_
  show Go p e s below _ _ _ T1 (mkF m 15 #[.val (.long w), .second, .val (.int (1 : Int32)), .val (.ref b1), .unset] [])
  refine Go.st (fun _ kont => XT.iconstV X1.here hx rfl (0 : Int32) (hb hby d3_15) (by decide) kont) ?_
  show Go p e s below _ _ _ T1 (mkF m 16 #[.val (.long w), .second, .val (.int (1 : Int32)), .val (.ref b1), .unset] [(.int (0 : Int32))])
  refine Go.st (fun _ kont => XS.istore X1.here hx rfl (hb hby d3_16) rfl (l' := #[.val (.long w), .second, .val (.int (1 : Int32)), .val (.ref b1), .val (.int (0 : Int32))]) rfl kont) ?_
  show Go p e s below _ _ _ T1 (mkF m 18 #[.val (.long w), .second, .val (.int (1 : Int32)), .val (.ref b1), .val (.int (0 : Int32))] [])
  refine Go.st (fun _ kont => XS.iload X1.here hx rfl (hb hby d3_18) rfl kont) ?_
  show Go p e s below _ _ _ T1 (mkF m 20 #[.val (.long w), .second, .val (.int (1 : Int32)), .val (.ref b1), .val (.int (0 : Int32))] [(.int (0 : Int32))])
  refine Go.st (fun _ kont => XS.iloadN X1.here hx rfl (hb hby d3_20) rfl kont) ?_
  show Go p e s below _ _ _ T1 (mkF m 21 #[.val (.long w), .second, .val (.int (1 : Int32)), .val (.ref b1), .val (.int (0 : Int32))] [(.int (1 : Int32)), (.int (0 : Int32))])
  refine Go.st (fun _ kont => XS.icmpNo X1.here hx rfl (hb hby d3_21) rfl (tlt (by decide : (0 : Int32) < (1 : Int32))).2.1 kont) ?_
  show Go p e s below _ _ _ T1 (mkF m 24 #[.val (.long w), .second, .val (.int (1 : Int32)), .val (.ref b1), .val (.int (0 : Int32))] [])
  refine Go.st (fun _ kont => XS.aloadN X1.here hx rfl (hb hby d3_24) rfl rfl kont) ?_
  show Go p e s below _ _ _ T1 (mkF m 25 #[.val (.long w), .second, .val (.int (1 : Int32)), .val (.ref b1), .val (.int (0 : Int32))] [(.ref b1)])
  refine Go.st (fun _ kont => XS.iload X1.here hx rfl (hb hby d3_25) rfl kont) ?_
  show Go p e s below _ _ _ T1 (mkF m 27 #[.val (.long w), .second, .val (.int (1 : Int32)), .val (.ref b1), .val (.int (0 : Int32))] [(.int (0 : Int32)), (.ref b1)])
  refine Go.st (fun _ kont => XS.lloadN X1.here hx rfl (hb hby d3_27) rfl kont) ?_
  show Go p e s below _ _ _ T1 (mkF m 28 #[.val (.long w), .second, .val (.int (1 : Int32)), .val (.ref b1), .val (.int (0 : Int32))] [(.long w), (.int (0 : Int32)), (.ref b1)])
  refine Go.st (fun _ kont => XS.iload X1.here hx rfl (hb hby d3_28) rfl kont) ?_
  show Go p e s below _ _ _ T1 (mkF m 30 #[.val (.long w), .second, .val (.int (1 : Int32)), .val (.ref b1), .val (.int (0 : Int32))] [(.int (0 : Int32)), (.long w), (.int (0 : Int32)), (.ref b1)])
  refine Go.callS (W := 2) (argsL := [(.long w), (.int (0 : Int32))]) (rest := [(.int (0 : Int32)), (.ref b1)]) X1 hx hZ hown (y := (⟨"com/example/criba/criba/PagedWords", "pageLength", "(JI)I"⟩ : MethodName)) (hw _ (List.mem_of_getElem? (i := 18) rfl)) (hw _ (List.mem_of_getElem? (i := 19) rfl)) (hw _ (List.mem_of_getElem? (i := 5) rfl)) (hw _ (List.mem_of_getElem? (i := 20) rfl)) (rmL l Z a0 hw [] w (0 : Int32) ln0 0 h1 n0 (by rfl) (by decide) (by omega) (by omega) hn0) e1 (by decide) (by decide) (by decide) (by decide) (by decide) (by rw [hml]; rfl) (lenOf pd__JI_I rfl) (Nat.le_of_eq rfl) (hb hby d3_30) ?_
  intro T2 v2 L2 X2 hQ2
  obtain ⟨rfl, N2, E2⟩ := hQ2
  have M2 := Fr.app N0 N2
  show Go p e s below _ _ _ T2 (mkF m 33 #[.val (.long w), .second, .val (.int (1 : Int32)), .val (.ref b1), .val (.int (0 : Int32))] [(.int ln0), (.int (0 : Int32)), (.ref b1)])
  obtain ⟨T3, h3, k3, X3, e3, E3, A3, Y3, st3⟩ := newPE X2 hx hZ (hw _ (List.mem_of_getElem? (i := 26) rfl)) E2 (g := (mkF m 33 #[.val (.long w), .second, .val (.int (1 : Int32)), .val (.ref b1), .val (.int (0 : Int32))] [(.int ln0), (.int (0 : Int32)), (.ref b1)])) rfl (hb hby d3_33) rfl (own_cap hn0 (by omega)).1 (cap := 32768) (own_cap hn0 (by omega)).2 (by decide) (by decide) (by decide) (ad := "[J") (by decide)
  obtain ⟨b3, g3⟩ : ∃ z, z = h1.size := ⟨_, rfl⟩
  rw [← g3] at A3 Y3 st3
  have sz3 : h0.size ≤ b3 := Nat.le_trans Q_1.1 (Nat.le_of_eq g3.symm)
  have gn3 : n0 ≤ b3 := Nat.le_trans Z0 sz3
  refine Go.st st3 ?_
  have Q_3 : Ext h0 h3 := own_extE Q_1 E3
  have V_b1_3 := V_b1.ext E3
  have V_b3 : Arv Z h3 b3 k3 .long ln0 [] (.long (0 : Int64)) := (Arv.new A3 (own_cap hn0 (by omega)).1)
  show Go p e s below _ _ _ T3 (mkF m 35 #[.val (.long w), .second, .val (.int (1 : Int32)), .val (.ref b1), .val (.int (0 : Int32))] [(.ref b3), (.int (0 : Int32)), (.ref b1)])
  obtain ⟨cl4, Ar4, q4, S4, M4, H4, G4⟩ := (id V_b1_3)
  have in4 : ¬ ((0 : Int32) < 0 ∨ cl4.slots.size ≤ ((0 : Int32)).toNatClampNeg) := inb_of S4 ⟨by decide, by decide⟩
  obtain ⟨T4, h4, X4, e4, W4, st4⟩ := stR X3 hx hZ e3 Ar4 (j := (0 : Int32)) in4 rfl (Sto.ofVA Ar4 q4 O1 (Ins.self Y3)) (g := (mkF m 35 #[.val (.long w), .second, .val (.int (1 : Int32)), .val (.ref b1), .val (.int (0 : Int32))] [(.ref b3), (.int (0 : Int32)), (.ref b1)])) rfl rfl (hb hby d3_35)
  refine Go.st st4 ?_
  have V_b1_4 : Arv Z h4 b1 k1 (.array .long) (1 : Int32) [(.ref b3)] .null := Arv.set Ar4 q4 S4 M4 H4 G4 rfl W4 0 rfl (by simp)
  have Q_4 : Ext h0 h4 := own_extW Q_3 W4 sz1
  have V_b3_4 := V_b3.other W4 (Ne.symm (Nat.ne_of_lt (Nat.lt_of_lt_of_le V_b1.lt (Nat.le_of_eq g3.symm))))
  have E_b3_4 := Y3.wr W4
  have N4 := Fr.snoc X4 M2 gn1
  show Go p e s below _ _ _ T4 (mkF m 36 #[.val (.long w), .second, .val (.int (1 : Int32)), .val (.ref b1), .val (.int (0 : Int32))] [])
  refine Go.st (fun _ kont => XS.iinc X4.here hx rfl (hb hby d3_36) rfl (l' := #[.val (.long w), .second, .val (.int (1 : Int32)), .val (.ref b1), .val (.int ((0 : Int32) + (1 : Int32)))]) rfl kont) ?_
  show Go p e s below _ _ _ T4 (mkF m 39 #[.val (.long w), .second, .val (.int (1 : Int32)), .val (.ref b1), .val (.int ((0 : Int32) + (1 : Int32)))] [])
  refine Go.st (fun _ kont => XS.goto X4.here hx rfl (pc0 := 39) (pc' := 18) rfl (hb hby d3_39) (by decide) (by decide) kont) ?_
  show Go p e s below _ _ _ T4 (mkF m 18 #[.val (.long w), .second, .val (.int (1 : Int32)), .val (.ref b1), .val (.int ((0 : Int32) + (1 : Int32)))] [])
  show Go p e s below _ _ _ T4 (mkF m 18 #[.val (.long w), .second, .val (.int (1 : Int32)), .val (.ref b1), .val (.int (1 : Int32))] [])
  refine Go.st (fun _ kont => XS.iload X4.here hx rfl (hb hby d3_18) rfl kont) ?_
  show Go p e s below _ _ _ T4 (mkF m 20 #[.val (.long w), .second, .val (.int (1 : Int32)), .val (.ref b1), .val (.int (1 : Int32))] [(.int (1 : Int32))])
  refine Go.st (fun _ kont => XS.iloadN X4.here hx rfl (hb hby d3_20) rfl kont) ?_
  show Go p e s below _ _ _ T4 (mkF m 21 #[.val (.long w), .second, .val (.int (1 : Int32)), .val (.ref b1), .val (.int (1 : Int32))] [(.int (1 : Int32)), (.int (1 : Int32))])
  refine Go.st (fun _ kont => XS.icmpYes X4.here hx rfl (pc0 := 21) (pc' := 42) rfl (hb hby d3_21) rfl (flt (by decide : ¬ ((1 : Int32) < (1 : Int32)))).2.1 (by decide) (by decide) kont) ?_
  show Go p e s below _ _ _ T4 (mkF m 42 #[.val (.long w), .second, .val (.int (1 : Int32)), .val (.ref b1), .val (.int (1 : Int32))] [])
  refine Go.st (fun _ kont => XS.aloadN X4.here hx rfl (hb hby d3_42) rfl rfl kont) ?_
  show Go p e s below _ _ _ T4 (mkF m 43 #[.val (.long w), .second, .val (.int (1 : Int32)), .val (.ref b1), .val (.int (1 : Int32))] [(.ref b1)])
  exact Go.retA X4 hx hlk hret rfl rfl (hb hby d3_43) (by decide) (by decide) ⟨b1, k1, b3, rfl, N4, (by rw [e4]; exact Q_4), (by rw [e4]; exact V_b1_4), sz1, (by rw [e4]; exact ⟨_, V_b3_4⟩), sz3, (Nat.ne_of_lt (Nat.lt_of_lt_of_le V_b1.lt (Nat.le_of_eq g3.symm)))⟩
theorem pd__J_J : parseMethodDescriptor "(J)J" = some ⟨[.long], some .long⟩ := by decide +kernel
theorem d6_0 : decode prog_30_method_2_code 0 = .ok (.aload_n 0, 1) := by decide +kernel
theorem d6_1 : decode prog_30_method_2_code 1 = .ok (.invokespecial 15, 3) := by decide +kernel
theorem d6_4 : decode prog_30_method_2_code 4 = .ok (.aload_n 0, 1) := by decide +kernel
theorem d6_5 : decode prog_30_method_2_code 5 = .ok (.lload_n 1, 1) := by decide +kernel
theorem d6_6 : decode prog_30_method_2_code 6 = .ok (.putfield 20, 3) := by decide +kernel
theorem d6_9 : decode prog_30_method_2_code 9 = .ok (.aload_n 0, 1) := by decide +kernel
theorem d6_10 : decode prog_30_method_2_code 10 = .ok (.lload_n 1, 1) := by decide +kernel
theorem d6_11 : decode prog_30_method_2_code 11 = .ok (.invokestatic 3, 3) := by decide +kernel
theorem d6_14 : decode prog_30_method_2_code 14 = .ok (.lconst 1, 1) := by decide +kernel
theorem d6_15 : decode prog_30_method_2_code 15 = .ok (.lsub, 1) := by decide +kernel
theorem d6_16 : decode prog_30_method_2_code 16 = .ok (.putfield 24, 3) := by decide +kernel
theorem d6_19 : decode prog_30_method_2_code 19 = .ok (.aload_n 0, 1) := by decide +kernel
theorem d6_20 : decode prog_30_method_2_code 20 = .ok (.aload_n 3, 1) := by decide +kernel
theorem d6_21 : decode prog_30_method_2_code 21 = .ok (.putfield 27, 3) := by decide +kernel
theorem d6_24 : decode prog_30_method_2_code 24 = .ok (.aload_n 0, 1) := by decide +kernel
theorem d6_25 : decode prog_30_method_2_code 25 = .ok (.aload_n 3, 1) := by decide +kernel
theorem d6_26 : decode prog_30_method_2_code 26 = .ok (.arraylength, 1) := by decide +kernel
theorem d6_27 : decode prog_30_method_2_code 27 = .ok (.iconst 1, 1) := by decide +kernel
theorem d6_28 : decode prog_30_method_2_code 28 = .ok (.if_icmp .ne 9, 3) := by decide +kernel
theorem d6_37 : decode prog_30_method_2_code 37 = .ok (.aconst_null, 1) := by decide +kernel
theorem d6_38 : decode prog_30_method_2_code 38 = .ok (.putfield 31, 3) := by decide +kernel
theorem d6_41 : decode prog_30_method_2_code 41 = .ok (.return_, 1) := by decide +kernel
theorem ef_J2 (m : MethodId) (x0 : Addr) (x1 : Int64) (x2 : Addr) : entryFrame m #[(.ref x0), (.long x1), (.ref x2)] 4 = mkF m 0 #[.val (.ref x0), .val (.long x1), .second, .val (.ref x2)] [] := by first | (simp [entryFrame, mkF, argsToLocals, Value.category]; done) | rfl
set_option maxRecDepth 65536 in
set_option maxHeartbeats 40000000 in
theorem rmJ2 (l : Launch) (Z : State) (a0 : Array Value) (hw : ∀ d ∈ tables_1, d.before a0 Z = true) (ws : List Jvm.Cond) (b : Addr) (x : Int64) (ps : Addr) (h0 : Heap) (n0 : Nat) (gb : n0 ≤ b) (E_b : Exa Z h0 b "com/example/criba/criba/PagedWords") (F_bits_b : Fld Z h0 b "com/example/criba/criba/PagedWords" "bits" "J" (.long (0 : Int64))) (F_lastWord_b : Fld Z h0 b "com/example/criba/criba/PagedWords" "lastWord" "J" (.long (0 : Int64))) (F_pages_b : Fld Z h0 b "com/example/criba/criba/PagedWords" "pages" "[[J" .null) (F_onlyPage_b : Fld Z h0 b "com/example/criba/criba/PagedWords" "onlyPage" "[J" .null) (kk : ClassId) (b0 b1 : Addr) (V_ps : Arv Z h0 ps kk (.array .long) 2 [.ref b0, .ref b1] .null) (hne : ps ≠ b) :
    Meets l Z (⟨"com/example/criba/criba/PagedWords", "<init>", "(J[[J)V"⟩ : MethodName) prog_30_method_2_code 4 none ({ frames := 1, cells := 0, slots := 0, locals := 14 } : Room) ws #[(.ref b), (.long x), (.ref ps)] h0 (fun v h L => v = none ∧ Fr n0 L ∧ Keep h0 h [b] ∧ Fld Z h b "com/example/criba/criba/PagedWords" "pages" "[[J" (.ref ps) ∧ Fld Z h b "com/example/criba/criba/PagedWords" "onlyPage" "[J" .null) := by
  refine Meets.of (plainFor_of_name (by first | (simp [plainName, overriddenIn]; done) | decide +kernel : plainName "com/example/criba/criba/PagedWords" = true)) ?_
  intro p e s m below meth c s₁ X0 hx hby hml hret hlk hnm hZ hown e0
  replace hown : s.vm.findClass "com/example/criba/criba/PagedWords" = some m.cls := hown
  have N0 := Fr.nil n0
  have K0 := Keep.refl h0 [b]
  refine Go.cast (ef_J2 m b x ps) ?_
  show Go p e s below _ _ _ s₁ (mkF m 0 #[.val (.ref b), .val (.long x), .second, .val (.ref ps)] [])
  refine Go.st (fun _ kont => XS.aloadN X0.here hx rfl (hb hby d6_0) rfl rfl kont) ?_
  show Go p e s below _ _ _ s₁ (mkF m 1 #[.val (.ref b), .val (.long x), .second, .val (.ref ps)] [(.ref b)])
  obtain ⟨T1, X1, e1, st1⟩ := initO X0 hx hZ hown (hw _ (List.mem_of_getElem? (i := 31) rfl)) (hw _ (List.mem_of_getElem? (i := 32) rfl)) (hw _ (List.mem_of_getElem? (i := 33) rfl)) e0 (g := (mkF m 1 #[.val (.ref b), .val (.long x), .second, .val (.ref ps)] [(.ref b)])) rfl (by rw [hml]; rfl) rfl (hb hby d6_1) (by decide) (W := 0) (by show 2 * 0 + _ ≤ _; exact Nat.le_of_eq rfl) (by decide)
  refine Go.st st1 ?_
  show Go p e s below _ _ _ T1 (mkF m 4 #[.val (.ref b), .val (.long x), .second, .val (.ref ps)] [])
  refine Go.st (fun _ kont => XS.aloadN X1.here hx rfl (hb hby d6_4) rfl rfl kont) ?_
  show Go p e s below _ _ _ T1 (mkF m 5 #[.val (.ref b), .val (.long x), .second, .val (.ref ps)] [(.ref b)])
  refine Go.st (fun _ kont => XS.lloadN X1.here hx rfl (hb hby d6_5) rfl kont) ?_
  show Go p e s below _ _ _ T1 (mkF m 6 #[.val (.ref b), .val (.long x), .second, .val (.ref ps)] [(.long x), (.ref b)])
  obtain ⟨T2, h2, X2, e2, W2, st2⟩ := putF X1 hx hZ hown (host := "") (Or.inl (hw _ (List.mem_of_getElem? (i := 34) rfl))) Via.refl e1 F_bits_b E_b (Or.inr ⟨(hw _ (List.mem_of_getElem? (i := 35) rfl)), rfl, hnm⟩) (hw _ (List.mem_of_getElem? (i := 4) rfl)) (ty := .long) (by decide) rfl rfl (g := (mkF m 6 #[.val (.ref b), .val (.long x), .second, .val (.ref ps)] [(.long x), (.ref b)])) rfl rfl (hb hby d6_6)
  refine Go.st st2 ?_
  have F_bits_b_2 : Fld Z h2 b "com/example/criba/criba/PagedWords" "bits" "J" (.long x) := F_bits_b.same W2
  have K_2 : Keep h0 h2 [b] := K0.wr W2 (Or.inl (List.mem_singleton.mpr rfl))
  have E_b_2 := E_b.wr W2
  have F_lastWord_b_2 := F_lastWord_b.other W2 (Or.inr (slot_ne (Or.inr (hw _ (List.mem_of_getElem? (i := 37) rfl))) (Or.inr (hw _ (List.mem_of_getElem? (i := 35) rfl))) (by decide) (t := .long) (t' := .long) (by decide) (by decide)))
  have F_pages_b_2 := F_pages_b.other W2 (Or.inr (slot_ne (Or.inr (hw _ (List.mem_of_getElem? (i := 39) rfl))) (Or.inr (hw _ (List.mem_of_getElem? (i := 35) rfl))) (by decide) (t := (.array (.array .long))) (t' := .long) (by decide) (by decide)))
  have F_onlyPage_b_2 := F_onlyPage_b.other W2 (Or.inr (slot_ne (Or.inr (hw _ (List.mem_of_getElem? (i := 41) rfl))) (Or.inr (hw _ (List.mem_of_getElem? (i := 35) rfl))) (by decide) (t := (.array .long)) (t' := .long) (by decide) (by decide)))
  have V_ps_2 := V_ps.other W2 hne
  have N2 := Fr.snoc X2 N0 gb
  show Go p e s below _ _ _ T2 (mkF m 9 #[.val (.ref b), .val (.long x), .second, .val (.ref ps)] [])
  refine Go.st (fun _ kont => XS.aloadN X2.here hx rfl (hb hby d6_9) rfl rfl kont) ?_
  show Go p e s below _ _ _ T2 (mkF m 10 #[.val (.ref b), .val (.long x), .second, .val (.ref ps)] [(.ref b)])
  refine Go.st (fun _ kont => XS.lloadN X2.here hx rfl (hb hby d6_10) rfl kont) ?_
  show Go p e s below _ _ _ T2 (mkF m 11 #[.val (.ref b), .val (.long x), .second, .val (.ref ps)] [(.long x), (.ref b)])
  refine Go.callS (W := 1) (argsL := [(.long x)]) (rest := [(.ref b)]) X2 hx hZ hown (y := (⟨"com/example/criba/criba/PagedWords", "words", "(J)J"⟩ : MethodName)) (hw _ (List.mem_of_getElem? (i := 9) rfl)) (hw _ (List.mem_of_getElem? (i := 10) rfl)) (hw _ (List.mem_of_getElem? (i := 5) rfl)) (hw _ (List.mem_of_getElem? (i := 11) rfl)) (rmW l Z a0 hw [] x h2 n0) e2 (by decide) (by decide) (by decide) (by decide) (by decide) (by rw [hml]; rfl) (lenOf pd__J_J rfl) (Nat.le_of_eq rfl) (hb hby d6_11) ?_
  intro T3 v3 L3 X3 hQ3
  obtain ⟨rfl, N3, E3⟩ := hQ3
  have M3 := Fr.app N2 N3
  show Go p e s below _ _ _ T3 (mkF m 14 #[.val (.ref b), .val (.long x), .second, .val (.ref ps)] [(.long (((x + (63 : Int64)).toUInt64 >>> ((6 : Int32) &&& 0x3f).toInt64.toUInt64).toInt64)), (.ref b)])
  refine Go.st (fun _ kont => XT.lconstV X3.here hx rfl (1 : Int64) (hb hby d6_14) (by decide) kont) ?_
  show Go p e s below _ _ _ T3 (mkF m 15 #[.val (.ref b), .val (.long x), .second, .val (.ref ps)] [(.long (1 : Int64)), (.long (((x + (63 : Int64)).toUInt64 >>> ((6 : Int32) &&& 0x3f).toInt64.toUInt64).toInt64)), (.ref b)])
  refine Go.st (fun _ kont => XS.lsub X3.here hx rfl (hb hby d6_15) rfl kont) ?_
  show Go p e s below _ _ _ T3 (mkF m 16 #[.val (.ref b), .val (.long x), .second, .val (.ref ps)] [(.long ((((x + (63 : Int64)).toUInt64 >>> ((6 : Int32) &&& 0x3f).toInt64.toUInt64).toInt64) - (1 : Int64))), (.ref b)])
  obtain ⟨T4, h4, X4, e4, W4, st4⟩ := putF X3 hx hZ hown (host := "") (Or.inl (hw _ (List.mem_of_getElem? (i := 36) rfl))) Via.refl E3 F_lastWord_b_2 E_b_2 (Or.inr ⟨(hw _ (List.mem_of_getElem? (i := 37) rfl)), rfl, hnm⟩) (hw _ (List.mem_of_getElem? (i := 4) rfl)) (ty := .long) (by decide) rfl rfl (g := (mkF m 16 #[.val (.ref b), .val (.long x), .second, .val (.ref ps)] [(.long ((((x + (63 : Int64)).toUInt64 >>> ((6 : Int32) &&& 0x3f).toInt64.toUInt64).toInt64) - (1 : Int64))), (.ref b)])) rfl rfl (hb hby d6_16)
  refine Go.st st4 ?_
  have F_lastWord_b_4 : Fld Z h4 b "com/example/criba/criba/PagedWords" "lastWord" "J" (.long ((((x + (63 : Int64)).toUInt64 >>> ((6 : Int32) &&& 0x3f).toInt64.toUInt64).toInt64) - (1 : Int64))) := F_lastWord_b_2.same W4
  have K_4 : Keep h0 h4 [b] := K_2.wr W4 (Or.inl (List.mem_singleton.mpr rfl))
  have E_b_4 := E_b_2.wr W4
  have F_bits_b_4 := F_bits_b_2.other W4 (Or.inr (slot_ne (Or.inr (hw _ (List.mem_of_getElem? (i := 35) rfl))) (Or.inr (hw _ (List.mem_of_getElem? (i := 37) rfl))) (by decide) (t := .long) (t' := .long) (by decide) (by decide)))
  have F_pages_b_4 := F_pages_b_2.other W4 (Or.inr (slot_ne (Or.inr (hw _ (List.mem_of_getElem? (i := 39) rfl))) (Or.inr (hw _ (List.mem_of_getElem? (i := 37) rfl))) (by decide) (t := (.array (.array .long))) (t' := .long) (by decide) (by decide)))
  have F_onlyPage_b_4 := F_onlyPage_b_2.other W4 (Or.inr (slot_ne (Or.inr (hw _ (List.mem_of_getElem? (i := 41) rfl))) (Or.inr (hw _ (List.mem_of_getElem? (i := 37) rfl))) (by decide) (t := (.array .long)) (t' := .long) (by decide) (by decide)))
  have V_ps_4 := V_ps_2.other W4 hne
  have N4 := Fr.snoc X4 M3 gb
  show Go p e s below _ _ _ T4 (mkF m 19 #[.val (.ref b), .val (.long x), .second, .val (.ref ps)] [])
  refine Go.st (fun _ kont => XS.aloadN X4.here hx rfl (hb hby d6_19) rfl rfl kont) ?_
  show Go p e s below _ _ _ T4 (mkF m 20 #[.val (.ref b), .val (.long x), .second, .val (.ref ps)] [(.ref b)])
  refine Go.st (fun _ kont => XS.aloadN X4.here hx rfl (hb hby d6_20) rfl rfl kont) ?_
  show Go p e s below _ _ _ T4 (mkF m 21 #[.val (.ref b), .val (.long x), .second, .val (.ref ps)] [(.ref ps), (.ref b)])
  obtain ⟨T5, h5, X5, e5, W5, st5⟩ := putF X4 hx hZ hown (host := "") (Or.inl (hw _ (List.mem_of_getElem? (i := 38) rfl))) Via.refl e4 F_pages_b_4 E_b_4 (Or.inr ⟨(hw _ (List.mem_of_getElem? (i := 39) rfl)), rfl, hnm⟩) (hw _ (List.mem_of_getElem? (i := 4) rfl)) (ty := (.array (.array .long))) (by decide) rfl rfl (g := (mkF m 21 #[.val (.ref b), .val (.long x), .second, .val (.ref ps)] [(.ref ps), (.ref b)])) rfl rfl (hb hby d6_21)
  refine Go.st st5 ?_
  have F_pages_b_5 : Fld Z h5 b "com/example/criba/criba/PagedWords" "pages" "[[J" (.ref ps) := F_pages_b_4.same W5
  have K_5 : Keep h0 h5 [b] := K_4.wr W5 (Or.inl (List.mem_singleton.mpr rfl))
  have E_b_5 := E_b_4.wr W5
  have F_bits_b_5 := F_bits_b_4.other W5 (Or.inr (slot_ne (Or.inr (hw _ (List.mem_of_getElem? (i := 35) rfl))) (Or.inr (hw _ (List.mem_of_getElem? (i := 39) rfl))) (by decide) (t := .long) (t' := (.array (.array .long))) (by decide) (by decide)))
  have F_lastWord_b_5 := F_lastWord_b_4.other W5 (Or.inr (slot_ne (Or.inr (hw _ (List.mem_of_getElem? (i := 37) rfl))) (Or.inr (hw _ (List.mem_of_getElem? (i := 39) rfl))) (by decide) (t := .long) (t' := (.array (.array .long))) (by decide) (by decide)))
  have F_onlyPage_b_5 := F_onlyPage_b_4.other W5 (Or.inr (slot_ne (Or.inr (hw _ (List.mem_of_getElem? (i := 41) rfl))) (Or.inr (hw _ (List.mem_of_getElem? (i := 39) rfl))) (by decide) (t := (.array .long)) (t' := (.array (.array .long))) (by decide) (by decide)))
  have V_ps_5 := V_ps_4.other W5 hne
  have N5 := Fr.snoc X5 N4 gb
  show Go p e s below _ _ _ T5 (mkF m 24 #[.val (.ref b), .val (.long x), .second, .val (.ref ps)] [])
  refine Go.st (fun _ kont => XS.aloadN X5.here hx rfl (hb hby d6_24) rfl rfl kont) ?_
  show Go p e s below _ _ _ T5 (mkF m 25 #[.val (.ref b), .val (.long x), .second, .val (.ref ps)] [(.ref b)])
  refine Go.st (fun _ kont => XS.aloadN X5.here hx rfl (hb hby d6_25) rfl rfl kont) ?_
  show Go p e s below _ _ _ T5 (mkF m 26 #[.val (.ref b), .val (.long x), .second, .val (.ref ps)] [(.ref ps), (.ref b)])
  obtain ⟨cl6, Ar6, q6, S6, M6, H6, G6⟩ := (id V_ps_5)
  refine Go.st (X5.arraylength hx (by rw [e5]; exact Ar6.1) (State.isArrayOf_alike hZ.alike Ar6.2.1) (g := (mkF m 26 #[.val (.ref b), .val (.long x), .second, .val (.ref ps)] [(.ref ps), (.ref b)])) rfl rfl (hb hby d6_26)) ?_
  rw [len_of S6 M6]
  show Go p e s below _ _ _ T5 (mkF m 27 #[.val (.ref b), .val (.long x), .second, .val (.ref ps)] [(.int (2 : Int32)), (.ref b)])
  refine Go.st (fun _ kont => XT.iconstV X5.here hx rfl (1 : Int32) (hb hby d6_27) (by decide) kont) ?_
  show Go p e s below _ _ _ T5 (mkF m 28 #[.val (.ref b), .val (.long x), .second, .val (.ref ps)] [(.int (1 : Int32)), (.int (2 : Int32)), (.ref b)])
  refine Go.st (fun _ kont => XS.icmpYes X5.here hx rfl (pc0 := 28) (pc' := 37) rfl (hb hby d6_28) rfl (feq (by decide : ¬ ((2 : Int32) = (1 : Int32)))).2 (by decide) (by decide) kont) ?_
  show Go p e s below _ _ _ T5 (mkF m 37 #[.val (.ref b), .val (.long x), .second, .val (.ref ps)] [(.ref b)])
  refine Go.st (fun _ kont => XS.aconstNull X5.here hx rfl (hb hby d6_37) kont) ?_
  show Go p e s below _ _ _ T5 (mkF m 38 #[.val (.ref b), .val (.long x), .second, .val (.ref ps)] [.null, (.ref b)])
  obtain ⟨T7, h7, X7, e7, W7, st7⟩ := putF X5 hx hZ hown (host := "") (Or.inl (hw _ (List.mem_of_getElem? (i := 40) rfl))) Via.refl e5 F_onlyPage_b_5 E_b_5 (Or.inr ⟨(hw _ (List.mem_of_getElem? (i := 41) rfl)), rfl, hnm⟩) (hw _ (List.mem_of_getElem? (i := 4) rfl)) (ty := (.array .long)) (by decide) rfl rfl (g := (mkF m 38 #[.val (.ref b), .val (.long x), .second, .val (.ref ps)] [.null, (.ref b)])) rfl rfl (hb hby d6_38)
  refine Go.st st7 ?_
  have F_onlyPage_b_7 : Fld Z h7 b "com/example/criba/criba/PagedWords" "onlyPage" "[J" .null := F_onlyPage_b_5.same W7
  have K_7 : Keep h0 h7 [b] := K_5.wr W7 (Or.inl (List.mem_singleton.mpr rfl))
  have E_b_7 := E_b_5.wr W7
  have F_bits_b_7 := F_bits_b_5.other W7 (Or.inr (slot_ne (Or.inr (hw _ (List.mem_of_getElem? (i := 35) rfl))) (Or.inr (hw _ (List.mem_of_getElem? (i := 41) rfl))) (by decide) (t := .long) (t' := (.array .long)) (by decide) (by decide)))
  have F_lastWord_b_7 := F_lastWord_b_5.other W7 (Or.inr (slot_ne (Or.inr (hw _ (List.mem_of_getElem? (i := 37) rfl))) (Or.inr (hw _ (List.mem_of_getElem? (i := 41) rfl))) (by decide) (t := .long) (t' := (.array .long)) (by decide) (by decide)))
  have F_pages_b_7 := F_pages_b_5.other W7 (Or.inr (slot_ne (Or.inr (hw _ (List.mem_of_getElem? (i := 39) rfl))) (Or.inr (hw _ (List.mem_of_getElem? (i := 41) rfl))) (by decide) (t := (.array (.array .long))) (t' := (.array .long)) (by decide) (by decide)))
  have V_ps_7 := V_ps_5.other W7 hne
  have N7 := Fr.snoc X7 N5 gb
  show Go p e s below _ _ _ T7 (mkF m 41 #[.val (.ref b), .val (.long x), .second, .val (.ref ps)] [])
  exact Go.retV X7 hx hlk hret (hb hby d6_41) (by decide) (by decide) ⟨rfl, N7, (by rw [e7]; exact K_7), (by rw [e7]; exact F_pages_b_7), (by rw [e7]; exact F_onlyPage_b_7)⟩
theorem pd__J___J : parseMethodDescriptor "(J)[[J" = some ⟨[.long], some (.array (.array .long))⟩ := by decide +kernel
theorem pd__J__J_V : parseMethodDescriptor "(J[[J)V" = some ⟨[.long, (.array (.array .long))], none⟩ := by decide +kernel
theorem d1_0 : decode prog_30_method_1_code 0 = .ok (.aload_n 0, 1) := by decide +kernel
theorem d1_1 : decode prog_30_method_1_code 1 = .ok (.lload_n 1, 1) := by decide +kernel
theorem d1_2 : decode prog_30_method_1_code 2 = .ok (.lload_n 1, 1) := by decide +kernel
theorem d1_3 : decode prog_30_method_1_code 3 = .ok (.invokestatic 3, 3) := by decide +kernel
theorem d1_6 : decode prog_30_method_1_code 6 = .ok (.invokestatic 7, 3) := by decide +kernel
theorem d1_9 : decode prog_30_method_1_code 9 = .ok (.invokespecial 11, 3) := by decide +kernel
theorem d1_12 : decode prog_30_method_1_code 12 = .ok (.return_, 1) := by decide +kernel
theorem ef_I2 (m : MethodId) (x0 : Addr) (x1 : Int64) : entryFrame m #[(.ref x0), (.long x1)] 3 = mkF m 0 #[.val (.ref x0), .val (.long x1), .second] [] := by first | (simp [entryFrame, mkF, argsToLocals, Value.category]; done) | rfl
set_option maxRecDepth 65536 in
set_option maxHeartbeats 40000000 in
theorem rmI2 (l : Launch) (Z : State) (a0 : Array Value) (hw : ∀ d ∈ tables_1, d.before a0 Z = true) (ws : List Jvm.Cond) (b : Addr) (x w : Int64) (ln0 ln1 : Int32) (h0 : Heap) (n0 : Nat) (Z0 : n0 ≤ h0.size) (gb : n0 ≤ b) (E_b : Exa Z h0 b "com/example/criba/criba/PagedWords") (F_bits_b : Fld Z h0 b "com/example/criba/criba/PagedWords" "bits" "J" (.long (0 : Int64))) (F_lastWord_b : Fld Z h0 b "com/example/criba/criba/PagedWords" "lastWord" "J" (.long (0 : Int64))) (F_pages_b : Fld Z h0 b "com/example/criba/criba/PagedWords" "pages" "[[J" .null) (F_onlyPage_b : Fld Z h0 b "com/example/criba/criba/PagedWords" "onlyPage" "[J" .null) (hwx : w = (((x + (63 : Int64)).toUInt64 >>> ((6 : Int32) &&& 0x3f).toInt64.toUInt64).toInt64)) (hw1 : 32768 < w.toInt) (hw2 : w.toInt ≤ 65536) (hn0 : ln0.toInt = pgl w.toInt 0) (hn1 : ln1.toInt = pgl w.toInt 1) :
    Meets l Z (⟨"com/example/criba/criba/PagedWords", "<init>", "(J)V"⟩ : MethodName) prog_30_method_1_code 3 none ({ frames := 3, cells := 3, slots := 65538, locals := 52 } : Room) ws #[(.ref b), (.long x)] h0 (fun v h L => ∃ (ps : Addr) (P : Nat) (pg : Nat → Addr), v = none ∧ Fr n0 L ∧ Keep h0 h [b] ∧ w.toInt ≤ (P : Int) * 32768 ∧ PW Z h b ps w.toInt P pg (fun _ => (0 : Int64)) ∧ ∀ q : Nat, q < P → h0.size ≤ pg q) := by
  refine Meets.of (plainFor_of_name (by first | (simp [plainName, overriddenIn]; done) | decide +kernel : plainName "com/example/criba/criba/PagedWords" = true)) ?_
  intro p e s m below meth c s₁ X0 hx hby hml hret hlk hnm hZ hown e0
  replace hown : s.vm.findClass "com/example/criba/criba/PagedWords" = some m.cls := hown
  have N0 := Fr.nil n0
  have Q0 := own_extR h0
  refine Go.cast (ef_I2 m b x) ?_
  show Go p e s below _ _ _ s₁ (mkF m 0 #[.val (.ref b), .val (.long x), .second] [])
  refine Go.st (fun _ kont => XS.aloadN X0.here hx rfl (hb hby d1_0) rfl rfl kont) ?_
  show Go p e s below _ _ _ s₁ (mkF m 1 #[.val (.ref b), .val (.long x), .second] [(.ref b)])
  refine Go.st (fun _ kont => XS.lloadN X0.here hx rfl (hb hby d1_1) rfl kont) ?_
  show Go p e s below _ _ _ s₁ (mkF m 2 #[.val (.ref b), .val (.long x), .second] [(.long x), (.ref b)])
  refine Go.st (fun _ kont => XS.lloadN X0.here hx rfl (hb hby d1_2) rfl kont) ?_
  show Go p e s below _ _ _ s₁ (mkF m 3 #[.val (.ref b), .val (.long x), .second] [(.long x), (.long x), (.ref b)])
  refine Go.callS (W := 3) (argsL := [(.long x)]) (rest := [(.long x), (.ref b)]) X0 hx hZ hown (y := (⟨"com/example/criba/criba/PagedWords", "words", "(J)J"⟩ : MethodName)) (hw _ (List.mem_of_getElem? (i := 9) rfl)) (hw _ (List.mem_of_getElem? (i := 10) rfl)) (hw _ (List.mem_of_getElem? (i := 5) rfl)) (hw _ (List.mem_of_getElem? (i := 11) rfl)) (rmW l Z a0 hw [] x h0 n0) e0 (by decide) (by decide) (by decide) (by decide) (by decide) (by rw [hml]; rfl) (lenOf pd__J_J rfl) (Nat.le_of_eq rfl) (hb hby d1_3) ?_
  intro T1 v1 L1 X1 hQ1
  obtain ⟨rfl, N1, E1⟩ := hQ1
  have M1 := Fr.app N0 N1
  show Go p e s below _ _ _ T1 (mkF m 6 #[.val (.ref b), .val (.long x), .second] [(.long (((x + (63 : Int64)).toUInt64 >>> ((6 : Int32) &&& 0x3f).toInt64.toUInt64).toInt64)), (.long x), (.ref b)])
  rw [← hwx]
  show Go p e s below _ _ _ T1 (mkF m 6 #[.val (.ref b), .val (.long x), .second] [(.long w), (.long x), (.ref b)])
  refine Go.callS (W := 3) (argsL := [(.long w)]) (rest := [(.long x), (.ref b)]) X1 hx hZ hown (y := (⟨"com/example/criba/criba/PagedWords", "emptyPages", "(J)[[J"⟩ : MethodName)) (hw _ (List.mem_of_getElem? (i := 13) rfl)) (hw _ (List.mem_of_getElem? (i := 14) rfl)) (hw _ (List.mem_of_getElem? (i := 5) rfl)) (hw _ (List.mem_of_getElem? (i := 15) rfl)) (rmE2 l Z a0 hw [] w ln0 ln1 h0 n0 Z0 hw1 hw2 hn0 hn1) E1 (by decide) (by decide) (by decide) (by decide) (by decide) (by rw [hml]; rfl) (lenOf pd__J___J rfl) (Nat.le_of_eq rfl) (hb hby d1_6) ?_
  intro T2 v2 L2 X2 hQ2
  obtain ⟨h2, e2⟩ : ∃ z, T2.heap = z := ⟨_, rfl⟩
  rw [e2] at hQ2
  obtain ⟨ps, kk, c2_0, c2_1, rfl, N2, E2, VP, sP, ⟨k2_0, V2_0⟩, s2_0, e2_0, ⟨k2_1, V2_1⟩, s2_1, e2_1, d2_1_0⟩ := hQ2
  have M2 := Fr.app M1 N2
  have Q_2 : Ext h0 h2 := own_extE Q0 E2
  have E_b_2 := E_b.ext E2
  have F_bits_b_2 := F_bits_b.ext E2
  have F_lastWord_b_2 := F_lastWord_b.ext E2
  have F_pages_b_2 := F_pages_b.ext E2
  have F_onlyPage_b_2 := F_onlyPage_b.ext E2
  show Go p e s below _ _ _ T2 (mkF m 9 #[.val (.ref b), .val (.long x), .second] [(.ref ps), (.long x), (.ref b)])
  have hpb : ps ≠ b := Ne.symm (Nat.ne_of_lt (Nat.lt_of_lt_of_le E_b.lt sP))
  refine Go.callC (b := b) (W := 0) (argsL := [(.long x), (.ref ps)]) (rest := []) X2 hx hZ (y := (⟨"com/example/criba/criba/PagedWords", "<init>", "(J[[J)V"⟩ : MethodName)) rfl hown (hw _ (List.mem_of_getElem? (i := 28) rfl)) (hw _ (List.mem_of_getElem? (i := 29) rfl)) (hw _ (List.mem_of_getElem? (i := 5) rfl)) (hw _ (List.mem_of_getElem? (i := 30) rfl)) (rmJ2 l Z a0 hw [] b x ps h2 n0 gb E_b_2 F_bits_b_2 F_lastWord_b_2 F_pages_b_2 F_onlyPage_b_2 kk c2_0 c2_1 VP hpb) e2 (by decide) (by decide) (by decide) (by decide) (by decide) (by rw [hml]; rfl) (lenOf pd__J__J_V rfl) (Nat.le_of_eq rfl) (hb hby d1_9) ?_
  intro T3 v3 L3 X3 hQ3
  obtain ⟨h3, e3⟩ : ∃ z, T3.heap = z := ⟨_, rfl⟩
  rw [e3] at hQ3
  obtain ⟨rfl, N3, K3, FP3, FO3⟩ := hQ3
  have M3 := Fr.app M2 N3
  show Go p e s below _ _ _ T3 (mkF m 12 #[.val (.ref b), .val (.long x), .second] [])
  obtain ⟨cP, AP, -, SP, MP, HP, -⟩ := VP
  have kA : ∀ {a : Addr} {cc : Cell} {ty : FieldType}, Arr Z h2 a cc ty → a ≠ b → Arr Z h3 a cc ty := fun A q => ⟨K3.2.1 _ _ A.1 (ninS q nin0), A.2⟩
  have lb : b < h0.size := E_b.lt
  have nb0 : c2_0 ≠ b := Ne.symm (Nat.ne_of_lt (Nat.lt_of_lt_of_le lb s2_0))
  have nb1 : c2_1 ≠ b := Ne.symm (Nat.ne_of_lt (Nat.lt_of_lt_of_le lb s2_1))
  have hPW : PW Z h3 b ps w.toInt 2 (fun q => [c2_0, c2_1].getD q 0) (fun _ => (0 : Int64)) := by
    refine ⟨E_b_2.keep K3, FO3, FP3, ⟨cP, kA AP hpb, fun q hq => ?_⟩, fun q hq => ?_, fun q q' hq hq' e => ?_, fun q hq => ?_⟩
    · have := HP q (by rw [SP]; exact hq)
      rw [this]
      match q, hq with
      | 0, _ => rfl
      | 1, _ => rfl
      | kz + 2, hq => exact absurd hq (by omega)
    · match q, hq with
      | 0, _ => obtain ⟨cc, A, H⟩ := own_page (w := w.toInt) (q := 0) V2_0 hn0; exact ⟨cc, kA A nb0, H⟩
      | 1, _ => obtain ⟨cc, A, H⟩ := own_page (w := w.toInt) (q := 1) V2_1 hn1; exact ⟨cc, kA A nb1, H⟩
      | kz + 2, hq => exact absurd hq (by omega)
    · match q, q', hq, hq', e with
      | 0, 0, _, _, e => rfl
      | 0, 1, _, _, e => exact absurd e (Ne.symm d2_1_0)
      | 1, 0, _, _, e => exact absurd e d2_1_0
      | 1, 1, _, _, e => rfl
      | kz + 2, _, hq, _, _ => exact absurd hq (by omega)
      | _, kz + 2, _, hq, _ => exact absurd hq (by omega)
    · match q, hq with
      | 0, _ => exact ⟨Ne.symm nb0, e2_0⟩
      | 1, _ => exact ⟨Ne.symm nb1, e2_1⟩
      | kz + 2, hq => exact absurd hq (by omega)
  have hge : ∀ q : Nat, q < 2 → h0.size ≤ (fun q => [c2_0, c2_1].getD q 0) q := fun q hq => by
    match q, hq with
    | 0, _ => exact s2_0
    | 1, _ => exact s2_1
    | kz + 2, hq => exact absurd hq (by omega)
  exact Go.retV X3 hx hlk hret (hb hby d1_12) (by decide) (by decide) ⟨ps, 2, _, rfl, M3, (by rw [e3]; exact (Keep.refl h0 [b]).ext E2 |>.trans K3 (allS (Or.inl (List.mem_singleton.mpr rfl)) all0)), by omega, (by rw [e3]; exact hPW), hge⟩
theorem d6_31 : decode prog_30_method_2_code 31 = .ok (.aload_n 3, 1) := by decide +kernel
theorem d6_32 : decode prog_30_method_2_code 32 = .ok (.iconst 0, 1) := by decide +kernel
theorem d6_33 : decode prog_30_method_2_code 33 = .ok (.aaload, 1) := by decide +kernel
theorem d6_34 : decode prog_30_method_2_code 34 = .ok (.goto 4, 3) := by decide +kernel
theorem ef_J1 (m : MethodId) (x0 : Addr) (x1 : Int64) (x2 : Addr) : entryFrame m #[(.ref x0), (.long x1), (.ref x2)] 4 = mkF m 0 #[.val (.ref x0), .val (.long x1), .second, .val (.ref x2)] [] := by first | (simp [entryFrame, mkF, argsToLocals, Value.category]; done) | rfl
set_option maxRecDepth 65536 in
set_option maxHeartbeats 40000000 in
theorem rmJ1 (l : Launch) (Z : State) (a0 : Array Value) (hw : ∀ d ∈ tables_1, d.before a0 Z = true) (ws : List Jvm.Cond) (b : Addr) (x : Int64) (ps : Addr) (h0 : Heap) (n0 : Nat) (gb : n0 ≤ b) (E_b : Exa Z h0 b "com/example/criba/criba/PagedWords") (F_bits_b : Fld Z h0 b "com/example/criba/criba/PagedWords" "bits" "J" (.long (0 : Int64))) (F_lastWord_b : Fld Z h0 b "com/example/criba/criba/PagedWords" "lastWord" "J" (.long (0 : Int64))) (F_pages_b : Fld Z h0 b "com/example/criba/criba/PagedWords" "pages" "[[J" .null) (F_onlyPage_b : Fld Z h0 b "com/example/criba/criba/PagedWords" "onlyPage" "[J" .null) (kk : ClassId) (b0 : Addr) (V_ps : Arv Z h0 ps kk (.array .long) 1 [.ref b0] .null) (hne : ps ≠ b) :
    Meets l Z (⟨"com/example/criba/criba/PagedWords", "<init>", "(J[[J)V"⟩ : MethodName) prog_30_method_2_code 4 none ({ frames := 1, cells := 0, slots := 0, locals := 14 } : Room) ws #[(.ref b), (.long x), (.ref ps)] h0 (fun v h L => v = none ∧ Fr n0 L ∧ Keep h0 h [b] ∧ Fld Z h b "com/example/criba/criba/PagedWords" "pages" "[[J" (.ref ps) ∧ Fld Z h b "com/example/criba/criba/PagedWords" "onlyPage" "[J" (.ref b0)) := by
  refine Meets.of (plainFor_of_name (by first | (simp [plainName, overriddenIn]; done) | decide +kernel : plainName "com/example/criba/criba/PagedWords" = true)) ?_
  intro p e s m below meth c s₁ X0 hx hby hml hret hlk hnm hZ hown e0
  replace hown : s.vm.findClass "com/example/criba/criba/PagedWords" = some m.cls := hown
  have N0 := Fr.nil n0
  have K0 := Keep.refl h0 [b]
  refine Go.cast (ef_J1 m b x ps) ?_
  show Go p e s below _ _ _ s₁ (mkF m 0 #[.val (.ref b), .val (.long x), .second, .val (.ref ps)] [])
  refine Go.st (fun _ kont => XS.aloadN X0.here hx rfl (hb hby d6_0) rfl rfl kont) ?_
  show Go p e s below _ _ _ s₁ (mkF m 1 #[.val (.ref b), .val (.long x), .second, .val (.ref ps)] [(.ref b)])
  obtain ⟨T1, X1, e1, st1⟩ := initO X0 hx hZ hown (hw _ (List.mem_of_getElem? (i := 31) rfl)) (hw _ (List.mem_of_getElem? (i := 32) rfl)) (hw _ (List.mem_of_getElem? (i := 33) rfl)) e0 (g := (mkF m 1 #[.val (.ref b), .val (.long x), .second, .val (.ref ps)] [(.ref b)])) rfl (by rw [hml]; rfl) rfl (hb hby d6_1) (by decide) (W := 0) (by show 2 * 0 + _ ≤ _; exact Nat.le_of_eq rfl) (by decide)
  refine Go.st st1 ?_
  show Go p e s below _ _ _ T1 (mkF m 4 #[.val (.ref b), .val (.long x), .second, .val (.ref ps)] [])
  refine Go.st (fun _ kont => XS.aloadN X1.here hx rfl (hb hby d6_4) rfl rfl kont) ?_
  show Go p e s below _ _ _ T1 (mkF m 5 #[.val (.ref b), .val (.long x), .second, .val (.ref ps)] [(.ref b)])
  refine Go.st (fun _ kont => XS.lloadN X1.here hx rfl (hb hby d6_5) rfl kont) ?_
  show Go p e s below _ _ _ T1 (mkF m 6 #[.val (.ref b), .val (.long x), .second, .val (.ref ps)] [(.long x), (.ref b)])
  obtain ⟨T2, h2, X2, e2, W2, st2⟩ := putF X1 hx hZ hown (host := "") (Or.inl (hw _ (List.mem_of_getElem? (i := 34) rfl))) Via.refl e1 F_bits_b E_b (Or.inr ⟨(hw _ (List.mem_of_getElem? (i := 35) rfl)), rfl, hnm⟩) (hw _ (List.mem_of_getElem? (i := 4) rfl)) (ty := .long) (by decide) rfl rfl (g := (mkF m 6 #[.val (.ref b), .val (.long x), .second, .val (.ref ps)] [(.long x), (.ref b)])) rfl rfl (hb hby d6_6)
  refine Go.st st2 ?_
  have F_bits_b_2 : Fld Z h2 b "com/example/criba/criba/PagedWords" "bits" "J" (.long x) := F_bits_b.same W2
  have K_2 : Keep h0 h2 [b] := K0.wr W2 (Or.inl (List.mem_singleton.mpr rfl))
  have E_b_2 := E_b.wr W2
  have F_lastWord_b_2 := F_lastWord_b.other W2 (Or.inr (slot_ne (Or.inr (hw _ (List.mem_of_getElem? (i := 37) rfl))) (Or.inr (hw _ (List.mem_of_getElem? (i := 35) rfl))) (by decide) (t := .long) (t' := .long) (by decide) (by decide)))
  have F_pages_b_2 := F_pages_b.other W2 (Or.inr (slot_ne (Or.inr (hw _ (List.mem_of_getElem? (i := 39) rfl))) (Or.inr (hw _ (List.mem_of_getElem? (i := 35) rfl))) (by decide) (t := (.array (.array .long))) (t' := .long) (by decide) (by decide)))
  have F_onlyPage_b_2 := F_onlyPage_b.other W2 (Or.inr (slot_ne (Or.inr (hw _ (List.mem_of_getElem? (i := 41) rfl))) (Or.inr (hw _ (List.mem_of_getElem? (i := 35) rfl))) (by decide) (t := (.array .long)) (t' := .long) (by decide) (by decide)))
  have V_ps_2 := V_ps.other W2 hne
  have N2 := Fr.snoc X2 N0 gb
  show Go p e s below _ _ _ T2 (mkF m 9 #[.val (.ref b), .val (.long x), .second, .val (.ref ps)] [])
  refine Go.st (fun _ kont => XS.aloadN X2.here hx rfl (hb hby d6_9) rfl rfl kont) ?_
  show Go p e s below _ _ _ T2 (mkF m 10 #[.val (.ref b), .val (.long x), .second, .val (.ref ps)] [(.ref b)])
  refine Go.st (fun _ kont => XS.lloadN X2.here hx rfl (hb hby d6_10) rfl kont) ?_
  show Go p e s below _ _ _ T2 (mkF m 11 #[.val (.ref b), .val (.long x), .second, .val (.ref ps)] [(.long x), (.ref b)])
  refine Go.callS (W := 1) (argsL := [(.long x)]) (rest := [(.ref b)]) X2 hx hZ hown (y := (⟨"com/example/criba/criba/PagedWords", "words", "(J)J"⟩ : MethodName)) (hw _ (List.mem_of_getElem? (i := 9) rfl)) (hw _ (List.mem_of_getElem? (i := 10) rfl)) (hw _ (List.mem_of_getElem? (i := 5) rfl)) (hw _ (List.mem_of_getElem? (i := 11) rfl)) (rmW l Z a0 hw [] x h2 n0) e2 (by decide) (by decide) (by decide) (by decide) (by decide) (by rw [hml]; rfl) (lenOf pd__J_J rfl) (Nat.le_of_eq rfl) (hb hby d6_11) ?_
  intro T3 v3 L3 X3 hQ3
  obtain ⟨rfl, N3, E3⟩ := hQ3
  have M3 := Fr.app N2 N3
  show Go p e s below _ _ _ T3 (mkF m 14 #[.val (.ref b), .val (.long x), .second, .val (.ref ps)] [(.long (((x + (63 : Int64)).toUInt64 >>> ((6 : Int32) &&& 0x3f).toInt64.toUInt64).toInt64)), (.ref b)])
  refine Go.st (fun _ kont => XT.lconstV X3.here hx rfl (1 : Int64) (hb hby d6_14) (by decide) kont) ?_
  show Go p e s below _ _ _ T3 (mkF m 15 #[.val (.ref b), .val (.long x), .second, .val (.ref ps)] [(.long (1 : Int64)), (.long (((x + (63 : Int64)).toUInt64 >>> ((6 : Int32) &&& 0x3f).toInt64.toUInt64).toInt64)), (.ref b)])
  refine Go.st (fun _ kont => XS.lsub X3.here hx rfl (hb hby d6_15) rfl kont) ?_
  show Go p e s below _ _ _ T3 (mkF m 16 #[.val (.ref b), .val (.long x), .second, .val (.ref ps)] [(.long ((((x + (63 : Int64)).toUInt64 >>> ((6 : Int32) &&& 0x3f).toInt64.toUInt64).toInt64) - (1 : Int64))), (.ref b)])
  obtain ⟨T4, h4, X4, e4, W4, st4⟩ := putF X3 hx hZ hown (host := "") (Or.inl (hw _ (List.mem_of_getElem? (i := 36) rfl))) Via.refl E3 F_lastWord_b_2 E_b_2 (Or.inr ⟨(hw _ (List.mem_of_getElem? (i := 37) rfl)), rfl, hnm⟩) (hw _ (List.mem_of_getElem? (i := 4) rfl)) (ty := .long) (by decide) rfl rfl (g := (mkF m 16 #[.val (.ref b), .val (.long x), .second, .val (.ref ps)] [(.long ((((x + (63 : Int64)).toUInt64 >>> ((6 : Int32) &&& 0x3f).toInt64.toUInt64).toInt64) - (1 : Int64))), (.ref b)])) rfl rfl (hb hby d6_16)
  refine Go.st st4 ?_
  have F_lastWord_b_4 : Fld Z h4 b "com/example/criba/criba/PagedWords" "lastWord" "J" (.long ((((x + (63 : Int64)).toUInt64 >>> ((6 : Int32) &&& 0x3f).toInt64.toUInt64).toInt64) - (1 : Int64))) := F_lastWord_b_2.same W4
  have K_4 : Keep h0 h4 [b] := K_2.wr W4 (Or.inl (List.mem_singleton.mpr rfl))
  have E_b_4 := E_b_2.wr W4
  have F_bits_b_4 := F_bits_b_2.other W4 (Or.inr (slot_ne (Or.inr (hw _ (List.mem_of_getElem? (i := 35) rfl))) (Or.inr (hw _ (List.mem_of_getElem? (i := 37) rfl))) (by decide) (t := .long) (t' := .long) (by decide) (by decide)))
  have F_pages_b_4 := F_pages_b_2.other W4 (Or.inr (slot_ne (Or.inr (hw _ (List.mem_of_getElem? (i := 39) rfl))) (Or.inr (hw _ (List.mem_of_getElem? (i := 37) rfl))) (by decide) (t := (.array (.array .long))) (t' := .long) (by decide) (by decide)))
  have F_onlyPage_b_4 := F_onlyPage_b_2.other W4 (Or.inr (slot_ne (Or.inr (hw _ (List.mem_of_getElem? (i := 41) rfl))) (Or.inr (hw _ (List.mem_of_getElem? (i := 37) rfl))) (by decide) (t := (.array .long)) (t' := .long) (by decide) (by decide)))
  have V_ps_4 := V_ps_2.other W4 hne
  have N4 := Fr.snoc X4 M3 gb
  show Go p e s below _ _ _ T4 (mkF m 19 #[.val (.ref b), .val (.long x), .second, .val (.ref ps)] [])
  refine Go.st (fun _ kont => XS.aloadN X4.here hx rfl (hb hby d6_19) rfl rfl kont) ?_
  show Go p e s below _ _ _ T4 (mkF m 20 #[.val (.ref b), .val (.long x), .second, .val (.ref ps)] [(.ref b)])
  refine Go.st (fun _ kont => XS.aloadN X4.here hx rfl (hb hby d6_20) rfl rfl kont) ?_
  show Go p e s below _ _ _ T4 (mkF m 21 #[.val (.ref b), .val (.long x), .second, .val (.ref ps)] [(.ref ps), (.ref b)])
  obtain ⟨T5, h5, X5, e5, W5, st5⟩ := putF X4 hx hZ hown (host := "") (Or.inl (hw _ (List.mem_of_getElem? (i := 38) rfl))) Via.refl e4 F_pages_b_4 E_b_4 (Or.inr ⟨(hw _ (List.mem_of_getElem? (i := 39) rfl)), rfl, hnm⟩) (hw _ (List.mem_of_getElem? (i := 4) rfl)) (ty := (.array (.array .long))) (by decide) rfl rfl (g := (mkF m 21 #[.val (.ref b), .val (.long x), .second, .val (.ref ps)] [(.ref ps), (.ref b)])) rfl rfl (hb hby d6_21)
  refine Go.st st5 ?_
  have F_pages_b_5 : Fld Z h5 b "com/example/criba/criba/PagedWords" "pages" "[[J" (.ref ps) := F_pages_b_4.same W5
  have K_5 : Keep h0 h5 [b] := K_4.wr W5 (Or.inl (List.mem_singleton.mpr rfl))
  have E_b_5 := E_b_4.wr W5
  have F_bits_b_5 := F_bits_b_4.other W5 (Or.inr (slot_ne (Or.inr (hw _ (List.mem_of_getElem? (i := 35) rfl))) (Or.inr (hw _ (List.mem_of_getElem? (i := 39) rfl))) (by decide) (t := .long) (t' := (.array (.array .long))) (by decide) (by decide)))
  have F_lastWord_b_5 := F_lastWord_b_4.other W5 (Or.inr (slot_ne (Or.inr (hw _ (List.mem_of_getElem? (i := 37) rfl))) (Or.inr (hw _ (List.mem_of_getElem? (i := 39) rfl))) (by decide) (t := .long) (t' := (.array (.array .long))) (by decide) (by decide)))
  have F_onlyPage_b_5 := F_onlyPage_b_4.other W5 (Or.inr (slot_ne (Or.inr (hw _ (List.mem_of_getElem? (i := 41) rfl))) (Or.inr (hw _ (List.mem_of_getElem? (i := 39) rfl))) (by decide) (t := (.array .long)) (t' := (.array (.array .long))) (by decide) (by decide)))
  have V_ps_5 := V_ps_4.other W5 hne
  have N5 := Fr.snoc X5 N4 gb
  show Go p e s below _ _ _ T5 (mkF m 24 #[.val (.ref b), .val (.long x), .second, .val (.ref ps)] [])
  refine Go.st (fun _ kont => XS.aloadN X5.here hx rfl (hb hby d6_24) rfl rfl kont) ?_
  show Go p e s below _ _ _ T5 (mkF m 25 #[.val (.ref b), .val (.long x), .second, .val (.ref ps)] [(.ref b)])
  refine Go.st (fun _ kont => XS.aloadN X5.here hx rfl (hb hby d6_25) rfl rfl kont) ?_
  show Go p e s below _ _ _ T5 (mkF m 26 #[.val (.ref b), .val (.long x), .second, .val (.ref ps)] [(.ref ps), (.ref b)])
  obtain ⟨cl6, Ar6, q6, S6, M6, H6, G6⟩ := (id V_ps_5)
  refine Go.st (X5.arraylength hx (by rw [e5]; exact Ar6.1) (State.isArrayOf_alike hZ.alike Ar6.2.1) (g := (mkF m 26 #[.val (.ref b), .val (.long x), .second, .val (.ref ps)] [(.ref ps), (.ref b)])) rfl rfl (hb hby d6_26)) ?_
  rw [len_of S6 M6]
  show Go p e s below _ _ _ T5 (mkF m 27 #[.val (.ref b), .val (.long x), .second, .val (.ref ps)] [(.int (1 : Int32)), (.ref b)])
  refine Go.st (fun _ kont => XT.iconstV X5.here hx rfl (1 : Int32) (hb hby d6_27) (by decide) kont) ?_
  show Go p e s below _ _ _ T5 (mkF m 28 #[.val (.ref b), .val (.long x), .second, .val (.ref ps)] [(.int (1 : Int32)), (.int (1 : Int32)), (.ref b)])
  refine Go.st (fun _ kont => XS.icmpNo X5.here hx rfl (hb hby d6_28) rfl (teq rfl).2 kont) ?_
  show Go p e s below _ _ _ T5 (mkF m 31 #[.val (.ref b), .val (.long x), .second, .val (.ref ps)] [(.ref b)])
  refine Go.st (fun _ kont => XS.aloadN X5.here hx rfl (hb hby d6_31) rfl rfl kont) ?_
  show Go p e s below _ _ _ T5 (mkF m 32 #[.val (.ref b), .val (.long x), .second, .val (.ref ps)] [(.ref ps), (.ref b)])
  refine Go.st (fun _ kont => XT.iconstV X5.here hx rfl (0 : Int32) (hb hby d6_32) (by decide) kont) ?_
  show Go p e s below _ _ _ T5 (mkF m 33 #[.val (.ref b), .val (.long x), .second, .val (.ref ps)] [(.int (0 : Int32)), (.ref ps), (.ref b)])
  obtain ⟨cl7, Ar7, q7, S7, M7, H7, G7⟩ := (id V_ps_5)
  have in7 : ¬ ((0 : Int32) < 0 ∨ cl7.slots.size ≤ ((0 : Int32)).toNatClampNeg) := inb_of S7 ⟨by decide, by decide⟩
  refine Go.st (X5.aaload hx (j := (0 : Int32)) (v := (.ref b0)) (by rw [e5]; exact Ar7.1) (State.isArrayOf_alike hZ.alike Ar7.2.1) rfl Ar7.2.2 in7 (Has.at H7 in7 rfl) (g := (mkF m 33 #[.val (.ref b), .val (.long x), .second, .val (.ref ps)] [(.int (0 : Int32)), (.ref ps), (.ref b)])) rfl rfl (hb hby d6_33)) ?_
  show Go p e s below _ _ _ T5 (mkF m 34 #[.val (.ref b), .val (.long x), .second, .val (.ref ps)] [(.ref b0), (.ref b)])
  refine Go.st (fun _ kont => XS.goto X5.here hx rfl (pc0 := 34) (pc' := 38) rfl (hb hby d6_34) (by decide) (by decide) kont) ?_
  show Go p e s below _ _ _ T5 (mkF m 38 #[.val (.ref b), .val (.long x), .second, .val (.ref ps)] [(.ref b0), (.ref b)])
  obtain ⟨T8, h8, X8, e8, W8, st8⟩ := putF X5 hx hZ hown (host := "") (Or.inl (hw _ (List.mem_of_getElem? (i := 40) rfl))) Via.refl e5 F_onlyPage_b_5 E_b_5 (Or.inr ⟨(hw _ (List.mem_of_getElem? (i := 41) rfl)), rfl, hnm⟩) (hw _ (List.mem_of_getElem? (i := 4) rfl)) (ty := (.array .long)) (by decide) rfl rfl (g := (mkF m 38 #[.val (.ref b), .val (.long x), .second, .val (.ref ps)] [(.ref b0), (.ref b)])) rfl rfl (hb hby d6_38)
  refine Go.st st8 ?_
  have F_onlyPage_b_8 : Fld Z h8 b "com/example/criba/criba/PagedWords" "onlyPage" "[J" (.ref b0) := F_onlyPage_b_5.same W8
  have K_8 : Keep h0 h8 [b] := K_5.wr W8 (Or.inl (List.mem_singleton.mpr rfl))
  have E_b_8 := E_b_5.wr W8
  have F_bits_b_8 := F_bits_b_5.other W8 (Or.inr (slot_ne (Or.inr (hw _ (List.mem_of_getElem? (i := 35) rfl))) (Or.inr (hw _ (List.mem_of_getElem? (i := 41) rfl))) (by decide) (t := .long) (t' := (.array .long)) (by decide) (by decide)))
  have F_lastWord_b_8 := F_lastWord_b_5.other W8 (Or.inr (slot_ne (Or.inr (hw _ (List.mem_of_getElem? (i := 37) rfl))) (Or.inr (hw _ (List.mem_of_getElem? (i := 41) rfl))) (by decide) (t := .long) (t' := (.array .long)) (by decide) (by decide)))
  have F_pages_b_8 := F_pages_b_5.other W8 (Or.inr (slot_ne (Or.inr (hw _ (List.mem_of_getElem? (i := 39) rfl))) (Or.inr (hw _ (List.mem_of_getElem? (i := 41) rfl))) (by decide) (t := (.array (.array .long))) (t' := (.array .long)) (by decide) (by decide)))
  have V_ps_8 := V_ps_5.other W8 hne
  have N8 := Fr.snoc X8 N5 gb
  show Go p e s below _ _ _ T8 (mkF m 41 #[.val (.ref b), .val (.long x), .second, .val (.ref ps)] [])
  exact Go.retV X8 hx hlk hret (hb hby d6_41) (by decide) (by decide) ⟨rfl, N8, (by rw [e8]; exact K_8), (by rw [e8]; exact F_pages_b_8), (by rw [e8]; exact F_onlyPage_b_8)⟩
theorem ef_I1 (m : MethodId) (x0 : Addr) (x1 : Int64) : entryFrame m #[(.ref x0), (.long x1)] 3 = mkF m 0 #[.val (.ref x0), .val (.long x1), .second] [] := by first | (simp [entryFrame, mkF, argsToLocals, Value.category]; done) | rfl
set_option maxRecDepth 65536 in
set_option maxHeartbeats 40000000 in
theorem rmI1 (l : Launch) (Z : State) (a0 : Array Value) (hw : ∀ d ∈ tables_1, d.before a0 Z = true) (ws : List Jvm.Cond) (b : Addr) (x w : Int64) (ln0 : Int32) (h0 : Heap) (n0 : Nat) (Z0 : n0 ≤ h0.size) (gb : n0 ≤ b) (E_b : Exa Z h0 b "com/example/criba/criba/PagedWords") (F_bits_b : Fld Z h0 b "com/example/criba/criba/PagedWords" "bits" "J" (.long (0 : Int64))) (F_lastWord_b : Fld Z h0 b "com/example/criba/criba/PagedWords" "lastWord" "J" (.long (0 : Int64))) (F_pages_b : Fld Z h0 b "com/example/criba/criba/PagedWords" "pages" "[[J" .null) (F_onlyPage_b : Fld Z h0 b "com/example/criba/criba/PagedWords" "onlyPage" "[J" .null) (hwx : w = (((x + (63 : Int64)).toUInt64 >>> ((6 : Int32) &&& 0x3f).toInt64.toUInt64).toInt64)) (hw1 : 0 < w.toInt) (hw2 : w.toInt ≤ 32768) (hn0 : ln0.toInt = pgl w.toInt 0) :
    Meets l Z (⟨"com/example/criba/criba/PagedWords", "<init>", "(J)V"⟩ : MethodName) prog_30_method_1_code 3 none ({ frames := 3, cells := 3, slots := 65538, locals := 52 } : Room) ws #[(.ref b), (.long x)] h0 (fun v h L => ∃ (ps : Addr) (P : Nat) (pg : Nat → Addr), v = none ∧ Fr n0 L ∧ Keep h0 h [b] ∧ w.toInt ≤ (P : Int) * 32768 ∧ PW Z h b ps w.toInt P pg (fun _ => (0 : Int64)) ∧ ∀ q : Nat, q < P → h0.size ≤ pg q) := by
  refine Meets.of (plainFor_of_name (by first | (simp [plainName, overriddenIn]; done) | decide +kernel : plainName "com/example/criba/criba/PagedWords" = true)) ?_
  intro p e s m below meth c s₁ X0 hx hby hml hret hlk hnm hZ hown e0
  replace hown : s.vm.findClass "com/example/criba/criba/PagedWords" = some m.cls := hown
  have N0 := Fr.nil n0
  have Q0 := own_extR h0
  refine Go.cast (ef_I1 m b x) ?_
  show Go p e s below _ _ _ s₁ (mkF m 0 #[.val (.ref b), .val (.long x), .second] [])
  refine Go.st (fun _ kont => XS.aloadN X0.here hx rfl (hb hby d1_0) rfl rfl kont) ?_
  show Go p e s below _ _ _ s₁ (mkF m 1 #[.val (.ref b), .val (.long x), .second] [(.ref b)])
  refine Go.st (fun _ kont => XS.lloadN X0.here hx rfl (hb hby d1_1) rfl kont) ?_
  show Go p e s below _ _ _ s₁ (mkF m 2 #[.val (.ref b), .val (.long x), .second] [(.long x), (.ref b)])
  refine Go.st (fun _ kont => XS.lloadN X0.here hx rfl (hb hby d1_2) rfl kont) ?_
  show Go p e s below _ _ _ s₁ (mkF m 3 #[.val (.ref b), .val (.long x), .second] [(.long x), (.long x), (.ref b)])
  refine Go.callS (W := 3) (argsL := [(.long x)]) (rest := [(.long x), (.ref b)]) X0 hx hZ hown (y := (⟨"com/example/criba/criba/PagedWords", "words", "(J)J"⟩ : MethodName)) (hw _ (List.mem_of_getElem? (i := 9) rfl)) (hw _ (List.mem_of_getElem? (i := 10) rfl)) (hw _ (List.mem_of_getElem? (i := 5) rfl)) (hw _ (List.mem_of_getElem? (i := 11) rfl)) (rmW l Z a0 hw [] x h0 n0) e0 (by decide) (by decide) (by decide) (by decide) (by decide) (by rw [hml]; rfl) (lenOf pd__J_J rfl) (Nat.le_of_eq rfl) (hb hby d1_3) ?_
  intro T1 v1 L1 X1 hQ1
  obtain ⟨rfl, N1, E1⟩ := hQ1
  have M1 := Fr.app N0 N1
  show Go p e s below _ _ _ T1 (mkF m 6 #[.val (.ref b), .val (.long x), .second] [(.long (((x + (63 : Int64)).toUInt64 >>> ((6 : Int32) &&& 0x3f).toInt64.toUInt64).toInt64)), (.long x), (.ref b)])
  rw [← hwx]
  show Go p e s below _ _ _ T1 (mkF m 6 #[.val (.ref b), .val (.long x), .second] [(.long w), (.long x), (.ref b)])
  refine Go.callS (W := 3) (argsL := [(.long w)]) (rest := [(.long x), (.ref b)]) X1 hx hZ hown (y := (⟨"com/example/criba/criba/PagedWords", "emptyPages", "(J)[[J"⟩ : MethodName)) (hw _ (List.mem_of_getElem? (i := 13) rfl)) (hw _ (List.mem_of_getElem? (i := 14) rfl)) (hw _ (List.mem_of_getElem? (i := 5) rfl)) (hw _ (List.mem_of_getElem? (i := 15) rfl)) (rmE1 l Z a0 hw [] w ln0 h0 n0 Z0 hw1 hw2 hn0) E1 (by decide) (by decide) (by decide) (by decide) (by decide) (by rw [hml]; rfl) (lenOf pd__J___J rfl) (Nat.le_of_eq rfl) (hb hby d1_6) ?_
  intro T2 v2 L2 X2 hQ2
  obtain ⟨h2, e2⟩ : ∃ z, T2.heap = z := ⟨_, rfl⟩
  rw [e2] at hQ2
  obtain ⟨ps, kk, c2_0, rfl, N2, E2, VP, sP, ⟨k2_0, V2_0⟩, s2_0, e2_0⟩ := hQ2
  have M2 := Fr.app M1 N2
  have Q_2 : Ext h0 h2 := own_extE Q0 E2
  have E_b_2 := E_b.ext E2
  have F_bits_b_2 := F_bits_b.ext E2
  have F_lastWord_b_2 := F_lastWord_b.ext E2
  have F_pages_b_2 := F_pages_b.ext E2
  have F_onlyPage_b_2 := F_onlyPage_b.ext E2
  show Go p e s below _ _ _ T2 (mkF m 9 #[.val (.ref b), .val (.long x), .second] [(.ref ps), (.long x), (.ref b)])
  have hpb : ps ≠ b := Ne.symm (Nat.ne_of_lt (Nat.lt_of_lt_of_le E_b.lt sP))
  refine Go.callC (b := b) (W := 0) (argsL := [(.long x), (.ref ps)]) (rest := []) X2 hx hZ (y := (⟨"com/example/criba/criba/PagedWords", "<init>", "(J[[J)V"⟩ : MethodName)) rfl hown (hw _ (List.mem_of_getElem? (i := 28) rfl)) (hw _ (List.mem_of_getElem? (i := 29) rfl)) (hw _ (List.mem_of_getElem? (i := 5) rfl)) (hw _ (List.mem_of_getElem? (i := 30) rfl)) (rmJ1 l Z a0 hw [] b x ps h2 n0 gb E_b_2 F_bits_b_2 F_lastWord_b_2 F_pages_b_2 F_onlyPage_b_2 kk c2_0 VP hpb) e2 (by decide) (by decide) (by decide) (by decide) (by decide) (by rw [hml]; rfl) (lenOf pd__J__J_V rfl) (Nat.le_of_eq rfl) (hb hby d1_9) ?_
  intro T3 v3 L3 X3 hQ3
  obtain ⟨h3, e3⟩ : ∃ z, T3.heap = z := ⟨_, rfl⟩
  rw [e3] at hQ3
  obtain ⟨rfl, N3, K3, FP3, FO3⟩ := hQ3
  have M3 := Fr.app M2 N3
  show Go p e s below _ _ _ T3 (mkF m 12 #[.val (.ref b), .val (.long x), .second] [])
  obtain ⟨cP, AP, -, SP, MP, HP, -⟩ := VP
  have kA : ∀ {a : Addr} {cc : Cell} {ty : FieldType}, Arr Z h2 a cc ty → a ≠ b → Arr Z h3 a cc ty := fun A q => ⟨K3.2.1 _ _ A.1 (ninS q nin0), A.2⟩
  have lb : b < h0.size := E_b.lt
  have nb0 : c2_0 ≠ b := Ne.symm (Nat.ne_of_lt (Nat.lt_of_lt_of_le lb s2_0))
  have hPW : PW Z h3 b ps w.toInt 1 (fun q => [c2_0].getD q 0) (fun _ => (0 : Int64)) := by
    refine ⟨E_b_2.keep K3, FO3, FP3, ⟨cP, kA AP hpb, fun q hq => ?_⟩, fun q hq => ?_, fun q q' hq hq' e => ?_, fun q hq => ?_⟩
    · have := HP q (by rw [SP]; exact hq)
      rw [this]
      match q, hq with
      | 0, _ => rfl
      | kz + 1, hq => exact absurd hq (by omega)
    · match q, hq with
      | 0, _ => obtain ⟨cc, A, H⟩ := own_page (w := w.toInt) (q := 0) V2_0 hn0; exact ⟨cc, kA A nb0, H⟩
      | kz + 1, hq => exact absurd hq (by omega)
    · match q, q', hq, hq', e with
      | 0, 0, _, _, e => rfl
      | kz + 1, _, hq, _, _ => exact absurd hq (by omega)
      | _, kz + 1, _, hq, _ => exact absurd hq (by omega)
    · match q, hq with
      | 0, _ => exact ⟨Ne.symm nb0, e2_0⟩
      | kz + 1, hq => exact absurd hq (by omega)
  have hge : ∀ q : Nat, q < 1 → h0.size ≤ (fun q => [c2_0].getD q 0) q := fun q hq => by
    match q, hq with
    | 0, _ => exact s2_0
    | kz + 1, hq => exact absurd hq (by omega)
  exact Go.retV X3 hx hlk hret (hb hby d1_12) (by decide) (by decide) ⟨ps, 1, _, rfl, M3, (by rw [e3]; exact (Keep.refl h0 [b]).ext E2 |>.trans K3 (allS (Or.inl (List.mem_singleton.mpr rfl)) all0)), by omega, (by rw [e3]; exact hPW), hge⟩
theorem own_len (w : Int) (q : Nat) : ∃ n : Int32, w ≤ 98304 → (q : Int) * 32768 < w → n.toInt = pgl w q := by
  refine ⟨Int32.ofInt (pgl w q), fun h1 h2 => ?_⟩
  rw [Int32.toInt_ofInt, show Int32.size = 4294967296 from rfl, Int.bmod_eq_of_le (by unfold pgl; split <;> omega) (by unfold pgl; split <;> omega)]
theorem rmI (l : Launch) (Z : State) (a0 : Array Value) (hw : ∀ d ∈ tables_1, d.before a0 Z = true) (ws : List Jvm.Cond) (b : Addr) (x w : Int64) (h0 : Heap) (n0 : Nat) (Z0 : n0 ≤ h0.size) (gb : n0 ≤ b) (E_b : Exa Z h0 b "com/example/criba/criba/PagedWords") (F_bits_b : Fld Z h0 b "com/example/criba/criba/PagedWords" "bits" "J" (.long (0 : Int64))) (F_lastWord_b : Fld Z h0 b "com/example/criba/criba/PagedWords" "lastWord" "J" (.long (0 : Int64))) (F_pages_b : Fld Z h0 b "com/example/criba/criba/PagedWords" "pages" "[[J" .null) (F_onlyPage_b : Fld Z h0 b "com/example/criba/criba/PagedWords" "onlyPage" "[J" .null) (hwx : w = (((x + (63 : Int64)).toUInt64 >>> ((6 : Int32) &&& 0x3f).toInt64.toUInt64).toInt64)) (hw1 : 0 < w.toInt) (hw2 : w.toInt ≤ 65536) :
    Meets l Z (⟨"com/example/criba/criba/PagedWords", "<init>", "(J)V"⟩ : MethodName) prog_30_method_1_code 3 none ({ frames := 3, cells := 3, slots := 65538, locals := 52 } : Room) ws #[(.ref b), (.long x)] h0 (fun v h L => ∃ (ps : Addr) (P : Nat) (pg : Nat → Addr), v = none ∧ Fr n0 L ∧ Keep h0 h [b] ∧ w.toInt ≤ (P : Int) * 32768 ∧ PW Z h b ps w.toInt P pg (fun _ => (0 : Int64)) ∧ ∀ q : Nat, q < P → h0.size ≤ pg q) := by
  obtain ⟨n0', g0⟩ := own_len w.toInt 0
  obtain ⟨n1', g1⟩ := own_len w.toInt 1
  obtain ⟨n2', g2⟩ := own_len w.toInt 2
  by_cases q1 : w.toInt ≤ 32768
  · exact rmI1 l Z a0 hw ws b x w n0' h0 n0 Z0 gb E_b F_bits_b F_lastWord_b F_pages_b F_onlyPage_b hwx (by omega) q1 (g0 (by omega) (by omega))
  · exact rmI2 l Z a0 hw ws b x w n0' n1' h0 n0 Z0 gb E_b F_bits_b F_lastWord_b F_pages_b F_onlyPage_b hwx (by omega) (by omega) (g0 (by omega) (by omega)) (g1 (by omega) (by omega))
theorem d9_0 : decode prog_30_method_18_code 0 = .ok (.aload_n 0, 1) := by decide +kernel
theorem d9_1 : decode prog_30_method_18_code 1 = .ok (.getfield 31, 3) := by decide +kernel
theorem d9_4 : decode prog_30_method_18_code 4 = .ok (.ifnull 10, 3) := by decide +kernel
theorem d9_7 : decode prog_30_method_18_code 7 = .ok (.aload_n 0, 1) := by decide +kernel
theorem d9_8 : decode prog_30_method_18_code 8 = .ok (.getfield 31, 3) := by decide +kernel
theorem d9_11 : decode prog_30_method_18_code 11 = .ok (.goto 13, 3) := by decide +kernel
theorem d9_14 : decode prog_30_method_18_code 14 = .ok (.aload_n 0, 1) := by decide +kernel
theorem d9_15 : decode prog_30_method_18_code 15 = .ok (.getfield 27, 3) := by decide +kernel
theorem d9_18 : decode prog_30_method_18_code 18 = .ok (.lload_n 1, 1) := by decide +kernel
theorem d9_19 : decode prog_30_method_18_code 19 = .ok (.bipush 15, 2) := by decide +kernel
theorem d9_21 : decode prog_30_method_18_code 21 = .ok (.lushr, 1) := by decide +kernel
theorem d9_22 : decode prog_30_method_18_code 22 = .ok (.l2i, 1) := by decide +kernel
theorem d9_23 : decode prog_30_method_18_code 23 = .ok (.aaload, 1) := by decide +kernel
theorem d9_24 : decode prog_30_method_18_code 24 = .ok (.areturn, 1) := by decide +kernel
theorem ef_P (m : MethodId) (x0 : Addr) (x1 : Int64) : entryFrame m #[(.ref x0), (.long x1)] 3 = mkF m 0 #[.val (.ref x0), .val (.long x1), .second] [] := by first | (simp [entryFrame, mkF, argsToLocals, Value.category]; done) | rfl
set_option maxRecDepth 65536 in
set_option maxHeartbeats 40000000 in
theorem rmP (l : Launch) (Z : State) (a0 : Array Value) (hw : ∀ d ∈ tables_1, d.before a0 Z = true) (ws : List Jvm.Cond) (o ps : Addr) (x : Int64) (w : Int) (P q y : Nat) (pg : Nat → Addr) (f : Int → Int64) (h0 : Heap) (n0 : Nat) (F : PW Z h0 o ps w P pg f) (I : Ix x w P q y) (hw9 : w ≤ 98304) :
    Meets l Z (⟨"com/example/criba/criba/PagedWords", "page", "(J)[J"⟩ : MethodName) prog_30_method_18_code 3 (some (.array .long)) ({ frames := 0, cells := 0, slots := 0, locals := 0 } : Room) ws #[(.ref o), (.long x)] h0 (fun v h L => v = some (.ref (pg q)) ∧ Fr n0 L ∧ h = h0) := by
  refine Meets.of (plainFor_of_name (by first | (simp [plainName, overriddenIn]; done) | decide +kernel : plainName "com/example/criba/criba/PagedWords" = true)) ?_
  intro p e s m below meth c s₁ X0 hx hby hml hret hlk hnm hZ hown e0
  replace hown : s.vm.findClass "com/example/criba/criba/PagedWords" = some m.cls := hown
  have N0 := Fr.nil n0
  refine Go.cast (ef_P m o x) ?_
  show Go p e s below _ _ _ s₁ (mkF m 0 #[.val (.ref o), .val (.long x), .second] [])
  obtain ⟨F1, F2, F3, ⟨cp, F4, F5⟩, F6, F7, F8⟩ := F
  by_cases hP : P = 1
  · --
    rw [if_pos hP] at F2
    have hq0 : q = 0 := by have := I.1; omega
    show Go p e s below _ _ _ s₁ (mkF m 0 #[.val (.ref o), .val (.long x), .second] [])
    refine Go.st (fun _ kont => XS.aloadN X0.here hx rfl (hb hby d9_0) rfl rfl kont) ?_
    show Go p e s below _ _ _ s₁ (mkF m 1 #[.val (.ref o), .val (.long x), .second] [(.ref o)])
    obtain ⟨T1, X1, e1, st1⟩ := getF X0 hx hZ hown (host := "") (Or.inl (hw _ (List.mem_of_getElem? (i := 40) rfl))) Via.refl e0 F2 (g := (mkF m 1 #[.val (.ref o), .val (.long x), .second] [(.ref o)])) rfl rfl (hb hby d9_1)
    refine Go.st st1 ?_
    show Go p e s below _ _ _ T1 (mkF m 4 #[.val (.ref o), .val (.long x), .second] [(.ref (pg 0))])
    refine Go.st (fun _ kont => XS.ifnullNo X1.here hx rfl (hb hby d9_4) rfl kont) ?_
    show Go p e s below _ _ _ T1 (mkF m 7 #[.val (.ref o), .val (.long x), .second] [])
    refine Go.st (fun _ kont => XS.aloadN X1.here hx rfl (hb hby d9_7) rfl rfl kont) ?_
    show Go p e s below _ _ _ T1 (mkF m 8 #[.val (.ref o), .val (.long x), .second] [(.ref o)])
    obtain ⟨T2, X2, e2, st2⟩ := getF X1 hx hZ hown (host := "") (Or.inl (hw _ (List.mem_of_getElem? (i := 40) rfl))) Via.refl e1 F2 (g := (mkF m 8 #[.val (.ref o), .val (.long x), .second] [(.ref o)])) rfl rfl (hb hby d9_8)
    refine Go.st st2 ?_
    show Go p e s below _ _ _ T2 (mkF m 11 #[.val (.ref o), .val (.long x), .second] [(.ref (pg 0))])
    refine Go.st (fun _ kont => XS.goto X2.here hx rfl (pc0 := 11) (pc' := 24) rfl (hb hby d9_11) (by decide) (by decide) kont) ?_
    show Go p e s below _ _ _ T2 (mkF m 24 #[.val (.ref o), .val (.long x), .second] [(.ref (pg 0))])
    exact Go.retA X2 hx hlk hret rfl rfl (hb hby d9_24) (by decide) (by decide) ⟨by rw [hq0], N0, e2⟩
  · --
    rw [if_neg hP] at F2
    show Go p e s below _ _ _ s₁ (mkF m 0 #[.val (.ref o), .val (.long x), .second] [])
    refine Go.st (fun _ kont => XS.aloadN X0.here hx rfl (hb hby d9_0) rfl rfl kont) ?_
    show Go p e s below _ _ _ s₁ (mkF m 1 #[.val (.ref o), .val (.long x), .second] [(.ref o)])
    obtain ⟨T3, X3, e3, st3⟩ := getF X0 hx hZ hown (host := "") (Or.inl (hw _ (List.mem_of_getElem? (i := 40) rfl))) Via.refl e0 F2 (g := (mkF m 1 #[.val (.ref o), .val (.long x), .second] [(.ref o)])) rfl rfl (hb hby d9_1)
    refine Go.st st3 ?_
    show Go p e s below _ _ _ T3 (mkF m 4 #[.val (.ref o), .val (.long x), .second] [.null])
    refine Go.st (fun _ kont => XS.ifnullYes X3.here hx rfl (pc0 := 4) (pc' := 14) rfl (hb hby d9_4) rfl (by decide) (by decide) kont) ?_
    show Go p e s below _ _ _ T3 (mkF m 14 #[.val (.ref o), .val (.long x), .second] [])
    refine Go.st (fun _ kont => XS.aloadN X3.here hx rfl (hb hby d9_14) rfl rfl kont) ?_
    show Go p e s below _ _ _ T3 (mkF m 15 #[.val (.ref o), .val (.long x), .second] [(.ref o)])
    obtain ⟨T4, X4, e4, st4⟩ := getF X3 hx hZ hown (host := "") (Or.inl (hw _ (List.mem_of_getElem? (i := 38) rfl))) Via.refl e3 F3 (g := (mkF m 15 #[.val (.ref o), .val (.long x), .second] [(.ref o)])) rfl rfl (hb hby d9_15)
    refine Go.st st4 ?_
    show Go p e s below _ _ _ T4 (mkF m 18 #[.val (.ref o), .val (.long x), .second] [(.ref ps)])
    refine Go.st (fun _ kont => XS.lloadN X4.here hx rfl (hb hby d9_18) rfl kont) ?_
    show Go p e s below _ _ _ T4 (mkF m 19 #[.val (.ref o), .val (.long x), .second] [(.long x), (.ref ps)])
    refine Go.st (fun _ kont => XT.bipushV X4.here hx rfl (15 : Int32) (hb hby d9_19) (by decide) kont) ?_
    show Go p e s below _ _ _ T4 (mkF m 21 #[.val (.ref o), .val (.long x), .second] [(.int (15 : Int32)), (.long x), (.ref ps)])
    refine Go.st (fun _ kont => XS.lushr X4.here hx rfl (hb hby d9_21) rfl kont) ?_
    show Go p e s below _ _ _ T4 (mkF m 22 #[.val (.ref o), .val (.long x), .second] [(.long ((x.toUInt64 >>> ((15 : Int32) &&& 0x3f).toInt64.toUInt64).toInt64)), (.ref ps)])
    refine Go.st (fun _ kont => XS.l2i X4.here hx rfl (hb hby d9_22) rfl kont) ?_
    show Go p e s below _ _ _ T4 (mkF m 23 #[.val (.ref o), .val (.long x), .second] [(.int (((x.toUInt64 >>> ((15 : Int32) &&& 0x3f).toInt64.toUInt64).toInt64).toInt32)), (.ref ps)])
    have hh := own_hi I hw9
    have hc5 := F5 q I.1
    have hin := own_in hh hc5
    refine Go.st (X4.aaload hx (j := (((x.toUInt64 >>> ((15 : Int32) &&& 0x3f).toInt64.toUInt64).toInt64).toInt32)) (v := .ref (pg q)) (by rw [e4]; exact F4.1) (State.isArrayOf_alike hZ.alike F4.2.1) rfl F4.2.2 hin (by rw [hh.1]; exact hc5) (g := (mkF m 23 #[.val (.ref o), .val (.long x), .second] [(.int (((x.toUInt64 >>> ((15 : Int32) &&& 0x3f).toInt64.toUInt64).toInt64).toInt32)), (.ref ps)])) rfl rfl (hb hby d9_23)) ?_
    show Go p e s below _ _ _ T4 (mkF m 24 #[.val (.ref o), .val (.long x), .second] [(.ref (pg q))])
    exact Go.retA X4 hx hlk hret rfl rfl (hb hby d9_24) (by decide) (by decide) ⟨rfl, N0, e4⟩
theorem pd__J__J : parseMethodDescriptor "(J)[J" = some ⟨[.long], some (.array .long)⟩ := by decide +kernel
theorem d8_0 : decode prog_30_method_13_code 0 = .ok (.aload_n 0, 1) := by decide +kernel
theorem d8_1 : decode prog_30_method_13_code 1 = .ok (.lload_n 1, 1) := by decide +kernel
theorem d8_2 : decode prog_30_method_13_code 2 = .ok (.invokevirtual 111, 3) := by decide +kernel
theorem d8_5 : decode prog_30_method_13_code 5 = .ok (.lload_n 1, 1) := by decide +kernel
theorem d8_6 : decode prog_30_method_13_code 6 = .ok (.l2i, 1) := by decide +kernel
theorem d8_7 : decode prog_30_method_13_code 7 = .ok (.sipush 32767, 3) := by decide +kernel
theorem d8_10 : decode prog_30_method_13_code 10 = .ok (.iand, 1) := by decide +kernel
theorem d8_11 : decode prog_30_method_13_code 11 = .ok (.lload_n 3, 1) := by decide +kernel
theorem d8_12 : decode prog_30_method_13_code 12 = .ok (.lastore, 1) := by decide +kernel
theorem d8_13 : decode prog_30_method_13_code 13 = .ok (.return_, 1) := by decide +kernel
theorem ef_S (m : MethodId) (x0 : Addr) (x1 : Int64) (x2 : Int64) : entryFrame m #[(.ref x0), (.long x1), (.long x2)] 5 = mkF m 0 #[.val (.ref x0), .val (.long x1), .second, .val (.long x2), .second] [] := by first | (simp [entryFrame, mkF, argsToLocals, Value.category]; done) | rfl
set_option maxRecDepth 65536 in
set_option maxHeartbeats 40000000 in
theorem rmS (l : Launch) (Z : State) (a0 : Array Value) (hw : ∀ d ∈ tables_1, d.before a0 Z = true) (ws : List Jvm.Cond) (o ps : Addr) (x : Int64) (w : Int) (P q y : Nat) (pg : Nat → Addr) (f : Int → Int64) (v : Int64) (h0 : Heap) (n0 : Nat) (F : PW Z h0 o ps w P pg f) (I : Ix x w P q y) (hw9 : w ≤ 98304) (gn : ∀ q : Nat, q < P → n0 ≤ pg q) :
    Meets l Z (⟨"com/example/criba/criba/PagedWords", "setWord", "(JJ)V"⟩ : MethodName) prog_30_method_13_code 5 none ({ frames := 1, cells := 0, slots := 0, locals := 14 } : Room) ws #[(.ref o), (.long x), (.long v)] h0 (fun r h L => r = none ∧ Fr n0 L ∧ Keep h0 h [pg q] ∧ PW Z h o ps w P pg (fun z => if z = x.toInt then v else f z)) := by
  refine Meets.of (plainFor_of_name (by first | (simp [plainName, overriddenIn]; done) | decide +kernel : plainName "com/example/criba/criba/PagedWords" = true)) ?_
  intro p e s m below meth c s₁ X0 hx hby hml hret hlk hnm hZ hown e0
  replace hown : s.vm.findClass "com/example/criba/criba/PagedWords" = some m.cls := hown
  have N0 := Fr.nil n0
  refine Go.cast (ef_S m o x v) ?_
  show Go p e s below _ _ _ s₁ (mkF m 0 #[.val (.ref o), .val (.long x), .second, .val (.long v), .second] [])
  refine Go.st (fun _ kont => XS.aloadN X0.here hx rfl (hb hby d8_0) rfl rfl kont) ?_
  show Go p e s below _ _ _ s₁ (mkF m 1 #[.val (.ref o), .val (.long x), .second, .val (.long v), .second] [(.ref o)])
  refine Go.st (fun _ kont => XS.lloadN X0.here hx rfl (hb hby d8_1) rfl kont) ?_
  show Go p e s below _ _ _ s₁ (mkF m 2 #[.val (.ref o), .val (.long x), .second, .val (.long v), .second] [(.long x), (.ref o)])
  refine Go.callP (b := o) (W := 0) (argsL := [(.long x)]) (rest := []) X0 hx hZ hown (y := (⟨"com/example/criba/criba/PagedWords", "page", "(J)[J"⟩ : MethodName)) (hw _ (List.mem_of_getElem? (i := 47) rfl)) (hw _ (List.mem_of_getElem? (i := 48) rfl)) (hw _ (List.mem_of_getElem? (i := 49) rfl)) (hw _ (List.mem_of_getElem? (i := 4) rfl)) (hw _ (List.mem_of_getElem? (i := 5) rfl)) (hw _ (List.mem_of_getElem? (i := 50) rfl)) (rmP l Z a0 hw [] o ps x w P q y pg f h0 n0 F I hw9) e0 F.1 (by decide) (by decide) (by decide) (by decide) (by decide) (by rw [hml]; rfl) (lenOf pd__J__J rfl) (Nat.le_of_eq rfl) (hb hby d8_2) ?_
  intro T1 v1 L1 X1 hQ1
  obtain ⟨rfl, N1, E1⟩ := hQ1
  have M1 := Fr.app N0 N1
  show Go p e s below _ _ _ T1 (mkF m 5 #[.val (.ref o), .val (.long x), .second, .val (.long v), .second] [(.ref (pg q))])
  refine Go.st (fun _ kont => XS.lloadN X1.here hx rfl (hb hby d8_5) rfl kont) ?_
  show Go p e s below _ _ _ T1 (mkF m 6 #[.val (.ref o), .val (.long x), .second, .val (.long v), .second] [(.long x), (.ref (pg q))])
  refine Go.st (fun _ kont => XS.l2i X1.here hx rfl (hb hby d8_6) rfl kont) ?_
  show Go p e s below _ _ _ T1 (mkF m 7 #[.val (.ref o), .val (.long x), .second, .val (.long v), .second] [(.int (x.toInt32)), (.ref (pg q))])
  refine Go.st (fun _ kont => XT.sipushV X1.here hx rfl (32767 : Int32) (hb hby d8_7) (by decide) kont) ?_
  show Go p e s below _ _ _ T1 (mkF m 10 #[.val (.ref o), .val (.long x), .second, .val (.long v), .second] [(.int (32767 : Int32)), (.int (x.toInt32)), (.ref (pg q))])
  refine Go.st (fun _ kont => XS.iand X1.here hx rfl (hb hby d8_10) rfl kont) ?_
  show Go p e s below _ _ _ T1 (mkF m 11 #[.val (.ref o), .val (.long x), .second, .val (.long v), .second] [(.int ((x.toInt32) &&& (32767 : Int32))), (.ref (pg q))])
  refine Go.st (fun _ kont => XS.lloadN X1.here hx rfl (hb hby d8_11) rfl kont) ?_
  show Go p e s below _ _ _ T1 (mkF m 12 #[.val (.ref o), .val (.long x), .second, .val (.long v), .second] [(.long v), (.int ((x.toInt32) &&& (32767 : Int32))), (.ref (pg q))])
  have hl := own_lo I hw9
  obtain ⟨cc, Ac, hc⟩ := F.at I.1 I.2.1 I.2.2.1 I.2.2.2
  have hin := own_in hl hc
  obtain ⟨T9, h9, X9, e9, W9, st9⟩ := stJ X1 hx hZ E1 Ac (j := ((x.toInt32) &&& (32767 : Int32))) hin (g := (mkF m 12 #[.val (.ref o), .val (.long x), .second, .val (.long v), .second] [(.long v), (.int ((x.toInt32) &&& (32767 : Int32))), (.ref (pg q))])) rfl rfl (hb hby d8_12)
  rw [hl.1] at W9 X9
  refine Go.st st9 ?_
  have N9 := Fr.snoc X9 M1 (gn q I.1)
  have F9 := F.set I.1 I.2.1 I.2.2.1 W9
  have K9 := Keep.of_wr W9
  show Go p e s below _ _ _ T9 (mkF m 13 #[.val (.ref o), .val (.long x), .second, .val (.long v), .second] [])
  exact Go.retV X9 hx hlk hret (hb hby d8_13) (by decide) (by decide) ⟨rfl, N9, (by rw [e9]; exact K9), (by rw [e9]; exact F9)⟩
theorem d11_0 : decode prog_30_method_12_code 0 = .ok (.aload_n 0, 1) := by decide +kernel
theorem d11_1 : decode prog_30_method_12_code 1 = .ok (.lload_n 1, 1) := by decide +kernel
theorem d11_2 : decode prog_30_method_12_code 2 = .ok (.invokevirtual 111, 3) := by decide +kernel
theorem d11_5 : decode prog_30_method_12_code 5 = .ok (.lload_n 1, 1) := by decide +kernel
theorem d11_6 : decode prog_30_method_12_code 6 = .ok (.l2i, 1) := by decide +kernel
theorem d11_7 : decode prog_30_method_12_code 7 = .ok (.sipush 32767, 3) := by decide +kernel
theorem d11_10 : decode prog_30_method_12_code 10 = .ok (.iand, 1) := by decide +kernel
theorem d11_11 : decode prog_30_method_12_code 11 = .ok (.laload, 1) := by decide +kernel
theorem d11_12 : decode prog_30_method_12_code 12 = .ok (.lreturn, 1) := by decide +kernel
theorem ef_R (m : MethodId) (x0 : Addr) (x1 : Int64) : entryFrame m #[(.ref x0), (.long x1)] 3 = mkF m 0 #[.val (.ref x0), .val (.long x1), .second] [] := by first | (simp [entryFrame, mkF, argsToLocals, Value.category]; done) | rfl
set_option maxRecDepth 65536 in
set_option maxHeartbeats 40000000 in
theorem rmR (l : Launch) (Z : State) (a0 : Array Value) (hw : ∀ d ∈ tables_1, d.before a0 Z = true) (ws : List Jvm.Cond) (o ps : Addr) (x : Int64) (w : Int) (P q y : Nat) (pg : Nat → Addr) (f : Int → Int64) (r : Int64) (h0 : Heap) (n0 : Nat) (F : PW Z h0 o ps w P pg f) (I : Ix x w P q y) (hw9 : w ≤ 98304) (hr : f x.toInt = r) :
    Meets l Z (⟨"com/example/criba/criba/PagedWords", "word", "(J)J"⟩ : MethodName) prog_30_method_12_code 3 (some .long) ({ frames := 1, cells := 0, slots := 0, locals := 14 } : Room) ws #[(.ref o), (.long x)] h0 (fun v h L => v = some (.long r) ∧ Fr n0 L ∧ h = h0) := by
  refine Meets.of (plainFor_of_name (by first | (simp [plainName, overriddenIn]; done) | decide +kernel : plainName "com/example/criba/criba/PagedWords" = true)) ?_
  intro p e s m below meth c s₁ X0 hx hby hml hret hlk hnm hZ hown e0
  replace hown : s.vm.findClass "com/example/criba/criba/PagedWords" = some m.cls := hown
  have N0 := Fr.nil n0
  refine Go.cast (ef_R m o x) ?_
  show Go p e s below _ _ _ s₁ (mkF m 0 #[.val (.ref o), .val (.long x), .second] [])
  refine Go.st (fun _ kont => XS.aloadN X0.here hx rfl (hb hby d11_0) rfl rfl kont) ?_
  show Go p e s below _ _ _ s₁ (mkF m 1 #[.val (.ref o), .val (.long x), .second] [(.ref o)])
  refine Go.st (fun _ kont => XS.lloadN X0.here hx rfl (hb hby d11_1) rfl kont) ?_
  show Go p e s below _ _ _ s₁ (mkF m 2 #[.val (.ref o), .val (.long x), .second] [(.long x), (.ref o)])
  refine Go.callP (b := o) (W := 0) (argsL := [(.long x)]) (rest := []) X0 hx hZ hown (y := (⟨"com/example/criba/criba/PagedWords", "page", "(J)[J"⟩ : MethodName)) (hw _ (List.mem_of_getElem? (i := 47) rfl)) (hw _ (List.mem_of_getElem? (i := 48) rfl)) (hw _ (List.mem_of_getElem? (i := 49) rfl)) (hw _ (List.mem_of_getElem? (i := 4) rfl)) (hw _ (List.mem_of_getElem? (i := 5) rfl)) (hw _ (List.mem_of_getElem? (i := 50) rfl)) (rmP l Z a0 hw [] o ps x w P q y pg f h0 n0 F I hw9) e0 F.1 (by decide) (by decide) (by decide) (by decide) (by decide) (by rw [hml]; rfl) (lenOf pd__J__J rfl) (Nat.le_of_eq rfl) (hb hby d11_2) ?_
  intro T1 v1 L1 X1 hQ1
  obtain ⟨rfl, N1, E1⟩ := hQ1
  have M1 := Fr.app N0 N1
  show Go p e s below _ _ _ T1 (mkF m 5 #[.val (.ref o), .val (.long x), .second] [(.ref (pg q))])
  refine Go.st (fun _ kont => XS.lloadN X1.here hx rfl (hb hby d11_5) rfl kont) ?_
  show Go p e s below _ _ _ T1 (mkF m 6 #[.val (.ref o), .val (.long x), .second] [(.long x), (.ref (pg q))])
  refine Go.st (fun _ kont => XS.l2i X1.here hx rfl (hb hby d11_6) rfl kont) ?_
  show Go p e s below _ _ _ T1 (mkF m 7 #[.val (.ref o), .val (.long x), .second] [(.int (x.toInt32)), (.ref (pg q))])
  refine Go.st (fun _ kont => XT.sipushV X1.here hx rfl (32767 : Int32) (hb hby d11_7) (by decide) kont) ?_
  show Go p e s below _ _ _ T1 (mkF m 10 #[.val (.ref o), .val (.long x), .second] [(.int (32767 : Int32)), (.int (x.toInt32)), (.ref (pg q))])
  refine Go.st (fun _ kont => XS.iand X1.here hx rfl (hb hby d11_10) rfl kont) ?_
  show Go p e s below _ _ _ T1 (mkF m 11 #[.val (.ref o), .val (.long x), .second] [(.int ((x.toInt32) &&& (32767 : Int32))), (.ref (pg q))])
  have hl := own_lo I hw9
  obtain ⟨cc, Ac, hc⟩ := F.at I.1 I.2.1 I.2.2.1 I.2.2.2
  have hin := own_in hl hc
  refine Go.st (X1.laload hx (j := ((x.toInt32) &&& (32767 : Int32))) (v := .long (f x.toInt)) (by rw [E1]; exact Ac.1) (State.isArrayOf_alike hZ.alike Ac.2.1) Ac.2.2 hin (by rw [hl.1]; exact hc) (g := (mkF m 11 #[.val (.ref o), .val (.long x), .second] [(.int ((x.toInt32) &&& (32767 : Int32))), (.ref (pg q))])) rfl rfl (hb hby d11_11)) ?_
  show Go p e s below _ _ _ T1 (mkF m 12 #[.val (.ref o), .val (.long x), .second] [(.long (f x.toInt))])
  exact Go.retJ X1 hx hlk hret (hb hby d11_12) (by decide) (by decide) ⟨by rw [hr], M1, E1⟩
theorem d10_0 : decode prog_30_method_14_code 0 = .ok (.aload_n 0, 1) := by decide +kernel
theorem d10_1 : decode prog_30_method_14_code 1 = .ok (.lload_n 1, 1) := by decide +kernel
theorem d10_2 : decode prog_30_method_14_code 2 = .ok (.invokevirtual 111, 3) := by decide +kernel
theorem d10_5 : decode prog_30_method_14_code 5 = .ok (.astore 5, 2) := by decide +kernel
theorem d10_7 : decode prog_30_method_14_code 7 = .ok (.lload_n 1, 1) := by decide +kernel
theorem d10_8 : decode prog_30_method_14_code 8 = .ok (.l2i, 1) := by decide +kernel
theorem d10_9 : decode prog_30_method_14_code 9 = .ok (.sipush 32767, 3) := by decide +kernel
theorem d10_12 : decode prog_30_method_14_code 12 = .ok (.iand, 1) := by decide +kernel
theorem d10_13 : decode prog_30_method_14_code 13 = .ok (.istore 6, 2) := by decide +kernel
theorem d10_15 : decode prog_30_method_14_code 15 = .ok (.aload 5, 2) := by decide +kernel
theorem d10_17 : decode prog_30_method_14_code 17 = .ok (.iload 6, 2) := by decide +kernel
theorem d10_19 : decode prog_30_method_14_code 19 = .ok (.laload, 1) := by decide +kernel
theorem d10_20 : decode prog_30_method_14_code 20 = .ok (.lstore 7, 2) := by decide +kernel
theorem d10_22 : decode prog_30_method_14_code 22 = .ok (.aload 5, 2) := by decide +kernel
theorem d10_24 : decode prog_30_method_14_code 24 = .ok (.iload 6, 2) := by decide +kernel
theorem d10_26 : decode prog_30_method_14_code 26 = .ok (.lload 7, 2) := by decide +kernel
theorem d10_28 : decode prog_30_method_14_code 28 = .ok (.lload_n 3, 1) := by decide +kernel
theorem d10_29 : decode prog_30_method_14_code 29 = .ok (.lor, 1) := by decide +kernel
theorem d10_30 : decode prog_30_method_14_code 30 = .ok (.lastore, 1) := by decide +kernel
theorem d10_31 : decode prog_30_method_14_code 31 = .ok (.lload 7, 2) := by decide +kernel
theorem d10_33 : decode prog_30_method_14_code 33 = .ok (.lreturn, 1) := by decide +kernel
theorem ef_O (m : MethodId) (x0 : Addr) (x1 : Int64) (x2 : Int64) : entryFrame m #[(.ref x0), (.long x1), (.long x2)] 9 = mkF m 0 #[.val (.ref x0), .val (.long x1), .second, .val (.long x2), .second, .unset, .unset, .unset, .unset] [] := by first | (simp [entryFrame, mkF, argsToLocals, Value.category]; done) | rfl
set_option maxRecDepth 65536 in
set_option maxHeartbeats 40000000 in
theorem rmO (l : Launch) (Z : State) (a0 : Array Value) (hw : ∀ d ∈ tables_1, d.before a0 Z = true) (ws : List Jvm.Cond) (o ps : Addr) (x : Int64) (w : Int) (P q y : Nat) (pg : Nat → Addr) (f : Int → Int64) (v r : Int64) (h0 : Heap) (n0 : Nat) (F : PW Z h0 o ps w P pg f) (I : Ix x w P q y) (hw9 : w ≤ 98304) (gn : ∀ q : Nat, q < P → n0 ≤ pg q) (hr : f x.toInt = r) :
    Meets l Z (⟨"com/example/criba/criba/PagedWords", "orWord", "(JJ)J"⟩ : MethodName) prog_30_method_14_code 9 (some .long) ({ frames := 1, cells := 0, slots := 0, locals := 14 } : Room) ws #[(.ref o), (.long x), (.long v)] h0 (fun u h L => u = some (.long r) ∧ Fr n0 L ∧ Keep h0 h [pg q] ∧ PW Z h o ps w P pg (fun z => if z = x.toInt then (r ||| v) else f z)) := by
  refine Meets.of (plainFor_of_name (by first | (simp [plainName, overriddenIn]; done) | decide +kernel : plainName "com/example/criba/criba/PagedWords" = true)) ?_
  intro p e s m below meth c s₁ X0 hx hby hml hret hlk hnm hZ hown e0
  replace hown : s.vm.findClass "com/example/criba/criba/PagedWords" = some m.cls := hown
  have N0 := Fr.nil n0
  refine Go.cast (ef_O m o x v) ?_
  show Go p e s below _ _ _ s₁ (mkF m 0 #[.val (.ref o), .val (.long x), .second, .val (.long v), .second, .unset, .unset, .unset, .unset] [])
  refine Go.st (fun _ kont => XS.aloadN X0.here hx rfl (hb hby d10_0) rfl rfl kont) ?_
  show Go p e s below _ _ _ s₁ (mkF m 1 #[.val (.ref o), .val (.long x), .second, .val (.long v), .second, .unset, .unset, .unset, .unset] [(.ref o)])
  refine Go.st (fun _ kont => XS.lloadN X0.here hx rfl (hb hby d10_1) rfl kont) ?_
  show Go p e s below _ _ _ s₁ (mkF m 2 #[.val (.ref o), .val (.long x), .second, .val (.long v), .second, .unset, .unset, .unset, .unset] [(.long x), (.ref o)])
  refine Go.callP (b := o) (W := 0) (argsL := [(.long x)]) (rest := []) X0 hx hZ hown (y := (⟨"com/example/criba/criba/PagedWords", "page", "(J)[J"⟩ : MethodName)) (hw _ (List.mem_of_getElem? (i := 47) rfl)) (hw _ (List.mem_of_getElem? (i := 48) rfl)) (hw _ (List.mem_of_getElem? (i := 49) rfl)) (hw _ (List.mem_of_getElem? (i := 4) rfl)) (hw _ (List.mem_of_getElem? (i := 5) rfl)) (hw _ (List.mem_of_getElem? (i := 50) rfl)) (rmP l Z a0 hw [] o ps x w P q y pg f h0 n0 F I hw9) e0 F.1 (by decide) (by decide) (by decide) (by decide) (by decide) (by rw [hml]; rfl) (lenOf pd__J__J rfl) (Nat.le_of_eq rfl) (hb hby d10_2) ?_
  intro T1 v1 L1 X1 hQ1
  obtain ⟨rfl, N1, E1⟩ := hQ1
  have M1 := Fr.app N0 N1
  show Go p e s below _ _ _ T1 (mkF m 5 #[.val (.ref o), .val (.long x), .second, .val (.long v), .second, .unset, .unset, .unset, .unset] [(.ref (pg q))])
  refine Go.st (fun _ kont => XS.astore X1.here hx rfl (hb hby d10_5) rfl rfl (l' := #[.val (.ref o), .val (.long x), .second, .val (.long v), .second, .val (.ref (pg q)), .unset, .unset, .unset]) rfl kont) ?_
  show Go p e s below _ _ _ T1 (mkF m 7 #[.val (.ref o), .val (.long x), .second, .val (.long v), .second, .val (.ref (pg q)), .unset, .unset, .unset] [])
  refine Go.st (fun _ kont => XS.lloadN X1.here hx rfl (hb hby d10_7) rfl kont) ?_
  show Go p e s below _ _ _ T1 (mkF m 8 #[.val (.ref o), .val (.long x), .second, .val (.long v), .second, .val (.ref (pg q)), .unset, .unset, .unset] [(.long x)])
  refine Go.st (fun _ kont => XS.l2i X1.here hx rfl (hb hby d10_8) rfl kont) ?_
  show Go p e s below _ _ _ T1 (mkF m 9 #[.val (.ref o), .val (.long x), .second, .val (.long v), .second, .val (.ref (pg q)), .unset, .unset, .unset] [(.int (x.toInt32))])
  refine Go.st (fun _ kont => XT.sipushV X1.here hx rfl (32767 : Int32) (hb hby d10_9) (by decide) kont) ?_
  show Go p e s below _ _ _ T1 (mkF m 12 #[.val (.ref o), .val (.long x), .second, .val (.long v), .second, .val (.ref (pg q)), .unset, .unset, .unset] [(.int (32767 : Int32)), (.int (x.toInt32))])
  refine Go.st (fun _ kont => XS.iand X1.here hx rfl (hb hby d10_12) rfl kont) ?_
  show Go p e s below _ _ _ T1 (mkF m 13 #[.val (.ref o), .val (.long x), .second, .val (.long v), .second, .val (.ref (pg q)), .unset, .unset, .unset] [(.int ((x.toInt32) &&& (32767 : Int32)))])
  refine Go.st (fun _ kont => XS.istore X1.here hx rfl (hb hby d10_13) rfl (l' := #[.val (.ref o), .val (.long x), .second, .val (.long v), .second, .val (.ref (pg q)), .val (.int ((x.toInt32) &&& (32767 : Int32))), .unset, .unset]) rfl kont) ?_
  show Go p e s below _ _ _ T1 (mkF m 15 #[.val (.ref o), .val (.long x), .second, .val (.long v), .second, .val (.ref (pg q)), .val (.int ((x.toInt32) &&& (32767 : Int32))), .unset, .unset] [])
  refine Go.st (fun _ kont => XS.aload X1.here hx rfl (hb hby d10_15) rfl rfl kont) ?_
  show Go p e s below _ _ _ T1 (mkF m 17 #[.val (.ref o), .val (.long x), .second, .val (.long v), .second, .val (.ref (pg q)), .val (.int ((x.toInt32) &&& (32767 : Int32))), .unset, .unset] [(.ref (pg q))])
  refine Go.st (fun _ kont => XS.iload X1.here hx rfl (hb hby d10_17) rfl kont) ?_
  show Go p e s below _ _ _ T1 (mkF m 19 #[.val (.ref o), .val (.long x), .second, .val (.long v), .second, .val (.ref (pg q)), .val (.int ((x.toInt32) &&& (32767 : Int32))), .unset, .unset] [(.int ((x.toInt32) &&& (32767 : Int32))), (.ref (pg q))])
  have hl := own_lo I hw9
  obtain ⟨cc, Ac, hc⟩ := F.at I.1 I.2.1 I.2.2.1 I.2.2.2
  have hin := own_in hl hc
  refine Go.st (X1.laload hx (j := ((x.toInt32) &&& (32767 : Int32))) (v := .long (f x.toInt)) (by rw [E1]; exact Ac.1) (State.isArrayOf_alike hZ.alike Ac.2.1) Ac.2.2 hin (by rw [hl.1]; exact hc) (g := (mkF m 19 #[.val (.ref o), .val (.long x), .second, .val (.long v), .second, .val (.ref (pg q)), .val (.int ((x.toInt32) &&& (32767 : Int32))), .unset, .unset] [(.int ((x.toInt32) &&& (32767 : Int32))), (.ref (pg q))])) rfl rfl (hb hby d10_19)) ?_
  show Go p e s below _ _ _ T1 (mkF m 20 #[.val (.ref o), .val (.long x), .second, .val (.long v), .second, .val (.ref (pg q)), .val (.int ((x.toInt32) &&& (32767 : Int32))), .unset, .unset] [(.long (f x.toInt))])
  refine Go.st (fun _ kont => XS.lstore X1.here hx rfl (hb hby d10_20) rfl (l' := #[.val (.ref o), .val (.long x), .second, .val (.long v), .second, .val (.ref (pg q)), .val (.int ((x.toInt32) &&& (32767 : Int32))), .val (.long (f x.toInt)), .second]) rfl kont) ?_
  show Go p e s below _ _ _ T1 (mkF m 22 #[.val (.ref o), .val (.long x), .second, .val (.long v), .second, .val (.ref (pg q)), .val (.int ((x.toInt32) &&& (32767 : Int32))), .val (.long (f x.toInt)), .second] [])
  refine Go.st (fun _ kont => XS.aload X1.here hx rfl (hb hby d10_22) rfl rfl kont) ?_
  show Go p e s below _ _ _ T1 (mkF m 24 #[.val (.ref o), .val (.long x), .second, .val (.long v), .second, .val (.ref (pg q)), .val (.int ((x.toInt32) &&& (32767 : Int32))), .val (.long (f x.toInt)), .second] [(.ref (pg q))])
  refine Go.st (fun _ kont => XS.iload X1.here hx rfl (hb hby d10_24) rfl kont) ?_
  show Go p e s below _ _ _ T1 (mkF m 26 #[.val (.ref o), .val (.long x), .second, .val (.long v), .second, .val (.ref (pg q)), .val (.int ((x.toInt32) &&& (32767 : Int32))), .val (.long (f x.toInt)), .second] [(.int ((x.toInt32) &&& (32767 : Int32))), (.ref (pg q))])
  refine Go.st (fun _ kont => XS.lload X1.here hx rfl (hb hby d10_26) rfl kont) ?_
  show Go p e s below _ _ _ T1 (mkF m 28 #[.val (.ref o), .val (.long x), .second, .val (.long v), .second, .val (.ref (pg q)), .val (.int ((x.toInt32) &&& (32767 : Int32))), .val (.long (f x.toInt)), .second] [(.long (f x.toInt)), (.int ((x.toInt32) &&& (32767 : Int32))), (.ref (pg q))])
  refine Go.st (fun _ kont => XS.lloadN X1.here hx rfl (hb hby d10_28) rfl kont) ?_
  show Go p e s below _ _ _ T1 (mkF m 29 #[.val (.ref o), .val (.long x), .second, .val (.long v), .second, .val (.ref (pg q)), .val (.int ((x.toInt32) &&& (32767 : Int32))), .val (.long (f x.toInt)), .second] [(.long v), (.long (f x.toInt)), (.int ((x.toInt32) &&& (32767 : Int32))), (.ref (pg q))])
  refine Go.st (fun _ kont => XS.lor X1.here hx rfl (hb hby d10_29) rfl kont) ?_
  show Go p e s below _ _ _ T1 (mkF m 30 #[.val (.ref o), .val (.long x), .second, .val (.long v), .second, .val (.ref (pg q)), .val (.int ((x.toInt32) &&& (32767 : Int32))), .val (.long (f x.toInt)), .second] [(.long ((f x.toInt) ||| v)), (.int ((x.toInt32) &&& (32767 : Int32))), (.ref (pg q))])
  obtain ⟨T9, h9, X9, e9, W9, st9⟩ := stJ X1 hx hZ E1 Ac (j := ((x.toInt32) &&& (32767 : Int32))) hin (g := (mkF m 30 #[.val (.ref o), .val (.long x), .second, .val (.long v), .second, .val (.ref (pg q)), .val (.int ((x.toInt32) &&& (32767 : Int32))), .val (.long (f x.toInt)), .second] [(.long ((f x.toInt) ||| v)), (.int ((x.toInt32) &&& (32767 : Int32))), (.ref (pg q))])) rfl rfl (hb hby d10_30)
  rw [hl.1] at W9 X9
  refine Go.st st9 ?_
  have N9 := Fr.snoc X9 M1 (gn q I.1)
  have F9 := F.set I.1 I.2.1 I.2.2.1 W9
  have K9 := Keep.of_wr W9
  show Go p e s below _ _ _ T9 (mkF m 31 #[.val (.ref o), .val (.long x), .second, .val (.long v), .second, .val (.ref (pg q)), .val (.int ((x.toInt32) &&& (32767 : Int32))), .val (.long (f x.toInt)), .second] [])
  refine Go.st (fun _ kont => XS.lload X9.here hx rfl (hb hby d10_31) rfl kont) ?_
  show Go p e s below _ _ _ T9 (mkF m 33 #[.val (.ref o), .val (.long x), .second, .val (.long v), .second, .val (.ref (pg q)), .val (.int ((x.toInt32) &&& (32767 : Int32))), .val (.long (f x.toInt)), .second] [(.long (f x.toInt))])
  exact Go.retJ X9 hx hlk hret (hb hby d10_33) (by decide) (by decide) ⟨by rw [hr], N9, (by rw [e9]; exact K9), (by rw [e9, ← hr]; exact F9)⟩
theorem pd__J_V : parseMethodDescriptor "(J)V" = some ⟨[.long], none⟩ := by decide +kernel
theorem pd__JJ_V : parseMethodDescriptor "(JJ)V" = some ⟨[.long, .long], none⟩ := by decide +kernel
theorem ef_0 (m : MethodId) (x0 : Int64) (x1 : Int64) (x2 : Int64) (x3 : Int32) (x4 : Int32) (x5 : Int32) : entryFrame m #[(.long x0), (.long x1), (.long x2), (.int x3), (.int x4), (.int x5)] maxLocals = mkF m 0 #[.val (.long x0), .second, .val (.long x1), .second, .val (.long x2), .second, .val (.int x3), .val (.int x4), .val (.int x5), .unset, .unset, .unset, .unset, .unset, .unset, .unset, .unset, .unset, .unset, .unset, .unset, .unset] [] := by first | (simp [entryFrame, mkF, argsToLocals, Value.category, maxLocals]; done) | rfl
set_option maxRecDepth 65536 in
set_option maxHeartbeats 40000000 in
theorem rm0 (l : Launch) (Z : State) (a0 : Array Value) (hw : ∀ d ∈ tables_1, d.before a0 Z = true) (ws : List Jvm.Cond) (a mk bv : Int64) (p3 p4 p5 : Int32) (h0 : Heap) (n0 : Nat) (Z0 : n0 ≤ h0.size) :
    Meets l Z x code maxLocals ret room_1 ws #[(.long a), (.long mk), (.long bv), (.int p3), (.int p4), (.int p5)] h0 (fun v h L => v = some (.int 1) ∧ Fr n0 L) := by
  refine Meets.of (plainFor_of_name (by first | (simp [plainName, overriddenIn]; done) | decide +kernel : plainName "com/example/criba/criba/PagedWordsOrWordPinLaw" = true)) ?_
  intro p e s m below meth c s₁ X0 hx hby hml hret hlk hnm hZ hown e0
  replace hown : s.vm.findClass "com/example/criba/criba/PagedWordsOrWordPinLaw" = some m.cls := hown
  have N0 := Fr.nil n0
  have Q0 := own_extR h0
  refine Go.cast (ef_0 m a mk bv p3 p4 p5) ?_
  show Go p e s below _ _ _ s₁ (mkF m 0 #[.val (.long a), .second, .val (.long mk), .second, .val (.long bv), .second, .val (.int p3), .val (.int p4), .val (.int p5), .unset, .unset, .unset, .unset, .unset, .unset, .unset, .unset, .unset, .unset, .unset, .unset, .unset] [])
  refine Go.st (fun _ kont => XS.iload X0.here hx rfl (hb hby at_0) rfl kont) ?_
  show Go p e s below _ _ _ s₁ (mkF m 2 #[.val (.long a), .second, .val (.long mk), .second, .val (.long bv), .second, .val (.int p3), .val (.int p4), .val (.int p5), .unset, .unset, .unset, .unset, .unset, .unset, .unset, .unset, .unset, .unset, .unset, .unset, .unset] [(.int p5)])
  refine Go.st (fun _ kont => XT.iconstV X0.here hx rfl (1 : Int32) (hb hby at_2) (by decide) kont) ?_
  show Go p e s below _ _ _ s₁ (mkF m 3 #[.val (.long a), .second, .val (.long mk), .second, .val (.long bv), .second, .val (.int p3), .val (.int p4), .val (.int p5), .unset, .unset, .unset, .unset, .unset, .unset, .unset, .unset, .unset, .unset, .unset, .unset, .unset] [(.int (1 : Int32)), (.int p5)])
  refine Go.st (fun _ kont => XS.iand X0.here hx rfl (hb hby at_3) rfl kont) ?_
  show Go p e s below _ _ _ s₁ (mkF m 4 #[.val (.long a), .second, .val (.long mk), .second, .val (.long bv), .second, .val (.int p3), .val (.int p4), .val (.int p5), .unset, .unset, .unset, .unset, .unset, .unset, .unset, .unset, .unset, .unset, .unset, .unset, .unset] [(.int (p5 &&& (1 : Int32)))])
  by_cases hc4_1 : (p5 &&& (1 : Int32)) = (0 : Int32)
  · --
    refine Go.st (fun _ kont => XS.ifYes X0.here hx rfl (pc0 := 4) (pc' := 11) rfl (hb hby at_4) rfl ((if0 _ _).trans (teq hc4_1).1) (by decide) (by decide) kont) ?_
    show Go p e s below _ _ _ s₁ (mkF m 11 #[.val (.long a), .second, .val (.long mk), .second, .val (.long bv), .second, .val (.int p3), .val (.int p4), .val (.int p5), .unset, .unset, .unset, .unset, .unset, .unset, .unset, .unset, .unset, .unset, .unset, .unset, .unset] [])
    refine Go.st (fun _ kont => XT.iconstV X0.here hx rfl (0 : Int32) (hb hby at_11) (by decide) kont) ?_
    show Go p e s below _ _ _ s₁ (mkF m 12 #[.val (.long a), .second, .val (.long mk), .second, .val (.long bv), .second, .val (.int p3), .val (.int p4), .val (.int p5), .unset, .unset, .unset, .unset, .unset, .unset, .unset, .unset, .unset, .unset, .unset, .unset, .unset] [(.int (0 : Int32))])
    refine Go.st (fun _ kont => XS.istore X0.here hx rfl (hb hby at_12) rfl (l' := #[.val (.long a), .second, .val (.long mk), .second, .val (.long bv), .second, .val (.int p3), .val (.int p4), .val (.int p5), .val (.int (0 : Int32)), .unset, .unset, .unset, .unset, .unset, .unset, .unset, .unset, .unset, .unset, .unset, .unset]) rfl kont) ?_
    show Go p e s below _ _ _ s₁ (mkF m 14 #[.val (.long a), .second, .val (.long mk), .second, .val (.long bv), .second, .val (.int p3), .val (.int p4), .val (.int p5), .val (.int (0 : Int32)), .unset, .unset, .unset, .unset, .unset, .unset, .unset, .unset, .unset, .unset, .unset, .unset] [])
    refine Go.st (fun _ kont => XS.iload X0.here hx rfl (hb hby at_14) rfl kont) ?_
    show Go p e s below _ _ _ s₁ (mkF m 16 #[.val (.long a), .second, .val (.long mk), .second, .val (.long bv), .second, .val (.int p3), .val (.int p4), .val (.int p5), .val (.int (0 : Int32)), .unset, .unset, .unset, .unset, .unset, .unset, .unset, .unset, .unset, .unset, .unset, .unset] [(.int (0 : Int32))])
    refine Go.st (fun _ kont => XS.ifYes X0.here hx rfl (pc0 := 16) (pc' := 25) rfl (hb hby at_16) rfl ((if0 _ _).trans (teq rfl).1) (by decide) (by decide) kont) ?_
    show Go p e s below _ _ _ s₁ (mkF m 25 #[.val (.long a), .second, .val (.long mk), .second, .val (.long bv), .second, .val (.int p3), .val (.int p4), .val (.int p5), .val (.int (0 : Int32)), .unset, .unset, .unset, .unset, .unset, .unset, .unset, .unset, .unset, .unset, .unset, .unset] [])
    refine Go.st (fun _ kont => XT.lconstV X0.here hx rfl (1 : Int64) (hb hby at_25) (by decide) kont) ?_
    show Go p e s below _ _ _ s₁ (mkF m 26 #[.val (.long a), .second, .val (.long mk), .second, .val (.long bv), .second, .val (.int p3), .val (.int p4), .val (.int p5), .val (.int (0 : Int32)), .unset, .unset, .unset, .unset, .unset, .unset, .unset, .unset, .unset, .unset, .unset, .unset] [(.long (1 : Int64))])
    refine Go.st (fun _ kont => XS.iload X0.here hx rfl (hb hby at_26) rfl kont) ?_
    show Go p e s below _ _ _ s₁ (mkF m 28 #[.val (.long a), .second, .val (.long mk), .second, .val (.long bv), .second, .val (.int p3), .val (.int p4), .val (.int p5), .val (.int (0 : Int32)), .unset, .unset, .unset, .unset, .unset, .unset, .unset, .unset, .unset, .unset, .unset, .unset] [(.int p5), (.long (1 : Int64))])
    refine Go.st (fun _ kont => XT.iconstV X0.here hx rfl (1 : Int32) (hb hby at_28) (by decide) kont) ?_
    show Go p e s below _ _ _ s₁ (mkF m 29 #[.val (.long a), .second, .val (.long mk), .second, .val (.long bv), .second, .val (.int p3), .val (.int p4), .val (.int p5), .val (.int (0 : Int32)), .unset, .unset, .unset, .unset, .unset, .unset, .unset, .unset, .unset, .unset, .unset, .unset] [(.int (1 : Int32)), (.int p5), (.long (1 : Int64))])
    refine Go.st (fun _ kont => XS.iushr X0.here hx rfl (hb hby at_29) rfl kont) ?_
    show Go p e s below _ _ _ s₁ (mkF m 30 #[.val (.long a), .second, .val (.long mk), .second, .val (.long bv), .second, .val (.int p3), .val (.int p4), .val (.int p5), .val (.int (0 : Int32)), .unset, .unset, .unset, .unset, .unset, .unset, .unset, .unset, .unset, .unset, .unset, .unset] [(.int ((p5.toUInt32 >>> ((1 : Int32) &&& 31).toUInt32).toInt32)), (.long (1 : Int64))])
    refine Go.st (fun _ kont => XT.sipushV X0.here hx rfl (255 : Int32) (hb hby at_30) (by decide) kont) ?_
    show Go p e s below _ _ _ s₁ (mkF m 33 #[.val (.long a), .second, .val (.long mk), .second, .val (.long bv), .second, .val (.int p3), .val (.int p4), .val (.int p5), .val (.int (0 : Int32)), .unset, .unset, .unset, .unset, .unset, .unset, .unset, .unset, .unset, .unset, .unset, .unset] [(.int (255 : Int32)), (.int ((p5.toUInt32 >>> ((1 : Int32) &&& 31).toUInt32).toInt32)), (.long (1 : Int64))])
    refine Go.st (fun _ kont => XS.iand X0.here hx rfl (hb hby at_33) rfl kont) ?_
    show Go p e s below _ _ _ s₁ (mkF m 34 #[.val (.long a), .second, .val (.long mk), .second, .val (.long bv), .second, .val (.int p3), .val (.int p4), .val (.int p5), .val (.int (0 : Int32)), .unset, .unset, .unset, .unset, .unset, .unset, .unset, .unset, .unset, .unset, .unset, .unset] [(.int (((p5.toUInt32 >>> ((1 : Int32) &&& 31).toUInt32).toInt32) &&& (255 : Int32))), (.long (1 : Int64))])
    refine Go.st (fun _ kont => XS.i2l X0.here hx rfl (hb hby at_34) rfl kont) ?_
    show Go p e s below _ _ _ s₁ (mkF m 35 #[.val (.long a), .second, .val (.long mk), .second, .val (.long bv), .second, .val (.int p3), .val (.int p4), .val (.int p5), .val (.int (0 : Int32)), .unset, .unset, .unset, .unset, .unset, .unset, .unset, .unset, .unset, .unset, .unset, .unset] [(.long ((((p5.toUInt32 >>> ((1 : Int32) &&& 31).toUInt32).toInt32) &&& (255 : Int32)).toInt64)), (.long (1 : Int64))])
    refine Go.st (fun _ kont => XS.ladd X0.here hx rfl (hb hby at_35) rfl kont) ?_
    show Go p e s below _ _ _ s₁ (mkF m 36 #[.val (.long a), .second, .val (.long mk), .second, .val (.long bv), .second, .val (.int p3), .val (.int p4), .val (.int p5), .val (.int (0 : Int32)), .unset, .unset, .unset, .unset, .unset, .unset, .unset, .unset, .unset, .unset, .unset, .unset] [(.long ((1 : Int64) + ((((p5.toUInt32 >>> ((1 : Int32) &&& 31).toUInt32).toInt32) &&& (255 : Int32)).toInt64)))])
    refine Go.st (fun _ kont => XS.lstore X0.here hx rfl (hb hby at_36) rfl (l' := #[.val (.long a), .second, .val (.long mk), .second, .val (.long bv), .second, .val (.int p3), .val (.int p4), .val (.int p5), .val (.int (0 : Int32)), .val (.long ((1 : Int64) + ((((p5.toUInt32 >>> ((1 : Int32) &&& 31).toUInt32).toInt32) &&& (255 : Int32)).toInt64))), .second, .unset, .unset, .unset, .unset, .unset, .unset, .unset, .unset, .unset, .unset]) rfl kont) ?_
    show Go p e s below _ _ _ s₁ (mkF m 38 #[.val (.long a), .second, .val (.long mk), .second, .val (.long bv), .second, .val (.int p3), .val (.int p4), .val (.int p5), .val (.int (0 : Int32)), .val (.long ((1 : Int64) + ((((p5.toUInt32 >>> ((1 : Int32) &&& 31).toUInt32).toInt32) &&& (255 : Int32)).toInt64))), .second, .unset, .unset, .unset, .unset, .unset, .unset, .unset, .unset, .unset, .unset] [])
    refine Go.st (fun _ kont => XS.iload X0.here hx rfl (hb hby at_38) rfl kont) ?_
    show Go p e s below _ _ _ s₁ (mkF m 40 #[.val (.long a), .second, .val (.long mk), .second, .val (.long bv), .second, .val (.int p3), .val (.int p4), .val (.int p5), .val (.int (0 : Int32)), .val (.long ((1 : Int64) + ((((p5.toUInt32 >>> ((1 : Int32) &&& 31).toUInt32).toInt32) &&& (255 : Int32)).toInt64))), .second, .unset, .unset, .unset, .unset, .unset, .unset, .unset, .unset, .unset, .unset] [(.int (0 : Int32))])
    refine Go.st (fun _ kont => XS.ifYes X0.here hx rfl (pc0 := 40) (pc' := 49) rfl (hb hby at_40) rfl ((if0 _ _).trans (teq rfl).1) (by decide) (by decide) kont) ?_
    show Go p e s below _ _ _ s₁ (mkF m 49 #[.val (.long a), .second, .val (.long mk), .second, .val (.long bv), .second, .val (.int p3), .val (.int p4), .val (.int p5), .val (.int (0 : Int32)), .val (.long ((1 : Int64) + ((((p5.toUInt32 >>> ((1 : Int32) &&& 31).toUInt32).toInt32) &&& (255 : Int32)).toInt64))), .second, .unset, .unset, .unset, .unset, .unset, .unset, .unset, .unset, .unset, .unset] [])
    refine Go.st (fun _ kont => XS.lload X0.here hx rfl (hb hby at_49) rfl kont) ?_
    show Go p e s below _ _ _ s₁ (mkF m 51 #[.val (.long a), .second, .val (.long mk), .second, .val (.long bv), .second, .val (.int p3), .val (.int p4), .val (.int p5), .val (.int (0 : Int32)), .val (.long ((1 : Int64) + ((((p5.toUInt32 >>> ((1 : Int32) &&& 31).toUInt32).toInt32) &&& (255 : Int32)).toInt64))), .second, .unset, .unset, .unset, .unset, .unset, .unset, .unset, .unset, .unset, .unset] [(.long ((1 : Int64) + ((((p5.toUInt32 >>> ((1 : Int32) &&& 31).toUInt32).toInt32) &&& (255 : Int32)).toInt64)))])
    refine Go.st (X0.ldc2Long hx hown (mvT hZ (hw _ (List.mem_of_getElem? (i := 61) rfl))) (g := (mkF m 51 #[.val (.long a), .second, .val (.long mk), .second, .val (.long bv), .second, .val (.int p3), .val (.int p4), .val (.int p5), .val (.int (0 : Int32)), .val (.long ((1 : Int64) + ((((p5.toUInt32 >>> ((1 : Int32) &&& 31).toUInt32).toInt32) &&& (255 : Int32)).toInt64))), .second, .unset, .unset, .unset, .unset, .unset, .unset, .unset, .unset, .unset, .unset] [(.long ((1 : Int64) + ((((p5.toUInt32 >>> ((1 : Int32) &&& 31).toUInt32).toInt32) &&& (255 : Int32)).toInt64)))])) rfl (hb hby at_51)) ?_
    show Go p e s below _ _ _ s₁ (mkF m 54 #[.val (.long a), .second, .val (.long mk), .second, .val (.long bv), .second, .val (.int p3), .val (.int p4), .val (.int p5), .val (.int (0 : Int32)), .val (.long ((1 : Int64) + ((((p5.toUInt32 >>> ((1 : Int32) &&& 31).toUInt32).toInt32) &&& (255 : Int32)).toInt64))), .second, .unset, .unset, .unset, .unset, .unset, .unset, .unset, .unset, .unset, .unset] [(.long (63 : Int64)), (.long ((1 : Int64) + ((((p5.toUInt32 >>> ((1 : Int32) &&& 31).toUInt32).toInt32) &&& (255 : Int32)).toInt64)))])
    refine Go.st (fun _ kont => XS.ladd X0.here hx rfl (hb hby at_54) rfl kont) ?_
    show Go p e s below _ _ _ s₁ (mkF m 55 #[.val (.long a), .second, .val (.long mk), .second, .val (.long bv), .second, .val (.int p3), .val (.int p4), .val (.int p5), .val (.int (0 : Int32)), .val (.long ((1 : Int64) + ((((p5.toUInt32 >>> ((1 : Int32) &&& 31).toUInt32).toInt32) &&& (255 : Int32)).toInt64))), .second, .unset, .unset, .unset, .unset, .unset, .unset, .unset, .unset, .unset, .unset] [(.long (((1 : Int64) + ((((p5.toUInt32 >>> ((1 : Int32) &&& 31).toUInt32).toInt32) &&& (255 : Int32)).toInt64)) + (63 : Int64)))])
    refine Go.st (X0.ldc2Long hx hown (mvT hZ (hw _ (List.mem_of_getElem? (i := 62) rfl))) (g := (mkF m 55 #[.val (.long a), .second, .val (.long mk), .second, .val (.long bv), .second, .val (.int p3), .val (.int p4), .val (.int p5), .val (.int (0 : Int32)), .val (.long ((1 : Int64) + ((((p5.toUInt32 >>> ((1 : Int32) &&& 31).toUInt32).toInt32) &&& (255 : Int32)).toInt64))), .second, .unset, .unset, .unset, .unset, .unset, .unset, .unset, .unset, .unset, .unset] [(.long (((1 : Int64) + ((((p5.toUInt32 >>> ((1 : Int32) &&& 31).toUInt32).toInt32) &&& (255 : Int32)).toInt64)) + (63 : Int64)))])) rfl (hb hby at_55)) ?_
    show Go p e s below _ _ _ s₁ (mkF m 58 #[.val (.long a), .second, .val (.long mk), .second, .val (.long bv), .second, .val (.int p3), .val (.int p4), .val (.int p5), .val (.int (0 : Int32)), .val (.long ((1 : Int64) + ((((p5.toUInt32 >>> ((1 : Int32) &&& 31).toUInt32).toInt32) &&& (255 : Int32)).toInt64))), .second, .unset, .unset, .unset, .unset, .unset, .unset, .unset, .unset, .unset, .unset] [(.long (64 : Int64)), (.long (((1 : Int64) + ((((p5.toUInt32 >>> ((1 : Int32) &&& 31).toUInt32).toInt32) &&& (255 : Int32)).toInt64)) + (63 : Int64)))])
    refine Go.st (fun _ kont => XS.ldiv X0.here hx rfl (hb hby at_58) rfl (by decide) kont) ?_
    show Go p e s below _ _ _ s₁ (mkF m 59 #[.val (.long a), .second, .val (.long mk), .second, .val (.long bv), .second, .val (.int p3), .val (.int p4), .val (.int p5), .val (.int (0 : Int32)), .val (.long ((1 : Int64) + ((((p5.toUInt32 >>> ((1 : Int32) &&& 31).toUInt32).toInt32) &&& (255 : Int32)).toInt64))), .second, .unset, .unset, .unset, .unset, .unset, .unset, .unset, .unset, .unset, .unset] [(.long ((((1 : Int64) + ((((p5.toUInt32 >>> ((1 : Int32) &&& 31).toUInt32).toInt32) &&& (255 : Int32)).toInt64)) + (63 : Int64)) / (64 : Int64)))])
    refine Go.st (fun _ kont => XS.lstore X0.here hx rfl (hb hby at_59) rfl (l' := #[.val (.long a), .second, .val (.long mk), .second, .val (.long bv), .second, .val (.int p3), .val (.int p4), .val (.int p5), .val (.int (0 : Int32)), .val (.long ((1 : Int64) + ((((p5.toUInt32 >>> ((1 : Int32) &&& 31).toUInt32).toInt32) &&& (255 : Int32)).toInt64))), .second, .val (.long ((((1 : Int64) + ((((p5.toUInt32 >>> ((1 : Int32) &&& 31).toUInt32).toInt32) &&& (255 : Int32)).toInt64)) + (63 : Int64)) / (64 : Int64))), .second, .unset, .unset, .unset, .unset, .unset, .unset, .unset, .unset]) rfl kont) ?_
    show Go p e s below _ _ _ s₁ (mkF m 61 #[.val (.long a), .second, .val (.long mk), .second, .val (.long bv), .second, .val (.int p3), .val (.int p4), .val (.int p5), .val (.int (0 : Int32)), .val (.long ((1 : Int64) + ((((p5.toUInt32 >>> ((1 : Int32) &&& 31).toUInt32).toInt32) &&& (255 : Int32)).toInt64))), .second, .val (.long ((((1 : Int64) + ((((p5.toUInt32 >>> ((1 : Int32) &&& 31).toUInt32).toInt32) &&& (255 : Int32)).toInt64)) + (63 : Int64)) / (64 : Int64))), .second, .unset, .unset, .unset, .unset, .unset, .unset, .unset, .unset] [])
    have hbz := own_b2 p5
    rw [own_wd hbz]
    show Go p e s below _ _ _ s₁ (mkF m 61 #[.val (.long a), .second, .val (.long mk), .second, .val (.long bv), .second, .val (.int p3), .val (.int p4), .val (.int p5), .val (.int (0 : Int32)), .val (.long ((1 : Int64) + ((((p5.toUInt32 >>> ((1 : Int32) &&& 31).toUInt32).toInt32) &&& (255 : Int32)).toInt64))), .second, .val (.long (((((1 : Int64) + ((((p5.toUInt32 >>> ((1 : Int32) &&& 31).toUInt32).toInt32) &&& (255 : Int32)).toInt64)) + (63 : Int64)).toUInt64 >>> ((6 : Int32) &&& 0x3f).toInt64.toUInt64).toInt64)), .second, .unset, .unset, .unset, .unset, .unset, .unset, .unset, .unset] [])
    obtain ⟨wn, hwn⟩ : ∃ z : Int64, z = (((((1 : Int64) + ((((p5.toUInt32 >>> ((1 : Int32) &&& 31).toUInt32).toInt32) &&& (255 : Int32)).toInt64)) + (63 : Int64)).toUInt64 >>> ((6 : Int32) &&& 0x3f).toInt64.toUInt64).toInt64) := ⟨_, rfl⟩
    rw [← hwn]
    show Go p e s below _ _ _ s₁ (mkF m 61 #[.val (.long a), .second, .val (.long mk), .second, .val (.long bv), .second, .val (.int p3), .val (.int p4), .val (.int p5), .val (.int (0 : Int32)), .val (.long ((1 : Int64) + ((((p5.toUInt32 >>> ((1 : Int32) &&& 31).toUInt32).toInt32) &&& (255 : Int32)).toInt64))), .second, .val (.long wn), .second, .unset, .unset, .unset, .unset, .unset, .unset, .unset, .unset] [])
    have hw_ : wn = (((((1 : Int64) + ((((p5.toUInt32 >>> ((1 : Int32) &&& 31).toUInt32).toInt32) &&& (255 : Int32)).toInt64)) + (63 : Int64)).toUInt64 >>> ((6 : Int32) &&& 0x3f).toInt64.toUInt64).toInt64) := hwn
    have hw1 := own_words ⟨hbz.1, by omega⟩ hw_
    have hww : 0 < wn.toInt ∧ wn.toInt ≤ 98304 := ⟨by omega, by omega⟩
    refine Go.st (fun _ kont => XS.iload X0.here hx rfl (hb hby at_61) rfl kont) ?_
    show Go p e s below _ _ _ s₁ (mkF m 63 #[.val (.long a), .second, .val (.long mk), .second, .val (.long bv), .second, .val (.int p3), .val (.int p4), .val (.int p5), .val (.int (0 : Int32)), .val (.long ((1 : Int64) + ((((p5.toUInt32 >>> ((1 : Int32) &&& 31).toUInt32).toInt32) &&& (255 : Int32)).toInt64))), .second, .val (.long wn), .second, .unset, .unset, .unset, .unset, .unset, .unset, .unset, .unset] [(.int p3)])
    refine Go.st (X0.ldcInt hx hown (mvT hZ (hw _ (List.mem_of_getElem? (i := 2) rfl))) (g := (mkF m 63 #[.val (.long a), .second, .val (.long mk), .second, .val (.long bv), .second, .val (.int p3), .val (.int p4), .val (.int p5), .val (.int (0 : Int32)), .val (.long ((1 : Int64) + ((((p5.toUInt32 >>> ((1 : Int32) &&& 31).toUInt32).toInt32) &&& (255 : Int32)).toInt64))), .second, .val (.long wn), .second, .unset, .unset, .unset, .unset, .unset, .unset, .unset, .unset] [(.int p3)])) rfl (hb hby at_63)) ?_
    show Go p e s below _ _ _ s₁ (mkF m 65 #[.val (.long a), .second, .val (.long mk), .second, .val (.long bv), .second, .val (.int p3), .val (.int p4), .val (.int p5), .val (.int (0 : Int32)), .val (.long ((1 : Int64) + ((((p5.toUInt32 >>> ((1 : Int32) &&& 31).toUInt32).toInt32) &&& (255 : Int32)).toInt64))), .second, .val (.long wn), .second, .unset, .unset, .unset, .unset, .unset, .unset, .unset, .unset] [(.int (2147483647 : Int32)), (.int p3)])
    refine Go.st (fun _ kont => XS.iand X0.here hx rfl (hb hby at_65) rfl kont) ?_
    show Go p e s below _ _ _ s₁ (mkF m 66 #[.val (.long a), .second, .val (.long mk), .second, .val (.long bv), .second, .val (.int p3), .val (.int p4), .val (.int p5), .val (.int (0 : Int32)), .val (.long ((1 : Int64) + ((((p5.toUInt32 >>> ((1 : Int32) &&& 31).toUInt32).toInt32) &&& (255 : Int32)).toInt64))), .second, .val (.long wn), .second, .unset, .unset, .unset, .unset, .unset, .unset, .unset, .unset] [(.int (p3 &&& (2147483647 : Int32)))])
    refine Go.st (fun _ kont => XS.i2l X0.here hx rfl (hb hby at_66) rfl kont) ?_
    show Go p e s below _ _ _ s₁ (mkF m 67 #[.val (.long a), .second, .val (.long mk), .second, .val (.long bv), .second, .val (.int p3), .val (.int p4), .val (.int p5), .val (.int (0 : Int32)), .val (.long ((1 : Int64) + ((((p5.toUInt32 >>> ((1 : Int32) &&& 31).toUInt32).toInt32) &&& (255 : Int32)).toInt64))), .second, .val (.long wn), .second, .unset, .unset, .unset, .unset, .unset, .unset, .unset, .unset] [(.long ((p3 &&& (2147483647 : Int32)).toInt64))])
    refine Go.st (fun _ kont => XS.lload X0.here hx rfl (hb hby at_67) rfl kont) ?_
    show Go p e s below _ _ _ s₁ (mkF m 69 #[.val (.long a), .second, .val (.long mk), .second, .val (.long bv), .second, .val (.int p3), .val (.int p4), .val (.int p5), .val (.int (0 : Int32)), .val (.long ((1 : Int64) + ((((p5.toUInt32 >>> ((1 : Int32) &&& 31).toUInt32).toInt32) &&& (255 : Int32)).toInt64))), .second, .val (.long wn), .second, .unset, .unset, .unset, .unset, .unset, .unset, .unset, .unset] [(.long wn), (.long ((p3 &&& (2147483647 : Int32)).toInt64))])
    refine Go.st (fun _ kont => own_lremM X0 hx rfl (hb hby at_69) rfl (own_nz hww.1) kont) ?_
    show Go p e s below _ _ _ s₁ (mkF m 70 #[.val (.long a), .second, .val (.long mk), .second, .val (.long bv), .second, .val (.int p3), .val (.int p4), .val (.int p5), .val (.int (0 : Int32)), .val (.long ((1 : Int64) + ((((p5.toUInt32 >>> ((1 : Int32) &&& 31).toUInt32).toInt32) &&& (255 : Int32)).toInt64))), .second, .val (.long wn), .second, .unset, .unset, .unset, .unset, .unset, .unset, .unset, .unset] [(.long (((p3 &&& (2147483647 : Int32)).toInt64) % wn))])
    refine Go.st (fun _ kont => XS.lstore X0.here hx rfl (hb hby at_70) rfl (l' := #[.val (.long a), .second, .val (.long mk), .second, .val (.long bv), .second, .val (.int p3), .val (.int p4), .val (.int p5), .val (.int (0 : Int32)), .val (.long ((1 : Int64) + ((((p5.toUInt32 >>> ((1 : Int32) &&& 31).toUInt32).toInt32) &&& (255 : Int32)).toInt64))), .second, .val (.long wn), .second, .val (.long (((p3 &&& (2147483647 : Int32)).toInt64) % wn)), .second, .unset, .unset, .unset, .unset, .unset, .unset]) rfl kont) ?_
    show Go p e s below _ _ _ s₁ (mkF m 72 #[.val (.long a), .second, .val (.long mk), .second, .val (.long bv), .second, .val (.int p3), .val (.int p4), .val (.int p5), .val (.int (0 : Int32)), .val (.long ((1 : Int64) + ((((p5.toUInt32 >>> ((1 : Int32) &&& 31).toUInt32).toInt32) &&& (255 : Int32)).toInt64))), .second, .val (.long wn), .second, .val (.long (((p3 &&& (2147483647 : Int32)).toInt64) % wn)), .second, .unset, .unset, .unset, .unset, .unset, .unset] [])
    obtain ⟨i, hi⟩ : ∃ z : Int64, z = (((p3 &&& (2147483647 : Int32)).toInt64) % wn) := ⟨_, rfl⟩
    rw [← hi]
    show Go p e s below _ _ _ s₁ (mkF m 72 #[.val (.long a), .second, .val (.long mk), .second, .val (.long bv), .second, .val (.int p3), .val (.int p4), .val (.int p5), .val (.int (0 : Int32)), .val (.long ((1 : Int64) + ((((p5.toUInt32 >>> ((1 : Int32) &&& 31).toUInt32).toInt32) &&& (255 : Int32)).toInt64))), .second, .val (.long wn), .second, .val (.long i), .second, .unset, .unset, .unset, .unset, .unset, .unset] [])
    have r_i := own_lmod (own_mi _) hww.1 hi
    refine Go.st (fun _ kont => XS.iload X0.here hx rfl (hb hby at_72) rfl kont) ?_
    show Go p e s below _ _ _ s₁ (mkF m 74 #[.val (.long a), .second, .val (.long mk), .second, .val (.long bv), .second, .val (.int p3), .val (.int p4), .val (.int p5), .val (.int (0 : Int32)), .val (.long ((1 : Int64) + ((((p5.toUInt32 >>> ((1 : Int32) &&& 31).toUInt32).toInt32) &&& (255 : Int32)).toInt64))), .second, .val (.long wn), .second, .val (.long i), .second, .unset, .unset, .unset, .unset, .unset, .unset] [(.int p4)])
    refine Go.st (X0.ldcInt hx hown (mvT hZ (hw _ (List.mem_of_getElem? (i := 2) rfl))) (g := (mkF m 74 #[.val (.long a), .second, .val (.long mk), .second, .val (.long bv), .second, .val (.int p3), .val (.int p4), .val (.int p5), .val (.int (0 : Int32)), .val (.long ((1 : Int64) + ((((p5.toUInt32 >>> ((1 : Int32) &&& 31).toUInt32).toInt32) &&& (255 : Int32)).toInt64))), .second, .val (.long wn), .second, .val (.long i), .second, .unset, .unset, .unset, .unset, .unset, .unset] [(.int p4)])) rfl (hb hby at_74)) ?_
    show Go p e s below _ _ _ s₁ (mkF m 76 #[.val (.long a), .second, .val (.long mk), .second, .val (.long bv), .second, .val (.int p3), .val (.int p4), .val (.int p5), .val (.int (0 : Int32)), .val (.long ((1 : Int64) + ((((p5.toUInt32 >>> ((1 : Int32) &&& 31).toUInt32).toInt32) &&& (255 : Int32)).toInt64))), .second, .val (.long wn), .second, .val (.long i), .second, .unset, .unset, .unset, .unset, .unset, .unset] [(.int (2147483647 : Int32)), (.int p4)])
    refine Go.st (fun _ kont => XS.iand X0.here hx rfl (hb hby at_76) rfl kont) ?_
    show Go p e s below _ _ _ s₁ (mkF m 77 #[.val (.long a), .second, .val (.long mk), .second, .val (.long bv), .second, .val (.int p3), .val (.int p4), .val (.int p5), .val (.int (0 : Int32)), .val (.long ((1 : Int64) + ((((p5.toUInt32 >>> ((1 : Int32) &&& 31).toUInt32).toInt32) &&& (255 : Int32)).toInt64))), .second, .val (.long wn), .second, .val (.long i), .second, .unset, .unset, .unset, .unset, .unset, .unset] [(.int (p4 &&& (2147483647 : Int32)))])
    refine Go.st (fun _ kont => XS.i2l X0.here hx rfl (hb hby at_77) rfl kont) ?_
    show Go p e s below _ _ _ s₁ (mkF m 78 #[.val (.long a), .second, .val (.long mk), .second, .val (.long bv), .second, .val (.int p3), .val (.int p4), .val (.int p5), .val (.int (0 : Int32)), .val (.long ((1 : Int64) + ((((p5.toUInt32 >>> ((1 : Int32) &&& 31).toUInt32).toInt32) &&& (255 : Int32)).toInt64))), .second, .val (.long wn), .second, .val (.long i), .second, .unset, .unset, .unset, .unset, .unset, .unset] [(.long ((p4 &&& (2147483647 : Int32)).toInt64))])
    refine Go.st (fun _ kont => XS.lload X0.here hx rfl (hb hby at_78) rfl kont) ?_
    show Go p e s below _ _ _ s₁ (mkF m 80 #[.val (.long a), .second, .val (.long mk), .second, .val (.long bv), .second, .val (.int p3), .val (.int p4), .val (.int p5), .val (.int (0 : Int32)), .val (.long ((1 : Int64) + ((((p5.toUInt32 >>> ((1 : Int32) &&& 31).toUInt32).toInt32) &&& (255 : Int32)).toInt64))), .second, .val (.long wn), .second, .val (.long i), .second, .unset, .unset, .unset, .unset, .unset, .unset] [(.long wn), (.long ((p4 &&& (2147483647 : Int32)).toInt64))])
    refine Go.st (fun _ kont => own_lremM X0 hx rfl (hb hby at_80) rfl (own_nz hww.1) kont) ?_
    show Go p e s below _ _ _ s₁ (mkF m 81 #[.val (.long a), .second, .val (.long mk), .second, .val (.long bv), .second, .val (.int p3), .val (.int p4), .val (.int p5), .val (.int (0 : Int32)), .val (.long ((1 : Int64) + ((((p5.toUInt32 >>> ((1 : Int32) &&& 31).toUInt32).toInt32) &&& (255 : Int32)).toInt64))), .second, .val (.long wn), .second, .val (.long i), .second, .unset, .unset, .unset, .unset, .unset, .unset] [(.long (((p4 &&& (2147483647 : Int32)).toInt64) % wn))])
    refine Go.st (fun _ kont => XS.lstore X0.here hx rfl (hb hby at_81) rfl (l' := #[.val (.long a), .second, .val (.long mk), .second, .val (.long bv), .second, .val (.int p3), .val (.int p4), .val (.int p5), .val (.int (0 : Int32)), .val (.long ((1 : Int64) + ((((p5.toUInt32 >>> ((1 : Int32) &&& 31).toUInt32).toInt32) &&& (255 : Int32)).toInt64))), .second, .val (.long wn), .second, .val (.long i), .second, .val (.long (((p4 &&& (2147483647 : Int32)).toInt64) % wn)), .second, .unset, .unset, .unset, .unset]) rfl kont) ?_
    show Go p e s below _ _ _ s₁ (mkF m 83 #[.val (.long a), .second, .val (.long mk), .second, .val (.long bv), .second, .val (.int p3), .val (.int p4), .val (.int p5), .val (.int (0 : Int32)), .val (.long ((1 : Int64) + ((((p5.toUInt32 >>> ((1 : Int32) &&& 31).toUInt32).toInt32) &&& (255 : Int32)).toInt64))), .second, .val (.long wn), .second, .val (.long i), .second, .val (.long (((p4 &&& (2147483647 : Int32)).toInt64) % wn)), .second, .unset, .unset, .unset, .unset] [])
    obtain ⟨j, hj⟩ : ∃ z : Int64, z = (((p4 &&& (2147483647 : Int32)).toInt64) % wn) := ⟨_, rfl⟩
    rw [← hj]
    show Go p e s below _ _ _ s₁ (mkF m 83 #[.val (.long a), .second, .val (.long mk), .second, .val (.long bv), .second, .val (.int p3), .val (.int p4), .val (.int p5), .val (.int (0 : Int32)), .val (.long ((1 : Int64) + ((((p5.toUInt32 >>> ((1 : Int32) &&& 31).toUInt32).toInt32) &&& (255 : Int32)).toInt64))), .second, .val (.long wn), .second, .val (.long i), .second, .val (.long j), .second, .unset, .unset, .unset, .unset] [])
    have r_j := own_lmod (own_mi _) hww.1 hj
    obtain ⟨T2, h2, X2, e2, E2, A2, D2, -, st2⟩ := newO X0 hx hZ hown (hw _ (List.mem_of_getElem? (i := 3) rfl)) (hw _ (List.mem_of_getElem? (i := 4) rfl)) (hw _ (List.mem_of_getElem? (i := 5) rfl)) e0 (g := (mkF m 83 #[.val (.long a), .second, .val (.long mk), .second, .val (.long bv), .second, .val (.int p3), .val (.int p4), .val (.int p5), .val (.int (0 : Int32)), .val (.long ((1 : Int64) + ((((p5.toUInt32 >>> ((1 : Int32) &&& 31).toUInt32).toInt32) &&& (255 : Int32)).toInt64))), .second, .val (.long wn), .second, .val (.long i), .second, .val (.long j), .second, .unset, .unset, .unset, .unset] [])) rfl (hb hby at_83) (by decide) (by decide)
    obtain ⟨b2, g2⟩ : ∃ z, z = h0.size := ⟨_, rfl⟩
    rw [← g2] at A2 D2 st2
    have sz2 : h0.size ≤ b2 := Nat.le_trans Q0.1 (Nat.le_of_eq g2.symm)
    have gn2 : n0 ≤ b2 := Nat.le_trans Z0 sz2
    refine Go.st st2 ?_
    have Q_2 : Ext h0 h2 := own_extE Q0 E2
    have F_bits_b2 : Fld Z h2 b2 "com/example/criba/criba/PagedWords" "bits" "J" (.long (0 : Int64)) := D2 (Or.inr (hw _ (List.mem_of_getElem? (i := 35) rfl))) (ty := .long) (by decide)
    have F_lastWord_b2 : Fld Z h2 b2 "com/example/criba/criba/PagedWords" "lastWord" "J" (.long (0 : Int64)) := D2 (Or.inr (hw _ (List.mem_of_getElem? (i := 37) rfl))) (ty := .long) (by decide)
    have F_pages_b2 : Fld Z h2 b2 "com/example/criba/criba/PagedWords" "pages" "[[J" .null := D2 (Or.inr (hw _ (List.mem_of_getElem? (i := 39) rfl))) (ty := (.array (.array .long))) (by decide)
    have F_onlyPage_b2 : Fld Z h2 b2 "com/example/criba/criba/PagedWords" "onlyPage" "[J" .null := D2 (Or.inr (hw _ (List.mem_of_getElem? (i := 41) rfl))) (ty := (.array .long)) (by decide)
    show Go p e s below _ _ _ T2 (mkF m 86 #[.val (.long a), .second, .val (.long mk), .second, .val (.long bv), .second, .val (.int p3), .val (.int p4), .val (.int p5), .val (.int (0 : Int32)), .val (.long ((1 : Int64) + ((((p5.toUInt32 >>> ((1 : Int32) &&& 31).toUInt32).toInt32) &&& (255 : Int32)).toInt64))), .second, .val (.long wn), .second, .val (.long i), .second, .val (.long j), .second, .unset, .unset, .unset, .unset] [(.ref b2)])
    refine Go.st (fun _ kont => XS.dup X2.here hx rfl (hb hby at_86) rfl rfl kont) ?_
    show Go p e s below _ _ _ T2 (mkF m 87 #[.val (.long a), .second, .val (.long mk), .second, .val (.long bv), .second, .val (.int p3), .val (.int p4), .val (.int p5), .val (.int (0 : Int32)), .val (.long ((1 : Int64) + ((((p5.toUInt32 >>> ((1 : Int32) &&& 31).toUInt32).toInt32) &&& (255 : Int32)).toInt64))), .second, .val (.long wn), .second, .val (.long i), .second, .val (.long j), .second, .unset, .unset, .unset, .unset] [(.ref b2), (.ref b2)])
    refine Go.st (fun _ kont => XS.lload X2.here hx rfl (hb hby at_87) rfl kont) ?_
    show Go p e s below _ _ _ T2 (mkF m 89 #[.val (.long a), .second, .val (.long mk), .second, .val (.long bv), .second, .val (.int p3), .val (.int p4), .val (.int p5), .val (.int (0 : Int32)), .val (.long ((1 : Int64) + ((((p5.toUInt32 >>> ((1 : Int32) &&& 31).toUInt32).toInt32) &&& (255 : Int32)).toInt64))), .second, .val (.long wn), .second, .val (.long i), .second, .val (.long j), .second, .unset, .unset, .unset, .unset] [(.long ((1 : Int64) + ((((p5.toUInt32 >>> ((1 : Int32) &&& 31).toUInt32).toInt32) &&& (255 : Int32)).toInt64))), (.ref b2), (.ref b2)])
    refine Go.callC (b := b2) (W := 1) (argsL := [(.long ((1 : Int64) + ((((p5.toUInt32 >>> ((1 : Int32) &&& 31).toUInt32).toInt32) &&& (255 : Int32)).toInt64)))]) (rest := [(.ref b2)]) X2 hx hZ (y := (⟨"com/example/criba/criba/PagedWords", "<init>", "(J)V"⟩ : MethodName)) rfl hown (hw _ (List.mem_of_getElem? (i := 6) rfl)) (hw _ (List.mem_of_getElem? (i := 7) rfl)) (hw _ (List.mem_of_getElem? (i := 5) rfl)) (hw _ (List.mem_of_getElem? (i := 8) rfl)) (rmI l Z a0 hw [] b2 ((1 : Int64) + ((((p5.toUInt32 >>> ((1 : Int32) &&& 31).toUInt32).toInt32) &&& (255 : Int32)).toInt64)) wn h2 n0 (Nat.le_trans Z0 Q_2.1) gn2 A2 F_bits_b2 F_lastWord_b2 F_pages_b2 F_onlyPage_b2 hw_ hww.1 (by omega)) e2 (by decide) (by decide) (by decide) (by decide) (by decide) (by rw [hml]; rfl) (lenOf pd__J_V rfl) (Nat.le_of_eq rfl) (hb hby at_89) ?_
    intro T3 v3 L3 X3 hQ3
    obtain ⟨h3, e3⟩ : ∃ z, T3.heap = z := ⟨_, rfl⟩
    rw [e3] at hQ3
    obtain ⟨ps, P, pg, rfl, N3, K3, hP, F3, hge⟩ := hQ3
    have M3 := Fr.app N0 N3
    have gn : ∀ q : Nat, q < P → n0 ≤ pg q := fun q hq => Nat.le_trans Z0 (Nat.le_trans Q_2.1 (hge q hq))
    have I_i := own_ix r_i.1 r_i.2 hP
    have I_j := own_ix r_j.1 r_j.2 hP
    show Go p e s below _ _ _ T3 (mkF m 92 #[.val (.long a), .second, .val (.long mk), .second, .val (.long bv), .second, .val (.int p3), .val (.int p4), .val (.int p5), .val (.int (0 : Int32)), .val (.long ((1 : Int64) + ((((p5.toUInt32 >>> ((1 : Int32) &&& 31).toUInt32).toInt32) &&& (255 : Int32)).toInt64))), .second, .val (.long wn), .second, .val (.long i), .second, .val (.long j), .second, .unset, .unset, .unset, .unset] [(.ref b2)])
    by_cases hij : j = i
    · --
      show Go p e s below _ _ _ T3 (mkF m 92 #[.val (.long a), .second, .val (.long mk), .second, .val (.long bv), .second, .val (.int p3), .val (.int p4), .val (.int p5), .val (.int (0 : Int32)), .val (.long ((1 : Int64) + ((((p5.toUInt32 >>> ((1 : Int32) &&& 31).toUInt32).toInt32) &&& (255 : Int32)).toInt64))), .second, .val (.long wn), .second, .val (.long i), .second, .val (.long j), .second, .unset, .unset, .unset, .unset] [(.ref b2)])
      refine Go.st (fun _ kont => XS.astore X3.here hx rfl (hb hby at_92) rfl rfl (l' := #[.val (.long a), .second, .val (.long mk), .second, .val (.long bv), .second, .val (.int p3), .val (.int p4), .val (.int p5), .val (.int (0 : Int32)), .val (.long ((1 : Int64) + ((((p5.toUInt32 >>> ((1 : Int32) &&& 31).toUInt32).toInt32) &&& (255 : Int32)).toInt64))), .second, .val (.long wn), .second, .val (.long i), .second, .val (.long j), .second, .val (.ref b2), .unset, .unset, .unset]) rfl kont) ?_
      show Go p e s below _ _ _ T3 (mkF m 94 #[.val (.long a), .second, .val (.long mk), .second, .val (.long bv), .second, .val (.int p3), .val (.int p4), .val (.int p5), .val (.int (0 : Int32)), .val (.long ((1 : Int64) + ((((p5.toUInt32 >>> ((1 : Int32) &&& 31).toUInt32).toInt32) &&& (255 : Int32)).toInt64))), .second, .val (.long wn), .second, .val (.long i), .second, .val (.long j), .second, .val (.ref b2), .unset, .unset, .unset] [])
      refine Go.st (fun _ kont => XS.aload X3.here hx rfl (hb hby at_94) rfl rfl kont) ?_
      show Go p e s below _ _ _ T3 (mkF m 96 #[.val (.long a), .second, .val (.long mk), .second, .val (.long bv), .second, .val (.int p3), .val (.int p4), .val (.int p5), .val (.int (0 : Int32)), .val (.long ((1 : Int64) + ((((p5.toUInt32 >>> ((1 : Int32) &&& 31).toUInt32).toInt32) &&& (255 : Int32)).toInt64))), .second, .val (.long wn), .second, .val (.long i), .second, .val (.long j), .second, .val (.ref b2), .unset, .unset, .unset] [(.ref b2)])
      refine Go.st (fun _ kont => XS.lload X3.here hx rfl (hb hby at_96) rfl kont) ?_
      show Go p e s below _ _ _ T3 (mkF m 98 #[.val (.long a), .second, .val (.long mk), .second, .val (.long bv), .second, .val (.int p3), .val (.int p4), .val (.int p5), .val (.int (0 : Int32)), .val (.long ((1 : Int64) + ((((p5.toUInt32 >>> ((1 : Int32) &&& 31).toUInt32).toInt32) &&& (255 : Int32)).toInt64))), .second, .val (.long wn), .second, .val (.long i), .second, .val (.long j), .second, .val (.ref b2), .unset, .unset, .unset] [(.long j), (.ref b2)])
      refine Go.st (fun _ kont => XS.lload X3.here hx rfl (hb hby at_98) rfl kont) ?_
      show Go p e s below _ _ _ T3 (mkF m 100 #[.val (.long a), .second, .val (.long mk), .second, .val (.long bv), .second, .val (.int p3), .val (.int p4), .val (.int p5), .val (.int (0 : Int32)), .val (.long ((1 : Int64) + ((((p5.toUInt32 >>> ((1 : Int32) &&& 31).toUInt32).toInt32) &&& (255 : Int32)).toInt64))), .second, .val (.long wn), .second, .val (.long i), .second, .val (.long j), .second, .val (.ref b2), .unset, .unset, .unset] [(.long bv), (.long j), (.ref b2)])
      refine Go.callV (b := b2) (W := 0) (argsL := [(.long j), (.long bv)]) (rest := []) X3 hx hZ hown (y := (⟨"com/example/criba/criba/PagedWords", "setWord", "(JJ)V"⟩ : MethodName)) (z := (⟨"com/example/criba/criba/PagedWords", "setWord", "(JJ)V"⟩ : MethodName)) (hw _ (List.mem_of_getElem? (i := 42) rfl)) (hw _ (List.mem_of_getElem? (i := 43) rfl)) (notFace_of_selects (args := #[]) (mvT hZ (hw _ (List.mem_of_getElem? (i := 45) rfl)))) (hw _ (List.mem_of_getElem? (i := 45) rfl)) (hw _ (List.mem_of_getElem? (i := 44) rfl)) (hw _ (List.mem_of_getElem? (i := 5) rfl)) (hw _ (List.mem_of_getElem? (i := 46) rfl)) (rmS l Z a0 hw [] b2 ps j wn.toInt P (j.toInt / 32768).toNat (j.toInt % 32768).toNat pg (fun _ => (0 : Int64)) bv h3 n0 F3 I_j hww.2 gn) e3 F3.1 (by decide) (by decide) (by decide) (by decide) (by decide) (by rw [hml]; rfl) (lenOf pd__JJ_V rfl) (Nat.le_of_eq rfl) (hb hby at_100) ?_
      intro T4 v4 L4 X4 hQ4
      obtain ⟨h4, e4⟩ : ∃ z, T4.heap = z := ⟨_, rfl⟩
      rw [e4] at hQ4
      obtain ⟨rfl, N4, K4, F4⟩ := hQ4
      have M4 := Fr.app M3 N4
      show Go p e s below _ _ _ T4 (mkF m 103 #[.val (.long a), .second, .val (.long mk), .second, .val (.long bv), .second, .val (.int p3), .val (.int p4), .val (.int p5), .val (.int (0 : Int32)), .val (.long ((1 : Int64) + ((((p5.toUInt32 >>> ((1 : Int32) &&& 31).toUInt32).toInt32) &&& (255 : Int32)).toInt64))), .second, .val (.long wn), .second, .val (.long i), .second, .val (.long j), .second, .val (.ref b2), .unset, .unset, .unset] [])
      refine Go.st (fun _ kont => XS.aload X4.here hx rfl (hb hby at_103) rfl rfl kont) ?_
      show Go p e s below _ _ _ T4 (mkF m 105 #[.val (.long a), .second, .val (.long mk), .second, .val (.long bv), .second, .val (.int p3), .val (.int p4), .val (.int p5), .val (.int (0 : Int32)), .val (.long ((1 : Int64) + ((((p5.toUInt32 >>> ((1 : Int32) &&& 31).toUInt32).toInt32) &&& (255 : Int32)).toInt64))), .second, .val (.long wn), .second, .val (.long i), .second, .val (.long j), .second, .val (.ref b2), .unset, .unset, .unset] [(.ref b2)])
      refine Go.st (fun _ kont => XS.lload X4.here hx rfl (hb hby at_105) rfl kont) ?_
      show Go p e s below _ _ _ T4 (mkF m 107 #[.val (.long a), .second, .val (.long mk), .second, .val (.long bv), .second, .val (.int p3), .val (.int p4), .val (.int p5), .val (.int (0 : Int32)), .val (.long ((1 : Int64) + ((((p5.toUInt32 >>> ((1 : Int32) &&& 31).toUInt32).toInt32) &&& (255 : Int32)).toInt64))), .second, .val (.long wn), .second, .val (.long i), .second, .val (.long j), .second, .val (.ref b2), .unset, .unset, .unset] [(.long i), (.ref b2)])
      refine Go.st (fun _ kont => XS.lloadN X4.here hx rfl (hb hby at_107) rfl kont) ?_
      show Go p e s below _ _ _ T4 (mkF m 108 #[.val (.long a), .second, .val (.long mk), .second, .val (.long bv), .second, .val (.int p3), .val (.int p4), .val (.int p5), .val (.int (0 : Int32)), .val (.long ((1 : Int64) + ((((p5.toUInt32 >>> ((1 : Int32) &&& 31).toUInt32).toInt32) &&& (255 : Int32)).toInt64))), .second, .val (.long wn), .second, .val (.long i), .second, .val (.long j), .second, .val (.ref b2), .unset, .unset, .unset] [(.long a), (.long i), (.ref b2)])
      refine Go.callV (b := b2) (W := 0) (argsL := [(.long i), (.long a)]) (rest := []) X4 hx hZ hown (y := (⟨"com/example/criba/criba/PagedWords", "setWord", "(JJ)V"⟩ : MethodName)) (z := (⟨"com/example/criba/criba/PagedWords", "setWord", "(JJ)V"⟩ : MethodName)) (hw _ (List.mem_of_getElem? (i := 42) rfl)) (hw _ (List.mem_of_getElem? (i := 43) rfl)) (notFace_of_selects (args := #[]) (mvT hZ (hw _ (List.mem_of_getElem? (i := 45) rfl)))) (hw _ (List.mem_of_getElem? (i := 45) rfl)) (hw _ (List.mem_of_getElem? (i := 44) rfl)) (hw _ (List.mem_of_getElem? (i := 5) rfl)) (hw _ (List.mem_of_getElem? (i := 46) rfl)) (rmS l Z a0 hw [] b2 ps i wn.toInt P (i.toInt / 32768).toNat (i.toInt % 32768).toNat pg (fun z => if z = j.toInt then bv else (fun _ => (0 : Int64)) z) a h4 n0 F4 I_i hww.2 gn) e4 F4.1 (by decide) (by decide) (by decide) (by decide) (by decide) (by rw [hml]; rfl) (lenOf pd__JJ_V rfl) (Nat.le_of_eq rfl) (hb hby at_108) ?_
      intro T5 v5 L5 X5 hQ5
      obtain ⟨h5, e5⟩ : ∃ z, T5.heap = z := ⟨_, rfl⟩
      rw [e5] at hQ5
      obtain ⟨rfl, N5, K5, F5⟩ := hQ5
      have M5 := Fr.app M4 N5
      show Go p e s below _ _ _ T5 (mkF m 111 #[.val (.long a), .second, .val (.long mk), .second, .val (.long bv), .second, .val (.int p3), .val (.int p4), .val (.int p5), .val (.int (0 : Int32)), .val (.long ((1 : Int64) + ((((p5.toUInt32 >>> ((1 : Int32) &&& 31).toUInt32).toInt32) &&& (255 : Int32)).toInt64))), .second, .val (.long wn), .second, .val (.long i), .second, .val (.long j), .second, .val (.ref b2), .unset, .unset, .unset] [])
      refine Go.st (fun _ kont => XS.aload X5.here hx rfl (hb hby at_111) rfl rfl kont) ?_
      show Go p e s below _ _ _ T5 (mkF m 113 #[.val (.long a), .second, .val (.long mk), .second, .val (.long bv), .second, .val (.int p3), .val (.int p4), .val (.int p5), .val (.int (0 : Int32)), .val (.long ((1 : Int64) + ((((p5.toUInt32 >>> ((1 : Int32) &&& 31).toUInt32).toInt32) &&& (255 : Int32)).toInt64))), .second, .val (.long wn), .second, .val (.long i), .second, .val (.long j), .second, .val (.ref b2), .unset, .unset, .unset] [(.ref b2)])
      refine Go.st (fun _ kont => XS.lload X5.here hx rfl (hb hby at_113) rfl kont) ?_
      show Go p e s below _ _ _ T5 (mkF m 115 #[.val (.long a), .second, .val (.long mk), .second, .val (.long bv), .second, .val (.int p3), .val (.int p4), .val (.int p5), .val (.int (0 : Int32)), .val (.long ((1 : Int64) + ((((p5.toUInt32 >>> ((1 : Int32) &&& 31).toUInt32).toInt32) &&& (255 : Int32)).toInt64))), .second, .val (.long wn), .second, .val (.long i), .second, .val (.long j), .second, .val (.ref b2), .unset, .unset, .unset] [(.long i), (.ref b2)])
      refine Go.st (fun _ kont => XS.lloadN X5.here hx rfl (hb hby at_115) rfl kont) ?_
      show Go p e s below _ _ _ T5 (mkF m 116 #[.val (.long a), .second, .val (.long mk), .second, .val (.long bv), .second, .val (.int p3), .val (.int p4), .val (.int p5), .val (.int (0 : Int32)), .val (.long ((1 : Int64) + ((((p5.toUInt32 >>> ((1 : Int32) &&& 31).toUInt32).toInt32) &&& (255 : Int32)).toInt64))), .second, .val (.long wn), .second, .val (.long i), .second, .val (.long j), .second, .val (.ref b2), .unset, .unset, .unset] [(.long mk), (.long i), (.ref b2)])
      refine Go.callV (b := b2) (W := 0) (argsL := [(.long i), (.long mk)]) (rest := []) X5 hx hZ hown (y := (⟨"com/example/criba/criba/PagedWords", "orWord", "(JJ)J"⟩ : MethodName)) (z := (⟨"com/example/criba/criba/PagedWords", "orWord", "(JJ)J"⟩ : MethodName)) (hw _ (List.mem_of_getElem? (i := 51) rfl)) (hw _ (List.mem_of_getElem? (i := 52) rfl)) (notFace_of_selects (args := #[]) (mvT hZ (hw _ (List.mem_of_getElem? (i := 54) rfl)))) (hw _ (List.mem_of_getElem? (i := 54) rfl)) (hw _ (List.mem_of_getElem? (i := 53) rfl)) (hw _ (List.mem_of_getElem? (i := 5) rfl)) (hw _ (List.mem_of_getElem? (i := 55) rfl)) (rmO l Z a0 hw [] b2 ps i wn.toInt P (i.toInt / 32768).toNat (i.toInt % 32768).toNat pg (fun z => if z = i.toInt then a else (fun z => if z = j.toInt then bv else (fun _ => (0 : Int64)) z) z) mk a h5 n0 F5 I_i hww.2 gn (if_pos rfl)) e5 F5.1 (by decide) (by decide) (by decide) (by decide) (by decide) (by rw [hml]; rfl) (lenOf pd__JJ_J rfl) (Nat.le_of_eq rfl) (hb hby at_116) ?_
      intro T6 v6 L6 X6 hQ6
      obtain ⟨h6, e6⟩ : ∃ z, T6.heap = z := ⟨_, rfl⟩
      rw [e6] at hQ6
      obtain ⟨rfl, N6, K6, F6⟩ := hQ6
      have M6 := Fr.app M5 N6
      show Go p e s below _ _ _ T6 (mkF m 119 #[.val (.long a), .second, .val (.long mk), .second, .val (.long bv), .second, .val (.int p3), .val (.int p4), .val (.int p5), .val (.int (0 : Int32)), .val (.long ((1 : Int64) + ((((p5.toUInt32 >>> ((1 : Int32) &&& 31).toUInt32).toInt32) &&& (255 : Int32)).toInt64))), .second, .val (.long wn), .second, .val (.long i), .second, .val (.long j), .second, .val (.ref b2), .unset, .unset, .unset] [(.long a)])
      refine Go.st (fun _ kont => XS.lstore X6.here hx rfl (hb hby at_119) rfl (l' := #[.val (.long a), .second, .val (.long mk), .second, .val (.long bv), .second, .val (.int p3), .val (.int p4), .val (.int p5), .val (.int (0 : Int32)), .val (.long ((1 : Int64) + ((((p5.toUInt32 >>> ((1 : Int32) &&& 31).toUInt32).toInt32) &&& (255 : Int32)).toInt64))), .second, .val (.long wn), .second, .val (.long i), .second, .val (.long j), .second, .val (.ref b2), .val (.long a), .second, .unset]) rfl kont) ?_
      show Go p e s below _ _ _ T6 (mkF m 121 #[.val (.long a), .second, .val (.long mk), .second, .val (.long bv), .second, .val (.int p3), .val (.int p4), .val (.int p5), .val (.int (0 : Int32)), .val (.long ((1 : Int64) + ((((p5.toUInt32 >>> ((1 : Int32) &&& 31).toUInt32).toInt32) &&& (255 : Int32)).toInt64))), .second, .val (.long wn), .second, .val (.long i), .second, .val (.long j), .second, .val (.ref b2), .val (.long a), .second, .unset] [])
      refine Go.st (fun _ kont => XS.lload X6.here hx rfl (hb hby at_121) rfl kont) ?_
      show Go p e s below _ _ _ T6 (mkF m 123 #[.val (.long a), .second, .val (.long mk), .second, .val (.long bv), .second, .val (.int p3), .val (.int p4), .val (.int p5), .val (.int (0 : Int32)), .val (.long ((1 : Int64) + ((((p5.toUInt32 >>> ((1 : Int32) &&& 31).toUInt32).toInt32) &&& (255 : Int32)).toInt64))), .second, .val (.long wn), .second, .val (.long i), .second, .val (.long j), .second, .val (.ref b2), .val (.long a), .second, .unset] [(.long a)])
      refine Go.st (fun _ kont => XS.lloadN X6.here hx rfl (hb hby at_123) rfl kont) ?_
      show Go p e s below _ _ _ T6 (mkF m 124 #[.val (.long a), .second, .val (.long mk), .second, .val (.long bv), .second, .val (.int p3), .val (.int p4), .val (.int p5), .val (.int (0 : Int32)), .val (.long ((1 : Int64) + ((((p5.toUInt32 >>> ((1 : Int32) &&& 31).toUInt32).toInt32) &&& (255 : Int32)).toInt64))), .second, .val (.long wn), .second, .val (.long i), .second, .val (.long j), .second, .val (.ref b2), .val (.long a), .second, .unset] [(.long a), (.long a)])
      refine Go.st (fun _ kont => XS.lcmp X6.here hx rfl (hb hby at_124) rfl kont) ?_
      show Go p e s below _ _ _ T6 (mkF m 125 #[.val (.long a), .second, .val (.long mk), .second, .val (.long bv), .second, .val (.int p3), .val (.int p4), .val (.int p5), .val (.int (0 : Int32)), .val (.long ((1 : Int64) + ((((p5.toUInt32 >>> ((1 : Int32) &&& 31).toUInt32).toInt32) &&& (255 : Int32)).toInt64))), .second, .val (.long wn), .second, .val (.long i), .second, .val (.long j), .second, .val (.ref b2), .val (.long a), .second, .unset] [(.int (lcmpW a a))])
      refine Go.st (fun _ kont => XS.ifNo X6.here hx rfl (hb hby at_125) rfl ((if0 _ _).trans (teq ((lw_eq _ _).mpr rfl)).2) kont) ?_
      show Go p e s below _ _ _ T6 (mkF m 128 #[.val (.long a), .second, .val (.long mk), .second, .val (.long bv), .second, .val (.int p3), .val (.int p4), .val (.int p5), .val (.int (0 : Int32)), .val (.long ((1 : Int64) + ((((p5.toUInt32 >>> ((1 : Int32) &&& 31).toUInt32).toInt32) &&& (255 : Int32)).toInt64))), .second, .val (.long wn), .second, .val (.long i), .second, .val (.long j), .second, .val (.ref b2), .val (.long a), .second, .unset] [])
      refine Go.st (fun _ kont => XS.aload X6.here hx rfl (hb hby at_128) rfl rfl kont) ?_
      show Go p e s below _ _ _ T6 (mkF m 130 #[.val (.long a), .second, .val (.long mk), .second, .val (.long bv), .second, .val (.int p3), .val (.int p4), .val (.int p5), .val (.int (0 : Int32)), .val (.long ((1 : Int64) + ((((p5.toUInt32 >>> ((1 : Int32) &&& 31).toUInt32).toInt32) &&& (255 : Int32)).toInt64))), .second, .val (.long wn), .second, .val (.long i), .second, .val (.long j), .second, .val (.ref b2), .val (.long a), .second, .unset] [(.ref b2)])
      refine Go.st (fun _ kont => XS.lload X6.here hx rfl (hb hby at_130) rfl kont) ?_
      show Go p e s below _ _ _ T6 (mkF m 132 #[.val (.long a), .second, .val (.long mk), .second, .val (.long bv), .second, .val (.int p3), .val (.int p4), .val (.int p5), .val (.int (0 : Int32)), .val (.long ((1 : Int64) + ((((p5.toUInt32 >>> ((1 : Int32) &&& 31).toUInt32).toInt32) &&& (255 : Int32)).toInt64))), .second, .val (.long wn), .second, .val (.long i), .second, .val (.long j), .second, .val (.ref b2), .val (.long a), .second, .unset] [(.long i), (.ref b2)])
      refine Go.callV (b := b2) (W := 0) (argsL := [(.long i)]) (rest := []) X6 hx hZ hown (y := (⟨"com/example/criba/criba/PagedWords", "word", "(J)J"⟩ : MethodName)) (z := (⟨"com/example/criba/criba/PagedWords", "word", "(J)J"⟩ : MethodName)) (hw _ (List.mem_of_getElem? (i := 56) rfl)) (hw _ (List.mem_of_getElem? (i := 57) rfl)) (notFace_of_selects (args := #[]) (mvT hZ (hw _ (List.mem_of_getElem? (i := 59) rfl)))) (hw _ (List.mem_of_getElem? (i := 59) rfl)) (hw _ (List.mem_of_getElem? (i := 58) rfl)) (hw _ (List.mem_of_getElem? (i := 5) rfl)) (hw _ (List.mem_of_getElem? (i := 60) rfl)) (rmR l Z a0 hw [] b2 ps i wn.toInt P (i.toInt / 32768).toNat (i.toInt % 32768).toNat pg (fun z => if z = i.toInt then (a ||| mk) else (fun z => if z = i.toInt then a else (fun z => if z = j.toInt then bv else (fun _ => (0 : Int64)) z) z) z) (a ||| mk) h6 n0 F6 I_i hww.2 (if_pos rfl)) e6 F6.1 (by decide) (by decide) (by decide) (by decide) (by decide) (by rw [hml]; rfl) (lenOf pd__J_J rfl) (Nat.le_of_eq rfl) (hb hby at_132) ?_
      intro T7 v7 L7 X7 hQ7
      obtain ⟨rfl, N7, E7⟩ := hQ7
      have M7 := Fr.app M6 N7
      show Go p e s below _ _ _ T7 (mkF m 135 #[.val (.long a), .second, .val (.long mk), .second, .val (.long bv), .second, .val (.int p3), .val (.int p4), .val (.int p5), .val (.int (0 : Int32)), .val (.long ((1 : Int64) + ((((p5.toUInt32 >>> ((1 : Int32) &&& 31).toUInt32).toInt32) &&& (255 : Int32)).toInt64))), .second, .val (.long wn), .second, .val (.long i), .second, .val (.long j), .second, .val (.ref b2), .val (.long a), .second, .unset] [(.long (a ||| mk))])
      refine Go.st (fun _ kont => XS.lloadN X7.here hx rfl (hb hby at_135) rfl kont) ?_
      show Go p e s below _ _ _ T7 (mkF m 136 #[.val (.long a), .second, .val (.long mk), .second, .val (.long bv), .second, .val (.int p3), .val (.int p4), .val (.int p5), .val (.int (0 : Int32)), .val (.long ((1 : Int64) + ((((p5.toUInt32 >>> ((1 : Int32) &&& 31).toUInt32).toInt32) &&& (255 : Int32)).toInt64))), .second, .val (.long wn), .second, .val (.long i), .second, .val (.long j), .second, .val (.ref b2), .val (.long a), .second, .unset] [(.long a), (.long (a ||| mk))])
      refine Go.st (fun _ kont => XS.lloadN X7.here hx rfl (hb hby at_136) rfl kont) ?_
      show Go p e s below _ _ _ T7 (mkF m 137 #[.val (.long a), .second, .val (.long mk), .second, .val (.long bv), .second, .val (.int p3), .val (.int p4), .val (.int p5), .val (.int (0 : Int32)), .val (.long ((1 : Int64) + ((((p5.toUInt32 >>> ((1 : Int32) &&& 31).toUInt32).toInt32) &&& (255 : Int32)).toInt64))), .second, .val (.long wn), .second, .val (.long i), .second, .val (.long j), .second, .val (.ref b2), .val (.long a), .second, .unset] [(.long mk), (.long a), (.long (a ||| mk))])
      refine Go.st (fun _ kont => XS.lor X7.here hx rfl (hb hby at_137) rfl kont) ?_
      show Go p e s below _ _ _ T7 (mkF m 138 #[.val (.long a), .second, .val (.long mk), .second, .val (.long bv), .second, .val (.int p3), .val (.int p4), .val (.int p5), .val (.int (0 : Int32)), .val (.long ((1 : Int64) + ((((p5.toUInt32 >>> ((1 : Int32) &&& 31).toUInt32).toInt32) &&& (255 : Int32)).toInt64))), .second, .val (.long wn), .second, .val (.long i), .second, .val (.long j), .second, .val (.ref b2), .val (.long a), .second, .unset] [(.long (a ||| mk)), (.long (a ||| mk))])
      refine Go.st (fun _ kont => XS.lcmp X7.here hx rfl (hb hby at_138) rfl kont) ?_
      show Go p e s below _ _ _ T7 (mkF m 139 #[.val (.long a), .second, .val (.long mk), .second, .val (.long bv), .second, .val (.int p3), .val (.int p4), .val (.int p5), .val (.int (0 : Int32)), .val (.long ((1 : Int64) + ((((p5.toUInt32 >>> ((1 : Int32) &&& 31).toUInt32).toInt32) &&& (255 : Int32)).toInt64))), .second, .val (.long wn), .second, .val (.long i), .second, .val (.long j), .second, .val (.ref b2), .val (.long a), .second, .unset] [(.int (lcmpW (a ||| mk) (a ||| mk)))])
      refine Go.st (fun _ kont => XS.ifNo X7.here hx rfl (hb hby at_139) rfl ((if0 _ _).trans (teq ((lw_eq _ _).mpr rfl)).2) kont) ?_
      show Go p e s below _ _ _ T7 (mkF m 142 #[.val (.long a), .second, .val (.long mk), .second, .val (.long bv), .second, .val (.int p3), .val (.int p4), .val (.int p5), .val (.int (0 : Int32)), .val (.long ((1 : Int64) + ((((p5.toUInt32 >>> ((1 : Int32) &&& 31).toUInt32).toInt32) &&& (255 : Int32)).toInt64))), .second, .val (.long wn), .second, .val (.long i), .second, .val (.long j), .second, .val (.ref b2), .val (.long a), .second, .unset] [])
      refine Go.st (fun _ kont => XT.iconstV X7.here hx rfl (1 : Int32) (hb hby at_142) (by decide) kont) ?_
      show Go p e s below _ _ _ T7 (mkF m 143 #[.val (.long a), .second, .val (.long mk), .second, .val (.long bv), .second, .val (.int p3), .val (.int p4), .val (.int p5), .val (.int (0 : Int32)), .val (.long ((1 : Int64) + ((((p5.toUInt32 >>> ((1 : Int32) &&& 31).toUInt32).toInt32) &&& (255 : Int32)).toInt64))), .second, .val (.long wn), .second, .val (.long i), .second, .val (.long j), .second, .val (.ref b2), .val (.long a), .second, .unset] [(.int (1 : Int32))])
      refine Go.st (fun _ kont => XS.goto X7.here hx rfl (pc0 := 143) (pc' := 147) rfl (hb hby at_143) (by decide) (by decide) kont) ?_
      show Go p e s below _ _ _ T7 (mkF m 147 #[.val (.long a), .second, .val (.long mk), .second, .val (.long bv), .second, .val (.int p3), .val (.int p4), .val (.int p5), .val (.int (0 : Int32)), .val (.long ((1 : Int64) + ((((p5.toUInt32 >>> ((1 : Int32) &&& 31).toUInt32).toInt32) &&& (255 : Int32)).toInt64))), .second, .val (.long wn), .second, .val (.long i), .second, .val (.long j), .second, .val (.ref b2), .val (.long a), .second, .unset] [(.int (1 : Int32))])
      refine Go.st (fun _ kont => XS.istore X7.here hx rfl (hb hby at_147) rfl (l' := #[.val (.long a), .second, .val (.long mk), .second, .val (.long bv), .second, .val (.int p3), .val (.int p4), .val (.int p5), .val (.int (0 : Int32)), .val (.long ((1 : Int64) + ((((p5.toUInt32 >>> ((1 : Int32) &&& 31).toUInt32).toInt32) &&& (255 : Int32)).toInt64))), .second, .val (.long wn), .second, .val (.long i), .second, .val (.long j), .second, .val (.ref b2), .val (.long a), .second, .val (.int (1 : Int32))]) rfl kont) ?_
      show Go p e s below _ _ _ T7 (mkF m 149 #[.val (.long a), .second, .val (.long mk), .second, .val (.long bv), .second, .val (.int p3), .val (.int p4), .val (.int p5), .val (.int (0 : Int32)), .val (.long ((1 : Int64) + ((((p5.toUInt32 >>> ((1 : Int32) &&& 31).toUInt32).toInt32) &&& (255 : Int32)).toInt64))), .second, .val (.long wn), .second, .val (.long i), .second, .val (.long j), .second, .val (.ref b2), .val (.long a), .second, .val (.int (1 : Int32))] [])
      refine Go.st (fun _ kont => XS.lload X7.here hx rfl (hb hby at_149) rfl kont) ?_
      show Go p e s below _ _ _ T7 (mkF m 151 #[.val (.long a), .second, .val (.long mk), .second, .val (.long bv), .second, .val (.int p3), .val (.int p4), .val (.int p5), .val (.int (0 : Int32)), .val (.long ((1 : Int64) + ((((p5.toUInt32 >>> ((1 : Int32) &&& 31).toUInt32).toInt32) &&& (255 : Int32)).toInt64))), .second, .val (.long wn), .second, .val (.long i), .second, .val (.long j), .second, .val (.ref b2), .val (.long a), .second, .val (.int (1 : Int32))] [(.long j)])
      refine Go.st (fun _ kont => XS.lload X7.here hx rfl (hb hby at_151) rfl kont) ?_
      show Go p e s below _ _ _ T7 (mkF m 153 #[.val (.long a), .second, .val (.long mk), .second, .val (.long bv), .second, .val (.int p3), .val (.int p4), .val (.int p5), .val (.int (0 : Int32)), .val (.long ((1 : Int64) + ((((p5.toUInt32 >>> ((1 : Int32) &&& 31).toUInt32).toInt32) &&& (255 : Int32)).toInt64))), .second, .val (.long wn), .second, .val (.long i), .second, .val (.long j), .second, .val (.ref b2), .val (.long a), .second, .val (.int (1 : Int32))] [(.long i), (.long j)])
      refine Go.st (fun _ kont => XS.lcmp X7.here hx rfl (hb hby at_153) rfl kont) ?_
      show Go p e s below _ _ _ T7 (mkF m 154 #[.val (.long a), .second, .val (.long mk), .second, .val (.long bv), .second, .val (.int p3), .val (.int p4), .val (.int p5), .val (.int (0 : Int32)), .val (.long ((1 : Int64) + ((((p5.toUInt32 >>> ((1 : Int32) &&& 31).toUInt32).toInt32) &&& (255 : Int32)).toInt64))), .second, .val (.long wn), .second, .val (.long i), .second, .val (.long j), .second, .val (.ref b2), .val (.long a), .second, .val (.int (1 : Int32))] [(.int (lcmpW j i))])
      refine Go.st (fun _ kont => XS.ifYes X7.here hx rfl (pc0 := 154) (pc' := 182) rfl (hb hby at_154) rfl ((if0 _ _).trans (teq ((lw_eq _ _).mpr hij)).1) (by decide) (by decide) kont) ?_
      show Go p e s below _ _ _ T7 (mkF m 182 #[.val (.long a), .second, .val (.long mk), .second, .val (.long bv), .second, .val (.int p3), .val (.int p4), .val (.int p5), .val (.int (0 : Int32)), .val (.long ((1 : Int64) + ((((p5.toUInt32 >>> ((1 : Int32) &&& 31).toUInt32).toInt32) &&& (255 : Int32)).toInt64))), .second, .val (.long wn), .second, .val (.long i), .second, .val (.long j), .second, .val (.ref b2), .val (.long a), .second, .val (.int (1 : Int32))] [])
      refine Go.st (fun _ kont => XS.iload X7.here hx rfl (hb hby at_182) rfl kont) ?_
      show Go p e s below _ _ _ T7 (mkF m 184 #[.val (.long a), .second, .val (.long mk), .second, .val (.long bv), .second, .val (.int p3), .val (.int p4), .val (.int p5), .val (.int (0 : Int32)), .val (.long ((1 : Int64) + ((((p5.toUInt32 >>> ((1 : Int32) &&& 31).toUInt32).toInt32) &&& (255 : Int32)).toInt64))), .second, .val (.long wn), .second, .val (.long i), .second, .val (.long j), .second, .val (.ref b2), .val (.long a), .second, .val (.int (1 : Int32))] [(.int (1 : Int32))])
      exact Go.retN X7 hx hlk hret (by simp) (hb hby at_184) (by decide) (by decide) ⟨rfl, M7⟩
    · --
      show Go p e s below _ _ _ T3 (mkF m 92 #[.val (.long a), .second, .val (.long mk), .second, .val (.long bv), .second, .val (.int p3), .val (.int p4), .val (.int p5), .val (.int (0 : Int32)), .val (.long ((1 : Int64) + ((((p5.toUInt32 >>> ((1 : Int32) &&& 31).toUInt32).toInt32) &&& (255 : Int32)).toInt64))), .second, .val (.long wn), .second, .val (.long i), .second, .val (.long j), .second, .unset, .unset, .unset, .unset] [(.ref b2)])
      refine Go.st (fun _ kont => XS.astore X3.here hx rfl (hb hby at_92) rfl rfl (l' := #[.val (.long a), .second, .val (.long mk), .second, .val (.long bv), .second, .val (.int p3), .val (.int p4), .val (.int p5), .val (.int (0 : Int32)), .val (.long ((1 : Int64) + ((((p5.toUInt32 >>> ((1 : Int32) &&& 31).toUInt32).toInt32) &&& (255 : Int32)).toInt64))), .second, .val (.long wn), .second, .val (.long i), .second, .val (.long j), .second, .val (.ref b2), .unset, .unset, .unset]) rfl kont) ?_
      show Go p e s below _ _ _ T3 (mkF m 94 #[.val (.long a), .second, .val (.long mk), .second, .val (.long bv), .second, .val (.int p3), .val (.int p4), .val (.int p5), .val (.int (0 : Int32)), .val (.long ((1 : Int64) + ((((p5.toUInt32 >>> ((1 : Int32) &&& 31).toUInt32).toInt32) &&& (255 : Int32)).toInt64))), .second, .val (.long wn), .second, .val (.long i), .second, .val (.long j), .second, .val (.ref b2), .unset, .unset, .unset] [])
      refine Go.st (fun _ kont => XS.aload X3.here hx rfl (hb hby at_94) rfl rfl kont) ?_
      show Go p e s below _ _ _ T3 (mkF m 96 #[.val (.long a), .second, .val (.long mk), .second, .val (.long bv), .second, .val (.int p3), .val (.int p4), .val (.int p5), .val (.int (0 : Int32)), .val (.long ((1 : Int64) + ((((p5.toUInt32 >>> ((1 : Int32) &&& 31).toUInt32).toInt32) &&& (255 : Int32)).toInt64))), .second, .val (.long wn), .second, .val (.long i), .second, .val (.long j), .second, .val (.ref b2), .unset, .unset, .unset] [(.ref b2)])
      refine Go.st (fun _ kont => XS.lload X3.here hx rfl (hb hby at_96) rfl kont) ?_
      show Go p e s below _ _ _ T3 (mkF m 98 #[.val (.long a), .second, .val (.long mk), .second, .val (.long bv), .second, .val (.int p3), .val (.int p4), .val (.int p5), .val (.int (0 : Int32)), .val (.long ((1 : Int64) + ((((p5.toUInt32 >>> ((1 : Int32) &&& 31).toUInt32).toInt32) &&& (255 : Int32)).toInt64))), .second, .val (.long wn), .second, .val (.long i), .second, .val (.long j), .second, .val (.ref b2), .unset, .unset, .unset] [(.long j), (.ref b2)])
      refine Go.st (fun _ kont => XS.lload X3.here hx rfl (hb hby at_98) rfl kont) ?_
      show Go p e s below _ _ _ T3 (mkF m 100 #[.val (.long a), .second, .val (.long mk), .second, .val (.long bv), .second, .val (.int p3), .val (.int p4), .val (.int p5), .val (.int (0 : Int32)), .val (.long ((1 : Int64) + ((((p5.toUInt32 >>> ((1 : Int32) &&& 31).toUInt32).toInt32) &&& (255 : Int32)).toInt64))), .second, .val (.long wn), .second, .val (.long i), .second, .val (.long j), .second, .val (.ref b2), .unset, .unset, .unset] [(.long bv), (.long j), (.ref b2)])
      refine Go.callV (b := b2) (W := 0) (argsL := [(.long j), (.long bv)]) (rest := []) X3 hx hZ hown (y := (⟨"com/example/criba/criba/PagedWords", "setWord", "(JJ)V"⟩ : MethodName)) (z := (⟨"com/example/criba/criba/PagedWords", "setWord", "(JJ)V"⟩ : MethodName)) (hw _ (List.mem_of_getElem? (i := 42) rfl)) (hw _ (List.mem_of_getElem? (i := 43) rfl)) (notFace_of_selects (args := #[]) (mvT hZ (hw _ (List.mem_of_getElem? (i := 45) rfl)))) (hw _ (List.mem_of_getElem? (i := 45) rfl)) (hw _ (List.mem_of_getElem? (i := 44) rfl)) (hw _ (List.mem_of_getElem? (i := 5) rfl)) (hw _ (List.mem_of_getElem? (i := 46) rfl)) (rmS l Z a0 hw [] b2 ps j wn.toInt P (j.toInt / 32768).toNat (j.toInt % 32768).toNat pg (fun _ => (0 : Int64)) bv h3 n0 F3 I_j hww.2 gn) e3 F3.1 (by decide) (by decide) (by decide) (by decide) (by decide) (by rw [hml]; rfl) (lenOf pd__JJ_V rfl) (Nat.le_of_eq rfl) (hb hby at_100) ?_
      intro T8 v8 L8 X8 hQ8
      obtain ⟨h8, e8⟩ : ∃ z, T8.heap = z := ⟨_, rfl⟩
      rw [e8] at hQ8
      obtain ⟨rfl, N8, K8, F8⟩ := hQ8
      have M8 := Fr.app M3 N8
      show Go p e s below _ _ _ T8 (mkF m 103 #[.val (.long a), .second, .val (.long mk), .second, .val (.long bv), .second, .val (.int p3), .val (.int p4), .val (.int p5), .val (.int (0 : Int32)), .val (.long ((1 : Int64) + ((((p5.toUInt32 >>> ((1 : Int32) &&& 31).toUInt32).toInt32) &&& (255 : Int32)).toInt64))), .second, .val (.long wn), .second, .val (.long i), .second, .val (.long j), .second, .val (.ref b2), .unset, .unset, .unset] [])
      refine Go.st (fun _ kont => XS.aload X8.here hx rfl (hb hby at_103) rfl rfl kont) ?_
      show Go p e s below _ _ _ T8 (mkF m 105 #[.val (.long a), .second, .val (.long mk), .second, .val (.long bv), .second, .val (.int p3), .val (.int p4), .val (.int p5), .val (.int (0 : Int32)), .val (.long ((1 : Int64) + ((((p5.toUInt32 >>> ((1 : Int32) &&& 31).toUInt32).toInt32) &&& (255 : Int32)).toInt64))), .second, .val (.long wn), .second, .val (.long i), .second, .val (.long j), .second, .val (.ref b2), .unset, .unset, .unset] [(.ref b2)])
      refine Go.st (fun _ kont => XS.lload X8.here hx rfl (hb hby at_105) rfl kont) ?_
      show Go p e s below _ _ _ T8 (mkF m 107 #[.val (.long a), .second, .val (.long mk), .second, .val (.long bv), .second, .val (.int p3), .val (.int p4), .val (.int p5), .val (.int (0 : Int32)), .val (.long ((1 : Int64) + ((((p5.toUInt32 >>> ((1 : Int32) &&& 31).toUInt32).toInt32) &&& (255 : Int32)).toInt64))), .second, .val (.long wn), .second, .val (.long i), .second, .val (.long j), .second, .val (.ref b2), .unset, .unset, .unset] [(.long i), (.ref b2)])
      refine Go.st (fun _ kont => XS.lloadN X8.here hx rfl (hb hby at_107) rfl kont) ?_
      show Go p e s below _ _ _ T8 (mkF m 108 #[.val (.long a), .second, .val (.long mk), .second, .val (.long bv), .second, .val (.int p3), .val (.int p4), .val (.int p5), .val (.int (0 : Int32)), .val (.long ((1 : Int64) + ((((p5.toUInt32 >>> ((1 : Int32) &&& 31).toUInt32).toInt32) &&& (255 : Int32)).toInt64))), .second, .val (.long wn), .second, .val (.long i), .second, .val (.long j), .second, .val (.ref b2), .unset, .unset, .unset] [(.long a), (.long i), (.ref b2)])
      refine Go.callV (b := b2) (W := 0) (argsL := [(.long i), (.long a)]) (rest := []) X8 hx hZ hown (y := (⟨"com/example/criba/criba/PagedWords", "setWord", "(JJ)V"⟩ : MethodName)) (z := (⟨"com/example/criba/criba/PagedWords", "setWord", "(JJ)V"⟩ : MethodName)) (hw _ (List.mem_of_getElem? (i := 42) rfl)) (hw _ (List.mem_of_getElem? (i := 43) rfl)) (notFace_of_selects (args := #[]) (mvT hZ (hw _ (List.mem_of_getElem? (i := 45) rfl)))) (hw _ (List.mem_of_getElem? (i := 45) rfl)) (hw _ (List.mem_of_getElem? (i := 44) rfl)) (hw _ (List.mem_of_getElem? (i := 5) rfl)) (hw _ (List.mem_of_getElem? (i := 46) rfl)) (rmS l Z a0 hw [] b2 ps i wn.toInt P (i.toInt / 32768).toNat (i.toInt % 32768).toNat pg (fun z => if z = j.toInt then bv else (fun _ => (0 : Int64)) z) a h8 n0 F8 I_i hww.2 gn) e8 F8.1 (by decide) (by decide) (by decide) (by decide) (by decide) (by rw [hml]; rfl) (lenOf pd__JJ_V rfl) (Nat.le_of_eq rfl) (hb hby at_108) ?_
      intro T9 v9 L9 X9 hQ9
      obtain ⟨h9, e9⟩ : ∃ z, T9.heap = z := ⟨_, rfl⟩
      rw [e9] at hQ9
      obtain ⟨rfl, N9, K9, F9⟩ := hQ9
      have M9 := Fr.app M8 N9
      show Go p e s below _ _ _ T9 (mkF m 111 #[.val (.long a), .second, .val (.long mk), .second, .val (.long bv), .second, .val (.int p3), .val (.int p4), .val (.int p5), .val (.int (0 : Int32)), .val (.long ((1 : Int64) + ((((p5.toUInt32 >>> ((1 : Int32) &&& 31).toUInt32).toInt32) &&& (255 : Int32)).toInt64))), .second, .val (.long wn), .second, .val (.long i), .second, .val (.long j), .second, .val (.ref b2), .unset, .unset, .unset] [])
      refine Go.st (fun _ kont => XS.aload X9.here hx rfl (hb hby at_111) rfl rfl kont) ?_
      show Go p e s below _ _ _ T9 (mkF m 113 #[.val (.long a), .second, .val (.long mk), .second, .val (.long bv), .second, .val (.int p3), .val (.int p4), .val (.int p5), .val (.int (0 : Int32)), .val (.long ((1 : Int64) + ((((p5.toUInt32 >>> ((1 : Int32) &&& 31).toUInt32).toInt32) &&& (255 : Int32)).toInt64))), .second, .val (.long wn), .second, .val (.long i), .second, .val (.long j), .second, .val (.ref b2), .unset, .unset, .unset] [(.ref b2)])
      refine Go.st (fun _ kont => XS.lload X9.here hx rfl (hb hby at_113) rfl kont) ?_
      show Go p e s below _ _ _ T9 (mkF m 115 #[.val (.long a), .second, .val (.long mk), .second, .val (.long bv), .second, .val (.int p3), .val (.int p4), .val (.int p5), .val (.int (0 : Int32)), .val (.long ((1 : Int64) + ((((p5.toUInt32 >>> ((1 : Int32) &&& 31).toUInt32).toInt32) &&& (255 : Int32)).toInt64))), .second, .val (.long wn), .second, .val (.long i), .second, .val (.long j), .second, .val (.ref b2), .unset, .unset, .unset] [(.long i), (.ref b2)])
      refine Go.st (fun _ kont => XS.lloadN X9.here hx rfl (hb hby at_115) rfl kont) ?_
      show Go p e s below _ _ _ T9 (mkF m 116 #[.val (.long a), .second, .val (.long mk), .second, .val (.long bv), .second, .val (.int p3), .val (.int p4), .val (.int p5), .val (.int (0 : Int32)), .val (.long ((1 : Int64) + ((((p5.toUInt32 >>> ((1 : Int32) &&& 31).toUInt32).toInt32) &&& (255 : Int32)).toInt64))), .second, .val (.long wn), .second, .val (.long i), .second, .val (.long j), .second, .val (.ref b2), .unset, .unset, .unset] [(.long mk), (.long i), (.ref b2)])
      refine Go.callV (b := b2) (W := 0) (argsL := [(.long i), (.long mk)]) (rest := []) X9 hx hZ hown (y := (⟨"com/example/criba/criba/PagedWords", "orWord", "(JJ)J"⟩ : MethodName)) (z := (⟨"com/example/criba/criba/PagedWords", "orWord", "(JJ)J"⟩ : MethodName)) (hw _ (List.mem_of_getElem? (i := 51) rfl)) (hw _ (List.mem_of_getElem? (i := 52) rfl)) (notFace_of_selects (args := #[]) (mvT hZ (hw _ (List.mem_of_getElem? (i := 54) rfl)))) (hw _ (List.mem_of_getElem? (i := 54) rfl)) (hw _ (List.mem_of_getElem? (i := 53) rfl)) (hw _ (List.mem_of_getElem? (i := 5) rfl)) (hw _ (List.mem_of_getElem? (i := 55) rfl)) (rmO l Z a0 hw [] b2 ps i wn.toInt P (i.toInt / 32768).toNat (i.toInt % 32768).toNat pg (fun z => if z = i.toInt then a else (fun z => if z = j.toInt then bv else (fun _ => (0 : Int64)) z) z) mk a h9 n0 F9 I_i hww.2 gn (if_pos rfl)) e9 F9.1 (by decide) (by decide) (by decide) (by decide) (by decide) (by rw [hml]; rfl) (lenOf pd__JJ_J rfl) (Nat.le_of_eq rfl) (hb hby at_116) ?_
      intro T10 v10 L10 X10 hQ10
      obtain ⟨h10, e10⟩ : ∃ z, T10.heap = z := ⟨_, rfl⟩
      rw [e10] at hQ10
      obtain ⟨rfl, N10, K10, F10⟩ := hQ10
      have M10 := Fr.app M9 N10
      show Go p e s below _ _ _ T10 (mkF m 119 #[.val (.long a), .second, .val (.long mk), .second, .val (.long bv), .second, .val (.int p3), .val (.int p4), .val (.int p5), .val (.int (0 : Int32)), .val (.long ((1 : Int64) + ((((p5.toUInt32 >>> ((1 : Int32) &&& 31).toUInt32).toInt32) &&& (255 : Int32)).toInt64))), .second, .val (.long wn), .second, .val (.long i), .second, .val (.long j), .second, .val (.ref b2), .unset, .unset, .unset] [(.long a)])
      refine Go.st (fun _ kont => XS.lstore X10.here hx rfl (hb hby at_119) rfl (l' := #[.val (.long a), .second, .val (.long mk), .second, .val (.long bv), .second, .val (.int p3), .val (.int p4), .val (.int p5), .val (.int (0 : Int32)), .val (.long ((1 : Int64) + ((((p5.toUInt32 >>> ((1 : Int32) &&& 31).toUInt32).toInt32) &&& (255 : Int32)).toInt64))), .second, .val (.long wn), .second, .val (.long i), .second, .val (.long j), .second, .val (.ref b2), .val (.long a), .second, .unset]) rfl kont) ?_
      show Go p e s below _ _ _ T10 (mkF m 121 #[.val (.long a), .second, .val (.long mk), .second, .val (.long bv), .second, .val (.int p3), .val (.int p4), .val (.int p5), .val (.int (0 : Int32)), .val (.long ((1 : Int64) + ((((p5.toUInt32 >>> ((1 : Int32) &&& 31).toUInt32).toInt32) &&& (255 : Int32)).toInt64))), .second, .val (.long wn), .second, .val (.long i), .second, .val (.long j), .second, .val (.ref b2), .val (.long a), .second, .unset] [])
      refine Go.st (fun _ kont => XS.lload X10.here hx rfl (hb hby at_121) rfl kont) ?_
      show Go p e s below _ _ _ T10 (mkF m 123 #[.val (.long a), .second, .val (.long mk), .second, .val (.long bv), .second, .val (.int p3), .val (.int p4), .val (.int p5), .val (.int (0 : Int32)), .val (.long ((1 : Int64) + ((((p5.toUInt32 >>> ((1 : Int32) &&& 31).toUInt32).toInt32) &&& (255 : Int32)).toInt64))), .second, .val (.long wn), .second, .val (.long i), .second, .val (.long j), .second, .val (.ref b2), .val (.long a), .second, .unset] [(.long a)])
      refine Go.st (fun _ kont => XS.lloadN X10.here hx rfl (hb hby at_123) rfl kont) ?_
      show Go p e s below _ _ _ T10 (mkF m 124 #[.val (.long a), .second, .val (.long mk), .second, .val (.long bv), .second, .val (.int p3), .val (.int p4), .val (.int p5), .val (.int (0 : Int32)), .val (.long ((1 : Int64) + ((((p5.toUInt32 >>> ((1 : Int32) &&& 31).toUInt32).toInt32) &&& (255 : Int32)).toInt64))), .second, .val (.long wn), .second, .val (.long i), .second, .val (.long j), .second, .val (.ref b2), .val (.long a), .second, .unset] [(.long a), (.long a)])
      refine Go.st (fun _ kont => XS.lcmp X10.here hx rfl (hb hby at_124) rfl kont) ?_
      show Go p e s below _ _ _ T10 (mkF m 125 #[.val (.long a), .second, .val (.long mk), .second, .val (.long bv), .second, .val (.int p3), .val (.int p4), .val (.int p5), .val (.int (0 : Int32)), .val (.long ((1 : Int64) + ((((p5.toUInt32 >>> ((1 : Int32) &&& 31).toUInt32).toInt32) &&& (255 : Int32)).toInt64))), .second, .val (.long wn), .second, .val (.long i), .second, .val (.long j), .second, .val (.ref b2), .val (.long a), .second, .unset] [(.int (lcmpW a a))])
      refine Go.st (fun _ kont => XS.ifNo X10.here hx rfl (hb hby at_125) rfl ((if0 _ _).trans (teq ((lw_eq _ _).mpr rfl)).2) kont) ?_
      show Go p e s below _ _ _ T10 (mkF m 128 #[.val (.long a), .second, .val (.long mk), .second, .val (.long bv), .second, .val (.int p3), .val (.int p4), .val (.int p5), .val (.int (0 : Int32)), .val (.long ((1 : Int64) + ((((p5.toUInt32 >>> ((1 : Int32) &&& 31).toUInt32).toInt32) &&& (255 : Int32)).toInt64))), .second, .val (.long wn), .second, .val (.long i), .second, .val (.long j), .second, .val (.ref b2), .val (.long a), .second, .unset] [])
      refine Go.st (fun _ kont => XS.aload X10.here hx rfl (hb hby at_128) rfl rfl kont) ?_
      show Go p e s below _ _ _ T10 (mkF m 130 #[.val (.long a), .second, .val (.long mk), .second, .val (.long bv), .second, .val (.int p3), .val (.int p4), .val (.int p5), .val (.int (0 : Int32)), .val (.long ((1 : Int64) + ((((p5.toUInt32 >>> ((1 : Int32) &&& 31).toUInt32).toInt32) &&& (255 : Int32)).toInt64))), .second, .val (.long wn), .second, .val (.long i), .second, .val (.long j), .second, .val (.ref b2), .val (.long a), .second, .unset] [(.ref b2)])
      refine Go.st (fun _ kont => XS.lload X10.here hx rfl (hb hby at_130) rfl kont) ?_
      show Go p e s below _ _ _ T10 (mkF m 132 #[.val (.long a), .second, .val (.long mk), .second, .val (.long bv), .second, .val (.int p3), .val (.int p4), .val (.int p5), .val (.int (0 : Int32)), .val (.long ((1 : Int64) + ((((p5.toUInt32 >>> ((1 : Int32) &&& 31).toUInt32).toInt32) &&& (255 : Int32)).toInt64))), .second, .val (.long wn), .second, .val (.long i), .second, .val (.long j), .second, .val (.ref b2), .val (.long a), .second, .unset] [(.long i), (.ref b2)])
      refine Go.callV (b := b2) (W := 0) (argsL := [(.long i)]) (rest := []) X10 hx hZ hown (y := (⟨"com/example/criba/criba/PagedWords", "word", "(J)J"⟩ : MethodName)) (z := (⟨"com/example/criba/criba/PagedWords", "word", "(J)J"⟩ : MethodName)) (hw _ (List.mem_of_getElem? (i := 56) rfl)) (hw _ (List.mem_of_getElem? (i := 57) rfl)) (notFace_of_selects (args := #[]) (mvT hZ (hw _ (List.mem_of_getElem? (i := 59) rfl)))) (hw _ (List.mem_of_getElem? (i := 59) rfl)) (hw _ (List.mem_of_getElem? (i := 58) rfl)) (hw _ (List.mem_of_getElem? (i := 5) rfl)) (hw _ (List.mem_of_getElem? (i := 60) rfl)) (rmR l Z a0 hw [] b2 ps i wn.toInt P (i.toInt / 32768).toNat (i.toInt % 32768).toNat pg (fun z => if z = i.toInt then (a ||| mk) else (fun z => if z = i.toInt then a else (fun z => if z = j.toInt then bv else (fun _ => (0 : Int64)) z) z) z) (a ||| mk) h10 n0 F10 I_i hww.2 (if_pos rfl)) e10 F10.1 (by decide) (by decide) (by decide) (by decide) (by decide) (by rw [hml]; rfl) (lenOf pd__J_J rfl) (Nat.le_of_eq rfl) (hb hby at_132) ?_
      intro T11 v11 L11 X11 hQ11
      obtain ⟨rfl, N11, E11⟩ := hQ11
      have M11 := Fr.app M10 N11
      show Go p e s below _ _ _ T11 (mkF m 135 #[.val (.long a), .second, .val (.long mk), .second, .val (.long bv), .second, .val (.int p3), .val (.int p4), .val (.int p5), .val (.int (0 : Int32)), .val (.long ((1 : Int64) + ((((p5.toUInt32 >>> ((1 : Int32) &&& 31).toUInt32).toInt32) &&& (255 : Int32)).toInt64))), .second, .val (.long wn), .second, .val (.long i), .second, .val (.long j), .second, .val (.ref b2), .val (.long a), .second, .unset] [(.long (a ||| mk))])
      refine Go.st (fun _ kont => XS.lloadN X11.here hx rfl (hb hby at_135) rfl kont) ?_
      show Go p e s below _ _ _ T11 (mkF m 136 #[.val (.long a), .second, .val (.long mk), .second, .val (.long bv), .second, .val (.int p3), .val (.int p4), .val (.int p5), .val (.int (0 : Int32)), .val (.long ((1 : Int64) + ((((p5.toUInt32 >>> ((1 : Int32) &&& 31).toUInt32).toInt32) &&& (255 : Int32)).toInt64))), .second, .val (.long wn), .second, .val (.long i), .second, .val (.long j), .second, .val (.ref b2), .val (.long a), .second, .unset] [(.long a), (.long (a ||| mk))])
      refine Go.st (fun _ kont => XS.lloadN X11.here hx rfl (hb hby at_136) rfl kont) ?_
      show Go p e s below _ _ _ T11 (mkF m 137 #[.val (.long a), .second, .val (.long mk), .second, .val (.long bv), .second, .val (.int p3), .val (.int p4), .val (.int p5), .val (.int (0 : Int32)), .val (.long ((1 : Int64) + ((((p5.toUInt32 >>> ((1 : Int32) &&& 31).toUInt32).toInt32) &&& (255 : Int32)).toInt64))), .second, .val (.long wn), .second, .val (.long i), .second, .val (.long j), .second, .val (.ref b2), .val (.long a), .second, .unset] [(.long mk), (.long a), (.long (a ||| mk))])
      refine Go.st (fun _ kont => XS.lor X11.here hx rfl (hb hby at_137) rfl kont) ?_
      show Go p e s below _ _ _ T11 (mkF m 138 #[.val (.long a), .second, .val (.long mk), .second, .val (.long bv), .second, .val (.int p3), .val (.int p4), .val (.int p5), .val (.int (0 : Int32)), .val (.long ((1 : Int64) + ((((p5.toUInt32 >>> ((1 : Int32) &&& 31).toUInt32).toInt32) &&& (255 : Int32)).toInt64))), .second, .val (.long wn), .second, .val (.long i), .second, .val (.long j), .second, .val (.ref b2), .val (.long a), .second, .unset] [(.long (a ||| mk)), (.long (a ||| mk))])
      refine Go.st (fun _ kont => XS.lcmp X11.here hx rfl (hb hby at_138) rfl kont) ?_
      show Go p e s below _ _ _ T11 (mkF m 139 #[.val (.long a), .second, .val (.long mk), .second, .val (.long bv), .second, .val (.int p3), .val (.int p4), .val (.int p5), .val (.int (0 : Int32)), .val (.long ((1 : Int64) + ((((p5.toUInt32 >>> ((1 : Int32) &&& 31).toUInt32).toInt32) &&& (255 : Int32)).toInt64))), .second, .val (.long wn), .second, .val (.long i), .second, .val (.long j), .second, .val (.ref b2), .val (.long a), .second, .unset] [(.int (lcmpW (a ||| mk) (a ||| mk)))])
      refine Go.st (fun _ kont => XS.ifNo X11.here hx rfl (hb hby at_139) rfl ((if0 _ _).trans (teq ((lw_eq _ _).mpr rfl)).2) kont) ?_
      show Go p e s below _ _ _ T11 (mkF m 142 #[.val (.long a), .second, .val (.long mk), .second, .val (.long bv), .second, .val (.int p3), .val (.int p4), .val (.int p5), .val (.int (0 : Int32)), .val (.long ((1 : Int64) + ((((p5.toUInt32 >>> ((1 : Int32) &&& 31).toUInt32).toInt32) &&& (255 : Int32)).toInt64))), .second, .val (.long wn), .second, .val (.long i), .second, .val (.long j), .second, .val (.ref b2), .val (.long a), .second, .unset] [])
      refine Go.st (fun _ kont => XT.iconstV X11.here hx rfl (1 : Int32) (hb hby at_142) (by decide) kont) ?_
      show Go p e s below _ _ _ T11 (mkF m 143 #[.val (.long a), .second, .val (.long mk), .second, .val (.long bv), .second, .val (.int p3), .val (.int p4), .val (.int p5), .val (.int (0 : Int32)), .val (.long ((1 : Int64) + ((((p5.toUInt32 >>> ((1 : Int32) &&& 31).toUInt32).toInt32) &&& (255 : Int32)).toInt64))), .second, .val (.long wn), .second, .val (.long i), .second, .val (.long j), .second, .val (.ref b2), .val (.long a), .second, .unset] [(.int (1 : Int32))])
      refine Go.st (fun _ kont => XS.goto X11.here hx rfl (pc0 := 143) (pc' := 147) rfl (hb hby at_143) (by decide) (by decide) kont) ?_
      show Go p e s below _ _ _ T11 (mkF m 147 #[.val (.long a), .second, .val (.long mk), .second, .val (.long bv), .second, .val (.int p3), .val (.int p4), .val (.int p5), .val (.int (0 : Int32)), .val (.long ((1 : Int64) + ((((p5.toUInt32 >>> ((1 : Int32) &&& 31).toUInt32).toInt32) &&& (255 : Int32)).toInt64))), .second, .val (.long wn), .second, .val (.long i), .second, .val (.long j), .second, .val (.ref b2), .val (.long a), .second, .unset] [(.int (1 : Int32))])
      refine Go.st (fun _ kont => XS.istore X11.here hx rfl (hb hby at_147) rfl (l' := #[.val (.long a), .second, .val (.long mk), .second, .val (.long bv), .second, .val (.int p3), .val (.int p4), .val (.int p5), .val (.int (0 : Int32)), .val (.long ((1 : Int64) + ((((p5.toUInt32 >>> ((1 : Int32) &&& 31).toUInt32).toInt32) &&& (255 : Int32)).toInt64))), .second, .val (.long wn), .second, .val (.long i), .second, .val (.long j), .second, .val (.ref b2), .val (.long a), .second, .val (.int (1 : Int32))]) rfl kont) ?_
      show Go p e s below _ _ _ T11 (mkF m 149 #[.val (.long a), .second, .val (.long mk), .second, .val (.long bv), .second, .val (.int p3), .val (.int p4), .val (.int p5), .val (.int (0 : Int32)), .val (.long ((1 : Int64) + ((((p5.toUInt32 >>> ((1 : Int32) &&& 31).toUInt32).toInt32) &&& (255 : Int32)).toInt64))), .second, .val (.long wn), .second, .val (.long i), .second, .val (.long j), .second, .val (.ref b2), .val (.long a), .second, .val (.int (1 : Int32))] [])
      refine Go.st (fun _ kont => XS.lload X11.here hx rfl (hb hby at_149) rfl kont) ?_
      show Go p e s below _ _ _ T11 (mkF m 151 #[.val (.long a), .second, .val (.long mk), .second, .val (.long bv), .second, .val (.int p3), .val (.int p4), .val (.int p5), .val (.int (0 : Int32)), .val (.long ((1 : Int64) + ((((p5.toUInt32 >>> ((1 : Int32) &&& 31).toUInt32).toInt32) &&& (255 : Int32)).toInt64))), .second, .val (.long wn), .second, .val (.long i), .second, .val (.long j), .second, .val (.ref b2), .val (.long a), .second, .val (.int (1 : Int32))] [(.long j)])
      refine Go.st (fun _ kont => XS.lload X11.here hx rfl (hb hby at_151) rfl kont) ?_
      show Go p e s below _ _ _ T11 (mkF m 153 #[.val (.long a), .second, .val (.long mk), .second, .val (.long bv), .second, .val (.int p3), .val (.int p4), .val (.int p5), .val (.int (0 : Int32)), .val (.long ((1 : Int64) + ((((p5.toUInt32 >>> ((1 : Int32) &&& 31).toUInt32).toInt32) &&& (255 : Int32)).toInt64))), .second, .val (.long wn), .second, .val (.long i), .second, .val (.long j), .second, .val (.ref b2), .val (.long a), .second, .val (.int (1 : Int32))] [(.long i), (.long j)])
      refine Go.st (fun _ kont => XS.lcmp X11.here hx rfl (hb hby at_153) rfl kont) ?_
      show Go p e s below _ _ _ T11 (mkF m 154 #[.val (.long a), .second, .val (.long mk), .second, .val (.long bv), .second, .val (.int p3), .val (.int p4), .val (.int p5), .val (.int (0 : Int32)), .val (.long ((1 : Int64) + ((((p5.toUInt32 >>> ((1 : Int32) &&& 31).toUInt32).toInt32) &&& (255 : Int32)).toInt64))), .second, .val (.long wn), .second, .val (.long i), .second, .val (.long j), .second, .val (.ref b2), .val (.long a), .second, .val (.int (1 : Int32))] [(.int (lcmpW j i))])
      refine Go.st (fun _ kont => XS.ifNo X11.here hx rfl (hb hby at_154) rfl ((if0 _ _).trans (feq (mt (lw_eq _ _).mp hij)).1) kont) ?_
      show Go p e s below _ _ _ T11 (mkF m 157 #[.val (.long a), .second, .val (.long mk), .second, .val (.long bv), .second, .val (.int p3), .val (.int p4), .val (.int p5), .val (.int (0 : Int32)), .val (.long ((1 : Int64) + ((((p5.toUInt32 >>> ((1 : Int32) &&& 31).toUInt32).toInt32) &&& (255 : Int32)).toInt64))), .second, .val (.long wn), .second, .val (.long i), .second, .val (.long j), .second, .val (.ref b2), .val (.long a), .second, .val (.int (1 : Int32))] [])
      refine Go.st (fun _ kont => XS.iload X11.here hx rfl (hb hby at_157) rfl kont) ?_
      show Go p e s below _ _ _ T11 (mkF m 159 #[.val (.long a), .second, .val (.long mk), .second, .val (.long bv), .second, .val (.int p3), .val (.int p4), .val (.int p5), .val (.int (0 : Int32)), .val (.long ((1 : Int64) + ((((p5.toUInt32 >>> ((1 : Int32) &&& 31).toUInt32).toInt32) &&& (255 : Int32)).toInt64))), .second, .val (.long wn), .second, .val (.long i), .second, .val (.long j), .second, .val (.ref b2), .val (.long a), .second, .val (.int (1 : Int32))] [(.int (1 : Int32))])
      refine Go.st (fun _ kont => XS.ifNo X11.here hx rfl (hb hby at_159) rfl ((if0 _ _).trans (feq (by decide : ¬ ((1 : Int32) = (0 : Int32)))).1) kont) ?_
      show Go p e s below _ _ _ T11 (mkF m 162 #[.val (.long a), .second, .val (.long mk), .second, .val (.long bv), .second, .val (.int p3), .val (.int p4), .val (.int p5), .val (.int (0 : Int32)), .val (.long ((1 : Int64) + ((((p5.toUInt32 >>> ((1 : Int32) &&& 31).toUInt32).toInt32) &&& (255 : Int32)).toInt64))), .second, .val (.long wn), .second, .val (.long i), .second, .val (.long j), .second, .val (.ref b2), .val (.long a), .second, .val (.int (1 : Int32))] [])
      refine Go.st (fun _ kont => XS.aload X11.here hx rfl (hb hby at_162) rfl rfl kont) ?_
      show Go p e s below _ _ _ T11 (mkF m 164 #[.val (.long a), .second, .val (.long mk), .second, .val (.long bv), .second, .val (.int p3), .val (.int p4), .val (.int p5), .val (.int (0 : Int32)), .val (.long ((1 : Int64) + ((((p5.toUInt32 >>> ((1 : Int32) &&& 31).toUInt32).toInt32) &&& (255 : Int32)).toInt64))), .second, .val (.long wn), .second, .val (.long i), .second, .val (.long j), .second, .val (.ref b2), .val (.long a), .second, .val (.int (1 : Int32))] [(.ref b2)])
      refine Go.st (fun _ kont => XS.lload X11.here hx rfl (hb hby at_164) rfl kont) ?_
      show Go p e s below _ _ _ T11 (mkF m 166 #[.val (.long a), .second, .val (.long mk), .second, .val (.long bv), .second, .val (.int p3), .val (.int p4), .val (.int p5), .val (.int (0 : Int32)), .val (.long ((1 : Int64) + ((((p5.toUInt32 >>> ((1 : Int32) &&& 31).toUInt32).toInt32) &&& (255 : Int32)).toInt64))), .second, .val (.long wn), .second, .val (.long i), .second, .val (.long j), .second, .val (.ref b2), .val (.long a), .second, .val (.int (1 : Int32))] [(.long j), (.ref b2)])
      refine Go.callV (b := b2) (W := 0) (argsL := [(.long j)]) (rest := []) X11 hx hZ hown (y := (⟨"com/example/criba/criba/PagedWords", "word", "(J)J"⟩ : MethodName)) (z := (⟨"com/example/criba/criba/PagedWords", "word", "(J)J"⟩ : MethodName)) (hw _ (List.mem_of_getElem? (i := 56) rfl)) (hw _ (List.mem_of_getElem? (i := 57) rfl)) (notFace_of_selects (args := #[]) (mvT hZ (hw _ (List.mem_of_getElem? (i := 59) rfl)))) (hw _ (List.mem_of_getElem? (i := 59) rfl)) (hw _ (List.mem_of_getElem? (i := 58) rfl)) (hw _ (List.mem_of_getElem? (i := 5) rfl)) (hw _ (List.mem_of_getElem? (i := 60) rfl)) (rmR l Z a0 hw [] b2 ps j wn.toInt P (j.toInt / 32768).toNat (j.toInt % 32768).toNat pg (fun z => if z = i.toInt then (a ||| mk) else (fun z => if z = i.toInt then a else (fun z => if z = j.toInt then bv else (fun _ => (0 : Int64)) z) z) z) bv h10 n0 F10 I_j hww.2 ((if_neg (fun q => hij (Int64.toInt_inj.mp q))).trans ((if_neg (fun q => hij (Int64.toInt_inj.mp q))).trans (if_pos rfl)))) E11 F10.1 (by decide) (by decide) (by decide) (by decide) (by decide) (by rw [hml]; rfl) (lenOf pd__J_J rfl) (Nat.le_of_eq rfl) (hb hby at_166) ?_
      intro T12 v12 L12 X12 hQ12
      obtain ⟨rfl, N12, E12⟩ := hQ12
      have M12 := Fr.app M11 N12
      show Go p e s below _ _ _ T12 (mkF m 169 #[.val (.long a), .second, .val (.long mk), .second, .val (.long bv), .second, .val (.int p3), .val (.int p4), .val (.int p5), .val (.int (0 : Int32)), .val (.long ((1 : Int64) + ((((p5.toUInt32 >>> ((1 : Int32) &&& 31).toUInt32).toInt32) &&& (255 : Int32)).toInt64))), .second, .val (.long wn), .second, .val (.long i), .second, .val (.long j), .second, .val (.ref b2), .val (.long a), .second, .val (.int (1 : Int32))] [(.long bv)])
      refine Go.st (fun _ kont => XS.lload X12.here hx rfl (hb hby at_169) rfl kont) ?_
      show Go p e s below _ _ _ T12 (mkF m 171 #[.val (.long a), .second, .val (.long mk), .second, .val (.long bv), .second, .val (.int p3), .val (.int p4), .val (.int p5), .val (.int (0 : Int32)), .val (.long ((1 : Int64) + ((((p5.toUInt32 >>> ((1 : Int32) &&& 31).toUInt32).toInt32) &&& (255 : Int32)).toInt64))), .second, .val (.long wn), .second, .val (.long i), .second, .val (.long j), .second, .val (.ref b2), .val (.long a), .second, .val (.int (1 : Int32))] [(.long bv), (.long bv)])
      refine Go.st (fun _ kont => XS.lcmp X12.here hx rfl (hb hby at_171) rfl kont) ?_
      show Go p e s below _ _ _ T12 (mkF m 172 #[.val (.long a), .second, .val (.long mk), .second, .val (.long bv), .second, .val (.int p3), .val (.int p4), .val (.int p5), .val (.int (0 : Int32)), .val (.long ((1 : Int64) + ((((p5.toUInt32 >>> ((1 : Int32) &&& 31).toUInt32).toInt32) &&& (255 : Int32)).toInt64))), .second, .val (.long wn), .second, .val (.long i), .second, .val (.long j), .second, .val (.ref b2), .val (.long a), .second, .val (.int (1 : Int32))] [(.int (lcmpW bv bv))])
      refine Go.st (fun _ kont => XS.ifNo X12.here hx rfl (hb hby at_172) rfl ((if0 _ _).trans (teq ((lw_eq _ _).mpr rfl)).2) kont) ?_
      show Go p e s below _ _ _ T12 (mkF m 175 #[.val (.long a), .second, .val (.long mk), .second, .val (.long bv), .second, .val (.int p3), .val (.int p4), .val (.int p5), .val (.int (0 : Int32)), .val (.long ((1 : Int64) + ((((p5.toUInt32 >>> ((1 : Int32) &&& 31).toUInt32).toInt32) &&& (255 : Int32)).toInt64))), .second, .val (.long wn), .second, .val (.long i), .second, .val (.long j), .second, .val (.ref b2), .val (.long a), .second, .val (.int (1 : Int32))] [])
      refine Go.st (fun _ kont => XT.iconstV X12.here hx rfl (1 : Int32) (hb hby at_175) (by decide) kont) ?_
      show Go p e s below _ _ _ T12 (mkF m 176 #[.val (.long a), .second, .val (.long mk), .second, .val (.long bv), .second, .val (.int p3), .val (.int p4), .val (.int p5), .val (.int (0 : Int32)), .val (.long ((1 : Int64) + ((((p5.toUInt32 >>> ((1 : Int32) &&& 31).toUInt32).toInt32) &&& (255 : Int32)).toInt64))), .second, .val (.long wn), .second, .val (.long i), .second, .val (.long j), .second, .val (.ref b2), .val (.long a), .second, .val (.int (1 : Int32))] [(.int (1 : Int32))])
      refine Go.st (fun _ kont => XS.goto X12.here hx rfl (pc0 := 176) (pc' := 180) rfl (hb hby at_176) (by decide) (by decide) kont) ?_
      show Go p e s below _ _ _ T12 (mkF m 180 #[.val (.long a), .second, .val (.long mk), .second, .val (.long bv), .second, .val (.int p3), .val (.int p4), .val (.int p5), .val (.int (0 : Int32)), .val (.long ((1 : Int64) + ((((p5.toUInt32 >>> ((1 : Int32) &&& 31).toUInt32).toInt32) &&& (255 : Int32)).toInt64))), .second, .val (.long wn), .second, .val (.long i), .second, .val (.long j), .second, .val (.ref b2), .val (.long a), .second, .val (.int (1 : Int32))] [(.int (1 : Int32))])
      refine Go.st (fun _ kont => XS.istore X12.here hx rfl (hb hby at_180) rfl (l' := #[.val (.long a), .second, .val (.long mk), .second, .val (.long bv), .second, .val (.int p3), .val (.int p4), .val (.int p5), .val (.int (0 : Int32)), .val (.long ((1 : Int64) + ((((p5.toUInt32 >>> ((1 : Int32) &&& 31).toUInt32).toInt32) &&& (255 : Int32)).toInt64))), .second, .val (.long wn), .second, .val (.long i), .second, .val (.long j), .second, .val (.ref b2), .val (.long a), .second, .val (.int (1 : Int32))]) rfl kont) ?_
      show Go p e s below _ _ _ T12 (mkF m 182 #[.val (.long a), .second, .val (.long mk), .second, .val (.long bv), .second, .val (.int p3), .val (.int p4), .val (.int p5), .val (.int (0 : Int32)), .val (.long ((1 : Int64) + ((((p5.toUInt32 >>> ((1 : Int32) &&& 31).toUInt32).toInt32) &&& (255 : Int32)).toInt64))), .second, .val (.long wn), .second, .val (.long i), .second, .val (.long j), .second, .val (.ref b2), .val (.long a), .second, .val (.int (1 : Int32))] [])
      refine Go.st (fun _ kont => XS.iload X12.here hx rfl (hb hby at_182) rfl kont) ?_
      show Go p e s below _ _ _ T12 (mkF m 184 #[.val (.long a), .second, .val (.long mk), .second, .val (.long bv), .second, .val (.int p3), .val (.int p4), .val (.int p5), .val (.int (0 : Int32)), .val (.long ((1 : Int64) + ((((p5.toUInt32 >>> ((1 : Int32) &&& 31).toUInt32).toInt32) &&& (255 : Int32)).toInt64))), .second, .val (.long wn), .second, .val (.long i), .second, .val (.long j), .second, .val (.ref b2), .val (.long a), .second, .val (.int (1 : Int32))] [(.int (1 : Int32))])
      exact Go.retN X12 hx hlk hret (by simp) (hb hby at_184) (by decide) (by decide) ⟨rfl, M12⟩
  · --
    refine Go.st (fun _ kont => XS.ifNo X0.here hx rfl (hb hby at_4) rfl ((if0 _ _).trans (feq hc4_1).1) kont) ?_
    show Go p e s below _ _ _ s₁ (mkF m 7 #[.val (.long a), .second, .val (.long mk), .second, .val (.long bv), .second, .val (.int p3), .val (.int p4), .val (.int p5), .unset, .unset, .unset, .unset, .unset, .unset, .unset, .unset, .unset, .unset, .unset, .unset, .unset] [])
    refine Go.st (fun _ kont => XT.iconstV X0.here hx rfl (1 : Int32) (hb hby at_7) (by decide) kont) ?_
    show Go p e s below _ _ _ s₁ (mkF m 8 #[.val (.long a), .second, .val (.long mk), .second, .val (.long bv), .second, .val (.int p3), .val (.int p4), .val (.int p5), .unset, .unset, .unset, .unset, .unset, .unset, .unset, .unset, .unset, .unset, .unset, .unset, .unset] [(.int (1 : Int32))])
    refine Go.st (fun _ kont => XS.goto X0.here hx rfl (pc0 := 8) (pc' := 12) rfl (hb hby at_8) (by decide) (by decide) kont) ?_
    show Go p e s below _ _ _ s₁ (mkF m 12 #[.val (.long a), .second, .val (.long mk), .second, .val (.long bv), .second, .val (.int p3), .val (.int p4), .val (.int p5), .unset, .unset, .unset, .unset, .unset, .unset, .unset, .unset, .unset, .unset, .unset, .unset, .unset] [(.int (1 : Int32))])
    refine Go.st (fun _ kont => XS.istore X0.here hx rfl (hb hby at_12) rfl (l' := #[.val (.long a), .second, .val (.long mk), .second, .val (.long bv), .second, .val (.int p3), .val (.int p4), .val (.int p5), .val (.int (1 : Int32)), .unset, .unset, .unset, .unset, .unset, .unset, .unset, .unset, .unset, .unset, .unset, .unset]) rfl kont) ?_
    show Go p e s below _ _ _ s₁ (mkF m 14 #[.val (.long a), .second, .val (.long mk), .second, .val (.long bv), .second, .val (.int p3), .val (.int p4), .val (.int p5), .val (.int (1 : Int32)), .unset, .unset, .unset, .unset, .unset, .unset, .unset, .unset, .unset, .unset, .unset, .unset] [])
    refine Go.st (fun _ kont => XS.iload X0.here hx rfl (hb hby at_14) rfl kont) ?_
    show Go p e s below _ _ _ s₁ (mkF m 16 #[.val (.long a), .second, .val (.long mk), .second, .val (.long bv), .second, .val (.int p3), .val (.int p4), .val (.int p5), .val (.int (1 : Int32)), .unset, .unset, .unset, .unset, .unset, .unset, .unset, .unset, .unset, .unset, .unset, .unset] [(.int (1 : Int32))])
    refine Go.st (fun _ kont => XS.ifNo X0.here hx rfl (hb hby at_16) rfl ((if0 _ _).trans (feq (by decide : ¬ ((1 : Int32) = (0 : Int32)))).1) kont) ?_
    show Go p e s below _ _ _ s₁ (mkF m 19 #[.val (.long a), .second, .val (.long mk), .second, .val (.long bv), .second, .val (.int p3), .val (.int p4), .val (.int p5), .val (.int (1 : Int32)), .unset, .unset, .unset, .unset, .unset, .unset, .unset, .unset, .unset, .unset, .unset, .unset] [])
    refine Go.st (X0.ldc2Long hx hown (mvT hZ (hw _ (List.mem_of_getElem? (i := 0) rfl))) (g := (mkF m 19 #[.val (.long a), .second, .val (.long mk), .second, .val (.long bv), .second, .val (.int p3), .val (.int p4), .val (.int p5), .val (.int (1 : Int32)), .unset, .unset, .unset, .unset, .unset, .unset, .unset, .unset, .unset, .unset, .unset, .unset] [])) rfl (hb hby at_19)) ?_
    show Go p e s below _ _ _ s₁ (mkF m 22 #[.val (.long a), .second, .val (.long mk), .second, .val (.long bv), .second, .val (.int p3), .val (.int p4), .val (.int p5), .val (.int (1 : Int32)), .unset, .unset, .unset, .unset, .unset, .unset, .unset, .unset, .unset, .unset, .unset, .unset] [(.long (2097408 : Int64))])
    refine Go.st (fun _ kont => XS.goto X0.here hx rfl (pc0 := 22) (pc' := 36) rfl (hb hby at_22) (by decide) (by decide) kont) ?_
    show Go p e s below _ _ _ s₁ (mkF m 36 #[.val (.long a), .second, .val (.long mk), .second, .val (.long bv), .second, .val (.int p3), .val (.int p4), .val (.int p5), .val (.int (1 : Int32)), .unset, .unset, .unset, .unset, .unset, .unset, .unset, .unset, .unset, .unset, .unset, .unset] [(.long (2097408 : Int64))])
    refine Go.st (fun _ kont => XS.lstore X0.here hx rfl (hb hby at_36) rfl (l' := #[.val (.long a), .second, .val (.long mk), .second, .val (.long bv), .second, .val (.int p3), .val (.int p4), .val (.int p5), .val (.int (1 : Int32)), .val (.long (2097408 : Int64)), .second, .unset, .unset, .unset, .unset, .unset, .unset, .unset, .unset, .unset, .unset]) rfl kont) ?_
    show Go p e s below _ _ _ s₁ (mkF m 38 #[.val (.long a), .second, .val (.long mk), .second, .val (.long bv), .second, .val (.int p3), .val (.int p4), .val (.int p5), .val (.int (1 : Int32)), .val (.long (2097408 : Int64)), .second, .unset, .unset, .unset, .unset, .unset, .unset, .unset, .unset, .unset, .unset] [])
    refine Go.st (fun _ kont => XS.iload X0.here hx rfl (hb hby at_38) rfl kont) ?_
    show Go p e s below _ _ _ s₁ (mkF m 40 #[.val (.long a), .second, .val (.long mk), .second, .val (.long bv), .second, .val (.int p3), .val (.int p4), .val (.int p5), .val (.int (1 : Int32)), .val (.long (2097408 : Int64)), .second, .unset, .unset, .unset, .unset, .unset, .unset, .unset, .unset, .unset, .unset] [(.int (1 : Int32))])
    refine Go.st (fun _ kont => XS.ifNo X0.here hx rfl (hb hby at_40) rfl ((if0 _ _).trans (feq (by decide : ¬ ((1 : Int32) = (0 : Int32)))).1) kont) ?_
    show Go p e s below _ _ _ s₁ (mkF m 43 #[.val (.long a), .second, .val (.long mk), .second, .val (.long bv), .second, .val (.int p3), .val (.int p4), .val (.int p5), .val (.int (1 : Int32)), .val (.long (2097408 : Int64)), .second, .unset, .unset, .unset, .unset, .unset, .unset, .unset, .unset, .unset, .unset] [])
    refine Go.st (X0.ldc2Long hx hown (mvT hZ (hw _ (List.mem_of_getElem? (i := 1) rfl))) (g := (mkF m 43 #[.val (.long a), .second, .val (.long mk), .second, .val (.long bv), .second, .val (.int p3), .val (.int p4), .val (.int p5), .val (.int (1 : Int32)), .val (.long (2097408 : Int64)), .second, .unset, .unset, .unset, .unset, .unset, .unset, .unset, .unset, .unset, .unset] [])) rfl (hb hby at_43)) ?_
    show Go p e s below _ _ _ s₁ (mkF m 46 #[.val (.long a), .second, .val (.long mk), .second, .val (.long bv), .second, .val (.int p3), .val (.int p4), .val (.int p5), .val (.int (1 : Int32)), .val (.long (2097408 : Int64)), .second, .unset, .unset, .unset, .unset, .unset, .unset, .unset, .unset, .unset, .unset] [(.long (32772 : Int64))])
    refine Go.st (fun _ kont => XS.goto X0.here hx rfl (pc0 := 46) (pc' := 59) rfl (hb hby at_46) (by decide) (by decide) kont) ?_
    show Go p e s below _ _ _ s₁ (mkF m 59 #[.val (.long a), .second, .val (.long mk), .second, .val (.long bv), .second, .val (.int p3), .val (.int p4), .val (.int p5), .val (.int (1 : Int32)), .val (.long (2097408 : Int64)), .second, .unset, .unset, .unset, .unset, .unset, .unset, .unset, .unset, .unset, .unset] [(.long (32772 : Int64))])
    refine Go.st (fun _ kont => XS.lstore X0.here hx rfl (hb hby at_59) rfl (l' := #[.val (.long a), .second, .val (.long mk), .second, .val (.long bv), .second, .val (.int p3), .val (.int p4), .val (.int p5), .val (.int (1 : Int32)), .val (.long (2097408 : Int64)), .second, .val (.long (32772 : Int64)), .second, .unset, .unset, .unset, .unset, .unset, .unset, .unset, .unset]) rfl kont) ?_
    show Go p e s below _ _ _ s₁ (mkF m 61 #[.val (.long a), .second, .val (.long mk), .second, .val (.long bv), .second, .val (.int p3), .val (.int p4), .val (.int p5), .val (.int (1 : Int32)), .val (.long (2097408 : Int64)), .second, .val (.long (32772 : Int64)), .second, .unset, .unset, .unset, .unset, .unset, .unset, .unset, .unset] [])
    obtain ⟨wn, hw0⟩ : ∃ z : Int64, z = (32772 : Int64) := ⟨_, rfl⟩
    have hw_ : wn = ((((2097408 : Int64) + (63 : Int64)).toUInt64 >>> ((6 : Int32) &&& 0x3f).toInt64.toUInt64).toInt64) := by rw [hw0]; decide
    have hw1 := own_words (x := (2097408 : Int64)) (by decide) hw_
    have z7 : (2097408 : Int64).toInt = 2097408 := by decide
    rw [← hw0]
    show Go p e s below _ _ _ s₁ (mkF m 61 #[.val (.long a), .second, .val (.long mk), .second, .val (.long bv), .second, .val (.int p3), .val (.int p4), .val (.int p5), .val (.int (1 : Int32)), .val (.long (2097408 : Int64)), .second, .val (.long wn), .second, .unset, .unset, .unset, .unset, .unset, .unset, .unset, .unset] [])
    have hww : 0 < wn.toInt ∧ wn.toInt ≤ 98304 := ⟨by omega, by omega⟩
    refine Go.st (fun _ kont => XS.iload X0.here hx rfl (hb hby at_61) rfl kont) ?_
    show Go p e s below _ _ _ s₁ (mkF m 63 #[.val (.long a), .second, .val (.long mk), .second, .val (.long bv), .second, .val (.int p3), .val (.int p4), .val (.int p5), .val (.int (1 : Int32)), .val (.long (2097408 : Int64)), .second, .val (.long wn), .second, .unset, .unset, .unset, .unset, .unset, .unset, .unset, .unset] [(.int p3)])
    refine Go.st (X0.ldcInt hx hown (mvT hZ (hw _ (List.mem_of_getElem? (i := 2) rfl))) (g := (mkF m 63 #[.val (.long a), .second, .val (.long mk), .second, .val (.long bv), .second, .val (.int p3), .val (.int p4), .val (.int p5), .val (.int (1 : Int32)), .val (.long (2097408 : Int64)), .second, .val (.long wn), .second, .unset, .unset, .unset, .unset, .unset, .unset, .unset, .unset] [(.int p3)])) rfl (hb hby at_63)) ?_
    show Go p e s below _ _ _ s₁ (mkF m 65 #[.val (.long a), .second, .val (.long mk), .second, .val (.long bv), .second, .val (.int p3), .val (.int p4), .val (.int p5), .val (.int (1 : Int32)), .val (.long (2097408 : Int64)), .second, .val (.long wn), .second, .unset, .unset, .unset, .unset, .unset, .unset, .unset, .unset] [(.int (2147483647 : Int32)), (.int p3)])
    refine Go.st (fun _ kont => XS.iand X0.here hx rfl (hb hby at_65) rfl kont) ?_
    show Go p e s below _ _ _ s₁ (mkF m 66 #[.val (.long a), .second, .val (.long mk), .second, .val (.long bv), .second, .val (.int p3), .val (.int p4), .val (.int p5), .val (.int (1 : Int32)), .val (.long (2097408 : Int64)), .second, .val (.long wn), .second, .unset, .unset, .unset, .unset, .unset, .unset, .unset, .unset] [(.int (p3 &&& (2147483647 : Int32)))])
    refine Go.st (fun _ kont => XS.i2l X0.here hx rfl (hb hby at_66) rfl kont) ?_
    show Go p e s below _ _ _ s₁ (mkF m 67 #[.val (.long a), .second, .val (.long mk), .second, .val (.long bv), .second, .val (.int p3), .val (.int p4), .val (.int p5), .val (.int (1 : Int32)), .val (.long (2097408 : Int64)), .second, .val (.long wn), .second, .unset, .unset, .unset, .unset, .unset, .unset, .unset, .unset] [(.long ((p3 &&& (2147483647 : Int32)).toInt64))])
    refine Go.st (fun _ kont => XS.lload X0.here hx rfl (hb hby at_67) rfl kont) ?_
    show Go p e s below _ _ _ s₁ (mkF m 69 #[.val (.long a), .second, .val (.long mk), .second, .val (.long bv), .second, .val (.int p3), .val (.int p4), .val (.int p5), .val (.int (1 : Int32)), .val (.long (2097408 : Int64)), .second, .val (.long wn), .second, .unset, .unset, .unset, .unset, .unset, .unset, .unset, .unset] [(.long wn), (.long ((p3 &&& (2147483647 : Int32)).toInt64))])
    refine Go.st (fun _ kont => own_lremM X0 hx rfl (hb hby at_69) rfl (own_nz hww.1) kont) ?_
    show Go p e s below _ _ _ s₁ (mkF m 70 #[.val (.long a), .second, .val (.long mk), .second, .val (.long bv), .second, .val (.int p3), .val (.int p4), .val (.int p5), .val (.int (1 : Int32)), .val (.long (2097408 : Int64)), .second, .val (.long wn), .second, .unset, .unset, .unset, .unset, .unset, .unset, .unset, .unset] [(.long (((p3 &&& (2147483647 : Int32)).toInt64) % wn))])
    refine Go.st (fun _ kont => XS.lstore X0.here hx rfl (hb hby at_70) rfl (l' := #[.val (.long a), .second, .val (.long mk), .second, .val (.long bv), .second, .val (.int p3), .val (.int p4), .val (.int p5), .val (.int (1 : Int32)), .val (.long (2097408 : Int64)), .second, .val (.long wn), .second, .val (.long (((p3 &&& (2147483647 : Int32)).toInt64) % wn)), .second, .unset, .unset, .unset, .unset, .unset, .unset]) rfl kont) ?_
    show Go p e s below _ _ _ s₁ (mkF m 72 #[.val (.long a), .second, .val (.long mk), .second, .val (.long bv), .second, .val (.int p3), .val (.int p4), .val (.int p5), .val (.int (1 : Int32)), .val (.long (2097408 : Int64)), .second, .val (.long wn), .second, .val (.long (((p3 &&& (2147483647 : Int32)).toInt64) % wn)), .second, .unset, .unset, .unset, .unset, .unset, .unset] [])
    obtain ⟨i, hi⟩ : ∃ z : Int64, z = (((p3 &&& (2147483647 : Int32)).toInt64) % wn) := ⟨_, rfl⟩
    rw [← hi]
    show Go p e s below _ _ _ s₁ (mkF m 72 #[.val (.long a), .second, .val (.long mk), .second, .val (.long bv), .second, .val (.int p3), .val (.int p4), .val (.int p5), .val (.int (1 : Int32)), .val (.long (2097408 : Int64)), .second, .val (.long wn), .second, .val (.long i), .second, .unset, .unset, .unset, .unset, .unset, .unset] [])
    have r_i := own_lmod (own_mi _) hww.1 hi
    refine Go.st (fun _ kont => XS.iload X0.here hx rfl (hb hby at_72) rfl kont) ?_
    show Go p e s below _ _ _ s₁ (mkF m 74 #[.val (.long a), .second, .val (.long mk), .second, .val (.long bv), .second, .val (.int p3), .val (.int p4), .val (.int p5), .val (.int (1 : Int32)), .val (.long (2097408 : Int64)), .second, .val (.long wn), .second, .val (.long i), .second, .unset, .unset, .unset, .unset, .unset, .unset] [(.int p4)])
    refine Go.st (X0.ldcInt hx hown (mvT hZ (hw _ (List.mem_of_getElem? (i := 2) rfl))) (g := (mkF m 74 #[.val (.long a), .second, .val (.long mk), .second, .val (.long bv), .second, .val (.int p3), .val (.int p4), .val (.int p5), .val (.int (1 : Int32)), .val (.long (2097408 : Int64)), .second, .val (.long wn), .second, .val (.long i), .second, .unset, .unset, .unset, .unset, .unset, .unset] [(.int p4)])) rfl (hb hby at_74)) ?_
    show Go p e s below _ _ _ s₁ (mkF m 76 #[.val (.long a), .second, .val (.long mk), .second, .val (.long bv), .second, .val (.int p3), .val (.int p4), .val (.int p5), .val (.int (1 : Int32)), .val (.long (2097408 : Int64)), .second, .val (.long wn), .second, .val (.long i), .second, .unset, .unset, .unset, .unset, .unset, .unset] [(.int (2147483647 : Int32)), (.int p4)])
    refine Go.st (fun _ kont => XS.iand X0.here hx rfl (hb hby at_76) rfl kont) ?_
    show Go p e s below _ _ _ s₁ (mkF m 77 #[.val (.long a), .second, .val (.long mk), .second, .val (.long bv), .second, .val (.int p3), .val (.int p4), .val (.int p5), .val (.int (1 : Int32)), .val (.long (2097408 : Int64)), .second, .val (.long wn), .second, .val (.long i), .second, .unset, .unset, .unset, .unset, .unset, .unset] [(.int (p4 &&& (2147483647 : Int32)))])
    refine Go.st (fun _ kont => XS.i2l X0.here hx rfl (hb hby at_77) rfl kont) ?_
    show Go p e s below _ _ _ s₁ (mkF m 78 #[.val (.long a), .second, .val (.long mk), .second, .val (.long bv), .second, .val (.int p3), .val (.int p4), .val (.int p5), .val (.int (1 : Int32)), .val (.long (2097408 : Int64)), .second, .val (.long wn), .second, .val (.long i), .second, .unset, .unset, .unset, .unset, .unset, .unset] [(.long ((p4 &&& (2147483647 : Int32)).toInt64))])
    refine Go.st (fun _ kont => XS.lload X0.here hx rfl (hb hby at_78) rfl kont) ?_
    show Go p e s below _ _ _ s₁ (mkF m 80 #[.val (.long a), .second, .val (.long mk), .second, .val (.long bv), .second, .val (.int p3), .val (.int p4), .val (.int p5), .val (.int (1 : Int32)), .val (.long (2097408 : Int64)), .second, .val (.long wn), .second, .val (.long i), .second, .unset, .unset, .unset, .unset, .unset, .unset] [(.long wn), (.long ((p4 &&& (2147483647 : Int32)).toInt64))])
    refine Go.st (fun _ kont => own_lremM X0 hx rfl (hb hby at_80) rfl (own_nz hww.1) kont) ?_
    show Go p e s below _ _ _ s₁ (mkF m 81 #[.val (.long a), .second, .val (.long mk), .second, .val (.long bv), .second, .val (.int p3), .val (.int p4), .val (.int p5), .val (.int (1 : Int32)), .val (.long (2097408 : Int64)), .second, .val (.long wn), .second, .val (.long i), .second, .unset, .unset, .unset, .unset, .unset, .unset] [(.long (((p4 &&& (2147483647 : Int32)).toInt64) % wn))])
    refine Go.st (fun _ kont => XS.lstore X0.here hx rfl (hb hby at_81) rfl (l' := #[.val (.long a), .second, .val (.long mk), .second, .val (.long bv), .second, .val (.int p3), .val (.int p4), .val (.int p5), .val (.int (1 : Int32)), .val (.long (2097408 : Int64)), .second, .val (.long wn), .second, .val (.long i), .second, .val (.long (((p4 &&& (2147483647 : Int32)).toInt64) % wn)), .second, .unset, .unset, .unset, .unset]) rfl kont) ?_
    show Go p e s below _ _ _ s₁ (mkF m 83 #[.val (.long a), .second, .val (.long mk), .second, .val (.long bv), .second, .val (.int p3), .val (.int p4), .val (.int p5), .val (.int (1 : Int32)), .val (.long (2097408 : Int64)), .second, .val (.long wn), .second, .val (.long i), .second, .val (.long (((p4 &&& (2147483647 : Int32)).toInt64) % wn)), .second, .unset, .unset, .unset, .unset] [])
    obtain ⟨j, hj⟩ : ∃ z : Int64, z = (((p4 &&& (2147483647 : Int32)).toInt64) % wn) := ⟨_, rfl⟩
    rw [← hj]
    show Go p e s below _ _ _ s₁ (mkF m 83 #[.val (.long a), .second, .val (.long mk), .second, .val (.long bv), .second, .val (.int p3), .val (.int p4), .val (.int p5), .val (.int (1 : Int32)), .val (.long (2097408 : Int64)), .second, .val (.long wn), .second, .val (.long i), .second, .val (.long j), .second, .unset, .unset, .unset, .unset] [])
    have r_j := own_lmod (own_mi _) hww.1 hj
    obtain ⟨T13, h13, X13, e13, E13, A13, D13, -, st13⟩ := newO X0 hx hZ hown (hw _ (List.mem_of_getElem? (i := 3) rfl)) (hw _ (List.mem_of_getElem? (i := 4) rfl)) (hw _ (List.mem_of_getElem? (i := 5) rfl)) e0 (g := (mkF m 83 #[.val (.long a), .second, .val (.long mk), .second, .val (.long bv), .second, .val (.int p3), .val (.int p4), .val (.int p5), .val (.int (1 : Int32)), .val (.long (2097408 : Int64)), .second, .val (.long wn), .second, .val (.long i), .second, .val (.long j), .second, .unset, .unset, .unset, .unset] [])) rfl (hb hby at_83) (by decide) (by decide)
    obtain ⟨b13, g13⟩ : ∃ z, z = h0.size := ⟨_, rfl⟩
    rw [← g13] at A13 D13 st13
    have sz13 : h0.size ≤ b13 := Nat.le_trans Q0.1 (Nat.le_of_eq g13.symm)
    have gn13 : n0 ≤ b13 := Nat.le_trans Z0 sz13
    refine Go.st st13 ?_
    have Q_13 : Ext h0 h13 := own_extE Q0 E13
    have F_bits_b13 : Fld Z h13 b13 "com/example/criba/criba/PagedWords" "bits" "J" (.long (0 : Int64)) := D13 (Or.inr (hw _ (List.mem_of_getElem? (i := 35) rfl))) (ty := .long) (by decide)
    have F_lastWord_b13 : Fld Z h13 b13 "com/example/criba/criba/PagedWords" "lastWord" "J" (.long (0 : Int64)) := D13 (Or.inr (hw _ (List.mem_of_getElem? (i := 37) rfl))) (ty := .long) (by decide)
    have F_pages_b13 : Fld Z h13 b13 "com/example/criba/criba/PagedWords" "pages" "[[J" .null := D13 (Or.inr (hw _ (List.mem_of_getElem? (i := 39) rfl))) (ty := (.array (.array .long))) (by decide)
    have F_onlyPage_b13 : Fld Z h13 b13 "com/example/criba/criba/PagedWords" "onlyPage" "[J" .null := D13 (Or.inr (hw _ (List.mem_of_getElem? (i := 41) rfl))) (ty := (.array .long)) (by decide)
    show Go p e s below _ _ _ T13 (mkF m 86 #[.val (.long a), .second, .val (.long mk), .second, .val (.long bv), .second, .val (.int p3), .val (.int p4), .val (.int p5), .val (.int (1 : Int32)), .val (.long (2097408 : Int64)), .second, .val (.long wn), .second, .val (.long i), .second, .val (.long j), .second, .unset, .unset, .unset, .unset] [(.ref b13)])
    refine Go.st (fun _ kont => XS.dup X13.here hx rfl (hb hby at_86) rfl rfl kont) ?_
    show Go p e s below _ _ _ T13 (mkF m 87 #[.val (.long a), .second, .val (.long mk), .second, .val (.long bv), .second, .val (.int p3), .val (.int p4), .val (.int p5), .val (.int (1 : Int32)), .val (.long (2097408 : Int64)), .second, .val (.long wn), .second, .val (.long i), .second, .val (.long j), .second, .unset, .unset, .unset, .unset] [(.ref b13), (.ref b13)])
    refine Go.st (fun _ kont => XS.lload X13.here hx rfl (hb hby at_87) rfl kont) ?_
    show Go p e s below _ _ _ T13 (mkF m 89 #[.val (.long a), .second, .val (.long mk), .second, .val (.long bv), .second, .val (.int p3), .val (.int p4), .val (.int p5), .val (.int (1 : Int32)), .val (.long (2097408 : Int64)), .second, .val (.long wn), .second, .val (.long i), .second, .val (.long j), .second, .unset, .unset, .unset, .unset] [(.long (2097408 : Int64)), (.ref b13), (.ref b13)])
    refine Go.callC (b := b13) (W := 1) (argsL := [(.long (2097408 : Int64))]) (rest := [(.ref b13)]) X13 hx hZ (y := (⟨"com/example/criba/criba/PagedWords", "<init>", "(J)V"⟩ : MethodName)) rfl hown (hw _ (List.mem_of_getElem? (i := 6) rfl)) (hw _ (List.mem_of_getElem? (i := 7) rfl)) (hw _ (List.mem_of_getElem? (i := 5) rfl)) (hw _ (List.mem_of_getElem? (i := 8) rfl)) (rmI l Z a0 hw [] b13 (2097408 : Int64) wn h13 n0 (Nat.le_trans Z0 Q_13.1) gn13 A13 F_bits_b13 F_lastWord_b13 F_pages_b13 F_onlyPage_b13 hw_ hww.1 (by omega)) e13 (by decide) (by decide) (by decide) (by decide) (by decide) (by rw [hml]; rfl) (lenOf pd__J_V rfl) (Nat.le_of_eq rfl) (hb hby at_89) ?_
    intro T14 v14 L14 X14 hQ14
    obtain ⟨h14, e14⟩ : ∃ z, T14.heap = z := ⟨_, rfl⟩
    rw [e14] at hQ14
    obtain ⟨ps, P, pg, rfl, N14, K14, hP, F14, hge⟩ := hQ14
    have M14 := Fr.app N0 N14
    have gn : ∀ q : Nat, q < P → n0 ≤ pg q := fun q hq => Nat.le_trans Z0 (Nat.le_trans Q_13.1 (hge q hq))
    have I_i := own_ix r_i.1 r_i.2 hP
    have I_j := own_ix r_j.1 r_j.2 hP
    show Go p e s below _ _ _ T14 (mkF m 92 #[.val (.long a), .second, .val (.long mk), .second, .val (.long bv), .second, .val (.int p3), .val (.int p4), .val (.int p5), .val (.int (1 : Int32)), .val (.long (2097408 : Int64)), .second, .val (.long wn), .second, .val (.long i), .second, .val (.long j), .second, .unset, .unset, .unset, .unset] [(.ref b13)])
    by_cases hij : j = i
    · --
      show Go p e s below _ _ _ T14 (mkF m 92 #[.val (.long a), .second, .val (.long mk), .second, .val (.long bv), .second, .val (.int p3), .val (.int p4), .val (.int p5), .val (.int (1 : Int32)), .val (.long (2097408 : Int64)), .second, .val (.long wn), .second, .val (.long i), .second, .val (.long j), .second, .unset, .unset, .unset, .unset] [(.ref b13)])
      refine Go.st (fun _ kont => XS.astore X14.here hx rfl (hb hby at_92) rfl rfl (l' := #[.val (.long a), .second, .val (.long mk), .second, .val (.long bv), .second, .val (.int p3), .val (.int p4), .val (.int p5), .val (.int (1 : Int32)), .val (.long (2097408 : Int64)), .second, .val (.long wn), .second, .val (.long i), .second, .val (.long j), .second, .val (.ref b13), .unset, .unset, .unset]) rfl kont) ?_
      show Go p e s below _ _ _ T14 (mkF m 94 #[.val (.long a), .second, .val (.long mk), .second, .val (.long bv), .second, .val (.int p3), .val (.int p4), .val (.int p5), .val (.int (1 : Int32)), .val (.long (2097408 : Int64)), .second, .val (.long wn), .second, .val (.long i), .second, .val (.long j), .second, .val (.ref b13), .unset, .unset, .unset] [])
      refine Go.st (fun _ kont => XS.aload X14.here hx rfl (hb hby at_94) rfl rfl kont) ?_
      show Go p e s below _ _ _ T14 (mkF m 96 #[.val (.long a), .second, .val (.long mk), .second, .val (.long bv), .second, .val (.int p3), .val (.int p4), .val (.int p5), .val (.int (1 : Int32)), .val (.long (2097408 : Int64)), .second, .val (.long wn), .second, .val (.long i), .second, .val (.long j), .second, .val (.ref b13), .unset, .unset, .unset] [(.ref b13)])
      refine Go.st (fun _ kont => XS.lload X14.here hx rfl (hb hby at_96) rfl kont) ?_
      show Go p e s below _ _ _ T14 (mkF m 98 #[.val (.long a), .second, .val (.long mk), .second, .val (.long bv), .second, .val (.int p3), .val (.int p4), .val (.int p5), .val (.int (1 : Int32)), .val (.long (2097408 : Int64)), .second, .val (.long wn), .second, .val (.long i), .second, .val (.long j), .second, .val (.ref b13), .unset, .unset, .unset] [(.long j), (.ref b13)])
      refine Go.st (fun _ kont => XS.lload X14.here hx rfl (hb hby at_98) rfl kont) ?_
      show Go p e s below _ _ _ T14 (mkF m 100 #[.val (.long a), .second, .val (.long mk), .second, .val (.long bv), .second, .val (.int p3), .val (.int p4), .val (.int p5), .val (.int (1 : Int32)), .val (.long (2097408 : Int64)), .second, .val (.long wn), .second, .val (.long i), .second, .val (.long j), .second, .val (.ref b13), .unset, .unset, .unset] [(.long bv), (.long j), (.ref b13)])
      refine Go.callV (b := b13) (W := 0) (argsL := [(.long j), (.long bv)]) (rest := []) X14 hx hZ hown (y := (⟨"com/example/criba/criba/PagedWords", "setWord", "(JJ)V"⟩ : MethodName)) (z := (⟨"com/example/criba/criba/PagedWords", "setWord", "(JJ)V"⟩ : MethodName)) (hw _ (List.mem_of_getElem? (i := 42) rfl)) (hw _ (List.mem_of_getElem? (i := 43) rfl)) (notFace_of_selects (args := #[]) (mvT hZ (hw _ (List.mem_of_getElem? (i := 45) rfl)))) (hw _ (List.mem_of_getElem? (i := 45) rfl)) (hw _ (List.mem_of_getElem? (i := 44) rfl)) (hw _ (List.mem_of_getElem? (i := 5) rfl)) (hw _ (List.mem_of_getElem? (i := 46) rfl)) (rmS l Z a0 hw [] b13 ps j wn.toInt P (j.toInt / 32768).toNat (j.toInt % 32768).toNat pg (fun _ => (0 : Int64)) bv h14 n0 F14 I_j hww.2 gn) e14 F14.1 (by decide) (by decide) (by decide) (by decide) (by decide) (by rw [hml]; rfl) (lenOf pd__JJ_V rfl) (Nat.le_of_eq rfl) (hb hby at_100) ?_
      intro T15 v15 L15 X15 hQ15
      obtain ⟨h15, e15⟩ : ∃ z, T15.heap = z := ⟨_, rfl⟩
      rw [e15] at hQ15
      obtain ⟨rfl, N15, K15, F15⟩ := hQ15
      have M15 := Fr.app M14 N15
      show Go p e s below _ _ _ T15 (mkF m 103 #[.val (.long a), .second, .val (.long mk), .second, .val (.long bv), .second, .val (.int p3), .val (.int p4), .val (.int p5), .val (.int (1 : Int32)), .val (.long (2097408 : Int64)), .second, .val (.long wn), .second, .val (.long i), .second, .val (.long j), .second, .val (.ref b13), .unset, .unset, .unset] [])
      refine Go.st (fun _ kont => XS.aload X15.here hx rfl (hb hby at_103) rfl rfl kont) ?_
      show Go p e s below _ _ _ T15 (mkF m 105 #[.val (.long a), .second, .val (.long mk), .second, .val (.long bv), .second, .val (.int p3), .val (.int p4), .val (.int p5), .val (.int (1 : Int32)), .val (.long (2097408 : Int64)), .second, .val (.long wn), .second, .val (.long i), .second, .val (.long j), .second, .val (.ref b13), .unset, .unset, .unset] [(.ref b13)])
      refine Go.st (fun _ kont => XS.lload X15.here hx rfl (hb hby at_105) rfl kont) ?_
      show Go p e s below _ _ _ T15 (mkF m 107 #[.val (.long a), .second, .val (.long mk), .second, .val (.long bv), .second, .val (.int p3), .val (.int p4), .val (.int p5), .val (.int (1 : Int32)), .val (.long (2097408 : Int64)), .second, .val (.long wn), .second, .val (.long i), .second, .val (.long j), .second, .val (.ref b13), .unset, .unset, .unset] [(.long i), (.ref b13)])
      refine Go.st (fun _ kont => XS.lloadN X15.here hx rfl (hb hby at_107) rfl kont) ?_
      show Go p e s below _ _ _ T15 (mkF m 108 #[.val (.long a), .second, .val (.long mk), .second, .val (.long bv), .second, .val (.int p3), .val (.int p4), .val (.int p5), .val (.int (1 : Int32)), .val (.long (2097408 : Int64)), .second, .val (.long wn), .second, .val (.long i), .second, .val (.long j), .second, .val (.ref b13), .unset, .unset, .unset] [(.long a), (.long i), (.ref b13)])
      refine Go.callV (b := b13) (W := 0) (argsL := [(.long i), (.long a)]) (rest := []) X15 hx hZ hown (y := (⟨"com/example/criba/criba/PagedWords", "setWord", "(JJ)V"⟩ : MethodName)) (z := (⟨"com/example/criba/criba/PagedWords", "setWord", "(JJ)V"⟩ : MethodName)) (hw _ (List.mem_of_getElem? (i := 42) rfl)) (hw _ (List.mem_of_getElem? (i := 43) rfl)) (notFace_of_selects (args := #[]) (mvT hZ (hw _ (List.mem_of_getElem? (i := 45) rfl)))) (hw _ (List.mem_of_getElem? (i := 45) rfl)) (hw _ (List.mem_of_getElem? (i := 44) rfl)) (hw _ (List.mem_of_getElem? (i := 5) rfl)) (hw _ (List.mem_of_getElem? (i := 46) rfl)) (rmS l Z a0 hw [] b13 ps i wn.toInt P (i.toInt / 32768).toNat (i.toInt % 32768).toNat pg (fun z => if z = j.toInt then bv else (fun _ => (0 : Int64)) z) a h15 n0 F15 I_i hww.2 gn) e15 F15.1 (by decide) (by decide) (by decide) (by decide) (by decide) (by rw [hml]; rfl) (lenOf pd__JJ_V rfl) (Nat.le_of_eq rfl) (hb hby at_108) ?_
      intro T16 v16 L16 X16 hQ16
      obtain ⟨h16, e16⟩ : ∃ z, T16.heap = z := ⟨_, rfl⟩
      rw [e16] at hQ16
      obtain ⟨rfl, N16, K16, F16⟩ := hQ16
      have M16 := Fr.app M15 N16
      show Go p e s below _ _ _ T16 (mkF m 111 #[.val (.long a), .second, .val (.long mk), .second, .val (.long bv), .second, .val (.int p3), .val (.int p4), .val (.int p5), .val (.int (1 : Int32)), .val (.long (2097408 : Int64)), .second, .val (.long wn), .second, .val (.long i), .second, .val (.long j), .second, .val (.ref b13), .unset, .unset, .unset] [])
      refine Go.st (fun _ kont => XS.aload X16.here hx rfl (hb hby at_111) rfl rfl kont) ?_
      show Go p e s below _ _ _ T16 (mkF m 113 #[.val (.long a), .second, .val (.long mk), .second, .val (.long bv), .second, .val (.int p3), .val (.int p4), .val (.int p5), .val (.int (1 : Int32)), .val (.long (2097408 : Int64)), .second, .val (.long wn), .second, .val (.long i), .second, .val (.long j), .second, .val (.ref b13), .unset, .unset, .unset] [(.ref b13)])
      refine Go.st (fun _ kont => XS.lload X16.here hx rfl (hb hby at_113) rfl kont) ?_
      show Go p e s below _ _ _ T16 (mkF m 115 #[.val (.long a), .second, .val (.long mk), .second, .val (.long bv), .second, .val (.int p3), .val (.int p4), .val (.int p5), .val (.int (1 : Int32)), .val (.long (2097408 : Int64)), .second, .val (.long wn), .second, .val (.long i), .second, .val (.long j), .second, .val (.ref b13), .unset, .unset, .unset] [(.long i), (.ref b13)])
      refine Go.st (fun _ kont => XS.lloadN X16.here hx rfl (hb hby at_115) rfl kont) ?_
      show Go p e s below _ _ _ T16 (mkF m 116 #[.val (.long a), .second, .val (.long mk), .second, .val (.long bv), .second, .val (.int p3), .val (.int p4), .val (.int p5), .val (.int (1 : Int32)), .val (.long (2097408 : Int64)), .second, .val (.long wn), .second, .val (.long i), .second, .val (.long j), .second, .val (.ref b13), .unset, .unset, .unset] [(.long mk), (.long i), (.ref b13)])
      refine Go.callV (b := b13) (W := 0) (argsL := [(.long i), (.long mk)]) (rest := []) X16 hx hZ hown (y := (⟨"com/example/criba/criba/PagedWords", "orWord", "(JJ)J"⟩ : MethodName)) (z := (⟨"com/example/criba/criba/PagedWords", "orWord", "(JJ)J"⟩ : MethodName)) (hw _ (List.mem_of_getElem? (i := 51) rfl)) (hw _ (List.mem_of_getElem? (i := 52) rfl)) (notFace_of_selects (args := #[]) (mvT hZ (hw _ (List.mem_of_getElem? (i := 54) rfl)))) (hw _ (List.mem_of_getElem? (i := 54) rfl)) (hw _ (List.mem_of_getElem? (i := 53) rfl)) (hw _ (List.mem_of_getElem? (i := 5) rfl)) (hw _ (List.mem_of_getElem? (i := 55) rfl)) (rmO l Z a0 hw [] b13 ps i wn.toInt P (i.toInt / 32768).toNat (i.toInt % 32768).toNat pg (fun z => if z = i.toInt then a else (fun z => if z = j.toInt then bv else (fun _ => (0 : Int64)) z) z) mk a h16 n0 F16 I_i hww.2 gn (if_pos rfl)) e16 F16.1 (by decide) (by decide) (by decide) (by decide) (by decide) (by rw [hml]; rfl) (lenOf pd__JJ_J rfl) (Nat.le_of_eq rfl) (hb hby at_116) ?_
      intro T17 v17 L17 X17 hQ17
      obtain ⟨h17, e17⟩ : ∃ z, T17.heap = z := ⟨_, rfl⟩
      rw [e17] at hQ17
      obtain ⟨rfl, N17, K17, F17⟩ := hQ17
      have M17 := Fr.app M16 N17
      show Go p e s below _ _ _ T17 (mkF m 119 #[.val (.long a), .second, .val (.long mk), .second, .val (.long bv), .second, .val (.int p3), .val (.int p4), .val (.int p5), .val (.int (1 : Int32)), .val (.long (2097408 : Int64)), .second, .val (.long wn), .second, .val (.long i), .second, .val (.long j), .second, .val (.ref b13), .unset, .unset, .unset] [(.long a)])
      refine Go.st (fun _ kont => XS.lstore X17.here hx rfl (hb hby at_119) rfl (l' := #[.val (.long a), .second, .val (.long mk), .second, .val (.long bv), .second, .val (.int p3), .val (.int p4), .val (.int p5), .val (.int (1 : Int32)), .val (.long (2097408 : Int64)), .second, .val (.long wn), .second, .val (.long i), .second, .val (.long j), .second, .val (.ref b13), .val (.long a), .second, .unset]) rfl kont) ?_
      show Go p e s below _ _ _ T17 (mkF m 121 #[.val (.long a), .second, .val (.long mk), .second, .val (.long bv), .second, .val (.int p3), .val (.int p4), .val (.int p5), .val (.int (1 : Int32)), .val (.long (2097408 : Int64)), .second, .val (.long wn), .second, .val (.long i), .second, .val (.long j), .second, .val (.ref b13), .val (.long a), .second, .unset] [])
      refine Go.st (fun _ kont => XS.lload X17.here hx rfl (hb hby at_121) rfl kont) ?_
      show Go p e s below _ _ _ T17 (mkF m 123 #[.val (.long a), .second, .val (.long mk), .second, .val (.long bv), .second, .val (.int p3), .val (.int p4), .val (.int p5), .val (.int (1 : Int32)), .val (.long (2097408 : Int64)), .second, .val (.long wn), .second, .val (.long i), .second, .val (.long j), .second, .val (.ref b13), .val (.long a), .second, .unset] [(.long a)])
      refine Go.st (fun _ kont => XS.lloadN X17.here hx rfl (hb hby at_123) rfl kont) ?_
      show Go p e s below _ _ _ T17 (mkF m 124 #[.val (.long a), .second, .val (.long mk), .second, .val (.long bv), .second, .val (.int p3), .val (.int p4), .val (.int p5), .val (.int (1 : Int32)), .val (.long (2097408 : Int64)), .second, .val (.long wn), .second, .val (.long i), .second, .val (.long j), .second, .val (.ref b13), .val (.long a), .second, .unset] [(.long a), (.long a)])
      refine Go.st (fun _ kont => XS.lcmp X17.here hx rfl (hb hby at_124) rfl kont) ?_
      show Go p e s below _ _ _ T17 (mkF m 125 #[.val (.long a), .second, .val (.long mk), .second, .val (.long bv), .second, .val (.int p3), .val (.int p4), .val (.int p5), .val (.int (1 : Int32)), .val (.long (2097408 : Int64)), .second, .val (.long wn), .second, .val (.long i), .second, .val (.long j), .second, .val (.ref b13), .val (.long a), .second, .unset] [(.int (lcmpW a a))])
      refine Go.st (fun _ kont => XS.ifNo X17.here hx rfl (hb hby at_125) rfl ((if0 _ _).trans (teq ((lw_eq _ _).mpr rfl)).2) kont) ?_
      show Go p e s below _ _ _ T17 (mkF m 128 #[.val (.long a), .second, .val (.long mk), .second, .val (.long bv), .second, .val (.int p3), .val (.int p4), .val (.int p5), .val (.int (1 : Int32)), .val (.long (2097408 : Int64)), .second, .val (.long wn), .second, .val (.long i), .second, .val (.long j), .second, .val (.ref b13), .val (.long a), .second, .unset] [])
      refine Go.st (fun _ kont => XS.aload X17.here hx rfl (hb hby at_128) rfl rfl kont) ?_
      show Go p e s below _ _ _ T17 (mkF m 130 #[.val (.long a), .second, .val (.long mk), .second, .val (.long bv), .second, .val (.int p3), .val (.int p4), .val (.int p5), .val (.int (1 : Int32)), .val (.long (2097408 : Int64)), .second, .val (.long wn), .second, .val (.long i), .second, .val (.long j), .second, .val (.ref b13), .val (.long a), .second, .unset] [(.ref b13)])
      refine Go.st (fun _ kont => XS.lload X17.here hx rfl (hb hby at_130) rfl kont) ?_
      show Go p e s below _ _ _ T17 (mkF m 132 #[.val (.long a), .second, .val (.long mk), .second, .val (.long bv), .second, .val (.int p3), .val (.int p4), .val (.int p5), .val (.int (1 : Int32)), .val (.long (2097408 : Int64)), .second, .val (.long wn), .second, .val (.long i), .second, .val (.long j), .second, .val (.ref b13), .val (.long a), .second, .unset] [(.long i), (.ref b13)])
      refine Go.callV (b := b13) (W := 0) (argsL := [(.long i)]) (rest := []) X17 hx hZ hown (y := (⟨"com/example/criba/criba/PagedWords", "word", "(J)J"⟩ : MethodName)) (z := (⟨"com/example/criba/criba/PagedWords", "word", "(J)J"⟩ : MethodName)) (hw _ (List.mem_of_getElem? (i := 56) rfl)) (hw _ (List.mem_of_getElem? (i := 57) rfl)) (notFace_of_selects (args := #[]) (mvT hZ (hw _ (List.mem_of_getElem? (i := 59) rfl)))) (hw _ (List.mem_of_getElem? (i := 59) rfl)) (hw _ (List.mem_of_getElem? (i := 58) rfl)) (hw _ (List.mem_of_getElem? (i := 5) rfl)) (hw _ (List.mem_of_getElem? (i := 60) rfl)) (rmR l Z a0 hw [] b13 ps i wn.toInt P (i.toInt / 32768).toNat (i.toInt % 32768).toNat pg (fun z => if z = i.toInt then (a ||| mk) else (fun z => if z = i.toInt then a else (fun z => if z = j.toInt then bv else (fun _ => (0 : Int64)) z) z) z) (a ||| mk) h17 n0 F17 I_i hww.2 (if_pos rfl)) e17 F17.1 (by decide) (by decide) (by decide) (by decide) (by decide) (by rw [hml]; rfl) (lenOf pd__J_J rfl) (Nat.le_of_eq rfl) (hb hby at_132) ?_
      intro T18 v18 L18 X18 hQ18
      obtain ⟨rfl, N18, E18⟩ := hQ18
      have M18 := Fr.app M17 N18
      show Go p e s below _ _ _ T18 (mkF m 135 #[.val (.long a), .second, .val (.long mk), .second, .val (.long bv), .second, .val (.int p3), .val (.int p4), .val (.int p5), .val (.int (1 : Int32)), .val (.long (2097408 : Int64)), .second, .val (.long wn), .second, .val (.long i), .second, .val (.long j), .second, .val (.ref b13), .val (.long a), .second, .unset] [(.long (a ||| mk))])
      refine Go.st (fun _ kont => XS.lloadN X18.here hx rfl (hb hby at_135) rfl kont) ?_
      show Go p e s below _ _ _ T18 (mkF m 136 #[.val (.long a), .second, .val (.long mk), .second, .val (.long bv), .second, .val (.int p3), .val (.int p4), .val (.int p5), .val (.int (1 : Int32)), .val (.long (2097408 : Int64)), .second, .val (.long wn), .second, .val (.long i), .second, .val (.long j), .second, .val (.ref b13), .val (.long a), .second, .unset] [(.long a), (.long (a ||| mk))])
      refine Go.st (fun _ kont => XS.lloadN X18.here hx rfl (hb hby at_136) rfl kont) ?_
      show Go p e s below _ _ _ T18 (mkF m 137 #[.val (.long a), .second, .val (.long mk), .second, .val (.long bv), .second, .val (.int p3), .val (.int p4), .val (.int p5), .val (.int (1 : Int32)), .val (.long (2097408 : Int64)), .second, .val (.long wn), .second, .val (.long i), .second, .val (.long j), .second, .val (.ref b13), .val (.long a), .second, .unset] [(.long mk), (.long a), (.long (a ||| mk))])
      refine Go.st (fun _ kont => XS.lor X18.here hx rfl (hb hby at_137) rfl kont) ?_
      show Go p e s below _ _ _ T18 (mkF m 138 #[.val (.long a), .second, .val (.long mk), .second, .val (.long bv), .second, .val (.int p3), .val (.int p4), .val (.int p5), .val (.int (1 : Int32)), .val (.long (2097408 : Int64)), .second, .val (.long wn), .second, .val (.long i), .second, .val (.long j), .second, .val (.ref b13), .val (.long a), .second, .unset] [(.long (a ||| mk)), (.long (a ||| mk))])
      refine Go.st (fun _ kont => XS.lcmp X18.here hx rfl (hb hby at_138) rfl kont) ?_
      show Go p e s below _ _ _ T18 (mkF m 139 #[.val (.long a), .second, .val (.long mk), .second, .val (.long bv), .second, .val (.int p3), .val (.int p4), .val (.int p5), .val (.int (1 : Int32)), .val (.long (2097408 : Int64)), .second, .val (.long wn), .second, .val (.long i), .second, .val (.long j), .second, .val (.ref b13), .val (.long a), .second, .unset] [(.int (lcmpW (a ||| mk) (a ||| mk)))])
      refine Go.st (fun _ kont => XS.ifNo X18.here hx rfl (hb hby at_139) rfl ((if0 _ _).trans (teq ((lw_eq _ _).mpr rfl)).2) kont) ?_
      show Go p e s below _ _ _ T18 (mkF m 142 #[.val (.long a), .second, .val (.long mk), .second, .val (.long bv), .second, .val (.int p3), .val (.int p4), .val (.int p5), .val (.int (1 : Int32)), .val (.long (2097408 : Int64)), .second, .val (.long wn), .second, .val (.long i), .second, .val (.long j), .second, .val (.ref b13), .val (.long a), .second, .unset] [])
      refine Go.st (fun _ kont => XT.iconstV X18.here hx rfl (1 : Int32) (hb hby at_142) (by decide) kont) ?_
      show Go p e s below _ _ _ T18 (mkF m 143 #[.val (.long a), .second, .val (.long mk), .second, .val (.long bv), .second, .val (.int p3), .val (.int p4), .val (.int p5), .val (.int (1 : Int32)), .val (.long (2097408 : Int64)), .second, .val (.long wn), .second, .val (.long i), .second, .val (.long j), .second, .val (.ref b13), .val (.long a), .second, .unset] [(.int (1 : Int32))])
      refine Go.st (fun _ kont => XS.goto X18.here hx rfl (pc0 := 143) (pc' := 147) rfl (hb hby at_143) (by decide) (by decide) kont) ?_
      show Go p e s below _ _ _ T18 (mkF m 147 #[.val (.long a), .second, .val (.long mk), .second, .val (.long bv), .second, .val (.int p3), .val (.int p4), .val (.int p5), .val (.int (1 : Int32)), .val (.long (2097408 : Int64)), .second, .val (.long wn), .second, .val (.long i), .second, .val (.long j), .second, .val (.ref b13), .val (.long a), .second, .unset] [(.int (1 : Int32))])
      refine Go.st (fun _ kont => XS.istore X18.here hx rfl (hb hby at_147) rfl (l' := #[.val (.long a), .second, .val (.long mk), .second, .val (.long bv), .second, .val (.int p3), .val (.int p4), .val (.int p5), .val (.int (1 : Int32)), .val (.long (2097408 : Int64)), .second, .val (.long wn), .second, .val (.long i), .second, .val (.long j), .second, .val (.ref b13), .val (.long a), .second, .val (.int (1 : Int32))]) rfl kont) ?_
      show Go p e s below _ _ _ T18 (mkF m 149 #[.val (.long a), .second, .val (.long mk), .second, .val (.long bv), .second, .val (.int p3), .val (.int p4), .val (.int p5), .val (.int (1 : Int32)), .val (.long (2097408 : Int64)), .second, .val (.long wn), .second, .val (.long i), .second, .val (.long j), .second, .val (.ref b13), .val (.long a), .second, .val (.int (1 : Int32))] [])
      refine Go.st (fun _ kont => XS.lload X18.here hx rfl (hb hby at_149) rfl kont) ?_
      show Go p e s below _ _ _ T18 (mkF m 151 #[.val (.long a), .second, .val (.long mk), .second, .val (.long bv), .second, .val (.int p3), .val (.int p4), .val (.int p5), .val (.int (1 : Int32)), .val (.long (2097408 : Int64)), .second, .val (.long wn), .second, .val (.long i), .second, .val (.long j), .second, .val (.ref b13), .val (.long a), .second, .val (.int (1 : Int32))] [(.long j)])
      refine Go.st (fun _ kont => XS.lload X18.here hx rfl (hb hby at_151) rfl kont) ?_
      show Go p e s below _ _ _ T18 (mkF m 153 #[.val (.long a), .second, .val (.long mk), .second, .val (.long bv), .second, .val (.int p3), .val (.int p4), .val (.int p5), .val (.int (1 : Int32)), .val (.long (2097408 : Int64)), .second, .val (.long wn), .second, .val (.long i), .second, .val (.long j), .second, .val (.ref b13), .val (.long a), .second, .val (.int (1 : Int32))] [(.long i), (.long j)])
      refine Go.st (fun _ kont => XS.lcmp X18.here hx rfl (hb hby at_153) rfl kont) ?_
      show Go p e s below _ _ _ T18 (mkF m 154 #[.val (.long a), .second, .val (.long mk), .second, .val (.long bv), .second, .val (.int p3), .val (.int p4), .val (.int p5), .val (.int (1 : Int32)), .val (.long (2097408 : Int64)), .second, .val (.long wn), .second, .val (.long i), .second, .val (.long j), .second, .val (.ref b13), .val (.long a), .second, .val (.int (1 : Int32))] [(.int (lcmpW j i))])
      refine Go.st (fun _ kont => XS.ifYes X18.here hx rfl (pc0 := 154) (pc' := 182) rfl (hb hby at_154) rfl ((if0 _ _).trans (teq ((lw_eq _ _).mpr hij)).1) (by decide) (by decide) kont) ?_
      show Go p e s below _ _ _ T18 (mkF m 182 #[.val (.long a), .second, .val (.long mk), .second, .val (.long bv), .second, .val (.int p3), .val (.int p4), .val (.int p5), .val (.int (1 : Int32)), .val (.long (2097408 : Int64)), .second, .val (.long wn), .second, .val (.long i), .second, .val (.long j), .second, .val (.ref b13), .val (.long a), .second, .val (.int (1 : Int32))] [])
      refine Go.st (fun _ kont => XS.iload X18.here hx rfl (hb hby at_182) rfl kont) ?_
      show Go p e s below _ _ _ T18 (mkF m 184 #[.val (.long a), .second, .val (.long mk), .second, .val (.long bv), .second, .val (.int p3), .val (.int p4), .val (.int p5), .val (.int (1 : Int32)), .val (.long (2097408 : Int64)), .second, .val (.long wn), .second, .val (.long i), .second, .val (.long j), .second, .val (.ref b13), .val (.long a), .second, .val (.int (1 : Int32))] [(.int (1 : Int32))])
      exact Go.retN X18 hx hlk hret (by simp) (hb hby at_184) (by decide) (by decide) ⟨rfl, M18⟩
    · --
      show Go p e s below _ _ _ T14 (mkF m 92 #[.val (.long a), .second, .val (.long mk), .second, .val (.long bv), .second, .val (.int p3), .val (.int p4), .val (.int p5), .val (.int (1 : Int32)), .val (.long (2097408 : Int64)), .second, .val (.long wn), .second, .val (.long i), .second, .val (.long j), .second, .unset, .unset, .unset, .unset] [(.ref b13)])
      refine Go.st (fun _ kont => XS.astore X14.here hx rfl (hb hby at_92) rfl rfl (l' := #[.val (.long a), .second, .val (.long mk), .second, .val (.long bv), .second, .val (.int p3), .val (.int p4), .val (.int p5), .val (.int (1 : Int32)), .val (.long (2097408 : Int64)), .second, .val (.long wn), .second, .val (.long i), .second, .val (.long j), .second, .val (.ref b13), .unset, .unset, .unset]) rfl kont) ?_
      show Go p e s below _ _ _ T14 (mkF m 94 #[.val (.long a), .second, .val (.long mk), .second, .val (.long bv), .second, .val (.int p3), .val (.int p4), .val (.int p5), .val (.int (1 : Int32)), .val (.long (2097408 : Int64)), .second, .val (.long wn), .second, .val (.long i), .second, .val (.long j), .second, .val (.ref b13), .unset, .unset, .unset] [])
      refine Go.st (fun _ kont => XS.aload X14.here hx rfl (hb hby at_94) rfl rfl kont) ?_
      show Go p e s below _ _ _ T14 (mkF m 96 #[.val (.long a), .second, .val (.long mk), .second, .val (.long bv), .second, .val (.int p3), .val (.int p4), .val (.int p5), .val (.int (1 : Int32)), .val (.long (2097408 : Int64)), .second, .val (.long wn), .second, .val (.long i), .second, .val (.long j), .second, .val (.ref b13), .unset, .unset, .unset] [(.ref b13)])
      refine Go.st (fun _ kont => XS.lload X14.here hx rfl (hb hby at_96) rfl kont) ?_
      show Go p e s below _ _ _ T14 (mkF m 98 #[.val (.long a), .second, .val (.long mk), .second, .val (.long bv), .second, .val (.int p3), .val (.int p4), .val (.int p5), .val (.int (1 : Int32)), .val (.long (2097408 : Int64)), .second, .val (.long wn), .second, .val (.long i), .second, .val (.long j), .second, .val (.ref b13), .unset, .unset, .unset] [(.long j), (.ref b13)])
      refine Go.st (fun _ kont => XS.lload X14.here hx rfl (hb hby at_98) rfl kont) ?_
      show Go p e s below _ _ _ T14 (mkF m 100 #[.val (.long a), .second, .val (.long mk), .second, .val (.long bv), .second, .val (.int p3), .val (.int p4), .val (.int p5), .val (.int (1 : Int32)), .val (.long (2097408 : Int64)), .second, .val (.long wn), .second, .val (.long i), .second, .val (.long j), .second, .val (.ref b13), .unset, .unset, .unset] [(.long bv), (.long j), (.ref b13)])
      refine Go.callV (b := b13) (W := 0) (argsL := [(.long j), (.long bv)]) (rest := []) X14 hx hZ hown (y := (⟨"com/example/criba/criba/PagedWords", "setWord", "(JJ)V"⟩ : MethodName)) (z := (⟨"com/example/criba/criba/PagedWords", "setWord", "(JJ)V"⟩ : MethodName)) (hw _ (List.mem_of_getElem? (i := 42) rfl)) (hw _ (List.mem_of_getElem? (i := 43) rfl)) (notFace_of_selects (args := #[]) (mvT hZ (hw _ (List.mem_of_getElem? (i := 45) rfl)))) (hw _ (List.mem_of_getElem? (i := 45) rfl)) (hw _ (List.mem_of_getElem? (i := 44) rfl)) (hw _ (List.mem_of_getElem? (i := 5) rfl)) (hw _ (List.mem_of_getElem? (i := 46) rfl)) (rmS l Z a0 hw [] b13 ps j wn.toInt P (j.toInt / 32768).toNat (j.toInt % 32768).toNat pg (fun _ => (0 : Int64)) bv h14 n0 F14 I_j hww.2 gn) e14 F14.1 (by decide) (by decide) (by decide) (by decide) (by decide) (by rw [hml]; rfl) (lenOf pd__JJ_V rfl) (Nat.le_of_eq rfl) (hb hby at_100) ?_
      intro T19 v19 L19 X19 hQ19
      obtain ⟨h19, e19⟩ : ∃ z, T19.heap = z := ⟨_, rfl⟩
      rw [e19] at hQ19
      obtain ⟨rfl, N19, K19, F19⟩ := hQ19
      have M19 := Fr.app M14 N19
      show Go p e s below _ _ _ T19 (mkF m 103 #[.val (.long a), .second, .val (.long mk), .second, .val (.long bv), .second, .val (.int p3), .val (.int p4), .val (.int p5), .val (.int (1 : Int32)), .val (.long (2097408 : Int64)), .second, .val (.long wn), .second, .val (.long i), .second, .val (.long j), .second, .val (.ref b13), .unset, .unset, .unset] [])
      refine Go.st (fun _ kont => XS.aload X19.here hx rfl (hb hby at_103) rfl rfl kont) ?_
      show Go p e s below _ _ _ T19 (mkF m 105 #[.val (.long a), .second, .val (.long mk), .second, .val (.long bv), .second, .val (.int p3), .val (.int p4), .val (.int p5), .val (.int (1 : Int32)), .val (.long (2097408 : Int64)), .second, .val (.long wn), .second, .val (.long i), .second, .val (.long j), .second, .val (.ref b13), .unset, .unset, .unset] [(.ref b13)])
      refine Go.st (fun _ kont => XS.lload X19.here hx rfl (hb hby at_105) rfl kont) ?_
      show Go p e s below _ _ _ T19 (mkF m 107 #[.val (.long a), .second, .val (.long mk), .second, .val (.long bv), .second, .val (.int p3), .val (.int p4), .val (.int p5), .val (.int (1 : Int32)), .val (.long (2097408 : Int64)), .second, .val (.long wn), .second, .val (.long i), .second, .val (.long j), .second, .val (.ref b13), .unset, .unset, .unset] [(.long i), (.ref b13)])
      refine Go.st (fun _ kont => XS.lloadN X19.here hx rfl (hb hby at_107) rfl kont) ?_
      show Go p e s below _ _ _ T19 (mkF m 108 #[.val (.long a), .second, .val (.long mk), .second, .val (.long bv), .second, .val (.int p3), .val (.int p4), .val (.int p5), .val (.int (1 : Int32)), .val (.long (2097408 : Int64)), .second, .val (.long wn), .second, .val (.long i), .second, .val (.long j), .second, .val (.ref b13), .unset, .unset, .unset] [(.long a), (.long i), (.ref b13)])
      refine Go.callV (b := b13) (W := 0) (argsL := [(.long i), (.long a)]) (rest := []) X19 hx hZ hown (y := (⟨"com/example/criba/criba/PagedWords", "setWord", "(JJ)V"⟩ : MethodName)) (z := (⟨"com/example/criba/criba/PagedWords", "setWord", "(JJ)V"⟩ : MethodName)) (hw _ (List.mem_of_getElem? (i := 42) rfl)) (hw _ (List.mem_of_getElem? (i := 43) rfl)) (notFace_of_selects (args := #[]) (mvT hZ (hw _ (List.mem_of_getElem? (i := 45) rfl)))) (hw _ (List.mem_of_getElem? (i := 45) rfl)) (hw _ (List.mem_of_getElem? (i := 44) rfl)) (hw _ (List.mem_of_getElem? (i := 5) rfl)) (hw _ (List.mem_of_getElem? (i := 46) rfl)) (rmS l Z a0 hw [] b13 ps i wn.toInt P (i.toInt / 32768).toNat (i.toInt % 32768).toNat pg (fun z => if z = j.toInt then bv else (fun _ => (0 : Int64)) z) a h19 n0 F19 I_i hww.2 gn) e19 F19.1 (by decide) (by decide) (by decide) (by decide) (by decide) (by rw [hml]; rfl) (lenOf pd__JJ_V rfl) (Nat.le_of_eq rfl) (hb hby at_108) ?_
      intro T20 v20 L20 X20 hQ20
      obtain ⟨h20, e20⟩ : ∃ z, T20.heap = z := ⟨_, rfl⟩
      rw [e20] at hQ20
      obtain ⟨rfl, N20, K20, F20⟩ := hQ20
      have M20 := Fr.app M19 N20
      show Go p e s below _ _ _ T20 (mkF m 111 #[.val (.long a), .second, .val (.long mk), .second, .val (.long bv), .second, .val (.int p3), .val (.int p4), .val (.int p5), .val (.int (1 : Int32)), .val (.long (2097408 : Int64)), .second, .val (.long wn), .second, .val (.long i), .second, .val (.long j), .second, .val (.ref b13), .unset, .unset, .unset] [])
      refine Go.st (fun _ kont => XS.aload X20.here hx rfl (hb hby at_111) rfl rfl kont) ?_
      show Go p e s below _ _ _ T20 (mkF m 113 #[.val (.long a), .second, .val (.long mk), .second, .val (.long bv), .second, .val (.int p3), .val (.int p4), .val (.int p5), .val (.int (1 : Int32)), .val (.long (2097408 : Int64)), .second, .val (.long wn), .second, .val (.long i), .second, .val (.long j), .second, .val (.ref b13), .unset, .unset, .unset] [(.ref b13)])
      refine Go.st (fun _ kont => XS.lload X20.here hx rfl (hb hby at_113) rfl kont) ?_
      show Go p e s below _ _ _ T20 (mkF m 115 #[.val (.long a), .second, .val (.long mk), .second, .val (.long bv), .second, .val (.int p3), .val (.int p4), .val (.int p5), .val (.int (1 : Int32)), .val (.long (2097408 : Int64)), .second, .val (.long wn), .second, .val (.long i), .second, .val (.long j), .second, .val (.ref b13), .unset, .unset, .unset] [(.long i), (.ref b13)])
      refine Go.st (fun _ kont => XS.lloadN X20.here hx rfl (hb hby at_115) rfl kont) ?_
      show Go p e s below _ _ _ T20 (mkF m 116 #[.val (.long a), .second, .val (.long mk), .second, .val (.long bv), .second, .val (.int p3), .val (.int p4), .val (.int p5), .val (.int (1 : Int32)), .val (.long (2097408 : Int64)), .second, .val (.long wn), .second, .val (.long i), .second, .val (.long j), .second, .val (.ref b13), .unset, .unset, .unset] [(.long mk), (.long i), (.ref b13)])
      refine Go.callV (b := b13) (W := 0) (argsL := [(.long i), (.long mk)]) (rest := []) X20 hx hZ hown (y := (⟨"com/example/criba/criba/PagedWords", "orWord", "(JJ)J"⟩ : MethodName)) (z := (⟨"com/example/criba/criba/PagedWords", "orWord", "(JJ)J"⟩ : MethodName)) (hw _ (List.mem_of_getElem? (i := 51) rfl)) (hw _ (List.mem_of_getElem? (i := 52) rfl)) (notFace_of_selects (args := #[]) (mvT hZ (hw _ (List.mem_of_getElem? (i := 54) rfl)))) (hw _ (List.mem_of_getElem? (i := 54) rfl)) (hw _ (List.mem_of_getElem? (i := 53) rfl)) (hw _ (List.mem_of_getElem? (i := 5) rfl)) (hw _ (List.mem_of_getElem? (i := 55) rfl)) (rmO l Z a0 hw [] b13 ps i wn.toInt P (i.toInt / 32768).toNat (i.toInt % 32768).toNat pg (fun z => if z = i.toInt then a else (fun z => if z = j.toInt then bv else (fun _ => (0 : Int64)) z) z) mk a h20 n0 F20 I_i hww.2 gn (if_pos rfl)) e20 F20.1 (by decide) (by decide) (by decide) (by decide) (by decide) (by rw [hml]; rfl) (lenOf pd__JJ_J rfl) (Nat.le_of_eq rfl) (hb hby at_116) ?_
      intro T21 v21 L21 X21 hQ21
      obtain ⟨h21, e21⟩ : ∃ z, T21.heap = z := ⟨_, rfl⟩
      rw [e21] at hQ21
      obtain ⟨rfl, N21, K21, F21⟩ := hQ21
      have M21 := Fr.app M20 N21
      show Go p e s below _ _ _ T21 (mkF m 119 #[.val (.long a), .second, .val (.long mk), .second, .val (.long bv), .second, .val (.int p3), .val (.int p4), .val (.int p5), .val (.int (1 : Int32)), .val (.long (2097408 : Int64)), .second, .val (.long wn), .second, .val (.long i), .second, .val (.long j), .second, .val (.ref b13), .unset, .unset, .unset] [(.long a)])
      refine Go.st (fun _ kont => XS.lstore X21.here hx rfl (hb hby at_119) rfl (l' := #[.val (.long a), .second, .val (.long mk), .second, .val (.long bv), .second, .val (.int p3), .val (.int p4), .val (.int p5), .val (.int (1 : Int32)), .val (.long (2097408 : Int64)), .second, .val (.long wn), .second, .val (.long i), .second, .val (.long j), .second, .val (.ref b13), .val (.long a), .second, .unset]) rfl kont) ?_
      show Go p e s below _ _ _ T21 (mkF m 121 #[.val (.long a), .second, .val (.long mk), .second, .val (.long bv), .second, .val (.int p3), .val (.int p4), .val (.int p5), .val (.int (1 : Int32)), .val (.long (2097408 : Int64)), .second, .val (.long wn), .second, .val (.long i), .second, .val (.long j), .second, .val (.ref b13), .val (.long a), .second, .unset] [])
      refine Go.st (fun _ kont => XS.lload X21.here hx rfl (hb hby at_121) rfl kont) ?_
      show Go p e s below _ _ _ T21 (mkF m 123 #[.val (.long a), .second, .val (.long mk), .second, .val (.long bv), .second, .val (.int p3), .val (.int p4), .val (.int p5), .val (.int (1 : Int32)), .val (.long (2097408 : Int64)), .second, .val (.long wn), .second, .val (.long i), .second, .val (.long j), .second, .val (.ref b13), .val (.long a), .second, .unset] [(.long a)])
      refine Go.st (fun _ kont => XS.lloadN X21.here hx rfl (hb hby at_123) rfl kont) ?_
      show Go p e s below _ _ _ T21 (mkF m 124 #[.val (.long a), .second, .val (.long mk), .second, .val (.long bv), .second, .val (.int p3), .val (.int p4), .val (.int p5), .val (.int (1 : Int32)), .val (.long (2097408 : Int64)), .second, .val (.long wn), .second, .val (.long i), .second, .val (.long j), .second, .val (.ref b13), .val (.long a), .second, .unset] [(.long a), (.long a)])
      refine Go.st (fun _ kont => XS.lcmp X21.here hx rfl (hb hby at_124) rfl kont) ?_
      show Go p e s below _ _ _ T21 (mkF m 125 #[.val (.long a), .second, .val (.long mk), .second, .val (.long bv), .second, .val (.int p3), .val (.int p4), .val (.int p5), .val (.int (1 : Int32)), .val (.long (2097408 : Int64)), .second, .val (.long wn), .second, .val (.long i), .second, .val (.long j), .second, .val (.ref b13), .val (.long a), .second, .unset] [(.int (lcmpW a a))])
      refine Go.st (fun _ kont => XS.ifNo X21.here hx rfl (hb hby at_125) rfl ((if0 _ _).trans (teq ((lw_eq _ _).mpr rfl)).2) kont) ?_
      show Go p e s below _ _ _ T21 (mkF m 128 #[.val (.long a), .second, .val (.long mk), .second, .val (.long bv), .second, .val (.int p3), .val (.int p4), .val (.int p5), .val (.int (1 : Int32)), .val (.long (2097408 : Int64)), .second, .val (.long wn), .second, .val (.long i), .second, .val (.long j), .second, .val (.ref b13), .val (.long a), .second, .unset] [])
      refine Go.st (fun _ kont => XS.aload X21.here hx rfl (hb hby at_128) rfl rfl kont) ?_
      show Go p e s below _ _ _ T21 (mkF m 130 #[.val (.long a), .second, .val (.long mk), .second, .val (.long bv), .second, .val (.int p3), .val (.int p4), .val (.int p5), .val (.int (1 : Int32)), .val (.long (2097408 : Int64)), .second, .val (.long wn), .second, .val (.long i), .second, .val (.long j), .second, .val (.ref b13), .val (.long a), .second, .unset] [(.ref b13)])
      refine Go.st (fun _ kont => XS.lload X21.here hx rfl (hb hby at_130) rfl kont) ?_
      show Go p e s below _ _ _ T21 (mkF m 132 #[.val (.long a), .second, .val (.long mk), .second, .val (.long bv), .second, .val (.int p3), .val (.int p4), .val (.int p5), .val (.int (1 : Int32)), .val (.long (2097408 : Int64)), .second, .val (.long wn), .second, .val (.long i), .second, .val (.long j), .second, .val (.ref b13), .val (.long a), .second, .unset] [(.long i), (.ref b13)])
      refine Go.callV (b := b13) (W := 0) (argsL := [(.long i)]) (rest := []) X21 hx hZ hown (y := (⟨"com/example/criba/criba/PagedWords", "word", "(J)J"⟩ : MethodName)) (z := (⟨"com/example/criba/criba/PagedWords", "word", "(J)J"⟩ : MethodName)) (hw _ (List.mem_of_getElem? (i := 56) rfl)) (hw _ (List.mem_of_getElem? (i := 57) rfl)) (notFace_of_selects (args := #[]) (mvT hZ (hw _ (List.mem_of_getElem? (i := 59) rfl)))) (hw _ (List.mem_of_getElem? (i := 59) rfl)) (hw _ (List.mem_of_getElem? (i := 58) rfl)) (hw _ (List.mem_of_getElem? (i := 5) rfl)) (hw _ (List.mem_of_getElem? (i := 60) rfl)) (rmR l Z a0 hw [] b13 ps i wn.toInt P (i.toInt / 32768).toNat (i.toInt % 32768).toNat pg (fun z => if z = i.toInt then (a ||| mk) else (fun z => if z = i.toInt then a else (fun z => if z = j.toInt then bv else (fun _ => (0 : Int64)) z) z) z) (a ||| mk) h21 n0 F21 I_i hww.2 (if_pos rfl)) e21 F21.1 (by decide) (by decide) (by decide) (by decide) (by decide) (by rw [hml]; rfl) (lenOf pd__J_J rfl) (Nat.le_of_eq rfl) (hb hby at_132) ?_
      intro T22 v22 L22 X22 hQ22
      obtain ⟨rfl, N22, E22⟩ := hQ22
      have M22 := Fr.app M21 N22
      show Go p e s below _ _ _ T22 (mkF m 135 #[.val (.long a), .second, .val (.long mk), .second, .val (.long bv), .second, .val (.int p3), .val (.int p4), .val (.int p5), .val (.int (1 : Int32)), .val (.long (2097408 : Int64)), .second, .val (.long wn), .second, .val (.long i), .second, .val (.long j), .second, .val (.ref b13), .val (.long a), .second, .unset] [(.long (a ||| mk))])
      refine Go.st (fun _ kont => XS.lloadN X22.here hx rfl (hb hby at_135) rfl kont) ?_
      show Go p e s below _ _ _ T22 (mkF m 136 #[.val (.long a), .second, .val (.long mk), .second, .val (.long bv), .second, .val (.int p3), .val (.int p4), .val (.int p5), .val (.int (1 : Int32)), .val (.long (2097408 : Int64)), .second, .val (.long wn), .second, .val (.long i), .second, .val (.long j), .second, .val (.ref b13), .val (.long a), .second, .unset] [(.long a), (.long (a ||| mk))])
      refine Go.st (fun _ kont => XS.lloadN X22.here hx rfl (hb hby at_136) rfl kont) ?_
      show Go p e s below _ _ _ T22 (mkF m 137 #[.val (.long a), .second, .val (.long mk), .second, .val (.long bv), .second, .val (.int p3), .val (.int p4), .val (.int p5), .val (.int (1 : Int32)), .val (.long (2097408 : Int64)), .second, .val (.long wn), .second, .val (.long i), .second, .val (.long j), .second, .val (.ref b13), .val (.long a), .second, .unset] [(.long mk), (.long a), (.long (a ||| mk))])
      refine Go.st (fun _ kont => XS.lor X22.here hx rfl (hb hby at_137) rfl kont) ?_
      show Go p e s below _ _ _ T22 (mkF m 138 #[.val (.long a), .second, .val (.long mk), .second, .val (.long bv), .second, .val (.int p3), .val (.int p4), .val (.int p5), .val (.int (1 : Int32)), .val (.long (2097408 : Int64)), .second, .val (.long wn), .second, .val (.long i), .second, .val (.long j), .second, .val (.ref b13), .val (.long a), .second, .unset] [(.long (a ||| mk)), (.long (a ||| mk))])
      refine Go.st (fun _ kont => XS.lcmp X22.here hx rfl (hb hby at_138) rfl kont) ?_
      show Go p e s below _ _ _ T22 (mkF m 139 #[.val (.long a), .second, .val (.long mk), .second, .val (.long bv), .second, .val (.int p3), .val (.int p4), .val (.int p5), .val (.int (1 : Int32)), .val (.long (2097408 : Int64)), .second, .val (.long wn), .second, .val (.long i), .second, .val (.long j), .second, .val (.ref b13), .val (.long a), .second, .unset] [(.int (lcmpW (a ||| mk) (a ||| mk)))])
      refine Go.st (fun _ kont => XS.ifNo X22.here hx rfl (hb hby at_139) rfl ((if0 _ _).trans (teq ((lw_eq _ _).mpr rfl)).2) kont) ?_
      show Go p e s below _ _ _ T22 (mkF m 142 #[.val (.long a), .second, .val (.long mk), .second, .val (.long bv), .second, .val (.int p3), .val (.int p4), .val (.int p5), .val (.int (1 : Int32)), .val (.long (2097408 : Int64)), .second, .val (.long wn), .second, .val (.long i), .second, .val (.long j), .second, .val (.ref b13), .val (.long a), .second, .unset] [])
      refine Go.st (fun _ kont => XT.iconstV X22.here hx rfl (1 : Int32) (hb hby at_142) (by decide) kont) ?_
      show Go p e s below _ _ _ T22 (mkF m 143 #[.val (.long a), .second, .val (.long mk), .second, .val (.long bv), .second, .val (.int p3), .val (.int p4), .val (.int p5), .val (.int (1 : Int32)), .val (.long (2097408 : Int64)), .second, .val (.long wn), .second, .val (.long i), .second, .val (.long j), .second, .val (.ref b13), .val (.long a), .second, .unset] [(.int (1 : Int32))])
      refine Go.st (fun _ kont => XS.goto X22.here hx rfl (pc0 := 143) (pc' := 147) rfl (hb hby at_143) (by decide) (by decide) kont) ?_
      show Go p e s below _ _ _ T22 (mkF m 147 #[.val (.long a), .second, .val (.long mk), .second, .val (.long bv), .second, .val (.int p3), .val (.int p4), .val (.int p5), .val (.int (1 : Int32)), .val (.long (2097408 : Int64)), .second, .val (.long wn), .second, .val (.long i), .second, .val (.long j), .second, .val (.ref b13), .val (.long a), .second, .unset] [(.int (1 : Int32))])
      refine Go.st (fun _ kont => XS.istore X22.here hx rfl (hb hby at_147) rfl (l' := #[.val (.long a), .second, .val (.long mk), .second, .val (.long bv), .second, .val (.int p3), .val (.int p4), .val (.int p5), .val (.int (1 : Int32)), .val (.long (2097408 : Int64)), .second, .val (.long wn), .second, .val (.long i), .second, .val (.long j), .second, .val (.ref b13), .val (.long a), .second, .val (.int (1 : Int32))]) rfl kont) ?_
      show Go p e s below _ _ _ T22 (mkF m 149 #[.val (.long a), .second, .val (.long mk), .second, .val (.long bv), .second, .val (.int p3), .val (.int p4), .val (.int p5), .val (.int (1 : Int32)), .val (.long (2097408 : Int64)), .second, .val (.long wn), .second, .val (.long i), .second, .val (.long j), .second, .val (.ref b13), .val (.long a), .second, .val (.int (1 : Int32))] [])
      refine Go.st (fun _ kont => XS.lload X22.here hx rfl (hb hby at_149) rfl kont) ?_
      show Go p e s below _ _ _ T22 (mkF m 151 #[.val (.long a), .second, .val (.long mk), .second, .val (.long bv), .second, .val (.int p3), .val (.int p4), .val (.int p5), .val (.int (1 : Int32)), .val (.long (2097408 : Int64)), .second, .val (.long wn), .second, .val (.long i), .second, .val (.long j), .second, .val (.ref b13), .val (.long a), .second, .val (.int (1 : Int32))] [(.long j)])
      refine Go.st (fun _ kont => XS.lload X22.here hx rfl (hb hby at_151) rfl kont) ?_
      show Go p e s below _ _ _ T22 (mkF m 153 #[.val (.long a), .second, .val (.long mk), .second, .val (.long bv), .second, .val (.int p3), .val (.int p4), .val (.int p5), .val (.int (1 : Int32)), .val (.long (2097408 : Int64)), .second, .val (.long wn), .second, .val (.long i), .second, .val (.long j), .second, .val (.ref b13), .val (.long a), .second, .val (.int (1 : Int32))] [(.long i), (.long j)])
      refine Go.st (fun _ kont => XS.lcmp X22.here hx rfl (hb hby at_153) rfl kont) ?_
      show Go p e s below _ _ _ T22 (mkF m 154 #[.val (.long a), .second, .val (.long mk), .second, .val (.long bv), .second, .val (.int p3), .val (.int p4), .val (.int p5), .val (.int (1 : Int32)), .val (.long (2097408 : Int64)), .second, .val (.long wn), .second, .val (.long i), .second, .val (.long j), .second, .val (.ref b13), .val (.long a), .second, .val (.int (1 : Int32))] [(.int (lcmpW j i))])
      refine Go.st (fun _ kont => XS.ifNo X22.here hx rfl (hb hby at_154) rfl ((if0 _ _).trans (feq (mt (lw_eq _ _).mp hij)).1) kont) ?_
      show Go p e s below _ _ _ T22 (mkF m 157 #[.val (.long a), .second, .val (.long mk), .second, .val (.long bv), .second, .val (.int p3), .val (.int p4), .val (.int p5), .val (.int (1 : Int32)), .val (.long (2097408 : Int64)), .second, .val (.long wn), .second, .val (.long i), .second, .val (.long j), .second, .val (.ref b13), .val (.long a), .second, .val (.int (1 : Int32))] [])
      refine Go.st (fun _ kont => XS.iload X22.here hx rfl (hb hby at_157) rfl kont) ?_
      show Go p e s below _ _ _ T22 (mkF m 159 #[.val (.long a), .second, .val (.long mk), .second, .val (.long bv), .second, .val (.int p3), .val (.int p4), .val (.int p5), .val (.int (1 : Int32)), .val (.long (2097408 : Int64)), .second, .val (.long wn), .second, .val (.long i), .second, .val (.long j), .second, .val (.ref b13), .val (.long a), .second, .val (.int (1 : Int32))] [(.int (1 : Int32))])
      refine Go.st (fun _ kont => XS.ifNo X22.here hx rfl (hb hby at_159) rfl ((if0 _ _).trans (feq (by decide : ¬ ((1 : Int32) = (0 : Int32)))).1) kont) ?_
      show Go p e s below _ _ _ T22 (mkF m 162 #[.val (.long a), .second, .val (.long mk), .second, .val (.long bv), .second, .val (.int p3), .val (.int p4), .val (.int p5), .val (.int (1 : Int32)), .val (.long (2097408 : Int64)), .second, .val (.long wn), .second, .val (.long i), .second, .val (.long j), .second, .val (.ref b13), .val (.long a), .second, .val (.int (1 : Int32))] [])
      refine Go.st (fun _ kont => XS.aload X22.here hx rfl (hb hby at_162) rfl rfl kont) ?_
      show Go p e s below _ _ _ T22 (mkF m 164 #[.val (.long a), .second, .val (.long mk), .second, .val (.long bv), .second, .val (.int p3), .val (.int p4), .val (.int p5), .val (.int (1 : Int32)), .val (.long (2097408 : Int64)), .second, .val (.long wn), .second, .val (.long i), .second, .val (.long j), .second, .val (.ref b13), .val (.long a), .second, .val (.int (1 : Int32))] [(.ref b13)])
      refine Go.st (fun _ kont => XS.lload X22.here hx rfl (hb hby at_164) rfl kont) ?_
      show Go p e s below _ _ _ T22 (mkF m 166 #[.val (.long a), .second, .val (.long mk), .second, .val (.long bv), .second, .val (.int p3), .val (.int p4), .val (.int p5), .val (.int (1 : Int32)), .val (.long (2097408 : Int64)), .second, .val (.long wn), .second, .val (.long i), .second, .val (.long j), .second, .val (.ref b13), .val (.long a), .second, .val (.int (1 : Int32))] [(.long j), (.ref b13)])
      refine Go.callV (b := b13) (W := 0) (argsL := [(.long j)]) (rest := []) X22 hx hZ hown (y := (⟨"com/example/criba/criba/PagedWords", "word", "(J)J"⟩ : MethodName)) (z := (⟨"com/example/criba/criba/PagedWords", "word", "(J)J"⟩ : MethodName)) (hw _ (List.mem_of_getElem? (i := 56) rfl)) (hw _ (List.mem_of_getElem? (i := 57) rfl)) (notFace_of_selects (args := #[]) (mvT hZ (hw _ (List.mem_of_getElem? (i := 59) rfl)))) (hw _ (List.mem_of_getElem? (i := 59) rfl)) (hw _ (List.mem_of_getElem? (i := 58) rfl)) (hw _ (List.mem_of_getElem? (i := 5) rfl)) (hw _ (List.mem_of_getElem? (i := 60) rfl)) (rmR l Z a0 hw [] b13 ps j wn.toInt P (j.toInt / 32768).toNat (j.toInt % 32768).toNat pg (fun z => if z = i.toInt then (a ||| mk) else (fun z => if z = i.toInt then a else (fun z => if z = j.toInt then bv else (fun _ => (0 : Int64)) z) z) z) bv h21 n0 F21 I_j hww.2 ((if_neg (fun q => hij (Int64.toInt_inj.mp q))).trans ((if_neg (fun q => hij (Int64.toInt_inj.mp q))).trans (if_pos rfl)))) E22 F21.1 (by decide) (by decide) (by decide) (by decide) (by decide) (by rw [hml]; rfl) (lenOf pd__J_J rfl) (Nat.le_of_eq rfl) (hb hby at_166) ?_
      intro T23 v23 L23 X23 hQ23
      obtain ⟨rfl, N23, E23⟩ := hQ23
      have M23 := Fr.app M22 N23
      show Go p e s below _ _ _ T23 (mkF m 169 #[.val (.long a), .second, .val (.long mk), .second, .val (.long bv), .second, .val (.int p3), .val (.int p4), .val (.int p5), .val (.int (1 : Int32)), .val (.long (2097408 : Int64)), .second, .val (.long wn), .second, .val (.long i), .second, .val (.long j), .second, .val (.ref b13), .val (.long a), .second, .val (.int (1 : Int32))] [(.long bv)])
      refine Go.st (fun _ kont => XS.lload X23.here hx rfl (hb hby at_169) rfl kont) ?_
      show Go p e s below _ _ _ T23 (mkF m 171 #[.val (.long a), .second, .val (.long mk), .second, .val (.long bv), .second, .val (.int p3), .val (.int p4), .val (.int p5), .val (.int (1 : Int32)), .val (.long (2097408 : Int64)), .second, .val (.long wn), .second, .val (.long i), .second, .val (.long j), .second, .val (.ref b13), .val (.long a), .second, .val (.int (1 : Int32))] [(.long bv), (.long bv)])
      refine Go.st (fun _ kont => XS.lcmp X23.here hx rfl (hb hby at_171) rfl kont) ?_
      show Go p e s below _ _ _ T23 (mkF m 172 #[.val (.long a), .second, .val (.long mk), .second, .val (.long bv), .second, .val (.int p3), .val (.int p4), .val (.int p5), .val (.int (1 : Int32)), .val (.long (2097408 : Int64)), .second, .val (.long wn), .second, .val (.long i), .second, .val (.long j), .second, .val (.ref b13), .val (.long a), .second, .val (.int (1 : Int32))] [(.int (lcmpW bv bv))])
      refine Go.st (fun _ kont => XS.ifNo X23.here hx rfl (hb hby at_172) rfl ((if0 _ _).trans (teq ((lw_eq _ _).mpr rfl)).2) kont) ?_
      show Go p e s below _ _ _ T23 (mkF m 175 #[.val (.long a), .second, .val (.long mk), .second, .val (.long bv), .second, .val (.int p3), .val (.int p4), .val (.int p5), .val (.int (1 : Int32)), .val (.long (2097408 : Int64)), .second, .val (.long wn), .second, .val (.long i), .second, .val (.long j), .second, .val (.ref b13), .val (.long a), .second, .val (.int (1 : Int32))] [])
      refine Go.st (fun _ kont => XT.iconstV X23.here hx rfl (1 : Int32) (hb hby at_175) (by decide) kont) ?_
      show Go p e s below _ _ _ T23 (mkF m 176 #[.val (.long a), .second, .val (.long mk), .second, .val (.long bv), .second, .val (.int p3), .val (.int p4), .val (.int p5), .val (.int (1 : Int32)), .val (.long (2097408 : Int64)), .second, .val (.long wn), .second, .val (.long i), .second, .val (.long j), .second, .val (.ref b13), .val (.long a), .second, .val (.int (1 : Int32))] [(.int (1 : Int32))])
      refine Go.st (fun _ kont => XS.goto X23.here hx rfl (pc0 := 176) (pc' := 180) rfl (hb hby at_176) (by decide) (by decide) kont) ?_
      show Go p e s below _ _ _ T23 (mkF m 180 #[.val (.long a), .second, .val (.long mk), .second, .val (.long bv), .second, .val (.int p3), .val (.int p4), .val (.int p5), .val (.int (1 : Int32)), .val (.long (2097408 : Int64)), .second, .val (.long wn), .second, .val (.long i), .second, .val (.long j), .second, .val (.ref b13), .val (.long a), .second, .val (.int (1 : Int32))] [(.int (1 : Int32))])
      refine Go.st (fun _ kont => XS.istore X23.here hx rfl (hb hby at_180) rfl (l' := #[.val (.long a), .second, .val (.long mk), .second, .val (.long bv), .second, .val (.int p3), .val (.int p4), .val (.int p5), .val (.int (1 : Int32)), .val (.long (2097408 : Int64)), .second, .val (.long wn), .second, .val (.long i), .second, .val (.long j), .second, .val (.ref b13), .val (.long a), .second, .val (.int (1 : Int32))]) rfl kont) ?_
      show Go p e s below _ _ _ T23 (mkF m 182 #[.val (.long a), .second, .val (.long mk), .second, .val (.long bv), .second, .val (.int p3), .val (.int p4), .val (.int p5), .val (.int (1 : Int32)), .val (.long (2097408 : Int64)), .second, .val (.long wn), .second, .val (.long i), .second, .val (.long j), .second, .val (.ref b13), .val (.long a), .second, .val (.int (1 : Int32))] [])
      refine Go.st (fun _ kont => XS.iload X23.here hx rfl (hb hby at_182) rfl kont) ?_
      show Go p e s below _ _ _ T23 (mkF m 184 #[.val (.long a), .second, .val (.long mk), .second, .val (.long bv), .second, .val (.int p3), .val (.int p4), .val (.int p5), .val (.int (1 : Int32)), .val (.long (2097408 : Int64)), .second, .val (.long wn), .second, .val (.long i), .second, .val (.long j), .second, .val (.ref b13), .val (.long a), .second, .val (.int (1 : Int32))] [(.int (1 : Int32))])
      exact Go.retN X23 hx hlk hret (by simp) (hb hby at_184) (by decide) (by decide) ⟨rfl, M23⟩
set_option maxRecDepth 65536 in
set_option maxHeartbeats 40000000 in
theorem comes_1 {Post : Tables → Env → Array Value → State → Outcome → State → Prop} (hpost : ∀ tb e args s v u, (limb_1_1.after args s (.returned v) u = true ∧ limb_1_2.after args s (.returned v) u = true ∧ True) → FrameEnd s (.returned v) u (Jvm.fieldLocs frame_1_writes args s ++ Jvm.arrayLocs frame_1_arrays args s ++ Jvm.staticLocs frame_1_statics s) 16 65664 → Post tb e args s (.returned v) u) :
    ArmFor flags0 classFile x code maxLocals ret World_1 tables_1 room_1 Calls_1 rest_1 Pre_1 Post := by
  intro l hfl _ _ p e ha hc hk s m args below hf hA hF happ hP
  obtain ⟨hcalls, hrest, hpre⟩ := hP
  obtain ⟨-, -, -, hnamed, -, -, -, hat⟩ := (Spec.applies_iff hf).mp happ
  obtain ⟨hg, hn⟩ := and_e (Cond.before_iff.mp (show (Jvm.Cond.and given_1 narrow_1).before args s = true from hpre))
  obtain ⟨hg_1, hg_1'⟩ := and_e hg
  obtain ⟨hg_2, hg_2'⟩ := and_e hg_1'
  obtain ⟨hg_3, hg_3'⟩ := and_e hg_2'
  obtain ⟨hg_4, hg_4'⟩ := and_e hg_3'
  obtain ⟨hg_5, hg_5'⟩ := and_e hg_4'
  obtain ⟨hg_6, hg_6'⟩ := and_e hg_5'
  obtain ⟨w0, w1, w2, w3, w4, w5, rfl⟩ : ∃ w0 w1 w2 w3 w4 w5 : Value, args = #[w0, w1, w2, w3, w4, w5] := by
    have hs : args.size = 6 := by simpa [Cond.value, given_1] using hg_1
    obtain ⟨L⟩ := args
    match L, hs with
    | [w0, w1, w2, w3, w4, w5], _ => exact ⟨w0, w1, w2, w3, w4, w5, rfl⟩
  have hw := fun d (hd : d ∈ tables_1) => atoms_spec (ws := Jvm.Cond.code x code maxLocals ret :: tables_1) hat d (List.mem_cons_of_mem _ hd)
  have hfit : Fit s := fun {y c} hc i hi => by
    obtain ⟨ha, rfl⟩ := Array.getElem?_eq_some_iff.mp hc
    have q := List.all_eq_true.mp ((Array.all_eq_true_iff_forall_mem.mp hF) _ (Array.getElem_mem ha)) i (List.mem_range.mpr hi)
    simpa [Array.getElem?_eq_getElem hi] using q
  obtain ⟨i0, ei0⟩ := isL_v hg_2
  obtain rfl : w0 = (.long i0) := Option.some.inj ei0
  obtain ⟨i1, ei1⟩ := isL_v hg_3
  obtain rfl : w1 = (.long i1) := Option.some.inj ei1
  obtain ⟨i2, ei2⟩ := isL_v hg_4
  obtain rfl : w2 = (.long i2) := Option.some.inj ei2
  obtain ⟨i3, ei3⟩ := is_v hg_5
  obtain rfl : w3 = (.int i3) := Option.some.inj ei3
  obtain ⟨i4, ei4⟩ := is_v hg_6
  obtain rfl : w4 = (.int i4) := Option.some.inj ei4
  obtain ⟨i5, ei5⟩ := is_v hg_6'
  obtain rfl : w5 = (.int i5) := Option.some.inj ei5
  obtain ⟨n, o, h1, h2, h3, _, L, rfl, ⟨rfl, N⟩, hq⟩ := rm0 l s _ hw tables_1 i0 i1 i2 i3 i4 i5 s.heap s.heap.size (Nat.le_refl _) p e ha hc hk s m _ below hf ((Spec.applies_iff_loose hf).mp happ).1 ⟨rfl, State.Warmed39.refl s, rfl⟩ trivial
  refine ⟨n, _, h1, h2, h3, hpost _ _ _ _ _ _ ⟨Cond.after_iff.mpr rfl, Cond.after_iff.mpr (eq_i res_at (Term.int_eval (1)) rfl), trivial⟩ ⟨hq.1, hq.2.1, (hq.2.2.sift fun y hy => Or.inr (N y hy)).mono (by decide) (by decide)⟩⟩
theorem main_1_1 : Claimed_1_1 := comes_1 fun _ _ _ _ _ _ h hF => ⟨h.1, hF⟩
theorem main_1_2 : Claimed_1_2 := comes_1 fun _ _ _ _ _ _ h hF => ⟨h.2.1, hF⟩
end Jvm.Pilot.@@N@@
namespace Jvm.Pilot.@@N@@
open Jvm Jvm.ClassFile Sem Op Lib Jvm.Free Jvm.Stand Jvm.Pilot.@@N@@.Jvm.D
/-! MADE BY PROGRAM (witnessworld.py) out of the Statement's table words and the real class files: 12 classes; the members and pool entries that the words name. The judged class is class 1, her method 1. -/
namespace start1
open Jvm.ClassFile
def u (s : String) : CpInfo := .utf8 (stringToUtf16 s)
/-- a pool by its gaps: so many unusable entries, then the entry; so many at the end -/
def gap : Nat → List CpInfo → List CpInfo
  | 0, r => r
  | n + 1, r => .unusable :: gap n r
def poolList (es : List (Nat × CpInfo)) (last : Nat) : List CpInfo := es.foldr (fun e r => gap e.1 (e.2 :: r)) (gap last [])
def pool (es : List (Nat × CpInfo)) (last : Nat) : Array CpInfo := ⟨poolList es last⟩
def fileOf (pool : Array CpInfo) (this : Nat) (attrs : Array Attribute := #[]) (ms : Array MethodInfo := #[]) (fl : Nat := 33) (sup : Nat := 0) (ifs : Array Nat := #[]) (fds : Array FieldInfo := #[]) : ClassFile where
  minorVersion := 0
  majorVersion := 65
  constantPool := pool
  accessFlags := fl
  thisClass := this
  superClass := sup
  interfaces := ifs
  fields := fds
  methods := ms
  attributes := attrs
def plain (name : String) (sup : Option ClassId) : Class where
  name := name
  kind := .ordinary
  loader := none
  accessFlags := 33
  super := sup
  interfaces := #[]
  cf := none
  fields := #[]
  methods := #[]
  instanceTypes := #[]
  staticTypes := #[]
  resolved := #[]
  callSites := []
  init := .initialized
  statics := none
  mirror := none

def pool0 : Array CpInfo := pool [(5, u "<init>"), (0, u "()V"), (1, .class_ 10), (1, u "java/lang/Object")] 113

def k0c0 : Code := { maxStack := 0, maxLocals := 1, code := object_method_1_code, exceptionTable := #[], attributes := #[] }
def k0m0 : Method := { name := "<init>", desc := "()V", sig := { parameters := [], returnType := none }, accessFlags := 1, code := some k0c0 }
/-- java/lang/Object -/
def k0 : Class := { plain "java/lang/Object" none with
  accessFlags := 33
  interfaces := #[]
  cf := some (fileOf pool0 8 #[] #[{ accessFlags := 1, nameIndex := 5, descriptorIndex := 6, attributes := #[] }] 33 0 #[] #[])
  fields := #[]
  methods := #[k0m0]
  instanceTypes := #[]
  staticTypes := #[]
  resolved := Array.replicate 124 none
  statics := none }

def pool1 : Array CpInfo := pool [(2, .class_ 4), (1, u "java/lang/Object"), (0, u "<init>"), (0, u "()V"), (0, .long 2097408), (1, .long 32772), (1, .long 63), (1, .long 64), (1, .integer 2147483647), (0, .class_ 17), (0, u "com/example/criba/criba/PagedWords"), (0, .methodref 16 19), (0, .nameAndType 5 20), (0, u "(J)V"), (0, .methodref 16 22), (0, .nameAndType 23 24), (0, u "setWord"), (0, u "(JJ)V"), (0, .methodref 16 26), (0, .nameAndType 27 28), (0, u "orWord"), (0, u "(JJ)J"), (0, .methodref 16 30), (0, .nameAndType 31 32), (0, u "word"), (0, u "(J)J"), (0, .class_ 34), (0, u "com/example/criba/criba/PagedWordsOrWordPinLaw"), (2, u "law"), (0, u "(JJJIII)Z")] 3

def k1m0 : Method := { name := "<init>", desc := "()V", sig := { parameters := [], returnType := none }, accessFlags := 1, code := none }
def k1c1 : Code := { maxStack := 6, maxLocals := 22, code := code, exceptionTable := #[], attributes := #[] }
def k1m1 : Method := { name := "law", desc := "(JJJIII)Z", sig := { parameters := [.long, .long, .long, .int, .int, .int], returnType := some .boolean }, accessFlags := 9, code := some k1c1 }
/-- com/example/criba/criba/PagedWordsOrWordPinLaw -/
def k1 : Class := { plain "com/example/criba/criba/PagedWordsOrWordPinLaw" (some 0) with
  accessFlags := 49
  interfaces := #[]
  cf := some (fileOf pool1 33 #[] #[{ accessFlags := 1, nameIndex := 5, descriptorIndex := 6, attributes := #[] }, { accessFlags := 9, nameIndex := 37, descriptorIndex := 38, attributes := #[] }] 49 2 #[] #[])
  fields := #[]
  methods := #[k1m0, k1m1]
  instanceTypes := #[]
  staticTypes := #[]
  resolved := Array.replicate 42 none
  statics := none }

def pool2 : Array CpInfo := pool [(1, .class_ 2), (0, u "com/example/criba/criba/PagedWords"), (0, .methodref 1 4), (0, .nameAndType 5 6), (0, u "words"), (0, u "(J)J"), (0, .methodref 1 8), (0, .nameAndType 9 10), (0, u "emptyPages"), (0, u "(J)[[J"), (0, .methodref 1 12), (0, .nameAndType 13 14), (0, u "<init>"), (0, u "(J[[J)V"), (0, .methodref 16 17), (0, .class_ 18), (0, .nameAndType 13 19), (0, u "java/lang/Object"), (0, u "()V"), (0, .fieldref 1 21), (0, .nameAndType 22 23), (0, u "bits"), (0, u "J"), (0, .fieldref 1 25), (0, .nameAndType 26 23), (0, u "lastWord"), (0, .fieldref 1 28), (0, .nameAndType 29 30), (0, u "pages"), (0, u "[[J"), (0, .fieldref 1 32), (0, .nameAndType 33 34), (0, u "onlyPage"), (0, u "[J"), (3, .methodref 1 39), (0, .nameAndType 40 41), (0, u "pageLength"), (0, u "(JI)I"), (1, .class_ 45), (1, u "com/example/criba/criba/PagedWords$WordSource"), (0, u "word"), (6, .class_ 34), (5, .class_ 60), (0, u "com/example/criba/criba/PagedWords$ByteWords"), (9, .long 63), (1, .long 32768), (1, .methodref 75 76), (0, .class_ 77), (0, .nameAndType 78 79), (0, u "java/lang/Math"), (0, u "min"), (0, u "(JJ)J"), (13, u "LITTLE_ENDIAN_LONG"), (0, u "Ljava/lang/invoke/VarHandle;"), (16, .methodref 1 112), (0, .nameAndType 113 114), (0, u "page"), (0, u "(J)[J"), (7, u "setWord"), (0, u "(JJ)V"), (12, u "WORDS_PER_PAGE_LOG"), (0, u "I"), (2, u "WORD_IN_PAGE_MASK"), (1, u "CHUNK_BYTES"), (1, u "(J)V"), (14, u "orWord")] 24

def k2c0 : Code := { maxStack := 5, maxLocals := 3, code := prog_30_method_1_code, exceptionTable := #[], attributes := #[] }
def k2m0 : Method := { name := "<init>", desc := "(J)V", sig := { parameters := [.long], returnType := none }, accessFlags := 0, code := some k2c0 }
def k2c1 : Code := { maxStack := 5, maxLocals := 4, code := prog_30_method_2_code, exceptionTable := #[], attributes := #[] }
def k2m1 : Method := { name := "<init>", desc := "(J[[J)V", sig := { parameters := [.long, (.array (.array .long))], returnType := none }, accessFlags := 2, code := some k2c1 }
def k2c2 : Code := { maxStack := 4, maxLocals := 2, code := prog_30_method_5_code, exceptionTable := #[], attributes := #[] }
def k2m2 : Method := { name := "words", desc := "(J)J", sig := { parameters := [.long], returnType := some .long }, accessFlags := 10, code := some k2c2 }
def k2c3 : Code := { maxStack := 5, maxLocals := 5, code := prog_30_method_6_code, exceptionTable := #[], attributes := #[] }
def k2m3 : Method := { name := "emptyPages", desc := "(J)[[J", sig := { parameters := [.long], returnType := some (.array (.array .long)) }, accessFlags := 10, code := some k2c3 }
def k2c4 : Code := { maxStack := 6, maxLocals := 5, code := prog_30_method_7_code, exceptionTable := #[], attributes := #[] }
def k2m4 : Method := { name := "pageLength", desc := "(JI)I", sig := { parameters := [.long, .int], returnType := some .int }, accessFlags := 10, code := some k2c4 }
def k2c5 : Code := { maxStack := 3, maxLocals := 3, code := prog_30_method_12_code, exceptionTable := #[], attributes := #[] }
def k2m5 : Method := { name := "word", desc := "(J)J", sig := { parameters := [.long], returnType := some .long }, accessFlags := 0, code := some k2c5 }
def k2c6 : Code := { maxStack := 4, maxLocals := 5, code := prog_30_method_13_code, exceptionTable := #[], attributes := #[] }
def k2m6 : Method := { name := "setWord", desc := "(JJ)V", sig := { parameters := [.long, .long], returnType := none }, accessFlags := 0, code := some k2c6 }
def k2c7 : Code := { maxStack := 6, maxLocals := 9, code := prog_30_method_14_code, exceptionTable := #[], attributes := #[] }
def k2m7 : Method := { name := "orWord", desc := "(JJ)J", sig := { parameters := [.long, .long], returnType := some .long }, accessFlags := 0, code := some k2c7 }
def k2c8 : Code := { maxStack := 4, maxLocals := 3, code := prog_30_method_18_code, exceptionTable := #[], attributes := #[] }
def k2m8 : Method := { name := "page", desc := "(J)[J", sig := { parameters := [.long], returnType := some (.array .long) }, accessFlags := 2, code := some k2c8 }
/-- com/example/criba/criba/PagedWords -/
def k2 : Class := { plain "com/example/criba/criba/PagedWords" (some 0) with
  accessFlags := 48
  interfaces := #[]
  cf := some (fileOf pool2 1 #[.nestMembers #[59, 43]] #[{ accessFlags := 0, nameIndex := 13, descriptorIndex := 144, attributes := #[] }, { accessFlags := 2, nameIndex := 13, descriptorIndex := 14, attributes := #[] }, { accessFlags := 10, nameIndex := 5, descriptorIndex := 6, attributes := #[] }, { accessFlags := 10, nameIndex := 9, descriptorIndex := 10, attributes := #[] }, { accessFlags := 10, nameIndex := 40, descriptorIndex := 41, attributes := #[] }, { accessFlags := 0, nameIndex := 46, descriptorIndex := 6, attributes := #[] }, { accessFlags := 0, nameIndex := 122, descriptorIndex := 123, attributes := #[] }, { accessFlags := 0, nameIndex := 159, descriptorIndex := 79, attributes := #[] }, { accessFlags := 2, nameIndex := 113, descriptorIndex := 114, attributes := #[] }] 48 16 #[] #[{ accessFlags := 26, nameIndex := 136, descriptorIndex := 137, attributes := #[] }, { accessFlags := 26, nameIndex := 140, descriptorIndex := 137, attributes := #[] }, { accessFlags := 26, nameIndex := 142, descriptorIndex := 137, attributes := #[] }, { accessFlags := 26, nameIndex := 93, descriptorIndex := 94, attributes := #[] }, { accessFlags := 18, nameIndex := 22, descriptorIndex := 23, attributes := #[] }, { accessFlags := 18, nameIndex := 26, descriptorIndex := 23, attributes := #[] }, { accessFlags := 18, nameIndex := 29, descriptorIndex := 30, attributes := #[] }, { accessFlags := 18, nameIndex := 33, descriptorIndex := 34, attributes := #[] }])
  fields := #[{ name := "WORDS_PER_PAGE_LOG", type := .int, accessFlags := 26, slot := 0, constantValue := 0 }, { name := "WORD_IN_PAGE_MASK", type := .int, accessFlags := 26, slot := 1, constantValue := 0 }, { name := "CHUNK_BYTES", type := .int, accessFlags := 26, slot := 2, constantValue := 0 }, { name := "LITTLE_ENDIAN_LONG", type := (.object "java/lang/invoke/VarHandle"), accessFlags := 26, slot := 3, constantValue := 0 }, { name := "bits", type := .long, accessFlags := 18, slot := 0, constantValue := 0 }, { name := "lastWord", type := .long, accessFlags := 18, slot := 1, constantValue := 0 }, { name := "pages", type := (.array (.array .long)), accessFlags := 18, slot := 2, constantValue := 0 }, { name := "onlyPage", type := (.array .long), accessFlags := 18, slot := 3, constantValue := 0 }]
  methods := #[k2m0, k2m1, k2m2, k2m3, k2m4, k2m5, k2m6, k2m7, k2m8]
  instanceTypes := #[.long, .long, (.array (.array .long)), (.array .long)]
  staticTypes := #[.int, .int, .int, (.object "java/lang/invoke/VarHandle")]
  resolved := Array.replicate 184 none
  statics := none }

def pool3 : Array CpInfo := pool [(1, .class_ 2), (0, u "java/lang/Math"), (1, .class_ 6), (1, u "java/lang/Object"), (0, u "<init>"), (0, u "()V"), (89, .class_ 100), (1, u "java/lang/Math$RandomNumberGeneratorHolder"), (20, u "(JJ)J"), (50, u "negativeZeroFloatBits"), (0, u "J"), (2, u "negativeZeroDoubleBits"), (24, u "min"), (43, u "$assertionsDisabled"), (0, u "Z"), (91, u "twoToTheDoubleScaleDown"), (0, u "D"), (4, u "twoToTheDoubleScaleUp"), (9, u "E"), (3, u "PI"), (2, u "TAU"), (2, u "DEGREES_TO_RADIANS"), (0, u "RADIANS_TO_DEGREES")] 94

def k3m0 : Method := { name := "<init>", desc := "()V", sig := { parameters := [], returnType := none }, accessFlags := 2, code := none }
def k3c1 : Code := { maxStack := 4, maxLocals := 4, code := jdk_29_method_70_code, exceptionTable := #[], attributes := #[] }
def k3m1 : Method := { name := "min", desc := "(JJ)J", sig := { parameters := [.long, .long], returnType := some .long }, accessFlags := 9, code := some k3c1 }
/-- java/lang/Math -/
def k3 : Class := { plain "java/lang/Math" (some 0) with
  accessFlags := 49
  interfaces := #[]
  cf := some (fileOf pool3 1 #[.nestMembers #[98]] #[{ accessFlags := 2, nameIndex := 7, descriptorIndex := 8, attributes := #[] }, { accessFlags := 9, nameIndex := 201, descriptorIndex := 121, attributes := #[] }] 49 4 #[] #[{ accessFlags := 25, nameIndex := 354, descriptorIndex := 339, attributes := #[] }, { accessFlags := 25, nameIndex := 358, descriptorIndex := 339, attributes := #[] }, { accessFlags := 25, nameIndex := 361, descriptorIndex := 339, attributes := #[] }, { accessFlags := 26, nameIndex := 364, descriptorIndex := 339, attributes := #[] }, { accessFlags := 26, nameIndex := 365, descriptorIndex := 339, attributes := #[] }, { accessFlags := 26, nameIndex := 172, descriptorIndex := 173, attributes := #[] }, { accessFlags := 26, nameIndex := 176, descriptorIndex := 173, attributes := #[] }, { accessFlags := 8, nameIndex := 344, descriptorIndex := 339, attributes := #[] }, { accessFlags := 8, nameIndex := 338, descriptorIndex := 339, attributes := #[] }, { accessFlags := 4120, nameIndex := 245, descriptorIndex := 246, attributes := #[] }])
  fields := #[{ name := "E", type := .double, accessFlags := 25, slot := 0, constantValue := 0 }, { name := "PI", type := .double, accessFlags := 25, slot := 1, constantValue := 0 }, { name := "TAU", type := .double, accessFlags := 25, slot := 2, constantValue := 0 }, { name := "DEGREES_TO_RADIANS", type := .double, accessFlags := 26, slot := 3, constantValue := 0 }, { name := "RADIANS_TO_DEGREES", type := .double, accessFlags := 26, slot := 4, constantValue := 0 }, { name := "negativeZeroFloatBits", type := .long, accessFlags := 26, slot := 5, constantValue := 0 }, { name := "negativeZeroDoubleBits", type := .long, accessFlags := 26, slot := 6, constantValue := 0 }, { name := "twoToTheDoubleScaleUp", type := .double, accessFlags := 8, slot := 7, constantValue := 0 }, { name := "twoToTheDoubleScaleDown", type := .double, accessFlags := 8, slot := 8, constantValue := 0 }, { name := "$assertionsDisabled", type := .boolean, accessFlags := 4120, slot := 9, constantValue := 0 }]
  methods := #[k3m0, k3m1]
  instanceTypes := #[]
  staticTypes := #[.double, .double, .double, .double, .double, .long, .long, .double, .double, .boolean]
  resolved := Array.replicate 460 none
  statics := none }

def pool4 : Array CpInfo := pool [(1, u "java/lang/Cloneable"), (0, .class_ 1), (0, u "java/lang/Object"), (0, .class_ 3)] 3

/-- java/lang/Cloneable -/
def k4 : Class := { plain "java/lang/Cloneable" (some 0) with
  accessFlags := 1537
  interfaces := #[]
  cf := some (fileOf pool4 2 #[] #[] 1537 4 #[] #[])
  fields := #[]
  methods := #[]
  instanceTypes := #[]
  staticTypes := #[]
  resolved := Array.replicate 8 none
  statics := none }

def pool5 : Array CpInfo := pool [(1, u "java/io/Serializable"), (0, .class_ 1), (0, u "java/lang/Object"), (0, .class_ 3)] 3

/-- java/io/Serializable -/
def k5 : Class := { plain "java/io/Serializable" (some 0) with
  accessFlags := 1537
  interfaces := #[]
  cf := some (fileOf pool5 2 #[] #[] 1537 4 #[] #[])
  fields := #[]
  methods := #[]
  instanceTypes := #[]
  staticTypes := #[]
  resolved := Array.replicate 8 none
  statics := none }

/-- the primitive byte -/
def k6 : Class := { plain "byte" none with kind := .primitive 'B', accessFlags := 0x411 }
/-- [B -/
def k7 : Class := { plain "[B" (some 0) with kind := .array 6 .byte, interfaces := #[4, 5], accessFlags := 1041 }

/-- the primitive int -/
def k8 : Class := { plain "int" none with kind := .primitive 'I', accessFlags := 0x411 }
/-- [I -/
def k9 : Class := { plain "[I" (some 0) with kind := .array 8 .int, interfaces := #[4, 5], accessFlags := 1041 }

/-- the primitive long -/
def k10 : Class := { plain "long" none with kind := .primitive 'J', accessFlags := 0x411 }
/-- [J -/
def k11 : Class := { plain "[J" (some 0) with kind := .array 10 .long, interfaces := #[4, 5], accessFlags := 1041 }

def heap : Heap := #[]
/-- [[J -/
def k12 : Class := { plain "[[J" (some 0) with kind := .array 11 (.array .long), interfaces := #[4, 5], accessFlags := 1041 }
def classes : Array Class := #[k0, k1, k2, k3, k4, k5, k6, k7, k8, k9, k10, k11, k12]
def interned : List (Array UInt16 × Addr) := []
def slotsUsed : Nat := 0
def theMethod : MethodId := ⟨1, 1⟩
def args0 : Array Value := #[.long 4, .long 1, .long 2, .int 3, .int 5, .int 6]
def aboutOver (below : List Frame) : State where
  vm := { classes := classes, interned := interned.toArray }
  heap := heap
  slotsUsed := slotsUsed
  threads := #[{ frames := .invoking theMethod args0 :: below }]
def below0 : List Frame := [.native { method := ⟨0, 0⟩, args := #[] }]
def about1 : State := aboutOver below0
def p0 : Program := .bare "" "" ""
def e0 : Env := launch0.env 0 0 0
theorem w_frames : about1.frames = Frame.invoking theMethod args0 :: below0 := rfl
set_option maxRecDepth 65536 in
theorem w_args : argsFit about1.vm theMethod args0 = true := by decide +kernel
set_option maxRecDepth 65536 in
theorem w_heap : heapFits about1 = true := by decide +kernel
set_option maxRecDepth 65536 in
theorem w_runnable : about1.curStatus? = some .runnable := by decide +kernel
set_option maxRecDepth 65536 in
theorem w_alone : about1.alone = true := by decide +kernel
set_option maxRecDepth 65536 in
theorem w_named : about1.methodNamed? x = some theMethod := by decide +kernel
set_option maxRecDepth 65536 in
theorem w_hears : about1.hears theMethod below0 = true := by decide +kernel
set_option maxRecDepth 65536 in
theorem w_ripe : about1.ripe theMethod args0 below0 = true := by decide +kernel
theorem w_running : about1.status = .running := rfl
set_option maxRecDepth 65536 in
theorem w_room : about1.hasRoom e0.platform room_1 = true :=
  launch0.hasRoom_least _ room_1 (by decide +kernel) (by decide +kernel) (by decide +kernel) (by decide +kernel) (by decide +kernel) (by decide +kernel)
theorem allAtoms_all (ts : List Jvm.Cond) (a : Array Jvm.Value) (st : Jvm.State) : (allAtoms ts).before a st = ts.all (fun c => c.before a st) := by
  induction ts with
  | nil => rfl
  | cons c t ih =>
    show (Jvm.Cond.and c (allAtoms t)).before a st = _
    rw [Jvm.Cond.before_and, ih, List.all_cons]
def words1 : List Jvm.Cond := Jvm.Cond.code x code maxLocals ret :: tables_1
/-- a 'code' word, met by the world's own term for the bytes: nothing is compared byte by byte -/
theorem code_word {y : MethodName} {bytes : ByteArray} {mx : Nat} {rt : Option FieldType} {a : Array Value} {s : State} {m : MethodId} {meth : Method} {c : Code} (h1 : s.methodNamed? y = some m) (h2 : s.vm.method? m = some meth) (h3 : meth.code = some c) (h4 : c.code = bytes)
    (h5 : (c.maxLocals == mx && c.exceptionTable.isEmpty && decide (c.maxStack ≤ mostOperands) && decide (meth.sig.returnType = rt) && !meth.locks && decide (parseMethodDescriptor y.desc = some meth.sig)) = true) : (Jvm.Cond.code y bytes mx rt).before a s = true := by
  simp only [Bool.and_eq_true, beq_iff_eq, Bool.not_eq_true', decide_eq_true_eq] at h5
  obtain ⟨⟨⟨⟨⟨g1, g2⟩, g3⟩, g4⟩, g5⟩, g6⟩ := h5
  simp [Cond.before, Cond.holds, Cond.value, h1, h2, h3, h4, g1, g2, g3, g4, g5, g6]
def isCode : Jvm.Cond → Bool
  | .code _ _ _ _ => true
  | _ => false
theorem all_split {L : List Jvm.Cond} {P : Jvm.Cond → Bool} (h1 : L.all (fun c => isCode c || P c) = true) (h2 : ∀ c ∈ L.filter isCode, P c = true) : L.all P = true := by
  refine List.all_eq_true.mpr fun c hc => ?_
  have h := List.all_eq_true.mp h1 c hc
  rcases Bool.eq_false_or_eq_true (isCode c) with hi | hi
  · exact h2 c (List.mem_filter.mpr ⟨hc, hi⟩)
  · simpa [hi] using h
set_option maxRecDepth 65536 in
theorem w_c0 : (Jvm.Cond.code x code maxLocals ret).before args0 about1 = true := code_word (m := ⟨1, 1⟩) (meth := k1m1) (c := k1c1) (by decide +kernel) rfl rfl rfl (by decide +kernel)
set_option maxRecDepth 65536 in
theorem w_c1 : (Jvm.Cond.code ({ cls := "com/example/criba/criba/PagedWords", name := "<init>", desc := "(J)V" } : Jvm.MethodName) prog_30_method_1_code (3 : Nat) (Option.none : Option Jvm.ClassFile.FieldType)).before args0 about1 = true := code_word (m := ⟨2, 0⟩) (meth := k2m0) (c := k2c0) (by decide +kernel) rfl rfl rfl (by decide +kernel)
set_option maxRecDepth 65536 in
theorem w_c2 : (Jvm.Cond.code ({ cls := "com/example/criba/criba/PagedWords", name := "words", desc := "(J)J" } : Jvm.MethodName) prog_30_method_5_code (2 : Nat) (Option.some Jvm.ClassFile.FieldType.long)).before args0 about1 = true := code_word (m := ⟨2, 2⟩) (meth := k2m2) (c := k2c2) (by decide +kernel) rfl rfl rfl (by decide +kernel)
set_option maxRecDepth 65536 in
theorem w_c3 : (Jvm.Cond.code ({ cls := "com/example/criba/criba/PagedWords", name := "emptyPages", desc := "(J)[[J" } : Jvm.MethodName) prog_30_method_6_code (5 : Nat) (Option.some (Jvm.ClassFile.FieldType.array (Jvm.ClassFile.FieldType.array Jvm.ClassFile.FieldType.long)))).before args0 about1 = true := code_word (m := ⟨2, 3⟩) (meth := k2m3) (c := k2c3) (by decide +kernel) rfl rfl rfl (by decide +kernel)
set_option maxRecDepth 65536 in
theorem w_c4 : (Jvm.Cond.code ({ cls := "com/example/criba/criba/PagedWords", name := "pageLength", desc := "(JI)I" } : Jvm.MethodName) prog_30_method_7_code (5 : Nat) (Option.some Jvm.ClassFile.FieldType.int)).before args0 about1 = true := code_word (m := ⟨2, 4⟩) (meth := k2m4) (c := k2c4) (by decide +kernel) rfl rfl rfl (by decide +kernel)
set_option maxRecDepth 65536 in
theorem w_c5 : (Jvm.Cond.code ({ cls := "java/lang/Math", name := "min", desc := "(JJ)J" } : Jvm.MethodName) jdk_29_method_70_code (4 : Nat) (Option.some Jvm.ClassFile.FieldType.long)).before args0 about1 = true := code_word (m := ⟨3, 1⟩) (meth := k3m1) (c := k3c1) (by decide +kernel) rfl rfl rfl (by decide +kernel)
set_option maxRecDepth 65536 in
theorem w_c6 : (Jvm.Cond.code ({ cls := "com/example/criba/criba/PagedWords", name := "<init>", desc := "(J[[J)V" } : Jvm.MethodName) prog_30_method_2_code (4 : Nat) (Option.none : Option Jvm.ClassFile.FieldType)).before args0 about1 = true := code_word (m := ⟨2, 1⟩) (meth := k2m1) (c := k2c1) (by decide +kernel) rfl rfl rfl (by decide +kernel)
set_option maxRecDepth 65536 in
theorem w_c7 : (Jvm.Cond.code ({ cls := "java/lang/Object", name := "<init>", desc := "()V" } : Jvm.MethodName) object_method_1_code (1 : Nat) (Option.none : Option Jvm.ClassFile.FieldType)).before args0 about1 = true := code_word (m := ⟨0, 0⟩) (meth := k0m0) (c := k0c0) (by decide +kernel) rfl rfl rfl (by decide +kernel)
set_option maxRecDepth 65536 in
theorem w_c8 : (Jvm.Cond.code ({ cls := "com/example/criba/criba/PagedWords", name := "setWord", desc := "(JJ)V" } : Jvm.MethodName) prog_30_method_13_code (5 : Nat) (Option.none : Option Jvm.ClassFile.FieldType)).before args0 about1 = true := code_word (m := ⟨2, 6⟩) (meth := k2m6) (c := k2c6) (by decide +kernel) rfl rfl rfl (by decide +kernel)
set_option maxRecDepth 65536 in
theorem w_c9 : (Jvm.Cond.code ({ cls := "com/example/criba/criba/PagedWords", name := "page", desc := "(J)[J" } : Jvm.MethodName) prog_30_method_18_code (3 : Nat) (Option.some (Jvm.ClassFile.FieldType.array Jvm.ClassFile.FieldType.long))).before args0 about1 = true := code_word (m := ⟨2, 8⟩) (meth := k2m8) (c := k2c8) (by decide +kernel) rfl rfl rfl (by decide +kernel)
set_option maxRecDepth 65536 in
theorem w_c10 : (Jvm.Cond.code ({ cls := "com/example/criba/criba/PagedWords", name := "orWord", desc := "(JJ)J" } : Jvm.MethodName) prog_30_method_14_code (9 : Nat) (Option.some Jvm.ClassFile.FieldType.long)).before args0 about1 = true := code_word (m := ⟨2, 7⟩) (meth := k2m7) (c := k2c7) (by decide +kernel) rfl rfl rfl (by decide +kernel)
set_option maxRecDepth 65536 in
theorem w_c11 : (Jvm.Cond.code ({ cls := "com/example/criba/criba/PagedWords", name := "word", desc := "(J)J" } : Jvm.MethodName) prog_30_method_12_code (3 : Nat) (Option.some Jvm.ClassFile.FieldType.long)).before args0 about1 = true := code_word (m := ⟨2, 5⟩) (meth := k2m5) (c := k2c5) (by decide +kernel) rfl rfl rfl (by decide +kernel)
def codes1 : List Jvm.Cond := [Jvm.Cond.code x code maxLocals ret, Jvm.Cond.code ({ cls := "com/example/criba/criba/PagedWords", name := "<init>", desc := "(J)V" } : Jvm.MethodName) prog_30_method_1_code (3 : Nat) (Option.none : Option Jvm.ClassFile.FieldType), Jvm.Cond.code ({ cls := "com/example/criba/criba/PagedWords", name := "words", desc := "(J)J" } : Jvm.MethodName) prog_30_method_5_code (2 : Nat) (Option.some Jvm.ClassFile.FieldType.long), Jvm.Cond.code ({ cls := "com/example/criba/criba/PagedWords", name := "emptyPages", desc := "(J)[[J" } : Jvm.MethodName) prog_30_method_6_code (5 : Nat) (Option.some (Jvm.ClassFile.FieldType.array (Jvm.ClassFile.FieldType.array Jvm.ClassFile.FieldType.long))), Jvm.Cond.code ({ cls := "com/example/criba/criba/PagedWords", name := "pageLength", desc := "(JI)I" } : Jvm.MethodName) prog_30_method_7_code (5 : Nat) (Option.some Jvm.ClassFile.FieldType.int), Jvm.Cond.code ({ cls := "java/lang/Math", name := "min", desc := "(JJ)J" } : Jvm.MethodName) jdk_29_method_70_code (4 : Nat) (Option.some Jvm.ClassFile.FieldType.long), Jvm.Cond.code ({ cls := "com/example/criba/criba/PagedWords", name := "<init>", desc := "(J[[J)V" } : Jvm.MethodName) prog_30_method_2_code (4 : Nat) (Option.none : Option Jvm.ClassFile.FieldType), Jvm.Cond.code ({ cls := "java/lang/Object", name := "<init>", desc := "()V" } : Jvm.MethodName) object_method_1_code (1 : Nat) (Option.none : Option Jvm.ClassFile.FieldType), Jvm.Cond.code ({ cls := "com/example/criba/criba/PagedWords", name := "setWord", desc := "(JJ)V" } : Jvm.MethodName) prog_30_method_13_code (5 : Nat) (Option.none : Option Jvm.ClassFile.FieldType), Jvm.Cond.code ({ cls := "com/example/criba/criba/PagedWords", name := "page", desc := "(J)[J" } : Jvm.MethodName) prog_30_method_18_code (3 : Nat) (Option.some (Jvm.ClassFile.FieldType.array Jvm.ClassFile.FieldType.long)), Jvm.Cond.code ({ cls := "com/example/criba/criba/PagedWords", name := "orWord", desc := "(JJ)J" } : Jvm.MethodName) prog_30_method_14_code (9 : Nat) (Option.some Jvm.ClassFile.FieldType.long), Jvm.Cond.code ({ cls := "com/example/criba/criba/PagedWords", name := "word", desc := "(J)J" } : Jvm.MethodName) prog_30_method_12_code (3 : Nat) (Option.some Jvm.ClassFile.FieldType.long)]
set_option maxRecDepth 65536 in
theorem codes_eq : words1.filter isCode = codes1 := rfl
theorem w_codes : ∀ c ∈ words1.filter isCode, c.before args0 about1 = true := by
  rw [codes_eq]
  intro c hc
  simp only [codes1, List.mem_cons, List.not_mem_nil, or_false] at hc
  rcases hc with rfl | rfl | rfl | rfl | rfl | rfl | rfl | rfl | rfl | rfl | rfl | rfl
  · exact w_c0
  · exact w_c1
  · exact w_c2
  · exact w_c3
  · exact w_c4
  · exact w_c5
  · exact w_c6
  · exact w_c7
  · exact w_c8
  · exact w_c9
  · exact w_c10
  · exact w_c11
set_option maxRecDepth 65536 in
theorem w_t1 : (words1.take 24).all (fun c => isCode c || c.before args0 about1) = true := by decide +kernel
set_option maxRecDepth 65536 in
theorem w_t2 : ((words1.drop 24).take 24).all (fun c => isCode c || c.before args0 about1) = true := by decide +kernel
set_option maxRecDepth 65536 in
theorem w_t3 : ((words1.drop 24).drop 24).all (fun c => isCode c || c.before args0 about1) = true := by decide +kernel
theorem w_tables : (allAtoms (Jvm.Cond.code x code maxLocals ret :: tables_1)).before args0 about1 = true := by
  rw [allAtoms_all]
  show words1.all (fun c => c.before args0 about1) = true
  refine all_split ?_ w_codes
  rw [← List.take_append_drop 24 words1, List.all_append, w_t1, ← List.take_append_drop 24 (words1.drop 24), List.all_append, w_t2, w_t3]
  rfl
set_option maxRecDepth 65536 in
theorem w_case : (Jvm.Cond.and given_1 narrow_1).before args0 about1 = true := by decide +kernel
theorem w_applies : (headSpec (Jvm.Cond.code x code maxLocals ret :: tables_1) room_1).applies x e0.platform about1 = true :=
  (Spec.applies_iff w_frames).mpr ⟨w_running, w_runnable, w_alone, w_named, w_hears, w_ripe, w_room, w_tables⟩
theorem atStart : AtStart classFile x code maxLocals ret World_1 tables_1 room_1 Calls_1 rest_1 Pre_1 launch0 p0 e0 about1 theMethod args0 below0 :=
  ⟨lists_1, trivial, launch0.admits_env _ _ _, launch0.least_env, fairChoices_fair.cas, fairChoices_fair.clock, w_frames, w_args, w_heap, w_applies, trivial, trivial, w_case⟩
end start1
theorem witness_1 : WitnessClaimed_1 := ⟨start1.p0, start1.e0, start1.about1, start1.theMethod, start1.args0, start1.below0, start1.atStart⟩
end Jvm.Pilot.@@N@@
