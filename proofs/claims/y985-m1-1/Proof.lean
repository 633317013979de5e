import JvmDerived
import JvmDerived.Pilot.@@N@@Statement
import JvmDerived.Pilot.@@N@@Code
set_option linter.unusedVariables false
set_option linter.unusedSimpArgs false
@@BLOCK:HandJ.lean.txt@@
@@BLOCK:SymMore.lean.txt@@
@@BLOCK:NumsL.lean.txt@@
@@BLOCK:Masks.lean.txt@@
namespace Jvm.Pilot.@@N@@
open Jvm Jvm.ClassFile Sem Op Lib Jvm.Free Jvm.Stand Jvm.LawKit Jvm.RoadKit Bundle Jvm.Pilot.@@N@@.Jvm.D

section OwnKit
variable {p : Program} {l : Launch} {e : Env} {R : Room} {s : State} {m : MethodId} {args : Array Value} {below : List Frame} {meth : Method} {c : Code} {T T' : State} {locs : List Loc} {cells slots : Nat} {g g' : JFrame} {Q : Option Value → Heap → List Loc → Prop} {k n : Nat} {Z : State} {h : Heap} {a0 : Array Value}
/-- from here the run comes to the method's end, and there Q holds -/
def Go (p : Program) (e : Env) (s : State) (below : List Frame) (Q : Option Value → Heap → List Loc → Prop) (k n : Nat) (T : State) (g : JFrame) : Prop :=
  ∃ s₂ o, Steps p.tables e below (T.setTop g) s₂ ∧ s₂.status = .running ∧ Ended s₂ below o ∧ ∃ v L, o = .returned v ∧ Q v s₂.heap L ∧ FrameEnd s o s₂ L k n
theorem Go.st (st : ∀ t, Steps p.tables e below (T'.setTop g') t → Steps p.tables e below (T.setTop g) t) (G : Go p e s below Q k n T' g') : Go p e s below Q k n T g := by
  obtain ⟨t, o, h1, r⟩ := G
  exact ⟨t, o, st _ h1, r⟩
theorem Go.thru (st : Steps p.tables e below (T.setTop g) (T'.setTop g')) (G : Go p e s below Q k n T' g') : Go p e s below Q k n T g := Go.st (fun _ q => st.trans q) G
theorem Go.cast (q : g = g') (G : Go p e s below Q k n T g') : Go p e s below Q k n T g := q ▸ G
theorem Go.end_ (X : Stand p l e R s m args below meth c T locs cells slots) {v : Option Value} (hv : meth.sig.returnType = none → v = none) (hlk : meth.locks = false)
    (st : ∀ fs, (∀ (f : JFrame) (acts : List Action), f.method = m → f.locked = none → f.entered = [] → (doReturn e (T.setTop f) acts v).1 = T.setFrames fs) → Steps p.tables e below (T.setTop g) (T.setFrames fs))
    (hk : cells ≤ k) (hn : slots ≤ n) (hQ : Q v T.heap locs) : Go p e s below Q k n T g := by
  obtain ⟨fs, hr, hrun, hended, hW, hsame⟩ := X.leave (v := v) hv hlk
  exact ⟨_, _, st fs hr, hrun, hended, _, _, rfl, hQ, ⟨_, rfl⟩, hW, hsame.mono hk hn⟩
theorem own_some {t : FieldType} {v : Option Value} (h : meth.sig.returnType = some t) : meth.sig.returnType = none → v = none := fun q => by rw [h] at q; cases q
/-- ireturn of a boolean (also byte, char, short) -/
theorem Go.retN (X : Stand p l e R s m args below meth c T locs cells slots) (hx : p.tables.exec = Jvm.exec) (hlk : meth.locks = false) {t : FieldType} (hret : meth.sig.returnType = some t) (ht : t = .boolean ∨ t = .byte ∨ t = .char ∨ t = .short) {pc : Nat} {Ls : Array Slot} {z : Int32} {rest : List Value}
    (hd : decode c.code pc = .ok (.ireturn, 1)) (hk : cells ≤ k) (hn : slots ≤ n) (hQ : Q (some (.int (nar t z))) T.heap locs) : Go p e s below Q k n T (mkF m pc Ls (.int z :: rest)) :=
  Go.end_ X (own_some hret) hlk (fun _ hr => Jvm.RoadKit.retN X hx hret ht hd hr) hk hn hQ
theorem Go.retI (X : Stand p l e R s m args below meth c T locs cells slots) (hx : p.tables.exec = Jvm.exec) (hlk : meth.locks = false) (hret : meth.sig.returnType = some .int) {pc : Nat} {Ls : Array Slot} {z : Int32} {rest : List Value}
    (hd : decode c.code pc = .ok (.ireturn, 1)) (hk : cells ≤ k) (hn : slots ≤ n) (hQ : Q (some (.int z)) T.heap locs) : Go p e s below Q k n T (mkF m pc Ls (.int z :: rest)) :=
  Go.end_ X (own_some hret) hlk (fun _ hr => Jvm.RoadKit.retOut X hx hret rfl (Or.inl ⟨rfl, Or.inl rfl, _, rfl⟩) hd hr) hk hn hQ
theorem Go.retJ (X : Stand p l e R s m args below meth c T locs cells slots) (hx : p.tables.exec = Jvm.exec) (hlk : meth.locks = false) (hret : meth.sig.returnType = some .long) {pc : Nat} {Ls : Array Slot} {z : Int64} {rest : List Value}
    (hd : decode c.code pc = .ok (.lreturn, 1)) (hk : cells ≤ k) (hn : slots ≤ n) (hQ : Q (some (.long z)) T.heap locs) : Go p e s below Q k n T (mkF m pc Ls (.long z :: rest)) :=
  Go.end_ X (own_some hret) hlk (fun _ hr => Jvm.RoadKit.retOut X hx hret rfl (Or.inr (Or.inl ⟨rfl, rfl, _, rfl⟩)) hd hr) hk hn hQ
theorem own_narR {t : FieldType} {v : Value} (ht : t.isReference = true) (hv : v.isRef = true) : narrow t v = v := by
  rcases ref_cases hv with rfl | ⟨a, rfl⟩ <;> cases t <;> rfl
theorem Go.retA (X : Stand p l e R s m args below meth c T locs cells slots) (hx : p.tables.exec = Jvm.exec) (hlk : meth.locks = false) {t : FieldType} (hret : meth.sig.returnType = some t) (ht : t.isReference = true) {pc : Nat} {Ls : Array Slot} {v : Value} {rest : List Value} (hv : v.isRef = true)
    (hd : decode c.code pc = .ok (.areturn, 1)) (hk : cells ≤ k) (hn : slots ≤ n) (hQ : Q (some v) T.heap locs) : Go p e s below Q k n T (mkF m pc Ls (v :: rest)) :=
  Go.end_ X (own_some hret) hlk (fun _ hr => Jvm.RoadKit.retOut X hx hret (own_narR ht hv) (Or.inr (Or.inr (Or.inr (Or.inr ⟨rfl, ht, hv⟩)))) hd hr) hk hn hQ
theorem Go.retV (X : Stand p l e R s m args below meth c T locs cells slots) (hx : p.tables.exec = Jvm.exec) (hlk : meth.locks = false) (hret : meth.sig.returnType = none) {pc : Nat} {Ls : Array Slot}
    (hd : decode c.code pc = .ok (.return_, 1)) (hk : cells ≤ k) (hn : slots ≤ n) (hQ : Q none T.heap locs) : Go p e s below Q k n T (mkF m pc Ls []) :=
  Go.end_ X (fun _ => rfl) hlk (fun _ hr => X.returnOut hx hret hd hr) hk hn hQ
/-- a body's contract -/
def Meets (l : Launch) (Z : State) (y : MethodName) (bytes : ByteArray) (maxL : Nat) (ret : Option FieldType) (rm : Room) (ws : List Jvm.Cond) (as' : Array Value) (h : Heap) (Q : Option Value → Heap → List Loc → Prop) : Prop :=
  MetFree l y (head1 (Jvm.Cond.code y bytes maxL ret :: ws) rm) (fun a U => a = as' ∧ Z.Warmed39 U.vm ∧ U.heap = h) (fun _ _ _ _ _ => True) (fun _ U o U' => ∃ v L, o = .returned v ∧ Q v U'.heap L ∧ FrameEnd U o U' L rm.cells rm.slots)
theorem Meets.of {y : MethodName} {bytes : ByteArray} {maxL : Nat} {ret : Option FieldType} {rm : Room} {ws : List Jvm.Cond} {as' : Array Value} (hpl : plainFor y = true)
    (body : ∀ (p : Program) (e : Env) (s : State) (m : MethodId) (below : List Frame) (meth : Method) (c : Code) (s₁ : State), Stand p l e rm s m as' below meth c s₁ [] 0 0 → p.tables.exec = Jvm.exec → c.code = bytes → c.maxLocals = maxL → meth.sig.returnType = ret → meth.locks = false → meth.name = y.name → Z.Warmed39 s.vm → s.vm.findClass y.cls = some m.cls → s₁.heap = h →
      Go p e s below Q rm.cells rm.slots s₁ (entryFrame m as' maxL)) : Meets l Z y bytes maxL ret rm ws as' h Q := by
  unfold Meets
  refine MetFree.of_bodySF hpl hisR ?_
  intro p e s m args below meth c s₁ Bd hml0 hP hK
  obtain ⟨rfl, hZ, hh⟩ := hP
  exact body p e s m below meth c s₁ (Stand.of_body Bd) Bd.exec Bd.bytes hml0 Bd.returns Bd.notSynchronized (name_of_methodNamed Bd.named Bd.method).1 hZ (findClass_of_methodNamed Bd.named) (by rw [← hh, Bd.state]; rfl)
section Calls
variable {y z : MethodName} {own C : String} {index : Nat} {bytes : ByteArray} {maxL : Nat} {ret : Option FieldType} {rm : Room} {W : Nat} {Q0 : Option Value → Heap → List Loc → Prop} {b : Addr} {argsL rest : List Value} {pc : Nat} {Ls : Array Slot}
theorem Go.callS (X : Stand p l e R s m args below meth c T locs cells slots) (hx : p.tables.exec = Jvm.exec) (hZ : Z.Warmed39 s.vm) (hown : s.vm.findClass own = some m.cls)
    (w1 : (Jvm.Cond.methodLink own index y).before a0 Z = true) (w2 : (Jvm.Cond.static y).before a0 Z = true) (w3 : (Jvm.Cond.initialized y.cls).before a0 Z = true) (w4 : (Jvm.Cond.code y bytes maxL ret).before a0 Z = true)
    (hM : Meets l Z y bytes maxL ret rm [] argsL.toArray h Q0) (eT : T.heap = h) (hdc : (y.cls ≠ "java/lang/invoke/MethodHandle" ∧ y.cls ≠ "java/lang/invoke/VarHandle") ∧ (rm.frames + 1 ≤ R.frames) ∧ (W + (maxL + 11) + rm.locals ≤ R.locals) ∧ (cells + rm.cells ≤ R.cells) ∧ (slots + rm.slots ≤ R.slots))
    (hsize : Ls.size = c.maxLocals) (hlen : ∀ sig, parseMethodDescriptor y.desc = some sig → argsL.length = sig.parameters.length) (hW : 2 * 0 + (rest.map fun v => v.category).sum ≤ W)
    (hd : decode c.code pc = .ok (.invokestatic index, 3))
    (next : ∀ (T' : State) (v : Option Value) (L : List Loc) (hh : Heap), T'.heap = hh → Stand p l e R s m args below meth c T' (locs ++ L) (cells + rm.cells) (slots + rm.slots) → Q0 v hh L → Go p e s below Q k n T' (mkF m (pc + 3) Ls (v.toList ++ rest))) :
    Go p e s below Q k n T (mkF m pc Ls (argsL.reverse ++ rest)) := by
  obtain ⟨hy, hf, hl, hcl, hsl⟩ := hdc
  obtain ⟨v, _, ⟨T', L', k', n'⟩, -, X', ⟨Lc, hQ, l', y', z'⟩, st⟩ := Jvm.LawKit.callS X hx (y := y) hown (mvT hZ w1) (mvT hZ w2) (mvT hZ w3) (mvT hZ w4) hy (backOf (W := W) hM hZ w4 w3 hf hl) (g := mkF m pc Ls (argsL.reverse ++ rest)) rfl hsize (argsL := argsL) (rest := rest) hlen rfl hW hd (fun _ _ => ⟨rfl, eT, hcl, hsl⟩)
  dsimp only [Pt.U, Pt.locs, Pt.cells, Pt.slots] at X' l' y' z' st hQ
  subst l' y' z'
  exact Go.st st (next T' v Lc _ rfl X' hQ)
theorem Go.callV (X : Stand p l e R s m args below meth c T locs cells slots) (hx : p.tables.exec = Jvm.exec) (hZ : Z.Warmed39 s.vm) (hown : s.vm.findClass own = some m.cls)
    (w1 : (Jvm.Cond.methodLink own index y).before a0 Z = true) (w2 : (Jvm.Cond.declares y).before a0 Z = true) (hnf : NotFace s y) (w3 : (Jvm.Cond.selects C y z).before a0 Z = true) (w4 : (Jvm.Cond.instanceMethod z).before a0 Z = true) (w5 : (Jvm.Cond.initialized z.cls).before a0 Z = true) (w6 : (Jvm.Cond.code z bytes maxL ret).before a0 Z = true)
    (hM : Meets l Z z bytes maxL ret rm [] (.ref b :: argsL).toArray h Q0) (eT : T.heap = h) (E : Exa Z h b C) (hdc : (y.cls ≠ "java/lang/invoke/MethodHandle" ∧ y.cls ≠ "java/lang/invoke/VarHandle") ∧ (rm.frames + 1 ≤ R.frames) ∧ (W + (maxL + 11) + rm.locals ≤ R.locals) ∧ (cells + rm.cells ≤ R.cells) ∧ (slots + rm.slots ≤ R.slots))
    (hsize : Ls.size = c.maxLocals) (hlen : ∀ sig, parseMethodDescriptor y.desc = some sig → argsL.length = sig.parameters.length) (hW : 2 * 0 + (rest.map fun v => v.category).sum ≤ W)
    (hd : decode c.code pc = .ok (.invokevirtual index, 3))
    (next : ∀ (T' : State) (v : Option Value) (L : List Loc) (hh : Heap), T'.heap = hh → Stand p l e R s m args below meth c T' (locs ++ L) (cells + rm.cells) (slots + rm.slots) → Q0 v hh L → Go p e s below Q k n T' (mkF m (pc + 3) Ls (v.toList ++ rest))) :
    Go p e s below Q k n T (mkF m pc Ls (argsL.reverse ++ .ref b :: rest)) := by
  obtain ⟨hy, hf, hl, hcl, hsl⟩ := hdc
  obtain ⟨cq, kq, qa, qb, qc⟩ := isOf hZ eT E
  obtain ⟨v, _, ⟨T', L', k', n'⟩, -, X', ⟨Lc, hQ, l', y', z'⟩, st⟩ := X.virtualBack hx (y := y) (z := z) hown (mvT hZ w1) (mvT hZ w2) hnf (mvT hZ w3) (mvT hZ w4) hy (backOf (W := W) hM hZ w6 w5 hf hl) qa qc (g := mkF m pc Ls (argsL.reverse ++ .ref b :: rest)) rfl hsize (Steps.refl _) (argsL := argsL) (rest := rest) hlen rfl hW hd (fun _ _ => ⟨rfl, eT, hcl, hsl⟩)
  dsimp only [Pt.U, Pt.locs, Pt.cells, Pt.slots] at X' l' y' z' st hQ
  subst l' y' z'
  exact Go.thru st (next T' v Lc _ rfl X' hQ)
/-- an inherited method, named through the subclass -/
theorem Go.callU {owner : String} {x' : MethodName} (X : Stand p l e R s m args below meth c T locs cells slots) (hx : p.tables.exec = Jvm.exec) (hZ : Z.Warmed39 s.vm) (hown : s.vm.findClass own = some m.cls)
    (w1 : (Jvm.Cond.methodLink own index x').before a0 Z = true) (w2 : (Jvm.Cond.sameMethod x'.cls owner x'.name x'.desc).before a0 Z = true) (w3 : (Jvm.Cond.declares ⟨owner, x'.name, x'.desc⟩).before a0 Z = true) (w4 : (Jvm.Cond.selects C x' z).before a0 Z = true) (w5 : (Jvm.Cond.instanceMethod z).before a0 Z = true) (w6 : (Jvm.Cond.initialized z.cls).before a0 Z = true) (w7 : (Jvm.Cond.code z bytes maxL ret).before a0 Z = true)
    (hM : Meets l Z z bytes maxL ret rm [] (.ref b :: argsL).toArray h Q0) (eT : T.heap = h) (E : Exa Z h b C) (hdc : (owner ≠ "java/lang/invoke/MethodHandle" ∧ owner ≠ "java/lang/invoke/VarHandle") ∧ (rm.frames + 1 ≤ R.frames) ∧ (W + (maxL + 11) + rm.locals ≤ R.locals) ∧ (cells + rm.cells ≤ R.cells) ∧ (slots + rm.slots ≤ R.slots))
    (hsize : Ls.size = c.maxLocals) (hlen : ∀ sig, parseMethodDescriptor x'.desc = some sig → argsL.length = sig.parameters.length) (hW : 2 * 0 + (rest.map fun v => v.category).sum ≤ W)
    (hd : decode c.code pc = .ok (.invokevirtual index, 3))
    (next : ∀ (T' : State) (v : Option Value) (L : List Loc) (hh : Heap), T'.heap = hh → Stand p l e R s m args below meth c T' (locs ++ L) (cells + rm.cells) (slots + rm.slots) → Q0 v hh L → Go p e s below Q k n T' (mkF m (pc + 3) Ls (v.toList ++ rest))) :
    Go p e s below Q k n T (mkF m pc Ls (argsL.reverse ++ .ref b :: rest)) := by
  obtain ⟨hy, hf, hl, hcl, hsl⟩ := hdc
  obtain ⟨cq, kq, qa, qb, qc⟩ := isOf hZ eT E
  obtain ⟨v, _, ⟨T', L', k', n'⟩, -, X', ⟨Lc, hQ, l', y', z'⟩, st⟩ := X.virtualBackUp hx (x := x') (y := z) hown (mvT hZ w1) (mvT hZ w2) (mvT hZ w3) hy (mvT hZ w4) (mvT hZ w5) (backOf (W := W) hM hZ w7 w6 hf hl) qa qc (g := mkF m pc Ls (argsL.reverse ++ .ref b :: rest)) rfl hsize (Steps.refl _) (argsL := argsL) (rest := rest) hlen rfl hW hd (fun _ _ => ⟨rfl, eT, hcl, hsl⟩)
  dsimp only [Pt.U, Pt.locs, Pt.cells, Pt.slots] at X' l' y' z' st hQ
  subst l' y' z'
  exact Go.thru st (next T' v Lc _ rfl X' hQ)
/-- a constructor -/
theorem Go.callC (X : Stand p l e R s m args below meth c T locs cells slots) (hx : p.tables.exec = Jvm.exec) (hZ : Z.Warmed39 s.vm) (hy1 : y.name = "<init>") (hown : s.vm.findClass own = some m.cls)
    (w1 : (Jvm.Cond.methodLink own index y).before a0 Z = true) (w2 : (Jvm.Cond.instanceMethod y).before a0 Z = true) (w3 : (Jvm.Cond.initialized y.cls).before a0 Z = true) (w4 : (Jvm.Cond.code y bytes maxL none).before a0 Z = true)
    (hM : Meets l Z y bytes maxL none rm [] (.ref b :: argsL).toArray h Q0) (eT : T.heap = h) (hdc : (y.cls ≠ "java/lang/invoke/MethodHandle" ∧ y.cls ≠ "java/lang/invoke/VarHandle") ∧ (rm.frames + 1 ≤ R.frames) ∧ (W + (maxL + 11) + rm.locals ≤ R.locals) ∧ (cells + rm.cells ≤ R.cells) ∧ (slots + rm.slots ≤ R.slots))
    (hsize : Ls.size = c.maxLocals) (hlen : ∀ sig, parseMethodDescriptor y.desc = some sig → argsL.length = sig.parameters.length) (hW : 2 * 0 + (rest.map fun v => v.category).sum ≤ W)
    (hd : decode c.code pc = .ok (.invokespecial index, 3))
    (next : ∀ (T' : State) (v : Option Value) (L : List Loc) (hh : Heap), T'.heap = hh → Stand p l e R s m args below meth c T' (locs ++ L) (cells + rm.cells) (slots + rm.slots) → Q0 v hh L → Go p e s below Q k n T' (mkF m (pc + 3) Ls (v.toList ++ rest))) :
    Go p e s below Q k n T (mkF m pc Ls (argsL.reverse ++ .ref b :: rest)) := by
  obtain ⟨hy, hf, hl, hcl, hsl⟩ := hdc
  obtain ⟨v, _, ⟨T', L', k', n'⟩, -, X', ⟨Lc, hQ, l', y', z'⟩, st⟩ := X.specialBack hx (y := y) hy1 hown (mvT hZ w1) (mvT hZ w2) (mvT hZ w4) hy (backOf (W := W) hM hZ w4 w3 hf hl) (g := mkF m pc Ls (argsL.reverse ++ .ref b :: rest)) rfl hsize (Steps.refl _) (a := b) (argsL := argsL) (rest := rest) hlen rfl hW hd (fun _ _ => ⟨rfl, eT, hcl, hsl⟩)
  dsimp only [Pt.U, Pt.locs, Pt.cells, Pt.slots] at X' l' y' z' st hQ
  subst l' y' z'
  exact Go.thru st (next T' v Lc _ rfl X' hQ)
end Calls
end OwnKit
section OwnExt
variable {Z : State} {h h' h'' : Heap} {a : Addr} {sl : Nat} {v : Value}
theorem own_extR (h : Heap) : Ext h h := ⟨Nat.le_refl _, fun _ _ q => q⟩
theorem own_extE (E : Ext h h') (E' : Ext h' h'') : Ext h h'' := ⟨Nat.le_trans E.1 E'.1, fun x c q => E'.2 x c (E.2 x c q)⟩
theorem own_extW (E : Ext h h') (W : Wr h' h'' a sl v) (q : h.size ≤ a) : Ext h h'' := by
  refine ⟨by rw [W.size]; exact E.1, fun x c r => ?_⟩
  have hlt := (Array.getElem?_eq_some_iff.mp r).1
  obtain ⟨c', e1, -, -, -, e5, -⟩ := wr_at W (E.2 x c r)
  rw [e1, e5 (Nat.ne_of_lt (Nat.lt_of_lt_of_le hlt q))]
theorem own_extK {ws : List Addr} (E : Ext h h') (K : Keep h' h'' ws) (q : ∀ x ∈ ws, h.size ≤ x) : Ext h h'' :=
  ⟨Nat.le_trans E.1 K.1, fun x c r => K.2.1 x c (E.2 x c r) fun z => absurd (Array.getElem?_eq_some_iff.mp r).1 (Nat.not_lt.mpr (q x z))⟩
end OwnExt
section OwnPriv
variable {p : Program} {l : Launch} {e : Env} {R : Room} {s : State} {m : MethodId} {args : Array Value} {below : List Frame} {meth : Method} {c : Code} {T T' : State} {locs : List Loc} {cells slots : Nat} {g : JFrame} {Q : Option Value → Heap → List Loc → Prop} {k n : Nat} {Z : State} {h : Heap} {a0 : Array Value}
variable {y : MethodName} {own : String} {index : Nat} {bytes : ByteArray} {maxL : Nat} {ret : Option FieldType} {rm : Room} {W : Nat} {Q0 : Option Value → Heap → List Loc → Prop} {b : Addr} {argsL rest : List Value} {pc : Nat} {Ls : Array Slot}
/-- a private method, by invokevirtual -/
theorem Go.callP {nn : Nat} (X : Stand p l e R s m args below meth c T locs cells slots) (hx : p.tables.exec = Jvm.exec) (hZ : Z.Warmed39 s.vm) (hown : s.vm.findClass own = some m.cls)
    (w1 : (Jvm.Cond.methodLink own index y).before a0 Z = true) (w2 : (Jvm.Cond.instanceMethod y).before a0 Z = true) (w3 : (Jvm.Cond.privateMethod y).before a0 Z = true) (wi : (Jvm.Cond.instantiable y.cls nn).before a0 Z = true) (w4 : (Jvm.Cond.initialized y.cls).before a0 Z = true) (w5 : (Jvm.Cond.code y bytes maxL ret).before a0 Z = true)
    (hM : Meets l Z y bytes maxL ret rm [] (.ref b :: argsL).toArray h Q0) (eT : T.heap = h) (E : Exa Z h b y.cls) (hdc : (y.cls ≠ "java/lang/invoke/MethodHandle" ∧ y.cls ≠ "java/lang/invoke/VarHandle") ∧ (rm.frames + 1 ≤ R.frames) ∧ (W + (maxL + 11) + rm.locals ≤ R.locals) ∧ (cells + rm.cells ≤ R.cells) ∧ (slots + rm.slots ≤ R.slots))
    (hsize : Ls.size = c.maxLocals) (hlen : ∀ sig, parseMethodDescriptor y.desc = some sig → argsL.length = sig.parameters.length) (hW : 2 * 0 + (rest.map fun v => v.category).sum ≤ W)
    (hd : decode c.code pc = .ok (.invokevirtual index, 3))
    (next : ∀ (T' : State) (v : Option Value) (L : List Loc) (hh : Heap), T'.heap = hh → Stand p l e R s m args below meth c T' (locs ++ L) (cells + rm.cells) (slots + rm.slots) → Q0 v hh L → Go p e s below Q k n T' (mkF m (pc + 3) Ls (v.toList ++ rest))) :
    Go p e s below Q k n T (mkF m pc Ls (argsL.reverse ++ .ref b :: rest)) := by
  obtain ⟨hy, hf, hl, hcl, hsl⟩ := hdc
  obtain ⟨cq, q, q'⟩ := E.cell
  have hsel : (Jvm.Cond.selects y.cls y y).before a0 Z = true := Jvm.Kit.selects_private hy wi w3 w2
  obtain ⟨v, _, ⟨T', L', k', n'⟩, -, X', ⟨Lc, hQ, l', y', z'⟩, st⟩ := X.privateBack hx (y := y) hown (mvT hZ w1) (mvT hZ w2) (mvT hZ hsel) (Cond.privateMethod_at (mvP hZ w3 (args := #[]))) (mvT hZ w5) hy (backOf (W := W) hM hZ w5 w4 hf hl) (g := mkF m pc Ls (argsL.reverse ++ .ref b :: rest)) rfl hsize (Steps.refl _) (a := b) (cell := cq) (by rw [eT]; exact q) q' (argsL := argsL) (rest := rest) hlen rfl hW hd (fun _ _ => ⟨rfl, eT, hcl, hsl⟩)
  dsimp only [Pt.U, Pt.locs, Pt.cells, Pt.slots] at X' l' y' z' st hQ
  subst l' y' z'
  exact Go.thru st (next T' v Lc _ rfl X' hQ)
theorem own_lremM {target : State} (X : Stand p l e R s m args below meth c T locs cells slots) (hx : p.tables.exec = Jvm.exec) (hg : g.method = m) {x y : Int64} {rest : List Value} (hd : decode c.code g.pc = .ok (.lrem, 1)) (hs : g.stack = .long y :: .long x :: rest) (hy : y ≠ 0)
    (hr : Steps p.tables e below (T.setTop { g with pc := g.pc + 1, stack := .long (x % y) :: rest }) target) : Steps p.tables e below (T.setTop g) target :=
  XS.lrem X.here hx hg hd hs hy (by rw [lrem_mod]; exact hr)
/-- what is said of the end may be weakened -/
theorem Meets.mono {ws : List Jvm.Cond} {as' : Array Value} {Q' : Option Value → Heap → List Loc → Prop} (M : Meets l Z y bytes maxL ret rm ws as' h Q) (hq : ∀ v h L, Q v h L → Q' v h L) : Meets l Z y bytes maxL ret rm ws as' h Q' := by
  intro p e ha hc hk s m args below hf happ hP hK
  obtain ⟨n, o, h1, h2, h3, v, L, rfl, hQ, hF⟩ := M p e ha hc hk s m args below hf happ hP hK
  exact ⟨n, _, h1, h2, h3, v, L, rfl, hq _ _ _ hQ, hF⟩
end OwnPriv
section OwnIface
variable {p : Program} {l : Launch} {e : Env} {R : Room} {s : State} {m : MethodId} {args : Array Value} {below : List Frame} {meth : Method} {c : Code} {T T' : State} {locs : List Loc} {cells slots : Nat} {g g' : JFrame} {Q : Option Value → Heap → List Loc → Prop} {k n : Nat} {Z : State} {h : Heap} {a0 : Array Value}
variable {y z : MethodName} {own C : String} {index : Nat} {bytes : ByteArray} {maxL : Nat} {ret : Option FieldType} {rm : Room} {W : Nat} {Q0 : Option Value → Heap → List Loc → Prop} {b : Addr} {argsL rest : List Value} {pc : Nat} {Ls : Array Slot}
/-- an interface's method -/
theorem Go.callF {count : Nat} (X : Stand p l e R s m args below meth c T locs cells slots) (hx : p.tables.exec = Jvm.exec) (hZ : Z.Warmed39 s.vm) (hown : s.vm.findClass own = some m.cls)
    (w1 : (Jvm.Cond.methodLink own index y).before a0 Z = true) (w2 : (Jvm.Cond.declares y).before a0 Z = true) (wf : (Jvm.Cond.interfaceMethod y.cls y.cls y.name y.desc).before a0 Z = true) (hfa : ((Jvm.Cond.interfaceMethod y.cls y.cls y.name y.desc).onTables && (Jvm.Cond.interfaceMethod y.cls y.cls y.name y.desc).keepsFace) = true) (w3 : (Jvm.Cond.selects C y z).before a0 Z = true) (w4 : (Jvm.Cond.instanceMethod z).before a0 Z = true) (wp : (Jvm.Cond.publicMethod z).before a0 Z = true) (wu : (Jvm.Cond.unhidden C y.name y.desc).before a0 Z = true) (wc : (Jvm.Cond.castable C y.cls).before a0 Z = true) (w5 : (Jvm.Cond.initialized z.cls).before a0 Z = true) (w6 : (Jvm.Cond.code z bytes maxL ret).before a0 Z = true)
    (hM : Meets l Z z bytes maxL ret rm [] (.ref b :: argsL).toArray h Q0) (eT : T.heap = h) (E : Exa Z h b C) (hdc : (y.cls ≠ "java/lang/invoke/MethodHandle" ∧ y.cls ≠ "java/lang/invoke/VarHandle") ∧ (rm.frames + 1 ≤ R.frames) ∧ (W + (maxL + 11) + rm.locals ≤ R.locals) ∧ (cells + rm.cells ≤ R.cells) ∧ (slots + rm.slots ≤ R.slots))
    (hsize : Ls.size = c.maxLocals) (hlen : ∀ sig, parseMethodDescriptor y.desc = some sig → argsL.length = sig.parameters.length) (hW : 2 * 0 + (rest.map fun v => v.category).sum ≤ W)
    (hd : decode c.code pc = .ok (.invokeinterface index count, 5))
    (next : ∀ (T' : State) (v : Option Value) (L : List Loc) (hh : Heap), T'.heap = hh → Stand p l e R s m args below meth c T' (locs ++ L) (cells + rm.cells) (slots + rm.slots) → Q0 v hh L → Go p e s below Q k n T' (mkF m (pc + 5) Ls (v.toList ++ rest))) :
    Go p e s below Q k n T (mkF m pc Ls (argsL.reverse ++ .ref b :: rest)) := by
  obtain ⟨hy, hf, hl, hcl, hsl⟩ := hdc
  obtain ⟨cq, kq, qa, qb, qc⟩ := isOf hZ eT E
  obtain ⟨v, _, ⟨T', L', k', n'⟩, -, X', ⟨Lc, hQ, l', y', z'⟩, st⟩ := X.interfaceBack hx (xi := y) (y := z) hown (mvT hZ w1) (mvT hZ w2) (mvT hZ wf hfa) (mvT hZ w3) (mvT hZ w4) (mvT hZ wp) (mvT hZ wu) (mvT hZ wc) hy (backOf (W := W) hM hZ w6 w5 hf hl) qa qb qc (g := mkF m pc Ls (argsL.reverse ++ .ref b :: rest)) rfl hsize (Steps.refl _) (argsL := argsL) (rest := rest) hlen rfl hW hd (fun _ _ => ⟨rfl, eT, hcl, hsl⟩)
  dsimp only [Pt.U, Pt.locs, Pt.cells, Pt.slots] at X' l' y' z' st hQ
  subst l' y' z'
  exact Go.thru st (next T' v Lc _ rfl X' hQ)
theorem own_mvMN {host : String} (hZ : Z.Warmed39 s.vm) (w : (Jvm.Cond.methodLinkNest own index y host).before a0 Z = true) : (Jvm.Cond.methodLinkNest own index y host).before args s = true := (Cond.methodLinkNest_wide hZ w :)
/-- a constructor, through a nest-mate's entry -/
theorem Go.callCN {host : String} (X : Stand p l e R s m args below meth c T locs cells slots) (hx : p.tables.exec = Jvm.exec) (hZ : Z.Warmed39 s.vm) (hy1 : y.name = "<init>") (hown : s.vm.findClass own = some m.cls)
    (w1 : (Jvm.Cond.methodLinkNest own index y host).before a0 Z = true) (w2 : (Jvm.Cond.instanceMethod y).before a0 Z = true) (w3 : (Jvm.Cond.initialized y.cls).before a0 Z = true) (w4 : (Jvm.Cond.code y bytes maxL none).before a0 Z = true)
    (hM : Meets l Z y bytes maxL none rm [] (.ref b :: argsL).toArray h Q0) (eT : T.heap = h) (hdc : (y.cls ≠ "java/lang/invoke/MethodHandle" ∧ y.cls ≠ "java/lang/invoke/VarHandle") ∧ (rm.frames + 1 ≤ R.frames) ∧ (W + (maxL + 11) + rm.locals ≤ R.locals) ∧ (cells + rm.cells ≤ R.cells) ∧ (slots + rm.slots ≤ R.slots))
    (hsize : Ls.size = c.maxLocals) (hlen : ∀ sig, parseMethodDescriptor y.desc = some sig → argsL.length = sig.parameters.length) (hW : 2 * 0 + (rest.map fun v => v.category).sum ≤ W)
    (hd : decode c.code pc = .ok (.invokespecial index, 3))
    (next : ∀ (T' : State) (v : Option Value) (L : List Loc) (hh : Heap), T'.heap = hh → Stand p l e R s m args below meth c T' (locs ++ L) (cells + rm.cells) (slots + rm.slots) → Q0 v hh L → Go p e s below Q k n T' (mkF m (pc + 3) Ls (v.toList ++ rest))) :
    Go p e s below Q k n T (mkF m pc Ls (argsL.reverse ++ .ref b :: rest)) := by
  obtain ⟨hy, hf, hl, hcl, hsl⟩ := hdc
  obtain ⟨v, _, ⟨T', L', k', n'⟩, -, X', ⟨Lc, hQ, l', y', z'⟩, st⟩ := X.specialBackNest hx (y := y) hy1 hown (own_mvMN hZ w1) (mvT hZ w2) (mvT hZ w4) hy (backOf (W := W) hM hZ w4 w3 hf hl) (g := mkF m pc Ls (argsL.reverse ++ .ref b :: rest)) rfl hsize (Steps.refl _) (a := b) (argsL := argsL) (rest := rest) hlen rfl hW hd (fun _ _ => ⟨rfl, eT, hcl, hsl⟩)
  dsimp only [Pt.U, Pt.locs, Pt.cells, Pt.slots] at X' l' y' z' st hQ
  subst l' y' z'
  exact Go.thru st (next T' v Lc _ rfl X' hQ)
end OwnIface
abbrev s_a : String := "com/example/covenant/covenant/StateGraph"
abbrev s_b : String := "com/example/covenant/covenant/StateGraph$Node"
abbrev s_c : String := "java/util/HashMap$Node"
abbrev s_d : String := "java/util/LinkedHashMap$Entry"
abbrev s_e : String := "java/lang/Object"
abbrev s_f : String := "java/util/LinkedHashMap"
abbrev s_g : String := "java/util/ArrayList"
abbrev s_h : String := "Ljava/util/LinkedHashMap$Entry;"
abbrev s_i : String := "java/lang/Integer"
abbrev s_j : String := "java/util/HashMap"
abbrev s_k : String := "[Ljava/lang/Object;"
abbrev s_l : String := "Ljava/lang/Object;"
abbrev s_m : String := "java/util/ImmutableCollections$List12"
abbrev s_n : String := "java/lang/Integer$IntegerCache"
abbrev s_o : String := "Lcom/example/covenant/covenant/StateGraph$Node;"
abbrev s_p : String := "[Ljava/util/HashMap$Node;"
abbrev s_q : String := "Ljava/util/HashMap$Node;"
abbrev s_r : String := "java/util/AbstractList"
abbrev s_s : String := "java/util/ImmutableCollections$ListN"
abbrev s_t : String := "com/example/covenant/covenant/StateGraphCompletePinLaw"
abbrev s_u : String := "java/util/ImmutableCollections"
abbrev s_v : String := "DEFAULTCAPACITY_EMPTY_ELEMENTDATA"
abbrev s_w : String := "elementData"
abbrev s_x : String := "modCount"
abbrev s_y : String := "java/util/List"
abbrev s_z : String := "[Lcom/example/covenant/covenant/StateGraph$Node;"
set_option maxRecDepth 65536
set_option maxHeartbeats 40000000
theorem gs {p : Program} {e : Env} {s : State} {below : List Frame} {Q : Option Value → Heap → List Loc → Prop} {k n : Nat} {T T' : State} {g g' : JFrame} (G : Go p e s below Q k n T' g') (st : ∀ t, Steps p.tables e below (T'.setTop g') t → Steps p.tables e below (T.setTop g) t) : Go p e s below Q k n T g := Go.st st G
abbrev vR (a : Addr) : Slot := .val (.ref a)
abbrev vI (i : Int32) : Slot := .val (.int i)
abbrev vU : Slot := .unset
theorem pn_0 : plainName "java/util/AbstractMap" = true := by first | (simp [plainName, overriddenIn]; done) | decide +kernel
theorem pn_1 : plainName "java/util/HashMap" = true := by first | (simp [plainName, overriddenIn]; done) | decide +kernel
theorem pn_2 : plainName "java/util/LinkedHashMap" = true := by first | (simp [plainName, overriddenIn]; done) | decide +kernel
theorem pn_3 : plainName "java/util/HashMap$Node" = true := by first | (simp [plainName, overriddenIn]; done) | decide +kernel
theorem pn_4 : plainName "java/util/LinkedHashMap$Entry" = true := by first | (simp [plainName, overriddenIn]; done) | decide +kernel
theorem pn_5 : plainName "java/lang/Integer" = true := by first | (simp [plainName, overriddenIn]; done) | decide +kernel
theorem pn_6 : plainName "java/util/Objects" = true := by first | (simp [plainName, overriddenIn]; done) | decide +kernel
theorem pn_7 : plainName "com/example/covenant/covenant/StateGraph$Node" = true := by first | (simp [plainName, overriddenIn]; done) | decide +kernel
theorem pn_8 : plainName "com/example/covenant/covenant/StateGraph" = true := by first | (simp [plainName, overriddenIn]; done) | decide +kernel
theorem pn_9 : plainName "java/util/AbstractCollection" = true := by first | (simp [plainName, overriddenIn]; done) | decide +kernel
theorem pn_10 : plainName "java/util/AbstractList" = true := by first | (simp [plainName, overriddenIn]; done) | decide +kernel
theorem pn_11 : plainName "java/util/ArrayList" = true := by first | (simp [plainName, overriddenIn]; done) | decide +kernel
theorem pn_12 : plainName "java/util/List" = true := by first | (simp [plainName, overriddenIn]; done) | decide +kernel
theorem pn_13 : plainName "java/util/ImmutableCollections$AbstractImmutableCollection" = true := by first | (simp [plainName, overriddenIn]; done) | decide +kernel
theorem pn_14 : plainName "java/util/ImmutableCollections$AbstractImmutableList" = true := by first | (simp [plainName, overriddenIn]; done) | decide +kernel
theorem pn_15 : plainName "java/util/ImmutableCollections$List12" = true := by first | (simp [plainName, overriddenIn]; done) | decide +kernel
theorem pn_16 : plainName "java/util/ImmutableCollections$ListN" = true := by first | (simp [plainName, overriddenIn]; done) | decide +kernel
theorem pn_17 : plainName "java/util/ImmutableCollections" = true := by first | (simp [plainName, overriddenIn]; done) | decide +kernel
theorem pn_18 : plainName "com/example/covenant/covenant/StateGraphCompletePinLaw" = true := by first | (simp [plainName, overriddenIn]; done) | decide +kernel
abbrev mn_0 : MethodName := ⟨"java/util/AbstractMap", "<init>", "()V"⟩
abbrev mn_1 : MethodName := ⟨"java/util/HashMap", "<init>", "()V"⟩
abbrev mn_2 : MethodName := ⟨"java/util/LinkedHashMap", "<init>", "()V"⟩
abbrev mn_3 : MethodName := ⟨"java/util/HashMap$Node", "<init>", "(ILjava/lang/Object;Ljava/lang/Object;Ljava/util/HashMap$Node;)V"⟩
abbrev mn_4 : MethodName := ⟨"java/util/LinkedHashMap$Entry", "<init>", "(ILjava/lang/Object;Ljava/lang/Object;Ljava/util/HashMap$Node;)V"⟩
abbrev mn_5 : MethodName := ⟨"java/util/LinkedHashMap", "linkNodeAtEnd", "(Ljava/util/LinkedHashMap$Entry;)V"⟩
abbrev mn_6 : MethodName := ⟨"java/util/LinkedHashMap", "newNode", "(ILjava/lang/Object;Ljava/lang/Object;Ljava/util/HashMap$Node;)Ljava/util/HashMap$Node;"⟩
abbrev mn_7 : MethodName := ⟨"java/util/HashMap", "resize", "()[Ljava/util/HashMap$Node;"⟩
abbrev mn_8 : MethodName := ⟨"java/util/LinkedHashMap", "removeEldestEntry", "(Ljava/util/Map$Entry;)Z"⟩
abbrev mn_9 : MethodName := ⟨"java/util/LinkedHashMap", "afterNodeInsertion", "(Z)V"⟩
abbrev mn_10 : MethodName := ⟨"java/util/HashMap", "putVal", "(ILjava/lang/Object;Ljava/lang/Object;ZZ)Ljava/lang/Object;"⟩
abbrev mn_11 : MethodName := ⟨"java/util/HashMap", "newNode", "(ILjava/lang/Object;Ljava/lang/Object;Ljava/util/HashMap$Node;)Ljava/util/HashMap$Node;"⟩
abbrev mn_12 : MethodName := ⟨"java/util/HashMap", "afterNodeInsertion", "(Z)V"⟩
abbrev mn_13 : MethodName := ⟨"java/lang/Integer", "hashCode", "(I)I"⟩
abbrev mn_14 : MethodName := ⟨"java/lang/Integer", "hashCode", "()I"⟩
abbrev mn_15 : MethodName := ⟨"java/util/HashMap", "hash", "(Ljava/lang/Object;)I"⟩
abbrev mn_16 : MethodName := ⟨"java/lang/Object", "hashCode", "()I"⟩
abbrev mn_17 : MethodName := ⟨"java/util/HashMap", "put", "(Ljava/lang/Object;Ljava/lang/Object;)Ljava/lang/Object;"⟩
abbrev mn_18 : MethodName := ⟨"java/util/HashMap", "getNode", "(Ljava/lang/Object;)Ljava/util/HashMap$Node;"⟩
abbrev mn_19 : MethodName := ⟨"java/util/LinkedHashMap", "get", "(Ljava/lang/Object;)Ljava/lang/Object;"⟩
abbrev mn_20 : MethodName := ⟨"java/util/LinkedHashMap", "getNode", "(Ljava/lang/Object;)Ljava/util/HashMap$Node;"⟩
abbrev mn_21 : MethodName := ⟨"java/lang/Integer", "intValue", "()I"⟩
abbrev mn_22 : MethodName := ⟨"java/lang/Integer", "equals", "(Ljava/lang/Object;)Z"⟩
abbrev mn_23 : MethodName := ⟨"java/util/Objects", "equals", "(Ljava/lang/Object;Ljava/lang/Object;)Z"⟩
abbrev mn_24 : MethodName := ⟨"java/lang/Object", "equals", "(Ljava/lang/Object;)Z"⟩
abbrev mn_25 : MethodName := ⟨"com/example/covenant/covenant/StateGraph$Node", "<init>", "(Ljava/util/List;I)V"⟩
abbrev mn_26 : MethodName := ⟨"com/example/covenant/covenant/StateGraph", "<init>", "(I)V"⟩
abbrev mn_27 : MethodName := ⟨"java/lang/Integer", "valueOf", "(I)Ljava/lang/Integer;"⟩
abbrev mn_28 : MethodName := ⟨"java/util/AbstractCollection", "<init>", "()V"⟩
abbrev mn_29 : MethodName := ⟨"java/util/AbstractList", "<init>", "()V"⟩
abbrev mn_30 : MethodName := ⟨"java/util/ArrayList", "<init>", "()V"⟩
abbrev mn_31 : MethodName := ⟨"java/lang/Math", "max", "(II)I"⟩
abbrev mn_32 : MethodName := ⟨"java/util/ArrayList", "grow", "(I)[Ljava/lang/Object;"⟩
abbrev mn_33 : MethodName := ⟨"java/util/ArrayList", "grow", "()[Ljava/lang/Object;"⟩
abbrev mn_34 : MethodName := ⟨"java/util/ArrayList", "add", "(Ljava/lang/Object;[Ljava/lang/Object;I)V"⟩
abbrev mn_35 : MethodName := ⟨"java/util/ArrayList", "add", "(Ljava/lang/Object;)Z"⟩
abbrev mn_36 : MethodName := ⟨"java/util/ArrayList", "size", "()I"⟩
abbrev mn_37 : MethodName := ⟨"java/util/ArrayList", "isEmpty", "()Z"⟩
abbrev mn_38 : MethodName := ⟨"java/util/List", "of", "()Ljava/util/List;"⟩
abbrev mn_39 : MethodName := ⟨"java/util/Objects", "requireNonNull", "(Ljava/lang/Object;)Ljava/lang/Object;"⟩
abbrev mn_40 : MethodName := ⟨"java/util/ImmutableCollections$AbstractImmutableCollection", "<init>", "()V"⟩
abbrev mn_41 : MethodName := ⟨"java/util/ImmutableCollections$AbstractImmutableList", "<init>", "()V"⟩
abbrev mn_42 : MethodName := ⟨"java/util/ImmutableCollections$List12", "<init>", "(Ljava/lang/Object;)V"⟩
abbrev mn_43 : MethodName := ⟨"java/util/ImmutableCollections$List12", "<init>", "(Ljava/lang/Object;Ljava/lang/Object;)V"⟩
abbrev mn_44 : MethodName := ⟨"java/util/ImmutableCollections$ListN", "<init>", "([Ljava/lang/Object;Z)V"⟩
abbrev mn_45 : MethodName := ⟨"java/util/ImmutableCollections", "listFromArray", "([Ljava/lang/Object;)Ljava/util/List;"⟩
abbrev mn_46 : MethodName := ⟨"java/util/List", "of", "([Ljava/lang/Object;)Ljava/util/List;"⟩
abbrev mn_47 : MethodName := ⟨"java/util/Arrays", "copyOf", "([Ljava/lang/Object;I)[Ljava/lang/Object;"⟩
abbrev mn_48 : MethodName := ⟨"java/util/ArrayList", "toArray", "()[Ljava/lang/Object;"⟩
abbrev mn_49 : MethodName := ⟨"java/util/ImmutableCollections", "listCopy", "(Ljava/util/Collection;)Ljava/util/List;"⟩
abbrev mn_50 : MethodName := ⟨"java/util/Collection", "isEmpty", "()Z"⟩
abbrev mn_51 : MethodName := ⟨"java/util/List", "copyOf", "(Ljava/util/Collection;)Ljava/util/List;"⟩
abbrev mn_52 : MethodName := ⟨"java/util/Collection", "toArray", "()[Ljava/lang/Object;"⟩
abbrev mn_53 : MethodName := ⟨"com/example/covenant/covenant/StateGraphCompletePinLaw", "allowed", "(I)Ljava/util/ArrayList;"⟩
abbrev mn_54 : MethodName := ⟨"com/example/covenant/covenant/StateGraph", "add", "(Ljava/lang/Object;Ljava/util/List;)V"⟩
abbrev mn_55 : MethodName := ⟨"java/util/Map", "put", "(Ljava/lang/Object;Ljava/lang/Object;)Ljava/lang/Object;"⟩
abbrev mn_56 : MethodName := ⟨"java/util/List", "size", "()I"⟩
abbrev mn_57 : MethodName := ⟨"com/example/covenant/covenant/StateGraph", "complete", "()Z"⟩
abbrev mn_58 : MethodName := ⟨"com/example/covenant/covenant/StateGraphCompletePinLaw", "target", "(I)Ljava/lang/Integer;"⟩
abbrev mn_59 : MethodName := ⟨"com/example/covenant/covenant/StateGraph$Node", "isTaken", "(I)Z"⟩
abbrev mn_60 : MethodName := ⟨"com/example/covenant/covenant/StateGraph$Node", "next", "(I)Ljava/lang/Object;"⟩
abbrev mn_61 : MethodName := ⟨"com/example/covenant/covenant/StateGraph", "node", "(Ljava/lang/Object;)Lcom/example/covenant/covenant/StateGraph$Node;"⟩
abbrev mn_62 : MethodName := ⟨"java/util/Map", "get", "(Ljava/lang/Object;)Ljava/lang/Object;"⟩
abbrev mn_63 : MethodName := ⟨"com/example/covenant/covenant/StateGraph", "take", "(Ljava/lang/Object;ILjava/lang/Object;)Z"⟩
abbrev mn_64 : MethodName := ⟨"com/example/covenant/covenant/StateGraphCompletePinLaw", "step", "(Lcom/example/covenant/covenant/StateGraph;IZIII)I"⟩
abbrev bc5 : ByteArray := jdk_71_method_1_code
abbrev bc4 : ByteArray := jdk_69_method_7_code
abbrev bc3 : ByteArray := jdk_94_method_16_code
abbrev bc25 : ByteArray := jdk_70_method_1_code
abbrev bc24 : ByteArray := jdk_83_method_1_code
abbrev bc26 : ByteArray := jdk_94_method_1_code
abbrev bc23 : ByteArray := jdk_94_method_4_code
abbrev bc22 : ByteArray := jdk_69_method_17_code
abbrev bc28 : ByteArray := jdk_94_method_23_code
abbrev bc27 : ByteArray := jdk_94_method_9_code
abbrev bc21 : ByteArray := jdk_69_method_16_code
abbrev bc20 : ByteArray := jdk_33_method_33_code
abbrev bc19 : ByteArray := jdk_33_method_32_code
abbrev bc18 : ByteArray := jdk_69_method_1_code
abbrev bc17 : ByteArray := jdk_69_method_15_code
abbrev bc50 : ByteArray := jdk_69_method_13_code
abbrev bc49 : ByteArray := jdk_94_method_20_code
abbrev bc58 : ByteArray := jdk_33_method_27_code
abbrev bc56 : ByteArray := jdk_33_method_34_code
abbrev bc52 : ByteArray := jdk_31_method_2_code
abbrev bc16 : ByteArray := prog_34_method_1_code
abbrev bc1 : ByteArray := prog_31_method_1_code
abbrev bc6 : ByteArray := jdk_33_method_22_code
abbrev bc10 : ByteArray := jdk_22_method_1_code
abbrev bc9 : ByteArray := jdk_39_method_1_code
abbrev bc8 : ByteArray := jdk_38_method_2_code
abbrev bc36 : ByteArray := jdk_29_method_65_code
abbrev bc35 : ByteArray := jdk_38_method_6_code
abbrev bc34 : ByteArray := jdk_38_method_7_code
abbrev bc33 : ByteArray := jdk_38_method_24_code
abbrev bc32 : ByteArray := jdk_38_method_25_code
abbrev bc29 : ByteArray := jdk_38_method_8_code
abbrev bc14 : ByteArray := jdk_38_method_9_code
abbrev bc15 : ByteArray := jdk_40_method_36_code
abbrev bc45 : ByteArray := jdk_31_method_10_code
abbrev bc44 : ByteArray := jdk_47_method_1_code
abbrev bc43 : ByteArray := jdk_46_method_1_code
abbrev bc42 : ByteArray := jdk_44_method_1_code
abbrev bc57 : ByteArray := jdk_44_method_2_code
abbrev bc55 : ByteArray := jdk_45_method_1_code
abbrev bc54 : ByteArray := jdk_56_method_4_code
abbrev bc41 : ByteArray := jdk_40_method_47_code
abbrev bc37 : ByteArray := jdk_38_method_16_code
abbrev bc13 : ByteArray := jdk_56_method_3_code
abbrev bc12 : ByteArray := jdk_40_method_48_code
abbrev bc7 : ByteArray := method_2_code
abbrev bc11 : ByteArray := prog_31_method_3_code
abbrev bc30 : ByteArray := prog_31_method_8_code
abbrev bc46 : ByteArray := method_3_code
abbrev bc51 : ByteArray := prog_34_method_2_code
abbrev bc53 : ByteArray := prog_34_method_3_code
abbrev bc48 : ByteArray := prog_31_method_15_code
abbrev bc47 : ByteArray := prog_31_method_7_code
abbrev bc31 : ByteArray := method_4_code
theorem own_nsRoot {Z : State} {a0 : Array Value} {O K : String} {n : Nat} (w : (Jvm.Cond.noSuperclass O).before a0 Z = true) (wk : (Jvm.Cond.instantiable K n).before a0 Z = true) (hn : O ≠ K) : NS Z O K := by
  obtain ⟨c, k, h1, h2, h3, -, -⟩ := Cond.noSuperclass_spec w
  obtain ⟨t, kt, g1, -⟩ := Cond.instantiable_spec wk
  have ne := ids_ne h1 g1 hn
  refine ⟨c, t, h1, g1, fun fuel => ?_⟩
  cases fuel with
  | zero => rfl
  | succ f => simp [Vm.isSubclassAux, ne, h2, h3]
theorem own_nsNo {Z : State} {a0 : Array Value} {C S K : String} {n : Nat} (w : (Jvm.Cond.superclass C S).before a0 Z = true) (wk : (Jvm.Cond.instantiable K n).before a0 Z = true) (ns : NS Z C K) (hn : C ≠ K) : ∃ c t, Z.vm.findClass C = some c ∧ Z.vm.findClass K = some t ∧ Z.vm.assignable c t = false := by
  obtain ⟨c, t, h0, g0, n3⟩ := ns
  obtain ⟨p, k, kp, h1, h2, h3, h4, h5, -, h7⟩ := Cond.superclass_spec h0 w
  obtain ⟨t', kt, g1, g2, g3, g4, -⟩ := Cond.instantiable_spec wk
  cases g0.symm.trans g1
  have g5 : kt.isInterface = false := by simp only [Bool.or_eq_false_iff] at g4; exact g4.1
  have ne := ids_ne h0 g0 hn
  refine ⟨c, t, h0, g0, ?_⟩
  show Z.vm.assignableAux (255 + 1) c t = false
  simp [Vm.assignableAux, ne, h2, g2, h5, g3, g5, Vm.isSubclass, n3]

theorem own_eqI {args : Array Value} {Z : State} {t : Term} {i : Int32} (h : (Jvm.Cond.eq t (.int i)).value args Z none Z [] = some true) : t.eval args Z none [] Z = some (.int i) := by
  simp only [Cond.value, Term.eval] at h
  cases ht : t.eval args Z none [] Z with
  | none => simp [ht] at h
  | some x => cases x <;> simp_all
theorem own_const {C nm d : String} {i : Int32} {args : Array Value} {Z : State} (w1 : (Jvm.Cond.exactly (.static C nm d) C).value args Z none Z [] = some true)
    (w2 : (Jvm.Cond.eq (.field (.static C nm d) "java/lang/Enum" "ordinal" "I") (.int i)).value args Z none Z [] = some true) (hi : (Jvm.Cond.initialized C).before args Z = true) (hl : (Jvm.Cond.laysStatic C nm d).before args Z = true) :
    ∃ r, (Term.static C nm d).eval args Z none [] Z = some (.ref r) ∧ Sta Z Z.heap C nm d (.ref r) ∧ Exa Z Z.heap r C ∧ Fld Z Z.heap r "java/lang/Enum" "ordinal" "I" (.int i) := by
  obtain ⟨r, er⟩ := exa_v w1
  exact ⟨r, er, Sta.start er (Or.inr ⟨hi, hl⟩), Exa.start er w1, Fld.start (by rw [← fld_at er]; exact own_eqI w2)⟩

theorem d5_0 : decode bc5 0 = .ok (.aload_n 0, 1) := by decide +kernel
theorem d5_1 : decode bc5 1 = .ok (.invokespecial 1, 3) := by decide +kernel
theorem d5_4 : decode bc5 4 = .ok (.return_, 1) := by decide +kernel
theorem ef_AM (m : MethodId) (x0 : Addr) : entryFrame m #[(.ref x0)] 1 = mkF m 0 #[.val (.ref x0)] [] := by first | (simp [entryFrame, mkF, argsToLocals, Value.category]; done) | rfl
abbrev HW (a0 : Array Value) (Z : State) : Prop := ∀ d ∈ tables_1, d.before a0 Z = true
theorem qw {Z : State} {a0 : Array Value} (hw : ∀ d ∈ tables_1, d.before a0 Z = true) (i : Nat) {d : Jvm.Cond} (h : tables_1[i]? = some d) : d.before a0 Z = true := hw _ (List.mem_of_getElem? h)
theorem rmAM (l : Launch) (Z : State) (a0 : Array Value) (hw : HW a0 Z) (ws : List Jvm.Cond) (b : Addr) (h0 : Heap) (n0 : Nat) :
  Meets l Z mn_0 jdk_71_method_1_code 1 none ({ frames := 1, cells := 0, slots := 0, locals := 12 } : Room) ws #[(.ref b)] h0 (fun v h L => v = none ∧ Fr n0 L ∧ h = h0) := by
 refine Meets.of (plainFor_of_name pn_0) ?_
 intro p e s m _a _d c s₁ X0 hx hby hml _c hlk hnm hZ _b e0
 replace _b : s.vm.findClass "java/util/AbstractMap" = some m.cls := _b
 have N0 := Fr.nil n0
 refine Go.cast (ef_AM m b) ?_
 show Go p e s _a _ _ _ s₁ (mkF m 0 #[vR b] [])
 refine gs ?_ fun _ _k => XS.aloadN X0.here hx rfl (hb hby d5_0) rfl rfl _k
 show Go p e s _a _ _ _ s₁ (mkF m 1 #[vR b] [(.ref b)])
 obtain ⟨T1, X1, e1, st1⟩ := initO X0 hx hZ _b (qw hw 27 rfl) (qw hw 7 rfl) (qw hw 8 rfl) e0 (g := (mkF m 1 #[vR b] [(.ref b)])) rfl (by rw [hml]; rfl) rfl (hb hby d5_1) (by decide) (W := 0) (by show 2 * 0 + _ ≤ _; exact Nat.le_of_eq rfl) (by decide)
 refine Go.st st1 ?_
 show Go p e s _a _ _ _ T1 (mkF m 4 #[vR b] [])
 exact Go.retV X1 hx hlk _c (hb hby d5_4) (by decide) (by decide) ⟨rfl, N0, e1⟩
theorem pd0 : parseMethodDescriptor "()V" = some ⟨[], none⟩ := by decide +kernel
theorem d4_0 : decode bc4 0 = .ok (.aload_n 0, 1) := by decide +kernel
theorem d4_1 : decode bc4 1 = .ok (.invokespecial 43, 3) := by decide +kernel
theorem d4_4 : decode bc4 4 = .ok (.aload_n 0, 1) := by decide +kernel
theorem d4_5 : decode bc4 5 = .ok (.ldc 92, 2) := by decide +kernel
theorem d4_7 : decode bc4 7 = .ok (.putfield 81, 3) := by decide +kernel
theorem d4_10 : decode bc4 10 = .ok (.return_, 1) := by decide +kernel
theorem ef_HM (m : MethodId) (x0 : Addr) : entryFrame m #[(.ref x0)] 1 = mkF m 0 #[.val (.ref x0)] [] := by first | (simp [entryFrame, mkF, argsToLocals, Value.category]; done) | rfl
theorem rmHM (l : Launch) (Z : State) (a0 : Array Value) (hw : HW a0 Z) (ws : List Jvm.Cond) (b : Addr)  (h0 : Heap) (n0 : Nat) (gb : n0 ≤ b) (E_b : Exa Z h0 b s_f) (_a : Fld Z h0 b s_j "loadFactor" "F" (.float (0 : UInt32))) (_w : Fld Z h0 b s_j "table" s_p .null) (_h : Fld Z h0 b s_j "threshold" "I" (.int 0)) (_j : Fld Z h0 b s_j s_x "I" (.int 0)) (_y : Fld Z h0 b s_j "size" "I" (.int 0)) (_z : Fld Z h0 b s_f "head" s_h .null) (_A : Fld Z h0 b s_f "tail" s_h .null) (_o : Fld Z h0 b s_f "putMode" "I" (.int 0)) (_d : Fld Z h0 b s_f "accessOrder" "Z" (.int 0))  :
  Meets l Z mn_1 jdk_69_method_7_code 1 none ({ frames := 2, cells := 0, slots := 0, locals := 24 } : Room) ws #[(.ref b)] h0 (fun v h L => v = none ∧ Fr n0 L ∧ Keep h0 h [b] ∧ Fld Z h b s_j "loadFactor" "F" (.float (1061158912 : UInt32)) ∧ Fld Z h b s_j "table" s_p .null ∧ Fld Z h b s_j "threshold" "I" (.int 0) ∧ Fld Z h b s_j s_x "I" (.int 0) ∧ Fld Z h b s_j "size" "I" (.int 0) ∧ Fld Z h b s_f "head" s_h .null ∧ Fld Z h b s_f "tail" s_h .null ∧ Fld Z h b s_f "putMode" "I" (.int 0) ∧ Fld Z h b s_f "accessOrder" "Z" (.int 0)) := by
 refine Meets.of (plainFor_of_name pn_1) ?_
 intro p e s m _r _C c s₁ X0 hx hby hml _B hlk hnm hZ _k e0
 replace _k : s.vm.findClass s_j = some m.cls := _k
 have N0 := Fr.nil n0
 have K0 := Keep.refl h0 [b]
 refine Go.cast (ef_HM m b) ?_
 show Go p e s _r _ _ _ s₁ (mkF m 0 #[vR b] [])
 refine gs ?_ fun _ _k => XS.aloadN X0.here hx rfl (hb hby d4_0) rfl rfl _k
 show Go p e s _r _ _ _ s₁ (mkF m 1 #[vR b] [(.ref b)])
 refine Go.callC (b := b) (W := 0) (argsL := []) (rest := []) X0 hx hZ (y := mn_0) rfl _k (qw hw 21 rfl) (qw hw 22 rfl) (qw hw 25 rfl) (qw hw 26 rfl) (rmAM l Z a0 hw [] b h0 n0) e0 (by decide) (by rw [hml]; rfl) (lenOf pd0 rfl) (Nat.le_of_eq rfl) (hb hby d4_1) ?_
 intro T1 v1 L1 h1 e1 X1 hQ1
 obtain ⟨rfl, N1, E1⟩ := hQ1
 replace E1 := e1.trans E1
 have M1 := Fr.app N0 N1
 refine gs ?_ fun _ _k => XS.aloadN X1.here hx rfl (hb hby d4_4) rfl rfl _k
 refine Go.st (X1.ldcFloatC hx _k (mvT hZ (qw hw 28 rfl)) (g := (mkF m 5 #[vR b] [(.ref b)])) rfl (hb hby d4_5)) ?_
 obtain ⟨T2, h2, X2, e2, W2, st2⟩ := putF X1 hx hZ _k (host := "") (Or.inl (qw hw 29 rfl)) Via.refl E1 _a E_b (Or.inr ⟨(qw hw 30 rfl), rfl, hnm⟩) (qw hw 10 rfl) (ty := .float) (by decide) rfl rfl (g := (mkF m 7 #[vR b] [(.float (1061158912 : UInt32)), (.ref b)])) rfl rfl (hb hby d4_7)
 refine Go.st st2 ?_
 have _c : Fld Z h2 b s_j "loadFactor" "F" (.float (1061158912 : UInt32)) := _a.same W2
 have N2 := Fr.snoc X2 M1 gb
 show Go p e s _r _ _ _ T2 (mkF m 10 #[vR b] [])
 have K_2 := K0.wr W2 (Or.inl (List.mem_singleton.mpr rfl))
 have _q := _w.other W2 (Or.inr (slot_ne (Or.inl (qw hw 157 rfl)) (Or.inr (qw hw 30 rfl)) (by decide) (t := (.array (.object s_c))) (t' := .float) (by decide) (by decide)))
 have _f := _h.other W2 (Or.inr (slot_ne (Or.inl (qw hw 164 rfl)) (Or.inr (qw hw 30 rfl)) (by decide) (t := .int) (t' := .float) (by decide) (by decide)))
 have _g := _j.other W2 (Or.inr (slot_ne (Or.inl (qw hw 205 rfl)) (Or.inr (qw hw 30 rfl)) (by decide) (t := .int) (t' := .float) (by decide) (by decide)))
 have _t := _y.other W2 (Or.inr (slot_ne (Or.inl (qw hw 207 rfl)) (Or.inr (qw hw 30 rfl)) (by decide) (t := .int) (t' := .float) (by decide) (by decide)))
 have _u := _z.other W2 (Or.inr (slot_ne (Or.inl (qw hw 203 rfl)) (Or.inr (qw hw 30 rfl)) (by decide) (t := (.object s_d)) (t' := .float) (by decide) (by decide)))
 have _v := _A.other W2 (Or.inr (slot_ne (Or.inl (qw hw 201 rfl)) (Or.inr (qw hw 30 rfl)) (by decide) (t := (.object s_d)) (t' := .float) (by decide) (by decide)))
 have _i := _o.other W2 (Or.inr (slot_ne (Or.inl (qw hw 32 rfl)) (Or.inr (qw hw 30 rfl)) (by decide) (t := .int) (t' := .float) (by decide) (by decide)))
 have _b := _d.other W2 (Or.inr (slot_ne (Or.inr (qw hw 34 rfl)) (Or.inr (qw hw 30 rfl)) (by decide) (t := .boolean) (t' := .float) (by decide) (by decide)))
 exact Go.retV X2 hx hlk _B (hb hby d4_10) (by decide) (by decide) ⟨rfl, N2, (by rw [e2]; exact K_2), (by rw [e2]; exact _c), (by rw [e2]; exact _q), (by rw [e2]; exact _f), (by rw [e2]; exact _g), (by rw [e2]; exact _t), (by rw [e2]; exact _u), (by rw [e2]; exact _v), (by rw [e2]; exact _i), (by rw [e2]; exact _b)⟩
theorem d3_0 : decode bc3 0 = .ok (.aload_n 0, 1) := by decide +kernel
theorem d3_1 : decode bc3 1 = .ok (.invokespecial 87, 3) := by decide +kernel
theorem d3_4 : decode bc3 4 = .ok (.aload_n 0, 1) := by decide +kernel
theorem d3_5 : decode bc3 5 = .ok (.iconst 0, 1) := by decide +kernel
theorem d3_6 : decode bc3 6 = .ok (.putfield 1, 3) := by decide +kernel
theorem d3_9 : decode bc3 9 = .ok (.aload_n 0, 1) := by decide +kernel
theorem d3_10 : decode bc3 10 = .ok (.iconst 0, 1) := by decide +kernel
theorem d3_11 : decode bc3 11 = .ok (.putfield 64, 3) := by decide +kernel
theorem d3_14 : decode bc3 14 = .ok (.return_, 1) := by decide +kernel
theorem ef_LH (m : MethodId) (x0 : Addr) : entryFrame m #[(.ref x0)] 1 = mkF m 0 #[.val (.ref x0)] [] := by first | (simp [entryFrame, mkF, argsToLocals, Value.category]; done) | rfl
theorem rmLH (l : Launch) (Z : State) (a0 : Array Value) (hw : HW a0 Z) (ws : List Jvm.Cond) (b : Addr)  (h0 : Heap) (n0 : Nat) (gb : n0 ≤ b) (E_b : Exa Z h0 b s_f) (_k : Fld Z h0 b s_j "loadFactor" "F" (.float (0 : UInt32))) (_I : Fld Z h0 b s_j "table" s_p .null) (_r : Fld Z h0 b s_j "threshold" "I" (.int 0)) (_v : Fld Z h0 b s_j s_x "I" (.int 0)) (_J : Fld Z h0 b s_j "size" "I" (.int 0)) (_K : Fld Z h0 b s_f "head" s_h .null) (_L : Fld Z h0 b s_f "tail" s_h .null) (_y : Fld Z h0 b s_f "putMode" "I" (.int 0)) (_h : Fld Z h0 b s_f "accessOrder" "Z" (.int 0))  :
  Meets l Z mn_2 jdk_94_method_16_code 1 none ({ frames := 3, cells := 0, slots := 0, locals := 36 } : Room) ws #[(.ref b)] h0 (fun v h L => v = none ∧ Fr n0 L ∧ Keep h0 h [b] ∧ Fld Z h b s_j "loadFactor" "F" (.float (1061158912 : UInt32)) ∧ Fld Z h b s_j "table" s_p .null ∧ Fld Z h b s_j "threshold" "I" (.int 0) ∧ Fld Z h b s_j s_x "I" (.int 0) ∧ Fld Z h b s_j "size" "I" (.int 0) ∧ Fld Z h b s_f "head" s_h .null ∧ Fld Z h b s_f "tail" s_h .null ∧ Fld Z h b s_f "putMode" "I" (.int 0) ∧ Fld Z h b s_f "accessOrder" "Z" (.int (nar .boolean (0 : Int32)))) := by
 refine Meets.of (plainFor_of_name pn_2) ?_
 intro p e s m _B _P c s₁ X0 hx hby hml _O hlk hnm hZ _w e0
 replace _w : s.vm.findClass s_f = some m.cls := _w
 have N0 := Fr.nil n0
 have K0 := Keep.refl h0 [b]
 refine Go.cast (ef_LH m b) ?_
 show Go p e s _B _ _ _ s₁ (mkF m 0 #[vR b] [])
 refine gs ?_ fun _ _k => XS.aloadN X0.here hx rfl (hb hby d3_0) rfl rfl _k
 show Go p e s _B _ _ _ s₁ (mkF m 1 #[vR b] [(.ref b)])
 refine Go.callC (b := b) (W := 0) (argsL := []) (rest := []) X0 hx hZ (y := mn_1) rfl _w (qw hw 15 rfl) (qw hw 16 rfl) (qw hw 19 rfl) (qw hw 20 rfl) (rmHM l Z a0 hw [] b  h0 n0 gb E_b _k _I _r _v _J _K _L _y _h) e0 (by decide) (by rw [hml]; rfl) (lenOf pd0 rfl) (Nat.le_of_eq rfl) (hb hby d3_1) ?_
 intro T1 v1 L1 h1 e1 X1 hQ1
 obtain ⟨rfl, N1, K1, _f, _z, _i, _o, _C, _D, _E, _b, _c⟩ := hQ1
 have M1 := Fr.app N0 N1
 refine gs ?_ fun _ _k => XS.aloadN X1.here hx rfl (hb hby d3_4) rfl rfl _k
 refine gs ?_ fun _ _k => XT.iconstV X1.here hx rfl (0 : Int32) (hb hby d3_5) (by decide) _k
 have _M := E_b.keep K1
 obtain ⟨T2, h2, X2, e2, W2, st2⟩ := putF X1 hx hZ _w (host := "") (Or.inl (qw hw 31 rfl)) Via.refl e1 _b _M (Or.inl (qw hw 32 rfl)) (qw hw 10 rfl) (ty := .int) (by decide) rfl rfl (g := (mkF m 6 #[vR b] [(.int 0), (.ref b)])) rfl rfl (hb hby d3_6)
 refine Go.st st2 ?_
 have _t : Fld Z h2 b s_f "putMode" "I" (.int 0) := _b.same W2
 have N2 := Fr.snoc X2 M1 gb
 refine gs ?_ fun _ _k => XS.aloadN X2.here hx rfl (hb hby d3_9) rfl rfl _k
 refine gs ?_ fun _ _k => XT.iconstV X2.here hx rfl (0 : Int32) (hb hby d3_10) (by decide) _k
 have _a := _c.other W2 (Or.inr (slot_ne (Or.inr (qw hw 34 rfl)) (Or.inl (qw hw 32 rfl)) (by decide) (t := .boolean) (t' := .int) (by decide) (by decide)))
 have _N := _M.wr W2
 obtain ⟨T3, h3, X3, e3, W3, st3⟩ := putFN X2 hx hZ _w (qw hw 33 rfl) Via.refl e2 _a _N (Or.inr ⟨(qw hw 34 rfl), rfl, hnm⟩) (qw hw 10 rfl) (ty := .boolean) (v' := (.int (nar .boolean (0 : Int32)))) (by decide) rfl (fits_nar_bool _) (g := (mkF m 11 #[vR b] [(.int 0), (.ref b)])) rfl rfl (hb hby d3_11)
 refine Go.st st3 ?_
 have _d : Fld Z h3 b s_f "accessOrder" "Z" (.int (nar .boolean (0 : Int32))) := _a.same W3
 have N3 := Fr.snoc X3 N2 gb
 show Go p e s _B _ _ _ T3 (mkF m 14 #[vR b] [])
 have K_3 := ((K0.trans K1 (allS (Or.inl (List.mem_singleton.mpr rfl)) all0)).wr W2 (Or.inl (List.mem_singleton.mpr rfl))).wr W3 (Or.inl (List.mem_singleton.mpr rfl))
 have _g := (_f.other W2 (Or.inr (slot_ne (Or.inr (qw hw 30 rfl)) (Or.inl (qw hw 32 rfl)) (by decide) (t := .float) (t' := .int) (by decide) (by decide)))).other W3 (Or.inr (slot_ne (Or.inr (qw hw 30 rfl)) (Or.inr (qw hw 34 rfl)) (by decide) (t := .float) (t' := .boolean) (by decide) (by decide)))
 have _A := (_z.other W2 (Or.inr (slot_ne (Or.inl (qw hw 157 rfl)) (Or.inl (qw hw 32 rfl)) (by decide) (t := (.array (.object s_c))) (t' := .int) (by decide) (by decide)))).other W3 (Or.inr (slot_ne (Or.inl (qw hw 157 rfl)) (Or.inr (qw hw 34 rfl)) (by decide) (t := (.array (.object s_c))) (t' := .boolean) (by decide) (by decide)))
 have _j := (_i.other W2 (Or.inr (slot_ne (Or.inl (qw hw 164 rfl)) (Or.inl (qw hw 32 rfl)) (by decide) (t := .int) (t' := .int) (by decide) (by decide)))).other W3 (Or.inr (slot_ne (Or.inl (qw hw 164 rfl)) (Or.inr (qw hw 34 rfl)) (by decide) (t := .int) (t' := .boolean) (by decide) (by decide)))
 have _q := (_o.other W2 (Or.inr (slot_ne (Or.inl (qw hw 205 rfl)) (Or.inl (qw hw 32 rfl)) (by decide) (t := .int) (t' := .int) (by decide) (by decide)))).other W3 (Or.inr (slot_ne (Or.inl (qw hw 205 rfl)) (Or.inr (qw hw 34 rfl)) (by decide) (t := .int) (t' := .boolean) (by decide) (by decide)))
 have _F := (_C.other W2 (Or.inr (slot_ne (Or.inl (qw hw 207 rfl)) (Or.inl (qw hw 32 rfl)) (by decide) (t := .int) (t' := .int) (by decide) (by decide)))).other W3 (Or.inr (slot_ne (Or.inl (qw hw 207 rfl)) (Or.inr (qw hw 34 rfl)) (by decide) (t := .int) (t' := .boolean) (by decide) (by decide)))
 have _G := (_D.other W2 (Or.inr (slot_ne (Or.inl (qw hw 203 rfl)) (Or.inl (qw hw 32 rfl)) (by decide) (t := (.object s_d)) (t' := .int) (by decide) (by decide)))).other W3 (Or.inr (slot_ne (Or.inl (qw hw 203 rfl)) (Or.inr (qw hw 34 rfl)) (by decide) (t := (.object s_d)) (t' := .boolean) (by decide) (by decide)))
 have _H := (_E.other W2 (Or.inr (slot_ne (Or.inl (qw hw 201 rfl)) (Or.inl (qw hw 32 rfl)) (by decide) (t := (.object s_d)) (t' := .int) (by decide) (by decide)))).other W3 (Or.inr (slot_ne (Or.inl (qw hw 201 rfl)) (Or.inr (qw hw 34 rfl)) (by decide) (t := (.object s_d)) (t' := .boolean) (by decide) (by decide)))
 have _u := _t.other W3 (Or.inr (slot_ne (Or.inl (qw hw 32 rfl)) (Or.inr (qw hw 34 rfl)) (by decide) (t := .int) (t' := .boolean) (by decide) (by decide)))
 exact Go.retV X3 hx hlk _O (hb hby d3_14) (by decide) (by decide) ⟨rfl, N3, (by rw [e3]; exact K_3), (by rw [e3]; exact _g), (by rw [e3]; exact _A), (by rw [e3]; exact _j), (by rw [e3]; exact _q), (by rw [e3]; exact _F), (by rw [e3]; exact _G), (by rw [e3]; exact _H), (by rw [e3]; exact _u), (by rw [e3]; exact _d)⟩
theorem d25_0 : decode bc25 0 = .ok (.aload_n 0, 1) := by decide +kernel
theorem d25_1 : decode bc25 1 = .ok (.invokespecial 1, 3) := by decide +kernel
theorem d25_4 : decode bc25 4 = .ok (.aload_n 0, 1) := by decide +kernel
theorem d25_5 : decode bc25 5 = .ok (.iload_n 1, 1) := by decide +kernel
theorem d25_6 : decode bc25 6 = .ok (.putfield 7, 3) := by decide +kernel
theorem d25_9 : decode bc25 9 = .ok (.aload_n 0, 1) := by decide +kernel
theorem d25_10 : decode bc25 10 = .ok (.aload_n 2, 1) := by decide +kernel
theorem d25_11 : decode bc25 11 = .ok (.putfield 13, 3) := by decide +kernel
theorem d25_14 : decode bc25 14 = .ok (.aload_n 0, 1) := by decide +kernel
theorem d25_15 : decode bc25 15 = .ok (.aload_n 3, 1) := by decide +kernel
theorem d25_16 : decode bc25 16 = .ok (.putfield 17, 3) := by decide +kernel
theorem d25_19 : decode bc25 19 = .ok (.aload_n 0, 1) := by decide +kernel
theorem d25_20 : decode bc25 20 = .ok (.aload 4, 2) := by decide +kernel
theorem d25_22 : decode bc25 22 = .ok (.putfield 20, 3) := by decide +kernel
theorem d25_25 : decode bc25 25 = .ok (.return_, 1) := by decide +kernel
theorem ef_HN (m : MethodId) (x0 : Addr) (x1 : Int32) (x2 : Addr) (x3 : Addr) : entryFrame m #[(.ref x0), (.int x1), (.ref x2), (.ref x3), .null] 5 = mkF m 0 #[.val (.ref x0), .val (.int x1), .val (.ref x2), .val (.ref x3), .val .null] [] := by first | (simp [entryFrame, mkF, argsToLocals, Value.category]; done) | rfl
theorem rmHN (l : Launch) (Z : State) (a0 : Array Value) (hw : HW a0 Z) (ws : List Jvm.Cond) (b : Addr) (hh : Int32) (kk vv : Addr) (h0 : Heap) (n0 : Nat) (gb : n0 ≤ b) (E_b : Exa Z h0 b s_d) (_f : Fld Z h0 b s_c "hash" "I" (.int 0)) (_C : Fld Z h0 b s_c "key" s_l .null) (_u : Fld Z h0 b s_c "value" s_l .null) (_z : Fld Z h0 b s_c "next" s_q .null) (_k : Fld Z h0 b s_d "before" s_h .null) (_v : Fld Z h0 b s_d "after" s_h .null)  :
  Meets l Z mn_3 jdk_70_method_1_code 5 none ({ frames := 1, cells := 0, slots := 0, locals := 12 } : Room) ws #[(.ref b), (.int hh), (.ref kk), (.ref vv), .null] h0 (fun v h L => v = none ∧ Fr n0 L ∧ Keep h0 h [b] ∧ Fld Z h b s_c "hash" "I" (.int hh) ∧ Fld Z h b s_c "key" s_l (.ref kk) ∧ Fld Z h b s_c "value" s_l (.ref vv) ∧ Fld Z h b s_c "next" s_q .null ∧ Fld Z h b s_d "before" s_h .null ∧ Fld Z h b s_d "after" s_h .null) := by
 refine Meets.of (plainFor_of_name pn_3) ?_
 intro p e s m _o _F c s₁ X0 hx hby hml _E hlk hnm hZ _b e0
 replace _b : s.vm.findClass s_c = some m.cls := _b
 have N0 := Fr.nil n0
 have K0 := Keep.refl h0 [b]
 refine Go.cast (ef_HN m b hh kk vv) ?_
 show Go p e s _o _ _ _ s₁ (mkF m 0 #[vR b, vI hh, vR kk, vR vv, .val .null] [])
 refine gs ?_ fun _ _k => XS.aloadN X0.here hx rfl (hb hby d25_0) rfl rfl _k
 show Go p e s _o _ _ _ s₁ (mkF m 1 #[vR b, vI hh, vR kk, vR vv, .val .null] [(.ref b)])
 obtain ⟨T1, X1, e1, st1⟩ := initO X0 hx hZ _b (qw hw 186 rfl) (qw hw 7 rfl) (qw hw 8 rfl) e0 (g := (mkF m 1 #[vR b, vI hh, vR kk, vR vv, .val .null] [(.ref b)])) rfl (by rw [hml]; rfl) rfl (hb hby d25_1) (by decide) (W := 0) (by show 2 * 0 + _ ≤ _; exact Nat.le_of_eq rfl) (by decide)
 refine Go.st st1 ?_
 refine gs ?_ fun _ _k => XS.aloadN X1.here hx rfl (hb hby d25_4) rfl rfl _k
 refine gs ?_ fun _ _k => XS.iloadN X1.here hx rfl (hb hby d25_5) rfl _k
 obtain ⟨T2, h2, X2, e2, W2, st2⟩ := putF X1 hx hZ _b (host := "") (Or.inl (qw hw 187 rfl)) Via.refl e1 _f E_b (Or.inr ⟨(qw hw 188 rfl), rfl, hnm⟩) (qw hw 174 rfl) (ty := .int) (by decide) rfl rfl (g := (mkF m 6 #[vR b, vI hh, vR kk, vR vv, .val .null] [(.int hh), (.ref b)])) rfl rfl (hb hby d25_6)
 refine Go.st st2 ?_
 have _q : Fld Z h2 b s_c "hash" "I" (.int hh) := _f.same W2
 have N2 := Fr.snoc X2 N0 gb
 refine gs ?_ fun _ _k => XS.aloadN X2.here hx rfl (hb hby d25_9) rfl rfl _k
 refine gs ?_ fun _ _k => XS.aloadN X2.here hx rfl (hb hby d25_10) rfl rfl _k
 have _d := _C.other W2 (Or.inr (slot_ne (Or.inr (qw hw 190 rfl)) (Or.inr (qw hw 188 rfl)) (by decide) (t := (.object s_e)) (t' := .int) (by decide) (by decide)))
 have _A := E_b.wr W2
 obtain ⟨T3, h3, X3, e3, W3, st3⟩ := putF X2 hx hZ _b (host := "") (Or.inl (qw hw 189 rfl)) Via.refl e2 _d _A (Or.inr ⟨(qw hw 190 rfl), rfl, hnm⟩) (qw hw 174 rfl) (ty := (.object s_e)) (by decide) rfl rfl (g := (mkF m 11 #[vR b, vI hh, vR kk, vR vv, .val .null] [(.ref kk), (.ref b)])) rfl rfl (hb hby d25_11)
 refine Go.st st3 ?_
 have _w : Fld Z h3 b s_c "key" s_l (.ref kk) := _d.same W3
 have N3 := Fr.snoc X3 N2 gb
 refine gs ?_ fun _ _k => XS.aloadN X3.here hx rfl (hb hby d25_14) rfl rfl _k
 refine gs ?_ fun _ _k => XS.aloadN X3.here hx rfl (hb hby d25_15) rfl rfl _k
 have _a := (_u.other W2 (Or.inr (slot_ne (Or.inl (qw hw 192 rfl)) (Or.inr (qw hw 188 rfl)) (by decide) (t := (.object s_e)) (t' := .int) (by decide) (by decide)))).other W3 (Or.inr (slot_ne (Or.inl (qw hw 192 rfl)) (Or.inr (qw hw 190 rfl)) (by decide) (t := (.object s_e)) (t' := (.object s_e)) (by decide) (by decide)))
 have _B := _A.wr W3
 obtain ⟨T4, h4, X4, e4, W4, st4⟩ := putF X3 hx hZ _b (host := "") (Or.inl (qw hw 191 rfl)) Via.refl e3 _a _B (Or.inl (qw hw 192 rfl)) (qw hw 174 rfl) (ty := (.object s_e)) (by decide) rfl rfl (g := (mkF m 16 #[vR b, vI hh, vR kk, vR vv, .val .null] [(.ref vv), (.ref b)])) rfl rfl (hb hby d25_16)
 refine Go.st st4 ?_
 have _h : Fld Z h4 b s_c "value" s_l (.ref vv) := _a.same W4
 have N4 := Fr.snoc X4 N3 gb
 refine gs ?_ fun _ _k => XS.aloadN X4.here hx rfl (hb hby d25_19) rfl rfl _k
 refine gs ?_ fun _ _k => XS.aload X4.here hx rfl (hb hby d25_20) rfl rfl _k
 have _c := ((_z.other W2 (Or.inr (slot_ne (Or.inl (qw hw 194 rfl)) (Or.inr (qw hw 188 rfl)) (by decide) (t := (.object s_c)) (t' := .int) (by decide) (by decide)))).other W3 (Or.inr (slot_ne (Or.inl (qw hw 194 rfl)) (Or.inr (qw hw 190 rfl)) (by decide) (t := (.object s_c)) (t' := (.object s_e)) (by decide) (by decide)))).other W4 (Or.inr (slot_ne (Or.inl (qw hw 194 rfl)) (Or.inl (qw hw 192 rfl)) (by decide) (t := (.object s_c)) (t' := (.object s_e)) (by decide) (by decide)))
 have _D := _B.wr W4
 obtain ⟨T5, h5, X5, e5, W5, st5⟩ := putF X4 hx hZ _b (host := "") (Or.inl (qw hw 193 rfl)) Via.refl e4 _c _D (Or.inl (qw hw 194 rfl)) (qw hw 174 rfl) (ty := (.object s_c)) (by decide) rfl rfl (g := (mkF m 22 #[vR b, vI hh, vR kk, vR vv, .val .null] [.null, (.ref b)])) rfl rfl (hb hby d25_22)
 refine Go.st st5 ?_
 have _r : Fld Z h5 b s_c "next" s_q .null := _c.same W5
 have N5 := Fr.snoc X5 N4 gb
 show Go p e s _o _ _ _ T5 (mkF m 25 #[vR b, vI hh, vR kk, vR vv, .val .null] [])
 have K_5 := (((K0.wr W2 (Or.inl (List.mem_singleton.mpr rfl))).wr W3 (Or.inl (List.mem_singleton.mpr rfl))).wr W4 (Or.inl (List.mem_singleton.mpr rfl))).wr W5 (Or.inl (List.mem_singleton.mpr rfl))
 have _t := ((_q.other W3 (Or.inr (slot_ne (Or.inr (qw hw 188 rfl)) (Or.inr (qw hw 190 rfl)) (by decide) (t := .int) (t' := (.object s_e)) (by decide) (by decide)))).other W4 (Or.inr (slot_ne (Or.inr (qw hw 188 rfl)) (Or.inl (qw hw 192 rfl)) (by decide) (t := .int) (t' := (.object s_e)) (by decide) (by decide)))).other W5 (Or.inr (slot_ne (Or.inr (qw hw 188 rfl)) (Or.inl (qw hw 194 rfl)) (by decide) (t := .int) (t' := (.object s_c)) (by decide) (by decide)))
 have _y := (_w.other W4 (Or.inr (slot_ne (Or.inr (qw hw 190 rfl)) (Or.inl (qw hw 192 rfl)) (by decide) (t := (.object s_e)) (t' := (.object s_e)) (by decide) (by decide)))).other W5 (Or.inr (slot_ne (Or.inr (qw hw 190 rfl)) (Or.inl (qw hw 194 rfl)) (by decide) (t := (.object s_e)) (t' := (.object s_c)) (by decide) (by decide)))
 have _i := _h.other W5 (Or.inr (slot_ne (Or.inl (qw hw 192 rfl)) (Or.inl (qw hw 194 rfl)) (by decide) (t := (.object s_e)) (t' := (.object s_c)) (by decide) (by decide)))
 have _g := (((_k.other W2 (Or.inr (slot_ne (Or.inl (qw hw 401 rfl)) (Or.inr (qw hw 188 rfl)) (by decide) (t := (.object s_d)) (t' := .int) (by decide) (by decide)))).other W3 (Or.inr (slot_ne (Or.inl (qw hw 401 rfl)) (Or.inr (qw hw 190 rfl)) (by decide) (t := (.object s_d)) (t' := (.object s_e)) (by decide) (by decide)))).other W4 (Or.inr (slot_ne (Or.inl (qw hw 401 rfl)) (Or.inl (qw hw 192 rfl)) (by decide) (t := (.object s_d)) (t' := (.object s_e)) (by decide) (by decide)))).other W5 (Or.inr (slot_ne (Or.inl (qw hw 401 rfl)) (Or.inl (qw hw 194 rfl)) (by decide) (t := (.object s_d)) (t' := (.object s_c)) (by decide) (by decide)))
 have _j := (((_v.other W2 (Or.inr (slot_ne (Or.inl (qw hw 403 rfl)) (Or.inr (qw hw 188 rfl)) (by decide) (t := (.object s_d)) (t' := .int) (by decide) (by decide)))).other W3 (Or.inr (slot_ne (Or.inl (qw hw 403 rfl)) (Or.inr (qw hw 190 rfl)) (by decide) (t := (.object s_d)) (t' := (.object s_e)) (by decide) (by decide)))).other W4 (Or.inr (slot_ne (Or.inl (qw hw 403 rfl)) (Or.inl (qw hw 192 rfl)) (by decide) (t := (.object s_d)) (t' := (.object s_e)) (by decide) (by decide)))).other W5 (Or.inr (slot_ne (Or.inl (qw hw 403 rfl)) (Or.inl (qw hw 194 rfl)) (by decide) (t := (.object s_d)) (t' := (.object s_c)) (by decide) (by decide)))
 exact Go.retV X5 hx hlk _E (hb hby d25_25) (by decide) (by decide) ⟨rfl, N5, (by rw [e5]; exact K_5), (by rw [e5]; exact _t), (by rw [e5]; exact _y), (by rw [e5]; exact _i), (by rw [e5]; exact _r), (by rw [e5]; exact _g), (by rw [e5]; exact _j)⟩
theorem pd1 : parseMethodDescriptor "(ILjava/lang/Object;Ljava/lang/Object;Ljava/util/HashMap$Node;)V" = some ⟨[.int, (.object s_e), (.object s_e), (.object s_c)], none⟩ := by decide +kernel
theorem d24_0 : decode bc24 0 = .ok (.aload_n 0, 1) := by decide +kernel
theorem d24_1 : decode bc24 1 = .ok (.iload_n 1, 1) := by decide +kernel
theorem d24_2 : decode bc24 2 = .ok (.aload_n 2, 1) := by decide +kernel
theorem d24_3 : decode bc24 3 = .ok (.aload_n 3, 1) := by decide +kernel
theorem d24_4 : decode bc24 4 = .ok (.aload 4, 2) := by decide +kernel
theorem d24_6 : decode bc24 6 = .ok (.invokespecial 1, 3) := by decide +kernel
theorem d24_9 : decode bc24 9 = .ok (.return_, 1) := by decide +kernel
theorem ef_EN (m : MethodId) (x0 : Addr) (x1 : Int32) (x2 : Addr) (x3 : Addr) : entryFrame m #[(.ref x0), (.int x1), (.ref x2), (.ref x3), .null] 5 = mkF m 0 #[.val (.ref x0), .val (.int x1), .val (.ref x2), .val (.ref x3), .val .null] [] := by first | (simp [entryFrame, mkF, argsToLocals, Value.category]; done) | rfl
theorem rmEN (l : Launch) (Z : State) (a0 : Array Value) (hw : HW a0 Z) (ws : List Jvm.Cond) (b : Addr) (hh : Int32) (kk vv : Addr) (h0 : Heap) (n0 : Nat) (gb : n0 ≤ b) (E_b : Exa Z h0 b s_d) (_o : Fld Z h0 b s_c "hash" "I" (.int 0)) (_t : Fld Z h0 b s_c "key" s_l .null) (_i : Fld Z h0 b s_c "value" s_l .null) (_q : Fld Z h0 b s_c "next" s_q .null) (_d : Fld Z h0 b s_d "before" s_h .null) (_j : Fld Z h0 b s_d "after" s_h .null)  :
  Meets l Z mn_4 jdk_83_method_1_code 5 none ({ frames := 2, cells := 0, slots := 0, locals := 28 } : Room) ws #[(.ref b), (.int hh), (.ref kk), (.ref vv), .null] h0 (fun v h L => v = none ∧ Fr n0 L ∧ Keep h0 h [b] ∧ Fld Z h b s_c "hash" "I" (.int hh) ∧ Fld Z h b s_c "key" s_l (.ref kk) ∧ Fld Z h b s_c "value" s_l (.ref vv) ∧ Fld Z h b s_c "next" s_q .null ∧ Fld Z h b s_d "before" s_h .null ∧ Fld Z h b s_d "after" s_h .null) := by
 refine Meets.of (plainFor_of_name pn_4) ?_
 intro p e s m _f _v c s₁ X0 hx hby hml _u hlk hnm hZ _r e0
 replace _r : s.vm.findClass s_d = some m.cls := _r
 have N0 := Fr.nil n0
 have K0 := Keep.refl h0 [b]
 refine Go.cast (ef_EN m b hh kk vv) ?_
 show Go p e s _f _ _ _ s₁ (mkF m 0 #[vR b, vI hh, vR kk, vR vv, .val .null] [])
 refine gs ?_ fun _ _k => XS.aloadN X0.here hx rfl (hb hby d24_0) rfl rfl _k
 refine gs ?_ fun _ _k => XS.iloadN X0.here hx rfl (hb hby d24_1) rfl _k
 refine gs ?_ fun _ _k => XS.aloadN X0.here hx rfl (hb hby d24_2) rfl rfl _k
 refine gs ?_ fun _ _k => XS.aloadN X0.here hx rfl (hb hby d24_3) rfl rfl _k
 refine gs ?_ fun _ _k => XS.aload X0.here hx rfl (hb hby d24_4) rfl rfl _k
 show Go p e s _f _ _ _ s₁ (mkF m 6 #[vR b, vI hh, vR kk, vR vv, .val .null] [.null, (.ref vv), (.ref kk), (.int hh), (.ref b)])
 refine Go.callC (b := b) (W := 0) (argsL := [(.int hh), (.ref kk), (.ref vv), .null]) (rest := []) X0 hx hZ (y := mn_3) rfl _r (qw hw 180 rfl) (qw hw 181 rfl) (qw hw 184 rfl) (qw hw 185 rfl) (rmHN l Z a0 hw [] b hh kk vv h0 n0 gb E_b _o _t _i _q _d _j) e0 (by decide) (by rw [hml]; rfl) (lenOf pd1 rfl) (Nat.le_of_eq rfl) (hb hby d24_6) ?_
 intro T1 v1 L1 h1 e1 X1 hQ1
 obtain ⟨rfl, N1, K1, _g, _k, _b, _h, _a, _c⟩ := hQ1
 have M1 := Fr.app N0 N1
 show Go p e s _f _ _ _ T1 (mkF m 9 #[vR b, vI hh, vR kk, vR vv, .val .null] [])
 have K_1 := K0.trans K1 (allS (Or.inl (List.mem_singleton.mpr rfl)) all0)
 exact Go.retV X1 hx hlk _u (hb hby d24_9) (by decide) (by decide) ⟨rfl, M1, (by rw [e1]; exact K_1), (by rw [e1]; exact _g), (by rw [e1]; exact _k), (by rw [e1]; exact _b), (by rw [e1]; exact _h), (by rw [e1]; exact _a), (by rw [e1]; exact _c)⟩
theorem own_nf {s : State} {a : Array Value} {y y' : MethodName} (h : NotFace s y) (hi : (Jvm.Cond.instanceMethod y).before a s = true) (e : y'.cls = y.cls) : NotFace s y' := fun r' h' => by
  obtain ⟨mk, _, hn, -⟩ := Cond.instanceMethod_spec hi
  obtain ⟨kr, q1, q2⟩ := h mk hn
  have e1 := findClass_of_methodNamed hn
  have e2 := findClass_of_methodNamed h'
  rw [e, e1] at e2
  have e3 : mk.cls = r'.cls := Option.some.inj e2
  rw [← e3]
  exact ⟨kr, q1, q2⟩

theorem d26_0 : decode bc26 0 = .ok (.aload_n 0, 1) := by decide +kernel
theorem d26_1 : decode bc26 1 = .ok (.getfield 1, 3) := by decide +kernel
theorem d26_4 : decode bc26 4 = .ok (.iconst 1, 1) := by decide +kernel
theorem d26_5 : decode bc26 5 = .ok (.if_icmp .ne 38, 3) := by decide +kernel
theorem d26_43 : decode bc26 43 = .ok (.aload_n 0, 1) := by decide +kernel
theorem d26_44 : decode bc26 44 = .ok (.getfield 11, 3) := by decide +kernel
theorem d26_47 : decode bc26 47 = .ok (.astore_n 2, 1) := by decide +kernel
theorem d26_48 : decode bc26 48 = .ok (.aload_n 0, 1) := by decide +kernel
theorem d26_49 : decode bc26 49 = .ok (.aload_n 1, 1) := by decide +kernel
theorem d26_50 : decode bc26 50 = .ok (.putfield 11, 3) := by decide +kernel
theorem d26_53 : decode bc26 53 = .ok (.aload_n 2, 1) := by decide +kernel
theorem d26_54 : decode bc26 54 = .ok (.ifnonnull 11, 3) := by decide +kernel
theorem d26_57 : decode bc26 57 = .ok (.aload_n 0, 1) := by decide +kernel
theorem d26_58 : decode bc26 58 = .ok (.aload_n 1, 1) := by decide +kernel
theorem d26_59 : decode bc26 59 = .ok (.putfield 7, 3) := by decide +kernel
theorem d26_62 : decode bc26 62 = .ok (.goto 13, 3) := by decide +kernel
theorem d26_75 : decode bc26 75 = .ok (.return_, 1) := by decide +kernel
theorem ef_L0 (m : MethodId) (x0 : Addr) (x1 : Addr) : entryFrame m #[(.ref x0), (.ref x1)] 3 = mkF m 0 #[.val (.ref x0), .val (.ref x1), .unset] [] := by first | (simp [entryFrame, mkF, argsToLocals, Value.category]; done) | rfl
theorem rmL0 (l : Launch) (Z : State) (a0 : Array Value) (hw : HW a0 Z) (ws : List Jvm.Cond) (tb : Addr) (xe : Addr) (mp : Addr) (h0 : Heap) (n0 : Nat) (Z0 : n0 ≤ h0.size) (_E : n0 ≤ mp) (_F : Exa Z h0 mp s_f) (_i : Fld Z h0 mp s_j "loadFactor" "F" (.float (1061158912 : UInt32))) (_z : Fld Z h0 mp s_j "table" s_p (.ref tb)) (_k : Fld Z h0 mp s_j "threshold" "I" (.int 12)) (_r : Fld Z h0 mp s_j s_x "I" (.int 0)) (_A : Fld Z h0 mp s_j "size" "I" (.int 0)) (_B : Fld Z h0 mp s_f "head" s_h .null) (_a : Fld Z h0 mp s_f "tail" s_h .null) (_b : Fld Z h0 mp s_f "putMode" "I" (.int 0)) (_g : Fld Z h0 mp s_f "accessOrder" "Z" (.int (nar .boolean (0 : Int32)))) :
  Meets l Z mn_5 jdk_94_method_1_code 3 none ({ frames := 0, cells := 0, slots := 0, locals := 0 } : Room) ws #[(.ref mp), (.ref xe)] h0 (fun v h L => v = none ∧ Fr n0 L ∧ Keep h0 h [mp] ∧ Exa Z h mp s_f ∧ Fld Z h mp s_j "loadFactor" "F" (.float (1061158912 : UInt32)) ∧ Fld Z h mp s_j "table" s_p (.ref tb) ∧ Fld Z h mp s_j "threshold" "I" (.int 12) ∧ Fld Z h mp s_j s_x "I" (.int 0) ∧ Fld Z h mp s_j "size" "I" (.int 0) ∧ Fld Z h mp s_f "head" s_h (.ref xe) ∧ Fld Z h mp s_f "tail" s_h (.ref xe) ∧ Fld Z h mp s_f "putMode" "I" (.int 0) ∧ Fld Z h mp s_f "accessOrder" "Z" (.int (nar .boolean (0 : Int32)))) := by
 refine Meets.of (plainFor_of_name pn_2) ?_
 intro p e s m _D _I c s₁ X0 hx hby hml _H hlk hnm hZ _o e0
 replace _o : s.vm.findClass s_f = some m.cls := _o
 have N0 := Fr.nil n0
 have K0 := Keep.refl h0 [mp]
 refine Go.cast (ef_L0 m mp xe) ?_
 show Go p e s _D _ _ _ s₁ (mkF m 0 #[vR mp, vR xe, vU] [])
 refine gs ?_ fun _ _k => XS.aloadN X0.here hx rfl (hb hby d26_0) rfl rfl _k
 obtain ⟨T1, X1, e1, st1⟩ := getF X0 hx hZ _o (host := "") (Or.inl (qw hw 31 rfl)) Via.refl e0 _b (g := (mkF m 1 #[vR mp, vR xe, vU] [(.ref mp)])) rfl rfl (hb hby d26_1)
 refine Go.st st1 ?_
 refine gs ?_ fun _ _k => XT.iconstV X1.here hx rfl (1 : Int32) (hb hby d26_4) (by decide) _k
 refine gs ?_ fun _ _k => XS.icmpYes X1.here hx rfl (pc0 := 5) (pc' := 43) rfl (hb hby d26_5) rfl (feq (by decide : ¬ ((0 : Int32) = (1 : Int32)))).2 (by decide) (by decide) _k
 refine gs ?_ fun _ _k => XS.aloadN X1.here hx rfl (hb hby d26_43) rfl rfl _k
 obtain ⟨T2, X2, e2, st2⟩ := getF X1 hx hZ _o (host := "") (Or.inl (qw hw 200 rfl)) Via.refl e1 _a (g := (mkF m 44 #[vR mp, vR xe, vU] [(.ref mp)])) rfl rfl (hb hby d26_44)
 refine Go.st st2 ?_
 refine gs ?_ fun _ _k => XS.astoreN X2.here hx rfl (hb hby d26_47) rfl rfl (l' := #[vR mp, vR xe, .val .null]) rfl _k
 refine gs ?_ fun _ _k => XS.aloadN X2.here hx rfl (hb hby d26_48) rfl rfl _k
 refine gs ?_ fun _ _k => XS.aloadN X2.here hx rfl (hb hby d26_49) rfl rfl _k
 obtain ⟨T3, h3, X3, e3, W3, st3⟩ := putF X2 hx hZ _o (host := "") (Or.inl (qw hw 200 rfl)) Via.refl e2 _a _F (Or.inl (qw hw 201 rfl)) (qw hw 10 rfl) (ty := (.object s_d)) (by decide) rfl rfl (g := (mkF m 50 #[vR mp, vR xe, .val .null] [(.ref xe), (.ref mp)])) rfl rfl (hb hby d26_50)
 refine Go.st st3 ?_
 have _u : Fld Z h3 mp s_f "tail" s_h (.ref xe) := _a.same W3
 have N3 := Fr.snoc X3 N0 _E
 refine gs ?_ fun _ _k => XS.aloadN X3.here hx rfl (hb hby d26_53) rfl rfl _k
 refine gs ?_ fun _ _k => XS.ifnonnullNo X3.here hx rfl (hb hby d26_54) rfl _k
 refine gs ?_ fun _ _k => XS.aloadN X3.here hx rfl (hb hby d26_57) rfl rfl _k
 refine gs ?_ fun _ _k => XS.aloadN X3.here hx rfl (hb hby d26_58) rfl rfl _k
 have _f := _B.other W3 (Or.inr (slot_ne (Or.inl (qw hw 203 rfl)) (Or.inl (qw hw 201 rfl)) (by decide) (t := (.object s_d)) (t' := (.object s_d)) (by decide) (by decide)))
 have _C := _F.wr W3
 obtain ⟨T4, h4, X4, e4, W4, st4⟩ := putF X3 hx hZ _o (host := "") (Or.inl (qw hw 202 rfl)) Via.refl e3 _f _C (Or.inl (qw hw 203 rfl)) (qw hw 10 rfl) (ty := (.object s_d)) (by decide) rfl rfl (g := (mkF m 59 #[vR mp, vR xe, .val .null] [(.ref xe), (.ref mp)])) rfl rfl (hb hby d26_59)
 refine Go.st st4 ?_
 have _v : Fld Z h4 mp s_f "head" s_h (.ref xe) := _f.same W4
 have N4 := Fr.snoc X4 N3 _E
 refine gs ?_ fun _ _k => XS.goto X4.here hx rfl (pc0 := 62) (pc' := 75) rfl (hb hby d26_62) (by decide) (by decide) _k
 show Go p e s _D _ _ _ T4 (mkF m 75 #[vR mp, vR xe, .val .null] [])
 have K_4 := (K0.wr W3 (Or.inl (by simp))).wr W4 (Or.inl (by simp))
 have _G := _C.wr W4
 have _d := (_i.other W3 (Or.inr (slot_ne (Or.inr (qw hw 30 rfl)) (Or.inl (qw hw 201 rfl)) (by decide) (t := .float) (t' := (.object s_d)) (by decide) (by decide)))).other W4 (Or.inr (slot_ne (Or.inr (qw hw 30 rfl)) (Or.inl (qw hw 203 rfl)) (by decide) (t := .float) (t' := (.object s_d)) (by decide) (by decide)))
 have _t := (_z.other W3 (Or.inr (slot_ne (Or.inl (qw hw 157 rfl)) (Or.inl (qw hw 201 rfl)) (by decide) (t := (.array (.object s_c))) (t' := (.object s_d)) (by decide) (by decide)))).other W4 (Or.inr (slot_ne (Or.inl (qw hw 157 rfl)) (Or.inl (qw hw 203 rfl)) (by decide) (t := (.array (.object s_c))) (t' := (.object s_d)) (by decide) (by decide)))
 have _h := (_k.other W3 (Or.inr (slot_ne (Or.inl (qw hw 164 rfl)) (Or.inl (qw hw 201 rfl)) (by decide) (t := .int) (t' := (.object s_d)) (by decide) (by decide)))).other W4 (Or.inr (slot_ne (Or.inl (qw hw 164 rfl)) (Or.inl (qw hw 203 rfl)) (by decide) (t := .int) (t' := (.object s_d)) (by decide) (by decide)))
 have _j := (_r.other W3 (Or.inr (slot_ne (Or.inl (qw hw 205 rfl)) (Or.inl (qw hw 201 rfl)) (by decide) (t := .int) (t' := (.object s_d)) (by decide) (by decide)))).other W4 (Or.inr (slot_ne (Or.inl (qw hw 205 rfl)) (Or.inl (qw hw 203 rfl)) (by decide) (t := .int) (t' := (.object s_d)) (by decide) (by decide)))
 have _w := (_A.other W3 (Or.inr (slot_ne (Or.inl (qw hw 207 rfl)) (Or.inl (qw hw 201 rfl)) (by decide) (t := .int) (t' := (.object s_d)) (by decide) (by decide)))).other W4 (Or.inr (slot_ne (Or.inl (qw hw 207 rfl)) (Or.inl (qw hw 203 rfl)) (by decide) (t := .int) (t' := (.object s_d)) (by decide) (by decide)))
 have _y := _u.other W4 (Or.inr (slot_ne (Or.inl (qw hw 201 rfl)) (Or.inl (qw hw 203 rfl)) (by decide) (t := (.object s_d)) (t' := (.object s_d)) (by decide) (by decide)))
 have _q := (_b.other W3 (Or.inr (slot_ne (Or.inl (qw hw 32 rfl)) (Or.inl (qw hw 201 rfl)) (by decide) (t := .int) (t' := (.object s_d)) (by decide) (by decide)))).other W4 (Or.inr (slot_ne (Or.inl (qw hw 32 rfl)) (Or.inl (qw hw 203 rfl)) (by decide) (t := .int) (t' := (.object s_d)) (by decide) (by decide)))
 have _c := (_g.other W3 (Or.inr (slot_ne (Or.inr (qw hw 34 rfl)) (Or.inl (qw hw 201 rfl)) (by decide) (t := .boolean) (t' := (.object s_d)) (by decide) (by decide)))).other W4 (Or.inr (slot_ne (Or.inr (qw hw 34 rfl)) (Or.inl (qw hw 203 rfl)) (by decide) (t := .boolean) (t' := (.object s_d)) (by decide) (by decide)))
 exact Go.retV X4 hx hlk _H (hb hby d26_75) (by decide) (by decide) ⟨rfl, N4, (by rw [e4]; exact K_4), (by rw [e4]; exact _G), (by rw [e4]; exact _d), (by rw [e4]; exact _t), (by rw [e4]; exact _h), (by rw [e4]; exact _j), (by rw [e4]; exact _w), (by rw [e4]; exact _v), (by rw [e4]; exact _y), (by rw [e4]; exact _q), (by rw [e4]; exact _c)⟩
theorem d26_65 : decode bc26 65 = .ok (.aload_n 1, 1) := by decide +kernel
theorem d26_66 : decode bc26 66 = .ok (.aload_n 2, 1) := by decide +kernel
theorem d26_67 : decode bc26 67 = .ok (.putfield 19, 3) := by decide +kernel
theorem d26_70 : decode bc26 70 = .ok (.aload_n 2, 1) := by decide +kernel
theorem d26_71 : decode bc26 71 = .ok (.aload_n 1, 1) := by decide +kernel
theorem d26_72 : decode bc26 72 = .ok (.putfield 14, 3) := by decide +kernel
theorem ef_L1 (m : MethodId) (x0 : Addr) (x1 : Addr) : entryFrame m #[(.ref x0), (.ref x1)] 3 = mkF m 0 #[.val (.ref x0), .val (.ref x1), .unset] [] := by first | (simp [entryFrame, mkF, argsToLocals, Value.category]; done) | rfl
theorem rmL1 (l : Launch) (Z : State) (a0 : Array Value) (hw : HW a0 Z) (ws : List Jvm.Cond) (tb : Addr) (ha : Int32) (ka : Addr) (va : Addr) (hb_ : Int32) (kb : Addr) (vb : Addr) (mp : Addr) (xe : Addr) (ea : Addr) (h0 : Heap) (n0 : Nat) (Z0 : n0 ≤ h0.size) (_va : n0 ≤ mp) (_wa : n0 ≤ xe) (_ya : n0 ≤ ea) (_qa : Exa Z h0 mp s_f) (_r : Fld Z h0 mp s_j "loadFactor" "F" (.float (1061158912 : UInt32))) (_Q : Fld Z h0 mp s_j "table" s_p (.ref tb)) (_u : Fld Z h0 mp s_j "threshold" "I" (.int 12)) (_w : Fld Z h0 mp s_j s_x "I" (.int 1)) (_aa : Fld Z h0 mp s_j "size" "I" (.int 1)) (_ba : Fld Z h0 mp s_f "head" s_h (.ref ea)) (_f : Fld Z h0 mp s_f "tail" s_h (.ref ea)) (_g : Fld Z h0 mp s_f "putMode" "I" (.int 0)) (_k : Fld Z h0 mp s_f "accessOrder" "Z" (.int (nar .boolean (0 : Int32)))) (_za : Exa Z h0 xe s_d) (_ca : Fld Z h0 xe s_c "hash" "I" (.int hb_)) (_ja : Fld Z h0 xe s_c "key" s_l (.ref kb)) (_R : Fld Z h0 xe s_c "value" s_l (.ref vb)) (_da : Fld Z h0 xe s_c "next" s_q .null) (_G : Fld Z h0 xe s_d "before" s_h .null) (_S : Fld Z h0 xe s_d "after" s_h .null) (_Aa : Exa Z h0 ea s_d) (_fa : Fld Z h0 ea s_c "hash" "I" (.int ha)) (_ka : Fld Z h0 ea s_c "key" s_l (.ref ka)) (_T : Fld Z h0 ea s_c "value" s_l (.ref va)) (_ga : Fld Z h0 ea s_c "next" s_q .null) (_H : Fld Z h0 ea s_d "before" s_h .null) (_U : Fld Z h0 ea s_d "after" s_h .null) (_a : mp ≠ xe) (_b : mp ≠ ea) (_c : xe ≠ ea) :
  Meets l Z mn_5 jdk_94_method_1_code 3 none ({ frames := 0, cells := 0, slots := 0, locals := 0 } : Room) ws #[(.ref mp), (.ref xe)] h0 (fun v h L => v = none ∧ Fr n0 L ∧ Keep h0 h [mp, xe, ea] ∧ Exa Z h mp s_f ∧ Fld Z h mp s_j "loadFactor" "F" (.float (1061158912 : UInt32)) ∧ Fld Z h mp s_j "table" s_p (.ref tb) ∧ Fld Z h mp s_j "threshold" "I" (.int 12) ∧ Fld Z h mp s_j s_x "I" (.int 1) ∧ Fld Z h mp s_j "size" "I" (.int 1) ∧ Fld Z h mp s_f "head" s_h (.ref ea) ∧ Fld Z h mp s_f "tail" s_h (.ref xe) ∧ Fld Z h mp s_f "putMode" "I" (.int 0) ∧ Fld Z h mp s_f "accessOrder" "Z" (.int (nar .boolean (0 : Int32))) ∧ Exa Z h xe s_d ∧ Fld Z h xe s_c "hash" "I" (.int hb_) ∧ Fld Z h xe s_c "key" s_l (.ref kb) ∧ Fld Z h xe s_c "value" s_l (.ref vb) ∧ Fld Z h xe s_c "next" s_q .null ∧ Fld Z h xe s_d "before" s_h (.ref ea) ∧ Fld Z h xe s_d "after" s_h .null ∧ Exa Z h ea s_d ∧ Fld Z h ea s_c "hash" "I" (.int ha) ∧ Fld Z h ea s_c "key" s_l (.ref ka) ∧ Fld Z h ea s_c "value" s_l (.ref va) ∧ Fld Z h ea s_c "next" s_q .null ∧ Fld Z h ea s_d "before" s_h .null ∧ Fld Z h ea s_d "after" s_h (.ref xe)) := by
 refine Meets.of (plainFor_of_name pn_2) ?_
 intro p e s m _oa _Ca c s₁ X0 hx hby hml _Ba hlk hnm hZ _o e0
 replace _o : s.vm.findClass s_f = some m.cls := _o
 have N0 := Fr.nil n0
 have K0 := Keep.refl h0 [mp, xe, ea]
 refine Go.cast (ef_L1 m mp xe) ?_
 show Go p e s _oa _ _ _ s₁ (mkF m 0 #[vR mp, vR xe, vU] [])
 refine gs ?_ fun _ _k => XS.aloadN X0.here hx rfl (hb hby d26_0) rfl rfl _k
 obtain ⟨T1, X1, e1, st1⟩ := getF X0 hx hZ _o (host := "") (Or.inl (qw hw 31 rfl)) Via.refl e0 _g (g := (mkF m 1 #[vR mp, vR xe, vU] [(.ref mp)])) rfl rfl (hb hby d26_1)
 refine Go.st st1 ?_
 refine gs ?_ fun _ _k => XT.iconstV X1.here hx rfl (1 : Int32) (hb hby d26_4) (by decide) _k
 refine gs ?_ fun _ _k => XS.icmpYes X1.here hx rfl (pc0 := 5) (pc' := 43) rfl (hb hby d26_5) rfl (feq (by decide : ¬ ((0 : Int32) = (1 : Int32)))).2 (by decide) (by decide) _k
 refine gs ?_ fun _ _k => XS.aloadN X1.here hx rfl (hb hby d26_43) rfl rfl _k
 obtain ⟨T2, X2, e2, st2⟩ := getF X1 hx hZ _o (host := "") (Or.inl (qw hw 200 rfl)) Via.refl e1 _f (g := (mkF m 44 #[vR mp, vR xe, vU] [(.ref mp)])) rfl rfl (hb hby d26_44)
 refine Go.st st2 ?_
 refine gs ?_ fun _ _k => XS.astoreN X2.here hx rfl (hb hby d26_47) rfl rfl (l' := #[vR mp, vR xe, vR ea]) rfl _k
 refine gs ?_ fun _ _k => XS.aloadN X2.here hx rfl (hb hby d26_48) rfl rfl _k
 refine gs ?_ fun _ _k => XS.aloadN X2.here hx rfl (hb hby d26_49) rfl rfl _k
 obtain ⟨T3, h3, X3, e3, W3, st3⟩ := putF X2 hx hZ _o (host := "") (Or.inl (qw hw 200 rfl)) Via.refl e2 _f _qa (Or.inl (qw hw 201 rfl)) (qw hw 10 rfl) (ty := (.object s_d)) (by decide) rfl rfl (g := (mkF m 50 #[vR mp, vR xe, vR ea] [(.ref xe), (.ref mp)])) rfl rfl (hb hby d26_50)
 refine Go.st st3 ?_
 have _I : Fld Z h3 mp s_f "tail" s_h (.ref xe) := _f.same W3
 have N3 := Fr.snoc X3 N0 _va
 refine gs ?_ fun _ _k => XS.aloadN X3.here hx rfl (hb hby d26_53) rfl rfl _k
 refine gs ?_ fun _ _k => XS.ifnonnullYes X3.here hx rfl (pc0 := 54) (pc' := 65) rfl (hb hby d26_54) rfl (by decide) (by decide) _k
 refine gs ?_ fun _ _k => XS.aloadN X3.here hx rfl (hb hby d26_65) rfl rfl _k
 refine gs ?_ fun _ _k => XS.aloadN X3.here hx rfl (hb hby d26_66) rfl rfl _k
 have _d := _G.other W3 (Or.inl (Ne.symm _a))
 have _ha := _za.wr W3
 obtain ⟨T4, h4, X4, e4, W4, st4⟩ := putF X3 hx hZ _o (host := "") (Or.inl (qw hw 400 rfl)) Via.refl e3 _d _ha (Or.inl (qw hw 401 rfl)) (qw hw 174 rfl) (ty := (.object s_d)) (by decide) rfl rfl (g := (mkF m 67 #[vR mp, vR xe, vR ea] [(.ref ea), (.ref xe)])) rfl rfl (hb hby d26_67)
 refine Go.st st4 ?_
 have _y : Fld Z h4 xe s_d "before" s_h (.ref ea) := _d.same W4
 have N4 := Fr.snoc X4 N3 _wa
 refine gs ?_ fun _ _k => XS.aloadN X4.here hx rfl (hb hby d26_70) rfl rfl _k
 refine gs ?_ fun _ _k => XS.aloadN X4.here hx rfl (hb hby d26_71) rfl rfl _k
 have _h := (_U.other W3 (Or.inl (Ne.symm _b))).other W4 (Or.inl (Ne.symm _c))
 have _ia := (_Aa.wr W3).wr W4
 obtain ⟨T5, h5, X5, e5, W5, st5⟩ := putF X4 hx hZ _o (host := "") (Or.inl (qw hw 402 rfl)) Via.refl e4 _h _ia (Or.inl (qw hw 403 rfl)) (qw hw 174 rfl) (ty := (.object s_d)) (by decide) rfl rfl (g := (mkF m 72 #[vR mp, vR xe, vR ea] [(.ref xe), (.ref ea)])) rfl rfl (hb hby d26_72)
 refine Go.st st5 ?_
 have _B : Fld Z h5 ea s_d "after" s_h (.ref xe) := _h.same W5
 have N5 := Fr.snoc X5 N4 _ya
 show Go p e s _oa _ _ _ T5 (mkF m 75 #[vR mp, vR xe, vR ea] [])
 have K_5 := ((K0.wr W3 (Or.inl (by simp))).wr W4 (Or.inl (by simp))).wr W5 (Or.inl (by simp))
 have _ra := ((_qa.wr W3).wr W4).wr W5
 have _j := ((_r.other W3 (Or.inr (slot_ne (Or.inr (qw hw 30 rfl)) (Or.inl (qw hw 201 rfl)) (by decide) (t := .float) (t' := (.object s_d)) (by decide) (by decide)))).other W4 (Or.inl _a)).other W5 (Or.inl _b)
 have _C := ((_Q.other W3 (Or.inr (slot_ne (Or.inl (qw hw 157 rfl)) (Or.inl (qw hw 201 rfl)) (by decide) (t := (.array (.object s_c))) (t' := (.object s_d)) (by decide) (by decide)))).other W4 (Or.inl _a)).other W5 (Or.inl _b)
 have _q := ((_u.other W3 (Or.inr (slot_ne (Or.inl (qw hw 164 rfl)) (Or.inl (qw hw 201 rfl)) (by decide) (t := .int) (t' := (.object s_d)) (by decide) (by decide)))).other W4 (Or.inl _a)).other W5 (Or.inl _b)
 have _t := ((_w.other W3 (Or.inr (slot_ne (Or.inl (qw hw 205 rfl)) (Or.inl (qw hw 201 rfl)) (by decide) (t := .int) (t' := (.object s_d)) (by decide) (by decide)))).other W4 (Or.inl _a)).other W5 (Or.inl _b)
 have _J := ((_aa.other W3 (Or.inr (slot_ne (Or.inl (qw hw 207 rfl)) (Or.inl (qw hw 201 rfl)) (by decide) (t := .int) (t' := (.object s_d)) (by decide) (by decide)))).other W4 (Or.inl _a)).other W5 (Or.inl _b)
 have _K := ((_ba.other W3 (Or.inr (slot_ne (Or.inl (qw hw 203 rfl)) (Or.inl (qw hw 201 rfl)) (by decide) (t := (.object s_d)) (t' := (.object s_d)) (by decide) (by decide)))).other W4 (Or.inl _a)).other W5 (Or.inl _b)
 have _L := (_I.other W4 (Or.inl _a)).other W5 (Or.inl _b)
 have _v := ((_g.other W3 (Or.inr (slot_ne (Or.inl (qw hw 32 rfl)) (Or.inl (qw hw 201 rfl)) (by decide) (t := .int) (t' := (.object s_d)) (by decide) (by decide)))).other W4 (Or.inl _a)).other W5 (Or.inl _b)
 have _i := ((_k.other W3 (Or.inr (slot_ne (Or.inr (qw hw 34 rfl)) (Or.inl (qw hw 201 rfl)) (by decide) (t := .boolean) (t' := (.object s_d)) (by decide) (by decide)))).other W4 (Or.inl _a)).other W5 (Or.inl _b)
 have _ta := (_ha.wr W4).wr W5
 have _M := ((_ca.other W3 (Or.inl (Ne.symm _a))).other W4 (Or.inr (slot_ne (Or.inr (qw hw 188 rfl)) (Or.inl (qw hw 401 rfl)) (by decide) (t := .int) (t' := (.object s_d)) (by decide) (by decide)))).other W5 (Or.inl _c)
 have _V := ((_ja.other W3 (Or.inl (Ne.symm _a))).other W4 (Or.inr (slot_ne (Or.inr (qw hw 190 rfl)) (Or.inl (qw hw 401 rfl)) (by decide) (t := (.object s_e)) (t' := (.object s_d)) (by decide) (by decide)))).other W5 (Or.inl _c)
 have _D := ((_R.other W3 (Or.inl (Ne.symm _a))).other W4 (Or.inr (slot_ne (Or.inl (qw hw 192 rfl)) (Or.inl (qw hw 401 rfl)) (by decide) (t := (.object s_e)) (t' := (.object s_d)) (by decide) (by decide)))).other W5 (Or.inl _c)
 have _N := ((_da.other W3 (Or.inl (Ne.symm _a))).other W4 (Or.inr (slot_ne (Or.inl (qw hw 194 rfl)) (Or.inl (qw hw 401 rfl)) (by decide) (t := (.object s_c)) (t' := (.object s_d)) (by decide) (by decide)))).other W5 (Or.inl _c)
 have _z := _y.other W5 (Or.inl _c)
 have _E := ((_S.other W3 (Or.inl (Ne.symm _a))).other W4 (Or.inr (slot_ne (Or.inl (qw hw 403 rfl)) (Or.inl (qw hw 401 rfl)) (by decide) (t := (.object s_d)) (t' := (.object s_d)) (by decide) (by decide)))).other W5 (Or.inl _c)
 have _ua := _ia.wr W5
 have _O := ((_fa.other W3 (Or.inl (Ne.symm _b))).other W4 (Or.inl (Ne.symm _c))).other W5 (Or.inr (slot_ne (Or.inr (qw hw 188 rfl)) (Or.inl (qw hw 403 rfl)) (by decide) (t := .int) (t' := (.object s_d)) (by decide) (by decide)))
 have _W := ((_ka.other W3 (Or.inl (Ne.symm _b))).other W4 (Or.inl (Ne.symm _c))).other W5 (Or.inr (slot_ne (Or.inr (qw hw 190 rfl)) (Or.inl (qw hw 403 rfl)) (by decide) (t := (.object s_e)) (t' := (.object s_d)) (by decide) (by decide)))
 have _F := ((_T.other W3 (Or.inl (Ne.symm _b))).other W4 (Or.inl (Ne.symm _c))).other W5 (Or.inr (slot_ne (Or.inl (qw hw 192 rfl)) (Or.inl (qw hw 403 rfl)) (by decide) (t := (.object s_e)) (t' := (.object s_d)) (by decide) (by decide)))
 have _P := ((_ga.other W3 (Or.inl (Ne.symm _b))).other W4 (Or.inl (Ne.symm _c))).other W5 (Or.inr (slot_ne (Or.inl (qw hw 194 rfl)) (Or.inl (qw hw 403 rfl)) (by decide) (t := (.object s_c)) (t' := (.object s_d)) (by decide) (by decide)))
 have _A := ((_H.other W3 (Or.inl (Ne.symm _b))).other W4 (Or.inl (Ne.symm _c))).other W5 (Or.inr (slot_ne (Or.inl (qw hw 401 rfl)) (Or.inl (qw hw 403 rfl)) (by decide) (t := (.object s_d)) (t' := (.object s_d)) (by decide) (by decide)))
 exact Go.retV X5 hx hlk _Ba (hb hby d26_75) (by decide) (by decide) ⟨rfl, N5, (by rw [e5]; exact K_5), (by rw [e5]; exact _ra), (by rw [e5]; exact _j), (by rw [e5]; exact _C), (by rw [e5]; exact _q), (by rw [e5]; exact _t), (by rw [e5]; exact _J), (by rw [e5]; exact _K), (by rw [e5]; exact _L), (by rw [e5]; exact _v), (by rw [e5]; exact _i), (by rw [e5]; exact _ta), (by rw [e5]; exact _M), (by rw [e5]; exact _V), (by rw [e5]; exact _D), (by rw [e5]; exact _N), (by rw [e5]; exact _z), (by rw [e5]; exact _E), (by rw [e5]; exact _ua), (by rw [e5]; exact _O), (by rw [e5]; exact _W), (by rw [e5]; exact _F), (by rw [e5]; exact _P), (by rw [e5]; exact _A), (by rw [e5]; exact _B)⟩
theorem pd2 : parseMethodDescriptor "(Ljava/util/LinkedHashMap$Entry;)V" = some ⟨[(.object s_d)], none⟩ := by decide +kernel
theorem d23_0 : decode bc23 0 = .ok (.new 15, 3) := by decide +kernel
theorem d23_3 : decode bc23 3 = .ok (.dup, 1) := by decide +kernel
theorem d23_4 : decode bc23 4 = .ok (.iload_n 1, 1) := by decide +kernel
theorem d23_5 : decode bc23 5 = .ok (.aload_n 2, 1) := by decide +kernel
theorem d23_6 : decode bc23 6 = .ok (.aload_n 3, 1) := by decide +kernel
theorem d23_7 : decode bc23 7 = .ok (.aload 4, 2) := by decide +kernel
theorem d23_9 : decode bc23 9 = .ok (.invokespecial 28, 3) := by decide +kernel
theorem d23_12 : decode bc23 12 = .ok (.astore 5, 2) := by decide +kernel
theorem d23_14 : decode bc23 14 = .ok (.aload_n 0, 1) := by decide +kernel
theorem d23_15 : decode bc23 15 = .ok (.aload 5, 2) := by decide +kernel
theorem d23_17 : decode bc23 17 = .ok (.invokevirtual 32, 3) := by decide +kernel
theorem d23_20 : decode bc23 20 = .ok (.aload 5, 2) := by decide +kernel
theorem d23_22 : decode bc23 22 = .ok (.areturn, 1) := by decide +kernel
theorem ef_W0 (m : MethodId) (x0 : Addr) (x1 : Int32) (x2 : Addr) (x3 : Addr) : entryFrame m #[(.ref x0), (.int x1), (.ref x2), (.ref x3), .null] 6 = mkF m 0 #[.val (.ref x0), .val (.int x1), .val (.ref x2), .val (.ref x3), .val .null, .unset] [] := by first | (simp [entryFrame, mkF, argsToLocals, Value.category]; done) | rfl
theorem rmW0 (l : Launch) (Z : State) (a0 : Array Value) (hw : HW a0 Z) (ws : List Jvm.Cond) (tb : Addr) (hh : Int32) (kk : Addr) (vv : Addr) (mp : Addr) (h0 : Heap) (n0 : Nat) (Z0 : n0 ≤ h0.size) (_W : n0 ≤ mp) (_a : Exa Z h0 mp s_f) (_g : Fld Z h0 mp s_j "loadFactor" "F" (.float (1061158912 : UInt32))) (_J : Fld Z h0 mp s_j "table" s_p (.ref tb)) (_i : Fld Z h0 mp s_j "threshold" "I" (.int 12)) (_k : Fld Z h0 mp s_j s_x "I" (.int 0)) (_O : Fld Z h0 mp s_j "size" "I" (.int 0)) (_P : Fld Z h0 mp s_f "head" s_h .null) (_Q : Fld Z h0 mp s_f "tail" s_h .null) (_t : Fld Z h0 mp s_f "putMode" "I" (.int 0)) (_d : Fld Z h0 mp s_f "accessOrder" "Z" (.int (nar .boolean (0 : Int32)))) :
  Meets l Z mn_6 jdk_94_method_4_code 6 (some (.object s_c)) ({ frames := 3, cells := 1, slots := 6, locals := 45 } : Room) ws #[(.ref mp), (.int hh), (.ref kk), (.ref vv), .null] h0 (fun v h L => ∃ (b1 : Addr), v = some (.ref b1) ∧ Fr n0 L ∧ Keep h0 h [mp] ∧ h0.size ≤ b1 ∧ Exa Z h mp s_f ∧ Fld Z h mp s_j "loadFactor" "F" (.float (1061158912 : UInt32)) ∧ Fld Z h mp s_j "table" s_p (.ref tb) ∧ Fld Z h mp s_j "threshold" "I" (.int 12) ∧ Fld Z h mp s_j s_x "I" (.int 0) ∧ Fld Z h mp s_j "size" "I" (.int 0) ∧ Fld Z h mp s_f "head" s_h (.ref b1) ∧ Fld Z h mp s_f "tail" s_h (.ref b1) ∧ Fld Z h mp s_f "putMode" "I" (.int 0) ∧ Fld Z h mp s_f "accessOrder" "Z" (.int (nar .boolean (0 : Int32))) ∧ Exa Z h b1 s_d ∧ Fld Z h b1 s_c "hash" "I" (.int hh) ∧ Fld Z h b1 s_c "key" s_l (.ref kk) ∧ Fld Z h b1 s_c "value" s_l (.ref vv) ∧ Fld Z h b1 s_c "next" s_q .null ∧ Fld Z h b1 s_d "before" s_h .null ∧ Fld Z h b1 s_d "after" s_h .null) := by
 refine Meets.of (plainFor_of_name pn_2) ?_
 intro p e s m _r _qa c s₁ X0 hx hby hml _aa hlk hnm hZ _u e0
 replace _u : s.vm.findClass s_f = some m.cls := _u
 have N0 := Fr.nil n0
 have K0 := Keep.refl h0 [mp]
 refine Go.cast (ef_W0 m mp hh kk vv) ?_
 show Go p e s _r _ _ _ s₁ (mkF m 0 #[vR mp, vI hh, vR kk, vR vv, .val .null, vU] [])
 obtain ⟨T1, h1, X1, e1, E1, A1, D1, -, st1⟩ := newO X0 hx hZ _u (qw hw 173 rfl) (qw hw 174 rfl) (qw hw 175 rfl) e0 (g := (mkF m 0 #[vR mp, vI hh, vR kk, vR vv, .val .null, vU] [])) rfl (hb hby d23_0) (by decide) (by decide)
 obtain ⟨b1, g1⟩ : ∃ z, z = h0.size := ⟨_, rfl⟩
 rw [← g1] at A1 D1 st1
 have sz1 : h0.size ≤ b1 := Nat.le_trans K0.1 (Nat.le_of_eq g1.symm)
 have gn1 : n0 ≤ b1 := Nat.le_trans Z0 sz1
 refine Go.st st1 ?_
 have _R : Fld Z h1 b1 s_c "hash" "I" (.int 0) := D1 (Or.inr (qw hw 188 rfl)) (ty := .int) (by decide)
 have _U : Fld Z h1 b1 s_c "key" s_l .null := D1 (Or.inr (qw hw 190 rfl)) (ty := (.object s_e)) (by decide)
 have _K : Fld Z h1 b1 s_c "value" s_l .null := D1 (Or.inl (qw hw 192 rfl)) (ty := (.object s_e)) (by decide)
 have _S : Fld Z h1 b1 s_c "next" s_q .null := D1 (Or.inl (qw hw 194 rfl)) (ty := (.object s_c)) (by decide)
 have _B : Fld Z h1 b1 s_d "before" s_h .null := D1 (Or.inl (qw hw 401 rfl)) (ty := (.object s_d)) (by decide)
 have _L : Fld Z h1 b1 s_d "after" s_h .null := D1 (Or.inl (qw hw 403 rfl)) (ty := (.object s_d)) (by decide)
 refine gs ?_ fun _ _k => XS.dup X1.here hx rfl (hb hby d23_3) rfl rfl _k
 refine gs ?_ fun _ _k => XS.iloadN X1.here hx rfl (hb hby d23_4) rfl _k
 refine gs ?_ fun _ _k => XS.aloadN X1.here hx rfl (hb hby d23_5) rfl rfl _k
 refine gs ?_ fun _ _k => XS.aloadN X1.here hx rfl (hb hby d23_6) rfl rfl _k
 refine gs ?_ fun _ _k => XS.aload X1.here hx rfl (hb hby d23_7) rfl rfl _k
 show Go p e s _r _ _ _ T1 (mkF m 9 #[vR mp, vI hh, vR kk, vR vv, .val .null, vU] [.null, (.ref vv), (.ref kk), (.int hh), (.ref b1), (.ref b1)])
 refine Go.callC (b := b1) (W := 1) (argsL := [(.int hh), (.ref kk), (.ref vv), .null]) (rest := [(.ref b1)]) X1 hx hZ (y := mn_4) rfl _u (qw hw 176 rfl) (qw hw 177 rfl) (qw hw 175 rfl) (qw hw 179 rfl) (rmEN l Z a0 hw [] b1 hh kk vv h1 n0 gn1 A1 _R _U _K _S _B _L) e1 (by decide) (by rw [hml]; rfl) (lenOf pd1 rfl) (Nat.le_of_eq rfl) (hb hby d23_9) ?_
 intro T2 v2 L2 h2 e2 X2 hQ2
 obtain ⟨rfl, N2, K2, _C, _M, _v, _D, _o, _w⟩ := hQ2
 have M2 := Fr.app N0 N2
 refine gs ?_ fun _ _k => XS.astore X2.here hx rfl (hb hby d23_12) rfl rfl (l' := #[vR mp, vI hh, vR kk, vR vv, .val .null, vR b1]) rfl _k
 refine gs ?_ fun _ _k => XS.aloadN X2.here hx rfl (hb hby d23_14) rfl rfl _k
 refine gs ?_ fun _ _k => XS.aload X2.here hx rfl (hb hby d23_15) rfl rfl _k
 show Go p e s _r _ _ _ T2 (mkF m 17 #[vR mp, vI hh, vR kk, vR vv, .val .null, vR b1] [(.ref b1), (.ref mp)])
 have K_2 := (K0.ext E1).trans K2 (allS (Or.inr sz1) all0)
 have _T := (_a.ext E1).keep K2
 have _c := (_g.ext E1).keep K2 (ninS (Nat.ne_of_lt (Nat.lt_of_lt_of_le _a.lt sz1)) nin0)
 have _y := (_J.ext E1).keep K2 (ninS (Nat.ne_of_lt (Nat.lt_of_lt_of_le _a.lt sz1)) nin0)
 have _f := (_i.ext E1).keep K2 (ninS (Nat.ne_of_lt (Nat.lt_of_lt_of_le _a.lt sz1)) nin0)
 have _h := (_k.ext E1).keep K2 (ninS (Nat.ne_of_lt (Nat.lt_of_lt_of_le _a.lt sz1)) nin0)
 have _E := (_O.ext E1).keep K2 (ninS (Nat.ne_of_lt (Nat.lt_of_lt_of_le _a.lt sz1)) nin0)
 have _F := (_P.ext E1).keep K2 (ninS (Nat.ne_of_lt (Nat.lt_of_lt_of_le _a.lt sz1)) nin0)
 have _G := (_Q.ext E1).keep K2 (ninS (Nat.ne_of_lt (Nat.lt_of_lt_of_le _a.lt sz1)) nin0)
 have _j := (_t.ext E1).keep K2 (ninS (Nat.ne_of_lt (Nat.lt_of_lt_of_le _a.lt sz1)) nin0)
 have _b := (_d.ext E1).keep K2 (ninS (Nat.ne_of_lt (Nat.lt_of_lt_of_le _a.lt sz1)) nin0)
 refine Go.callP (b := mp) (W := 0) (argsL := [(.ref b1)]) (rest := []) X2 hx hZ _u (y := mn_5) (qw hw 195 rfl) (qw hw 196 rfl) (qw hw 197 rfl) (qw hw 10 rfl) (qw hw 11 rfl) (qw hw 199 rfl) (rmL0 l Z a0 hw [] tb b1 mp h2 n0 (Nat.le_trans Z0 K_2.1) _W _T _c _y _f _h _E _F _G _j _b) e2 _T (by decide) (by rw [hml]; rfl) (lenOf pd2 rfl) (Nat.le_of_eq rfl) (hb hby d23_17) ?_
 intro T3 v3 L3 h3 e3 X3 hQ3
 obtain ⟨rfl, N3, K3, _ba, _ca, _da, _fa, _ga, _ha, _ia, _ja, _ka, _oa⟩ := hQ3
 have M3 := Fr.app M2 N3
 refine gs ?_ fun _ _k => XS.aload X3.here hx rfl (hb hby d23_20) rfl rfl _k
 show Go p e s _r _ _ _ T3 (mkF m 22 #[vR mp, vI hh, vR kk, vR vv, .val .null, vR b1] [(.ref b1)])
 have K_3 := K_2.trans K3 (allS (Or.inl (by simp)) all0)
 have _V := (A1.keep K2).keep K3
 have _H := _C.keep K3 (ninS (Ne.symm (Nat.ne_of_lt (Nat.lt_of_lt_of_le _a.lt sz1))) nin0)
 have _N := _M.keep K3 (ninS (Ne.symm (Nat.ne_of_lt (Nat.lt_of_lt_of_le _a.lt sz1))) nin0)
 have _z := _v.keep K3 (ninS (Ne.symm (Nat.ne_of_lt (Nat.lt_of_lt_of_le _a.lt sz1))) nin0)
 have _I := _D.keep K3 (ninS (Ne.symm (Nat.ne_of_lt (Nat.lt_of_lt_of_le _a.lt sz1))) nin0)
 have _q := _o.keep K3 (ninS (Ne.symm (Nat.ne_of_lt (Nat.lt_of_lt_of_le _a.lt sz1))) nin0)
 have _A := _w.keep K3 (ninS (Ne.symm (Nat.ne_of_lt (Nat.lt_of_lt_of_le _a.lt sz1))) nin0)
 exact Go.retA X3 hx hlk _aa rfl rfl (hb hby d23_22) (by decide) (by decide) ⟨b1, rfl, M3, (by rw [e3]; exact K_3), sz1, (by rw [e3]; exact _ba), (by rw [e3]; exact _ca), (by rw [e3]; exact _da), (by rw [e3]; exact _fa), (by rw [e3]; exact _ga), (by rw [e3]; exact _ha), (by rw [e3]; exact _ia), (by rw [e3]; exact _ja), (by rw [e3]; exact _ka), (by rw [e3]; exact _oa), (by rw [e3]; exact _V), (by rw [e3]; exact _H), (by rw [e3]; exact _N), (by rw [e3]; exact _z), (by rw [e3]; exact _I), (by rw [e3]; exact _q), (by rw [e3]; exact _A)⟩
theorem ef_W1 (m : MethodId) (x0 : Addr) (x1 : Int32) (x2 : Addr) (x3 : Addr) : entryFrame m #[(.ref x0), (.int x1), (.ref x2), (.ref x3), .null] 6 = mkF m 0 #[.val (.ref x0), .val (.int x1), .val (.ref x2), .val (.ref x3), .val .null, .unset] [] := by first | (simp [entryFrame, mkF, argsToLocals, Value.category]; done) | rfl
theorem rmW1 (l : Launch) (Z : State) (a0 : Array Value) (hw : HW a0 Z) (ws : List Jvm.Cond) (tb : Addr) (ha : Int32) (ka : Addr) (va : Addr) (hh : Int32) (kk : Addr) (vv : Addr) (mp : Addr) (ea : Addr) (h0 : Heap) (n0 : Nat) (Z0 : n0 ≤ h0.size) (_Da : n0 ≤ mp) (_Ea : n0 ≤ ea) (_a : Exa Z h0 mp s_f) (_h : Fld Z h0 mp s_j "loadFactor" "F" (.float (1061158912 : UInt32))) (_L : Fld Z h0 mp s_j "table" s_p (.ref tb)) (_j : Fld Z h0 mp s_j "threshold" "I" (.int 12)) (_o : Fld Z h0 mp s_j s_x "I" (.int 1)) (_S : Fld Z h0 mp s_j "size" "I" (.int 1)) (_T : Fld Z h0 mp s_f "head" s_h (.ref ea)) (_U : Fld Z h0 mp s_f "tail" s_h (.ref ea)) (_u : Fld Z h0 mp s_f "putMode" "I" (.int 0)) (_f : Fld Z h0 mp s_f "accessOrder" "Z" (.int (nar .boolean (0 : Int32)))) (_b : Exa Z h0 ea s_d) (_V : Fld Z h0 ea s_c "hash" "I" (.int ha)) (_da : Fld Z h0 ea s_c "key" s_l (.ref ka)) (_M : Fld Z h0 ea s_c "value" s_l (.ref va)) (_W : Fld Z h0 ea s_c "next" s_q .null) (_C : Fld Z h0 ea s_d "before" s_h .null) (_N : Fld Z h0 ea s_d "after" s_h .null) (_fa : mp ≠ ea) :
  Meets l Z mn_6 jdk_94_method_4_code 6 (some (.object s_c)) ({ frames := 3, cells := 1, slots := 6, locals := 45 } : Room) ws #[(.ref mp), (.int hh), (.ref kk), (.ref vv), .null] h0 (fun v h L => ∃ (b1 : Addr), v = some (.ref b1) ∧ Fr n0 L ∧ Keep h0 h [mp, ea] ∧ h0.size ≤ b1 ∧ Exa Z h mp s_f ∧ Fld Z h mp s_j "loadFactor" "F" (.float (1061158912 : UInt32)) ∧ Fld Z h mp s_j "table" s_p (.ref tb) ∧ Fld Z h mp s_j "threshold" "I" (.int 12) ∧ Fld Z h mp s_j s_x "I" (.int 1) ∧ Fld Z h mp s_j "size" "I" (.int 1) ∧ Fld Z h mp s_f "head" s_h (.ref ea) ∧ Fld Z h mp s_f "tail" s_h (.ref b1) ∧ Fld Z h mp s_f "putMode" "I" (.int 0) ∧ Fld Z h mp s_f "accessOrder" "Z" (.int (nar .boolean (0 : Int32))) ∧ Exa Z h ea s_d ∧ Fld Z h ea s_c "hash" "I" (.int ha) ∧ Fld Z h ea s_c "key" s_l (.ref ka) ∧ Fld Z h ea s_c "value" s_l (.ref va) ∧ Fld Z h ea s_c "next" s_q .null ∧ Fld Z h ea s_d "before" s_h .null ∧ Fld Z h ea s_d "after" s_h (.ref b1) ∧ Exa Z h b1 s_d ∧ Fld Z h b1 s_c "hash" "I" (.int hh) ∧ Fld Z h b1 s_c "key" s_l (.ref kk) ∧ Fld Z h b1 s_c "value" s_l (.ref vv) ∧ Fld Z h b1 s_c "next" s_q .null ∧ Fld Z h b1 s_d "before" s_h (.ref ea) ∧ Fld Z h b1 s_d "after" s_h .null) := by
 refine Meets.of (plainFor_of_name pn_2) ?_
 intro p e s m _t _Qa c s₁ X0 hx hby hml _Fa hlk hnm hZ _v e0
 replace _v : s.vm.findClass s_f = some m.cls := _v
 have N0 := Fr.nil n0
 have K0 := Keep.refl h0 [mp, ea]
 refine Go.cast (ef_W1 m mp hh kk vv) ?_
 show Go p e s _t _ _ _ s₁ (mkF m 0 #[vR mp, vI hh, vR kk, vR vv, .val .null, vU] [])
 obtain ⟨T1, h1, X1, e1, E1, A1, D1, -, st1⟩ := newO X0 hx hZ _v (qw hw 173 rfl) (qw hw 174 rfl) (qw hw 175 rfl) e0 (g := (mkF m 0 #[vR mp, vI hh, vR kk, vR vv, .val .null, vU] [])) rfl (hb hby d23_0) (by decide) (by decide)
 obtain ⟨b1, g1⟩ : ∃ z, z = h0.size := ⟨_, rfl⟩
 rw [← g1] at A1 D1 st1
 have sz1 : h0.size ≤ b1 := Nat.le_trans K0.1 (Nat.le_of_eq g1.symm)
 have gn1 : n0 ≤ b1 := Nat.le_trans Z0 sz1
 refine Go.st st1 ?_
 have _aa : Fld Z h1 b1 s_c "hash" "I" (.int 0) := D1 (Or.inr (qw hw 188 rfl)) (ty := .int) (by decide)
 have _ga : Fld Z h1 b1 s_c "key" s_l .null := D1 (Or.inr (qw hw 190 rfl)) (ty := (.object s_e)) (by decide)
 have _O : Fld Z h1 b1 s_c "value" s_l .null := D1 (Or.inl (qw hw 192 rfl)) (ty := (.object s_e)) (by decide)
 have _ba : Fld Z h1 b1 s_c "next" s_q .null := D1 (Or.inl (qw hw 194 rfl)) (ty := (.object s_c)) (by decide)
 have _D : Fld Z h1 b1 s_d "before" s_h .null := D1 (Or.inl (qw hw 401 rfl)) (ty := (.object s_d)) (by decide)
 have _P : Fld Z h1 b1 s_d "after" s_h .null := D1 (Or.inl (qw hw 403 rfl)) (ty := (.object s_d)) (by decide)
 refine gs ?_ fun _ _k => XS.dup X1.here hx rfl (hb hby d23_3) rfl rfl _k
 refine gs ?_ fun _ _k => XS.iloadN X1.here hx rfl (hb hby d23_4) rfl _k
 refine gs ?_ fun _ _k => XS.aloadN X1.here hx rfl (hb hby d23_5) rfl rfl _k
 refine gs ?_ fun _ _k => XS.aloadN X1.here hx rfl (hb hby d23_6) rfl rfl _k
 refine gs ?_ fun _ _k => XS.aload X1.here hx rfl (hb hby d23_7) rfl rfl _k
 show Go p e s _t _ _ _ T1 (mkF m 9 #[vR mp, vI hh, vR kk, vR vv, .val .null, vU] [.null, (.ref vv), (.ref kk), (.int hh), (.ref b1), (.ref b1)])
 refine Go.callC (b := b1) (W := 1) (argsL := [(.int hh), (.ref kk), (.ref vv), .null]) (rest := [(.ref b1)]) X1 hx hZ (y := mn_4) rfl _v (qw hw 176 rfl) (qw hw 177 rfl) (qw hw 175 rfl) (qw hw 179 rfl) (rmEN l Z a0 hw [] b1 hh kk vv h1 n0 gn1 A1 _aa _ga _O _ba _D _P) e1 (by decide) (by rw [hml]; rfl) (lenOf pd1 rfl) (Nat.le_of_eq rfl) (hb hby d23_9) ?_
 intro T2 v2 L2 h2 e2 X2 hQ2
 obtain ⟨rfl, N2, K2, _E, _Q, _w, _F, _q, _y⟩ := hQ2
 have M2 := Fr.app N0 N2
 refine gs ?_ fun _ _k => XS.astore X2.here hx rfl (hb hby d23_12) rfl rfl (l' := #[vR mp, vI hh, vR kk, vR vv, .val .null, vR b1]) rfl _k
 refine gs ?_ fun _ _k => XS.aloadN X2.here hx rfl (hb hby d23_14) rfl rfl _k
 refine gs ?_ fun _ _k => XS.aload X2.here hx rfl (hb hby d23_15) rfl rfl _k
 show Go p e s _t _ _ _ T2 (mkF m 17 #[vR mp, vI hh, vR kk, vR vv, .val .null, vR b1] [(.ref b1), (.ref mp)])
 have K_2 := (K0.ext E1).trans K2 (allS (Or.inr sz1) all0)
 have _ca := (_a.ext E1).keep K2
 have _d := (_h.ext E1).keep K2 (ninS (Nat.ne_of_lt (Nat.lt_of_lt_of_le _a.lt sz1)) nin0)
 have _z := (_L.ext E1).keep K2 (ninS (Nat.ne_of_lt (Nat.lt_of_lt_of_le _a.lt sz1)) nin0)
 have _g := (_j.ext E1).keep K2 (ninS (Nat.ne_of_lt (Nat.lt_of_lt_of_le _a.lt sz1)) nin0)
 have _i := (_o.ext E1).keep K2 (ninS (Nat.ne_of_lt (Nat.lt_of_lt_of_le _a.lt sz1)) nin0)
 have _G := (_S.ext E1).keep K2 (ninS (Nat.ne_of_lt (Nat.lt_of_lt_of_le _a.lt sz1)) nin0)
 have _H := (_T.ext E1).keep K2 (ninS (Nat.ne_of_lt (Nat.lt_of_lt_of_le _a.lt sz1)) nin0)
 have _I := (_U.ext E1).keep K2 (ninS (Nat.ne_of_lt (Nat.lt_of_lt_of_le _a.lt sz1)) nin0)
 have _k := (_u.ext E1).keep K2 (ninS (Nat.ne_of_lt (Nat.lt_of_lt_of_le _a.lt sz1)) nin0)
 have _c := (_f.ext E1).keep K2 (ninS (Nat.ne_of_lt (Nat.lt_of_lt_of_le _a.lt sz1)) nin0)
 have _ha := A1.keep K2
 have _ia := (_b.ext E1).keep K2
 have _J := (_V.ext E1).keep K2 (ninS (Nat.ne_of_lt (Nat.lt_of_lt_of_le _b.lt sz1)) nin0)
 have _R := (_da.ext E1).keep K2 (ninS (Nat.ne_of_lt (Nat.lt_of_lt_of_le _b.lt sz1)) nin0)
 have _A := (_M.ext E1).keep K2 (ninS (Nat.ne_of_lt (Nat.lt_of_lt_of_le _b.lt sz1)) nin0)
 have _K := (_W.ext E1).keep K2 (ninS (Nat.ne_of_lt (Nat.lt_of_lt_of_le _b.lt sz1)) nin0)
 have _r := (_C.ext E1).keep K2 (ninS (Nat.ne_of_lt (Nat.lt_of_lt_of_le _b.lt sz1)) nin0)
 have _B := (_N.ext E1).keep K2 (ninS (Nat.ne_of_lt (Nat.lt_of_lt_of_le _b.lt sz1)) nin0)
 refine Go.callP (b := mp) (W := 0) (argsL := [(.ref b1)]) (rest := []) X2 hx hZ _v (y := mn_5) (qw hw 195 rfl) (qw hw 196 rfl) (qw hw 197 rfl) (qw hw 10 rfl) (qw hw 11 rfl) (qw hw 199 rfl) (rmL1 l Z a0 hw [] tb ha ka va hh kk vv mp b1 ea h2 n0 (Nat.le_trans Z0 K_2.1) _Da gn1 _Ea _ca _d _z _g _i _G _H _I _k _c _ha _E _Q _w _F _q _y _ia _J _R _A _K _r _B (Nat.ne_of_lt (Nat.lt_of_lt_of_le _a.lt sz1)) _fa (Ne.symm (Nat.ne_of_lt (Nat.lt_of_lt_of_le _b.lt sz1)))) e2 _ca (by decide) (by rw [hml]; rfl) (lenOf pd2 rfl) (Nat.le_of_eq rfl) (hb hby d23_17) ?_
 intro T3 v3 L3 h3 e3 X3 hQ3
 obtain ⟨rfl, N3, K3, _Ga, _Ha, _Ia, _Ja, _Ka, _La, _Ma, _Na, _Oa, _Pa, _ja, _ka, _oa, _qa, _ra, _ta, _ua, _va, _wa, _ya, _za, _Aa, _Ba, _Ca⟩ := hQ3
 have M3 := Fr.app M2 N3
 refine gs ?_ fun _ _k => XS.aload X3.here hx rfl (hb hby d23_20) rfl rfl _k
 show Go p e s _t _ _ _ T3 (mkF m 22 #[vR mp, vI hh, vR kk, vR vv, .val .null, vR b1] [(.ref b1)])
 have K_3 := K_2.trans K3 (allS (Or.inl (by simp)) (allS (Or.inr sz1) (allS (Or.inl (by simp)) all0)))
 exact Go.retA X3 hx hlk _Fa rfl rfl (hb hby d23_22) (by decide) (by decide) ⟨b1, rfl, M3, (by rw [e3]; exact K_3), sz1, (by rw [e3]; exact _Ga), (by rw [e3]; exact _Ha), (by rw [e3]; exact _Ia), (by rw [e3]; exact _Ja), (by rw [e3]; exact _Ka), (by rw [e3]; exact _La), (by rw [e3]; exact _Ma), (by rw [e3]; exact _Na), (by rw [e3]; exact _Oa), (by rw [e3]; exact _Pa), (by rw [e3]; exact _va), (by rw [e3]; exact _wa), (by rw [e3]; exact _ya), (by rw [e3]; exact _za), (by rw [e3]; exact _Aa), (by rw [e3]; exact _Ba), (by rw [e3]; exact _Ca), (by rw [e3]; exact _ja), (by rw [e3]; exact _ka), (by rw [e3]; exact _oa), (by rw [e3]; exact _qa), (by rw [e3]; exact _ra), (by rw [e3]; exact _ta), (by rw [e3]; exact _ua)⟩
theorem d22_0 : decode bc22 0 = .ok (.aload_n 0, 1) := by decide +kernel
theorem d22_1 : decode bc22 1 = .ok (.getfield 105, 3) := by decide +kernel
theorem d22_4 : decode bc22 4 = .ok (.astore_n 1, 1) := by decide +kernel
theorem d22_5 : decode bc22 5 = .ok (.aload_n 1, 1) := by decide +kernel
theorem d22_6 : decode bc22 6 = .ok (.ifnonnull 7, 3) := by decide +kernel
theorem d22_9 : decode bc22 9 = .ok (.iconst 0, 1) := by decide +kernel
theorem d22_10 : decode bc22 10 = .ok (.goto 5, 3) := by decide +kernel
theorem d22_15 : decode bc22 15 = .ok (.istore_n 2, 1) := by decide +kernel
theorem d22_16 : decode bc22 16 = .ok (.aload_n 0, 1) := by decide +kernel
theorem d22_17 : decode bc22 17 = .ok (.getfield 88, 3) := by decide +kernel
theorem d22_20 : decode bc22 20 = .ok (.istore_n 3, 1) := by decide +kernel
theorem d22_21 : decode bc22 21 = .ok (.iconst 0, 1) := by decide +kernel
theorem d22_22 : decode bc22 22 = .ok (.istore 5, 2) := by decide +kernel
theorem d22_24 : decode bc22 24 = .ok (.iload_n 2, 1) := by decide +kernel
theorem d22_25 : decode bc22 25 = .ok (.ifCond .le 42, 3) := by decide +kernel
theorem d22_67 : decode bc22 67 = .ok (.iload_n 3, 1) := by decide +kernel
theorem d22_68 : decode bc22 68 = .ok (.ifCond .le 9, 3) := by decide +kernel
theorem d22_77 : decode bc22 77 = .ok (.bipush 16, 2) := by decide +kernel
theorem d22_79 : decode bc22 79 = .ok (.istore 4, 2) := by decide +kernel
theorem d22_81 : decode bc22 81 = .ok (.bipush 12, 2) := by decide +kernel
theorem d22_83 : decode bc22 83 = .ok (.istore 5, 2) := by decide +kernel
theorem d22_85 : decode bc22 85 = .ok (.iload 5, 2) := by decide +kernel
theorem d22_87 : decode bc22 87 = .ok (.ifCond .ne 38, 3) := by decide +kernel
theorem d22_125 : decode bc22 125 = .ok (.aload_n 0, 1) := by decide +kernel
theorem d22_126 : decode bc22 126 = .ok (.iload 5, 2) := by decide +kernel
theorem d22_128 : decode bc22 128 = .ok (.putfield 88, 3) := by decide +kernel
theorem d22_131 : decode bc22 131 = .ok (.iload 4, 2) := by decide +kernel
theorem d22_133 : decode bc22 133 = .ok (.anewarray 163, 3) := by decide +kernel
theorem d22_136 : decode bc22 136 = .ok (.astore 6, 2) := by decide +kernel
theorem d22_138 : decode bc22 138 = .ok (.aload_n 0, 1) := by decide +kernel
theorem d22_139 : decode bc22 139 = .ok (.aload 6, 2) := by decide +kernel
theorem d22_141 : decode bc22 141 = .ok (.putfield 105, 3) := by decide +kernel
theorem d22_144 : decode bc22 144 = .ok (.aload_n 1, 1) := by decide +kernel
theorem d22_145 : decode bc22 145 = .ok (.ifnull 208, 3) := by decide +kernel
theorem d22_353 : decode bc22 353 = .ok (.aload 6, 2) := by decide +kernel
theorem d22_355 : decode bc22 355 = .ok (.areturn, 1) := by decide +kernel
theorem ef_Z0 (m : MethodId) (x0 : Addr) : entryFrame m #[(.ref x0)] 14 = mkF m 0 #[.val (.ref x0), .unset, .unset, .unset, .unset, .unset, .unset, .unset, .unset, .unset, .unset, .unset, .unset, .unset] [] := by first | (simp [entryFrame, mkF, argsToLocals, Value.category]; done) | rfl
theorem rmZ0 (l : Launch) (Z : State) (a0 : Array Value) (hw : HW a0 Z) (ws : List Jvm.Cond) (mp : Addr) (h0 : Heap) (n0 : Nat) (Z0 : n0 ≤ h0.size) (_F : n0 ≤ mp) (_E : Exa Z h0 mp s_f) (_k : Fld Z h0 mp s_j "loadFactor" "F" (.float (1061158912 : UInt32))) (_o : Fld Z h0 mp s_j "table" s_p .null) (_b : Fld Z h0 mp s_j "threshold" "I" (.int 0)) (_t : Fld Z h0 mp s_j s_x "I" (.int 0)) (_A : Fld Z h0 mp s_j "size" "I" (.int 0)) (_B : Fld Z h0 mp s_f "head" s_h .null) (_C : Fld Z h0 mp s_f "tail" s_h .null) (_u : Fld Z h0 mp s_f "putMode" "I" (.int 0)) (_g : Fld Z h0 mp s_f "accessOrder" "Z" (.int (nar .boolean (0 : Int32)))) :
  Meets l Z mn_7 jdk_69_method_17_code 14 (some (.array (.object s_c))) ({ frames := 0, cells := 1, slots := 16, locals := 0 } : Room) ws #[(.ref mp)] h0 (fun v h L => ∃ (b4 : Addr) (k4 : ClassId), v = some (.ref b4) ∧ Fr n0 L ∧ Keep h0 h [mp] ∧ h0.size ≤ b4 ∧ Exa Z h mp s_f ∧ Fld Z h mp s_j "loadFactor" "F" (.float (1061158912 : UInt32)) ∧ Fld Z h mp s_j "table" s_p (.ref b4) ∧ Fld Z h mp s_j "threshold" "I" (.int 12) ∧ Fld Z h mp s_j s_x "I" (.int 0) ∧ Fld Z h mp s_j "size" "I" (.int 0) ∧ Fld Z h mp s_f "head" s_h .null ∧ Fld Z h mp s_f "tail" s_h .null ∧ Fld Z h mp s_f "putMode" "I" (.int 0) ∧ Fld Z h mp s_f "accessOrder" "Z" (.int (nar .boolean (0 : Int32))) ∧ Arv Z h b4 k4 (.object s_c) (16 : Int32) [.null, .null, .null, .null, .null, .null, .null, .null, .null, .null, .null, .null, .null, .null, .null, .null] .null ∧ Ovr Z k4 s_c) := by
 refine Meets.of (plainFor_of_name pn_1) ?_
 intro p e s m _a _K c s₁ X0 hx hby hml _I hlk hnm hZ _h e0
 replace _h : s.vm.findClass s_j = some m.cls := _h
 have N0 := Fr.nil n0
 have K0 := Keep.refl h0 [mp]
 refine Go.cast (ef_Z0 m mp) ?_
 show Go p e s _a _ _ _ s₁ (mkF m 0 #[vR mp, vU, vU, vU, vU, vU, vU, vU, vU, vU, vU, vU, vU, vU] [])
 refine gs ?_ fun _ _k => XS.aloadN X0.here hx rfl (hb hby d22_0) rfl rfl _k
 show Go p e s _a _ _ _ s₁ (mkF m 1 #[vR mp, vU, vU, vU, vU, vU, vU, vU, vU, vU, vU, vU, vU, vU] [(.ref mp)])
 obtain ⟨T1, X1, e1, st1⟩ := getF X0 hx hZ _h (host := "") (Or.inl (qw hw 156 rfl)) Via.refl e0 _o (g := (mkF m 1 #[vR mp, vU, vU, vU, vU, vU, vU, vU, vU, vU, vU, vU, vU, vU] [(.ref mp)])) rfl rfl (hb hby d22_1)
 refine Go.st st1 ?_
 show Go p e s _a _ _ _ T1 (mkF m 4 #[vR mp, vU, vU, vU, vU, vU, vU, vU, vU, vU, vU, vU, vU, vU] [.null])
 refine gs ?_ fun _ _k => XS.astoreN X1.here hx rfl (hb hby d22_4) rfl rfl (l' := #[vR mp, .val .null, vU, vU, vU, vU, vU, vU, vU, vU, vU, vU, vU, vU]) rfl _k
 show Go p e s _a _ _ _ T1 (mkF m 5 #[vR mp, .val .null, vU, vU, vU, vU, vU, vU, vU, vU, vU, vU, vU, vU] [])
 refine gs ?_ fun _ _k => XS.aloadN X1.here hx rfl (hb hby d22_5) rfl rfl _k
 show Go p e s _a _ _ _ T1 (mkF m 6 #[vR mp, .val .null, vU, vU, vU, vU, vU, vU, vU, vU, vU, vU, vU, vU] [.null])
 refine gs ?_ fun _ _k => XS.ifnonnullNo X1.here hx rfl (hb hby d22_6) rfl _k
 show Go p e s _a _ _ _ T1 (mkF m 9 #[vR mp, .val .null, vU, vU, vU, vU, vU, vU, vU, vU, vU, vU, vU, vU] [])
 refine gs ?_ fun _ _k => XT.iconstV X1.here hx rfl (0 : Int32) (hb hby d22_9) (by decide) _k
 show Go p e s _a _ _ _ T1 (mkF m 10 #[vR mp, .val .null, vU, vU, vU, vU, vU, vU, vU, vU, vU, vU, vU, vU] [(.int 0)])
 refine gs ?_ fun _ _k => XS.goto X1.here hx rfl (pc0 := 10) (pc' := 15) rfl (hb hby d22_10) (by decide) (by decide) _k
 show Go p e s _a _ _ _ T1 (mkF m 15 #[vR mp, .val .null, vU, vU, vU, vU, vU, vU, vU, vU, vU, vU, vU, vU] [(.int 0)])
 refine gs ?_ fun _ _k => XS.istoreN X1.here hx rfl (hb hby d22_15) rfl (l' := #[vR mp, .val .null, vI (0 : Int32), vU, vU, vU, vU, vU, vU, vU, vU, vU, vU, vU]) rfl _k
 show Go p e s _a _ _ _ T1 (mkF m 16 #[vR mp, .val .null, vI (0 : Int32), vU, vU, vU, vU, vU, vU, vU, vU, vU, vU, vU] [])
 refine gs ?_ fun _ _k => XS.aloadN X1.here hx rfl (hb hby d22_16) rfl rfl _k
 show Go p e s _a _ _ _ T1 (mkF m 17 #[vR mp, .val .null, vI (0 : Int32), vU, vU, vU, vU, vU, vU, vU, vU, vU, vU, vU] [(.ref mp)])
 obtain ⟨T2, X2, e2, st2⟩ := getF X1 hx hZ _h (host := "") (Or.inl (qw hw 163 rfl)) Via.refl e1 _b (g := (mkF m 17 #[vR mp, .val .null, vI (0 : Int32), vU, vU, vU, vU, vU, vU, vU, vU, vU, vU, vU] [(.ref mp)])) rfl rfl (hb hby d22_17)
 refine Go.st st2 ?_
 show Go p e s _a _ _ _ T2 (mkF m 20 #[vR mp, .val .null, vI (0 : Int32), vU, vU, vU, vU, vU, vU, vU, vU, vU, vU, vU] [(.int 0)])
 refine gs ?_ fun _ _k => XS.istoreN X2.here hx rfl (hb hby d22_20) rfl (l' := #[vR mp, .val .null, vI (0 : Int32), vI (0 : Int32), vU, vU, vU, vU, vU, vU, vU, vU, vU, vU]) rfl _k
 show Go p e s _a _ _ _ T2 (mkF m 21 #[vR mp, .val .null, vI (0 : Int32), vI (0 : Int32), vU, vU, vU, vU, vU, vU, vU, vU, vU, vU] [])
 refine gs ?_ fun _ _k => XT.iconstV X2.here hx rfl (0 : Int32) (hb hby d22_21) (by decide) _k
 show Go p e s _a _ _ _ T2 (mkF m 22 #[vR mp, .val .null, vI (0 : Int32), vI (0 : Int32), vU, vU, vU, vU, vU, vU, vU, vU, vU, vU] [(.int 0)])
 refine gs ?_ fun _ _k => XS.istore X2.here hx rfl (hb hby d22_22) rfl (l' := #[vR mp, .val .null, vI (0 : Int32), vI (0 : Int32), vU, vI (0 : Int32), vU, vU, vU, vU, vU, vU, vU, vU]) rfl _k
 show Go p e s _a _ _ _ T2 (mkF m 24 #[vR mp, .val .null, vI (0 : Int32), vI (0 : Int32), vU, vI (0 : Int32), vU, vU, vU, vU, vU, vU, vU, vU] [])
 refine gs ?_ fun _ _k => XS.iloadN X2.here hx rfl (hb hby d22_24) rfl _k
 show Go p e s _a _ _ _ T2 (mkF m 25 #[vR mp, .val .null, vI (0 : Int32), vI (0 : Int32), vU, vI (0 : Int32), vU, vU, vU, vU, vU, vU, vU, vU] [(.int 0)])
 refine gs ?_ fun _ _k => XS.ifYes X2.here hx rfl (pc0 := 25) (pc' := 67) rfl (hb hby d22_25) rfl ((if0 _ _).trans (flt (by decide : ¬ ((0 : Int32) < (0 : Int32)))).2.2.2) (by decide) (by decide) _k
 show Go p e s _a _ _ _ T2 (mkF m 67 #[vR mp, .val .null, vI (0 : Int32), vI (0 : Int32), vU, vI (0 : Int32), vU, vU, vU, vU, vU, vU, vU, vU] [])
 refine gs ?_ fun _ _k => XS.iloadN X2.here hx rfl (hb hby d22_67) rfl _k
 show Go p e s _a _ _ _ T2 (mkF m 68 #[vR mp, .val .null, vI (0 : Int32), vI (0 : Int32), vU, vI (0 : Int32), vU, vU, vU, vU, vU, vU, vU, vU] [(.int 0)])
 refine gs ?_ fun _ _k => XS.ifYes X2.here hx rfl (pc0 := 68) (pc' := 77) rfl (hb hby d22_68) rfl ((if0 _ _).trans (flt (by decide : ¬ ((0 : Int32) < (0 : Int32)))).2.2.2) (by decide) (by decide) _k
 show Go p e s _a _ _ _ T2 (mkF m 77 #[vR mp, .val .null, vI (0 : Int32), vI (0 : Int32), vU, vI (0 : Int32), vU, vU, vU, vU, vU, vU, vU, vU] [])
 refine gs ?_ fun _ _k => XT.bipushV X2.here hx rfl (16 : Int32) (hb hby d22_77) (by decide) _k
 show Go p e s _a _ _ _ T2 (mkF m 79 #[vR mp, .val .null, vI (0 : Int32), vI (0 : Int32), vU, vI (0 : Int32), vU, vU, vU, vU, vU, vU, vU, vU] [(.int 16)])
 refine gs ?_ fun _ _k => XS.istore X2.here hx rfl (hb hby d22_79) rfl (l' := #[vR mp, .val .null, vI (0 : Int32), vI (0 : Int32), vI (16 : Int32), vI (0 : Int32), vU, vU, vU, vU, vU, vU, vU, vU]) rfl _k
 show Go p e s _a _ _ _ T2 (mkF m 81 #[vR mp, .val .null, vI (0 : Int32), vI (0 : Int32), vI (16 : Int32), vI (0 : Int32), vU, vU, vU, vU, vU, vU, vU, vU] [])
 refine gs ?_ fun _ _k => XT.bipushV X2.here hx rfl (12 : Int32) (hb hby d22_81) (by decide) _k
 show Go p e s _a _ _ _ T2 (mkF m 83 #[vR mp, .val .null, vI (0 : Int32), vI (0 : Int32), vI (16 : Int32), vI (0 : Int32), vU, vU, vU, vU, vU, vU, vU, vU] [(.int 12)])
 refine gs ?_ fun _ _k => XS.istore X2.here hx rfl (hb hby d22_83) rfl (l' := #[vR mp, .val .null, vI (0 : Int32), vI (0 : Int32), vI (16 : Int32), vI (12 : Int32), vU, vU, vU, vU, vU, vU, vU, vU]) rfl _k
 show Go p e s _a _ _ _ T2 (mkF m 85 #[vR mp, .val .null, vI (0 : Int32), vI (0 : Int32), vI (16 : Int32), vI (12 : Int32), vU, vU, vU, vU, vU, vU, vU, vU] [])
 refine gs ?_ fun _ _k => XS.iload X2.here hx rfl (hb hby d22_85) rfl _k
 show Go p e s _a _ _ _ T2 (mkF m 87 #[vR mp, .val .null, vI (0 : Int32), vI (0 : Int32), vI (16 : Int32), vI (12 : Int32), vU, vU, vU, vU, vU, vU, vU, vU] [(.int 12)])
 refine gs ?_ fun _ _k => XS.ifYes X2.here hx rfl (pc0 := 87) (pc' := 125) rfl (hb hby d22_87) rfl ((if0 _ _).trans (feq (by decide : ¬ ((12 : Int32) = (0 : Int32)))).2) (by decide) (by decide) _k
 show Go p e s _a _ _ _ T2 (mkF m 125 #[vR mp, .val .null, vI (0 : Int32), vI (0 : Int32), vI (16 : Int32), vI (12 : Int32), vU, vU, vU, vU, vU, vU, vU, vU] [])
 refine gs ?_ fun _ _k => XS.aloadN X2.here hx rfl (hb hby d22_125) rfl rfl _k
 show Go p e s _a _ _ _ T2 (mkF m 126 #[vR mp, .val .null, vI (0 : Int32), vI (0 : Int32), vI (16 : Int32), vI (12 : Int32), vU, vU, vU, vU, vU, vU, vU, vU] [(.ref mp)])
 refine gs ?_ fun _ _k => XS.iload X2.here hx rfl (hb hby d22_126) rfl _k
 show Go p e s _a _ _ _ T2 (mkF m 128 #[vR mp, .val .null, vI (0 : Int32), vI (0 : Int32), vI (16 : Int32), vI (12 : Int32), vU, vU, vU, vU, vU, vU, vU, vU] [(.int 12), (.ref mp)])
 obtain ⟨T3, h3, X3, e3, W3, st3⟩ := putF X2 hx hZ _h (host := "") (Or.inl (qw hw 163 rfl)) Via.refl e2 _b _E (Or.inl (qw hw 164 rfl)) (qw hw 10 rfl) (ty := .int) (by decide) rfl rfl (g := (mkF m 128 #[vR mp, .val .null, vI (0 : Int32), vI (0 : Int32), vI (16 : Int32), vI (12 : Int32), vU, vU, vU, vU, vU, vU, vU, vU] [(.int 12), (.ref mp)])) rfl rfl (hb hby d22_128)
 refine Go.st st3 ?_
 have _i : Fld Z h3 mp s_j "threshold" "I" (.int 12) := _b.same W3
 have N3 := Fr.snoc X3 N0 _F
 show Go p e s _a _ _ _ T3 (mkF m 131 #[vR mp, .val .null, vI (0 : Int32), vI (0 : Int32), vI (16 : Int32), vI (12 : Int32), vU, vU, vU, vU, vU, vU, vU, vU] [])
 refine gs ?_ fun _ _k => XS.iload X3.here hx rfl (hb hby d22_131) rfl _k
 show Go p e s _a _ _ _ T3 (mkF m 133 #[vR mp, .val .null, vI (0 : Int32), vI (0 : Int32), vI (16 : Int32), vI (12 : Int32), vU, vU, vU, vU, vU, vU, vU, vU] [(.int 16)])
 obtain ⟨T4, h4, k4, X4, e4, E4, A4, O4, st4⟩ := newR X3 hx hZ _h (qw hw 165 rfl) (qw hw 166 rfl) e3 (g := (mkF m 133 #[vR mp, .val .null, vI (0 : Int32), vI (0 : Int32), vI (16 : Int32), vI (12 : Int32), vU, vU, vU, vU, vU, vU, vU, vU] [(.int 16)])) rfl (hb hby d22_133) rfl (by decide) (cap := 16) (by decide) (by decide) (by decide) (by decide)
 obtain ⟨b4, g4⟩ : ∃ z, z = h3.size := ⟨_, rfl⟩
 rw [← g4] at A4 st4
 have K_3 := K0.wr W3 (Or.inl (by simp))
 have sz4 : h0.size ≤ b4 := Nat.le_trans K_3.1 (Nat.le_of_eq g4.symm)
 refine Go.st st4 ?_
 have _J : Arv Z h4 b4 k4 (.object s_c) (16 : Int32) [.null, .null, .null, .null, .null, .null, .null, .null, .null, .null, .null, .null, .null, .null, .null, .null] .null := (Arv.new A4 (by decide)).pad (pad_rep [] .null 16)
 show Go p e s _a _ _ _ T4 (mkF m 136 #[vR mp, .val .null, vI (0 : Int32), vI (0 : Int32), vI (16 : Int32), vI (12 : Int32), vU, vU, vU, vU, vU, vU, vU, vU] [(.ref b4)])
 refine gs ?_ fun _ _k => XS.astore X4.here hx rfl (hb hby d22_136) rfl rfl (l' := #[vR mp, .val .null, vI (0 : Int32), vI (0 : Int32), vI (16 : Int32), vI (12 : Int32), vR b4, vU, vU, vU, vU, vU, vU, vU]) rfl _k
 show Go p e s _a _ _ _ T4 (mkF m 138 #[vR mp, .val .null, vI (0 : Int32), vI (0 : Int32), vI (16 : Int32), vI (12 : Int32), vR b4, vU, vU, vU, vU, vU, vU, vU] [])
 refine gs ?_ fun _ _k => XS.aloadN X4.here hx rfl (hb hby d22_138) rfl rfl _k
 show Go p e s _a _ _ _ T4 (mkF m 139 #[vR mp, .val .null, vI (0 : Int32), vI (0 : Int32), vI (16 : Int32), vI (12 : Int32), vR b4, vU, vU, vU, vU, vU, vU, vU] [(.ref mp)])
 refine gs ?_ fun _ _k => XS.aload X4.here hx rfl (hb hby d22_139) rfl rfl _k
 show Go p e s _a _ _ _ T4 (mkF m 141 #[vR mp, .val .null, vI (0 : Int32), vI (0 : Int32), vI (16 : Int32), vI (12 : Int32), vR b4, vU, vU, vU, vU, vU, vU, vU] [(.ref b4), (.ref mp)])
 have _c := (_o.other W3 (Or.inr (slot_ne (Or.inl (qw hw 157 rfl)) (Or.inl (qw hw 164 rfl)) (by decide) (t := (.array (.object s_c))) (t' := .int) (by decide) (by decide)))).ext E4
 have _D := (_E.wr W3).ext E4
 obtain ⟨T5, h5, X5, e5, W5, st5⟩ := putF X4 hx hZ _h (host := "") (Or.inl (qw hw 156 rfl)) Via.refl e4 _c _D (Or.inl (qw hw 157 rfl)) (qw hw 10 rfl) (ty := (.array (.object s_c))) (by decide) rfl rfl (g := (mkF m 141 #[vR mp, .val .null, vI (0 : Int32), vI (0 : Int32), vI (16 : Int32), vI (12 : Int32), vR b4, vU, vU, vU, vU, vU, vU, vU] [(.ref b4), (.ref mp)])) rfl rfl (hb hby d22_141)
 refine Go.st st5 ?_
 have _v : Fld Z h5 mp s_j "table" s_p (.ref b4) := _c.same W5
 have N5 := Fr.snoc X5 N3 _F
 show Go p e s _a _ _ _ T5 (mkF m 144 #[vR mp, .val .null, vI (0 : Int32), vI (0 : Int32), vI (16 : Int32), vI (12 : Int32), vR b4, vU, vU, vU, vU, vU, vU, vU] [])
 refine gs ?_ fun _ _k => XS.aloadN X5.here hx rfl (hb hby d22_144) rfl rfl _k
 show Go p e s _a _ _ _ T5 (mkF m 145 #[vR mp, .val .null, vI (0 : Int32), vI (0 : Int32), vI (16 : Int32), vI (12 : Int32), vR b4, vU, vU, vU, vU, vU, vU, vU] [.null])
 refine gs ?_ fun _ _k => XS.ifnullYes X5.here hx rfl (pc0 := 145) (pc' := 353) rfl (hb hby d22_145) rfl (by decide) (by decide) _k
 show Go p e s _a _ _ _ T5 (mkF m 353 #[vR mp, .val .null, vI (0 : Int32), vI (0 : Int32), vI (16 : Int32), vI (12 : Int32), vR b4, vU, vU, vU, vU, vU, vU, vU] [])
 refine gs ?_ fun _ _k => XS.aload X5.here hx rfl (hb hby d22_353) rfl rfl _k
 show Go p e s _a _ _ _ T5 (mkF m 355 #[vR mp, .val .null, vI (0 : Int32), vI (0 : Int32), vI (16 : Int32), vI (12 : Int32), vR b4, vU, vU, vU, vU, vU, vU, vU] [(.ref b4)])
 have _G := _J.other W5 (Ne.symm (Nat.ne_of_lt (Nat.lt_of_lt_of_le _E.lt sz4)))
 have K_5 := (K_3.ext E4).wr W5 (Or.inl (by simp))
 have _H := _D.wr W5
 have _f := ((_k.other W3 (Or.inr (slot_ne (Or.inr (qw hw 30 rfl)) (Or.inl (qw hw 164 rfl)) (by decide) (t := .float) (t' := .int) (by decide) (by decide)))).ext E4).other W5 (Or.inr (slot_ne (Or.inr (qw hw 30 rfl)) (Or.inl (qw hw 157 rfl)) (by decide) (t := .float) (t' := (.array (.object s_c))) (by decide) (by decide)))
 have _j := (_i.ext E4).other W5 (Or.inr (slot_ne (Or.inl (qw hw 164 rfl)) (Or.inl (qw hw 157 rfl)) (by decide) (t := .int) (t' := (.array (.object s_c))) (by decide) (by decide)))
 have _q := ((_t.other W3 (Or.inr (slot_ne (Or.inl (qw hw 205 rfl)) (Or.inl (qw hw 164 rfl)) (by decide) (t := .int) (t' := .int) (by decide) (by decide)))).ext E4).other W5 (Or.inr (slot_ne (Or.inl (qw hw 205 rfl)) (Or.inl (qw hw 157 rfl)) (by decide) (t := .int) (t' := (.array (.object s_c))) (by decide) (by decide)))
 have _w := ((_A.other W3 (Or.inr (slot_ne (Or.inl (qw hw 207 rfl)) (Or.inl (qw hw 164 rfl)) (by decide) (t := .int) (t' := .int) (by decide) (by decide)))).ext E4).other W5 (Or.inr (slot_ne (Or.inl (qw hw 207 rfl)) (Or.inl (qw hw 157 rfl)) (by decide) (t := .int) (t' := (.array (.object s_c))) (by decide) (by decide)))
 have _y := ((_B.other W3 (Or.inr (slot_ne (Or.inl (qw hw 203 rfl)) (Or.inl (qw hw 164 rfl)) (by decide) (t := (.object s_d)) (t' := .int) (by decide) (by decide)))).ext E4).other W5 (Or.inr (slot_ne (Or.inl (qw hw 203 rfl)) (Or.inl (qw hw 157 rfl)) (by decide) (t := (.object s_d)) (t' := (.array (.object s_c))) (by decide) (by decide)))
 have _z := ((_C.other W3 (Or.inr (slot_ne (Or.inl (qw hw 201 rfl)) (Or.inl (qw hw 164 rfl)) (by decide) (t := (.object s_d)) (t' := .int) (by decide) (by decide)))).ext E4).other W5 (Or.inr (slot_ne (Or.inl (qw hw 201 rfl)) (Or.inl (qw hw 157 rfl)) (by decide) (t := (.object s_d)) (t' := (.array (.object s_c))) (by decide) (by decide)))
 have _r := ((_u.other W3 (Or.inr (slot_ne (Or.inl (qw hw 32 rfl)) (Or.inl (qw hw 164 rfl)) (by decide) (t := .int) (t' := .int) (by decide) (by decide)))).ext E4).other W5 (Or.inr (slot_ne (Or.inl (qw hw 32 rfl)) (Or.inl (qw hw 157 rfl)) (by decide) (t := .int) (t' := (.array (.object s_c))) (by decide) (by decide)))
 have _d := ((_g.other W3 (Or.inr (slot_ne (Or.inr (qw hw 34 rfl)) (Or.inl (qw hw 164 rfl)) (by decide) (t := .boolean) (t' := .int) (by decide) (by decide)))).ext E4).other W5 (Or.inr (slot_ne (Or.inr (qw hw 34 rfl)) (Or.inl (qw hw 157 rfl)) (by decide) (t := .boolean) (t' := (.array (.object s_c))) (by decide) (by decide)))
 exact Go.retA X5 hx hlk _I rfl rfl (hb hby d22_355) (by decide) (by decide) ⟨b4, k4, rfl, N5, (by rw [e5]; exact K_5), sz4, (by rw [e5]; exact _H), (by rw [e5]; exact _f), (by rw [e5]; exact _v), (by rw [e5]; exact _j), (by rw [e5]; exact _q), (by rw [e5]; exact _w), (by rw [e5]; exact _y), (by rw [e5]; exact _z), (by rw [e5]; exact _r), (by rw [e5]; exact _d), (by rw [e5]; exact _G), O4⟩
theorem d28_0 : decode bc28 0 = .ok (.iconst 0, 1) := by decide +kernel
theorem d28_1 : decode bc28 1 = .ok (.ireturn, 1) := by decide +kernel
theorem ef_RE (m : MethodId) (x0 : Addr) (x1 : Addr) : entryFrame m #[(.ref x0), (.ref x1)] 2 = mkF m 0 #[.val (.ref x0), .val (.ref x1)] [] := by first | (simp [entryFrame, mkF, argsToLocals, Value.category]; done) | rfl
theorem rmRE (l : Launch) (Z : State) (a0 : Array Value) (hw : HW a0 Z) (ws : List Jvm.Cond) (mp : Addr) (xe : Addr) (h0 : Heap) (n0 : Nat) (Z0 : n0 ≤ h0.size) :
  Meets l Z mn_8 jdk_94_method_23_code 2 (some .boolean) ({ frames := 0, cells := 0, slots := 0, locals := 0 } : Room) ws #[(.ref mp), (.ref xe)] h0 (fun v h L => v = some (.int (nar .boolean (0 : Int32))) ∧ Fr n0 L ∧ Ext h0 h) := by
 refine Meets.of (plainFor_of_name pn_2) ?_
 intro p e s m _a _d c s₁ X0 hx hby hml _c hlk hnm hZ _b e0
 replace _b : s.vm.findClass s_f = some m.cls := _b
 have N0 := Fr.nil n0
 have Q0 := own_extR h0
 refine Go.cast (ef_RE m mp xe) ?_
 show Go p e s _a _ _ _ s₁ (mkF m 0 #[vR mp, vR xe] [])
 refine gs ?_ fun _ _k => XT.iconstV X0.here hx rfl (0 : Int32) (hb hby d28_0) (by decide) _k
 show Go p e s _a _ _ _ s₁ (mkF m 1 #[vR mp, vR xe] [(.int 0)])
 exact Go.retN X0 hx hlk _c (by simp) (hb hby d28_1) (by decide) (by decide) ⟨rfl, N0, (by rw [e0]; exact Q0)⟩
theorem pd3 : parseMethodDescriptor "(Ljava/util/Map$Entry;)Z" = some ⟨[(.object "java/util/Map$Entry")], some .boolean⟩ := by decide +kernel
theorem d27_0 : decode bc27 0 = .ok (.iload_n 1, 1) := by decide +kernel
theorem d27_1 : decode bc27 1 = .ok (.ifCond .eq 38, 3) := by decide +kernel
theorem d27_4 : decode bc27 4 = .ok (.aload_n 0, 1) := by decide +kernel
theorem d27_5 : decode bc27 5 = .ok (.getfield 7, 3) := by decide +kernel
theorem d27_8 : decode bc27 8 = .ok (.dup, 1) := by decide +kernel
theorem d27_9 : decode bc27 9 = .ok (.astore_n 2, 1) := by decide +kernel
theorem d27_10 : decode bc27 10 = .ok (.ifnull 29, 3) := by decide +kernel
theorem d27_13 : decode bc27 13 = .ok (.aload_n 0, 1) := by decide +kernel
theorem d27_14 : decode bc27 14 = .ok (.aload_n 2, 1) := by decide +kernel
theorem d27_15 : decode bc27 15 = .ok (.invokevirtual 53, 3) := by decide +kernel
theorem d27_18 : decode bc27 18 = .ok (.ifCond .eq 21, 3) := by decide +kernel
theorem d27_39 : decode bc27 39 = .ok (.return_, 1) := by decide +kernel
theorem ef_AI0 (m : MethodId) (x0 : Addr) (x1 : Int32) : entryFrame m #[(.ref x0), (.int x1)] 4 = mkF m 0 #[.val (.ref x0), .val (.int x1), .unset, .unset] [] := by first | (simp [entryFrame, mkF, argsToLocals, Value.category]; done) | rfl
theorem rmAI0 (l : Launch) (Z : State) (a0 : Array Value) (hw : HW a0 Z) (ws : List Jvm.Cond) (tb : Addr) (ea : Addr) (mp : Addr) (h0 : Heap) (n0 : Nat) (Z0 : n0 ≤ h0.size) (_q : Exa Z h0 mp s_f) (_f : Fld Z h0 mp s_j "loadFactor" "F" (.float (1061158912 : UInt32))) (_j : Fld Z h0 mp s_j "table" s_p (.ref tb)) (_g : Fld Z h0 mp s_j "threshold" "I" (.int 12)) (_h : Fld Z h0 mp s_j s_x "I" (.int 1)) (_k : Fld Z h0 mp s_j "size" "I" (.int 1)) (_c : Fld Z h0 mp s_f "head" s_h (.ref ea)) (_o : Fld Z h0 mp s_f "tail" s_h (.ref ea)) (_i : Fld Z h0 mp s_f "putMode" "I" (.int 0)) (_d : Fld Z h0 mp s_f "accessOrder" "Z" (.int (nar .boolean (0 : Int32)))) :
  Meets l Z mn_9 jdk_94_method_9_code 4 none ({ frames := 1, cells := 0, slots := 0, locals := 13 } : Room) ws #[(.ref mp), (.int 1)] h0 (fun v h L => v = none ∧ Fr n0 L ∧ Ext h0 h) := by
 refine Meets.of (plainFor_of_name pn_2) ?_
 intro p e s m _a _t c s₁ X0 hx hby hml _r hlk hnm hZ _b e0
 replace _b : s.vm.findClass s_f = some m.cls := _b
 have N0 := Fr.nil n0
 have Q0 := own_extR h0
 refine Go.cast (ef_AI0 m mp (1 : Int32)) ?_
 show Go p e s _a _ _ _ s₁ (mkF m 0 #[vR mp, vI (1 : Int32), vU, vU] [])
 refine gs ?_ fun _ _k => XS.iloadN X0.here hx rfl (hb hby d27_0) rfl _k
 refine gs ?_ fun _ _k => XS.ifNo X0.here hx rfl (hb hby d27_1) rfl ((if0 _ _).trans (feq (by decide : ¬ ((1 : Int32) = (0 : Int32)))).1) _k
 refine gs ?_ fun _ _k => XS.aloadN X0.here hx rfl (hb hby d27_4) rfl rfl _k
 obtain ⟨T1, X1, e1, st1⟩ := getF X0 hx hZ _b (host := "") (Or.inl (qw hw 202 rfl)) Via.refl e0 _c (g := (mkF m 5 #[vR mp, vI (1 : Int32), vU, vU] [(.ref mp)])) rfl rfl (hb hby d27_5)
 refine Go.st st1 ?_
 refine gs ?_ fun _ _k => XS.dup X1.here hx rfl (hb hby d27_8) rfl rfl _k
 refine gs ?_ fun _ _k => XS.astoreN X1.here hx rfl (hb hby d27_9) rfl rfl (l' := #[vR mp, vI (1 : Int32), vR ea, vU]) rfl _k
 refine gs ?_ fun _ _k => XS.ifnullNo X1.here hx rfl (hb hby d27_10) rfl _k
 refine gs ?_ fun _ _k => XS.aloadN X1.here hx rfl (hb hby d27_13) rfl rfl _k
 refine gs ?_ fun _ _k => XS.aloadN X1.here hx rfl (hb hby d27_14) rfl rfl _k
 show Go p e s _a _ _ _ T1 (mkF m 15 #[vR mp, vI (1 : Int32), vR ea, vU] [(.ref ea), (.ref mp)])
 refine Go.callV (b := mp) (W := 0) (argsL := [(.ref ea)]) (rest := []) X1 hx hZ _b (y := mn_8) (z := mn_8) (qw hw 214 rfl) (qw hw 215 rfl) (notFace_of_selects (args := #[]) (mvT hZ (qw hw 217 rfl))) (qw hw 217 rfl) (qw hw 216 rfl) (qw hw 11 rfl) (qw hw 218 rfl) (rmRE l Z a0 hw [] mp ea h0 n0 (Nat.le_trans Z0 Q0.1)) e1 _q (by decide) (by rw [hml]; rfl) (lenOf pd3 rfl) (Nat.le_of_eq rfl) (hb hby d27_15) ?_
 intro T2 v2 L2 h2 e2 X2 hQ2
 obtain ⟨rfl, N2, K2⟩ := hQ2
 have M2 := Fr.app N0 N2
 refine gs ?_ fun _ _k => XS.ifYes X2.here hx rfl (pc0 := 18) (pc' := 39) rfl (hb hby d27_18) rfl ((if0 _ _).trans (teq (by decide)).1) (by decide) (by decide) _k
 show Go p e s _a _ _ _ T2 (mkF m 39 #[vR mp, vI (1 : Int32), vR ea, vU] [])
 have Q_2 := own_extE Q0 K2
 exact Go.retV X2 hx hlk _r (hb hby d27_39) (by decide) (by decide) ⟨rfl, M2, (by rw [e2]; exact Q_2)⟩
theorem ef_AI1 (m : MethodId) (x0 : Addr) (x1 : Int32) : entryFrame m #[(.ref x0), (.int x1)] 4 = mkF m 0 #[.val (.ref x0), .val (.int x1), .unset, .unset] [] := by first | (simp [entryFrame, mkF, argsToLocals, Value.category]; done) | rfl
theorem rmAI1 (l : Launch) (Z : State) (a0 : Array Value) (hw : HW a0 Z) (ws : List Jvm.Cond) (tb : Addr) (ea : Addr) (eb : Addr) (mp : Addr) (h0 : Heap) (n0 : Nat) (Z0 : n0 ≤ h0.size) (_q : Exa Z h0 mp s_f) (_f : Fld Z h0 mp s_j "loadFactor" "F" (.float (1061158912 : UInt32))) (_j : Fld Z h0 mp s_j "table" s_p (.ref tb)) (_g : Fld Z h0 mp s_j "threshold" "I" (.int 12)) (_h : Fld Z h0 mp s_j s_x "I" (.int 2)) (_k : Fld Z h0 mp s_j "size" "I" (.int 2)) (_c : Fld Z h0 mp s_f "head" s_h (.ref ea)) (_o : Fld Z h0 mp s_f "tail" s_h (.ref eb)) (_i : Fld Z h0 mp s_f "putMode" "I" (.int 0)) (_d : Fld Z h0 mp s_f "accessOrder" "Z" (.int (nar .boolean (0 : Int32)))) :
  Meets l Z mn_9 jdk_94_method_9_code 4 none ({ frames := 1, cells := 0, slots := 0, locals := 13 } : Room) ws #[(.ref mp), (.int 1)] h0 (fun v h L => v = none ∧ Fr n0 L ∧ Ext h0 h) := by
 refine Meets.of (plainFor_of_name pn_2) ?_
 intro p e s m _a _t c s₁ X0 hx hby hml _r hlk hnm hZ _b e0
 replace _b : s.vm.findClass s_f = some m.cls := _b
 have N0 := Fr.nil n0
 have Q0 := own_extR h0
 refine Go.cast (ef_AI1 m mp (1 : Int32)) ?_
 show Go p e s _a _ _ _ s₁ (mkF m 0 #[vR mp, vI (1 : Int32), vU, vU] [])
 refine gs ?_ fun _ _k => XS.iloadN X0.here hx rfl (hb hby d27_0) rfl _k
 refine gs ?_ fun _ _k => XS.ifNo X0.here hx rfl (hb hby d27_1) rfl ((if0 _ _).trans (feq (by decide : ¬ ((1 : Int32) = (0 : Int32)))).1) _k
 refine gs ?_ fun _ _k => XS.aloadN X0.here hx rfl (hb hby d27_4) rfl rfl _k
 obtain ⟨T1, X1, e1, st1⟩ := getF X0 hx hZ _b (host := "") (Or.inl (qw hw 202 rfl)) Via.refl e0 _c (g := (mkF m 5 #[vR mp, vI (1 : Int32), vU, vU] [(.ref mp)])) rfl rfl (hb hby d27_5)
 refine Go.st st1 ?_
 refine gs ?_ fun _ _k => XS.dup X1.here hx rfl (hb hby d27_8) rfl rfl _k
 refine gs ?_ fun _ _k => XS.astoreN X1.here hx rfl (hb hby d27_9) rfl rfl (l' := #[vR mp, vI (1 : Int32), vR ea, vU]) rfl _k
 refine gs ?_ fun _ _k => XS.ifnullNo X1.here hx rfl (hb hby d27_10) rfl _k
 refine gs ?_ fun _ _k => XS.aloadN X1.here hx rfl (hb hby d27_13) rfl rfl _k
 refine gs ?_ fun _ _k => XS.aloadN X1.here hx rfl (hb hby d27_14) rfl rfl _k
 show Go p e s _a _ _ _ T1 (mkF m 15 #[vR mp, vI (1 : Int32), vR ea, vU] [(.ref ea), (.ref mp)])
 refine Go.callV (b := mp) (W := 0) (argsL := [(.ref ea)]) (rest := []) X1 hx hZ _b (y := mn_8) (z := mn_8) (qw hw 214 rfl) (qw hw 215 rfl) (notFace_of_selects (args := #[]) (mvT hZ (qw hw 217 rfl))) (qw hw 217 rfl) (qw hw 216 rfl) (qw hw 11 rfl) (qw hw 218 rfl) (rmRE l Z a0 hw [] mp ea h0 n0 (Nat.le_trans Z0 Q0.1)) e1 _q (by decide) (by rw [hml]; rfl) (lenOf pd3 rfl) (Nat.le_of_eq rfl) (hb hby d27_15) ?_
 intro T2 v2 L2 h2 e2 X2 hQ2
 obtain ⟨rfl, N2, K2⟩ := hQ2
 have M2 := Fr.app N0 N2
 refine gs ?_ fun _ _k => XS.ifYes X2.here hx rfl (pc0 := 18) (pc' := 39) rfl (hb hby d27_18) rfl ((if0 _ _).trans (teq (by decide)).1) (by decide) (by decide) _k
 show Go p e s _a _ _ _ T2 (mkF m 39 #[vR mp, vI (1 : Int32), vR ea, vU] [])
 have Q_2 := own_extE Q0 K2
 exact Go.retV X2 hx hlk _r (hb hby d27_39) (by decide) (by decide) ⟨rfl, M2, (by rw [e2]; exact Q_2)⟩
theorem pd4 : parseMethodDescriptor "()[Ljava/util/HashMap$Node;" = some ⟨[], some (.array (.object s_c))⟩ := by decide +kernel
theorem pd5 : parseMethodDescriptor "(ILjava/lang/Object;Ljava/lang/Object;Ljava/util/HashMap$Node;)Ljava/util/HashMap$Node;" = some ⟨[.int, (.object s_e), (.object s_e), (.object s_c)], some (.object s_c)⟩ := by decide +kernel
theorem pd6 : parseMethodDescriptor "(Z)V" = some ⟨[.boolean], none⟩ := by decide +kernel
theorem d21_0 : decode bc21 0 = .ok (.aload_n 0, 1) := by decide +kernel
theorem d21_1 : decode bc21 1 = .ok (.getfield 105, 3) := by decide +kernel
theorem d21_4 : decode bc21 4 = .ok (.dup, 1) := by decide +kernel
theorem d21_5 : decode bc21 5 = .ok (.astore 6, 2) := by decide +kernel
theorem d21_7 : decode bc21 7 = .ok (.ifnull 12, 3) := by decide +kernel
theorem d21_19 : decode bc21 19 = .ok (.aload_n 0, 1) := by decide +kernel
theorem d21_20 : decode bc21 20 = .ok (.invokevirtual 117, 3) := by decide +kernel
theorem d21_23 : decode bc21 23 = .ok (.dup, 1) := by decide +kernel
theorem d21_24 : decode bc21 24 = .ok (.astore 6, 2) := by decide +kernel
theorem d21_26 : decode bc21 26 = .ok (.arraylength, 1) := by decide +kernel
theorem d21_27 : decode bc21 27 = .ok (.istore 8, 2) := by decide +kernel
theorem d21_29 : decode bc21 29 = .ok (.aload 6, 2) := by decide +kernel
theorem d21_31 : decode bc21 31 = .ok (.iload 8, 2) := by decide +kernel
theorem d21_33 : decode bc21 33 = .ok (.iconst 1, 1) := by decide +kernel
theorem d21_34 : decode bc21 34 = .ok (.isub, 1) := by decide +kernel
theorem d21_35 : decode bc21 35 = .ok (.iload_n 1, 1) := by decide +kernel
theorem d21_36 : decode bc21 36 = .ok (.iand, 1) := by decide +kernel
theorem d21_37 : decode bc21 37 = .ok (.dup, 1) := by decide +kernel
theorem d21_38 : decode bc21 38 = .ok (.istore 9, 2) := by decide +kernel
theorem d21_40 : decode bc21 40 = .ok (.aaload, 1) := by decide +kernel
theorem d21_41 : decode bc21 41 = .ok (.dup, 1) := by decide +kernel
theorem d21_42 : decode bc21 42 = .ok (.astore 7, 2) := by decide +kernel
theorem d21_44 : decode bc21 44 = .ok (.ifnonnull 19, 3) := by decide +kernel
theorem d21_47 : decode bc21 47 = .ok (.aload 6, 2) := by decide +kernel
theorem d21_49 : decode bc21 49 = .ok (.iload 9, 2) := by decide +kernel
theorem d21_51 : decode bc21 51 = .ok (.aload_n 0, 1) := by decide +kernel
theorem d21_52 : decode bc21 52 = .ok (.iload_n 1, 1) := by decide +kernel
theorem d21_53 : decode bc21 53 = .ok (.aload_n 2, 1) := by decide +kernel
theorem d21_54 : decode bc21 54 = .ok (.aload_n 3, 1) := by decide +kernel
theorem d21_55 : decode bc21 55 = .ok (.aconst_null, 1) := by decide +kernel
theorem d21_56 : decode bc21 56 = .ok (.invokevirtual 186, 3) := by decide +kernel
theorem d21_59 : decode bc21 59 = .ok (.aastore, 1) := by decide +kernel
theorem d21_60 : decode bc21 60 = .ok (.goto 199, 3) := by decide +kernel
theorem d21_259 : decode bc21 259 = .ok (.aload_n 0, 1) := by decide +kernel
theorem d21_260 : decode bc21 260 = .ok (.dup, 1) := by decide +kernel
theorem d21_261 : decode bc21 261 = .ok (.getfield 202, 3) := by decide +kernel
theorem d21_264 : decode bc21 264 = .ok (.iconst 1, 1) := by decide +kernel
theorem d21_265 : decode bc21 265 = .ok (.iadd, 1) := by decide +kernel
theorem d21_266 : decode bc21 266 = .ok (.putfield 202, 3) := by decide +kernel
theorem d21_269 : decode bc21 269 = .ok (.aload_n 0, 1) := by decide +kernel
theorem d21_270 : decode bc21 270 = .ok (.dup, 1) := by decide +kernel
theorem d21_271 : decode bc21 271 = .ok (.getfield 156, 3) := by decide +kernel
theorem d21_274 : decode bc21 274 = .ok (.iconst 1, 1) := by decide +kernel
theorem d21_275 : decode bc21 275 = .ok (.iadd, 1) := by decide +kernel
theorem d21_276 : decode bc21 276 = .ok (.dup_x1, 1) := by decide +kernel
theorem d21_277 : decode bc21 277 = .ok (.putfield 156, 3) := by decide +kernel
theorem d21_280 : decode bc21 280 = .ok (.aload_n 0, 1) := by decide +kernel
theorem d21_281 : decode bc21 281 = .ok (.getfield 88, 3) := by decide +kernel
theorem d21_284 : decode bc21 284 = .ok (.if_icmp .le 8, 3) := by decide +kernel
theorem d21_292 : decode bc21 292 = .ok (.aload_n 0, 1) := by decide +kernel
theorem d21_293 : decode bc21 293 = .ok (.iload 5, 2) := by decide +kernel
theorem d21_295 : decode bc21 295 = .ok (.invokevirtual 205, 3) := by decide +kernel
theorem d21_298 : decode bc21 298 = .ok (.aconst_null, 1) := by decide +kernel
theorem d21_299 : decode bc21 299 = .ok (.areturn, 1) := by decide +kernel
theorem ef_P0 (m : MethodId) (x0 : Addr) (x1 : Int32) (x2 : Addr) (x3 : Addr) (x4 : Int32) (x5 : Int32) : entryFrame m #[(.ref x0), (.int x1), (.ref x2), (.ref x3), (.int x4), (.int x5)] 13 = mkF m 0 #[.val (.ref x0), .val (.int x1), .val (.ref x2), .val (.ref x3), .val (.int x4), .val (.int x5), .unset, .unset, .unset, .unset, .unset, .unset, .unset] [] := by first | (simp [entryFrame, mkF, argsToLocals, Value.category]; done) | rfl
theorem rmP0 (l : Launch) (Z : State) (a0 : Array Value) (hw : HW a0 Z) (ws : List Jvm.Cond) (kk : Addr) (vv : Addr) (mp : Addr) (h0 : Heap) (n0 : Nat) (Z0 : n0 ≤ h0.size) (_ba : n0 ≤ mp) (_oa : Exa Z h0 mp s_f) (_E : Fld Z h0 mp s_j "loadFactor" "F" (.float (1061158912 : UInt32))) (_F : Fld Z h0 mp s_j "table" s_p .null) (_K : Fld Z h0 mp s_j "threshold" "I" (.int 0)) (_O : Fld Z h0 mp s_j s_x "I" (.int 0)) (_da : Fld Z h0 mp s_j "size" "I" (.int 0)) (_fa : Fld Z h0 mp s_f "head" s_h .null) (_ga : Fld Z h0 mp s_f "tail" s_h .null) (_S : Fld Z h0 mp s_f "putMode" "I" (.int 0)) (_A : Fld Z h0 mp s_f "accessOrder" "Z" (.int (nar .boolean (0 : Int32)))) :
  Meets l Z mn_10 jdk_69_method_16_code 13 (some (.object s_e)) ({ frames := 4, cells := 2, slots := 22, locals := 64 } : Room) ws #[(.ref mp), (.int 0), (.ref kk), (.ref vv), (.int 0), (.int 1)] h0 (fun v h L => ∃ (_a : Addr) (_b : Addr) (_T : ClassId), v = some .null ∧ Fr n0 L ∧ Keep h0 h [mp] ∧ h0.size ≤ _a ∧ h0.size ≤ _b ∧ Exa Z h mp s_f ∧ Fld Z h mp s_j "loadFactor" "F" (.float (1061158912 : UInt32)) ∧ Fld Z h mp s_j "table" s_p (.ref _a) ∧ Fld Z h mp s_j "threshold" "I" (.int 12) ∧ Fld Z h mp s_j s_x "I" (.int 1) ∧ Fld Z h mp s_j "size" "I" (.int 1) ∧ Fld Z h mp s_f "head" s_h (.ref _b) ∧ Fld Z h mp s_f "tail" s_h (.ref _b) ∧ Fld Z h mp s_f "putMode" "I" (.int 0) ∧ Fld Z h mp s_f "accessOrder" "Z" (.int (nar .boolean (0 : Int32))) ∧ Arv Z h _a _T (.object s_c) (16 : Int32) [(.ref _b), .null, .null, .null, .null, .null, .null, .null, .null, .null, .null, .null, .null, .null, .null, .null] .null ∧ Exa Z h _b s_d ∧ Fld Z h _b s_c "hash" "I" (.int 0) ∧ Fld Z h _b s_c "key" s_l (.ref kk) ∧ Fld Z h _b s_c "value" s_l (.ref vv) ∧ Fld Z h _b s_c "next" s_q .null ∧ Fld Z h _b s_d "before" s_h .null ∧ Fld Z h _b s_d "after" s_h .null ∧ Ovr Z _T s_c ∧ _a ≠ _b) := by
 refine Meets.of (plainFor_of_name pn_1) ?_
 intro p e s m _d _ob c s₁ X0 hx hby hml _Ia hlk hnm hZ _j e0
 replace _j : s.vm.findClass s_j = some m.cls := _j
 have N0 := Fr.nil n0
 have K0 := Keep.refl h0 [mp]
 refine Go.cast (ef_P0 m mp (0 : Int32) kk vv (0 : Int32) (1 : Int32)) ?_
 show Go p e s _d _ _ _ s₁ (mkF m 0 #[vR mp, vI (0 : Int32), vR kk, vR vv, vI (0 : Int32), vI (1 : Int32), vU, vU, vU, vU, vU, vU, vU] [])
 refine gs ?_ fun _ _k => XS.aloadN X0.here hx rfl (hb hby d21_0) rfl rfl _k
 obtain ⟨T1, X1, e1, st1⟩ := getF X0 hx hZ _j (host := "") (Or.inl (qw hw 156 rfl)) Via.refl e0 _F (g := (mkF m 1 #[vR mp, vI (0 : Int32), vR kk, vR vv, vI (0 : Int32), vI (1 : Int32), vU, vU, vU, vU, vU, vU, vU] [(.ref mp)])) rfl rfl (hb hby d21_1)
 refine Go.st st1 ?_
 refine gs ?_ fun _ _k => XS.dup X1.here hx rfl (hb hby d21_4) rfl rfl _k
 refine gs ?_ fun _ _k => XS.astore X1.here hx rfl (hb hby d21_5) rfl rfl (l' := #[vR mp, vI (0 : Int32), vR kk, vR vv, vI (0 : Int32), vI (1 : Int32), .val .null, vU, vU, vU, vU, vU, vU]) rfl _k
 refine gs ?_ fun _ _k => XS.ifnullYes X1.here hx rfl (pc0 := 7) (pc' := 19) rfl (hb hby d21_7) rfl (by decide) (by decide) _k
 refine gs ?_ fun _ _k => XS.aloadN X1.here hx rfl (hb hby d21_19) rfl rfl _k
 show Go p e s _d _ _ _ T1 (mkF m 20 #[vR mp, vI (0 : Int32), vR kk, vR vv, vI (0 : Int32), vI (1 : Int32), .val .null, vU, vU, vU, vU, vU, vU] [(.ref mp)])
 refine Go.callV (b := mp) (W := 0) (argsL := []) (rest := []) X1 hx hZ _j (y := mn_7) (z := mn_7) (qw hw 158 rfl) (qw hw 159 rfl) (notFace_of_selects (args := #[]) (mvT hZ (qw hw 161 rfl))) (qw hw 161 rfl) (qw hw 160 rfl) (qw hw 19 rfl) (qw hw 162 rfl) (rmZ0 l Z a0 hw [] mp h0 n0 (Nat.le_trans Z0 K0.1) _ba _oa _E _F _K _O _da _fa _ga _S _A) e1 _oa (by decide) (by rw [hml]; rfl) (lenOf pd4 rfl) (Nat.le_of_eq rfl) (hb hby d21_20) ?_
 intro T2 v2 L2 h2 e2 X2 hQ2
 obtain ⟨_a, _T, rfl, N2, K2, _ua, _qa, _Ja, _Ka, _La, _Ma, _Na, _Oa, _Pa, _Qa, _Ra, _R, _va⟩ := hQ2
 have M2 := Fr.app N0 N2
 have _U : h0.size ≤ _a := Nat.le_trans K0.1 _ua
 have _za : n0 ≤ _a := Nat.le_trans Z0 _U
 refine gs ?_ fun _ _k => XS.dup X2.here hx rfl (hb hby d21_23) rfl rfl _k
 refine gs ?_ fun _ _k => XS.astore X2.here hx rfl (hb hby d21_24) rfl rfl (l' := #[vR mp, vI (0 : Int32), vR kk, vR vv, vI (0 : Int32), vI (1 : Int32), vR _a, vU, vU, vU, vU, vU, vU]) rfl _k
 obtain ⟨cl3, Ar3, q3, S3, M3, H3, G3⟩ := (id _R)
 refine Go.st (X2.arraylength hx (by rw [e2]; exact Ar3.1) (State.isArrayOf_alike hZ.alike Ar3.2.1) (g := (mkF m 26 #[vR mp, vI (0 : Int32), vR kk, vR vv, vI (0 : Int32), vI (1 : Int32), vR _a, vU, vU, vU, vU, vU, vU] [(.ref _a)])) rfl rfl (hb hby d21_26)) ?_
 rw [len_of S3 M3]
 refine gs ?_ fun _ _k => XS.istore X2.here hx rfl (hb hby d21_27) rfl (l' := #[vR mp, vI (0 : Int32), vR kk, vR vv, vI (0 : Int32), vI (1 : Int32), vR _a, vU, vI (16 : Int32), vU, vU, vU, vU]) rfl _k
 refine gs ?_ fun _ _k => XS.aload X2.here hx rfl (hb hby d21_29) rfl rfl _k
 refine gs ?_ fun _ _k => XS.iload X2.here hx rfl (hb hby d21_31) rfl _k
 refine gs ?_ fun _ _k => XT.iconstV X2.here hx rfl (1 : Int32) (hb hby d21_33) (by decide) _k
 refine gs ?_ fun _ _k => XS.isub X2.here hx rfl (hb hby d21_34) rfl _k
 refine gs ?_ fun _ _k => XS.iloadN X2.here hx rfl (hb hby d21_35) rfl _k
 refine gs ?_ fun _ _k => XS.iand X2.here hx rfl (hb hby d21_36) rfl _k
 refine gs ?_ fun _ _k => XS.dup X2.here hx rfl (hb hby d21_37) rfl rfl _k
 show Go p e s _d _ _ _ T2 (mkF m 38 #[vR mp, vI (0 : Int32), vR kk, vR vv, vI (0 : Int32), vI (1 : Int32), vR _a, vU, vI (16 : Int32), vU, vU, vU, vU] [(.int (((16 : Int32) - (1 : Int32)) &&& (0 : Int32))), (.int (((16 : Int32) - (1 : Int32)) &&& (0 : Int32))), (.ref _a)])
 rw [show (((16 : Int32) - (1 : Int32)) &&& (0 : Int32)) = (0 : Int32) from by decide]
 show Go p e s _d _ _ _ T2 (mkF m 38 #[vR mp, vI (0 : Int32), vR kk, vR vv, vI (0 : Int32), vI (1 : Int32), vR _a, vU, vI (16 : Int32), vU, vU, vU, vU] [(.int 0), (.int 0), (.ref _a)])
 refine gs ?_ fun _ _k => XS.istore X2.here hx rfl (hb hby d21_38) rfl (l' := #[vR mp, vI (0 : Int32), vR kk, vR vv, vI (0 : Int32), vI (1 : Int32), vR _a, vU, vI (16 : Int32), vI (0 : Int32), vU, vU, vU]) rfl _k
 obtain ⟨cl4, Ar4, q4, S4, M4, H4, G4⟩ := (id _R)
 have in4 : ¬ ((0 : Int32) < 0 ∨ cl4.slots.size ≤ ((0 : Int32)).toNatClampNeg) := inb_of S4 ⟨by decide, by decide⟩
 refine Go.st (X2.aaload hx (j := (0 : Int32)) (v := .null) (by rw [e2]; exact Ar4.1) (State.isArrayOf_alike hZ.alike Ar4.2.1) rfl Ar4.2.2 in4 (Has.at H4 in4 rfl) (g := (mkF m 40 #[vR mp, vI (0 : Int32), vR kk, vR vv, vI (0 : Int32), vI (1 : Int32), vR _a, vU, vI (16 : Int32), vI (0 : Int32), vU, vU, vU] [(.int 0), (.ref _a)])) rfl rfl (hb hby d21_40)) ?_
 refine gs ?_ fun _ _k => XS.dup X2.here hx rfl (hb hby d21_41) rfl rfl _k
 refine gs ?_ fun _ _k => XS.astore X2.here hx rfl (hb hby d21_42) rfl rfl (l' := #[vR mp, vI (0 : Int32), vR kk, vR vv, vI (0 : Int32), vI (1 : Int32), vR _a, .val .null, vI (16 : Int32), vI (0 : Int32), vU, vU, vU]) rfl _k
 refine gs ?_ fun _ _k => XS.ifnonnullNo X2.here hx rfl (hb hby d21_44) rfl _k
 refine gs ?_ fun _ _k => XS.aload X2.here hx rfl (hb hby d21_47) rfl rfl _k
 refine gs ?_ fun _ _k => XS.iload X2.here hx rfl (hb hby d21_49) rfl _k
 refine gs ?_ fun _ _k => XS.aloadN X2.here hx rfl (hb hby d21_51) rfl rfl _k
 refine gs ?_ fun _ _k => XS.iloadN X2.here hx rfl (hb hby d21_52) rfl _k
 refine gs ?_ fun _ _k => XS.aloadN X2.here hx rfl (hb hby d21_53) rfl rfl _k
 refine gs ?_ fun _ _k => XS.aloadN X2.here hx rfl (hb hby d21_54) rfl rfl _k
 refine gs ?_ fun _ _k => XS.aconstNull X2.here hx rfl (hb hby d21_55) _k
 show Go p e s _d _ _ _ T2 (mkF m 56 #[vR mp, vI (0 : Int32), vR kk, vR vv, vI (0 : Int32), vI (1 : Int32), vR _a, .val .null, vI (16 : Int32), vI (0 : Int32), vU, vU, vU] [.null, (.ref vv), (.ref kk), (.int 0), (.ref mp), (.int 0), (.ref _a)])
 have K_2 := K0.trans K2 (allS (Or.inl (by simp)) all0)
 refine Go.callV (b := mp) (W := 2) (argsL := [(.int 0), (.ref kk), (.ref vv), .null]) (rest := [(.int 0), (.ref _a)]) X2 hx hZ _j (y := mn_11) (z := mn_6) (qw hw 167 rfl) (qw hw 168 rfl) (own_nf (notFace_of_selects (args := #[]) (mvT hZ (qw hw 154 rfl))) (mvT (args := #[]) hZ (qw hw 153 rfl)) rfl) (qw hw 170 rfl) (qw hw 171 rfl) (qw hw 11 rfl) (qw hw 172 rfl) (rmW0 l Z a0 hw [] _a (0 : Int32) kk vv mp h2 n0 (Nat.le_trans Z0 K_2.1) _ba _qa _Ja _Ka _La _Ma _Na _Oa _Pa _Qa _Ra) e2 _qa (by decide) (by rw [hml]; rfl) (lenOf pd5 rfl) (Nat.le_of_eq rfl) (hb hby d21_56) ?_
 intro T5 v5 L5 h5 e5 X5 hQ5
 obtain ⟨_b, rfl, N5, K5, _ca, _Sa, _Ta, _Ua, _Va, _Wa, _ab, _bb, _cb, _db, _fb, _wa, _Ca, _Da, _Ea, _Fa, _Ga, _Ha⟩ := hQ5
 have M5 := Fr.app M2 N5
 have _Aa : h0.size ≤ _b := Nat.le_trans K_2.1 _ca
 have nq6 : mp ≠ _a := Nat.ne_of_lt (Nat.lt_of_lt_of_le (_oa).lt _ua)
 have _ra := _R.keep K5 (ninS (Ne.symm nq6) nin0)
 obtain ⟨cl7, Ar7, q7, S7, M7, H7, G7⟩ := (id _ra)
 have in7 : ¬ ((0 : Int32) < 0 ∨ cl7.slots.size ≤ ((0 : Int32)).toNatClampNeg) := inb_of S7 ⟨by decide, by decide⟩
 obtain ⟨T7, h7, X7, e7, W7, st7⟩ := stR X5 hx hZ e5 Ar7 (j := (0 : Int32)) in7 rfl (Sto.ofV Ar7 q7 _va (Ins.of_exa _wa (qw hw 183 rfl))) (g := (mkF m 59 #[vR mp, vI (0 : Int32), vR kk, vR vv, vI (0 : Int32), vI (1 : Int32), vR _a, .val .null, vI (16 : Int32), vI (0 : Int32), vU, vU, vU] [(.ref _b), (.int 0), (.ref _a)])) rfl rfl (hb hby d21_59)
 refine Go.st st7 ?_
 have _ta : Arv Z h7 _a _T (.object s_c) (16 : Int32) [(.ref _b), .null, .null, .null, .null, .null, .null, .null, .null, .null, .null, .null, .null, .null, .null, .null] .null := Arv.set Ar7 q7 S7 M7 H7 G7 rfl W7 0 rfl (by simp)
 have N7 := Fr.snoc X7 M5 _za
 refine gs ?_ fun _ _k => XS.goto X7.here hx rfl (pc0 := 60) (pc' := 259) rfl (hb hby d21_60) (by decide) (by decide) _k
 refine gs ?_ fun _ _k => XS.aloadN X7.here hx rfl (hb hby d21_259) rfl rfl _k
 refine gs ?_ fun _ _k => XS.dup X7.here hx rfl (hb hby d21_260) rfl rfl _k
 have _f := _Wa.other W7 (Or.inl nq6)
 obtain ⟨T8, X8, e8, st8⟩ := getF X7 hx hZ _j (host := "") (Or.inl (qw hw 204 rfl)) Via.refl e7 _f (g := (mkF m 261 #[vR mp, vI (0 : Int32), vR kk, vR vv, vI (0 : Int32), vI (1 : Int32), vR _a, .val .null, vI (16 : Int32), vI (0 : Int32), vU, vU, vU] [(.ref mp), (.ref mp)])) rfl rfl (hb hby d21_261)
 refine Go.st st8 ?_
 refine gs ?_ fun _ _k => XT.iconstV X8.here hx rfl (1 : Int32) (hb hby d21_264) (by decide) _k
 refine gs ?_ fun _ _k => XS.iadd X8.here hx rfl (hb hby d21_265) rfl _k
 show Go p e s _d _ _ _ T8 (mkF m 266 #[vR mp, vI (0 : Int32), vR kk, vR vv, vI (0 : Int32), vI (1 : Int32), vR _a, .val .null, vI (16 : Int32), vI (0 : Int32), vU, vU, vU] [(.int ((0 : Int32) + (1 : Int32))), (.ref mp)])
 rw [show ((0 : Int32) + (1 : Int32)) = (1 : Int32) from by decide]
 show Go p e s _d _ _ _ T8 (mkF m 266 #[vR mp, vI (0 : Int32), vR kk, vR vv, vI (0 : Int32), vI (1 : Int32), vR _a, .val .null, vI (16 : Int32), vI (0 : Int32), vU, vU, vU] [(.int 1), (.ref mp)])
 have _ha := _Sa.wr W7
 obtain ⟨T9, h9, X9, e9, W9, st9⟩ := putF X8 hx hZ _j (host := "") (Or.inl (qw hw 204 rfl)) Via.refl e8 _f _ha (Or.inl (qw hw 205 rfl)) (qw hw 10 rfl) (ty := .int) (by decide) rfl rfl (g := (mkF m 266 #[vR mp, vI (0 : Int32), vR kk, vR vv, vI (0 : Int32), vI (1 : Int32), vR _a, .val .null, vI (16 : Int32), vI (0 : Int32), vU, vU, vU] [(.int 1), (.ref mp)])) rfl rfl (hb hby d21_266)
 refine Go.st st9 ?_
 have _G : Fld Z h9 mp s_j s_x "I" (.int 1) := _f.same W9
 have N9 := Fr.snoc X9 N7 _ba
 refine gs ?_ fun _ _k => XS.aloadN X9.here hx rfl (hb hby d21_269) rfl rfl _k
 refine gs ?_ fun _ _k => XS.dup X9.here hx rfl (hb hby d21_270) rfl rfl _k
 have _q := (_ab.other W7 (Or.inl nq6)).other W9 (Or.inr (slot_ne (Or.inl (qw hw 207 rfl)) (Or.inl (qw hw 205 rfl)) (by decide) (t := .int) (t' := .int) (by decide) (by decide)))
 obtain ⟨T10, X10, e10, _gb⟩ := getF X9 hx hZ _j (host := "") (Or.inl (qw hw 206 rfl)) Via.refl e9 _q (g := (mkF m 271 #[vR mp, vI (0 : Int32), vR kk, vR vv, vI (0 : Int32), vI (1 : Int32), vR _a, .val .null, vI (16 : Int32), vI (0 : Int32), vU, vU, vU] [(.ref mp), (.ref mp)])) rfl rfl (hb hby d21_271)
 refine Go.st _gb ?_
 refine gs ?_ fun _ _k => XT.iconstV X10.here hx rfl (1 : Int32) (hb hby d21_274) (by decide) _k
 refine gs ?_ fun _ _k => XS.iadd X10.here hx rfl (hb hby d21_275) rfl _k
 show Go p e s _d _ _ _ T10 (mkF m 276 #[vR mp, vI (0 : Int32), vR kk, vR vv, vI (0 : Int32), vI (1 : Int32), vR _a, .val .null, vI (16 : Int32), vI (0 : Int32), vU, vU, vU] [(.int ((0 : Int32) + (1 : Int32))), (.ref mp)])
 rw [show ((0 : Int32) + (1 : Int32)) = (1 : Int32) from by decide]
 show Go p e s _d _ _ _ T10 (mkF m 276 #[vR mp, vI (0 : Int32), vR kk, vR vv, vI (0 : Int32), vI (1 : Int32), vR _a, .val .null, vI (16 : Int32), vI (0 : Int32), vU, vU, vU] [(.int 1), (.ref mp)])
 refine gs ?_ fun _ _k => XS.dupX1 X10.here hx rfl (hb hby d21_276) rfl rfl rfl _k
 have _ia := _ha.wr W9
 obtain ⟨T11, h11, X11, e11, W11, _hb⟩ := putF X10 hx hZ _j (host := "") (Or.inl (qw hw 206 rfl)) Via.refl e10 _q _ia (Or.inl (qw hw 207 rfl)) (qw hw 10 rfl) (ty := .int) (by decide) rfl rfl (g := (mkF m 277 #[vR mp, vI (0 : Int32), vR kk, vR vv, vI (0 : Int32), vI (1 : Int32), vR _a, .val .null, vI (16 : Int32), vI (0 : Int32), vU, vU, vU] [(.int 1), (.ref mp), (.int 1)])) rfl rfl (hb hby d21_277)
 refine Go.st _hb ?_
 have _u : Fld Z h11 mp s_j "size" "I" (.int 1) := _q.same W11
 have N11 := Fr.snoc X11 N9 _ba
 refine gs ?_ fun _ _k => XS.aloadN X11.here hx rfl (hb hby d21_280) rfl rfl _k
 have _c := ((_Va.other W7 (Or.inl nq6)).other W9 (Or.inr (slot_ne (Or.inl (qw hw 164 rfl)) (Or.inl (qw hw 205 rfl)) (by decide) (t := .int) (t' := .int) (by decide) (by decide)))).other W11 (Or.inr (slot_ne (Or.inl (qw hw 164 rfl)) (Or.inl (qw hw 207 rfl)) (by decide) (t := .int) (t' := .int) (by decide) (by decide)))
 obtain ⟨T12, X12, e12, _ib⟩ := getF X11 hx hZ _j (host := "") (Or.inl (qw hw 163 rfl)) Via.refl e11 _c (g := (mkF m 281 #[vR mp, vI (0 : Int32), vR kk, vR vv, vI (0 : Int32), vI (1 : Int32), vR _a, .val .null, vI (16 : Int32), vI (0 : Int32), vU, vU, vU] [(.ref mp), (.int 1)])) rfl rfl (hb hby d21_281)
 refine Go.st _ib ?_
 refine gs ?_ fun _ _k => XS.icmpYes X12.here hx rfl (pc0 := 284) (pc' := 292) rfl (hb hby d21_284) rfl (flt (by decide : ¬ ((12 : Int32) < (1 : Int32)))).2.2.2 (by decide) (by decide) _k
 refine gs ?_ fun _ _k => XS.aloadN X12.here hx rfl (hb hby d21_292) rfl rfl _k
 refine gs ?_ fun _ _k => XS.iload X12.here hx rfl (hb hby d21_293) rfl _k
 show Go p e s _d _ _ _ T12 (mkF m 295 #[vR mp, vI (0 : Int32), vR kk, vR vv, vI (0 : Int32), vI (1 : Int32), vR _a, .val .null, vI (16 : Int32), vI (0 : Int32), vU, vU, vU] [(.int 1), (.ref mp)])
 have _r := ((_Ua.other W7 (Or.inl nq6)).other W9 (Or.inr (slot_ne (Or.inl (qw hw 157 rfl)) (Or.inl (qw hw 205 rfl)) (by decide) (t := (.array (.object s_c))) (t' := .int) (by decide) (by decide)))).other W11 (Or.inr (slot_ne (Or.inl (qw hw 157 rfl)) (Or.inl (qw hw 207 rfl)) (by decide) (t := (.array (.object s_c))) (t' := .int) (by decide) (by decide)))
 have _v := ((_bb.other W7 (Or.inl nq6)).other W9 (Or.inr (slot_ne (Or.inl (qw hw 203 rfl)) (Or.inl (qw hw 205 rfl)) (by decide) (t := (.object s_d)) (t' := .int) (by decide) (by decide)))).other W11 (Or.inr (slot_ne (Or.inl (qw hw 203 rfl)) (Or.inl (qw hw 207 rfl)) (by decide) (t := (.object s_d)) (t' := .int) (by decide) (by decide)))
 have _Ba := (((K_2.trans K5 (allS (Or.inl (by simp)) all0)).wr W7 (Or.inr _U)).wr W9 (Or.inl (by simp))).wr W11 (Or.inl (by simp))
 have _L := _ia.wr W11
 have _h := ((_Ta.other W7 (Or.inl nq6)).other W9 (Or.inr (slot_ne (Or.inr (qw hw 30 rfl)) (Or.inl (qw hw 205 rfl)) (by decide) (t := .float) (t' := .int) (by decide) (by decide)))).other W11 (Or.inr (slot_ne (Or.inr (qw hw 30 rfl)) (Or.inl (qw hw 207 rfl)) (by decide) (t := .float) (t' := .int) (by decide) (by decide)))
 have _k := _G.other W11 (Or.inr (slot_ne (Or.inl (qw hw 205 rfl)) (Or.inl (qw hw 207 rfl)) (by decide) (t := .int) (t' := .int) (by decide) (by decide)))
 have _w := ((_cb.other W7 (Or.inl nq6)).other W9 (Or.inr (slot_ne (Or.inl (qw hw 201 rfl)) (Or.inl (qw hw 205 rfl)) (by decide) (t := (.object s_d)) (t' := .int) (by decide) (by decide)))).other W11 (Or.inr (slot_ne (Or.inl (qw hw 201 rfl)) (Or.inl (qw hw 207 rfl)) (by decide) (t := (.object s_d)) (t' := .int) (by decide) (by decide)))
 have _o := ((_db.other W7 (Or.inl nq6)).other W9 (Or.inr (slot_ne (Or.inl (qw hw 32 rfl)) (Or.inl (qw hw 205 rfl)) (by decide) (t := .int) (t' := .int) (by decide) (by decide)))).other W11 (Or.inr (slot_ne (Or.inl (qw hw 32 rfl)) (Or.inl (qw hw 207 rfl)) (by decide) (t := .int) (t' := .int) (by decide) (by decide)))
 have _g := ((_fb.other W7 (Or.inl nq6)).other W9 (Or.inr (slot_ne (Or.inr (qw hw 34 rfl)) (Or.inl (qw hw 205 rfl)) (by decide) (t := .boolean) (t' := .int) (by decide) (by decide)))).other W11 (Or.inr (slot_ne (Or.inr (qw hw 34 rfl)) (Or.inl (qw hw 207 rfl)) (by decide) (t := .boolean) (t' := .int) (by decide) (by decide)))
 refine Go.callV (b := mp) (W := 0) (argsL := [(.int 1)]) (rest := []) X12 hx hZ _j (y := mn_12) (z := mn_9) (qw hw 208 rfl) (qw hw 209 rfl) (own_nf (notFace_of_selects (args := #[]) (mvT hZ (qw hw 154 rfl))) (mvT (args := #[]) hZ (qw hw 153 rfl)) rfl) (qw hw 211 rfl) (qw hw 212 rfl) (qw hw 11 rfl) (qw hw 213 rfl) (rmAI0 l Z a0 hw [] _a _b mp h11 n0 (Nat.le_trans Z0 _Ba.1) _L _h _r _c _k _u _v _w _o _g) e12 _L (by decide) (by rw [hml]; rfl) (lenOf pd6 rfl) (Nat.le_of_eq rfl) (hb hby d21_295) ?_
 intro T13 v13 L13 h13 e13 X13 _jb
 obtain ⟨rfl, N13, K13⟩ := _jb
 have M13 := Fr.app N11 N13
 refine gs ?_ fun _ _k => XS.aconstNull X13.here hx rfl (hb hby d21_298) _k
 show Go p e s _d _ _ _ T13 (mkF m 299 #[vR mp, vI (0 : Int32), vR kk, vR vv, vI (0 : Int32), vI (1 : Int32), vR _a, .val .null, vI (16 : Int32), vI (0 : Int32), vU, vU, vU] [.null])
 have _ja := ((_ta.other W9 (Ne.symm nq6)).other W11 (Ne.symm nq6)).ext K13
 have _kb := _Ba.ext K13
 have _ya := _L.ext K13
 have _y := _h.ext K13
 have _P := _r.ext K13
 have _z := _c.ext K13
 have _B := _k.ext K13
 have _V := _u.ext K13
 have _W := _v.ext K13
 have _aa := _w.ext K13
 have _H := _o.ext K13
 have _t := _g.ext K13
 have _ka := (((_wa.wr W7).wr W9).wr W11).ext K13
 have _C : _a ≠ _b := Nat.ne_of_lt (Nat.lt_of_lt_of_le (_R).lt _ca)
 have _i : mp ≠ _b := Nat.ne_of_lt (Nat.lt_of_lt_of_le (_qa).lt _ca)
 have _M := (((_Ca.other W7 (Or.inl (Ne.symm _C))).other W9 (Or.inl (Ne.symm _i))).other W11 (Or.inl (Ne.symm _i))).ext K13
 have _Q := (((_Da.other W7 (Or.inl (Ne.symm _C))).other W9 (Or.inl (Ne.symm _i))).other W11 (Or.inl (Ne.symm _i))).ext K13
 have _I := (((_Ea.other W7 (Or.inl (Ne.symm _C))).other W9 (Or.inl (Ne.symm _i))).other W11 (Or.inl (Ne.symm _i))).ext K13
 have _N := (((_Fa.other W7 (Or.inl (Ne.symm _C))).other W9 (Or.inl (Ne.symm _i))).other W11 (Or.inl (Ne.symm _i))).ext K13
 have _D := (((_Ga.other W7 (Or.inl (Ne.symm _C))).other W9 (Or.inl (Ne.symm _i))).other W11 (Or.inl (Ne.symm _i))).ext K13
 have _J := (((_Ha.other W7 (Or.inl (Ne.symm _C))).other W9 (Or.inl (Ne.symm _i))).other W11 (Or.inl (Ne.symm _i))).ext K13
 exact Go.retA X13 hx hlk _Ia rfl rfl (hb hby d21_299) (by decide) (by decide) ⟨_a, _b, _T, rfl, M13, (by rw [e13]; exact _kb), _U, _Aa, (by rw [e13]; exact _ya), (by rw [e13]; exact _y), (by rw [e13]; exact _P), (by rw [e13]; exact _z), (by rw [e13]; exact _B), (by rw [e13]; exact _V), (by rw [e13]; exact _W), (by rw [e13]; exact _aa), (by rw [e13]; exact _H), (by rw [e13]; exact _t), (by rw [e13]; exact _ja), (by rw [e13]; exact _ka), (by rw [e13]; exact _M), (by rw [e13]; exact _Q), (by rw [e13]; exact _I), (by rw [e13]; exact _N), (by rw [e13]; exact _D), (by rw [e13]; exact _J), _va, _C⟩
theorem d21_10 : decode bc21 10 = .ok (.aload 6, 2) := by decide +kernel
theorem d21_12 : decode bc21 12 = .ok (.arraylength, 1) := by decide +kernel
theorem d21_13 : decode bc21 13 = .ok (.dup, 1) := by decide +kernel
theorem d21_14 : decode bc21 14 = .ok (.istore 8, 2) := by decide +kernel
theorem d21_16 : decode bc21 16 = .ok (.ifCond .ne 13, 3) := by decide +kernel
theorem ef_P1 (m : MethodId) (x0 : Addr) (x1 : Int32) (x2 : Addr) (x3 : Addr) (x4 : Int32) (x5 : Int32) : entryFrame m #[(.ref x0), (.int x1), (.ref x2), (.ref x3), (.int x4), (.int x5)] 13 = mkF m 0 #[.val (.ref x0), .val (.int x1), .val (.ref x2), .val (.ref x3), .val (.int x4), .val (.int x5), .unset, .unset, .unset, .unset, .unset, .unset, .unset] [] := by first | (simp [entryFrame, mkF, argsToLocals, Value.category]; done) | rfl
theorem rmP1 (l : Launch) (Z : State) (a0 : Array Value) (hw : HW a0 Z) (ws : List Jvm.Cond) (ha : Int32) (ka : Addr) (va : Addr) (kk : Addr) (vv : Addr) (mp : Addr) (ea : Addr) (tb : Addr) (_ia : ClassId) (h0 : Heap) (n0 : Nat) (Z0 : n0 ≤ h0.size) (_Ba : n0 ≤ mp) (_bb : n0 ≤ ea) (_cb : n0 ≤ tb) (_Ca : Exa Z h0 mp s_f) (_F : Fld Z h0 mp s_j "loadFactor" "F" (.float (1061158912 : UInt32))) (_G : Fld Z h0 mp s_j "table" s_p (.ref tb)) (_L : Fld Z h0 mp s_j "threshold" "I" (.int 12)) (_Q : Fld Z h0 mp s_j s_x "I" (.int 1)) (_ra : Fld Z h0 mp s_j "size" "I" (.int 1)) (_ta : Fld Z h0 mp s_f "head" s_h (.ref ea)) (_ua : Fld Z h0 mp s_f "tail" s_h (.ref ea)) (_V : Fld Z h0 mp s_f "putMode" "I" (.int 0)) (_C : Fld Z h0 mp s_f "accessOrder" "Z" (.int (nar .boolean (0 : Int32)))) (_db : Exa Z h0 ea s_d) (_va : Fld Z h0 ea s_c "hash" "I" (.int ha)) (_Da : Fld Z h0 ea s_c "key" s_l (.ref ka)) (_ja : Fld Z h0 ea s_c "value" s_l (.ref va)) (_wa : Fld Z h0 ea s_c "next" s_q .null) (_ga : Fld Z h0 ea s_d "before" s_h .null) (_ka : Fld Z h0 ea s_d "after" s_h .null) (_oa : Arv Z h0 tb _ia (.object s_c) (16 : Int32) [(.ref ea), .null, .null, .null, .null, .null, .null, .null, .null, .null, .null, .null, .null, .null, .null, .null] .null) (_fb : Ovr Z _ia s_c) (_a : mp ≠ ea) (_b : mp ≠ tb) (_d : ea ≠ tb) :
  Meets l Z mn_10 jdk_69_method_16_code 13 (some (.object s_e)) ({ frames := 4, cells := 1, slots := 6, locals := 64 } : Room) ws #[(.ref mp), (.int 1), (.ref kk), (.ref vv), (.int 0), (.int 1)] h0 (fun v h L => ∃ (_c : Addr), v = some .null ∧ Fr n0 L ∧ Keep h0 h [mp, ea, tb] ∧ h0.size ≤ _c ∧ Exa Z h mp s_f ∧ Fld Z h mp s_j "loadFactor" "F" (.float (1061158912 : UInt32)) ∧ Fld Z h mp s_j "table" s_p (.ref tb) ∧ Fld Z h mp s_j "threshold" "I" (.int 12) ∧ Fld Z h mp s_j s_x "I" (.int 2) ∧ Fld Z h mp s_j "size" "I" (.int 2) ∧ Fld Z h mp s_f "head" s_h (.ref ea) ∧ Fld Z h mp s_f "tail" s_h (.ref _c) ∧ Fld Z h mp s_f "putMode" "I" (.int 0) ∧ Fld Z h mp s_f "accessOrder" "Z" (.int (nar .boolean (0 : Int32))) ∧ Exa Z h ea s_d ∧ Fld Z h ea s_c "hash" "I" (.int ha) ∧ Fld Z h ea s_c "key" s_l (.ref ka) ∧ Fld Z h ea s_c "value" s_l (.ref va) ∧ Fld Z h ea s_c "next" s_q .null ∧ Fld Z h ea s_d "before" s_h .null ∧ Fld Z h ea s_d "after" s_h (.ref _c) ∧ Arv Z h tb _ia (.object s_c) (16 : Int32) [(.ref ea), (.ref _c), .null, .null, .null, .null, .null, .null, .null, .null, .null, .null, .null, .null, .null, .null] .null ∧ Exa Z h _c s_d ∧ Fld Z h _c s_c "hash" "I" (.int 1) ∧ Fld Z h _c s_c "key" s_l (.ref kk) ∧ Fld Z h _c s_c "value" s_l (.ref vv) ∧ Fld Z h _c s_c "next" s_q .null ∧ Fld Z h _c s_d "before" s_h (.ref ea) ∧ Fld Z h _c s_d "after" s_h .null) := by
 refine Meets.of (plainFor_of_name pn_1) ?_
 intro p e s m _h _Ab c s₁ X0 hx hby hml _gb hlk hnm hZ _q e0
 replace _q : s.vm.findClass s_j = some m.cls := _q
 have N0 := Fr.nil n0
 have K0 := Keep.refl h0 [mp, ea, tb]
 refine Go.cast (ef_P1 m mp (1 : Int32) kk vv (0 : Int32) (1 : Int32)) ?_
 show Go p e s _h _ _ _ s₁ (mkF m 0 #[vR mp, vI (1 : Int32), vR kk, vR vv, vI (0 : Int32), vI (1 : Int32), vU, vU, vU, vU, vU, vU, vU] [])
 refine gs ?_ fun _ _k => XS.aloadN X0.here hx rfl (hb hby d21_0) rfl rfl _k
 obtain ⟨T1, X1, e1, st1⟩ := getF X0 hx hZ _q (host := "") (Or.inl (qw hw 156 rfl)) Via.refl e0 _G (g := (mkF m 1 #[vR mp, vI (1 : Int32), vR kk, vR vv, vI (0 : Int32), vI (1 : Int32), vU, vU, vU, vU, vU, vU, vU] [(.ref mp)])) rfl rfl (hb hby d21_1)
 refine Go.st st1 ?_
 refine gs ?_ fun _ _k => XS.dup X1.here hx rfl (hb hby d21_4) rfl rfl _k
 refine gs ?_ fun _ _k => XS.astore X1.here hx rfl (hb hby d21_5) rfl rfl (l' := #[vR mp, vI (1 : Int32), vR kk, vR vv, vI (0 : Int32), vI (1 : Int32), vR tb, vU, vU, vU, vU, vU, vU]) rfl _k
 refine gs ?_ fun _ _k => XS.ifnullNo X1.here hx rfl (hb hby d21_7) rfl _k
 refine gs ?_ fun _ _k => XS.aload X1.here hx rfl (hb hby d21_10) rfl rfl _k
 obtain ⟨cl2, Ar2, q2, S2, M2, H2, G2⟩ := (id _oa)
 refine Go.st (X1.arraylength hx (by rw [e1]; exact Ar2.1) (State.isArrayOf_alike hZ.alike Ar2.2.1) (g := (mkF m 12 #[vR mp, vI (1 : Int32), vR kk, vR vv, vI (0 : Int32), vI (1 : Int32), vR tb, vU, vU, vU, vU, vU, vU] [(.ref tb)])) rfl rfl (hb hby d21_12)) ?_
 rw [len_of S2 M2]
 refine gs ?_ fun _ _k => XS.dup X1.here hx rfl (hb hby d21_13) rfl rfl _k
 refine gs ?_ fun _ _k => XS.istore X1.here hx rfl (hb hby d21_14) rfl (l' := #[vR mp, vI (1 : Int32), vR kk, vR vv, vI (0 : Int32), vI (1 : Int32), vR tb, vU, vI (16 : Int32), vU, vU, vU, vU]) rfl _k
 refine gs ?_ fun _ _k => XS.ifYes X1.here hx rfl (pc0 := 16) (pc' := 29) rfl (hb hby d21_16) rfl ((if0 _ _).trans (feq (by decide : ¬ ((16 : Int32) = (0 : Int32)))).2) (by decide) (by decide) _k
 refine gs ?_ fun _ _k => XS.aload X1.here hx rfl (hb hby d21_29) rfl rfl _k
 refine gs ?_ fun _ _k => XS.iload X1.here hx rfl (hb hby d21_31) rfl _k
 refine gs ?_ fun _ _k => XT.iconstV X1.here hx rfl (1 : Int32) (hb hby d21_33) (by decide) _k
 refine gs ?_ fun _ _k => XS.isub X1.here hx rfl (hb hby d21_34) rfl _k
 refine gs ?_ fun _ _k => XS.iloadN X1.here hx rfl (hb hby d21_35) rfl _k
 refine gs ?_ fun _ _k => XS.iand X1.here hx rfl (hb hby d21_36) rfl _k
 refine gs ?_ fun _ _k => XS.dup X1.here hx rfl (hb hby d21_37) rfl rfl _k
 show Go p e s _h _ _ _ T1 (mkF m 38 #[vR mp, vI (1 : Int32), vR kk, vR vv, vI (0 : Int32), vI (1 : Int32), vR tb, vU, vI (16 : Int32), vU, vU, vU, vU] [(.int (((16 : Int32) - (1 : Int32)) &&& (1 : Int32))), (.int (((16 : Int32) - (1 : Int32)) &&& (1 : Int32))), (.ref tb)])
 rw [show (((16 : Int32) - (1 : Int32)) &&& (1 : Int32)) = (1 : Int32) from by decide]
 show Go p e s _h _ _ _ T1 (mkF m 38 #[vR mp, vI (1 : Int32), vR kk, vR vv, vI (0 : Int32), vI (1 : Int32), vR tb, vU, vI (16 : Int32), vU, vU, vU, vU] [(.int 1), (.int 1), (.ref tb)])
 refine gs ?_ fun _ _k => XS.istore X1.here hx rfl (hb hby d21_38) rfl (l' := #[vR mp, vI (1 : Int32), vR kk, vR vv, vI (0 : Int32), vI (1 : Int32), vR tb, vU, vI (16 : Int32), vI (1 : Int32), vU, vU, vU]) rfl _k
 obtain ⟨cl3, Ar3, q3, S3, M3, H3, G3⟩ := (id _oa)
 have in3 : ¬ ((1 : Int32) < 0 ∨ cl3.slots.size ≤ ((1 : Int32)).toNatClampNeg) := inb_of S3 ⟨by decide, by decide⟩
 refine Go.st (X1.aaload hx (j := (1 : Int32)) (v := .null) (by rw [e1]; exact Ar3.1) (State.isArrayOf_alike hZ.alike Ar3.2.1) rfl Ar3.2.2 in3 (Has.at H3 in3 rfl) (g := (mkF m 40 #[vR mp, vI (1 : Int32), vR kk, vR vv, vI (0 : Int32), vI (1 : Int32), vR tb, vU, vI (16 : Int32), vI (1 : Int32), vU, vU, vU] [(.int 1), (.ref tb)])) rfl rfl (hb hby d21_40)) ?_
 refine gs ?_ fun _ _k => XS.dup X1.here hx rfl (hb hby d21_41) rfl rfl _k
 refine gs ?_ fun _ _k => XS.astore X1.here hx rfl (hb hby d21_42) rfl rfl (l' := #[vR mp, vI (1 : Int32), vR kk, vR vv, vI (0 : Int32), vI (1 : Int32), vR tb, .val .null, vI (16 : Int32), vI (1 : Int32), vU, vU, vU]) rfl _k
 refine gs ?_ fun _ _k => XS.ifnonnullNo X1.here hx rfl (hb hby d21_44) rfl _k
 refine gs ?_ fun _ _k => XS.aload X1.here hx rfl (hb hby d21_47) rfl rfl _k
 refine gs ?_ fun _ _k => XS.iload X1.here hx rfl (hb hby d21_49) rfl _k
 refine gs ?_ fun _ _k => XS.aloadN X1.here hx rfl (hb hby d21_51) rfl rfl _k
 refine gs ?_ fun _ _k => XS.iloadN X1.here hx rfl (hb hby d21_52) rfl _k
 refine gs ?_ fun _ _k => XS.aloadN X1.here hx rfl (hb hby d21_53) rfl rfl _k
 refine gs ?_ fun _ _k => XS.aloadN X1.here hx rfl (hb hby d21_54) rfl rfl _k
 refine gs ?_ fun _ _k => XS.aconstNull X1.here hx rfl (hb hby d21_55) _k
 show Go p e s _h _ _ _ T1 (mkF m 56 #[vR mp, vI (1 : Int32), vR kk, vR vv, vI (0 : Int32), vI (1 : Int32), vR tb, .val .null, vI (16 : Int32), vI (1 : Int32), vU, vU, vU] [.null, (.ref vv), (.ref kk), (.int 1), (.ref mp), (.int 1), (.ref tb)])
 refine Go.callV (b := mp) (W := 2) (argsL := [(.int 1), (.ref kk), (.ref vv), .null]) (rest := [(.int 1), (.ref tb)]) X1 hx hZ _q (y := mn_11) (z := mn_6) (qw hw 167 rfl) (qw hw 168 rfl) (own_nf (notFace_of_selects (args := #[]) (mvT hZ (qw hw 154 rfl))) (mvT (args := #[]) hZ (qw hw 153 rfl)) rfl) (qw hw 170 rfl) (qw hw 171 rfl) (qw hw 11 rfl) (qw hw 172 rfl) (rmW1 l Z a0 hw [] tb ha ka va (1 : Int32) kk vv mp ea h0 n0 (Nat.le_trans Z0 K0.1) _Ba _bb _Ca _F _G _L _Q _ra _ta _ua _V _C _db _va _Da _ja _wa _ga _ka _a) e1 _Ca (by decide) (by rw [hml]; rfl) (lenOf pd5 rfl) (Nat.le_of_eq rfl) (hb hby d21_56) ?_
 intro T4 v4 L4 h4 e4 X4 hQ4
 obtain ⟨_c, rfl, N4, K4, _qa, _hb, _ib, _jb, _kb, _ob, _qb, _rb, _tb, _ub, _vb, _La, _Ma, _Na, _Oa, _Pa, _Qa, _Ra, _Ea, _Sa, _Ta, _Ua, _Va, _Wa, _ab⟩ := hQ4
 have M4 := Fr.app N0 N4
 have _Ia : h0.size ≤ _c := Nat.le_trans K0.1 _qa
 have _Ja := _oa.keep K4 (ninS (Ne.symm _b) (ninS (Ne.symm _d) nin0))
 obtain ⟨cl5, Ar5, q5, S5, M5, H5, G5⟩ := (id _Ja)
 have in5 : ¬ ((1 : Int32) < 0 ∨ cl5.slots.size ≤ ((1 : Int32)).toNatClampNeg) := inb_of S5 ⟨by decide, by decide⟩
 obtain ⟨T5, h5, X5, e5, W5, st5⟩ := stR X4 hx hZ e4 Ar5 (j := (1 : Int32)) in5 rfl (Sto.ofV Ar5 q5 _fb (Ins.of_exa _Ea (qw hw 183 rfl))) (g := (mkF m 59 #[vR mp, vI (1 : Int32), vR kk, vR vv, vI (0 : Int32), vI (1 : Int32), vR tb, .val .null, vI (16 : Int32), vI (1 : Int32), vU, vU, vU] [(.ref _c), (.int 1), (.ref tb)])) rfl rfl (hb hby d21_59)
 refine Go.st st5 ?_
 have _Ka : Arv Z h5 tb _ia (.object s_c) (16 : Int32) [(.ref ea), (.ref _c), .null, .null, .null, .null, .null, .null, .null, .null, .null, .null, .null, .null, .null, .null] .null := Arv.set Ar5 q5 S5 M5 H5 G5 rfl W5 1 rfl (by simp)
 have N5 := Fr.snoc X5 M4 _cb
 refine gs ?_ fun _ _k => XS.goto X5.here hx rfl (pc0 := 60) (pc' := 259) rfl (hb hby d21_60) (by decide) (by decide) _k
 refine gs ?_ fun _ _k => XS.aloadN X5.here hx rfl (hb hby d21_259) rfl rfl _k
 refine gs ?_ fun _ _k => XS.dup X5.here hx rfl (hb hby d21_260) rfl rfl _k
 have _g := _ob.other W5 (Or.inl _b)
 obtain ⟨T6, X6, e6, st6⟩ := getF X5 hx hZ _q (host := "") (Or.inl (qw hw 204 rfl)) Via.refl e5 _g (g := (mkF m 261 #[vR mp, vI (1 : Int32), vR kk, vR vv, vI (0 : Int32), vI (1 : Int32), vR tb, .val .null, vI (16 : Int32), vI (1 : Int32), vU, vU, vU] [(.ref mp), (.ref mp)])) rfl rfl (hb hby d21_261)
 refine Go.st st6 ?_
 refine gs ?_ fun _ _k => XT.iconstV X6.here hx rfl (1 : Int32) (hb hby d21_264) (by decide) _k
 refine gs ?_ fun _ _k => XS.iadd X6.here hx rfl (hb hby d21_265) rfl _k
 show Go p e s _h _ _ _ T6 (mkF m 266 #[vR mp, vI (1 : Int32), vR kk, vR vv, vI (0 : Int32), vI (1 : Int32), vR tb, .val .null, vI (16 : Int32), vI (1 : Int32), vU, vU, vU] [(.int ((1 : Int32) + (1 : Int32))), (.ref mp)])
 rw [show ((1 : Int32) + (1 : Int32)) = (2 : Int32) from by decide]
 show Go p e s _h _ _ _ T6 (mkF m 266 #[vR mp, vI (1 : Int32), vR kk, vR vv, vI (0 : Int32), vI (1 : Int32), vR tb, .val .null, vI (16 : Int32), vI (1 : Int32), vU, vU, vU] [(.int 2), (.ref mp)])
 have _ya := _hb.wr W5
 obtain ⟨T7, h7, X7, e7, W7, st7⟩ := putF X6 hx hZ _q (host := "") (Or.inl (qw hw 204 rfl)) Via.refl e6 _g _ya (Or.inl (qw hw 205 rfl)) (qw hw 10 rfl) (ty := .int) (by decide) rfl rfl (g := (mkF m 266 #[vR mp, vI (1 : Int32), vR kk, vR vv, vI (0 : Int32), vI (1 : Int32), vR tb, .val .null, vI (16 : Int32), vI (1 : Int32), vU, vU, vU] [(.int 2), (.ref mp)])) rfl rfl (hb hby d21_266)
 refine Go.st st7 ?_
 have _H : Fld Z h7 mp s_j s_x "I" (.int 2) := _g.same W7
 have N7 := Fr.snoc X7 N5 _Ba
 refine gs ?_ fun _ _k => XS.aloadN X7.here hx rfl (hb hby d21_269) rfl rfl _k
 refine gs ?_ fun _ _k => XS.dup X7.here hx rfl (hb hby d21_270) rfl rfl _k
 have _r := (_qb.other W5 (Or.inl _b)).other W7 (Or.inr (slot_ne (Or.inl (qw hw 207 rfl)) (Or.inl (qw hw 205 rfl)) (by decide) (t := .int) (t' := .int) (by decide) (by decide)))
 obtain ⟨T8, X8, e8, st8⟩ := getF X7 hx hZ _q (host := "") (Or.inl (qw hw 206 rfl)) Via.refl e7 _r (g := (mkF m 271 #[vR mp, vI (1 : Int32), vR kk, vR vv, vI (0 : Int32), vI (1 : Int32), vR tb, .val .null, vI (16 : Int32), vI (1 : Int32), vU, vU, vU] [(.ref mp), (.ref mp)])) rfl rfl (hb hby d21_271)
 refine Go.st st8 ?_
 refine gs ?_ fun _ _k => XT.iconstV X8.here hx rfl (1 : Int32) (hb hby d21_274) (by decide) _k
 refine gs ?_ fun _ _k => XS.iadd X8.here hx rfl (hb hby d21_275) rfl _k
 show Go p e s _h _ _ _ T8 (mkF m 276 #[vR mp, vI (1 : Int32), vR kk, vR vv, vI (0 : Int32), vI (1 : Int32), vR tb, .val .null, vI (16 : Int32), vI (1 : Int32), vU, vU, vU] [(.int ((1 : Int32) + (1 : Int32))), (.ref mp)])
 rw [show ((1 : Int32) + (1 : Int32)) = (2 : Int32) from by decide]
 show Go p e s _h _ _ _ T8 (mkF m 276 #[vR mp, vI (1 : Int32), vR kk, vR vv, vI (0 : Int32), vI (1 : Int32), vR tb, .val .null, vI (16 : Int32), vI (1 : Int32), vU, vU, vU] [(.int 2), (.ref mp)])
 refine gs ?_ fun _ _k => XS.dupX1 X8.here hx rfl (hb hby d21_276) rfl rfl rfl _k
 have _za := _ya.wr W7
 obtain ⟨T9, h9, X9, e9, W9, st9⟩ := putF X8 hx hZ _q (host := "") (Or.inl (qw hw 206 rfl)) Via.refl e8 _r _za (Or.inl (qw hw 207 rfl)) (qw hw 10 rfl) (ty := .int) (by decide) rfl rfl (g := (mkF m 277 #[vR mp, vI (1 : Int32), vR kk, vR vv, vI (0 : Int32), vI (1 : Int32), vR tb, .val .null, vI (16 : Int32), vI (1 : Int32), vU, vU, vU] [(.int 2), (.ref mp), (.int 2)])) rfl rfl (hb hby d21_277)
 refine Go.st st9 ?_
 have _z : Fld Z h9 mp s_j "size" "I" (.int 2) := _r.same W9
 have N9 := Fr.snoc X9 N7 _Ba
 refine gs ?_ fun _ _k => XS.aloadN X9.here hx rfl (hb hby d21_280) rfl rfl _k
 have _f := ((_kb.other W5 (Or.inl _b)).other W7 (Or.inr (slot_ne (Or.inl (qw hw 164 rfl)) (Or.inl (qw hw 205 rfl)) (by decide) (t := .int) (t' := .int) (by decide) (by decide)))).other W9 (Or.inr (slot_ne (Or.inl (qw hw 164 rfl)) (Or.inl (qw hw 207 rfl)) (by decide) (t := .int) (t' := .int) (by decide) (by decide)))
 obtain ⟨T10, X10, e10, _wb⟩ := getF X9 hx hZ _q (host := "") (Or.inl (qw hw 163 rfl)) Via.refl e9 _f (g := (mkF m 281 #[vR mp, vI (1 : Int32), vR kk, vR vv, vI (0 : Int32), vI (1 : Int32), vR tb, .val .null, vI (16 : Int32), vI (1 : Int32), vU, vU, vU] [(.ref mp), (.int 2)])) rfl rfl (hb hby d21_281)
 refine Go.st _wb ?_
 refine gs ?_ fun _ _k => XS.icmpYes X10.here hx rfl (pc0 := 284) (pc' := 292) rfl (hb hby d21_284) rfl (flt (by decide : ¬ ((12 : Int32) < (2 : Int32)))).2.2.2 (by decide) (by decide) _k
 refine gs ?_ fun _ _k => XS.aloadN X10.here hx rfl (hb hby d21_292) rfl rfl _k
 refine gs ?_ fun _ _k => XS.iload X10.here hx rfl (hb hby d21_293) rfl _k
 show Go p e s _h _ _ _ T10 (mkF m 295 #[vR mp, vI (1 : Int32), vR kk, vR vv, vI (0 : Int32), vI (1 : Int32), vR tb, .val .null, vI (16 : Int32), vI (1 : Int32), vU, vU, vU] [(.int 1), (.ref mp)])
 have _A := ((_tb.other W5 (Or.inl _b)).other W7 (Or.inr (slot_ne (Or.inl (qw hw 201 rfl)) (Or.inl (qw hw 205 rfl)) (by decide) (t := (.object s_d)) (t' := .int) (by decide) (by decide)))).other W9 (Or.inr (slot_ne (Or.inl (qw hw 201 rfl)) (Or.inl (qw hw 207 rfl)) (by decide) (t := (.object s_d)) (t' := .int) (by decide) (by decide)))
 have K_9 := (((K0.trans K4 (allS (Or.inl (by simp)) (allS (Or.inl (by simp)) all0))).wr W5 (Or.inl (by simp))).wr W7 (Or.inl (by simp))).wr W9 (Or.inl (by simp))
 have _W := _za.wr W9
 have _k := ((_ib.other W5 (Or.inl _b)).other W7 (Or.inr (slot_ne (Or.inr (qw hw 30 rfl)) (Or.inl (qw hw 205 rfl)) (by decide) (t := .float) (t' := .int) (by decide) (by decide)))).other W9 (Or.inr (slot_ne (Or.inr (qw hw 30 rfl)) (Or.inl (qw hw 207 rfl)) (by decide) (t := .float) (t' := .int) (by decide) (by decide)))
 have _v := ((_jb.other W5 (Or.inl _b)).other W7 (Or.inr (slot_ne (Or.inl (qw hw 157 rfl)) (Or.inl (qw hw 205 rfl)) (by decide) (t := (.array (.object s_c))) (t' := .int) (by decide) (by decide)))).other W9 (Or.inr (slot_ne (Or.inl (qw hw 157 rfl)) (Or.inl (qw hw 207 rfl)) (by decide) (t := (.array (.object s_c))) (t' := .int) (by decide) (by decide)))
 have _o := _H.other W9 (Or.inr (slot_ne (Or.inl (qw hw 205 rfl)) (Or.inl (qw hw 207 rfl)) (by decide) (t := .int) (t' := .int) (by decide) (by decide)))
 have _B := ((_rb.other W5 (Or.inl _b)).other W7 (Or.inr (slot_ne (Or.inl (qw hw 203 rfl)) (Or.inl (qw hw 205 rfl)) (by decide) (t := (.object s_d)) (t' := .int) (by decide) (by decide)))).other W9 (Or.inr (slot_ne (Or.inl (qw hw 203 rfl)) (Or.inl (qw hw 207 rfl)) (by decide) (t := (.object s_d)) (t' := .int) (by decide) (by decide)))
 have _t := ((_ub.other W5 (Or.inl _b)).other W7 (Or.inr (slot_ne (Or.inl (qw hw 32 rfl)) (Or.inl (qw hw 205 rfl)) (by decide) (t := .int) (t' := .int) (by decide) (by decide)))).other W9 (Or.inr (slot_ne (Or.inl (qw hw 32 rfl)) (Or.inl (qw hw 207 rfl)) (by decide) (t := .int) (t' := .int) (by decide) (by decide)))
 have _i := ((_vb.other W5 (Or.inl _b)).other W7 (Or.inr (slot_ne (Or.inr (qw hw 34 rfl)) (Or.inl (qw hw 205 rfl)) (by decide) (t := .boolean) (t' := .int) (by decide) (by decide)))).other W9 (Or.inr (slot_ne (Or.inr (qw hw 34 rfl)) (Or.inl (qw hw 207 rfl)) (by decide) (t := .boolean) (t' := .int) (by decide) (by decide)))
 refine Go.callV (b := mp) (W := 0) (argsL := [(.int 1)]) (rest := []) X10 hx hZ _q (y := mn_12) (z := mn_9) (qw hw 208 rfl) (qw hw 209 rfl) (own_nf (notFace_of_selects (args := #[]) (mvT hZ (qw hw 154 rfl))) (mvT (args := #[]) hZ (qw hw 153 rfl)) rfl) (qw hw 211 rfl) (qw hw 212 rfl) (qw hw 11 rfl) (qw hw 213 rfl) (rmAI1 l Z a0 hw [] tb ea _c mp h9 n0 (Nat.le_trans Z0 K_9.1) _W _k _v _f _o _z _B _A _t _i) e10 _W (by decide) (by rw [hml]; rfl) (lenOf pd6 rfl) (Nat.le_of_eq rfl) (hb hby d21_295) ?_
 intro T11 v11 L11 h11 e11 X11 _yb
 obtain ⟨rfl, N11, K11⟩ := _yb
 have M11 := Fr.app N9 N11
 refine gs ?_ fun _ _k => XS.aconstNull X11.here hx rfl (hb hby d21_298) _k
 show Go p e s _h _ _ _ T11 (mkF m 299 #[vR mp, vI (1 : Int32), vR kk, vR vv, vI (0 : Int32), vI (1 : Int32), vR tb, .val .null, vI (16 : Int32), vI (1 : Int32), vU, vU, vU] [.null])
 have _zb := K_9.ext K11
 have _Fa := _W.ext K11
 have _w := _k.ext K11
 have _R := _v.ext K11
 have _y := _f.ext K11
 have _D := _o.ext K11
 have _aa := _z.ext K11
 have _ba := _B.ext K11
 have _ca := _A.ext K11
 have _I := _t.ext K11
 have _u := _i.ext K11
 have _Ga := (((_La.wr W5).wr W7).wr W9).ext K11
 have _da := (((_Ma.other W5 (Or.inl _d)).other W7 (Or.inl (Ne.symm _a))).other W9 (Or.inl (Ne.symm _a))).ext K11
 have _ha := (((_Na.other W5 (Or.inl _d)).other W7 (Or.inl (Ne.symm _a))).other W9 (Or.inl (Ne.symm _a))).ext K11
 have _S := (((_Oa.other W5 (Or.inl _d)).other W7 (Or.inl (Ne.symm _a))).other W9 (Or.inl (Ne.symm _a))).ext K11
 have _fa := (((_Pa.other W5 (Or.inl _d)).other W7 (Or.inl (Ne.symm _a))).other W9 (Or.inl (Ne.symm _a))).ext K11
 have _M := (((_Qa.other W5 (Or.inl _d)).other W7 (Or.inl (Ne.symm _a))).other W9 (Or.inl (Ne.symm _a))).ext K11
 have _T := (((_Ra.other W5 (Or.inl _d)).other W7 (Or.inl (Ne.symm _a))).other W9 (Or.inl (Ne.symm _a))).ext K11
 have _Ha := ((_Ka.other W7 (Ne.symm _b)).other W9 (Ne.symm _b)).ext K11
 have _Aa := (((_Ea.wr W5).wr W7).wr W9).ext K11
 have _N : tb ≠ _c := Nat.ne_of_lt (Nat.lt_of_lt_of_le (_oa).lt _qa)
 have _j : mp ≠ _c := Nat.ne_of_lt (Nat.lt_of_lt_of_le (_Ca).lt _qa)
 have _O := (((_Sa.other W5 (Or.inl (Ne.symm _N))).other W7 (Or.inl (Ne.symm _j))).other W9 (Or.inl (Ne.symm _j))).ext K11
 have _U := (((_Ta.other W5 (Or.inl (Ne.symm _N))).other W7 (Or.inl (Ne.symm _j))).other W9 (Or.inl (Ne.symm _j))).ext K11
 have _J := (((_Ua.other W5 (Or.inl (Ne.symm _N))).other W7 (Or.inl (Ne.symm _j))).other W9 (Or.inl (Ne.symm _j))).ext K11
 have _P := (((_Va.other W5 (Or.inl (Ne.symm _N))).other W7 (Or.inl (Ne.symm _j))).other W9 (Or.inl (Ne.symm _j))).ext K11
 have _E := (((_Wa.other W5 (Or.inl (Ne.symm _N))).other W7 (Or.inl (Ne.symm _j))).other W9 (Or.inl (Ne.symm _j))).ext K11
 have _K := (((_ab.other W5 (Or.inl (Ne.symm _N))).other W7 (Or.inl (Ne.symm _j))).other W9 (Or.inl (Ne.symm _j))).ext K11
 exact Go.retA X11 hx hlk _gb rfl rfl (hb hby d21_299) (by decide) (by decide) ⟨_c, rfl, M11, (by rw [e11]; exact _zb), _Ia, (by rw [e11]; exact _Fa), (by rw [e11]; exact _w), (by rw [e11]; exact _R), (by rw [e11]; exact _y), (by rw [e11]; exact _D), (by rw [e11]; exact _aa), (by rw [e11]; exact _ba), (by rw [e11]; exact _ca), (by rw [e11]; exact _I), (by rw [e11]; exact _u), (by rw [e11]; exact _Ga), (by rw [e11]; exact _da), (by rw [e11]; exact _ha), (by rw [e11]; exact _S), (by rw [e11]; exact _fa), (by rw [e11]; exact _M), (by rw [e11]; exact _T), (by rw [e11]; exact _Ha), (by rw [e11]; exact _Aa), (by rw [e11]; exact _O), (by rw [e11]; exact _U), (by rw [e11]; exact _J), (by rw [e11]; exact _P), (by rw [e11]; exact _E), (by rw [e11]; exact _K)⟩
theorem own_nfO {s : State} {a : Array Value} {y : MethodName} (w : (Jvm.Cond.noSuperclass y.cls).before a s = true) : NotFace s y := fun r h => by
  obtain ⟨c, k, h1, h2, h3, h4, h5⟩ := Cond.noSuperclass_spec w
  have e := findClass_of_methodNamed h
  rw [h1] at e
  have e3 : c = r.cls := Option.some.inj e
  rw [← e3]
  exact ⟨k, h2, h5⟩

theorem d20_0 : decode bc20 0 = .ok (.iload_n 0, 1) := by decide +kernel
theorem d20_1 : decode bc20 1 = .ok (.ireturn, 1) := by decide +kernel
theorem ef_HS (m : MethodId) (x0 : Int32) : entryFrame m #[(.int x0)] 1 = mkF m 0 #[.val (.int x0)] [] := by first | (simp [entryFrame, mkF, argsToLocals, Value.category]; done) | rfl
theorem rmHS (l : Launch) (Z : State) (a0 : Array Value) (hw : HW a0 Z) (ws : List Jvm.Cond) (vi : Int32) (h0 : Heap) (n0 : Nat) (Z0 : n0 ≤ h0.size) :
  Meets l Z mn_13 jdk_33_method_33_code 1 (some .int) ({ frames := 0, cells := 0, slots := 0, locals := 0 } : Room) ws #[(.int vi)] h0 (fun v h L => v = some (.int vi) ∧ Fr n0 L ∧ Ext h0 h) := by
 refine Meets.of (plainFor_of_name pn_5) ?_
 intro p e s m _a _d c s₁ X0 hx hby hml _c hlk hnm hZ _b e0
 replace _b : s.vm.findClass s_i = some m.cls := _b
 have N0 := Fr.nil n0
 have Q0 := own_extR h0
 refine Go.cast (ef_HS m vi) ?_
 show Go p e s _a _ _ _ s₁ (mkF m 0 #[vI vi] [])
 refine gs ?_ fun _ _k => XS.iloadN X0.here hx rfl (hb hby d20_0) rfl _k
 show Go p e s _a _ _ _ s₁ (mkF m 1 #[vI vi] [(.int vi)])
 exact Go.retI X0 hx hlk _c (hb hby d20_1) (by decide) (by decide) ⟨rfl, N0, (by rw [e0]; exact Q0)⟩
theorem pd7 : parseMethodDescriptor "(I)I" = some ⟨[.int], some .int⟩ := by decide +kernel
theorem d19_0 : decode bc19 0 = .ok (.aload_n 0, 1) := by decide +kernel
theorem d19_1 : decode bc19 1 = .ok (.getfield 205, 3) := by decide +kernel
theorem d19_4 : decode bc19 4 = .ok (.invokestatic 208, 3) := by decide +kernel
theorem d19_7 : decode bc19 7 = .ok (.ireturn, 1) := by decide +kernel
theorem ef_IH (m : MethodId) (x0 : Addr) : entryFrame m #[(.ref x0)] 1 = mkF m 0 #[.val (.ref x0)] [] := by first | (simp [entryFrame, mkF, argsToLocals, Value.category]; done) | rfl
theorem rmIH (l : Launch) (Z : State) (a0 : Array Value) (hw : HW a0 Z) (ws : List Jvm.Cond) (vi : Int32) (ib : Addr) (h0 : Heap) (n0 : Nat) (Z0 : n0 ≤ h0.size) (_f : Exa Z h0 ib s_i) (_a : Fld Z h0 ib s_i "value" "I" (.int vi)) :
  Meets l Z mn_14 jdk_33_method_32_code 1 (some .int) ({ frames := 1, cells := 0, slots := 0, locals := 12 } : Room) ws #[(.ref ib)] h0 (fun v h L => v = some (.int vi) ∧ Fr n0 L ∧ Ext h0 h) := by
 refine Meets.of (plainFor_of_name pn_5) ?_
 intro p e s m _b _g c s₁ X0 hx hby hml _d hlk hnm hZ _c e0
 replace _c : s.vm.findClass s_i = some m.cls := _c
 have N0 := Fr.nil n0
 have Q0 := own_extR h0
 refine Go.cast (ef_IH m ib) ?_
 show Go p e s _b _ _ _ s₁ (mkF m 0 #[vR ib] [])
 refine gs ?_ fun _ _k => XS.aloadN X0.here hx rfl (hb hby d19_0) rfl rfl _k
 obtain ⟨T1, X1, e1, st1⟩ := getF X0 hx hZ _c (host := "") (Or.inl (qw hw 146 rfl)) Via.refl e0 _a (g := (mkF m 1 #[vR ib] [(.ref ib)])) rfl rfl (hb hby d19_1)
 refine Go.st st1 ?_
 show Go p e s _b _ _ _ T1 (mkF m 4 #[vR ib] [(.int vi)])
 refine Go.callS (W := 0) (argsL := [(.int vi)]) (rest := []) X1 hx hZ _c (y := mn_13) (qw hw 148 rfl) (qw hw 149 rfl) (qw hw 41 rfl) (qw hw 150 rfl) (rmHS l Z a0 hw [] vi h0 n0 (Nat.le_trans Z0 Q0.1)) e1 (by decide) (by rw [hml]; rfl) (lenOf pd7 rfl) (Nat.le_of_eq rfl) (hb hby d19_4) ?_
 intro T2 v2 L2 h2 e2 X2 hQ2
 obtain ⟨rfl, N2, K2⟩ := hQ2
 have M2 := Fr.app N0 N2
 show Go p e s _b _ _ _ T2 (mkF m 7 #[vR ib] [(.int vi)])
 have Q_2 := own_extE Q0 K2
 exact Go.retI X2 hx hlk _d (hb hby d19_7) (by decide) (by decide) ⟨rfl, M2, (by rw [e2]; exact Q_2)⟩
theorem pd8 : parseMethodDescriptor "()I" = some ⟨[], some .int⟩ := by decide +kernel
theorem d18_0 : decode bc18 0 = .ok (.aload_n 0, 1) := by decide +kernel
theorem d18_1 : decode bc18 1 = .ok (.ifnonnull 7, 3) := by decide +kernel
theorem d18_8 : decode bc18 8 = .ok (.aload_n 0, 1) := by decide +kernel
theorem d18_9 : decode bc18 9 = .ok (.invokevirtual 1, 3) := by decide +kernel
theorem d18_12 : decode bc18 12 = .ok (.dup, 1) := by decide +kernel
theorem d18_13 : decode bc18 13 = .ok (.istore_n 1, 1) := by decide +kernel
theorem d18_14 : decode bc18 14 = .ok (.iload_n 1, 1) := by decide +kernel
theorem d18_15 : decode bc18 15 = .ok (.bipush 16, 2) := by decide +kernel
theorem d18_17 : decode bc18 17 = .ok (.iushr, 1) := by decide +kernel
theorem d18_18 : decode bc18 18 = .ok (.ixor, 1) := by decide +kernel
theorem d18_19 : decode bc18 19 = .ok (.ireturn, 1) := by decide +kernel
theorem ef_HA0 (m : MethodId) (x0 : Addr) : entryFrame m #[(.ref x0)] 2 = mkF m 0 #[.val (.ref x0), .unset] [] := by first | (simp [entryFrame, mkF, argsToLocals, Value.category]; done) | rfl
theorem rmHA0 (l : Launch) (Z : State) (a0 : Array Value) (hw : HW a0 Z) (ws : List Jvm.Cond) (ib : Addr) (h0 : Heap) (n0 : Nat) (Z0 : n0 ≤ h0.size) (_d : Exa Z h0 ib s_i) (_b : Fld Z h0 ib s_i "value" "I" (.int 0)) :
  Meets l Z mn_15 jdk_69_method_1_code 2 (some .int) ({ frames := 2, cells := 0, slots := 0, locals := 24 } : Room) ws #[(.ref ib)] h0 (fun v h L => v = some (.int 0) ∧ Fr n0 L ∧ Ext h0 h) := by
 refine Meets.of (plainFor_of_name pn_1) ?_
 intro p e s m _a _g c s₁ X0 hx hby hml _f hlk hnm hZ _c e0
 replace _c : s.vm.findClass s_j = some m.cls := _c
 have N0 := Fr.nil n0
 have Q0 := own_extR h0
 refine Go.cast (ef_HA0 m ib) ?_
 show Go p e s _a _ _ _ s₁ (mkF m 0 #[vR ib, vU] [])
 refine gs ?_ fun _ _k => XS.aloadN X0.here hx rfl (hb hby d18_0) rfl rfl _k
 refine gs ?_ fun _ _k => XS.ifnonnullYes X0.here hx rfl (pc0 := 1) (pc' := 8) rfl (hb hby d18_1) rfl (by decide) (by decide) _k
 refine gs ?_ fun _ _k => XS.aloadN X0.here hx rfl (hb hby d18_8) rfl rfl _k
 show Go p e s _a _ _ _ s₁ (mkF m 9 #[vR ib, vU] [(.ref ib)])
 refine Go.callV (b := ib) (W := 0) (argsL := []) (rest := []) X0 hx hZ _c (y := mn_16) (z := mn_14) (qw hw 140 rfl) (qw hw 141 rfl) (own_nfO (a := #[]) (mvT hZ (qw hw 94 rfl))) (qw hw 143 rfl) (qw hw 144 rfl) (qw hw 41 rfl) (qw hw 145 rfl) (rmIH l Z a0 hw [] (0 : Int32) ib h0 n0 (Nat.le_trans Z0 Q0.1) _d _b) e0 _d (by decide) (by rw [hml]; rfl) (lenOf pd8 rfl) (Nat.le_of_eq rfl) (hb hby d18_9) ?_
 intro T1 v1 L1 h1 e1 X1 hQ1
 obtain ⟨rfl, N1, K1⟩ := hQ1
 have M1 := Fr.app N0 N1
 refine gs ?_ fun _ _k => XS.dup X1.here hx rfl (hb hby d18_12) rfl rfl _k
 refine gs ?_ fun _ _k => XS.istoreN X1.here hx rfl (hb hby d18_13) rfl (l' := #[vR ib, vI (0 : Int32)]) rfl _k
 refine gs ?_ fun _ _k => XS.iloadN X1.here hx rfl (hb hby d18_14) rfl _k
 refine gs ?_ fun _ _k => XT.bipushV X1.here hx rfl (16 : Int32) (hb hby d18_15) (by decide) _k
 refine gs ?_ fun _ _k => XS.iushr X1.here hx rfl (hb hby d18_17) rfl _k
 refine gs ?_ fun _ _k => XS.ixor X1.here hx rfl (hb hby d18_18) rfl _k
 show Go p e s _a _ _ _ T1 (mkF m 19 #[vR ib, vI (0 : Int32)] [(.int ((0 : Int32) ^^^ (((0 : Int32).toUInt32 >>> ((16 : Int32) &&& 31).toUInt32).toInt32)))])
 rw [show ((0 : Int32) ^^^ (((0 : Int32).toUInt32 >>> ((16 : Int32) &&& 31).toUInt32).toInt32)) = (0 : Int32) from by decide]
 show Go p e s _a _ _ _ T1 (mkF m 19 #[vR ib, vI (0 : Int32)] [(.int 0)])
 have Q_1 := own_extE Q0 K1
 exact Go.retI X1 hx hlk _f (hb hby d18_19) (by decide) (by decide) ⟨rfl, M1, (by rw [e1]; exact Q_1)⟩
theorem ef_HA1 (m : MethodId) (x0 : Addr) : entryFrame m #[(.ref x0)] 2 = mkF m 0 #[.val (.ref x0), .unset] [] := by first | (simp [entryFrame, mkF, argsToLocals, Value.category]; done) | rfl
theorem rmHA1 (l : Launch) (Z : State) (a0 : Array Value) (hw : HW a0 Z) (ws : List Jvm.Cond) (ib : Addr) (h0 : Heap) (n0 : Nat) (Z0 : n0 ≤ h0.size) (_d : Exa Z h0 ib s_i) (_b : Fld Z h0 ib s_i "value" "I" (.int 1)) :
  Meets l Z mn_15 jdk_69_method_1_code 2 (some .int) ({ frames := 2, cells := 0, slots := 0, locals := 24 } : Room) ws #[(.ref ib)] h0 (fun v h L => v = some (.int 1) ∧ Fr n0 L ∧ Ext h0 h) := by
 refine Meets.of (plainFor_of_name pn_1) ?_
 intro p e s m _a _g c s₁ X0 hx hby hml _f hlk hnm hZ _c e0
 replace _c : s.vm.findClass s_j = some m.cls := _c
 have N0 := Fr.nil n0
 have Q0 := own_extR h0
 refine Go.cast (ef_HA1 m ib) ?_
 show Go p e s _a _ _ _ s₁ (mkF m 0 #[vR ib, vU] [])
 refine gs ?_ fun _ _k => XS.aloadN X0.here hx rfl (hb hby d18_0) rfl rfl _k
 refine gs ?_ fun _ _k => XS.ifnonnullYes X0.here hx rfl (pc0 := 1) (pc' := 8) rfl (hb hby d18_1) rfl (by decide) (by decide) _k
 refine gs ?_ fun _ _k => XS.aloadN X0.here hx rfl (hb hby d18_8) rfl rfl _k
 show Go p e s _a _ _ _ s₁ (mkF m 9 #[vR ib, vU] [(.ref ib)])
 refine Go.callV (b := ib) (W := 0) (argsL := []) (rest := []) X0 hx hZ _c (y := mn_16) (z := mn_14) (qw hw 140 rfl) (qw hw 141 rfl) (own_nfO (a := #[]) (mvT hZ (qw hw 94 rfl))) (qw hw 143 rfl) (qw hw 144 rfl) (qw hw 41 rfl) (qw hw 145 rfl) (rmIH l Z a0 hw [] (1 : Int32) ib h0 n0 (Nat.le_trans Z0 Q0.1) _d _b) e0 _d (by decide) (by rw [hml]; rfl) (lenOf pd8 rfl) (Nat.le_of_eq rfl) (hb hby d18_9) ?_
 intro T1 v1 L1 h1 e1 X1 hQ1
 obtain ⟨rfl, N1, K1⟩ := hQ1
 have M1 := Fr.app N0 N1
 refine gs ?_ fun _ _k => XS.dup X1.here hx rfl (hb hby d18_12) rfl rfl _k
 refine gs ?_ fun _ _k => XS.istoreN X1.here hx rfl (hb hby d18_13) rfl (l' := #[vR ib, vI (1 : Int32)]) rfl _k
 refine gs ?_ fun _ _k => XS.iloadN X1.here hx rfl (hb hby d18_14) rfl _k
 refine gs ?_ fun _ _k => XT.bipushV X1.here hx rfl (16 : Int32) (hb hby d18_15) (by decide) _k
 refine gs ?_ fun _ _k => XS.iushr X1.here hx rfl (hb hby d18_17) rfl _k
 refine gs ?_ fun _ _k => XS.ixor X1.here hx rfl (hb hby d18_18) rfl _k
 show Go p e s _a _ _ _ T1 (mkF m 19 #[vR ib, vI (1 : Int32)] [(.int ((1 : Int32) ^^^ (((1 : Int32).toUInt32 >>> ((16 : Int32) &&& 31).toUInt32).toInt32)))])
 rw [show ((1 : Int32) ^^^ (((1 : Int32).toUInt32 >>> ((16 : Int32) &&& 31).toUInt32).toInt32)) = (1 : Int32) from by decide]
 show Go p e s _a _ _ _ T1 (mkF m 19 #[vR ib, vI (1 : Int32)] [(.int 1)])
 have Q_1 := own_extE Q0 K1
 exact Go.retI X1 hx hlk _f (hb hby d18_19) (by decide) (by decide) ⟨rfl, M1, (by rw [e1]; exact Q_1)⟩
theorem ef_HA2 (m : MethodId) (x0 : Addr) : entryFrame m #[(.ref x0)] 2 = mkF m 0 #[.val (.ref x0), .unset] [] := by first | (simp [entryFrame, mkF, argsToLocals, Value.category]; done) | rfl
theorem rmHA2 (l : Launch) (Z : State) (a0 : Array Value) (hw : HW a0 Z) (ws : List Jvm.Cond) (ib : Addr) (h0 : Heap) (n0 : Nat) (Z0 : n0 ≤ h0.size) (_d : Exa Z h0 ib s_i) (_b : Fld Z h0 ib s_i "value" "I" (.int 2)) :
  Meets l Z mn_15 jdk_69_method_1_code 2 (some .int) ({ frames := 2, cells := 0, slots := 0, locals := 24 } : Room) ws #[(.ref ib)] h0 (fun v h L => v = some (.int 2) ∧ Fr n0 L ∧ Ext h0 h) := by
 refine Meets.of (plainFor_of_name pn_1) ?_
 intro p e s m _a _g c s₁ X0 hx hby hml _f hlk hnm hZ _c e0
 replace _c : s.vm.findClass s_j = some m.cls := _c
 have N0 := Fr.nil n0
 have Q0 := own_extR h0
 refine Go.cast (ef_HA2 m ib) ?_
 show Go p e s _a _ _ _ s₁ (mkF m 0 #[vR ib, vU] [])
 refine gs ?_ fun _ _k => XS.aloadN X0.here hx rfl (hb hby d18_0) rfl rfl _k
 refine gs ?_ fun _ _k => XS.ifnonnullYes X0.here hx rfl (pc0 := 1) (pc' := 8) rfl (hb hby d18_1) rfl (by decide) (by decide) _k
 refine gs ?_ fun _ _k => XS.aloadN X0.here hx rfl (hb hby d18_8) rfl rfl _k
 show Go p e s _a _ _ _ s₁ (mkF m 9 #[vR ib, vU] [(.ref ib)])
 refine Go.callV (b := ib) (W := 0) (argsL := []) (rest := []) X0 hx hZ _c (y := mn_16) (z := mn_14) (qw hw 140 rfl) (qw hw 141 rfl) (own_nfO (a := #[]) (mvT hZ (qw hw 94 rfl))) (qw hw 143 rfl) (qw hw 144 rfl) (qw hw 41 rfl) (qw hw 145 rfl) (rmIH l Z a0 hw [] (2 : Int32) ib h0 n0 (Nat.le_trans Z0 Q0.1) _d _b) e0 _d (by decide) (by rw [hml]; rfl) (lenOf pd8 rfl) (Nat.le_of_eq rfl) (hb hby d18_9) ?_
 intro T1 v1 L1 h1 e1 X1 hQ1
 obtain ⟨rfl, N1, K1⟩ := hQ1
 have M1 := Fr.app N0 N1
 refine gs ?_ fun _ _k => XS.dup X1.here hx rfl (hb hby d18_12) rfl rfl _k
 refine gs ?_ fun _ _k => XS.istoreN X1.here hx rfl (hb hby d18_13) rfl (l' := #[vR ib, vI (2 : Int32)]) rfl _k
 refine gs ?_ fun _ _k => XS.iloadN X1.here hx rfl (hb hby d18_14) rfl _k
 refine gs ?_ fun _ _k => XT.bipushV X1.here hx rfl (16 : Int32) (hb hby d18_15) (by decide) _k
 refine gs ?_ fun _ _k => XS.iushr X1.here hx rfl (hb hby d18_17) rfl _k
 refine gs ?_ fun _ _k => XS.ixor X1.here hx rfl (hb hby d18_18) rfl _k
 show Go p e s _a _ _ _ T1 (mkF m 19 #[vR ib, vI (2 : Int32)] [(.int ((2 : Int32) ^^^ (((2 : Int32).toUInt32 >>> ((16 : Int32) &&& 31).toUInt32).toInt32)))])
 rw [show ((2 : Int32) ^^^ (((2 : Int32).toUInt32 >>> ((16 : Int32) &&& 31).toUInt32).toInt32)) = (2 : Int32) from by decide]
 show Go p e s _a _ _ _ T1 (mkF m 19 #[vR ib, vI (2 : Int32)] [(.int 2)])
 have Q_1 := own_extE Q0 K1
 exact Go.retI X1 hx hlk _f (hb hby d18_19) (by decide) (by decide) ⟨rfl, M1, (by rw [e1]; exact Q_1)⟩
theorem d18_4 : decode bc18 4 = .ok (.iconst 0, 1) := by decide +kernel
theorem d18_5 : decode bc18 5 = .ok (.goto 14, 3) := by decide +kernel
theorem ef_HAN (m : MethodId)  : entryFrame m #[.null] 2 = mkF m 0 #[.val .null, .unset] [] := by first | (simp [entryFrame, mkF, argsToLocals, Value.category]; done) | rfl
theorem rmHAN (l : Launch) (Z : State) (a0 : Array Value) (hw : HW a0 Z) (ws : List Jvm.Cond) (h0 : Heap) (n0 : Nat) (Z0 : n0 ≤ h0.size) :
  Meets l Z mn_15 jdk_69_method_1_code 2 (some .int) ({ frames := 0, cells := 0, slots := 0, locals := 0 } : Room) ws #[.null] h0 (fun v h L => v = some (.int 0) ∧ Fr n0 L ∧ Ext h0 h) := by
 refine Meets.of (plainFor_of_name pn_1) ?_
 intro p e s m _a _d c s₁ X0 hx hby hml _c hlk hnm hZ _b e0
 replace _b : s.vm.findClass s_j = some m.cls := _b
 have N0 := Fr.nil n0
 have Q0 := own_extR h0
 refine Go.cast (ef_HAN m ) ?_
 show Go p e s _a _ _ _ s₁ (mkF m 0 #[.val .null, vU] [])
 refine gs ?_ fun _ _k => XS.aloadN X0.here hx rfl (hb hby d18_0) rfl rfl _k
 refine gs ?_ fun _ _k => XS.ifnonnullNo X0.here hx rfl (hb hby d18_1) rfl _k
 refine gs ?_ fun _ _k => XT.iconstV X0.here hx rfl (0 : Int32) (hb hby d18_4) (by decide) _k
 refine gs ?_ fun _ _k => XS.goto X0.here hx rfl (pc0 := 5) (pc' := 19) rfl (hb hby d18_5) (by decide) (by decide) _k
 show Go p e s _a _ _ _ s₁ (mkF m 19 #[.val .null, vU] [(.int 0)])
 exact Go.retI X0 hx hlk _c (hb hby d18_19) (by decide) (by decide) ⟨rfl, N0, (by rw [e0]; exact Q0)⟩
theorem pd9 : parseMethodDescriptor "(Ljava/lang/Object;)I" = some ⟨[(.object s_e)], some .int⟩ := by decide +kernel
theorem pd10 : parseMethodDescriptor "(ILjava/lang/Object;Ljava/lang/Object;ZZ)Ljava/lang/Object;" = some ⟨[.int, (.object s_e), (.object s_e), .boolean, .boolean], some (.object s_e)⟩ := by decide +kernel
theorem d17_0 : decode bc17 0 = .ok (.aload_n 0, 1) := by decide +kernel
theorem d17_1 : decode bc17 1 = .ok (.aload_n 1, 1) := by decide +kernel
theorem d17_2 : decode bc17 2 = .ok (.invokestatic 149, 3) := by decide +kernel
theorem d17_5 : decode bc17 5 = .ok (.aload_n 1, 1) := by decide +kernel
theorem d17_6 : decode bc17 6 = .ok (.aload_n 2, 1) := by decide +kernel
theorem d17_7 : decode bc17 7 = .ok (.iconst 0, 1) := by decide +kernel
theorem d17_8 : decode bc17 8 = .ok (.iconst 1, 1) := by decide +kernel
theorem d17_9 : decode bc17 9 = .ok (.invokevirtual 152, 3) := by decide +kernel
theorem d17_12 : decode bc17 12 = .ok (.areturn, 1) := by decide +kernel
theorem ef_T0 (m : MethodId) (x0 : Addr) (x1 : Addr) (x2 : Addr) : entryFrame m #[(.ref x0), (.ref x1), (.ref x2)] 3 = mkF m 0 #[.val (.ref x0), .val (.ref x1), .val (.ref x2)] [] := by first | (simp [entryFrame, mkF, argsToLocals, Value.category]; done) | rfl
theorem rmT0 (l : Launch) (Z : State) (a0 : Array Value) (hw : HW a0 Z) (ws : List Jvm.Cond) (vv : Addr) (mp : Addr) (ka : Addr) (h0 : Heap) (n0 : Nat) (Z0 : n0 ≤ h0.size) (_U : n0 ≤ mp) (_V : Exa Z h0 mp s_f) (_h : Fld Z h0 mp s_j "loadFactor" "F" (.float (1061158912 : UInt32))) (_z : Fld Z h0 mp s_j "table" s_p .null) (_k : Fld Z h0 mp s_j "threshold" "I" (.int 0)) (_q : Fld Z h0 mp s_j s_x "I" (.int 0)) (_C : Fld Z h0 mp s_j "size" "I" (.int 0)) (_D : Fld Z h0 mp s_f "head" s_h .null) (_E : Fld Z h0 mp s_f "tail" s_h .null) (_t : Fld Z h0 mp s_f "putMode" "I" (.int 0)) (_f : Fld Z h0 mp s_f "accessOrder" "Z" (.int (nar .boolean (0 : Int32)))) (_W : Exa Z h0 ka s_i) (_A : Fld Z h0 ka s_i "value" "I" (.int 0)) (_aa : ka ≠ mp) :
  Meets l Z mn_17 jdk_69_method_15_code 3 (some (.object s_e)) ({ frames := 5, cells := 2, slots := 22, locals := 88 } : Room) ws #[(.ref mp), (.ref ka), (.ref vv)] h0 (fun v h L => ∃ (_b : Addr) (_a : Addr) (_i : ClassId), v = some .null ∧ Fr n0 L ∧ Keep h0 h [mp] ∧ h0.size ≤ _b ∧ h0.size ≤ _a ∧ Exa Z h mp s_f ∧ Fld Z h mp s_j "loadFactor" "F" (.float (1061158912 : UInt32)) ∧ Fld Z h mp s_j "table" s_p (.ref _b) ∧ Fld Z h mp s_j "threshold" "I" (.int 12) ∧ Fld Z h mp s_j s_x "I" (.int 1) ∧ Fld Z h mp s_j "size" "I" (.int 1) ∧ Fld Z h mp s_f "head" s_h (.ref _a) ∧ Fld Z h mp s_f "tail" s_h (.ref _a) ∧ Fld Z h mp s_f "putMode" "I" (.int 0) ∧ Fld Z h mp s_f "accessOrder" "Z" (.int (nar .boolean (0 : Int32))) ∧ Arv Z h _b _i (.object s_c) (16 : Int32) [(.ref _a), .null, .null, .null, .null, .null, .null, .null, .null, .null, .null, .null, .null, .null, .null, .null] .null ∧ Exa Z h _a s_d ∧ Fld Z h _a s_c "hash" "I" (.int 0) ∧ Fld Z h _a s_c "key" s_l (.ref ka) ∧ Fld Z h _a s_c "value" s_l (.ref vv) ∧ Fld Z h _a s_c "next" s_q .null ∧ Fld Z h _a s_d "before" s_h .null ∧ Fld Z h _a s_d "after" s_h .null ∧ Ovr Z _i s_c ∧ _b ≠ _a) := by
 refine Meets.of (plainFor_of_name pn_1) ?_
 intro p e s m _r _ra c s₁ X0 hx hby hml _ba hlk hnm hZ _B e0
 replace _B : s.vm.findClass s_j = some m.cls := _B
 have N0 := Fr.nil n0
 have K0 := Keep.refl h0 [mp]
 refine Go.cast (ef_T0 m mp ka vv) ?_
 show Go p e s _r _ _ _ s₁ (mkF m 0 #[vR mp, vR ka, vR vv] [])
 refine gs ?_ fun _ _k => XS.aloadN X0.here hx rfl (hb hby d17_0) rfl rfl _k
 refine gs ?_ fun _ _k => XS.aloadN X0.here hx rfl (hb hby d17_1) rfl rfl _k
 show Go p e s _r _ _ _ s₁ (mkF m 2 #[vR mp, vR ka, vR vv] [(.ref ka), (.ref mp)])
 refine Go.callS (W := 1) (argsL := [(.ref ka)]) (rest := [(.ref mp)]) X0 hx hZ _B (y := mn_15) (qw hw 137 rfl) (qw hw 138 rfl) (qw hw 19 rfl) (qw hw 139 rfl) (rmHA0 l Z a0 hw [] ka h0 n0 (Nat.le_trans Z0 K0.1) _W _A) e0 (by decide) (by rw [hml]; rfl) (lenOf pd9 rfl) (Nat.le_of_eq rfl) (hb hby d17_2) ?_
 intro T1 v1 L1 h1 e1 X1 hQ1
 obtain ⟨rfl, N1, K1⟩ := hQ1
 have M1 := Fr.app N0 N1
 refine gs ?_ fun _ _k => XS.aloadN X1.here hx rfl (hb hby d17_5) rfl rfl _k
 refine gs ?_ fun _ _k => XS.aloadN X1.here hx rfl (hb hby d17_6) rfl rfl _k
 refine gs ?_ fun _ _k => XT.iconstV X1.here hx rfl (0 : Int32) (hb hby d17_7) (by decide) _k
 refine gs ?_ fun _ _k => XT.iconstV X1.here hx rfl (1 : Int32) (hb hby d17_8) (by decide) _k
 show Go p e s _r _ _ _ T1 (mkF m 9 #[vR mp, vR ka, vR vv] [(.int 1), (.int 0), (.ref vv), (.ref ka), (.int 0), (.ref mp)])
 have K_1 := K0.ext K1
 have _F := _V.ext K1
 have _d := _h.ext K1
 have _u := _z.ext K1
 have _g := _k.ext K1
 have _j := _q.ext K1
 have _v := _C.ext K1
 have _w := _D.ext K1
 have _y := _E.ext K1
 have _o := _t.ext K1
 have _c := _f.ext K1
 refine Go.callV (b := mp) (W := 0) (argsL := [(.int 0), (.ref ka), (.ref vv), (.int 0), (.int 1)]) (rest := []) X1 hx hZ _B (y := mn_10) (z := mn_10) (qw hw 151 rfl) (qw hw 152 rfl) (notFace_of_selects (args := #[]) (mvT hZ (qw hw 154 rfl))) (qw hw 154 rfl) (qw hw 153 rfl) (qw hw 19 rfl) (qw hw 155 rfl) (rmP0 l Z a0 hw [] ka vv mp h1 n0 (Nat.le_trans Z0 K_1.1) _U _F _d _u _g _j _v _w _y _o _c) e1 _F (by decide) (by rw [hml]; rfl) (lenOf pd10 rfl) (Nat.le_of_eq rfl) (hb hby d17_9) ?_
 intro T2 v2 L2 h2 e2 X2 hQ2
 obtain ⟨_b, _a, _i, rfl, N2, K2, _I, _J, _ca, _da, _fa, _ga, _ha, _ia, _ja, _ka, _oa, _qa, _K, _L, _M, _N, _O, _P, _Q, _R, _S, _T⟩ := hQ2
 have M2 := Fr.app M1 N2
 have _G : h0.size ≤ _b := Nat.le_trans K_1.1 _I
 have _H : h0.size ≤ _a := Nat.le_trans K_1.1 _J
 show Go p e s _r _ _ _ T2 (mkF m 12 #[vR mp, vR ka, vR vv] [.null])
 have K_2 := K_1.trans K2 (allS (Or.inl (by simp)) all0)
 exact Go.retA X2 hx hlk _ba rfl rfl (hb hby d17_12) (by decide) (by decide) ⟨_b, _a, _i, rfl, M2, (by rw [e2]; exact K_2), _G, _H, (by rw [e2]; exact _ca), (by rw [e2]; exact _da), (by rw [e2]; exact _fa), (by rw [e2]; exact _ga), (by rw [e2]; exact _ha), (by rw [e2]; exact _ia), (by rw [e2]; exact _ja), (by rw [e2]; exact _ka), (by rw [e2]; exact _oa), (by rw [e2]; exact _qa), (by rw [e2]; exact _K), (by rw [e2]; exact _L), (by rw [e2]; exact _M), (by rw [e2]; exact _N), (by rw [e2]; exact _O), (by rw [e2]; exact _P), (by rw [e2]; exact _Q), (by rw [e2]; exact _R), _S, _T⟩
theorem ef_T1 (m : MethodId) (x0 : Addr) (x1 : Addr) (x2 : Addr) : entryFrame m #[(.ref x0), (.ref x1), (.ref x2)] 3 = mkF m 0 #[.val (.ref x0), .val (.ref x1), .val (.ref x2)] [] := by first | (simp [entryFrame, mkF, argsToLocals, Value.category]; done) | rfl
theorem rmT1 (l : Launch) (Z : State) (a0 : Array Value) (hw : HW a0 Z) (ws : List Jvm.Cond) (ka : Addr) (va : Addr) (vv : Addr) (mp : Addr) (ea : Addr) (tb : Addr) (kb : Addr) (_D : ClassId) (h0 : Heap) (n0 : Nat) (Z0 : n0 ≤ h0.size) (_wa : n0 ≤ mp) (_ya : n0 ≤ ea) (_za : n0 ≤ tb) (_Aa : Exa Z h0 mp s_f) (_g : Fld Z h0 mp s_j "loadFactor" "F" (.float (1061158912 : UInt32))) (_E : Fld Z h0 mp s_j "table" s_p (.ref tb)) (_i : Fld Z h0 mp s_j "threshold" "I" (.int 12)) (_k : Fld Z h0 mp s_j s_x "I" (.int 1)) (_K : Fld Z h0 mp s_j "size" "I" (.int 1)) (_L : Fld Z h0 mp s_f "head" s_h (.ref ea)) (_M : Fld Z h0 mp s_f "tail" s_h (.ref ea)) (_r : Fld Z h0 mp s_f "putMode" "I" (.int 0)) (_d : Fld Z h0 mp s_f "accessOrder" "Z" (.int (nar .boolean (0 : Int32)))) (_Ba : Exa Z h0 ea s_d) (_N : Fld Z h0 ea s_c "hash" "I" (.int 0)) (_Q : Fld Z h0 ea s_c "key" s_l (.ref ka)) (_F : Fld Z h0 ea s_c "value" s_l (.ref va)) (_O : Fld Z h0 ea s_c "next" s_q .null) (_w : Fld Z h0 ea s_d "before" s_h .null) (_G : Fld Z h0 ea s_d "after" s_h .null) (_Ca : Arv Z h0 tb _D (.object s_c) (16 : Int32) [(.ref ea), .null, .null, .null, .null, .null, .null, .null, .null, .null, .null, .null, .null, .null, .null, .null] .null) (_Da : Ovr Z _D s_c) (_Ea : Exa Z h0 kb s_i) (_H : Fld Z h0 kb s_i "value" "I" (.int 1)) (_R : mp ≠ ea) (_S : mp ≠ tb) (_T : ea ≠ tb) (_Fa : kb ≠ mp) (_Ga : kb ≠ ea) (_Ha : kb ≠ tb) :
  Meets l Z mn_17 jdk_69_method_15_code 3 (some (.object s_e)) ({ frames := 5, cells := 1, slots := 6, locals := 88 } : Room) ws #[(.ref mp), (.ref kb), (.ref vv)] h0 (fun v h L => ∃ (_a : Addr), v = some .null ∧ Fr n0 L ∧ Keep h0 h [mp, ea, tb] ∧ h0.size ≤ _a ∧ Exa Z h mp s_f ∧ Fld Z h mp s_j "loadFactor" "F" (.float (1061158912 : UInt32)) ∧ Fld Z h mp s_j "table" s_p (.ref tb) ∧ Fld Z h mp s_j "threshold" "I" (.int 12) ∧ Fld Z h mp s_j s_x "I" (.int 2) ∧ Fld Z h mp s_j "size" "I" (.int 2) ∧ Fld Z h mp s_f "head" s_h (.ref ea) ∧ Fld Z h mp s_f "tail" s_h (.ref _a) ∧ Fld Z h mp s_f "putMode" "I" (.int 0) ∧ Fld Z h mp s_f "accessOrder" "Z" (.int (nar .boolean (0 : Int32))) ∧ Exa Z h ea s_d ∧ Fld Z h ea s_c "hash" "I" (.int 0) ∧ Fld Z h ea s_c "key" s_l (.ref ka) ∧ Fld Z h ea s_c "value" s_l (.ref va) ∧ Fld Z h ea s_c "next" s_q .null ∧ Fld Z h ea s_d "before" s_h .null ∧ Fld Z h ea s_d "after" s_h (.ref _a) ∧ Arv Z h tb _D (.object s_c) (16 : Int32) [(.ref ea), (.ref _a), .null, .null, .null, .null, .null, .null, .null, .null, .null, .null, .null, .null, .null, .null] .null ∧ Exa Z h _a s_d ∧ Fld Z h _a s_c "hash" "I" (.int 1) ∧ Fld Z h _a s_c "key" s_l (.ref kb) ∧ Fld Z h _a s_c "value" s_l (.ref vv) ∧ Fld Z h _a s_c "next" s_q .null ∧ Fld Z h _a s_d "before" s_h (.ref ea) ∧ Fld Z h _a s_d "after" s_h .null) := by
 refine Meets.of (plainFor_of_name pn_1) ?_
 intro p e s m _q _Ta c s₁ X0 hx hby hml _Ia hlk hnm hZ _I e0
 replace _I : s.vm.findClass s_j = some m.cls := _I
 have N0 := Fr.nil n0
 have K0 := Keep.refl h0 [mp, ea, tb]
 refine Go.cast (ef_T1 m mp kb vv) ?_
 show Go p e s _q _ _ _ s₁ (mkF m 0 #[vR mp, vR kb, vR vv] [])
 refine gs ?_ fun _ _k => XS.aloadN X0.here hx rfl (hb hby d17_0) rfl rfl _k
 refine gs ?_ fun _ _k => XS.aloadN X0.here hx rfl (hb hby d17_1) rfl rfl _k
 show Go p e s _q _ _ _ s₁ (mkF m 2 #[vR mp, vR kb, vR vv] [(.ref kb), (.ref mp)])
 refine Go.callS (W := 1) (argsL := [(.ref kb)]) (rest := [(.ref mp)]) X0 hx hZ _I (y := mn_15) (qw hw 137 rfl) (qw hw 138 rfl) (qw hw 19 rfl) (qw hw 139 rfl) (rmHA1 l Z a0 hw [] kb h0 n0 (Nat.le_trans Z0 K0.1) _Ea _H) e0 (by decide) (by rw [hml]; rfl) (lenOf pd9 rfl) (Nat.le_of_eq rfl) (hb hby d17_2) ?_
 intro T1 v1 L1 h1 e1 X1 hQ1
 obtain ⟨rfl, N1, K1⟩ := hQ1
 have M1 := Fr.app N0 N1
 refine gs ?_ fun _ _k => XS.aloadN X1.here hx rfl (hb hby d17_5) rfl rfl _k
 refine gs ?_ fun _ _k => XS.aloadN X1.here hx rfl (hb hby d17_6) rfl rfl _k
 refine gs ?_ fun _ _k => XT.iconstV X1.here hx rfl (0 : Int32) (hb hby d17_7) (by decide) _k
 refine gs ?_ fun _ _k => XT.iconstV X1.here hx rfl (1 : Int32) (hb hby d17_8) (by decide) _k
 show Go p e s _q _ _ _ T1 (mkF m 9 #[vR mp, vR kb, vR vv] [(.int 1), (.int 0), (.ref vv), (.ref kb), (.int 1), (.ref mp)])
 have K_1 := K0.ext K1
 have _P := _Aa.ext K1
 have _c := _g.ext K1
 have _t := _E.ext K1
 have _f := _i.ext K1
 have _h := _k.ext K1
 have _y := _K.ext K1
 have _z := _L.ext K1
 have _A := _M.ext K1
 have _j := _r.ext K1
 have _b := _d.ext K1
 have _V := _Ba.ext K1
 have _B := _N.ext K1
 have _J := _Q.ext K1
 have _u := _F.ext K1
 have _C := _O.ext K1
 have _o := _w.ext K1
 have _v := _G.ext K1
 have _W := _Ca.ext K1
 refine Go.callV (b := mp) (W := 0) (argsL := [(.int 1), (.ref kb), (.ref vv), (.int 0), (.int 1)]) (rest := []) X1 hx hZ _I (y := mn_10) (z := mn_10) (qw hw 151 rfl) (qw hw 152 rfl) (notFace_of_selects (args := #[]) (mvT hZ (qw hw 154 rfl))) (qw hw 154 rfl) (qw hw 153 rfl) (qw hw 19 rfl) (qw hw 155 rfl) (rmP1 l Z a0 hw [] (0 : Int32) ka va kb vv mp ea tb _D h1 n0 (Nat.le_trans Z0 K_1.1) _wa _ya _za _P _c _t _f _h _y _z _A _j _b _V _B _J _u _C _o _v _W _Da _R _S _T) e1 _P (by decide) (by rw [hml]; rfl) (lenOf pd10 rfl) (Nat.le_of_eq rfl) (hb hby d17_9) ?_
 intro T2 v2 L2 h2 e2 X2 hQ2
 obtain ⟨_a, rfl, N2, K2, _aa, _Ja, _Ka, _La, _Ma, _Na, _Oa, _Pa, _Qa, _Ra, _Sa, _ba, _ca, _da, _fa, _ga, _ha, _ia, _ja, _ka, _oa, _qa, _ra, _ta, _ua, _va⟩ := hQ2
 have M2 := Fr.app M1 N2
 have _U : h0.size ≤ _a := Nat.le_trans K_1.1 _aa
 show Go p e s _q _ _ _ T2 (mkF m 12 #[vR mp, vR kb, vR vv] [.null])
 have K_2 := K_1.trans K2 (allS (Or.inl (by simp)) (allS (Or.inl (by simp)) (allS (Or.inl (by simp)) all0)))
 exact Go.retA X2 hx hlk _Ia rfl rfl (hb hby d17_12) (by decide) (by decide) ⟨_a, rfl, M2, (by rw [e2]; exact K_2), _U, (by rw [e2]; exact _Ja), (by rw [e2]; exact _Ka), (by rw [e2]; exact _La), (by rw [e2]; exact _Ma), (by rw [e2]; exact _Na), (by rw [e2]; exact _Oa), (by rw [e2]; exact _Pa), (by rw [e2]; exact _Qa), (by rw [e2]; exact _Ra), (by rw [e2]; exact _Sa), (by rw [e2]; exact _ba), (by rw [e2]; exact _ca), (by rw [e2]; exact _da), (by rw [e2]; exact _fa), (by rw [e2]; exact _ga), (by rw [e2]; exact _ha), (by rw [e2]; exact _ia), (by rw [e2]; exact _ja), (by rw [e2]; exact _ka), (by rw [e2]; exact _oa), (by rw [e2]; exact _qa), (by rw [e2]; exact _ra), (by rw [e2]; exact _ta), (by rw [e2]; exact _ua), (by rw [e2]; exact _va)⟩
theorem d50_0 : decode bc50 0 = .ok (.aload_n 0, 1) := by decide +kernel
theorem d50_1 : decode bc50 1 = .ok (.getfield 105, 3) := by decide +kernel
theorem d50_4 : decode bc50 4 = .ok (.dup, 1) := by decide +kernel
theorem d50_5 : decode bc50 5 = .ok (.astore_n 2, 1) := by decide +kernel
theorem d50_6 : decode bc50 6 = .ok (.ifnull 142, 3) := by decide +kernel
theorem d50_9 : decode bc50 9 = .ok (.aload_n 2, 1) := by decide +kernel
theorem d50_10 : decode bc50 10 = .ok (.arraylength, 1) := by decide +kernel
theorem d50_11 : decode bc50 11 = .ok (.dup, 1) := by decide +kernel
theorem d50_12 : decode bc50 12 = .ok (.istore 5, 2) := by decide +kernel
theorem d50_14 : decode bc50 14 = .ok (.ifCond .le 134, 3) := by decide +kernel
theorem d50_17 : decode bc50 17 = .ok (.aload_n 2, 1) := by decide +kernel
theorem d50_18 : decode bc50 18 = .ok (.iload 5, 2) := by decide +kernel
theorem d50_20 : decode bc50 20 = .ok (.iconst 1, 1) := by decide +kernel
theorem d50_21 : decode bc50 21 = .ok (.isub, 1) := by decide +kernel
theorem d50_22 : decode bc50 22 = .ok (.aload_n 1, 1) := by decide +kernel
theorem d50_23 : decode bc50 23 = .ok (.invokestatic 149, 3) := by decide +kernel
theorem d50_26 : decode bc50 26 = .ok (.dup, 1) := by decide +kernel
theorem d50_27 : decode bc50 27 = .ok (.istore 6, 2) := by decide +kernel
theorem d50_29 : decode bc50 29 = .ok (.iand, 1) := by decide +kernel
theorem d50_30 : decode bc50 30 = .ok (.aaload, 1) := by decide +kernel
theorem d50_31 : decode bc50 31 = .ok (.dup, 1) := by decide +kernel
theorem d50_32 : decode bc50 32 = .ok (.astore_n 3, 1) := by decide +kernel
theorem d50_33 : decode bc50 33 = .ok (.ifnull 115, 3) := by decide +kernel
theorem d50_36 : decode bc50 36 = .ok (.aload_n 3, 1) := by decide +kernel
theorem d50_37 : decode bc50 37 = .ok (.getfield 168, 3) := by decide +kernel
theorem d50_40 : decode bc50 40 = .ok (.iload 6, 2) := by decide +kernel
theorem d50_42 : decode bc50 42 = .ok (.if_icmp .ne 29, 3) := by decide +kernel
theorem d50_45 : decode bc50 45 = .ok (.aload_n 3, 1) := by decide +kernel
theorem d50_46 : decode bc50 46 = .ok (.getfield 170, 3) := by decide +kernel
theorem d50_49 : decode bc50 49 = .ok (.dup, 1) := by decide +kernel
theorem d50_50 : decode bc50 50 = .ok (.astore 7, 2) := by decide +kernel
theorem d50_52 : decode bc50 52 = .ok (.aload_n 1, 1) := by decide +kernel
theorem d50_53 : decode bc50 53 = .ok (.if_acmp .eq 16, 3) := by decide +kernel
theorem d50_69 : decode bc50 69 = .ok (.aload_n 3, 1) := by decide +kernel
theorem d50_70 : decode bc50 70 = .ok (.areturn, 1) := by decide +kernel
theorem ef_Ga (m : MethodId) (x0 : Addr) (x1 : Addr) : entryFrame m #[(.ref x0), (.ref x1)] 8 = mkF m 0 #[.val (.ref x0), .val (.ref x1), .unset, .unset, .unset, .unset, .unset, .unset] [] := by first | (simp [entryFrame, mkF, argsToLocals, Value.category]; done) | rfl
theorem rmGa (l : Launch) (Z : State) (a0 : Array Value) (hw : HW a0 Z) (ws : List Jvm.Cond) (va : Addr) (qb : Value) (mp : Addr) (tb : Addr) (ea : Addr) (ka : Addr) (_k : ClassId) (h0 : Heap) (n0 : Nat) (Z0 : n0 ≤ h0.size) (_w : Exa Z h0 mp s_f) (_d : Fld Z h0 mp s_j "table" s_p (.ref tb)) (_i : Fld Z h0 mp s_f "accessOrder" "Z" (.int (nar .boolean (0 : Int32)))) (_o : Arv Z h0 tb _k (.object s_c) (16 : Int32) [(.ref ea), qb, .null, .null, .null, .null, .null, .null, .null, .null, .null, .null, .null, .null, .null, .null] .null) (_y : Ovr Z _k s_c) (_z : Exa Z h0 ea s_d) (_h : Fld Z h0 ea s_c "hash" "I" (.int 0)) (_j : Fld Z h0 ea s_c "key" s_l (.ref ka)) (_r : Fld Z h0 ea s_c "value" s_l (.ref va)) (_t : Fld Z h0 ea s_c "next" s_q .null) (_u : Exa Z h0 ka s_i) (_f : Fld Z h0 ka s_i "value" "I" (.int 0)) :
  Meets l Z mn_18 jdk_69_method_13_code 8 (some (.object s_c)) ({ frames := 3, cells := 0, slots := 0, locals := 39 } : Room) ws #[(.ref mp), (.ref ka)] h0 (fun v h L => v = some (.ref ea) ∧ Fr n0 L ∧ Ext h0 h) := by
 refine Meets.of (plainFor_of_name pn_1) ?_
 intro p e s m _a _A c s₁ X0 hx hby hml _v hlk hnm hZ _b e0
 replace _b : s.vm.findClass s_j = some m.cls := _b
 have N0 := Fr.nil n0
 have Q0 := own_extR h0
 refine Go.cast (ef_Ga m mp ka) ?_
 show Go p e s _a _ _ _ s₁ (mkF m 0 #[vR mp, vR ka, vU, vU, vU, vU, vU, vU] [])
 refine gs ?_ fun _ _k => XS.aloadN X0.here hx rfl (hb hby d50_0) rfl rfl _k
 obtain ⟨T1, X1, e1, st1⟩ := getF X0 hx hZ _b (host := "") (Or.inl (qw hw 156 rfl)) Via.refl e0 _d (g := (mkF m 1 #[vR mp, vR ka, vU, vU, vU, vU, vU, vU] [(.ref mp)])) rfl rfl (hb hby d50_1)
 refine Go.st st1 ?_
 refine gs ?_ fun _ _k => XS.dup X1.here hx rfl (hb hby d50_4) rfl rfl _k
 refine gs ?_ fun _ _k => XS.astoreN X1.here hx rfl (hb hby d50_5) rfl rfl (l' := #[vR mp, vR ka, vR tb, vU, vU, vU, vU, vU]) rfl _k
 refine gs ?_ fun _ _k => XS.ifnullNo X1.here hx rfl (hb hby d50_6) rfl _k
 refine gs ?_ fun _ _k => XS.aloadN X1.here hx rfl (hb hby d50_9) rfl rfl _k
 obtain ⟨cl2, Ar2, q2, S2, M2, H2, G2⟩ := (id _o)
 refine Go.st (X1.arraylength hx (by rw [e1]; exact Ar2.1) (State.isArrayOf_alike hZ.alike Ar2.2.1) (g := (mkF m 10 #[vR mp, vR ka, vR tb, vU, vU, vU, vU, vU] [(.ref tb)])) rfl rfl (hb hby d50_10)) ?_
 rw [len_of S2 M2]
 refine gs ?_ fun _ _k => XS.dup X1.here hx rfl (hb hby d50_11) rfl rfl _k
 refine gs ?_ fun _ _k => XS.istore X1.here hx rfl (hb hby d50_12) rfl (l' := #[vR mp, vR ka, vR tb, vU, vU, vI (16 : Int32), vU, vU]) rfl _k
 refine gs ?_ fun _ _k => XS.ifNo X1.here hx rfl (hb hby d50_14) rfl ((if0 _ _).trans (tlt (by decide : (0 : Int32) < (16 : Int32))).2.2.2) _k
 refine gs ?_ fun _ _k => XS.aloadN X1.here hx rfl (hb hby d50_17) rfl rfl _k
 refine gs ?_ fun _ _k => XS.iload X1.here hx rfl (hb hby d50_18) rfl _k
 refine gs ?_ fun _ _k => XT.iconstV X1.here hx rfl (1 : Int32) (hb hby d50_20) (by decide) _k
 refine gs ?_ fun _ _k => XS.isub X1.here hx rfl (hb hby d50_21) rfl _k
 refine gs ?_ fun _ _k => XS.aloadN X1.here hx rfl (hb hby d50_22) rfl rfl _k
 show Go p e s _a _ _ _ T1 (mkF m 23 #[vR mp, vR ka, vR tb, vU, vU, vI (16 : Int32), vU, vU] [(.ref ka), (.int ((16 : Int32) - (1 : Int32))), (.ref tb)])
 refine Go.callS (W := 2) (argsL := [(.ref ka)]) (rest := [(.int ((16 : Int32) - (1 : Int32))), (.ref tb)]) X1 hx hZ _b (y := mn_15) (qw hw 137 rfl) (qw hw 138 rfl) (qw hw 19 rfl) (qw hw 139 rfl) (rmHA0 l Z a0 hw [] ka h0 n0 (Nat.le_trans Z0 Q0.1) _u _f) e1 (by decide) (by rw [hml]; rfl) (lenOf pd9 rfl) (Nat.le_of_eq rfl) (hb hby d50_23) ?_
 intro T3 v3 L3 h3 e3 X3 hQ3
 obtain ⟨rfl, N3, K3⟩ := hQ3
 have M3 := Fr.app N0 N3
 refine gs ?_ fun _ _k => XS.dup X3.here hx rfl (hb hby d50_26) rfl rfl _k
 refine gs ?_ fun _ _k => XS.istore X3.here hx rfl (hb hby d50_27) rfl (l' := #[vR mp, vR ka, vR tb, vU, vU, vI (16 : Int32), vI (0 : Int32), vU]) rfl _k
 refine gs ?_ fun _ _k => XS.iand X3.here hx rfl (hb hby d50_29) rfl _k
 show Go p e s _a _ _ _ T3 (mkF m 30 #[vR mp, vR ka, vR tb, vU, vU, vI (16 : Int32), vI (0 : Int32), vU] [(.int (((16 : Int32) - (1 : Int32)) &&& (0 : Int32))), (.ref tb)])
 rw [show (((16 : Int32) - (1 : Int32)) &&& (0 : Int32)) = (0 : Int32) from by decide]
 show Go p e s _a _ _ _ T3 (mkF m 30 #[vR mp, vR ka, vR tb, vU, vU, vI (16 : Int32), vI (0 : Int32), vU] [(.int 0), (.ref tb)])
 have _q := _o.ext K3
 obtain ⟨cl4, Ar4, q4, S4, M4, H4, G4⟩ := (id _q)
 have in4 : ¬ ((0 : Int32) < 0 ∨ cl4.slots.size ≤ ((0 : Int32)).toNatClampNeg) := inb_of S4 ⟨by decide, by decide⟩
 refine Go.st (X3.aaload hx (j := (0 : Int32)) (v := (.ref ea)) (by rw [e3]; exact Ar4.1) (State.isArrayOf_alike hZ.alike Ar4.2.1) rfl Ar4.2.2 in4 (Has.at H4 in4 rfl) (g := (mkF m 30 #[vR mp, vR ka, vR tb, vU, vU, vI (16 : Int32), vI (0 : Int32), vU] [(.int 0), (.ref tb)])) rfl rfl (hb hby d50_30)) ?_
 refine gs ?_ fun _ _k => XS.dup X3.here hx rfl (hb hby d50_31) rfl rfl _k
 refine gs ?_ fun _ _k => XS.astoreN X3.here hx rfl (hb hby d50_32) rfl rfl (l' := #[vR mp, vR ka, vR tb, vR ea, vU, vI (16 : Int32), vI (0 : Int32), vU]) rfl _k
 refine gs ?_ fun _ _k => XS.ifnullNo X3.here hx rfl (hb hby d50_33) rfl _k
 refine gs ?_ fun _ _k => XS.aloadN X3.here hx rfl (hb hby d50_36) rfl rfl _k
 have _c := _h.ext K3
 obtain ⟨T5, X5, e5, st5⟩ := getF X3 hx hZ _b (host := "") (Or.inl (qw hw 359 rfl)) Via.refl e3 _c (g := (mkF m 37 #[vR mp, vR ka, vR tb, vR ea, vU, vI (16 : Int32), vI (0 : Int32), vU] [(.ref ea)])) rfl rfl (hb hby d50_37)
 refine Go.st st5 ?_
 refine gs ?_ fun _ _k => XS.iload X5.here hx rfl (hb hby d50_40) rfl _k
 refine gs ?_ fun _ _k => XS.icmpNo X5.here hx rfl (hb hby d50_42) rfl (teq rfl).2 _k
 refine gs ?_ fun _ _k => XS.aloadN X5.here hx rfl (hb hby d50_45) rfl rfl _k
 have _g := _j.ext K3
 obtain ⟨T6, X6, e6, st6⟩ := getF X5 hx hZ _b (host := "") (Or.inl (qw hw 360 rfl)) Via.refl e5 _g (g := (mkF m 46 #[vR mp, vR ka, vR tb, vR ea, vU, vI (16 : Int32), vI (0 : Int32), vU] [(.ref ea)])) rfl rfl (hb hby d50_46)
 refine Go.st st6 ?_
 refine gs ?_ fun _ _k => XS.dup X6.here hx rfl (hb hby d50_49) rfl rfl _k
 refine gs ?_ fun _ _k => XS.astore X6.here hx rfl (hb hby d50_50) rfl rfl (l' := #[vR mp, vR ka, vR tb, vR ea, vU, vI (16 : Int32), vI (0 : Int32), vR ka]) rfl _k
 refine gs ?_ fun _ _k => XS.aloadN X6.here hx rfl (hb hby d50_52) rfl rfl _k
 refine gs ?_ fun _ _k => Jvm.RoadKit.acmp (g := (mkF m 53 #[vR mp, vR ka, vR tb, vR ea, vU, vI (16 : Int32), vI (0 : Int32), vR ka] [(.ref ka), (.ref ka)])) X6 hx rfl rfl rfl (pc0 := 53) (pc' := 69) (same := true) rfl (hb hby d50_53) rfl (decide_eq_true rfl) (by decide) (by decide) _k
 refine gs ?_ fun _ _k => XS.aloadN X6.here hx rfl (hb hby d50_69) rfl rfl _k
 show Go p e s _a _ _ _ T6 (mkF m 70 #[vR mp, vR ka, vR tb, vR ea, vU, vI (16 : Int32), vI (0 : Int32), vR ka] [(.ref ea)])
 have Q_3 := own_extE Q0 K3
 exact Go.retA X6 hx hlk _v rfl rfl (hb hby d50_70) (by decide) (by decide) ⟨rfl, M3, (by rw [e6]; exact Q_3)⟩
theorem pd11 : parseMethodDescriptor "(Ljava/lang/Object;)Ljava/util/HashMap$Node;" = some ⟨[(.object s_e)], some (.object s_c)⟩ := by decide +kernel
theorem d49_0 : decode bc49 0 = .ok (.aload_n 0, 1) := by decide +kernel
theorem d49_1 : decode bc49 1 = .ok (.aload_n 1, 1) := by decide +kernel
theorem d49_2 : decode bc49 2 = .ok (.invokevirtual 99, 3) := by decide +kernel
theorem d49_5 : decode bc49 5 = .ok (.dup, 1) := by decide +kernel
theorem d49_6 : decode bc49 6 = .ok (.astore_n 2, 1) := by decide +kernel
theorem d49_7 : decode bc49 7 = .ok (.ifnonnull 5, 3) := by decide +kernel
theorem d49_12 : decode bc49 12 = .ok (.aload_n 0, 1) := by decide +kernel
theorem d49_13 : decode bc49 13 = .ok (.getfield 64, 3) := by decide +kernel
theorem d49_16 : decode bc49 16 = .ok (.ifCond .eq 8, 3) := by decide +kernel
theorem d49_24 : decode bc49 24 = .ok (.aload_n 2, 1) := by decide +kernel
theorem d49_25 : decode bc49 25 = .ok (.getfield 107, 3) := by decide +kernel
theorem d49_28 : decode bc49 28 = .ok (.areturn, 1) := by decide +kernel
theorem ef_Ha (m : MethodId) (x0 : Addr) (x1 : Addr) : entryFrame m #[(.ref x0), (.ref x1)] 3 = mkF m 0 #[.val (.ref x0), .val (.ref x1), .unset] [] := by first | (simp [entryFrame, mkF, argsToLocals, Value.category]; done) | rfl
theorem rmHa (l : Launch) (Z : State) (a0 : Array Value) (hw : HW a0 Z) (ws : List Jvm.Cond) (va : Addr) (qb : Value) (mp : Addr) (tb : Addr) (ea : Addr) (ka : Addr) (_o : ClassId) (h0 : Heap) (n0 : Nat) (Z0 : n0 ≤ h0.size) (_r : Exa Z h0 mp s_f) (_g : Fld Z h0 mp s_j "table" s_p (.ref tb)) (_a : Fld Z h0 mp s_f "accessOrder" "Z" (.int (nar .boolean (0 : Int32)))) (_t : Arv Z h0 tb _o (.object s_c) (16 : Int32) [(.ref ea), qb, .null, .null, .null, .null, .null, .null, .null, .null, .null, .null, .null, .null, .null, .null] .null) (_u : Ovr Z _o s_c) (_v : Exa Z h0 ea s_d) (_j : Fld Z h0 ea s_c "hash" "I" (.int 0)) (_q : Fld Z h0 ea s_c "key" s_l (.ref ka)) (_c : Fld Z h0 ea s_c "value" s_l (.ref va)) (_k : Fld Z h0 ea s_c "next" s_q .null) (_w : Exa Z h0 ka s_i) (_h : Fld Z h0 ka s_i "value" "I" (.int 0)) :
  Meets l Z mn_19 jdk_94_method_20_code 3 (some (.object s_e)) ({ frames := 4, cells := 0, slots := 0, locals := 58 } : Room) ws #[(.ref mp), (.ref ka)] h0 (fun v h L => v = some (.ref va) ∧ Fr n0 L ∧ Ext h0 h) := by
 refine Meets.of (plainFor_of_name pn_2) ?_
 intro p e s m _i _z c s₁ X0 hx hby hml _y hlk hnm hZ _d e0
 replace _d : s.vm.findClass s_f = some m.cls := _d
 have N0 := Fr.nil n0
 have Q0 := own_extR h0
 refine Go.cast (ef_Ha m mp ka) ?_
 show Go p e s _i _ _ _ s₁ (mkF m 0 #[vR mp, vR ka, vU] [])
 refine gs ?_ fun _ _k => XS.aloadN X0.here hx rfl (hb hby d49_0) rfl rfl _k
 refine gs ?_ fun _ _k => XS.aloadN X0.here hx rfl (hb hby d49_1) rfl rfl _k
 show Go p e s _i _ _ _ s₁ (mkF m 2 #[vR mp, vR ka, vU] [(.ref ka), (.ref mp)])
 refine Go.callU (b := mp) (W := 0) (argsL := [(.ref ka)]) (rest := []) X0 hx hZ _d (x' := mn_20) (z := mn_18) (owner := s_j) (qw hw 353 rfl) (qw hw 354 rfl) (qw hw 355 rfl) (qw hw 357 rfl) (qw hw 356 rfl) (qw hw 19 rfl) (qw hw 358 rfl) (rmGa l Z a0 hw [] va qb mp tb ea ka _o h0 n0 (Nat.le_trans Z0 Q0.1) _r _g _a _t _u _v _j _q _c _k _w _h) e0 _r (by decide) (by rw [hml]; rfl) (lenOf pd11 rfl) (Nat.le_of_eq rfl) (hb hby d49_2) ?_
 intro T1 v1 L1 h1 e1 X1 hQ1
 obtain ⟨rfl, N1, K1⟩ := hQ1
 have M1 := Fr.app N0 N1
 refine gs ?_ fun _ _k => XS.dup X1.here hx rfl (hb hby d49_5) rfl rfl _k
 refine gs ?_ fun _ _k => XS.astoreN X1.here hx rfl (hb hby d49_6) rfl rfl (l' := #[vR mp, vR ka, vR ea]) rfl _k
 refine gs ?_ fun _ _k => XS.ifnonnullYes X1.here hx rfl (pc0 := 7) (pc' := 12) rfl (hb hby d49_7) rfl (by decide) (by decide) _k
 refine gs ?_ fun _ _k => XS.aloadN X1.here hx rfl (hb hby d49_12) rfl rfl _k
 have _b := _a.ext K1
 obtain ⟨T2, X2, e2, st2⟩ := getF X1 hx hZ _d (host := "") (Or.inl (qw hw 33 rfl)) Via.refl e1 _b (g := (mkF m 13 #[vR mp, vR ka, vR ea] [(.ref mp)])) rfl rfl (hb hby d49_13)
 refine Go.st st2 ?_
 refine gs ?_ fun _ _k => XS.ifYes X2.here hx rfl (pc0 := 16) (pc' := 24) rfl (hb hby d49_16) rfl ((if0 _ _).trans (teq (by decide)).1) (by decide) (by decide) _k
 refine gs ?_ fun _ _k => XS.aloadN X2.here hx rfl (hb hby d49_24) rfl rfl _k
 have _f := _c.ext K1
 obtain ⟨T3, X3, e3, st3⟩ := getF X2 hx hZ _d (host := "") (Or.inl (qw hw 361 rfl)) Via.refl e2 _f (g := (mkF m 25 #[vR mp, vR ka, vR ea] [(.ref ea)])) rfl rfl (hb hby d49_25)
 refine Go.st st3 ?_
 show Go p e s _i _ _ _ T3 (mkF m 28 #[vR mp, vR ka, vR ea] [(.ref va)])
 have Q_1 := own_extE Q0 K1
 exact Go.retA X3 hx hlk _y rfl rfl (hb hby d49_28) (by decide) (by decide) ⟨rfl, M1, (by rw [e3]; exact Q_1)⟩
theorem d50_148 : decode bc50 148 = .ok (.aconst_null, 1) := by decide +kernel
theorem d50_149 : decode bc50 149 = .ok (.areturn, 1) := by decide +kernel
theorem ef_Gc (m : MethodId) (x0 : Addr) (x1 : Addr) : entryFrame m #[(.ref x0), (.ref x1)] 8 = mkF m 0 #[.val (.ref x0), .val (.ref x1), .unset, .unset, .unset, .unset, .unset, .unset] [] := by first | (simp [entryFrame, mkF, argsToLocals, Value.category]; done) | rfl
theorem rmGc (l : Launch) (Z : State) (a0 : Array Value) (hw : HW a0 Z) (ws : List Jvm.Cond) (va : Addr) (ka : Addr) (qb : Value) (mp : Addr) (tb : Addr) (ea : Addr) (kc : Addr) (_g : ClassId) (h0 : Heap) (n0 : Nat) (Z0 : n0 ≤ h0.size) (_u : Exa Z h0 mp s_f) (_b : Fld Z h0 mp s_j "table" s_p (.ref tb)) (_f : Fld Z h0 mp s_f "accessOrder" "Z" (.int (nar .boolean (0 : Int32)))) (_h : Arv Z h0 tb _g (.object s_c) (16 : Int32) [(.ref ea), qb, .null, .null, .null, .null, .null, .null, .null, .null, .null, .null, .null, .null, .null, .null] .null) (_v : Ovr Z _g s_c) (_w : Exa Z h0 ea s_d) (_k : Fld Z h0 ea s_c "hash" "I" (.int 0)) (_q : Fld Z h0 ea s_c "key" s_l (.ref ka)) (_j : Fld Z h0 ea s_c "value" s_l (.ref va)) (_o : Fld Z h0 ea s_c "next" s_q .null) (_r : Exa Z h0 kc s_i) (_c : Fld Z h0 kc s_i "value" "I" (.int 2)) :
  Meets l Z mn_18 jdk_69_method_13_code 8 (some (.object s_c)) ({ frames := 3, cells := 0, slots := 0, locals := 39 } : Room) ws #[(.ref mp), (.ref kc)] h0 (fun v h L => v = some .null ∧ Fr n0 L ∧ Ext h0 h) := by
 refine Meets.of (plainFor_of_name pn_1) ?_
 intro p e s m _a _y c s₁ X0 hx hby hml _t hlk hnm hZ _d e0
 replace _d : s.vm.findClass s_j = some m.cls := _d
 have N0 := Fr.nil n0
 have Q0 := own_extR h0
 refine Go.cast (ef_Gc m mp kc) ?_
 show Go p e s _a _ _ _ s₁ (mkF m 0 #[vR mp, vR kc, vU, vU, vU, vU, vU, vU] [])
 refine gs ?_ fun _ _k => XS.aloadN X0.here hx rfl (hb hby d50_0) rfl rfl _k
 obtain ⟨T1, X1, e1, st1⟩ := getF X0 hx hZ _d (host := "") (Or.inl (qw hw 156 rfl)) Via.refl e0 _b (g := (mkF m 1 #[vR mp, vR kc, vU, vU, vU, vU, vU, vU] [(.ref mp)])) rfl rfl (hb hby d50_1)
 refine Go.st st1 ?_
 refine gs ?_ fun _ _k => XS.dup X1.here hx rfl (hb hby d50_4) rfl rfl _k
 refine gs ?_ fun _ _k => XS.astoreN X1.here hx rfl (hb hby d50_5) rfl rfl (l' := #[vR mp, vR kc, vR tb, vU, vU, vU, vU, vU]) rfl _k
 refine gs ?_ fun _ _k => XS.ifnullNo X1.here hx rfl (hb hby d50_6) rfl _k
 refine gs ?_ fun _ _k => XS.aloadN X1.here hx rfl (hb hby d50_9) rfl rfl _k
 obtain ⟨cl2, Ar2, q2, S2, M2, H2, G2⟩ := (id _h)
 refine Go.st (X1.arraylength hx (by rw [e1]; exact Ar2.1) (State.isArrayOf_alike hZ.alike Ar2.2.1) (g := (mkF m 10 #[vR mp, vR kc, vR tb, vU, vU, vU, vU, vU] [(.ref tb)])) rfl rfl (hb hby d50_10)) ?_
 rw [len_of S2 M2]
 refine gs ?_ fun _ _k => XS.dup X1.here hx rfl (hb hby d50_11) rfl rfl _k
 refine gs ?_ fun _ _k => XS.istore X1.here hx rfl (hb hby d50_12) rfl (l' := #[vR mp, vR kc, vR tb, vU, vU, vI (16 : Int32), vU, vU]) rfl _k
 refine gs ?_ fun _ _k => XS.ifNo X1.here hx rfl (hb hby d50_14) rfl ((if0 _ _).trans (tlt (by decide : (0 : Int32) < (16 : Int32))).2.2.2) _k
 refine gs ?_ fun _ _k => XS.aloadN X1.here hx rfl (hb hby d50_17) rfl rfl _k
 refine gs ?_ fun _ _k => XS.iload X1.here hx rfl (hb hby d50_18) rfl _k
 refine gs ?_ fun _ _k => XT.iconstV X1.here hx rfl (1 : Int32) (hb hby d50_20) (by decide) _k
 refine gs ?_ fun _ _k => XS.isub X1.here hx rfl (hb hby d50_21) rfl _k
 refine gs ?_ fun _ _k => XS.aloadN X1.here hx rfl (hb hby d50_22) rfl rfl _k
 show Go p e s _a _ _ _ T1 (mkF m 23 #[vR mp, vR kc, vR tb, vU, vU, vI (16 : Int32), vU, vU] [(.ref kc), (.int ((16 : Int32) - (1 : Int32))), (.ref tb)])
 refine Go.callS (W := 2) (argsL := [(.ref kc)]) (rest := [(.int ((16 : Int32) - (1 : Int32))), (.ref tb)]) X1 hx hZ _d (y := mn_15) (qw hw 137 rfl) (qw hw 138 rfl) (qw hw 19 rfl) (qw hw 139 rfl) (rmHA2 l Z a0 hw [] kc h0 n0 (Nat.le_trans Z0 Q0.1) _r _c) e1 (by decide) (by rw [hml]; rfl) (lenOf pd9 rfl) (Nat.le_of_eq rfl) (hb hby d50_23) ?_
 intro T3 v3 L3 h3 e3 X3 hQ3
 obtain ⟨rfl, N3, K3⟩ := hQ3
 have M3 := Fr.app N0 N3
 refine gs ?_ fun _ _k => XS.dup X3.here hx rfl (hb hby d50_26) rfl rfl _k
 refine gs ?_ fun _ _k => XS.istore X3.here hx rfl (hb hby d50_27) rfl (l' := #[vR mp, vR kc, vR tb, vU, vU, vI (16 : Int32), vI (2 : Int32), vU]) rfl _k
 refine gs ?_ fun _ _k => XS.iand X3.here hx rfl (hb hby d50_29) rfl _k
 show Go p e s _a _ _ _ T3 (mkF m 30 #[vR mp, vR kc, vR tb, vU, vU, vI (16 : Int32), vI (2 : Int32), vU] [(.int (((16 : Int32) - (1 : Int32)) &&& (2 : Int32))), (.ref tb)])
 rw [show (((16 : Int32) - (1 : Int32)) &&& (2 : Int32)) = (2 : Int32) from by decide]
 show Go p e s _a _ _ _ T3 (mkF m 30 #[vR mp, vR kc, vR tb, vU, vU, vI (16 : Int32), vI (2 : Int32), vU] [(.int 2), (.ref tb)])
 have _i := _h.ext K3
 obtain ⟨cl4, Ar4, q4, S4, M4, H4, G4⟩ := (id _i)
 have in4 : ¬ ((2 : Int32) < 0 ∨ cl4.slots.size ≤ ((2 : Int32)).toNatClampNeg) := inb_of S4 ⟨by decide, by decide⟩
 refine Go.st (X3.aaload hx (j := (2 : Int32)) (v := .null) (by rw [e3]; exact Ar4.1) (State.isArrayOf_alike hZ.alike Ar4.2.1) rfl Ar4.2.2 in4 (Has.at H4 in4 rfl) (g := (mkF m 30 #[vR mp, vR kc, vR tb, vU, vU, vI (16 : Int32), vI (2 : Int32), vU] [(.int 2), (.ref tb)])) rfl rfl (hb hby d50_30)) ?_
 refine gs ?_ fun _ _k => XS.dup X3.here hx rfl (hb hby d50_31) rfl rfl _k
 refine gs ?_ fun _ _k => XS.astoreN X3.here hx rfl (hb hby d50_32) rfl rfl (l' := #[vR mp, vR kc, vR tb, .val .null, vU, vI (16 : Int32), vI (2 : Int32), vU]) rfl _k
 refine gs ?_ fun _ _k => XS.ifnullYes X3.here hx rfl (pc0 := 33) (pc' := 148) rfl (hb hby d50_33) rfl (by decide) (by decide) _k
 refine gs ?_ fun _ _k => XS.aconstNull X3.here hx rfl (hb hby d50_148) _k
 show Go p e s _a _ _ _ T3 (mkF m 149 #[vR mp, vR kc, vR tb, .val .null, vU, vI (16 : Int32), vI (2 : Int32), vU] [.null])
 have Q_3 := own_extE Q0 K3
 exact Go.retA X3 hx hlk _t rfl rfl (hb hby d50_149) (by decide) (by decide) ⟨rfl, M3, (by rw [e3]; exact Q_3)⟩
theorem d49_10 : decode bc49 10 = .ok (.aconst_null, 1) := by decide +kernel
theorem d49_11 : decode bc49 11 = .ok (.areturn, 1) := by decide +kernel
theorem ef_Hc (m : MethodId) (x0 : Addr) (x1 : Addr) : entryFrame m #[(.ref x0), (.ref x1)] 3 = mkF m 0 #[.val (.ref x0), .val (.ref x1), .unset] [] := by first | (simp [entryFrame, mkF, argsToLocals, Value.category]; done) | rfl
theorem rmHc (l : Launch) (Z : State) (a0 : Array Value) (hw : HW a0 Z) (ws : List Jvm.Cond) (va : Addr) (ka : Addr) (qb : Value) (mp : Addr) (tb : Addr) (ea : Addr) (kc : Addr) (_i : ClassId) (h0 : Heap) (n0 : Nat) (Z0 : n0 ≤ h0.size) (_o : Exa Z h0 mp s_f) (_b : Fld Z h0 mp s_j "table" s_p (.ref tb)) (_a : Fld Z h0 mp s_f "accessOrder" "Z" (.int (nar .boolean (0 : Int32)))) (_q : Arv Z h0 tb _i (.object s_c) (16 : Int32) [(.ref ea), qb, .null, .null, .null, .null, .null, .null, .null, .null, .null, .null, .null, .null, .null, .null] .null) (_r : Ovr Z _i s_c) (_t : Exa Z h0 ea s_d) (_g : Fld Z h0 ea s_c "hash" "I" (.int 0)) (_j : Fld Z h0 ea s_c "key" s_l (.ref ka)) (_c : Fld Z h0 ea s_c "value" s_l (.ref va)) (_h : Fld Z h0 ea s_c "next" s_q .null) (_u : Exa Z h0 kc s_i) (_d : Fld Z h0 kc s_i "value" "I" (.int 2)) :
  Meets l Z mn_19 jdk_94_method_20_code 3 (some (.object s_e)) ({ frames := 4, cells := 0, slots := 0, locals := 58 } : Room) ws #[(.ref mp), (.ref kc)] h0 (fun v h L => v = some .null ∧ Fr n0 L ∧ Ext h0 h) := by
 refine Meets.of (plainFor_of_name pn_2) ?_
 intro p e s m _f _w c s₁ X0 hx hby hml _v hlk hnm hZ _k e0
 replace _k : s.vm.findClass s_f = some m.cls := _k
 have N0 := Fr.nil n0
 have Q0 := own_extR h0
 refine Go.cast (ef_Hc m mp kc) ?_
 show Go p e s _f _ _ _ s₁ (mkF m 0 #[vR mp, vR kc, vU] [])
 refine gs ?_ fun _ _k => XS.aloadN X0.here hx rfl (hb hby d49_0) rfl rfl _k
 refine gs ?_ fun _ _k => XS.aloadN X0.here hx rfl (hb hby d49_1) rfl rfl _k
 show Go p e s _f _ _ _ s₁ (mkF m 2 #[vR mp, vR kc, vU] [(.ref kc), (.ref mp)])
 refine Go.callU (b := mp) (W := 0) (argsL := [(.ref kc)]) (rest := []) X0 hx hZ _k (x' := mn_20) (z := mn_18) (owner := s_j) (qw hw 353 rfl) (qw hw 354 rfl) (qw hw 355 rfl) (qw hw 357 rfl) (qw hw 356 rfl) (qw hw 19 rfl) (qw hw 358 rfl) (rmGc l Z a0 hw [] va ka qb mp tb ea kc _i h0 n0 (Nat.le_trans Z0 Q0.1) _o _b _a _q _r _t _g _j _c _h _u _d) e0 _o (by decide) (by rw [hml]; rfl) (lenOf pd11 rfl) (Nat.le_of_eq rfl) (hb hby d49_2) ?_
 intro T1 v1 L1 h1 e1 X1 hQ1
 obtain ⟨rfl, N1, K1⟩ := hQ1
 have M1 := Fr.app N0 N1
 refine gs ?_ fun _ _k => XS.dup X1.here hx rfl (hb hby d49_5) rfl rfl _k
 refine gs ?_ fun _ _k => XS.astoreN X1.here hx rfl (hb hby d49_6) rfl rfl (l' := #[vR mp, vR kc, .val .null]) rfl _k
 refine gs ?_ fun _ _k => XS.ifnonnullNo X1.here hx rfl (hb hby d49_7) rfl _k
 refine gs ?_ fun _ _k => XS.aconstNull X1.here hx rfl (hb hby d49_10) _k
 show Go p e s _f _ _ _ T1 (mkF m 11 #[vR mp, vR kc, .val .null] [.null])
 have Q_1 := own_extE Q0 K1
 exact Go.retA X1 hx hlk _v rfl rfl (hb hby d49_11) (by decide) (by decide) ⟨rfl, M1, (by rw [e1]; exact Q_1)⟩
theorem d50_56 : decode bc50 56 = .ok (.aload_n 1, 1) := by decide +kernel
theorem d50_57 : decode bc50 57 = .ok (.ifnull 14, 3) := by decide +kernel
theorem d50_71 : decode bc50 71 = .ok (.aload_n 3, 1) := by decide +kernel
theorem d50_72 : decode bc50 72 = .ok (.getfield 177, 3) := by decide +kernel
theorem d50_75 : decode bc50 75 = .ok (.dup, 1) := by decide +kernel
theorem d50_76 : decode bc50 76 = .ok (.astore 4, 2) := by decide +kernel
theorem d50_78 : decode bc50 78 = .ok (.ifnull 70, 3) := by decide +kernel
theorem ef_Gn (m : MethodId) (x0 : Addr) : entryFrame m #[(.ref x0), .null] 8 = mkF m 0 #[.val (.ref x0), .val .null, .unset, .unset, .unset, .unset, .unset, .unset] [] := by first | (simp [entryFrame, mkF, argsToLocals, Value.category]; done) | rfl
theorem rmGn (l : Launch) (Z : State) (a0 : Array Value) (hw : HW a0 Z) (ws : List Jvm.Cond) (va : Addr) (ka : Addr) (qb : Value) (mp : Addr) (tb : Addr) (ea : Addr) (_o : ClassId) (h0 : Heap) (n0 : Nat) (Z0 : n0 ≤ h0.size) (_v : Exa Z h0 mp s_f) (_f : Fld Z h0 mp s_j "table" s_p (.ref tb)) (_j : Fld Z h0 mp s_f "accessOrder" "Z" (.int (nar .boolean (0 : Int32)))) (_q : Arv Z h0 tb _o (.object s_c) (16 : Int32) [(.ref ea), qb, .null, .null, .null, .null, .null, .null, .null, .null, .null, .null, .null, .null, .null, .null] .null) (_w : Ovr Z _o s_c) (_y : Exa Z h0 ea s_d) (_h : Fld Z h0 ea s_c "hash" "I" (.int 0)) (_k : Fld Z h0 ea s_c "key" s_l (.ref ka)) (_t : Fld Z h0 ea s_c "value" s_l (.ref va)) (_i : Fld Z h0 ea s_c "next" s_q .null) :
  Meets l Z mn_18 jdk_69_method_13_code 8 (some (.object s_c)) ({ frames := 1, cells := 0, slots := 0, locals := 15 } : Room) ws #[(.ref mp), .null] h0 (fun v h L => v = some .null ∧ Fr n0 L ∧ Ext h0 h) := by
 refine Meets.of (plainFor_of_name pn_1) ?_
 intro p e s m _b _z c s₁ X0 hx hby hml _u hlk hnm hZ _a e0
 replace _a : s.vm.findClass s_j = some m.cls := _a
 have N0 := Fr.nil n0
 have Q0 := own_extR h0
 refine Go.cast (ef_Gn m mp) ?_
 show Go p e s _b _ _ _ s₁ (mkF m 0 #[vR mp, .val .null, vU, vU, vU, vU, vU, vU] [])
 refine gs ?_ fun _ _k => XS.aloadN X0.here hx rfl (hb hby d50_0) rfl rfl _k
 obtain ⟨T1, X1, e1, st1⟩ := getF X0 hx hZ _a (host := "") (Or.inl (qw hw 156 rfl)) Via.refl e0 _f (g := (mkF m 1 #[vR mp, .val .null, vU, vU, vU, vU, vU, vU] [(.ref mp)])) rfl rfl (hb hby d50_1)
 refine Go.st st1 ?_
 refine gs ?_ fun _ _k => XS.dup X1.here hx rfl (hb hby d50_4) rfl rfl _k
 refine gs ?_ fun _ _k => XS.astoreN X1.here hx rfl (hb hby d50_5) rfl rfl (l' := #[vR mp, .val .null, vR tb, vU, vU, vU, vU, vU]) rfl _k
 refine gs ?_ fun _ _k => XS.ifnullNo X1.here hx rfl (hb hby d50_6) rfl _k
 refine gs ?_ fun _ _k => XS.aloadN X1.here hx rfl (hb hby d50_9) rfl rfl _k
 obtain ⟨cl2, Ar2, q2, S2, M2, H2, G2⟩ := (id _q)
 refine Go.st (X1.arraylength hx (by rw [e1]; exact Ar2.1) (State.isArrayOf_alike hZ.alike Ar2.2.1) (g := (mkF m 10 #[vR mp, .val .null, vR tb, vU, vU, vU, vU, vU] [(.ref tb)])) rfl rfl (hb hby d50_10)) ?_
 rw [len_of S2 M2]
 refine gs ?_ fun _ _k => XS.dup X1.here hx rfl (hb hby d50_11) rfl rfl _k
 refine gs ?_ fun _ _k => XS.istore X1.here hx rfl (hb hby d50_12) rfl (l' := #[vR mp, .val .null, vR tb, vU, vU, vI (16 : Int32), vU, vU]) rfl _k
 refine gs ?_ fun _ _k => XS.ifNo X1.here hx rfl (hb hby d50_14) rfl ((if0 _ _).trans (tlt (by decide : (0 : Int32) < (16 : Int32))).2.2.2) _k
 refine gs ?_ fun _ _k => XS.aloadN X1.here hx rfl (hb hby d50_17) rfl rfl _k
 refine gs ?_ fun _ _k => XS.iload X1.here hx rfl (hb hby d50_18) rfl _k
 refine gs ?_ fun _ _k => XT.iconstV X1.here hx rfl (1 : Int32) (hb hby d50_20) (by decide) _k
 refine gs ?_ fun _ _k => XS.isub X1.here hx rfl (hb hby d50_21) rfl _k
 refine gs ?_ fun _ _k => XS.aloadN X1.here hx rfl (hb hby d50_22) rfl rfl _k
 show Go p e s _b _ _ _ T1 (mkF m 23 #[vR mp, .val .null, vR tb, vU, vU, vI (16 : Int32), vU, vU] [.null, (.int ((16 : Int32) - (1 : Int32))), (.ref tb)])
 refine Go.callS (W := 2) (argsL := [.null]) (rest := [(.int ((16 : Int32) - (1 : Int32))), (.ref tb)]) X1 hx hZ _a (y := mn_15) (qw hw 137 rfl) (qw hw 138 rfl) (qw hw 19 rfl) (qw hw 139 rfl) (rmHAN l Z a0 hw [] h0 n0 (Nat.le_trans Z0 Q0.1)) e1 (by decide) (by rw [hml]; rfl) (lenOf pd9 rfl) (Nat.le_of_eq rfl) (hb hby d50_23) ?_
 intro T3 v3 L3 h3 e3 X3 hQ3
 obtain ⟨rfl, N3, K3⟩ := hQ3
 have M3 := Fr.app N0 N3
 refine gs ?_ fun _ _k => XS.dup X3.here hx rfl (hb hby d50_26) rfl rfl _k
 refine gs ?_ fun _ _k => XS.istore X3.here hx rfl (hb hby d50_27) rfl (l' := #[vR mp, .val .null, vR tb, vU, vU, vI (16 : Int32), vI (0 : Int32), vU]) rfl _k
 refine gs ?_ fun _ _k => XS.iand X3.here hx rfl (hb hby d50_29) rfl _k
 show Go p e s _b _ _ _ T3 (mkF m 30 #[vR mp, .val .null, vR tb, vU, vU, vI (16 : Int32), vI (0 : Int32), vU] [(.int (((16 : Int32) - (1 : Int32)) &&& (0 : Int32))), (.ref tb)])
 rw [show (((16 : Int32) - (1 : Int32)) &&& (0 : Int32)) = (0 : Int32) from by decide]
 show Go p e s _b _ _ _ T3 (mkF m 30 #[vR mp, .val .null, vR tb, vU, vU, vI (16 : Int32), vI (0 : Int32), vU] [(.int 0), (.ref tb)])
 have _r := _q.ext K3
 obtain ⟨cl4, Ar4, q4, S4, M4, H4, G4⟩ := (id _r)
 have in4 : ¬ ((0 : Int32) < 0 ∨ cl4.slots.size ≤ ((0 : Int32)).toNatClampNeg) := inb_of S4 ⟨by decide, by decide⟩
 refine Go.st (X3.aaload hx (j := (0 : Int32)) (v := (.ref ea)) (by rw [e3]; exact Ar4.1) (State.isArrayOf_alike hZ.alike Ar4.2.1) rfl Ar4.2.2 in4 (Has.at H4 in4 rfl) (g := (mkF m 30 #[vR mp, .val .null, vR tb, vU, vU, vI (16 : Int32), vI (0 : Int32), vU] [(.int 0), (.ref tb)])) rfl rfl (hb hby d50_30)) ?_
 refine gs ?_ fun _ _k => XS.dup X3.here hx rfl (hb hby d50_31) rfl rfl _k
 refine gs ?_ fun _ _k => XS.astoreN X3.here hx rfl (hb hby d50_32) rfl rfl (l' := #[vR mp, .val .null, vR tb, vR ea, vU, vI (16 : Int32), vI (0 : Int32), vU]) rfl _k
 refine gs ?_ fun _ _k => XS.ifnullNo X3.here hx rfl (hb hby d50_33) rfl _k
 refine gs ?_ fun _ _k => XS.aloadN X3.here hx rfl (hb hby d50_36) rfl rfl _k
 have _c := _h.ext K3
 obtain ⟨T5, X5, e5, st5⟩ := getF X3 hx hZ _a (host := "") (Or.inl (qw hw 359 rfl)) Via.refl e3 _c (g := (mkF m 37 #[vR mp, .val .null, vR tb, vR ea, vU, vI (16 : Int32), vI (0 : Int32), vU] [(.ref ea)])) rfl rfl (hb hby d50_37)
 refine Go.st st5 ?_
 refine gs ?_ fun _ _k => XS.iload X5.here hx rfl (hb hby d50_40) rfl _k
 refine gs ?_ fun _ _k => XS.icmpNo X5.here hx rfl (hb hby d50_42) rfl (teq rfl).2 _k
 refine gs ?_ fun _ _k => XS.aloadN X5.here hx rfl (hb hby d50_45) rfl rfl _k
 have _g := _k.ext K3
 obtain ⟨T6, X6, e6, st6⟩ := getF X5 hx hZ _a (host := "") (Or.inl (qw hw 360 rfl)) Via.refl e5 _g (g := (mkF m 46 #[vR mp, .val .null, vR tb, vR ea, vU, vI (16 : Int32), vI (0 : Int32), vU] [(.ref ea)])) rfl rfl (hb hby d50_46)
 refine Go.st st6 ?_
 refine gs ?_ fun _ _k => XS.dup X6.here hx rfl (hb hby d50_49) rfl rfl _k
 refine gs ?_ fun _ _k => XS.astore X6.here hx rfl (hb hby d50_50) rfl rfl (l' := #[vR mp, .val .null, vR tb, vR ea, vU, vI (16 : Int32), vI (0 : Int32), vR ka]) rfl _k
 refine gs ?_ fun _ _k => XS.aloadN X6.here hx rfl (hb hby d50_52) rfl rfl _k
 refine gs ?_ fun _ _k => Jvm.RoadKit.acmp (g := (mkF m 53 #[vR mp, .val .null, vR tb, vR ea, vU, vI (16 : Int32), vI (0 : Int32), vR ka] [.null, (.ref ka)])) X6 hx rfl rfl rfl (pc0 := 53) (pc' := 56) (same := false) rfl (hb hby d50_53) rfl (decide_eq_false nofun) (by decide) (by decide) _k
 refine gs ?_ fun _ _k => XS.aloadN X6.here hx rfl (hb hby d50_56) rfl rfl _k
 refine gs ?_ fun _ _k => XS.ifnullYes X6.here hx rfl (pc0 := 57) (pc' := 71) rfl (hb hby d50_57) rfl (by decide) (by decide) _k
 refine gs ?_ fun _ _k => XS.aloadN X6.here hx rfl (hb hby d50_71) rfl rfl _k
 have _d := _i.ext K3
 obtain ⟨T7, X7, e7, st7⟩ := getF X6 hx hZ _a (host := "") (Or.inl (qw hw 420 rfl)) Via.refl e6 _d (g := (mkF m 72 #[vR mp, .val .null, vR tb, vR ea, vU, vI (16 : Int32), vI (0 : Int32), vR ka] [(.ref ea)])) rfl rfl (hb hby d50_72)
 refine Go.st st7 ?_
 refine gs ?_ fun _ _k => XS.dup X7.here hx rfl (hb hby d50_75) rfl rfl _k
 refine gs ?_ fun _ _k => XS.astore X7.here hx rfl (hb hby d50_76) rfl rfl (l' := #[vR mp, .val .null, vR tb, vR ea, .val .null, vI (16 : Int32), vI (0 : Int32), vR ka]) rfl _k
 refine gs ?_ fun _ _k => XS.ifnullYes X7.here hx rfl (pc0 := 78) (pc' := 148) rfl (hb hby d50_78) rfl (by decide) (by decide) _k
 refine gs ?_ fun _ _k => XS.aconstNull X7.here hx rfl (hb hby d50_148) _k
 show Go p e s _b _ _ _ T7 (mkF m 149 #[vR mp, .val .null, vR tb, vR ea, .val .null, vI (16 : Int32), vI (0 : Int32), vR ka] [.null])
 have Q_3 := own_extE Q0 K3
 exact Go.retA X7 hx hlk _u rfl rfl (hb hby d50_149) (by decide) (by decide) ⟨rfl, M3, (by rw [e7]; exact Q_3)⟩
theorem ef_Hn (m : MethodId) (x0 : Addr) : entryFrame m #[(.ref x0), .null] 3 = mkF m 0 #[.val (.ref x0), .val .null, .unset] [] := by first | (simp [entryFrame, mkF, argsToLocals, Value.category]; done) | rfl
theorem rmHn (l : Launch) (Z : State) (a0 : Array Value) (hw : HW a0 Z) (ws : List Jvm.Cond) (va : Addr) (ka : Addr) (qb : Value) (mp : Addr) (tb : Addr) (ea : Addr) (_h : ClassId) (h0 : Heap) (n0 : Nat) (Z0 : n0 ≤ h0.size) (_k : Exa Z h0 mp s_f) (_b : Fld Z h0 mp s_j "table" s_p (.ref tb)) (_a : Fld Z h0 mp s_f "accessOrder" "Z" (.int (nar .boolean (0 : Int32)))) (_o : Arv Z h0 tb _h (.object s_c) (16 : Int32) [(.ref ea), qb, .null, .null, .null, .null, .null, .null, .null, .null, .null, .null, .null, .null, .null, .null] .null) (_q : Ovr Z _h s_c) (_r : Exa Z h0 ea s_d) (_f : Fld Z h0 ea s_c "hash" "I" (.int 0)) (_i : Fld Z h0 ea s_c "key" s_l (.ref ka)) (_c : Fld Z h0 ea s_c "value" s_l (.ref va)) (_g : Fld Z h0 ea s_c "next" s_q .null) :
  Meets l Z mn_19 jdk_94_method_20_code 3 (some (.object s_e)) ({ frames := 4, cells := 0, slots := 0, locals := 58 } : Room) ws #[(.ref mp), .null] h0 (fun v h L => v = some .null ∧ Fr n0 L ∧ Ext h0 h) := by
 refine Meets.of (plainFor_of_name pn_2) ?_
 intro p e s m _d _u c s₁ X0 hx hby hml _t hlk hnm hZ _j e0
 replace _j : s.vm.findClass s_f = some m.cls := _j
 have N0 := Fr.nil n0
 have Q0 := own_extR h0
 refine Go.cast (ef_Hn m mp) ?_
 show Go p e s _d _ _ _ s₁ (mkF m 0 #[vR mp, .val .null, vU] [])
 refine gs ?_ fun _ _k => XS.aloadN X0.here hx rfl (hb hby d49_0) rfl rfl _k
 refine gs ?_ fun _ _k => XS.aloadN X0.here hx rfl (hb hby d49_1) rfl rfl _k
 show Go p e s _d _ _ _ s₁ (mkF m 2 #[vR mp, .val .null, vU] [.null, (.ref mp)])
 refine Go.callU (b := mp) (W := 0) (argsL := [.null]) (rest := []) X0 hx hZ _j (x' := mn_20) (z := mn_18) (owner := s_j) (qw hw 353 rfl) (qw hw 354 rfl) (qw hw 355 rfl) (qw hw 357 rfl) (qw hw 356 rfl) (qw hw 19 rfl) (qw hw 358 rfl) (rmGn l Z a0 hw [] va ka qb mp tb ea _h h0 n0 (Nat.le_trans Z0 Q0.1) _k _b _a _o _q _r _f _i _c _g) e0 _k (by decide) (by rw [hml]; rfl) (lenOf pd11 rfl) (Nat.le_of_eq rfl) (hb hby d49_2) ?_
 intro T1 v1 L1 h1 e1 X1 hQ1
 obtain ⟨rfl, N1, K1⟩ := hQ1
 have M1 := Fr.app N0 N1
 refine gs ?_ fun _ _k => XS.dup X1.here hx rfl (hb hby d49_5) rfl rfl _k
 refine gs ?_ fun _ _k => XS.astoreN X1.here hx rfl (hb hby d49_6) rfl rfl (l' := #[vR mp, .val .null, .val .null]) rfl _k
 refine gs ?_ fun _ _k => XS.ifnonnullNo X1.here hx rfl (hb hby d49_7) rfl _k
 refine gs ?_ fun _ _k => XS.aconstNull X1.here hx rfl (hb hby d49_10) _k
 show Go p e s _d _ _ _ T1 (mkF m 11 #[vR mp, .val .null, .val .null] [.null])
 have Q_1 := own_extE Q0 K1
 exact Go.retA X1 hx hlk _t rfl rfl (hb hby d49_11) (by decide) (by decide) ⟨rfl, M1, (by rw [e1]; exact Q_1)⟩
theorem ef_G0 (m : MethodId) (x0 : Addr) (x1 : Addr) : entryFrame m #[(.ref x0), (.ref x1)] 8 = mkF m 0 #[.val (.ref x0), .val (.ref x1), .unset, .unset, .unset, .unset, .unset, .unset] [] := by first | (simp [entryFrame, mkF, argsToLocals, Value.category]; done) | rfl
theorem rmG0 (l : Launch) (Z : State) (a0 : Array Value) (hw : HW a0 Z) (ws : List Jvm.Cond) (va : Addr) (ka : Addr) (mp : Addr) (tb : Addr) (ea : Addr) (kb : Addr) (_g : ClassId) (h0 : Heap) (n0 : Nat) (Z0 : n0 ≤ h0.size) (_u : Exa Z h0 mp s_f) (_b : Fld Z h0 mp s_j "table" s_p (.ref tb)) (_f : Fld Z h0 mp s_f "accessOrder" "Z" (.int (nar .boolean (0 : Int32)))) (_h : Arv Z h0 tb _g (.object s_c) (16 : Int32) [(.ref ea), .null, .null, .null, .null, .null, .null, .null, .null, .null, .null, .null, .null, .null, .null, .null] .null) (_v : Ovr Z _g s_c) (_w : Exa Z h0 ea s_d) (_k : Fld Z h0 ea s_c "hash" "I" (.int 0)) (_q : Fld Z h0 ea s_c "key" s_l (.ref ka)) (_j : Fld Z h0 ea s_c "value" s_l (.ref va)) (_o : Fld Z h0 ea s_c "next" s_q .null) (_r : Exa Z h0 kb s_i) (_c : Fld Z h0 kb s_i "value" "I" (.int 1)) :
  Meets l Z mn_18 jdk_69_method_13_code 8 (some (.object s_c)) ({ frames := 3, cells := 0, slots := 0, locals := 39 } : Room) ws #[(.ref mp), (.ref kb)] h0 (fun v h L => v = some .null ∧ Fr n0 L ∧ Ext h0 h) := by
 refine Meets.of (plainFor_of_name pn_1) ?_
 intro p e s m _a _y c s₁ X0 hx hby hml _t hlk hnm hZ _d e0
 replace _d : s.vm.findClass s_j = some m.cls := _d
 have N0 := Fr.nil n0
 have Q0 := own_extR h0
 refine Go.cast (ef_G0 m mp kb) ?_
 show Go p e s _a _ _ _ s₁ (mkF m 0 #[vR mp, vR kb, vU, vU, vU, vU, vU, vU] [])
 refine gs ?_ fun _ _k => XS.aloadN X0.here hx rfl (hb hby d50_0) rfl rfl _k
 obtain ⟨T1, X1, e1, st1⟩ := getF X0 hx hZ _d (host := "") (Or.inl (qw hw 156 rfl)) Via.refl e0 _b (g := (mkF m 1 #[vR mp, vR kb, vU, vU, vU, vU, vU, vU] [(.ref mp)])) rfl rfl (hb hby d50_1)
 refine Go.st st1 ?_
 refine gs ?_ fun _ _k => XS.dup X1.here hx rfl (hb hby d50_4) rfl rfl _k
 refine gs ?_ fun _ _k => XS.astoreN X1.here hx rfl (hb hby d50_5) rfl rfl (l' := #[vR mp, vR kb, vR tb, vU, vU, vU, vU, vU]) rfl _k
 refine gs ?_ fun _ _k => XS.ifnullNo X1.here hx rfl (hb hby d50_6) rfl _k
 refine gs ?_ fun _ _k => XS.aloadN X1.here hx rfl (hb hby d50_9) rfl rfl _k
 obtain ⟨cl2, Ar2, q2, S2, M2, H2, G2⟩ := (id _h)
 refine Go.st (X1.arraylength hx (by rw [e1]; exact Ar2.1) (State.isArrayOf_alike hZ.alike Ar2.2.1) (g := (mkF m 10 #[vR mp, vR kb, vR tb, vU, vU, vU, vU, vU] [(.ref tb)])) rfl rfl (hb hby d50_10)) ?_
 rw [len_of S2 M2]
 refine gs ?_ fun _ _k => XS.dup X1.here hx rfl (hb hby d50_11) rfl rfl _k
 refine gs ?_ fun _ _k => XS.istore X1.here hx rfl (hb hby d50_12) rfl (l' := #[vR mp, vR kb, vR tb, vU, vU, vI (16 : Int32), vU, vU]) rfl _k
 refine gs ?_ fun _ _k => XS.ifNo X1.here hx rfl (hb hby d50_14) rfl ((if0 _ _).trans (tlt (by decide : (0 : Int32) < (16 : Int32))).2.2.2) _k
 refine gs ?_ fun _ _k => XS.aloadN X1.here hx rfl (hb hby d50_17) rfl rfl _k
 refine gs ?_ fun _ _k => XS.iload X1.here hx rfl (hb hby d50_18) rfl _k
 refine gs ?_ fun _ _k => XT.iconstV X1.here hx rfl (1 : Int32) (hb hby d50_20) (by decide) _k
 refine gs ?_ fun _ _k => XS.isub X1.here hx rfl (hb hby d50_21) rfl _k
 refine gs ?_ fun _ _k => XS.aloadN X1.here hx rfl (hb hby d50_22) rfl rfl _k
 show Go p e s _a _ _ _ T1 (mkF m 23 #[vR mp, vR kb, vR tb, vU, vU, vI (16 : Int32), vU, vU] [(.ref kb), (.int ((16 : Int32) - (1 : Int32))), (.ref tb)])
 refine Go.callS (W := 2) (argsL := [(.ref kb)]) (rest := [(.int ((16 : Int32) - (1 : Int32))), (.ref tb)]) X1 hx hZ _d (y := mn_15) (qw hw 137 rfl) (qw hw 138 rfl) (qw hw 19 rfl) (qw hw 139 rfl) (rmHA1 l Z a0 hw [] kb h0 n0 (Nat.le_trans Z0 Q0.1) _r _c) e1 (by decide) (by rw [hml]; rfl) (lenOf pd9 rfl) (Nat.le_of_eq rfl) (hb hby d50_23) ?_
 intro T3 v3 L3 h3 e3 X3 hQ3
 obtain ⟨rfl, N3, K3⟩ := hQ3
 have M3 := Fr.app N0 N3
 refine gs ?_ fun _ _k => XS.dup X3.here hx rfl (hb hby d50_26) rfl rfl _k
 refine gs ?_ fun _ _k => XS.istore X3.here hx rfl (hb hby d50_27) rfl (l' := #[vR mp, vR kb, vR tb, vU, vU, vI (16 : Int32), vI (1 : Int32), vU]) rfl _k
 refine gs ?_ fun _ _k => XS.iand X3.here hx rfl (hb hby d50_29) rfl _k
 show Go p e s _a _ _ _ T3 (mkF m 30 #[vR mp, vR kb, vR tb, vU, vU, vI (16 : Int32), vI (1 : Int32), vU] [(.int (((16 : Int32) - (1 : Int32)) &&& (1 : Int32))), (.ref tb)])
 rw [show (((16 : Int32) - (1 : Int32)) &&& (1 : Int32)) = (1 : Int32) from by decide]
 show Go p e s _a _ _ _ T3 (mkF m 30 #[vR mp, vR kb, vR tb, vU, vU, vI (16 : Int32), vI (1 : Int32), vU] [(.int 1), (.ref tb)])
 have _i := _h.ext K3
 obtain ⟨cl4, Ar4, q4, S4, M4, H4, G4⟩ := (id _i)
 have in4 : ¬ ((1 : Int32) < 0 ∨ cl4.slots.size ≤ ((1 : Int32)).toNatClampNeg) := inb_of S4 ⟨by decide, by decide⟩
 refine Go.st (X3.aaload hx (j := (1 : Int32)) (v := .null) (by rw [e3]; exact Ar4.1) (State.isArrayOf_alike hZ.alike Ar4.2.1) rfl Ar4.2.2 in4 (Has.at H4 in4 rfl) (g := (mkF m 30 #[vR mp, vR kb, vR tb, vU, vU, vI (16 : Int32), vI (1 : Int32), vU] [(.int 1), (.ref tb)])) rfl rfl (hb hby d50_30)) ?_
 refine gs ?_ fun _ _k => XS.dup X3.here hx rfl (hb hby d50_31) rfl rfl _k
 refine gs ?_ fun _ _k => XS.astoreN X3.here hx rfl (hb hby d50_32) rfl rfl (l' := #[vR mp, vR kb, vR tb, .val .null, vU, vI (16 : Int32), vI (1 : Int32), vU]) rfl _k
 refine gs ?_ fun _ _k => XS.ifnullYes X3.here hx rfl (pc0 := 33) (pc' := 148) rfl (hb hby d50_33) rfl (by decide) (by decide) _k
 refine gs ?_ fun _ _k => XS.aconstNull X3.here hx rfl (hb hby d50_148) _k
 show Go p e s _a _ _ _ T3 (mkF m 149 #[vR mp, vR kb, vR tb, .val .null, vU, vI (16 : Int32), vI (1 : Int32), vU] [.null])
 have Q_3 := own_extE Q0 K3
 exact Go.retA X3 hx hlk _t rfl rfl (hb hby d50_149) (by decide) (by decide) ⟨rfl, M3, (by rw [e3]; exact Q_3)⟩
theorem ef_H0 (m : MethodId) (x0 : Addr) (x1 : Addr) : entryFrame m #[(.ref x0), (.ref x1)] 3 = mkF m 0 #[.val (.ref x0), .val (.ref x1), .unset] [] := by first | (simp [entryFrame, mkF, argsToLocals, Value.category]; done) | rfl
theorem rmH0 (l : Launch) (Z : State) (a0 : Array Value) (hw : HW a0 Z) (ws : List Jvm.Cond) (va : Addr) (ka : Addr) (mp : Addr) (tb : Addr) (ea : Addr) (kb : Addr) (_i : ClassId) (h0 : Heap) (n0 : Nat) (Z0 : n0 ≤ h0.size) (_o : Exa Z h0 mp s_f) (_b : Fld Z h0 mp s_j "table" s_p (.ref tb)) (_a : Fld Z h0 mp s_f "accessOrder" "Z" (.int (nar .boolean (0 : Int32)))) (_q : Arv Z h0 tb _i (.object s_c) (16 : Int32) [(.ref ea), .null, .null, .null, .null, .null, .null, .null, .null, .null, .null, .null, .null, .null, .null, .null] .null) (_r : Ovr Z _i s_c) (_t : Exa Z h0 ea s_d) (_g : Fld Z h0 ea s_c "hash" "I" (.int 0)) (_j : Fld Z h0 ea s_c "key" s_l (.ref ka)) (_c : Fld Z h0 ea s_c "value" s_l (.ref va)) (_h : Fld Z h0 ea s_c "next" s_q .null) (_u : Exa Z h0 kb s_i) (_d : Fld Z h0 kb s_i "value" "I" (.int 1)) :
  Meets l Z mn_19 jdk_94_method_20_code 3 (some (.object s_e)) ({ frames := 4, cells := 0, slots := 0, locals := 58 } : Room) ws #[(.ref mp), (.ref kb)] h0 (fun v h L => v = some .null ∧ Fr n0 L ∧ Ext h0 h) := by
 refine Meets.of (plainFor_of_name pn_2) ?_
 intro p e s m _f _w c s₁ X0 hx hby hml _v hlk hnm hZ _k e0
 replace _k : s.vm.findClass s_f = some m.cls := _k
 have N0 := Fr.nil n0
 have Q0 := own_extR h0
 refine Go.cast (ef_H0 m mp kb) ?_
 show Go p e s _f _ _ _ s₁ (mkF m 0 #[vR mp, vR kb, vU] [])
 refine gs ?_ fun _ _k => XS.aloadN X0.here hx rfl (hb hby d49_0) rfl rfl _k
 refine gs ?_ fun _ _k => XS.aloadN X0.here hx rfl (hb hby d49_1) rfl rfl _k
 show Go p e s _f _ _ _ s₁ (mkF m 2 #[vR mp, vR kb, vU] [(.ref kb), (.ref mp)])
 refine Go.callU (b := mp) (W := 0) (argsL := [(.ref kb)]) (rest := []) X0 hx hZ _k (x' := mn_20) (z := mn_18) (owner := s_j) (qw hw 353 rfl) (qw hw 354 rfl) (qw hw 355 rfl) (qw hw 357 rfl) (qw hw 356 rfl) (qw hw 19 rfl) (qw hw 358 rfl) (rmG0 l Z a0 hw [] va ka mp tb ea kb _i h0 n0 (Nat.le_trans Z0 Q0.1) _o _b _a _q _r _t _g _j _c _h _u _d) e0 _o (by decide) (by rw [hml]; rfl) (lenOf pd11 rfl) (Nat.le_of_eq rfl) (hb hby d49_2) ?_
 intro T1 v1 L1 h1 e1 X1 hQ1
 obtain ⟨rfl, N1, K1⟩ := hQ1
 have M1 := Fr.app N0 N1
 refine gs ?_ fun _ _k => XS.dup X1.here hx rfl (hb hby d49_5) rfl rfl _k
 refine gs ?_ fun _ _k => XS.astoreN X1.here hx rfl (hb hby d49_6) rfl rfl (l' := #[vR mp, vR kb, .val .null]) rfl _k
 refine gs ?_ fun _ _k => XS.ifnonnullNo X1.here hx rfl (hb hby d49_7) rfl _k
 refine gs ?_ fun _ _k => XS.aconstNull X1.here hx rfl (hb hby d49_10) _k
 show Go p e s _f _ _ _ T1 (mkF m 11 #[vR mp, vR kb, .val .null] [.null])
 have Q_1 := own_extE Q0 K1
 exact Go.retA X1 hx hlk _v rfl rfl (hb hby d49_11) (by decide) (by decide) ⟨rfl, M1, (by rw [e1]; exact Q_1)⟩
theorem ef_G1 (m : MethodId) (x0 : Addr) (x1 : Addr) : entryFrame m #[(.ref x0), (.ref x1)] 8 = mkF m 0 #[.val (.ref x0), .val (.ref x1), .unset, .unset, .unset, .unset, .unset, .unset] [] := by first | (simp [entryFrame, mkF, argsToLocals, Value.category]; done) | rfl
theorem rmG1 (l : Launch) (Z : State) (a0 : Array Value) (hw : HW a0 Z) (ws : List Jvm.Cond) (va : Addr) (ka : Addr) (vb : Addr) (mp : Addr) (tb : Addr) (ea : Addr) (eb : Addr) (kb : Addr) (_k : ClassId) (h0 : Heap) (n0 : Nat) (Z0 : n0 ≤ h0.size) (_B : Exa Z h0 mp s_f) (_d : Fld Z h0 mp s_j "table" s_p (.ref tb)) (_i : Fld Z h0 mp s_f "accessOrder" "Z" (.int (nar .boolean (0 : Int32)))) (_o : Arv Z h0 tb _k (.object s_c) (16 : Int32) [(.ref ea), (.ref eb), .null, .null, .null, .null, .null, .null, .null, .null, .null, .null, .null, .null, .null, .null] .null) (_C : Ovr Z _k s_c) (_D : Exa Z h0 ea s_d) (_u : Fld Z h0 ea s_c "hash" "I" (.int 0)) (_y : Fld Z h0 ea s_c "key" s_l (.ref ka)) (_r : Fld Z h0 ea s_c "value" s_l (.ref va)) (_v : Fld Z h0 ea s_c "next" s_q .null) (_E : Exa Z h0 eb s_d) (_h : Fld Z h0 eb s_c "hash" "I" (.int 1)) (_j : Fld Z h0 eb s_c "key" s_l (.ref kb)) (_t : Fld Z h0 eb s_c "value" s_l (.ref vb)) (_w : Fld Z h0 eb s_c "next" s_q .null) (_z : Exa Z h0 kb s_i) (_f : Fld Z h0 kb s_i "value" "I" (.int 1)) :
  Meets l Z mn_18 jdk_69_method_13_code 8 (some (.object s_c)) ({ frames := 3, cells := 0, slots := 0, locals := 39 } : Room) ws #[(.ref mp), (.ref kb)] h0 (fun v h L => v = some (.ref eb) ∧ Fr n0 L ∧ Ext h0 h) := by
 refine Meets.of (plainFor_of_name pn_1) ?_
 intro p e s m _a _F c s₁ X0 hx hby hml _A hlk hnm hZ _b e0
 replace _b : s.vm.findClass s_j = some m.cls := _b
 have N0 := Fr.nil n0
 have Q0 := own_extR h0
 refine Go.cast (ef_G1 m mp kb) ?_
 show Go p e s _a _ _ _ s₁ (mkF m 0 #[vR mp, vR kb, vU, vU, vU, vU, vU, vU] [])
 refine gs ?_ fun _ _k => XS.aloadN X0.here hx rfl (hb hby d50_0) rfl rfl _k
 obtain ⟨T1, X1, e1, st1⟩ := getF X0 hx hZ _b (host := "") (Or.inl (qw hw 156 rfl)) Via.refl e0 _d (g := (mkF m 1 #[vR mp, vR kb, vU, vU, vU, vU, vU, vU] [(.ref mp)])) rfl rfl (hb hby d50_1)
 refine Go.st st1 ?_
 refine gs ?_ fun _ _k => XS.dup X1.here hx rfl (hb hby d50_4) rfl rfl _k
 refine gs ?_ fun _ _k => XS.astoreN X1.here hx rfl (hb hby d50_5) rfl rfl (l' := #[vR mp, vR kb, vR tb, vU, vU, vU, vU, vU]) rfl _k
 refine gs ?_ fun _ _k => XS.ifnullNo X1.here hx rfl (hb hby d50_6) rfl _k
 refine gs ?_ fun _ _k => XS.aloadN X1.here hx rfl (hb hby d50_9) rfl rfl _k
 obtain ⟨cl2, Ar2, q2, S2, M2, H2, G2⟩ := (id _o)
 refine Go.st (X1.arraylength hx (by rw [e1]; exact Ar2.1) (State.isArrayOf_alike hZ.alike Ar2.2.1) (g := (mkF m 10 #[vR mp, vR kb, vR tb, vU, vU, vU, vU, vU] [(.ref tb)])) rfl rfl (hb hby d50_10)) ?_
 rw [len_of S2 M2]
 refine gs ?_ fun _ _k => XS.dup X1.here hx rfl (hb hby d50_11) rfl rfl _k
 refine gs ?_ fun _ _k => XS.istore X1.here hx rfl (hb hby d50_12) rfl (l' := #[vR mp, vR kb, vR tb, vU, vU, vI (16 : Int32), vU, vU]) rfl _k
 refine gs ?_ fun _ _k => XS.ifNo X1.here hx rfl (hb hby d50_14) rfl ((if0 _ _).trans (tlt (by decide : (0 : Int32) < (16 : Int32))).2.2.2) _k
 refine gs ?_ fun _ _k => XS.aloadN X1.here hx rfl (hb hby d50_17) rfl rfl _k
 refine gs ?_ fun _ _k => XS.iload X1.here hx rfl (hb hby d50_18) rfl _k
 refine gs ?_ fun _ _k => XT.iconstV X1.here hx rfl (1 : Int32) (hb hby d50_20) (by decide) _k
 refine gs ?_ fun _ _k => XS.isub X1.here hx rfl (hb hby d50_21) rfl _k
 refine gs ?_ fun _ _k => XS.aloadN X1.here hx rfl (hb hby d50_22) rfl rfl _k
 show Go p e s _a _ _ _ T1 (mkF m 23 #[vR mp, vR kb, vR tb, vU, vU, vI (16 : Int32), vU, vU] [(.ref kb), (.int ((16 : Int32) - (1 : Int32))), (.ref tb)])
 refine Go.callS (W := 2) (argsL := [(.ref kb)]) (rest := [(.int ((16 : Int32) - (1 : Int32))), (.ref tb)]) X1 hx hZ _b (y := mn_15) (qw hw 137 rfl) (qw hw 138 rfl) (qw hw 19 rfl) (qw hw 139 rfl) (rmHA1 l Z a0 hw [] kb h0 n0 (Nat.le_trans Z0 Q0.1) _z _f) e1 (by decide) (by rw [hml]; rfl) (lenOf pd9 rfl) (Nat.le_of_eq rfl) (hb hby d50_23) ?_
 intro T3 v3 L3 h3 e3 X3 hQ3
 obtain ⟨rfl, N3, K3⟩ := hQ3
 have M3 := Fr.app N0 N3
 refine gs ?_ fun _ _k => XS.dup X3.here hx rfl (hb hby d50_26) rfl rfl _k
 refine gs ?_ fun _ _k => XS.istore X3.here hx rfl (hb hby d50_27) rfl (l' := #[vR mp, vR kb, vR tb, vU, vU, vI (16 : Int32), vI (1 : Int32), vU]) rfl _k
 refine gs ?_ fun _ _k => XS.iand X3.here hx rfl (hb hby d50_29) rfl _k
 show Go p e s _a _ _ _ T3 (mkF m 30 #[vR mp, vR kb, vR tb, vU, vU, vI (16 : Int32), vI (1 : Int32), vU] [(.int (((16 : Int32) - (1 : Int32)) &&& (1 : Int32))), (.ref tb)])
 rw [show (((16 : Int32) - (1 : Int32)) &&& (1 : Int32)) = (1 : Int32) from by decide]
 show Go p e s _a _ _ _ T3 (mkF m 30 #[vR mp, vR kb, vR tb, vU, vU, vI (16 : Int32), vI (1 : Int32), vU] [(.int 1), (.ref tb)])
 have _q := _o.ext K3
 obtain ⟨cl4, Ar4, q4, S4, M4, H4, G4⟩ := (id _q)
 have in4 : ¬ ((1 : Int32) < 0 ∨ cl4.slots.size ≤ ((1 : Int32)).toNatClampNeg) := inb_of S4 ⟨by decide, by decide⟩
 refine Go.st (X3.aaload hx (j := (1 : Int32)) (v := (.ref eb)) (by rw [e3]; exact Ar4.1) (State.isArrayOf_alike hZ.alike Ar4.2.1) rfl Ar4.2.2 in4 (Has.at H4 in4 rfl) (g := (mkF m 30 #[vR mp, vR kb, vR tb, vU, vU, vI (16 : Int32), vI (1 : Int32), vU] [(.int 1), (.ref tb)])) rfl rfl (hb hby d50_30)) ?_
 refine gs ?_ fun _ _k => XS.dup X3.here hx rfl (hb hby d50_31) rfl rfl _k
 refine gs ?_ fun _ _k => XS.astoreN X3.here hx rfl (hb hby d50_32) rfl rfl (l' := #[vR mp, vR kb, vR tb, vR eb, vU, vI (16 : Int32), vI (1 : Int32), vU]) rfl _k
 refine gs ?_ fun _ _k => XS.ifnullNo X3.here hx rfl (hb hby d50_33) rfl _k
 refine gs ?_ fun _ _k => XS.aloadN X3.here hx rfl (hb hby d50_36) rfl rfl _k
 have _c := _h.ext K3
 obtain ⟨T5, X5, e5, st5⟩ := getF X3 hx hZ _b (host := "") (Or.inl (qw hw 359 rfl)) Via.refl e3 _c (g := (mkF m 37 #[vR mp, vR kb, vR tb, vR eb, vU, vI (16 : Int32), vI (1 : Int32), vU] [(.ref eb)])) rfl rfl (hb hby d50_37)
 refine Go.st st5 ?_
 refine gs ?_ fun _ _k => XS.iload X5.here hx rfl (hb hby d50_40) rfl _k
 refine gs ?_ fun _ _k => XS.icmpNo X5.here hx rfl (hb hby d50_42) rfl (teq rfl).2 _k
 refine gs ?_ fun _ _k => XS.aloadN X5.here hx rfl (hb hby d50_45) rfl rfl _k
 have _g := _j.ext K3
 obtain ⟨T6, X6, e6, st6⟩ := getF X5 hx hZ _b (host := "") (Or.inl (qw hw 360 rfl)) Via.refl e5 _g (g := (mkF m 46 #[vR mp, vR kb, vR tb, vR eb, vU, vI (16 : Int32), vI (1 : Int32), vU] [(.ref eb)])) rfl rfl (hb hby d50_46)
 refine Go.st st6 ?_
 refine gs ?_ fun _ _k => XS.dup X6.here hx rfl (hb hby d50_49) rfl rfl _k
 refine gs ?_ fun _ _k => XS.astore X6.here hx rfl (hb hby d50_50) rfl rfl (l' := #[vR mp, vR kb, vR tb, vR eb, vU, vI (16 : Int32), vI (1 : Int32), vR kb]) rfl _k
 refine gs ?_ fun _ _k => XS.aloadN X6.here hx rfl (hb hby d50_52) rfl rfl _k
 refine gs ?_ fun _ _k => Jvm.RoadKit.acmp (g := (mkF m 53 #[vR mp, vR kb, vR tb, vR eb, vU, vI (16 : Int32), vI (1 : Int32), vR kb] [(.ref kb), (.ref kb)])) X6 hx rfl rfl rfl (pc0 := 53) (pc' := 69) (same := true) rfl (hb hby d50_53) rfl (decide_eq_true rfl) (by decide) (by decide) _k
 refine gs ?_ fun _ _k => XS.aloadN X6.here hx rfl (hb hby d50_69) rfl rfl _k
 show Go p e s _a _ _ _ T6 (mkF m 70 #[vR mp, vR kb, vR tb, vR eb, vU, vI (16 : Int32), vI (1 : Int32), vR kb] [(.ref eb)])
 have Q_3 := own_extE Q0 K3
 exact Go.retA X6 hx hlk _A rfl rfl (hb hby d50_70) (by decide) (by decide) ⟨rfl, M3, (by rw [e6]; exact Q_3)⟩
theorem ef_H1 (m : MethodId) (x0 : Addr) (x1 : Addr) : entryFrame m #[(.ref x0), (.ref x1)] 3 = mkF m 0 #[.val (.ref x0), .val (.ref x1), .unset] [] := by first | (simp [entryFrame, mkF, argsToLocals, Value.category]; done) | rfl
theorem rmH1 (l : Launch) (Z : State) (a0 : Array Value) (hw : HW a0 Z) (ws : List Jvm.Cond) (va : Addr) (ka : Addr) (vb : Addr) (mp : Addr) (tb : Addr) (ea : Addr) (eb : Addr) (kb : Addr) (_t : ClassId) (h0 : Heap) (n0 : Nat) (Z0 : n0 ≤ h0.size) (_w : Exa Z h0 mp s_f) (_g : Fld Z h0 mp s_j "table" s_p (.ref tb)) (_a : Fld Z h0 mp s_f "accessOrder" "Z" (.int (nar .boolean (0 : Int32)))) (_y : Arv Z h0 tb _t (.object s_c) (16 : Int32) [(.ref ea), (.ref eb), .null, .null, .null, .null, .null, .null, .null, .null, .null, .null, .null, .null, .null, .null] .null) (_z : Ovr Z _t s_c) (_A : Exa Z h0 ea s_d) (_k : Fld Z h0 ea s_c "hash" "I" (.int 0)) (_u : Fld Z h0 ea s_c "key" s_l (.ref ka)) (_h : Fld Z h0 ea s_c "value" s_l (.ref va)) (_o : Fld Z h0 ea s_c "next" s_q .null) (_B : Exa Z h0 eb s_d) (_q : Fld Z h0 eb s_c "hash" "I" (.int 1)) (_v : Fld Z h0 eb s_c "key" s_l (.ref kb)) (_c : Fld Z h0 eb s_c "value" s_l (.ref vb)) (_r : Fld Z h0 eb s_c "next" s_q .null) (_C : Exa Z h0 kb s_i) (_i : Fld Z h0 kb s_i "value" "I" (.int 1)) :
  Meets l Z mn_19 jdk_94_method_20_code 3 (some (.object s_e)) ({ frames := 4, cells := 0, slots := 0, locals := 58 } : Room) ws #[(.ref mp), (.ref kb)] h0 (fun v h L => v = some (.ref vb) ∧ Fr n0 L ∧ Ext h0 h) := by
 refine Meets.of (plainFor_of_name pn_2) ?_
 intro p e s m _j _E c s₁ X0 hx hby hml _D hlk hnm hZ _d e0
 replace _d : s.vm.findClass s_f = some m.cls := _d
 have N0 := Fr.nil n0
 have Q0 := own_extR h0
 refine Go.cast (ef_H1 m mp kb) ?_
 show Go p e s _j _ _ _ s₁ (mkF m 0 #[vR mp, vR kb, vU] [])
 refine gs ?_ fun _ _k => XS.aloadN X0.here hx rfl (hb hby d49_0) rfl rfl _k
 refine gs ?_ fun _ _k => XS.aloadN X0.here hx rfl (hb hby d49_1) rfl rfl _k
 show Go p e s _j _ _ _ s₁ (mkF m 2 #[vR mp, vR kb, vU] [(.ref kb), (.ref mp)])
 refine Go.callU (b := mp) (W := 0) (argsL := [(.ref kb)]) (rest := []) X0 hx hZ _d (x' := mn_20) (z := mn_18) (owner := s_j) (qw hw 353 rfl) (qw hw 354 rfl) (qw hw 355 rfl) (qw hw 357 rfl) (qw hw 356 rfl) (qw hw 19 rfl) (qw hw 358 rfl) (rmG1 l Z a0 hw [] va ka vb mp tb ea eb kb _t h0 n0 (Nat.le_trans Z0 Q0.1) _w _g _a _y _z _A _k _u _h _o _B _q _v _c _r _C _i) e0 _w (by decide) (by rw [hml]; rfl) (lenOf pd11 rfl) (Nat.le_of_eq rfl) (hb hby d49_2) ?_
 intro T1 v1 L1 h1 e1 X1 hQ1
 obtain ⟨rfl, N1, K1⟩ := hQ1
 have M1 := Fr.app N0 N1
 refine gs ?_ fun _ _k => XS.dup X1.here hx rfl (hb hby d49_5) rfl rfl _k
 refine gs ?_ fun _ _k => XS.astoreN X1.here hx rfl (hb hby d49_6) rfl rfl (l' := #[vR mp, vR kb, vR eb]) rfl _k
 refine gs ?_ fun _ _k => XS.ifnonnullYes X1.here hx rfl (pc0 := 7) (pc' := 12) rfl (hb hby d49_7) rfl (by decide) (by decide) _k
 refine gs ?_ fun _ _k => XS.aloadN X1.here hx rfl (hb hby d49_12) rfl rfl _k
 have _b := _a.ext K1
 obtain ⟨T2, X2, e2, st2⟩ := getF X1 hx hZ _d (host := "") (Or.inl (qw hw 33 rfl)) Via.refl e1 _b (g := (mkF m 13 #[vR mp, vR kb, vR eb] [(.ref mp)])) rfl rfl (hb hby d49_13)
 refine Go.st st2 ?_
 refine gs ?_ fun _ _k => XS.ifYes X2.here hx rfl (pc0 := 16) (pc' := 24) rfl (hb hby d49_16) rfl ((if0 _ _).trans (teq (by decide)).1) (by decide) (by decide) _k
 refine gs ?_ fun _ _k => XS.aloadN X2.here hx rfl (hb hby d49_24) rfl rfl _k
 have _f := _c.ext K1
 obtain ⟨T3, X3, e3, st3⟩ := getF X2 hx hZ _d (host := "") (Or.inl (qw hw 361 rfl)) Via.refl e2 _f (g := (mkF m 25 #[vR mp, vR kb, vR eb] [(.ref eb)])) rfl rfl (hb hby d49_25)
 refine Go.st st3 ?_
 show Go p e s _j _ _ _ T3 (mkF m 28 #[vR mp, vR kb, vR eb] [(.ref vb)])
 have Q_1 := own_extE Q0 K1
 exact Go.retA X3 hx hlk _D rfl rfl (hb hby d49_28) (by decide) (by decide) ⟨rfl, M1, (by rw [e3]; exact Q_1)⟩
theorem d58_0 : decode bc58 0 = .ok (.aload_n 0, 1) := by decide +kernel
theorem d58_1 : decode bc58 1 = .ok (.getfield 205, 3) := by decide +kernel
theorem d58_4 : decode bc58 4 = .ok (.ireturn, 1) := by decide +kernel
theorem ef_IV (m : MethodId) (x0 : Addr) : entryFrame m #[(.ref x0)] 1 = mkF m 0 #[.val (.ref x0)] [] := by first | (simp [entryFrame, mkF, argsToLocals, Value.category]; done) | rfl
theorem rmIV (l : Launch) (Z : State) (a0 : Array Value) (hw : HW a0 Z) (ws : List Jvm.Cond) (vi : Int32) (ib : Addr) (h0 : Heap) (n0 : Nat) (Z0 : n0 ≤ h0.size) (_f : Exa Z h0 ib s_i) (_a : Fld Z h0 ib s_i "value" "I" (.int vi)) :
  Meets l Z mn_21 jdk_33_method_27_code 1 (some .int) ({ frames := 0, cells := 0, slots := 0, locals := 0 } : Room) ws #[(.ref ib)] h0 (fun v h L => v = some (.int vi) ∧ Fr n0 L ∧ Ext h0 h) := by
 refine Meets.of (plainFor_of_name pn_5) ?_
 intro p e s m _c _g c s₁ X0 hx hby hml _d hlk hnm hZ _b e0
 replace _b : s.vm.findClass s_i = some m.cls := _b
 have N0 := Fr.nil n0
 have Q0 := own_extR h0
 refine Go.cast (ef_IV m ib) ?_
 show Go p e s _c _ _ _ s₁ (mkF m 0 #[vR ib] [])
 refine gs ?_ fun _ _k => XS.aloadN X0.here hx rfl (hb hby d58_0) rfl rfl _k
 obtain ⟨T1, X1, e1, st1⟩ := getF X0 hx hZ _b (host := "") (Or.inl (qw hw 146 rfl)) Via.refl e0 _a (g := (mkF m 1 #[vR ib] [(.ref ib)])) rfl rfl (hb hby d58_1)
 refine Go.st st1 ?_
 show Go p e s _c _ _ _ T1 (mkF m 4 #[vR ib] [(.int vi)])
 exact Go.retI X1 hx hlk _d (hb hby d58_4) (by decide) (by decide) ⟨rfl, N0, (by rw [e1]; exact Q0)⟩
theorem d56_0 : decode bc56 0 = .ok (.aload_n 1, 1) := by decide +kernel
theorem d56_1 : decode bc56 1 = .ok (.instanceof 1, 3) := by decide +kernel
theorem d56_4 : decode bc56 4 = .ok (.ifCond .eq 23, 3) := by decide +kernel
theorem d56_7 : decode bc56 7 = .ok (.aload_n 0, 1) := by decide +kernel
theorem d56_8 : decode bc56 8 = .ok (.getfield 205, 3) := by decide +kernel
theorem d56_11 : decode bc56 11 = .ok (.aload_n 1, 1) := by decide +kernel
theorem d56_12 : decode bc56 12 = .ok (.checkcast 1, 3) := by decide +kernel
theorem d56_15 : decode bc56 15 = .ok (.invokevirtual 211, 3) := by decide +kernel
theorem d56_18 : decode bc56 18 = .ok (.if_icmp .ne 7, 3) := by decide +kernel
theorem d56_25 : decode bc56 25 = .ok (.iconst 0, 1) := by decide +kernel
theorem d56_26 : decode bc56 26 = .ok (.ireturn, 1) := by decide +kernel
theorem ef_E (m : MethodId) (x0 : Addr) (x1 : Addr) : entryFrame m #[(.ref x0), (.ref x1)] 2 = mkF m 0 #[.val (.ref x0), .val (.ref x1)] [] := by first | (simp [entryFrame, mkF, argsToLocals, Value.category]; done) | rfl
theorem rmE (l : Launch) (Z : State) (a0 : Array Value) (hw : HW a0 Z) (ws : List Jvm.Cond) (vi : Int32) (vj : Int32) (ib : Addr) (jb : Addr) (h0 : Heap) (n0 : Nat) (Z0 : n0 ≤ h0.size) (_h : Exa Z h0 ib s_i) (_b : Fld Z h0 ib s_i "value" "I" (.int vi)) (_c : Exa Z h0 jb s_i) (_d : Fld Z h0 jb s_i "value" "I" (.int vj)) (hv : ¬ vi = vj) :
  Meets l Z mn_22 jdk_33_method_34_code 2 (some .boolean) ({ frames := 1, cells := 0, slots := 0, locals := 13 } : Room) ws #[(.ref ib), (.ref jb)] h0 (fun v h L => v = some (.int (nar .boolean (0 : Int32))) ∧ Fr n0 L ∧ Ext h0 h) := by
 refine Meets.of (plainFor_of_name pn_5) ?_
 intro p e s m _f _i c s₁ X0 hx hby hml _g hlk hnm hZ _a e0
 replace _a : s.vm.findClass s_i = some m.cls := _a
 have N0 := Fr.nil n0
 have Q0 := own_extR h0
 refine Go.cast (ef_E m ib jb) ?_
 show Go p e s _f _ _ _ s₁ (mkF m 0 #[vR ib, vR jb] [])
 refine gs ?_ fun _ _k => XS.aloadN X0.here hx rfl (hb hby d56_0) rfl rfl _k
 obtain ⟨T1, X1, e1, st1⟩ := instY X0 hx hZ _a (qw hw 413 rfl) e0 (Ins.of_exa _c (qw hw 414 rfl)) (g := (mkF m 1 #[vR ib, vR jb] [(.ref jb)])) rfl rfl (hb hby d56_1)
 refine Go.st st1 ?_
 refine gs ?_ fun _ _k => XS.ifNo X1.here hx rfl (hb hby d56_4) rfl ((if0 _ _).trans (feq (by decide : ¬ ((1 : Int32) = (0 : Int32)))).1) _k
 refine gs ?_ fun _ _k => XS.aloadN X1.here hx rfl (hb hby d56_7) rfl rfl _k
 obtain ⟨T2, X2, e2, st2⟩ := getF X1 hx hZ _a (host := "") (Or.inl (qw hw 146 rfl)) Via.refl e1 _b (g := (mkF m 8 #[vR ib, vR jb] [(.ref ib)])) rfl rfl (hb hby d56_8)
 refine Go.st st2 ?_
 refine gs ?_ fun _ _k => XS.aloadN X2.here hx rfl (hb hby d56_11) rfl rfl _k
 obtain ⟨T3, X3, e3, st3⟩ := castY X2 hx hZ _a (qw hw 413 rfl) e2 (Ins.of_exa _c (qw hw 414 rfl)) (g := (mkF m 12 #[vR ib, vR jb] [(.ref jb), (.int vi)])) rfl rfl (hb hby d56_12)
 refine Go.st st3 ?_
 show Go p e s _f _ _ _ T3 (mkF m 15 #[vR ib, vR jb] [(.ref jb), (.int vi)])
 refine Go.callV (b := jb) (W := 1) (argsL := []) (rest := [(.int vi)]) X3 hx hZ _a (y := mn_21) (z := mn_21) (qw hw 415 rfl) (qw hw 416 rfl) (notFace_of_selects (args := #[]) (mvT hZ (qw hw 418 rfl))) (qw hw 418 rfl) (qw hw 417 rfl) (qw hw 41 rfl) (qw hw 419 rfl) (rmIV l Z a0 hw [] vj jb h0 n0 (Nat.le_trans Z0 Q0.1) _c _d) e3 _c (by decide) (by rw [hml]; rfl) (lenOf pd8 rfl) (Nat.le_of_eq rfl) (hb hby d56_15) ?_
 intro T4 v4 L4 h4 e4 X4 hQ4
 obtain ⟨rfl, N4, K4⟩ := hQ4
 have M4 := Fr.app N0 N4
 refine gs ?_ fun _ _k => XS.icmpYes X4.here hx rfl (pc0 := 18) (pc' := 25) rfl (hb hby d56_18) rfl (feq hv).2 (by decide) (by decide) _k
 refine gs ?_ fun _ _k => XT.iconstV X4.here hx rfl (0 : Int32) (hb hby d56_25) (by decide) _k
 show Go p e s _f _ _ _ T4 (mkF m 26 #[vR ib, vR jb] [(.int 0)])
 have Q_4 := own_extE Q0 K4
 exact Go.retN X4 hx hlk _g (by simp) (hb hby d56_26) (by decide) (by decide) ⟨rfl, M4, (by rw [e4]; exact Q_4)⟩
theorem d56_27 : decode bc56 27 = .ok (.iconst 0, 1) := by decide +kernel
theorem d56_28 : decode bc56 28 = .ok (.ireturn, 1) := by decide +kernel
theorem ef_EN0 (m : MethodId) (x0 : Addr) : entryFrame m #[(.ref x0), .null] 2 = mkF m 0 #[.val (.ref x0), .val .null] [] := by first | (simp [entryFrame, mkF, argsToLocals, Value.category]; done) | rfl
theorem rmEN0 (l : Launch) (Z : State) (a0 : Array Value) (hw : HW a0 Z) (ws : List Jvm.Cond) (vi : Int32) (ib : Addr) (h0 : Heap) (n0 : Nat) (Z0 : n0 ≤ h0.size) (_f : Exa Z h0 ib s_i) (_c : Fld Z h0 ib s_i "value" "I" (.int vi)) :
  Meets l Z mn_22 jdk_33_method_34_code 2 (some .boolean) ({ frames := 0, cells := 0, slots := 0, locals := 0 } : Room) ws #[(.ref ib), .null] h0 (fun v h L => v = some (.int (nar .boolean (0 : Int32))) ∧ Fr n0 L ∧ Ext h0 h) := by
 refine Meets.of (plainFor_of_name pn_5) ?_
 intro p e s m _a _g c s₁ X0 hx hby hml _d hlk hnm hZ _b e0
 replace _b : s.vm.findClass s_i = some m.cls := _b
 have N0 := Fr.nil n0
 have Q0 := own_extR h0
 refine Go.cast (ef_EN0 m ib) ?_
 show Go p e s _a _ _ _ s₁ (mkF m 0 #[vR ib, .val .null] [])
 refine gs ?_ fun _ _k => XS.aloadN X0.here hx rfl (hb hby d56_0) rfl rfl _k
 refine Go.st (X0.instanceofNull hx (g := (mkF m 1 #[vR ib, .val .null] [.null])) rfl rfl (hb hby d56_1)) ?_
 refine gs ?_ fun _ _k => XS.ifYes X0.here hx rfl (pc0 := 4) (pc' := 27) rfl (hb hby d56_4) rfl ((if0 _ _).trans (teq rfl).1) (by decide) (by decide) _k
 refine gs ?_ fun _ _k => XT.iconstV X0.here hx rfl (0 : Int32) (hb hby d56_27) (by decide) _k
 show Go p e s _a _ _ _ s₁ (mkF m 28 #[vR ib, .val .null] [(.int 0)])
 exact Go.retN X0 hx hlk _d (by simp) (hb hby d56_28) (by decide) (by decide) ⟨rfl, N0, (by rw [e0]; exact Q0)⟩
theorem pd12 : parseMethodDescriptor "(Ljava/lang/Object;)Z" = some ⟨[(.object s_e)], some .boolean⟩ := by decide +kernel
theorem d52_0 : decode bc52 0 = .ok (.aload_n 0, 1) := by decide +kernel
theorem d52_1 : decode bc52 1 = .ok (.aload_n 1, 1) := by decide +kernel
theorem d52_2 : decode bc52 2 = .ok (.if_acmp .eq 15, 3) := by decide +kernel
theorem d52_5 : decode bc52 5 = .ok (.aload_n 0, 1) := by decide +kernel
theorem d52_6 : decode bc52 6 = .ok (.ifnull 15, 3) := by decide +kernel
theorem d52_9 : decode bc52 9 = .ok (.aload_n 0, 1) := by decide +kernel
theorem d52_10 : decode bc52 10 = .ok (.aload_n 1, 1) := by decide +kernel
theorem d52_11 : decode bc52 11 = .ok (.invokevirtual 14, 3) := by decide +kernel
theorem d52_14 : decode bc52 14 = .ok (.ifCond .eq 7, 3) := by decide +kernel
theorem d52_21 : decode bc52 21 = .ok (.iconst 0, 1) := by decide +kernel
theorem d52_22 : decode bc52 22 = .ok (.ireturn, 1) := by decide +kernel
theorem ef_OExy (m : MethodId) (x0 : Addr) (x1 : Addr) : entryFrame m #[(.ref x0), (.ref x1)] 2 = mkF m 0 #[.val (.ref x0), .val (.ref x1)] [] := by first | (simp [entryFrame, mkF, argsToLocals, Value.category]; done) | rfl
theorem rmOExy (l : Launch) (Z : State) (a0 : Array Value) (hw : HW a0 Z) (ws : List Jvm.Cond) (vi : Int32) (vj : Int32) (ka : Addr) (kb : Addr) (h0 : Heap) (n0 : Nat) (Z0 : n0 ≤ h0.size) (_f : Exa Z h0 ka s_i) (_a : Fld Z h0 ka s_i "value" "I" (.int vi)) (_g : Exa Z h0 kb s_i) (_b : Fld Z h0 kb s_i "value" "I" (.int vj)) (hv : ¬ vi = vj) (nab : ¬ ka = kb) :
  Meets l Z mn_23 jdk_31_method_2_code 2 (some .boolean) ({ frames := 2, cells := 0, slots := 0, locals := 26 } : Room) ws #[(.ref ka), (.ref kb)] h0 (fun v h L => v = some (.int (nar .boolean (0 : Int32))) ∧ Fr n0 L ∧ Ext h0 h) := by
 refine Meets.of (plainFor_of_name pn_6) ?_
 intro p e s m _c _i c s₁ X0 hx hby hml _h hlk hnm hZ _d e0
 replace _d : s.vm.findClass "java/util/Objects" = some m.cls := _d
 have N0 := Fr.nil n0
 have Q0 := own_extR h0
 refine Go.cast (ef_OExy m ka kb) ?_
 show Go p e s _c _ _ _ s₁ (mkF m 0 #[vR ka, vR kb] [])
 refine gs ?_ fun _ _k => XS.aloadN X0.here hx rfl (hb hby d52_0) rfl rfl _k
 refine gs ?_ fun _ _k => XS.aloadN X0.here hx rfl (hb hby d52_1) rfl rfl _k
 refine gs ?_ fun _ _k => Jvm.RoadKit.acmp (g := (mkF m 2 #[vR ka, vR kb] [(.ref kb), (.ref ka)])) X0 hx rfl rfl rfl (pc0 := 2) (pc' := 5) (same := false) rfl (hb hby d52_2) rfl (decide_eq_false fun q => nab (Value.ref.inj q)) (by decide) (by decide) _k
 refine gs ?_ fun _ _k => XS.aloadN X0.here hx rfl (hb hby d52_5) rfl rfl _k
 refine gs ?_ fun _ _k => XS.ifnullNo X0.here hx rfl (hb hby d52_6) rfl _k
 refine gs ?_ fun _ _k => XS.aloadN X0.here hx rfl (hb hby d52_9) rfl rfl _k
 refine gs ?_ fun _ _k => XS.aloadN X0.here hx rfl (hb hby d52_10) rfl rfl _k
 show Go p e s _c _ _ _ s₁ (mkF m 11 #[vR ka, vR kb] [(.ref kb), (.ref ka)])
 refine Go.callV (b := ka) (W := 0) (argsL := [(.ref kb)]) (rest := []) X0 hx hZ _d (y := mn_24) (z := mn_22) (qw hw 404 rfl) (qw hw 405 rfl) (own_nfO (a := #[]) (mvT hZ (qw hw 94 rfl))) (qw hw 407 rfl) (qw hw 408 rfl) (qw hw 41 rfl) (qw hw 409 rfl) (rmE l Z a0 hw [] vi vj ka kb h0 n0 (Nat.le_trans Z0 Q0.1) _f _a _g _b hv) e0 _f (by decide) (by rw [hml]; rfl) (lenOf pd12 rfl) (Nat.le_of_eq rfl) (hb hby d52_11) ?_
 intro T1 v1 L1 h1 e1 X1 hQ1
 obtain ⟨rfl, N1, K1⟩ := hQ1
 have M1 := Fr.app N0 N1
 refine gs ?_ fun _ _k => XS.ifYes X1.here hx rfl (pc0 := 14) (pc' := 21) rfl (hb hby d52_14) rfl ((if0 _ _).trans (teq (by decide)).1) (by decide) (by decide) _k
 refine gs ?_ fun _ _k => XT.iconstV X1.here hx rfl (0 : Int32) (hb hby d52_21) (by decide) _k
 show Go p e s _c _ _ _ T1 (mkF m 22 #[vR ka, vR kb] [(.int 0)])
 have Q_1 := own_extE Q0 K1
 exact Go.retN X1 hx hlk _h (by simp) (hb hby d52_22) (by decide) (by decide) ⟨rfl, M1, (by rw [e1]; exact Q_1)⟩
theorem d52_17 : decode bc52 17 = .ok (.iconst 1, 1) := by decide +kernel
theorem d52_18 : decode bc52 18 = .ok (.goto 4, 3) := by decide +kernel
theorem ef_OExx (m : MethodId) (x0 : Addr) (x1 : Addr) : entryFrame m #[(.ref x0), (.ref x1)] 2 = mkF m 0 #[.val (.ref x0), .val (.ref x1)] [] := by first | (simp [entryFrame, mkF, argsToLocals, Value.category]; done) | rfl
theorem rmOExx (l : Launch) (Z : State) (a0 : Array Value) (hw : HW a0 Z) (ws : List Jvm.Cond) (ka : Addr) (h0 : Heap) (n0 : Nat) (Z0 : n0 ≤ h0.size) :
  Meets l Z mn_23 jdk_31_method_2_code 2 (some .boolean) ({ frames := 2, cells := 0, slots := 0, locals := 26 } : Room) ws #[(.ref ka), (.ref ka)] h0 (fun v h L => v = some (.int (nar .boolean (1 : Int32))) ∧ Fr n0 L ∧ Ext h0 h) := by
 refine Meets.of (plainFor_of_name pn_6) ?_
 intro p e s m _a _d c s₁ X0 hx hby hml _c hlk hnm hZ _b e0
 replace _b : s.vm.findClass "java/util/Objects" = some m.cls := _b
 have N0 := Fr.nil n0
 have Q0 := own_extR h0
 refine Go.cast (ef_OExx m ka ka) ?_
 show Go p e s _a _ _ _ s₁ (mkF m 0 #[vR ka, vR ka] [])
 refine gs ?_ fun _ _k => XS.aloadN X0.here hx rfl (hb hby d52_0) rfl rfl _k
 refine gs ?_ fun _ _k => XS.aloadN X0.here hx rfl (hb hby d52_1) rfl rfl _k
 refine gs ?_ fun _ _k => Jvm.RoadKit.acmp (g := (mkF m 2 #[vR ka, vR ka] [(.ref ka), (.ref ka)])) X0 hx rfl rfl rfl (pc0 := 2) (pc' := 17) (same := true) rfl (hb hby d52_2) rfl (decide_eq_true rfl) (by decide) (by decide) _k
 refine gs ?_ fun _ _k => XT.iconstV X0.here hx rfl (1 : Int32) (hb hby d52_17) (by decide) _k
 refine gs ?_ fun _ _k => XS.goto X0.here hx rfl (pc0 := 18) (pc' := 22) rfl (hb hby d52_18) (by decide) (by decide) _k
 show Go p e s _a _ _ _ s₁ (mkF m 22 #[vR ka, vR ka] [(.int 1)])
 exact Go.retN X0 hx hlk _c (by simp) (hb hby d52_22) (by decide) (by decide) ⟨rfl, N0, (by rw [e0]; exact Q0)⟩
theorem ef_OExn (m : MethodId) (x0 : Addr) : entryFrame m #[(.ref x0), .null] 2 = mkF m 0 #[.val (.ref x0), .val .null] [] := by first | (simp [entryFrame, mkF, argsToLocals, Value.category]; done) | rfl
theorem rmOExn (l : Launch) (Z : State) (a0 : Array Value) (hw : HW a0 Z) (ws : List Jvm.Cond) (vi : Int32) (ka : Addr) (h0 : Heap) (n0 : Nat) (Z0 : n0 ≤ h0.size) (_d : Exa Z h0 ka s_i) (_a : Fld Z h0 ka s_i "value" "I" (.int vi)) :
  Meets l Z mn_23 jdk_31_method_2_code 2 (some .boolean) ({ frames := 2, cells := 0, slots := 0, locals := 26 } : Room) ws #[(.ref ka), .null] h0 (fun v h L => v = some (.int (nar .boolean (0 : Int32))) ∧ Fr n0 L ∧ Ext h0 h) := by
 refine Meets.of (plainFor_of_name pn_6) ?_
 intro p e s m _b _g c s₁ X0 hx hby hml _f hlk hnm hZ _c e0
 replace _c : s.vm.findClass "java/util/Objects" = some m.cls := _c
 have N0 := Fr.nil n0
 have Q0 := own_extR h0
 refine Go.cast (ef_OExn m ka) ?_
 show Go p e s _b _ _ _ s₁ (mkF m 0 #[vR ka, .val .null] [])
 refine gs ?_ fun _ _k => XS.aloadN X0.here hx rfl (hb hby d52_0) rfl rfl _k
 refine gs ?_ fun _ _k => XS.aloadN X0.here hx rfl (hb hby d52_1) rfl rfl _k
 refine gs ?_ fun _ _k => Jvm.RoadKit.acmp (g := (mkF m 2 #[vR ka, .val .null] [.null, (.ref ka)])) X0 hx rfl rfl rfl (pc0 := 2) (pc' := 5) (same := false) rfl (hb hby d52_2) rfl (decide_eq_false nofun) (by decide) (by decide) _k
 refine gs ?_ fun _ _k => XS.aloadN X0.here hx rfl (hb hby d52_5) rfl rfl _k
 refine gs ?_ fun _ _k => XS.ifnullNo X0.here hx rfl (hb hby d52_6) rfl _k
 refine gs ?_ fun _ _k => XS.aloadN X0.here hx rfl (hb hby d52_9) rfl rfl _k
 refine gs ?_ fun _ _k => XS.aloadN X0.here hx rfl (hb hby d52_10) rfl rfl _k
 show Go p e s _b _ _ _ s₁ (mkF m 11 #[vR ka, .val .null] [.null, (.ref ka)])
 refine Go.callV (b := ka) (W := 0) (argsL := [.null]) (rest := []) X0 hx hZ _c (y := mn_24) (z := mn_22) (qw hw 404 rfl) (qw hw 405 rfl) (own_nfO (a := #[]) (mvT hZ (qw hw 94 rfl))) (qw hw 407 rfl) (qw hw 408 rfl) (qw hw 41 rfl) (qw hw 409 rfl) (rmEN0 l Z a0 hw [] vi ka h0 n0 (Nat.le_trans Z0 Q0.1) _d _a) e0 _d (by decide) (by rw [hml]; rfl) (lenOf pd12 rfl) (Nat.le_of_eq rfl) (hb hby d52_11) ?_
 intro T1 v1 L1 h1 e1 X1 hQ1
 obtain ⟨rfl, N1, K1⟩ := hQ1
 have M1 := Fr.app N0 N1
 refine gs ?_ fun _ _k => XS.ifYes X1.here hx rfl (pc0 := 14) (pc' := 21) rfl (hb hby d52_14) rfl ((if0 _ _).trans (teq (by decide)).1) (by decide) (by decide) _k
 refine gs ?_ fun _ _k => XT.iconstV X1.here hx rfl (0 : Int32) (hb hby d52_21) (by decide) _k
 show Go p e s _b _ _ _ T1 (mkF m 22 #[vR ka, .val .null] [(.int 0)])
 have Q_1 := own_extE Q0 K1
 exact Go.retN X1 hx hlk _f (by simp) (hb hby d52_22) (by decide) (by decide) ⟨rfl, M1, (by rw [e1]; exact Q_1)⟩
theorem ef_OEnx (m : MethodId) (x1 : Addr) : entryFrame m #[.null, (.ref x1)] 2 = mkF m 0 #[.val .null, .val (.ref x1)] [] := by first | (simp [entryFrame, mkF, argsToLocals, Value.category]; done) | rfl
theorem rmOEnx (l : Launch) (Z : State) (a0 : Array Value) (hw : HW a0 Z) (ws : List Jvm.Cond) (ka : Addr) (h0 : Heap) (n0 : Nat) (Z0 : n0 ≤ h0.size) :
  Meets l Z mn_23 jdk_31_method_2_code 2 (some .boolean) ({ frames := 2, cells := 0, slots := 0, locals := 26 } : Room) ws #[.null, (.ref ka)] h0 (fun v h L => v = some (.int (nar .boolean (0 : Int32))) ∧ Fr n0 L ∧ Ext h0 h) := by
 refine Meets.of (plainFor_of_name pn_6) ?_
 intro p e s m _a _d c s₁ X0 hx hby hml _c hlk hnm hZ _b e0
 replace _b : s.vm.findClass "java/util/Objects" = some m.cls := _b
 have N0 := Fr.nil n0
 have Q0 := own_extR h0
 refine Go.cast (ef_OEnx m ka) ?_
 show Go p e s _a _ _ _ s₁ (mkF m 0 #[.val .null, vR ka] [])
 refine gs ?_ fun _ _k => XS.aloadN X0.here hx rfl (hb hby d52_0) rfl rfl _k
 refine gs ?_ fun _ _k => XS.aloadN X0.here hx rfl (hb hby d52_1) rfl rfl _k
 refine gs ?_ fun _ _k => Jvm.RoadKit.acmp (g := (mkF m 2 #[.val .null, vR ka] [(.ref ka), .null])) X0 hx rfl rfl rfl (pc0 := 2) (pc' := 5) (same := false) rfl (hb hby d52_2) rfl (decide_eq_false nofun) (by decide) (by decide) _k
 refine gs ?_ fun _ _k => XS.aloadN X0.here hx rfl (hb hby d52_5) rfl rfl _k
 refine gs ?_ fun _ _k => XS.ifnullYes X0.here hx rfl (pc0 := 6) (pc' := 21) rfl (hb hby d52_6) rfl (by decide) (by decide) _k
 refine gs ?_ fun _ _k => XT.iconstV X0.here hx rfl (0 : Int32) (hb hby d52_21) (by decide) _k
 show Go p e s _a _ _ _ s₁ (mkF m 22 #[.val .null, vR ka] [(.int 0)])
 exact Go.retN X0 hx hlk _c (by simp) (hb hby d52_22) (by decide) (by decide) ⟨rfl, N0, (by rw [e0]; exact Q0)⟩
theorem ef_OEnn (m : MethodId)  : entryFrame m #[.null, .null] 2 = mkF m 0 #[.val .null, .val .null] [] := by first | (simp [entryFrame, mkF, argsToLocals, Value.category]; done) | rfl
theorem rmOEnn (l : Launch) (Z : State) (a0 : Array Value) (hw : HW a0 Z) (ws : List Jvm.Cond) (h0 : Heap) (n0 : Nat) (Z0 : n0 ≤ h0.size) :
  Meets l Z mn_23 jdk_31_method_2_code 2 (some .boolean) ({ frames := 2, cells := 0, slots := 0, locals := 26 } : Room) ws #[.null, .null] h0 (fun v h L => v = some (.int (nar .boolean (1 : Int32))) ∧ Fr n0 L ∧ Ext h0 h) := by
 refine Meets.of (plainFor_of_name pn_6) ?_
 intro p e s m _a _d c s₁ X0 hx hby hml _c hlk hnm hZ _b e0
 replace _b : s.vm.findClass "java/util/Objects" = some m.cls := _b
 have N0 := Fr.nil n0
 have Q0 := own_extR h0
 refine Go.cast (ef_OEnn m ) ?_
 show Go p e s _a _ _ _ s₁ (mkF m 0 #[.val .null, .val .null] [])
 refine gs ?_ fun _ _k => XS.aloadN X0.here hx rfl (hb hby d52_0) rfl rfl _k
 refine gs ?_ fun _ _k => XS.aloadN X0.here hx rfl (hb hby d52_1) rfl rfl _k
 refine gs ?_ fun _ _k => Jvm.RoadKit.acmp (g := (mkF m 2 #[.val .null, .val .null] [.null, .null])) X0 hx rfl rfl rfl (pc0 := 2) (pc' := 17) (same := true) rfl (hb hby d52_2) rfl (decide_eq_true rfl) (by decide) (by decide) _k
 refine gs ?_ fun _ _k => XT.iconstV X0.here hx rfl (1 : Int32) (hb hby d52_17) (by decide) _k
 refine gs ?_ fun _ _k => XS.goto X0.here hx rfl (pc0 := 18) (pc' := 22) rfl (hb hby d52_18) (by decide) (by decide) _k
 show Go p e s _a _ _ _ s₁ (mkF m 22 #[.val .null, .val .null] [(.int 1)])
 exact Go.retN X0 hx hlk _c (by simp) (hb hby d52_22) (by decide) (by decide) ⟨rfl, N0, (by rw [e0]; exact Q0)⟩
theorem d16_0 : decode bc16 0 = .ok (.aload_n 0, 1) := by decide +kernel
theorem d16_1 : decode bc16 1 = .ok (.invokespecial 1, 3) := by decide +kernel
theorem d16_4 : decode bc16 4 = .ok (.aload_n 0, 1) := by decide +kernel
theorem d16_5 : decode bc16 5 = .ok (.aload_n 1, 1) := by decide +kernel
theorem d16_6 : decode bc16 6 = .ok (.putfield 7, 3) := by decide +kernel
theorem d16_9 : decode bc16 9 = .ok (.aload_n 0, 1) := by decide +kernel
theorem d16_10 : decode bc16 10 = .ok (.iload_n 2, 1) := by decide +kernel
theorem d16_11 : decode bc16 11 = .ok (.anewarray 2, 3) := by decide +kernel
theorem d16_14 : decode bc16 14 = .ok (.putfield 13, 3) := by decide +kernel
theorem d16_17 : decode bc16 17 = .ok (.aload_n 0, 1) := by decide +kernel
theorem d16_18 : decode bc16 18 = .ok (.iload_n 2, 1) := by decide +kernel
theorem d16_19 : decode bc16 19 = .ok (.newarray .long, 2) := by decide +kernel
theorem d16_21 : decode bc16 21 = .ok (.putfield 17, 3) := by decide +kernel
theorem d16_24 : decode bc16 24 = .ok (.aload_n 0, 1) := by decide +kernel
theorem d16_25 : decode bc16 25 = .ok (.iload_n 2, 1) := by decide +kernel
theorem d16_26 : decode bc16 26 = .ok (.anewarray 8, 3) := by decide +kernel
theorem d16_29 : decode bc16 29 = .ok (.putfield 21, 3) := by decide +kernel
theorem d16_32 : decode bc16 32 = .ok (.return_, 1) := by decide +kernel
theorem ef_NI (m : MethodId) (x0 : Addr) (x1 : Addr) (x2 : Int32) : entryFrame m #[(.ref x0), (.ref x1), (.int x2)] 3 = mkF m 0 #[.val (.ref x0), .val (.ref x1), .val (.int x2)] [] := by first | (simp [entryFrame, mkF, argsToLocals, Value.category]; done) | rfl
theorem rmNI (l : Launch) (Z : State) (a0 : Array Value) (hw : HW a0 Z) (ws : List Jvm.Cond) (al : Addr) (no : Addr) (h0 : Heap) (n0 : Nat) (Z0 : n0 ≤ h0.size) (_u : n0 ≤ no) (_a : Exa Z h0 no s_b) (_d : Fld Z h0 no s_b "allowed" "Ljava/util/List;" .null) (_y : Fld Z h0 no s_b "next" s_k .null) (_v : Fld Z h0 no s_b "times" "[J" .null) (_i : Fld Z h0 no s_b "nextNodes" s_z .null) :
  Meets l Z mn_25 prog_34_method_1_code 3 none ({ frames := 1, cells := 3, slots := 9, locals := 12 } : Room) ws #[(.ref no), (.ref al), (.int 3)] h0 (fun v h L => ∃ (b3 : Addr) (b5 : Addr) (b7 : Addr) (k3 : ClassId) (k5 : ClassId) (k7 : ClassId), v = none ∧ Fr n0 L ∧ Keep h0 h [no] ∧ h0.size ≤ b3 ∧ h0.size ≤ b5 ∧ h0.size ≤ b7 ∧ Exa Z h no s_b ∧ Fld Z h no s_b "allowed" "Ljava/util/List;" (.ref al) ∧ Fld Z h no s_b "next" s_k (.ref b3) ∧ Fld Z h no s_b "times" "[J" (.ref b5) ∧ Fld Z h no s_b "nextNodes" s_z (.ref b7) ∧ Arv Z h b3 k3 (.object s_e) (3 : Int32) [.null, .null, .null] .null ∧ Arv Z h b5 k5 .long (3 : Int32) [(.long 0), (.long 0), (.long 0)] (.long 0) ∧ Exa Z h b5 "[J" ∧ Arv Z h b7 k7 (.object s_b) (3 : Int32) [.null, .null, .null] .null ∧ Ovr Z k3 s_e ∧ Ovr Z k7 s_b ∧ b3 ≠ b5 ∧ b3 ≠ b7 ∧ b5 ≠ b7) := by
 refine Meets.of (plainFor_of_name pn_7) ?_
 intro p e s m _w _N c s₁ X0 hx hby hml _I hlk hnm hZ _c e0
 replace _c : s.vm.findClass s_b = some m.cls := _c
 have N0 := Fr.nil n0
 have K0 := Keep.refl h0 [no]
 refine Go.cast (ef_NI m no al (3 : Int32)) ?_
 show Go p e s _w _ _ _ s₁ (mkF m 0 #[vR no, vR al, vI (3 : Int32)] [])
 refine gs ?_ fun _ _k => XS.aloadN X0.here hx rfl (hb hby d16_0) rfl rfl _k
 show Go p e s _w _ _ _ s₁ (mkF m 1 #[vR no, vR al, vI (3 : Int32)] [(.ref no)])
 obtain ⟨T1, X1, e1, st1⟩ := initO X0 hx hZ _c (qw hw 114 rfl) (qw hw 7 rfl) (qw hw 8 rfl) e0 (g := (mkF m 1 #[vR no, vR al, vI (3 : Int32)] [(.ref no)])) rfl (by rw [hml]; rfl) rfl (hb hby d16_1) (by decide) (W := 0) (by show 2 * 0 + _ ≤ _; exact Nat.le_of_eq rfl) (by decide)
 refine Go.st st1 ?_
 refine gs ?_ fun _ _k => XS.aloadN X1.here hx rfl (hb hby d16_4) rfl rfl _k
 refine gs ?_ fun _ _k => XS.aloadN X1.here hx rfl (hb hby d16_5) rfl rfl _k
 obtain ⟨T2, h2, X2, e2, W2, st2⟩ := putF X1 hx hZ _c (host := "") (Or.inl (qw hw 115 rfl)) Via.refl e1 _d _a (Or.inr ⟨(qw hw 116 rfl), rfl, hnm⟩) (qw hw 80 rfl) (ty := (.object s_y)) (by decide) rfl rfl (g := (mkF m 6 #[vR no, vR al, vI (3 : Int32)] [(.ref al), (.ref no)])) rfl rfl (hb hby d16_6)
 refine Go.st st2 ?_
 have _j : Fld Z h2 no s_b "allowed" "Ljava/util/List;" (.ref al) := _d.same W2
 have N2 := Fr.snoc X2 N0 _u
 refine gs ?_ fun _ _k => XS.aloadN X2.here hx rfl (hb hby d16_9) rfl rfl _k
 refine gs ?_ fun _ _k => XS.iloadN X2.here hx rfl (hb hby d16_10) rfl _k
 obtain ⟨T3, h3, k3, X3, e3, E3, A3, O3, st3⟩ := newR X2 hx hZ _c (qw hw 117 rfl) (qw hw 118 rfl) e2 (g := (mkF m 11 #[vR no, vR al, vI (3 : Int32)] [(.int 3), (.ref no)])) rfl (hb hby d16_11) rfl (by decide) (cap := 3) (by decide) (by decide) (by decide) (by decide)
 obtain ⟨b3, g3⟩ : ∃ z, z = h2.size := ⟨_, rfl⟩
 rw [← g3] at A3 st3
 have K_2 := K0.wr W2 (Or.inl (by simp))
 have sz3 : h0.size ≤ b3 := Nat.le_trans K_2.1 (Nat.le_of_eq g3.symm)
 refine Go.st st3 ?_
 have _C : Arv Z h3 b3 k3 (.object s_e) (3 : Int32) [.null, .null, .null] .null := (Arv.new A3 (by decide)).pad (pad_rep [] .null 3)
 have _g := (_y.other W2 (Or.inr (slot_ne (Or.inr (qw hw 120 rfl)) (Or.inr (qw hw 116 rfl)) (by decide) (t := (.array (.object s_e))) (t' := (.object s_y)) (by decide) (by decide)))).ext E3
 have _z := (_a.wr W2).ext E3
 obtain ⟨T4, h4, X4, e4, W4, st4⟩ := putF X3 hx hZ _c (host := "") (Or.inl (qw hw 119 rfl)) Via.refl e3 _g _z (Or.inr ⟨(qw hw 120 rfl), rfl, hnm⟩) (qw hw 80 rfl) (ty := (.array (.object s_e))) (by decide) rfl rfl (g := (mkF m 14 #[vR no, vR al, vI (3 : Int32)] [(.ref b3), (.ref no)])) rfl rfl (hb hby d16_14)
 refine Go.st st4 ?_
 have _r : Fld Z h4 no s_b "next" s_k (.ref b3) := _g.same W4
 have N4 := Fr.snoc X4 N2 _u
 refine gs ?_ fun _ _k => XS.aloadN X4.here hx rfl (hb hby d16_17) rfl rfl _k
 refine gs ?_ fun _ _k => XS.iloadN X4.here hx rfl (hb hby d16_18) rfl _k
 obtain ⟨T5, h5, k5, X5, e5, E5, A5, Y5, st5⟩ := newPE X4 hx hZ (qw hw 121 rfl) e4 (g := (mkF m 19 #[vR no, vR al, vI (3 : Int32)] [(.int 3), (.ref no)])) rfl (hb hby d16_19) rfl (by decide) (cap := 3) (by decide) (by decide) (by decide) (by decide) (ad := "[J") (by decide)
 obtain ⟨b5, g5⟩ : ∃ z, z = h4.size := ⟨_, rfl⟩
 rw [← g5] at A5 Y5 st5
 have K_4 := (K_2.ext E3).wr W4 (Or.inl (by simp))
 have sz5 : h0.size ≤ b5 := Nat.le_trans K_4.1 (Nat.le_of_eq g5.symm)
 refine Go.st st5 ?_
 have _J : Arv Z h5 b5 k5 .long (3 : Int32) [(.long 0), (.long 0), (.long 0)] (.long 0) := (Arv.new A5 (by decide)).pad (pad_rep [] (.long 0) 3)
 have _f := (((_v.other W2 (Or.inr (slot_ne (Or.inr (qw hw 123 rfl)) (Or.inr (qw hw 116 rfl)) (by decide) (t := (.array .long)) (t' := (.object s_y)) (by decide) (by decide)))).ext E3).other W4 (Or.inr (slot_ne (Or.inr (qw hw 123 rfl)) (Or.inr (qw hw 120 rfl)) (by decide) (t := (.array .long)) (t' := (.array (.object s_e))) (by decide) (by decide)))).ext E5
 have _A := (_z.wr W4).ext E5
 obtain ⟨T6, h6, X6, e6, W6, st6⟩ := putF X5 hx hZ _c (host := "") (Or.inl (qw hw 122 rfl)) Via.refl e5 _f _A (Or.inr ⟨(qw hw 123 rfl), rfl, hnm⟩) (qw hw 80 rfl) (ty := (.array .long)) (by decide) rfl rfl (g := (mkF m 21 #[vR no, vR al, vI (3 : Int32)] [(.ref b5), (.ref no)])) rfl rfl (hb hby d16_21)
 refine Go.st st6 ?_
 have _o : Fld Z h6 no s_b "times" "[J" (.ref b5) := _f.same W6
 have N6 := Fr.snoc X6 N4 _u
 refine gs ?_ fun _ _k => XS.aloadN X6.here hx rfl (hb hby d16_24) rfl rfl _k
 refine gs ?_ fun _ _k => XS.iloadN X6.here hx rfl (hb hby d16_25) rfl _k
 obtain ⟨T7, h7, k7, X7, e7, E7, A7, O7, st7⟩ := newR X6 hx hZ _c (qw hw 124 rfl) (qw hw 125 rfl) e6 (g := (mkF m 26 #[vR no, vR al, vI (3 : Int32)] [(.int 3), (.ref no)])) rfl (hb hby d16_26) rfl (by decide) (cap := 3) (by decide) (by decide) (by decide) (by decide)
 obtain ⟨b7, g7⟩ : ∃ z, z = h6.size := ⟨_, rfl⟩
 rw [← g7] at A7 st7
 have K_6 := (K_4.ext E5).wr W6 (Or.inl (by simp))
 have sz7 : h0.size ≤ b7 := Nat.le_trans K_6.1 (Nat.le_of_eq g7.symm)
 refine Go.st st7 ?_
 have _K : Arv Z h7 b7 k7 (.object s_b) (3 : Int32) [.null, .null, .null] .null := (Arv.new A7 (by decide)).pad (pad_rep [] .null 3)
 have _b := (((((_i.other W2 (Or.inr (slot_ne (Or.inr (qw hw 127 rfl)) (Or.inr (qw hw 116 rfl)) (by decide) (t := (.array (.object s_b))) (t' := (.object s_y)) (by decide) (by decide)))).ext E3).other W4 (Or.inr (slot_ne (Or.inr (qw hw 127 rfl)) (Or.inr (qw hw 120 rfl)) (by decide) (t := (.array (.object s_b))) (t' := (.array (.object s_e))) (by decide) (by decide)))).ext E5).other W6 (Or.inr (slot_ne (Or.inr (qw hw 127 rfl)) (Or.inr (qw hw 123 rfl)) (by decide) (t := (.array (.object s_b))) (t' := (.array .long)) (by decide) (by decide)))).ext E7
 have _B := (_A.wr W6).ext E7
 obtain ⟨T8, h8, X8, e8, W8, st8⟩ := putF X7 hx hZ _c (host := "") (Or.inl (qw hw 126 rfl)) Via.refl e7 _b _B (Or.inr ⟨(qw hw 127 rfl), rfl, hnm⟩) (qw hw 80 rfl) (ty := (.array (.object s_b))) (by decide) rfl rfl (g := (mkF m 29 #[vR no, vR al, vI (3 : Int32)] [(.ref b7), (.ref no)])) rfl rfl (hb hby d16_29)
 refine Go.st st8 ?_
 have _h : Fld Z h8 no s_b "nextNodes" s_z (.ref b7) := _b.same W8
 have N8 := Fr.snoc X8 N6 _u
 show Go p e s _w _ _ _ T8 (mkF m 32 #[vR no, vR al, vI (3 : Int32)] [])
 have _D := ((((_C.other W4 (Ne.symm (Nat.ne_of_lt (Nat.lt_of_lt_of_le _a.lt sz3)))).ext E5).other W6 (Ne.symm (Nat.ne_of_lt (Nat.lt_of_lt_of_le _a.lt sz3)))).ext E7).other W8 (Ne.symm (Nat.ne_of_lt (Nat.lt_of_lt_of_le _a.lt sz3)))
 have _E := ((_J.other W6 (Ne.symm (Nat.ne_of_lt (Nat.lt_of_lt_of_le _a.lt sz5)))).ext E7).other W8 (Ne.symm (Nat.ne_of_lt (Nat.lt_of_lt_of_le _a.lt sz5)))
 have _F := _K.other W8 (Ne.symm (Nat.ne_of_lt (Nat.lt_of_lt_of_le _a.lt sz7)))
 have K_8 := (K_6.ext E7).wr W8 (Or.inl (by simp))
 have _G := _B.wr W8
 have _k := (((((_j.ext E3).other W4 (Or.inr (slot_ne (Or.inr (qw hw 116 rfl)) (Or.inr (qw hw 120 rfl)) (by decide) (t := (.object s_y)) (t' := (.array (.object s_e))) (by decide) (by decide)))).ext E5).other W6 (Or.inr (slot_ne (Or.inr (qw hw 116 rfl)) (Or.inr (qw hw 123 rfl)) (by decide) (t := (.object s_y)) (t' := (.array .long)) (by decide) (by decide)))).ext E7).other W8 (Or.inr (slot_ne (Or.inr (qw hw 116 rfl)) (Or.inr (qw hw 127 rfl)) (by decide) (t := (.object s_y)) (t' := (.array (.object s_b))) (by decide) (by decide)))
 have _t := (((_r.ext E5).other W6 (Or.inr (slot_ne (Or.inr (qw hw 120 rfl)) (Or.inr (qw hw 123 rfl)) (by decide) (t := (.array (.object s_e))) (t' := (.array .long)) (by decide) (by decide)))).ext E7).other W8 (Or.inr (slot_ne (Or.inr (qw hw 120 rfl)) (Or.inr (qw hw 127 rfl)) (by decide) (t := (.array (.object s_e))) (t' := (.array (.object s_b))) (by decide) (by decide)))
 have _q := (_o.ext E7).other W8 (Or.inr (slot_ne (Or.inr (qw hw 123 rfl)) (Or.inr (qw hw 127 rfl)) (by decide) (t := (.array .long)) (t' := (.array (.object s_b))) (by decide) (by decide)))
 have _H := ((Y5.wr W6).ext E7).wr W8
 have nq9 : b3 ≠ b5 := Nat.ne_of_lt (Nat.lt_of_lt_of_le (_C.other W4 (Ne.symm (Nat.ne_of_lt (Nat.lt_of_lt_of_le _a.lt sz3)))).lt (Nat.le_of_eq g5.symm))
 have _L : b3 ≠ b7 := Nat.ne_of_lt (Nat.lt_of_lt_of_le (((_C.other W4 (Ne.symm (Nat.ne_of_lt (Nat.lt_of_lt_of_le _a.lt sz3)))).ext E5).other W6 (Ne.symm (Nat.ne_of_lt (Nat.lt_of_lt_of_le _a.lt sz3)))).lt (Nat.le_of_eq g7.symm))
 have _M : b5 ≠ b7 := Nat.ne_of_lt (Nat.lt_of_lt_of_le (Y5.wr W6).lt (Nat.le_of_eq g7.symm))
 exact Go.retV X8 hx hlk _I (hb hby d16_32) (by decide) (by decide) ⟨b3, b5, b7, k3, k5, k7, rfl, N8, (by rw [e8]; exact K_8), sz3, sz5, sz7, (by rw [e8]; exact _G), (by rw [e8]; exact _k), (by rw [e8]; exact _t), (by rw [e8]; exact _q), (by rw [e8]; exact _h), (by rw [e8]; exact _D), (by rw [e8]; exact _E), (by rw [e8]; exact _H), (by rw [e8]; exact _F), O3, O7, nq9, _L, _M⟩
theorem d1_0 : decode bc1 0 = .ok (.aload_n 0, 1) := by decide +kernel
theorem d1_1 : decode bc1 1 = .ok (.invokespecial 1, 3) := by decide +kernel
theorem d1_4 : decode bc1 4 = .ok (.aload_n 0, 1) := by decide +kernel
theorem d1_5 : decode bc1 5 = .ok (.new 7, 3) := by decide +kernel
theorem d1_8 : decode bc1 8 = .ok (.dup, 1) := by decide +kernel
theorem d1_9 : decode bc1 9 = .ok (.invokespecial 9, 3) := by decide +kernel
theorem d1_12 : decode bc1 12 = .ok (.putfield 10, 3) := by decide +kernel
theorem d1_15 : decode bc1 15 = .ok (.aload_n 0, 1) := by decide +kernel
theorem d1_16 : decode bc1 16 = .ok (.iload_n 1, 1) := by decide +kernel
theorem d1_17 : decode bc1 17 = .ok (.putfield 16, 3) := by decide +kernel
theorem d1_20 : decode bc1 20 = .ok (.return_, 1) := by decide +kernel
theorem ef_SG (m : MethodId) (x0 : Addr) (x1 : Int32) : entryFrame m #[(.ref x0), (.int x1)] 2 = mkF m 0 #[.val (.ref x0), .val (.int x1)] [] := by first | (simp [entryFrame, mkF, argsToLocals, Value.category]; done) | rfl
theorem rmSG (l : Launch) (Z : State) (a0 : Array Value) (hw : HW a0 Z) (ws : List Jvm.Cond) (gr : Addr) (h0 : Heap) (n0 : Nat) (Z0 : n0 ≤ h0.size) (_ga : n0 ≤ gr) (_a : Exa Z h0 gr s_a) (_F : Fld Z h0 gr s_a "stimuli" "I" (.int 0)) (_T : Fld Z h0 gr s_a "nodes" "Ljava/util/Map;" .null) (_W : Fld Z h0 gr s_a "arcs" "I" (.int 0)) (_U : Fld Z h0 gr s_a "taken" "I" (.int 0)) (_w : Fld Z h0 gr s_a "lastState" s_l .null) (_C : Fld Z h0 gr s_a "lastNode" s_o .null) :
  Meets l Z mn_26 prog_31_method_1_code 2 none ({ frames := 4, cells := 1, slots := 12, locals := 50 } : Room) ws #[(.ref gr), (.int 3)] h0 (fun v h L => ∃ (b2 : Addr), v = none ∧ Fr n0 L ∧ Keep h0 h [gr] ∧ h0.size ≤ b2 ∧ Exa Z h gr s_a ∧ Fld Z h gr s_a "stimuli" "I" (.int 3) ∧ Fld Z h gr s_a "nodes" "Ljava/util/Map;" (.ref b2) ∧ Fld Z h gr s_a "arcs" "I" (.int 0) ∧ Fld Z h gr s_a "taken" "I" (.int 0) ∧ Fld Z h gr s_a "lastState" s_l .null ∧ Fld Z h gr s_a "lastNode" s_o .null ∧ Exa Z h b2 s_f ∧ Fld Z h b2 s_j "loadFactor" "F" (.float (1061158912 : UInt32)) ∧ Fld Z h b2 s_f "putMode" "I" (.int 0) ∧ Fld Z h b2 s_f "accessOrder" "Z" (.int (nar .boolean (0 : Int32))) ∧ Fld Z h b2 s_j "table" s_p .null ∧ Fld Z h b2 s_j "threshold" "I" (.int 0) ∧ Fld Z h b2 s_f "tail" s_h .null ∧ Fld Z h b2 s_f "head" s_h .null ∧ Fld Z h b2 s_j s_x "I" (.int 0) ∧ Fld Z h b2 s_j "size" "I" (.int 0)) := by
 refine Meets.of (plainFor_of_name pn_8) ?_
 intro p e s m _E _ka c s₁ X0 hx hby hml _ja hlk hnm hZ _i e0
 replace _i : s.vm.findClass s_a = some m.cls := _i
 have N0 := Fr.nil n0
 have K0 := Keep.refl h0 [gr]
 refine Go.cast (ef_SG m gr (3 : Int32)) ?_
 show Go p e s _E _ _ _ s₁ (mkF m 0 #[vR gr, vI (3 : Int32)] [])
 refine gs ?_ fun _ _k => XS.aloadN X0.here hx rfl (hb hby d1_0) rfl rfl _k
 show Go p e s _E _ _ _ s₁ (mkF m 1 #[vR gr, vI (3 : Int32)] [(.ref gr)])
 obtain ⟨T1, X1, e1, st1⟩ := initO X0 hx hZ _i (qw hw 6 rfl) (qw hw 7 rfl) (qw hw 8 rfl) e0 (g := (mkF m 1 #[vR gr, vI (3 : Int32)] [(.ref gr)])) rfl (by rw [hml]; rfl) rfl (hb hby d1_1) (by decide) (W := 0) (by show 2 * 0 + _ ≤ _; exact Nat.le_of_eq rfl) (by decide)
 refine Go.st st1 ?_
 refine gs ?_ fun _ _k => XS.aloadN X1.here hx rfl (hb hby d1_4) rfl rfl _k
 obtain ⟨T2, h2, X2, e2, E2, A2, D2, -, st2⟩ := newO X1 hx hZ _i (qw hw 9 rfl) (qw hw 10 rfl) (qw hw 11 rfl) e1 (g := (mkF m 5 #[vR gr, vI (3 : Int32)] [(.ref gr)])) rfl (hb hby d1_5) (by decide) (by decide)
 obtain ⟨b2, g2⟩ : ∃ z, z = h0.size := ⟨_, rfl⟩
 rw [← g2] at A2 D2 st2
 have sz2 : h0.size ≤ b2 := Nat.le_trans K0.1 (Nat.le_of_eq g2.symm)
 have gn2 : n0 ≤ b2 := Nat.le_trans Z0 sz2
 refine Go.st st2 ?_
 have _r : Fld Z h2 b2 s_j "loadFactor" "F" (.float (0 : UInt32)) := D2 (Or.inr (qw hw 30 rfl)) (ty := .float) (by decide)
 have _G : Fld Z h2 b2 s_f "putMode" "I" (.int 0) := D2 (Or.inl (qw hw 32 rfl)) (ty := .int) (by decide)
 have _j : Fld Z h2 b2 s_f "accessOrder" "Z" (.int 0) := D2 (Or.inr (qw hw 34 rfl)) (ty := .boolean) (by decide)
 have _V : Fld Z h2 b2 s_j "table" s_p .null := D2 (Or.inl (qw hw 157 rfl)) (ty := (.array (.object s_c))) (by decide)
 have _y : Fld Z h2 b2 s_j "threshold" "I" (.int 0) := D2 (Or.inl (qw hw 164 rfl)) (ty := .int) (by decide)
 have _aa : Fld Z h2 b2 s_f "tail" s_h .null := D2 (Or.inl (qw hw 201 rfl)) (ty := (.object s_d)) (by decide)
 have _ba : Fld Z h2 b2 s_f "head" s_h .null := D2 (Or.inl (qw hw 203 rfl)) (ty := (.object s_d)) (by decide)
 have _D : Fld Z h2 b2 s_j s_x "I" (.int 0) := D2 (Or.inl (qw hw 205 rfl)) (ty := .int) (by decide)
 have _ca : Fld Z h2 b2 s_j "size" "I" (.int 0) := D2 (Or.inl (qw hw 207 rfl)) (ty := .int) (by decide)
 refine gs ?_ fun _ _k => XS.dup X2.here hx rfl (hb hby d1_8) rfl rfl _k
 show Go p e s _E _ _ _ T2 (mkF m 9 #[vR gr, vI (3 : Int32)] [(.ref b2), (.ref b2), (.ref gr)])
 refine Go.callC (b := b2) (W := 2) (argsL := []) (rest := [(.ref b2), (.ref gr)]) X2 hx hZ (y := mn_2) rfl _i (qw hw 12 rfl) (qw hw 13 rfl) (qw hw 11 rfl) (qw hw 14 rfl) (rmLH l Z a0 hw [] b2  h2 n0 gn2 A2 _r _V _y _D _ca _ba _aa _G _j) e2 (by decide) (by rw [hml]; rfl) (lenOf pd0 rfl) (Nat.le_of_eq rfl) (hb hby d1_9) ?_
 intro T3 v3 L3 h3 e3 X3 hQ3
 obtain ⟨rfl, N3, K3, _g, _H, _k, _t, _M, _N, _O, _z, _c⟩ := hQ3
 have M3 := Fr.app N0 N3
 have _d := (_T.ext E2).keep K3 (ninS (Nat.ne_of_lt (Nat.lt_of_lt_of_le _a.lt sz2)) nin0)
 have _da := (_a.ext E2).keep K3
 obtain ⟨T4, h4, X4, e4, W4, st4⟩ := putF X3 hx hZ _i (host := "") (Or.inl (qw hw 35 rfl)) Via.refl e3 _d _da (Or.inr ⟨(qw hw 36 rfl), rfl, hnm⟩) (qw hw 1 rfl) (ty := (.object "java/util/Map")) (by decide) rfl rfl (g := (mkF m 12 #[vR gr, vI (3 : Int32)] [(.ref b2), (.ref gr)])) rfl rfl (hb hby d1_12)
 refine Go.st st4 ?_
 have _I : Fld Z h4 gr s_a "nodes" "Ljava/util/Map;" (.ref b2) := _d.same W4
 have N4 := Fr.snoc X4 M3 _ga
 refine gs ?_ fun _ _k => XS.aloadN X4.here hx rfl (hb hby d1_15) rfl rfl _k
 refine gs ?_ fun _ _k => XS.iloadN X4.here hx rfl (hb hby d1_16) rfl _k
 have _b := ((_F.ext E2).keep K3 (ninS (Nat.ne_of_lt (Nat.lt_of_lt_of_le _a.lt sz2)) nin0)).other W4 (Or.inr (slot_ne (Or.inr (qw hw 38 rfl)) (Or.inr (qw hw 36 rfl)) (by decide) (t := .int) (t' := (.object "java/util/Map")) (by decide) (by decide)))
 have _fa := _da.wr W4
 obtain ⟨T5, h5, X5, e5, W5, st5⟩ := putF X4 hx hZ _i (host := "") (Or.inl (qw hw 37 rfl)) Via.refl e4 _b _fa (Or.inr ⟨(qw hw 38 rfl), rfl, hnm⟩) (qw hw 1 rfl) (ty := .int) (by decide) rfl rfl (g := (mkF m 17 #[vR gr, vI (3 : Int32)] [(.int 3), (.ref gr)])) rfl rfl (hb hby d1_17)
 refine Go.st st5 ?_
 have _A : Fld Z h5 gr s_a "stimuli" "I" (.int 3) := _b.same W5
 have N5 := Fr.snoc X5 N4 _ga
 show Go p e s _E _ _ _ T5 (mkF m 20 #[vR gr, vI (3 : Int32)] [])
 have K_5 := (((K0.ext E2).trans K3 (allS (Or.inr sz2) all0)).wr W4 (Or.inl (by simp))).wr W5 (Or.inl (by simp))
 have _ha := _fa.wr W5
 have _J := _I.other W5 (Or.inr (slot_ne (Or.inr (qw hw 36 rfl)) (Or.inr (qw hw 38 rfl)) (by decide) (t := (.object "java/util/Map")) (t' := .int) (by decide) (by decide)))
 have _P := (((_W.ext E2).keep K3 (ninS (Nat.ne_of_lt (Nat.lt_of_lt_of_le _a.lt sz2)) nin0)).other W4 (Or.inr (slot_ne (Or.inl (qw hw 220 rfl)) (Or.inr (qw hw 36 rfl)) (by decide) (t := .int) (t' := (.object "java/util/Map")) (by decide) (by decide)))).other W5 (Or.inr (slot_ne (Or.inl (qw hw 220 rfl)) (Or.inr (qw hw 38 rfl)) (by decide) (t := .int) (t' := .int) (by decide) (by decide)))
 have _K := (((_U.ext E2).keep K3 (ninS (Nat.ne_of_lt (Nat.lt_of_lt_of_le _a.lt sz2)) nin0)).other W4 (Or.inr (slot_ne (Or.inl (qw hw 236 rfl)) (Or.inr (qw hw 36 rfl)) (by decide) (t := .int) (t' := (.object "java/util/Map")) (by decide) (by decide)))).other W5 (Or.inr (slot_ne (Or.inl (qw hw 236 rfl)) (Or.inr (qw hw 38 rfl)) (by decide) (t := .int) (t' := .int) (by decide) (by decide)))
 have _o := (((_w.ext E2).keep K3 (ninS (Nat.ne_of_lt (Nat.lt_of_lt_of_le _a.lt sz2)) nin0)).other W4 (Or.inr (slot_ne (Or.inl (qw hw 364 rfl)) (Or.inr (qw hw 36 rfl)) (by decide) (t := (.object s_e)) (t' := (.object "java/util/Map")) (by decide) (by decide)))).other W5 (Or.inr (slot_ne (Or.inl (qw hw 364 rfl)) (Or.inr (qw hw 38 rfl)) (by decide) (t := (.object s_e)) (t' := .int) (by decide) (by decide)))
 have _u := (((_C.ext E2).keep K3 (ninS (Nat.ne_of_lt (Nat.lt_of_lt_of_le _a.lt sz2)) nin0)).other W4 (Or.inr (slot_ne (Or.inl (qw hw 344 rfl)) (Or.inr (qw hw 36 rfl)) (by decide) (t := (.object s_b)) (t' := (.object "java/util/Map")) (by decide) (by decide)))).other W5 (Or.inr (slot_ne (Or.inl (qw hw 344 rfl)) (Or.inr (qw hw 38 rfl)) (by decide) (t := (.object s_b)) (t' := .int) (by decide) (by decide)))
 have _ia := ((A2.keep K3).wr W4).wr W5
 have _h := (_g.other W4 (Or.inl (Ne.symm (Nat.ne_of_lt (Nat.lt_of_lt_of_le _a.lt sz2))))).other W5 (Or.inl (Ne.symm (Nat.ne_of_lt (Nat.lt_of_lt_of_le _a.lt sz2))))
 have _B := (_z.other W4 (Or.inl (Ne.symm (Nat.ne_of_lt (Nat.lt_of_lt_of_le _a.lt sz2))))).other W5 (Or.inl (Ne.symm (Nat.ne_of_lt (Nat.lt_of_lt_of_le _a.lt sz2))))
 have _f := (_c.other W4 (Or.inl (Ne.symm (Nat.ne_of_lt (Nat.lt_of_lt_of_le _a.lt sz2))))).other W5 (Or.inl (Ne.symm (Nat.ne_of_lt (Nat.lt_of_lt_of_le _a.lt sz2))))
 have _L := (_H.other W4 (Or.inl (Ne.symm (Nat.ne_of_lt (Nat.lt_of_lt_of_le _a.lt sz2))))).other W5 (Or.inl (Ne.symm (Nat.ne_of_lt (Nat.lt_of_lt_of_le _a.lt sz2))))
 have _q := (_k.other W4 (Or.inl (Ne.symm (Nat.ne_of_lt (Nat.lt_of_lt_of_le _a.lt sz2))))).other W5 (Or.inl (Ne.symm (Nat.ne_of_lt (Nat.lt_of_lt_of_le _a.lt sz2))))
 have _Q := (_O.other W4 (Or.inl (Ne.symm (Nat.ne_of_lt (Nat.lt_of_lt_of_le _a.lt sz2))))).other W5 (Or.inl (Ne.symm (Nat.ne_of_lt (Nat.lt_of_lt_of_le _a.lt sz2))))
 have _R := (_N.other W4 (Or.inl (Ne.symm (Nat.ne_of_lt (Nat.lt_of_lt_of_le _a.lt sz2))))).other W5 (Or.inl (Ne.symm (Nat.ne_of_lt (Nat.lt_of_lt_of_le _a.lt sz2))))
 have _v := (_t.other W4 (Or.inl (Ne.symm (Nat.ne_of_lt (Nat.lt_of_lt_of_le _a.lt sz2))))).other W5 (Or.inl (Ne.symm (Nat.ne_of_lt (Nat.lt_of_lt_of_le _a.lt sz2))))
 have _S := (_M.other W4 (Or.inl (Ne.symm (Nat.ne_of_lt (Nat.lt_of_lt_of_le _a.lt sz2))))).other W5 (Or.inl (Ne.symm (Nat.ne_of_lt (Nat.lt_of_lt_of_le _a.lt sz2))))
 exact Go.retV X5 hx hlk _ja (hb hby d1_20) (by decide) (by decide) ⟨b2, rfl, N5, (by rw [e5]; exact K_5), sz2, (by rw [e5]; exact _ha), (by rw [e5]; exact _A), (by rw [e5]; exact _J), (by rw [e5]; exact _P), (by rw [e5]; exact _K), (by rw [e5]; exact _o), (by rw [e5]; exact _u), (by rw [e5]; exact _ia), (by rw [e5]; exact _h), (by rw [e5]; exact _B), (by rw [e5]; exact _f), (by rw [e5]; exact _L), (by rw [e5]; exact _q), (by rw [e5]; exact _Q), (by rw [e5]; exact _R), (by rw [e5]; exact _v), (by rw [e5]; exact _S)⟩
theorem d6_0 : decode bc6 0 = .ok (.iload_n 0, 1) := by decide +kernel
theorem d6_1 : decode bc6 1 = .ok (.bipush (-128), 2) := by decide +kernel
theorem d6_3 : decode bc6 3 = .ok (.if_icmp .lt 20, 3) := by decide +kernel
theorem d6_6 : decode bc6 6 = .ok (.iload_n 0, 1) := by decide +kernel
theorem d6_7 : decode bc6 7 = .ok (.getstatic 191, 3) := by decide +kernel
theorem d6_10 : decode bc6 10 = .ok (.if_icmp .gt 13, 3) := by decide +kernel
theorem d6_13 : decode bc6 13 = .ok (.getstatic 195, 3) := by decide +kernel
theorem d6_16 : decode bc6 16 = .ok (.iload_n 0, 1) := by decide +kernel
theorem d6_17 : decode bc6 17 = .ok (.sipush 128, 3) := by decide +kernel
theorem d6_20 : decode bc6 20 = .ok (.iadd, 1) := by decide +kernel
theorem d6_21 : decode bc6 21 = .ok (.aaload, 1) := by decide +kernel
theorem d6_22 : decode bc6 22 = .ok (.areturn, 1) := by decide +kernel
theorem ef_VO0 (m : MethodId) (x0 : Int32) : entryFrame m #[(.int x0)] 1 = mkF m 0 #[.val (.int x0)] [] := by first | (simp [entryFrame, mkF, argsToLocals, Value.category]; done) | rfl
theorem rmVO0 (l : Launch) (Z : State) (a0 : Array Value) (hw : HW a0 Z) (ws : List Jvm.Cond) (ca : Addr) (cl : Cell) (ib : Addr) (h0 : Heap) (n0 : Nat) (Z0 : n0 ≤ h0.size) (ZN : Z.heap.size ≤ n0) (EZ : Ext Z.heap h0) (SH : Sta Z Z.heap s_n "high" "I" (.int 127)) (SC : Sta Z Z.heap s_n "cache" "[Ljava/lang/Integer;" (.ref ca)) (BX : Bxs Z ca cl s_i "I" 256 (fun j => .int (j - 128))) (hib : cl.slots[128]? = some (.ref ib)) :
  Meets l Z mn_27 jdk_33_method_22_code 1 (some (.object s_i)) ({ frames := 0, cells := 0, slots := 0, locals := 0 } : Room) ws #[(.int 0)] h0 (fun v h L => v = some (.ref ib) ∧ Fr n0 L ∧ Ext h0 h) := by
 refine Meets.of (plainFor_of_name pn_5) ?_
 intro p e s m _a _d c s₁ X0 hx hby hml _c hlk hnm hZ _b e0
 replace _b : s.vm.findClass s_i = some m.cls := _b
 have N0 := Fr.nil n0
 have Q0 := own_extR h0
 refine Go.cast (ef_VO0 m (0 : Int32)) ?_
 show Go p e s _a _ _ _ s₁ (mkF m 0 #[vI (0 : Int32)] [])
 refine gs ?_ fun _ _k => XS.iloadN X0.here hx rfl (hb hby d6_0) rfl _k
 refine gs ?_ fun _ _k => XT.bipushV X0.here hx rfl (-128 : Int32) (hb hby d6_1) (by decide) _k
 refine gs ?_ fun _ _k => XS.icmpNo X0.here hx rfl (hb hby d6_3) rfl (flt (by decide : ¬ ((0 : Int32) < (-128 : Int32)))).1 _k
 refine gs ?_ fun _ _k => XS.iloadN X0.here hx rfl (hb hby d6_6) rfl _k
 obtain ⟨T1, X1, e1, st1⟩ := getS2 X0 hx hZ _b (host := "") (Or.inl (qw hw 43 rfl)) Via.refl e0 (SH.ext EZ) (g := (mkF m 7 #[vI (0 : Int32)] [(.int 0)])) rfl (hb hby d6_7)
 refine Go.st st1 ?_
 refine gs ?_ fun _ _k => XS.icmpNo X1.here hx rfl (hb hby d6_10) rfl (flt (by decide : ¬ ((127 : Int32) < (0 : Int32)))).2.2.1 _k
 obtain ⟨T2, X2, e2, st2⟩ := getS2 X1 hx hZ _b (host := "") (Or.inl (qw hw 45 rfl)) Via.refl e1 (SC.ext EZ) (g := (mkF m 13 #[vI (0 : Int32)] [])) rfl (hb hby d6_13)
 refine Go.st st2 ?_
 refine gs ?_ fun _ _k => XS.iloadN X2.here hx rfl (hb hby d6_16) rfl _k
 refine gs ?_ fun _ _k => XT.sipushV X2.here hx rfl (128 : Int32) (hb hby d6_17) (by decide) _k
 refine gs ?_ fun _ _k => XS.iadd X2.here hx rfl (hb hby d6_20) rfl _k
 show Go p e s _a _ _ _ T2 (mkF m 21 #[vI (0 : Int32)] [(.int ((0 : Int32) + (128 : Int32))), (.ref ca)])
 have hin : ¬ (((0 : Int32) + (128 : Int32)) < 0 ∨ cl.slots.size ≤ ((0 : Int32) + (128 : Int32)).toNatClampNeg) := by rw [BX.2.1]; decide
 have Ar := (BX.ext EZ).1
 refine Go.st (X2.aaload hx (j := ((0 : Int32) + (128 : Int32))) (v := .ref ib) (by rw [e2]; exact Ar.1) (State.isArrayOf_alike hZ.alike Ar.2.1) rfl Ar.2.2 hin hib (g := (mkF m 21 #[vI (0 : Int32)] [(.int ((0 : Int32) + (128 : Int32))), (.ref ca)])) rfl rfl (hb hby d6_21)) ?_
 show Go p e s _a _ _ _ T2 (mkF m 22 #[vI (0 : Int32)] [(.ref ib)])
 exact Go.retA X2 hx hlk _c rfl rfl (hb hby d6_22) (by decide) (by decide) ⟨rfl, N0, (by rw [e2]; exact Q0)⟩
theorem ef_VO1 (m : MethodId) (x0 : Int32) : entryFrame m #[(.int x0)] 1 = mkF m 0 #[.val (.int x0)] [] := by first | (simp [entryFrame, mkF, argsToLocals, Value.category]; done) | rfl
theorem rmVO1 (l : Launch) (Z : State) (a0 : Array Value) (hw : HW a0 Z) (ws : List Jvm.Cond) (ca : Addr) (cl : Cell) (ib : Addr) (h0 : Heap) (n0 : Nat) (Z0 : n0 ≤ h0.size) (ZN : Z.heap.size ≤ n0) (EZ : Ext Z.heap h0) (SH : Sta Z Z.heap s_n "high" "I" (.int 127)) (SC : Sta Z Z.heap s_n "cache" "[Ljava/lang/Integer;" (.ref ca)) (BX : Bxs Z ca cl s_i "I" 256 (fun j => .int (j - 128))) (hib : cl.slots[129]? = some (.ref ib)) :
  Meets l Z mn_27 jdk_33_method_22_code 1 (some (.object s_i)) ({ frames := 0, cells := 0, slots := 0, locals := 0 } : Room) ws #[(.int 1)] h0 (fun v h L => v = some (.ref ib) ∧ Fr n0 L ∧ Ext h0 h) := by
 refine Meets.of (plainFor_of_name pn_5) ?_
 intro p e s m _a _d c s₁ X0 hx hby hml _c hlk hnm hZ _b e0
 replace _b : s.vm.findClass s_i = some m.cls := _b
 have N0 := Fr.nil n0
 have Q0 := own_extR h0
 refine Go.cast (ef_VO1 m (1 : Int32)) ?_
 show Go p e s _a _ _ _ s₁ (mkF m 0 #[vI (1 : Int32)] [])
 refine gs ?_ fun _ _k => XS.iloadN X0.here hx rfl (hb hby d6_0) rfl _k
 refine gs ?_ fun _ _k => XT.bipushV X0.here hx rfl (-128 : Int32) (hb hby d6_1) (by decide) _k
 refine gs ?_ fun _ _k => XS.icmpNo X0.here hx rfl (hb hby d6_3) rfl (flt (by decide : ¬ ((1 : Int32) < (-128 : Int32)))).1 _k
 refine gs ?_ fun _ _k => XS.iloadN X0.here hx rfl (hb hby d6_6) rfl _k
 obtain ⟨T1, X1, e1, st1⟩ := getS2 X0 hx hZ _b (host := "") (Or.inl (qw hw 43 rfl)) Via.refl e0 (SH.ext EZ) (g := (mkF m 7 #[vI (1 : Int32)] [(.int 1)])) rfl (hb hby d6_7)
 refine Go.st st1 ?_
 refine gs ?_ fun _ _k => XS.icmpNo X1.here hx rfl (hb hby d6_10) rfl (flt (by decide : ¬ ((127 : Int32) < (1 : Int32)))).2.2.1 _k
 obtain ⟨T2, X2, e2, st2⟩ := getS2 X1 hx hZ _b (host := "") (Or.inl (qw hw 45 rfl)) Via.refl e1 (SC.ext EZ) (g := (mkF m 13 #[vI (1 : Int32)] [])) rfl (hb hby d6_13)
 refine Go.st st2 ?_
 refine gs ?_ fun _ _k => XS.iloadN X2.here hx rfl (hb hby d6_16) rfl _k
 refine gs ?_ fun _ _k => XT.sipushV X2.here hx rfl (128 : Int32) (hb hby d6_17) (by decide) _k
 refine gs ?_ fun _ _k => XS.iadd X2.here hx rfl (hb hby d6_20) rfl _k
 show Go p e s _a _ _ _ T2 (mkF m 21 #[vI (1 : Int32)] [(.int ((1 : Int32) + (128 : Int32))), (.ref ca)])
 have hin : ¬ (((1 : Int32) + (128 : Int32)) < 0 ∨ cl.slots.size ≤ ((1 : Int32) + (128 : Int32)).toNatClampNeg) := by rw [BX.2.1]; decide
 have Ar := (BX.ext EZ).1
 refine Go.st (X2.aaload hx (j := ((1 : Int32) + (128 : Int32))) (v := .ref ib) (by rw [e2]; exact Ar.1) (State.isArrayOf_alike hZ.alike Ar.2.1) rfl Ar.2.2 hin hib (g := (mkF m 21 #[vI (1 : Int32)] [(.int ((1 : Int32) + (128 : Int32))), (.ref ca)])) rfl rfl (hb hby d6_21)) ?_
 show Go p e s _a _ _ _ T2 (mkF m 22 #[vI (1 : Int32)] [(.ref ib)])
 exact Go.retA X2 hx hlk _c rfl rfl (hb hby d6_22) (by decide) (by decide) ⟨rfl, N0, (by rw [e2]; exact Q0)⟩
theorem ef_VO2 (m : MethodId) (x0 : Int32) : entryFrame m #[(.int x0)] 1 = mkF m 0 #[.val (.int x0)] [] := by first | (simp [entryFrame, mkF, argsToLocals, Value.category]; done) | rfl
theorem rmVO2 (l : Launch) (Z : State) (a0 : Array Value) (hw : HW a0 Z) (ws : List Jvm.Cond) (ca : Addr) (cl : Cell) (ib : Addr) (h0 : Heap) (n0 : Nat) (Z0 : n0 ≤ h0.size) (ZN : Z.heap.size ≤ n0) (EZ : Ext Z.heap h0) (SH : Sta Z Z.heap s_n "high" "I" (.int 127)) (SC : Sta Z Z.heap s_n "cache" "[Ljava/lang/Integer;" (.ref ca)) (BX : Bxs Z ca cl s_i "I" 256 (fun j => .int (j - 128))) (hib : cl.slots[130]? = some (.ref ib)) :
  Meets l Z mn_27 jdk_33_method_22_code 1 (some (.object s_i)) ({ frames := 0, cells := 0, slots := 0, locals := 0 } : Room) ws #[(.int 2)] h0 (fun v h L => v = some (.ref ib) ∧ Fr n0 L ∧ Ext h0 h) := by
 refine Meets.of (plainFor_of_name pn_5) ?_
 intro p e s m _a _d c s₁ X0 hx hby hml _c hlk hnm hZ _b e0
 replace _b : s.vm.findClass s_i = some m.cls := _b
 have N0 := Fr.nil n0
 have Q0 := own_extR h0
 refine Go.cast (ef_VO2 m (2 : Int32)) ?_
 show Go p e s _a _ _ _ s₁ (mkF m 0 #[vI (2 : Int32)] [])
 refine gs ?_ fun _ _k => XS.iloadN X0.here hx rfl (hb hby d6_0) rfl _k
 refine gs ?_ fun _ _k => XT.bipushV X0.here hx rfl (-128 : Int32) (hb hby d6_1) (by decide) _k
 refine gs ?_ fun _ _k => XS.icmpNo X0.here hx rfl (hb hby d6_3) rfl (flt (by decide : ¬ ((2 : Int32) < (-128 : Int32)))).1 _k
 refine gs ?_ fun _ _k => XS.iloadN X0.here hx rfl (hb hby d6_6) rfl _k
 obtain ⟨T1, X1, e1, st1⟩ := getS2 X0 hx hZ _b (host := "") (Or.inl (qw hw 43 rfl)) Via.refl e0 (SH.ext EZ) (g := (mkF m 7 #[vI (2 : Int32)] [(.int 2)])) rfl (hb hby d6_7)
 refine Go.st st1 ?_
 refine gs ?_ fun _ _k => XS.icmpNo X1.here hx rfl (hb hby d6_10) rfl (flt (by decide : ¬ ((127 : Int32) < (2 : Int32)))).2.2.1 _k
 obtain ⟨T2, X2, e2, st2⟩ := getS2 X1 hx hZ _b (host := "") (Or.inl (qw hw 45 rfl)) Via.refl e1 (SC.ext EZ) (g := (mkF m 13 #[vI (2 : Int32)] [])) rfl (hb hby d6_13)
 refine Go.st st2 ?_
 refine gs ?_ fun _ _k => XS.iloadN X2.here hx rfl (hb hby d6_16) rfl _k
 refine gs ?_ fun _ _k => XT.sipushV X2.here hx rfl (128 : Int32) (hb hby d6_17) (by decide) _k
 refine gs ?_ fun _ _k => XS.iadd X2.here hx rfl (hb hby d6_20) rfl _k
 show Go p e s _a _ _ _ T2 (mkF m 21 #[vI (2 : Int32)] [(.int ((2 : Int32) + (128 : Int32))), (.ref ca)])
 have hin : ¬ (((2 : Int32) + (128 : Int32)) < 0 ∨ cl.slots.size ≤ ((2 : Int32) + (128 : Int32)).toNatClampNeg) := by rw [BX.2.1]; decide
 have Ar := (BX.ext EZ).1
 refine Go.st (X2.aaload hx (j := ((2 : Int32) + (128 : Int32))) (v := .ref ib) (by rw [e2]; exact Ar.1) (State.isArrayOf_alike hZ.alike Ar.2.1) rfl Ar.2.2 hin hib (g := (mkF m 21 #[vI (2 : Int32)] [(.int ((2 : Int32) + (128 : Int32))), (.ref ca)])) rfl rfl (hb hby d6_21)) ?_
 show Go p e s _a _ _ _ T2 (mkF m 22 #[vI (2 : Int32)] [(.ref ib)])
 exact Go.retA X2 hx hlk _c rfl rfl (hb hby d6_22) (by decide) (by decide) ⟨rfl, N0, (by rw [e2]; exact Q0)⟩
theorem d10_0 : decode bc10 0 = .ok (.aload_n 0, 1) := by decide +kernel
theorem d10_1 : decode bc10 1 = .ok (.invokespecial 1, 3) := by decide +kernel
theorem d10_4 : decode bc10 4 = .ok (.return_, 1) := by decide +kernel
theorem ef_BC (m : MethodId) (x0 : Addr) : entryFrame m #[(.ref x0)] 1 = mkF m 0 #[.val (.ref x0)] [] := by first | (simp [entryFrame, mkF, argsToLocals, Value.category]; done) | rfl
theorem rmBC (l : Launch) (Z : State) (a0 : Array Value) (hw : HW a0 Z) (ws : List Jvm.Cond) (b : Addr) (h0 : Heap) (n0 : Nat) :
  Meets l Z mn_28 jdk_22_method_1_code 1 none ({ frames := 1, cells := 0, slots := 0, locals := 12 } : Room) ws #[(.ref b)] h0 (fun v h L => v = none ∧ Fr n0 L ∧ h = h0) := by
 refine Meets.of (plainFor_of_name pn_9) ?_
 intro p e s m _a _d c s₁ X0 hx hby hml _c hlk hnm hZ _b e0
 replace _b : s.vm.findClass "java/util/AbstractCollection" = some m.cls := _b
 have N0 := Fr.nil n0
 refine Go.cast (ef_BC m b) ?_
 show Go p e s _a _ _ _ s₁ (mkF m 0 #[vR b] [])
 refine gs ?_ fun _ _k => XS.aloadN X0.here hx rfl (hb hby d10_0) rfl rfl _k
 show Go p e s _a _ _ _ s₁ (mkF m 1 #[vR b] [(.ref b)])
 obtain ⟨T1, X1, e1, st1⟩ := initO X0 hx hZ _b (qw hw 68 rfl) (qw hw 7 rfl) (qw hw 8 rfl) e0 (g := (mkF m 1 #[vR b] [(.ref b)])) rfl (by rw [hml]; rfl) rfl (hb hby d10_1) (by decide) (W := 0) (by show 2 * 0 + _ ≤ _; exact Nat.le_of_eq rfl) (by decide)
 refine Go.st st1 ?_
 show Go p e s _a _ _ _ T1 (mkF m 4 #[vR b] [])
 exact Go.retV X1 hx hlk _c (hb hby d10_4) (by decide) (by decide) ⟨rfl, N0, e1⟩
theorem d9_0 : decode bc9 0 = .ok (.aload_n 0, 1) := by decide +kernel
theorem d9_1 : decode bc9 1 = .ok (.invokespecial 1, 3) := by decide +kernel
theorem d9_4 : decode bc9 4 = .ok (.aload_n 0, 1) := by decide +kernel
theorem d9_5 : decode bc9 5 = .ok (.iconst 0, 1) := by decide +kernel
theorem d9_6 : decode bc9 6 = .ok (.putfield 7, 3) := by decide +kernel
theorem d9_9 : decode bc9 9 = .ok (.return_, 1) := by decide +kernel
theorem ef_BL (m : MethodId) (x0 : Addr) : entryFrame m #[(.ref x0)] 1 = mkF m 0 #[.val (.ref x0)] [] := by first | (simp [entryFrame, mkF, argsToLocals, Value.category]; done) | rfl
theorem rmBL (l : Launch) (Z : State) (a0 : Array Value) (hw : HW a0 Z) (ws : List Jvm.Cond) (b : Addr)  (h0 : Heap) (n0 : Nat) (gb : n0 ≤ b) (E_b : Exa Z h0 b s_g) (_a : Fld Z h0 b s_r s_x "I" (.int 0)) (_c : Fld Z h0 b s_g s_w s_k .null) (_i : Fld Z h0 b s_g "size" "I" (.int 0))  :
  Meets l Z mn_29 jdk_39_method_1_code 1 none ({ frames := 2, cells := 0, slots := 0, locals := 24 } : Room) ws #[(.ref b)] h0 (fun v h L => v = none ∧ Fr n0 L ∧ Keep h0 h [b] ∧ Fld Z h b s_r s_x "I" (.int 0) ∧ Fld Z h b s_g s_w s_k .null ∧ Fld Z h b s_g "size" "I" (.int 0)) := by
 refine Meets.of (plainFor_of_name pn_10) ?_
 intro p e s m _f _k c s₁ X0 hx hby hml _j hlk hnm hZ _g e0
 replace _g : s.vm.findClass s_r = some m.cls := _g
 have N0 := Fr.nil n0
 have K0 := Keep.refl h0 [b]
 refine Go.cast (ef_BL m b) ?_
 show Go p e s _f _ _ _ s₁ (mkF m 0 #[vR b] [])
 refine gs ?_ fun _ _k => XS.aloadN X0.here hx rfl (hb hby d9_0) rfl rfl _k
 show Go p e s _f _ _ _ s₁ (mkF m 1 #[vR b] [(.ref b)])
 refine Go.callC (b := b) (W := 0) (argsL := []) (rest := []) X0 hx hZ (y := mn_28) rfl _g (qw hw 62 rfl) (qw hw 63 rfl) (qw hw 66 rfl) (qw hw 67 rfl) (rmBC l Z a0 hw [] b h0 n0) e0 (by decide) (by rw [hml]; rfl) (lenOf pd0 rfl) (Nat.le_of_eq rfl) (hb hby d9_1) ?_
 intro T1 v1 L1 h1 e1 X1 hQ1
 obtain ⟨rfl, N1, E1⟩ := hQ1
 replace E1 := e1.trans E1
 have M1 := Fr.app N0 N1
 refine gs ?_ fun _ _k => XS.aloadN X1.here hx rfl (hb hby d9_4) rfl rfl _k
 refine gs ?_ fun _ _k => XT.iconstV X1.here hx rfl (0 : Int32) (hb hby d9_5) (by decide) _k
 obtain ⟨T2, h2, X2, e2, W2, st2⟩ := putF X1 hx hZ _g (host := "") (Or.inl (qw hw 69 rfl)) Via.refl E1 _a E_b (Or.inl (qw hw 70 rfl)) (qw hw 51 rfl) (ty := .int) (by decide) rfl rfl (g := (mkF m 6 #[vR b] [(.int 0), (.ref b)])) rfl rfl (hb hby d9_6)
 refine Go.st st2 ?_
 have _d : Fld Z h2 b s_r s_x "I" (.int 0) := _a.same W2
 have N2 := Fr.snoc X2 M1 gb
 show Go p e s _f _ _ _ T2 (mkF m 9 #[vR b] [])
 have K_2 := K0.wr W2 (Or.inl (List.mem_singleton.mpr rfl))
 have _b := _c.other W2 (Or.inr (slot_ne (Or.inl (qw hw 73 rfl)) (Or.inl (qw hw 70 rfl)) (by decide) (t := (.array (.object s_e))) (t' := .int) (by decide) (by decide)))
 have _h := _i.other W2 (Or.inr (slot_ne (Or.inl (qw hw 106 rfl)) (Or.inl (qw hw 70 rfl)) (by decide) (t := .int) (t' := .int) (by decide) (by decide)))
 exact Go.retV X2 hx hlk _j (hb hby d9_9) (by decide) (by decide) ⟨rfl, N2, (by rw [e2]; exact K_2), (by rw [e2]; exact _d), (by rw [e2]; exact _b), (by rw [e2]; exact _h)⟩
theorem d8_0 : decode bc8 0 = .ok (.aload_n 0, 1) := by decide +kernel
theorem d8_1 : decode bc8 1 = .ok (.invokespecial 1, 3) := by decide +kernel
theorem d8_4 : decode bc8 4 = .ok (.aload_n 0, 1) := by decide +kernel
theorem d8_5 : decode bc8 5 = .ok (.getstatic 39, 3) := by decide +kernel
theorem d8_8 : decode bc8 8 = .ok (.putfield 9, 3) := by decide +kernel
theorem d8_11 : decode bc8 11 = .ok (.return_, 1) := by decide +kernel
theorem ef_AI (m : MethodId) (x0 : Addr) : entryFrame m #[(.ref x0)] 1 = mkF m 0 #[.val (.ref x0)] [] := by first | (simp [entryFrame, mkF, argsToLocals, Value.category]; done) | rfl
theorem rmAI (l : Launch) (Z : State) (a0 : Array Value) (hw : HW a0 Z) (ws : List Jvm.Cond) (dc : Addr) (al : Addr) (h0 : Heap) (n0 : Nat) (Z0 : n0 ≤ h0.size) (ZN : Z.heap.size ≤ n0) (EZ : Ext Z.heap h0) (_r : n0 ≤ al) (_t : Exa Z h0 al s_g) (_g : Fld Z h0 al s_r s_x "I" (.int 0)) (_c : Fld Z h0 al s_g s_w s_k .null) (_o : Fld Z h0 al s_g "size" "I" (.int 0)) (SDC : Sta Z Z.heap s_g s_v s_k (.ref dc)) :
  Meets l Z mn_30 jdk_38_method_2_code 1 none ({ frames := 3, cells := 0, slots := 0, locals := 36 } : Room) ws #[(.ref al)] h0 (fun v h L => v = none ∧ Fr n0 L ∧ Keep h0 h [al] ∧ Exa Z h al s_g ∧ Fld Z h al s_r s_x "I" (.int 0) ∧ Fld Z h al s_g s_w s_k (.ref dc) ∧ Fld Z h al s_g "size" "I" (.int 0)) := by
 refine Meets.of (plainFor_of_name pn_11) ?_
 intro p e s m _k _y c s₁ X0 hx hby hml _v hlk hnm hZ _h e0
 replace _h : s.vm.findClass s_g = some m.cls := _h
 have N0 := Fr.nil n0
 have K0 := Keep.refl h0 [al]
 refine Go.cast (ef_AI m al) ?_
 show Go p e s _k _ _ _ s₁ (mkF m 0 #[vR al] [])
 refine gs ?_ fun _ _k => XS.aloadN X0.here hx rfl (hb hby d8_0) rfl rfl _k
 show Go p e s _k _ _ _ s₁ (mkF m 1 #[vR al] [(.ref al)])
 refine Go.callC (b := al) (W := 0) (argsL := []) (rest := []) X0 hx hZ (y := mn_29) rfl _h (qw hw 56 rfl) (qw hw 57 rfl) (qw hw 60 rfl) (qw hw 61 rfl) (rmBL l Z a0 hw [] al  h0 n0 _r _t _g _c _o) e0 (by decide) (by rw [hml]; rfl) (lenOf pd0 rfl) (Nat.le_of_eq rfl) (hb hby d8_1) ?_
 intro T1 v1 L1 h1 e1 X1 hQ1
 obtain ⟨rfl, N1, K1, _d, _a, _i⟩ := hQ1
 have M1 := Fr.app N0 N1
 refine gs ?_ fun _ _k => XS.aloadN X1.here hx rfl (hb hby d8_4) rfl rfl _k
 have _w := own_extK EZ K1 (allS (Nat.le_trans ZN _r) all0)
 obtain ⟨T2, X2, e2, st2⟩ := getS2 X1 hx hZ _h (host := "") (Or.inl (qw hw 71 rfl)) Via.refl e1 (SDC.ext _w) (g := (mkF m 5 #[vR al] [(.ref al)])) rfl (hb hby d8_5)
 refine Go.st st2 ?_
 have _q := _t.keep K1
 obtain ⟨T3, h3, X3, e3, W3, st3⟩ := putF X2 hx hZ _h (host := "") (Or.inl (qw hw 72 rfl)) Via.refl e2 _a _q (Or.inl (qw hw 73 rfl)) (qw hw 51 rfl) (ty := (.array (.object s_e))) (by decide) rfl rfl (g := (mkF m 8 #[vR al] [(.ref dc), (.ref al)])) rfl rfl (hb hby d8_8)
 refine Go.st st3 ?_
 have _b : Fld Z h3 al s_g s_w s_k (.ref dc) := _a.same W3
 have N3 := Fr.snoc X3 M1 _r
 show Go p e s _k _ _ _ T3 (mkF m 11 #[vR al] [])
 have K_3 := (K0.trans K1 (allS (Or.inl (by simp)) all0)).wr W3 (Or.inl (by simp))
 have _u := _q.wr W3
 have _f := _d.other W3 (Or.inr (slot_ne (Or.inl (qw hw 70 rfl)) (Or.inl (qw hw 73 rfl)) (by decide) (t := .int) (t' := (.array (.object s_e))) (by decide) (by decide)))
 have _j := _i.other W3 (Or.inr (slot_ne (Or.inl (qw hw 106 rfl)) (Or.inl (qw hw 73 rfl)) (by decide) (t := .int) (t' := (.array (.object s_e))) (by decide) (by decide)))
 exact Go.retV X3 hx hlk _v (hb hby d8_11) (by decide) (by decide) ⟨rfl, N3, (by rw [e3]; exact K_3), (by rw [e3]; exact _u), (by rw [e3]; exact _f), (by rw [e3]; exact _b), (by rw [e3]; exact _j)⟩
theorem d36_0 : decode bc36 0 = .ok (.iload_n 0, 1) := by decide +kernel
theorem d36_1 : decode bc36 1 = .ok (.iload_n 1, 1) := by decide +kernel
theorem d36_2 : decode bc36 2 = .ok (.if_icmp .lt 7, 3) := by decide +kernel
theorem d36_5 : decode bc36 5 = .ok (.iload_n 0, 1) := by decide +kernel
theorem d36_6 : decode bc36 6 = .ok (.goto 4, 3) := by decide +kernel
theorem d36_10 : decode bc36 10 = .ok (.ireturn, 1) := by decide +kernel
theorem ef_MX (m : MethodId) (x0 : Int32) (x1 : Int32) : entryFrame m #[(.int x0), (.int x1)] 2 = mkF m 0 #[.val (.int x0), .val (.int x1)] [] := by first | (simp [entryFrame, mkF, argsToLocals, Value.category]; done) | rfl
theorem rmMX (l : Launch) (Z : State) (a0 : Array Value) (hw : HW a0 Z) (ws : List Jvm.Cond) (h0 : Heap) (n0 : Nat) (Z0 : n0 ≤ h0.size) :
  Meets l Z mn_31 jdk_29_method_65_code 2 (some .int) ({ frames := 0, cells := 0, slots := 0, locals := 0 } : Room) ws #[(.int 10), (.int 1)] h0 (fun v h L => v = some (.int 10) ∧ Fr n0 L ∧ Ext h0 h) := by
 refine Meets.of (Jvm.Free.JP.mathPlain rfl (by decide +kernel)) ?_
 intro p e s m _a _d c s₁ X0 hx hby hml _c hlk hnm hZ _b e0
 replace _b : s.vm.findClass "java/lang/Math" = some m.cls := _b
 have N0 := Fr.nil n0
 have Q0 := own_extR h0
 refine Go.cast (ef_MX m (10 : Int32) (1 : Int32)) ?_
 show Go p e s _a _ _ _ s₁ (mkF m 0 #[vI (10 : Int32), vI (1 : Int32)] [])
 refine gs ?_ fun _ _k => XS.iloadN X0.here hx rfl (hb hby d36_0) rfl _k
 refine gs ?_ fun _ _k => XS.iloadN X0.here hx rfl (hb hby d36_1) rfl _k
 refine gs ?_ fun _ _k => XS.icmpNo X0.here hx rfl (hb hby d36_2) rfl (flt (by decide : ¬ ((10 : Int32) < (1 : Int32)))).1 _k
 refine gs ?_ fun _ _k => XS.iloadN X0.here hx rfl (hb hby d36_5) rfl _k
 refine gs ?_ fun _ _k => XS.goto X0.here hx rfl (pc0 := 6) (pc' := 10) rfl (hb hby d36_6) (by decide) (by decide) _k
 show Go p e s _a _ _ _ s₁ (mkF m 10 #[vI (10 : Int32), vI (1 : Int32)] [(.int 10)])
 exact Go.retI X0 hx hlk _c (hb hby d36_10) (by decide) (by decide) ⟨rfl, N0, (by rw [e0]; exact Q0)⟩
theorem pd13 : parseMethodDescriptor "(II)I" = some ⟨[.int, .int], some .int⟩ := by decide +kernel
theorem d35_0 : decode bc35 0 = .ok (.aload_n 0, 1) := by decide +kernel
theorem d35_1 : decode bc35 1 = .ok (.getfield 9, 3) := by decide +kernel
theorem d35_4 : decode bc35 4 = .ok (.arraylength, 1) := by decide +kernel
theorem d35_5 : decode bc35 5 = .ok (.istore_n 2, 1) := by decide +kernel
theorem d35_6 : decode bc35 6 = .ok (.iload_n 2, 1) := by decide +kernel
theorem d35_7 : decode bc35 7 = .ok (.ifCond .gt 13, 3) := by decide +kernel
theorem d35_10 : decode bc35 10 = .ok (.aload_n 0, 1) := by decide +kernel
theorem d35_11 : decode bc35 11 = .ok (.getfield 9, 3) := by decide +kernel
theorem d35_14 : decode bc35 14 = .ok (.getstatic 39, 3) := by decide +kernel
theorem d35_17 : decode bc35 17 = .ok (.if_acmp .eq 28, 3) := by decide +kernel
theorem d35_45 : decode bc35 45 = .ok (.aload_n 0, 1) := by decide +kernel
theorem d35_46 : decode bc35 46 = .ok (.bipush 10, 2) := by decide +kernel
theorem d35_48 : decode bc35 48 = .ok (.iload_n 1, 1) := by decide +kernel
theorem d35_49 : decode bc35 49 = .ok (.invokestatic 79, 3) := by decide +kernel
theorem d35_52 : decode bc35 52 = .ok (.anewarray 7, 3) := by decide +kernel
theorem d35_55 : decode bc35 55 = .ok (.dup_x1, 1) := by decide +kernel
theorem d35_56 : decode bc35 56 = .ok (.putfield 9, 3) := by decide +kernel
theorem d35_59 : decode bc35 59 = .ok (.areturn, 1) := by decide +kernel
theorem ef_GR1 (m : MethodId) (x0 : Addr) (x1 : Int32) : entryFrame m #[(.ref x0), (.int x1)] 4 = mkF m 0 #[.val (.ref x0), .val (.int x1), .unset, .unset] [] := by first | (simp [entryFrame, mkF, argsToLocals, Value.category]; done) | rfl
theorem rmGR1 (l : Launch) (Z : State) (a0 : Array Value) (hw : HW a0 Z) (ws : List Jvm.Cond) (al : Addr) (dc : Addr) (_u : ClassId) (h0 : Heap) (n0 : Nat) (Z0 : n0 ≤ h0.size) (ZN : Z.heap.size ≤ n0) (EZ : Ext Z.heap h0) (_v : n0 ≤ al) (_o : Exa Z h0 al s_g) (_g : Fld Z h0 al s_r s_x "I" (.int 1)) (_a : Fld Z h0 al s_g s_w s_k (.ref dc)) (_j : Fld Z h0 al s_g "size" "I" (.int 0)) (_w : Arv Z h0 dc _u (.object s_e) (0 : Int32) [] .null) (_y : dc ≠ al) (SDC : Sta Z Z.heap s_g s_v s_k (.ref dc)) :
  Meets l Z mn_32 jdk_38_method_6_code 4 (some (.array (.object s_e))) ({ frames := 1, cells := 1, slots := 10, locals := 14 } : Room) ws #[(.ref al), (.int 1)] h0 (fun v h L => ∃ (b6 : Addr) (k6 : ClassId), v = some (.ref b6) ∧ Fr n0 L ∧ Keep h0 h [al] ∧ h0.size ≤ b6 ∧ Exa Z h al s_g ∧ Fld Z h al s_r s_x "I" (.int 1) ∧ Fld Z h al s_g s_w s_k (.ref b6) ∧ Fld Z h al s_g "size" "I" (.int 0) ∧ Arv Z h b6 k6 (.object s_e) (10 : Int32) [.null, .null, .null, .null, .null, .null, .null, .null, .null, .null] .null ∧ Exa Z h b6 s_k ∧ Ovr Z k6 s_e) := by
 refine Meets.of (plainFor_of_name pn_11) ?_
 intro p e s m _i _B c s₁ X0 hx hby hml _z hlk hnm hZ _c e0
 replace _c : s.vm.findClass s_g = some m.cls := _c
 have N0 := Fr.nil n0
 have K0 := Keep.refl h0 [al]
 refine Go.cast (ef_GR1 m al (1 : Int32)) ?_
 show Go p e s _i _ _ _ s₁ (mkF m 0 #[vR al, vI (1 : Int32), vU, vU] [])
 refine gs ?_ fun _ _k => XS.aloadN X0.here hx rfl (hb hby d35_0) rfl rfl _k
 obtain ⟨T1, X1, e1, st1⟩ := getF X0 hx hZ _c (host := "") (Or.inl (qw hw 72 rfl)) Via.refl e0 _a (g := (mkF m 1 #[vR al, vI (1 : Int32), vU, vU] [(.ref al)])) rfl rfl (hb hby d35_1)
 refine Go.st st1 ?_
 obtain ⟨cl2, Ar2, q2, S2, M2, H2, G2⟩ := (id _w)
 refine Go.st (X1.arraylength hx (by rw [e1]; exact Ar2.1) (State.isArrayOf_alike hZ.alike Ar2.2.1) (g := (mkF m 4 #[vR al, vI (1 : Int32), vU, vU] [(.ref dc)])) rfl rfl (hb hby d35_4)) ?_
 rw [len_of S2 M2]
 refine gs ?_ fun _ _k => XS.istoreN X1.here hx rfl (hb hby d35_5) rfl (l' := #[vR al, vI (1 : Int32), vI (0 : Int32), vU]) rfl _k
 refine gs ?_ fun _ _k => XS.iloadN X1.here hx rfl (hb hby d35_6) rfl _k
 refine gs ?_ fun _ _k => XS.ifNo X1.here hx rfl (hb hby d35_7) rfl ((if0 _ _).trans (flt (by decide : ¬ ((0 : Int32) < (0 : Int32)))).2.2.1) _k
 refine gs ?_ fun _ _k => XS.aloadN X1.here hx rfl (hb hby d35_10) rfl rfl _k
 obtain ⟨T3, X3, e3, st3⟩ := getF X1 hx hZ _c (host := "") (Or.inl (qw hw 72 rfl)) Via.refl e1 _a (g := (mkF m 11 #[vR al, vI (1 : Int32), vI (0 : Int32), vU] [(.ref al)])) rfl rfl (hb hby d35_11)
 refine Go.st st3 ?_
 obtain ⟨T4, X4, e4, st4⟩ := getS2 X3 hx hZ _c (host := "") (Or.inl (qw hw 71 rfl)) Via.refl e3 (SDC.ext EZ) (g := (mkF m 14 #[vR al, vI (1 : Int32), vI (0 : Int32), vU] [(.ref dc)])) rfl (hb hby d35_14)
 refine Go.st st4 ?_
 refine gs ?_ fun _ _k => Jvm.RoadKit.acmp (g := (mkF m 17 #[vR al, vI (1 : Int32), vI (0 : Int32), vU] [(.ref dc), (.ref dc)])) X4 hx rfl rfl rfl (pc0 := 17) (pc' := 45) (same := true) rfl (hb hby d35_17) rfl (decide_eq_true rfl) (by decide) (by decide) _k
 refine gs ?_ fun _ _k => XS.aloadN X4.here hx rfl (hb hby d35_45) rfl rfl _k
 refine gs ?_ fun _ _k => XT.bipushV X4.here hx rfl (10 : Int32) (hb hby d35_46) (by decide) _k
 refine gs ?_ fun _ _k => XS.iloadN X4.here hx rfl (hb hby d35_48) rfl _k
 show Go p e s _i _ _ _ T4 (mkF m 49 #[vR al, vI (1 : Int32), vI (0 : Int32), vU] [(.int 1), (.int 10), (.ref al)])
 refine Go.callS (W := 1) (argsL := [(.int 10), (.int 1)]) (rest := [(.ref al)]) X4 hx hZ _c (y := mn_31) (qw hw 262 rfl) (qw hw 263 rfl) (qw hw 264 rfl) (qw hw 265 rfl) (rmMX l Z a0 hw [] h0 n0 (Nat.le_trans Z0 K0.1)) e4 (by decide) (by rw [hml]; rfl) (lenOf pd13 rfl) (Nat.le_of_eq rfl) (hb hby d35_49) ?_
 intro T5 v5 L5 h5 e5 X5 hQ5
 obtain ⟨rfl, N5, K5⟩ := hQ5
 have M5 := Fr.app N0 N5
 obtain ⟨T6, h6, k6, X6, e6, E6, A6, Y6, O6, st6⟩ := newRE X5 hx hZ _c (qw hw 266 rfl) (qw hw 118 rfl) e5 (g := (mkF m 52 #[vR al, vI (1 : Int32), vI (0 : Int32), vU] [(.int 10), (.ref al)])) rfl (hb hby d35_52) rfl (by decide) (cap := 10) (by decide) (by decide) (by decide) (by decide) (ad := s_k) (by decide)
 obtain ⟨b6, g6⟩ : ∃ z, z = h5.size := ⟨_, rfl⟩
 rw [← g6] at A6 Y6 st6
 have K_5 := K0.ext K5
 have sz6 : h0.size ≤ b6 := Nat.le_trans K_5.1 (Nat.le_of_eq g6.symm)
 refine Go.st st6 ?_
 have _A : Arv Z h6 b6 k6 (.object s_e) (10 : Int32) [.null, .null, .null, .null, .null, .null, .null, .null, .null, .null] .null := (Arv.new A6 (by decide)).pad (pad_rep [] .null 10)
 refine gs ?_ fun _ _k => XS.dupX1 X6.here hx rfl (hb hby d35_55) rfl rfl rfl _k
 have _b := (_a.ext K5).ext E6
 have _k := (_o.ext K5).ext E6
 obtain ⟨T7, h7, X7, e7, W7, st7⟩ := putF X6 hx hZ _c (host := "") (Or.inl (qw hw 72 rfl)) Via.refl e6 _b _k (Or.inl (qw hw 73 rfl)) (qw hw 51 rfl) (ty := (.array (.object s_e))) (by decide) rfl rfl (g := (mkF m 56 #[vR al, vI (1 : Int32), vI (0 : Int32), vU] [(.ref b6), (.ref al), (.ref b6)])) rfl rfl (hb hby d35_56)
 refine Go.st st7 ?_
 have _d : Fld Z h7 al s_g s_w s_k (.ref b6) := _b.same W7
 have N7 := Fr.snoc X7 M5 _v
 show Go p e s _i _ _ _ T7 (mkF m 59 #[vR al, vI (1 : Int32), vI (0 : Int32), vU] [(.ref b6)])
 have _q := _A.other W7 (Ne.symm (Nat.ne_of_lt (Nat.lt_of_lt_of_le _o.lt sz6)))
 have K_7 := (K_5.ext E6).wr W7 (Or.inl (by simp))
 have _r := _k.wr W7
 have _f := ((_g.ext K5).ext E6).other W7 (Or.inr (slot_ne (Or.inl (qw hw 70 rfl)) (Or.inl (qw hw 73 rfl)) (by decide) (t := .int) (t' := (.array (.object s_e))) (by decide) (by decide)))
 have _h := ((_j.ext K5).ext E6).other W7 (Or.inr (slot_ne (Or.inl (qw hw 106 rfl)) (Or.inl (qw hw 73 rfl)) (by decide) (t := .int) (t' := (.array (.object s_e))) (by decide) (by decide)))
 have _t := Y6.wr W7
 exact Go.retA X7 hx hlk _z rfl rfl (hb hby d35_59) (by decide) (by decide) ⟨b6, k6, rfl, N7, (by rw [e7]; exact K_7), sz6, (by rw [e7]; exact _r), (by rw [e7]; exact _f), (by rw [e7]; exact _d), (by rw [e7]; exact _h), (by rw [e7]; exact _q), (by rw [e7]; exact _t), O6⟩
theorem pd14 : parseMethodDescriptor "(I)[Ljava/lang/Object;" = some ⟨[.int], some (.array (.object s_e))⟩ := by decide +kernel
theorem d34_0 : decode bc34 0 = .ok (.aload_n 0, 1) := by decide +kernel
theorem d34_1 : decode bc34 1 = .ok (.aload_n 0, 1) := by decide +kernel
theorem d34_2 : decode bc34 2 = .ok (.getfield 48, 3) := by decide +kernel
theorem d34_5 : decode bc34 5 = .ok (.iconst 1, 1) := by decide +kernel
theorem d34_6 : decode bc34 6 = .ok (.iadd, 1) := by decide +kernel
theorem d34_7 : decode bc34 7 = .ok (.invokevirtual 69, 3) := by decide +kernel
theorem d34_10 : decode bc34 10 = .ok (.areturn, 1) := by decide +kernel
theorem ef_GR0 (m : MethodId) (x0 : Addr) : entryFrame m #[(.ref x0)] 1 = mkF m 0 #[.val (.ref x0)] [] := by first | (simp [entryFrame, mkF, argsToLocals, Value.category]; done) | rfl
theorem rmGR0 (l : Launch) (Z : State) (a0 : Array Value) (hw : HW a0 Z) (ws : List Jvm.Cond) (al : Addr) (dc : Addr) (_j : ClassId) (h0 : Heap) (n0 : Nat) (Z0 : n0 ≤ h0.size) (ZN : Z.heap.size ≤ n0) (EZ : Ext Z.heap h0) (_t : n0 ≤ al) (_k : Exa Z h0 al s_g) (_d : Fld Z h0 al s_r s_x "I" (.int 1)) (_b : Fld Z h0 al s_g s_w s_k (.ref dc)) (_c : Fld Z h0 al s_g "size" "I" (.int 0)) (_u : Arv Z h0 dc _j (.object s_e) (0 : Int32) [] .null) (_i : dc ≠ al) (SDC : Sta Z Z.heap s_g s_v s_k (.ref dc)) :
  Meets l Z mn_33 jdk_38_method_7_code 1 (some (.array (.object s_e))) ({ frames := 2, cells := 1, slots := 10, locals := 29 } : Room) ws #[(.ref al)] h0 (fun v h L => ∃ (_a : Addr) (_g : ClassId), v = some (.ref _a) ∧ Fr n0 L ∧ Keep h0 h [al] ∧ h0.size ≤ _a ∧ Exa Z h al s_g ∧ Fld Z h al s_r s_x "I" (.int 1) ∧ Fld Z h al s_g s_w s_k (.ref _a) ∧ Fld Z h al s_g "size" "I" (.int 0) ∧ Arv Z h _a _g (.object s_e) (10 : Int32) [.null, .null, .null, .null, .null, .null, .null, .null, .null, .null] .null ∧ Exa Z h _a s_k ∧ Ovr Z _g s_e) := by
 refine Meets.of (plainFor_of_name pn_11) ?_
 intro p e s m _f _D c s₁ X0 hx hby hml _v hlk hnm hZ _h e0
 replace _h : s.vm.findClass s_g = some m.cls := _h
 have N0 := Fr.nil n0
 have K0 := Keep.refl h0 [al]
 refine Go.cast (ef_GR0 m al) ?_
 show Go p e s _f _ _ _ s₁ (mkF m 0 #[vR al] [])
 refine gs ?_ fun _ _k => XS.aloadN X0.here hx rfl (hb hby d34_0) rfl rfl _k
 refine gs ?_ fun _ _k => XS.aloadN X0.here hx rfl (hb hby d34_1) rfl rfl _k
 obtain ⟨T1, X1, e1, st1⟩ := getF X0 hx hZ _h (host := "") (Or.inl (qw hw 105 rfl)) Via.refl e0 _c (g := (mkF m 2 #[vR al] [(.ref al), (.ref al)])) rfl rfl (hb hby d34_2)
 refine Go.st st1 ?_
 refine gs ?_ fun _ _k => XT.iconstV X1.here hx rfl (1 : Int32) (hb hby d34_5) (by decide) _k
 refine gs ?_ fun _ _k => XS.iadd X1.here hx rfl (hb hby d34_6) rfl _k
 show Go p e s _f _ _ _ T1 (mkF m 7 #[vR al] [(.int ((0 : Int32) + (1 : Int32))), (.ref al)])
 rw [show ((0 : Int32) + (1 : Int32)) = (1 : Int32) from by decide]
 show Go p e s _f _ _ _ T1 (mkF m 7 #[vR al] [(.int 1), (.ref al)])
 refine Go.callP (b := al) (W := 0) (argsL := [(.int 1)]) (rest := []) X1 hx hZ _h (y := mn_32) (qw hw 257 rfl) (qw hw 258 rfl) (qw hw 259 rfl) (qw hw 51 rfl) (qw hw 52 rfl) (qw hw 261 rfl) (rmGR1 l Z a0 hw [] al dc _j h0 n0 (Nat.le_trans Z0 K0.1) ZN EZ _t _k _d _b _c _u _i SDC) e1 _k (by decide) (by rw [hml]; rfl) (lenOf pd14 rfl) (Nat.le_of_eq rfl) (hb hby d34_7) ?_
 intro T2 v2 L2 h2 e2 X2 hQ2
 obtain ⟨_a, _g, rfl, N2, K2, _q, _w, _y, _z, _A, _B, _C, _r⟩ := hQ2
 have M2 := Fr.app N0 N2
 have _o : h0.size ≤ _a := Nat.le_trans K0.1 _q
 show Go p e s _f _ _ _ T2 (mkF m 10 #[vR al] [(.ref _a)])
 have K_2 := K0.trans K2 (allS (Or.inl (by simp)) all0)
 exact Go.retA X2 hx hlk _v rfl rfl (hb hby d34_10) (by decide) (by decide) ⟨_a, _g, rfl, M2, (by rw [e2]; exact K_2), _o, (by rw [e2]; exact _w), (by rw [e2]; exact _y), (by rw [e2]; exact _z), (by rw [e2]; exact _A), (by rw [e2]; exact _B), (by rw [e2]; exact _C), _r⟩
theorem pd15 : parseMethodDescriptor "()[Ljava/lang/Object;" = some ⟨[], some (.array (.object s_e))⟩ := by decide +kernel
theorem d33_0 : decode bc33 0 = .ok (.iload_n 3, 1) := by decide +kernel
theorem d33_1 : decode bc33 1 = .ok (.aload_n 2, 1) := by decide +kernel
theorem d33_2 : decode bc33 2 = .ok (.arraylength, 1) := by decide +kernel
theorem d33_3 : decode bc33 3 = .ok (.if_icmp .ne 8, 3) := by decide +kernel
theorem d33_6 : decode bc33 6 = .ok (.aload_n 0, 1) := by decide +kernel
theorem d33_7 : decode bc33 7 = .ok (.invokevirtual 129, 3) := by decide +kernel
theorem d33_10 : decode bc33 10 = .ok (.astore_n 2, 1) := by decide +kernel
theorem d33_11 : decode bc33 11 = .ok (.aload_n 2, 1) := by decide +kernel
theorem d33_12 : decode bc33 12 = .ok (.iload_n 3, 1) := by decide +kernel
theorem d33_13 : decode bc33 13 = .ok (.aload_n 1, 1) := by decide +kernel
theorem d33_14 : decode bc33 14 = .ok (.aastore, 1) := by decide +kernel
theorem d33_15 : decode bc33 15 = .ok (.aload_n 0, 1) := by decide +kernel
theorem d33_16 : decode bc33 16 = .ok (.iload_n 3, 1) := by decide +kernel
theorem d33_17 : decode bc33 17 = .ok (.iconst 1, 1) := by decide +kernel
theorem d33_18 : decode bc33 18 = .ok (.iadd, 1) := by decide +kernel
theorem d33_19 : decode bc33 19 = .ok (.putfield 48, 3) := by decide +kernel
theorem d33_22 : decode bc33 22 = .ok (.return_, 1) := by decide +kernel
theorem ef_A30 (m : MethodId) (x0 : Addr) (x1 : Addr) (x2 : Addr) (x3 : Int32) : entryFrame m #[(.ref x0), (.ref x1), (.ref x2), (.int x3)] 4 = mkF m 0 #[.val (.ref x0), .val (.ref x1), .val (.ref x2), .val (.int x3)] [] := by first | (simp [entryFrame, mkF, argsToLocals, Value.category]; done) | rfl
theorem rmA30 (l : Launch) (Z : State) (a0 : Array Value) (hw : HW a0 Z) (ws : List Jvm.Cond) (vi : Int32) (al : Addr) (xn : Addr) (dc : Addr) (_C : ClassId) (h0 : Heap) (n0 : Nat) (Z0 : n0 ≤ h0.size) (ZN : Z.heap.size ≤ n0) (EZ : Ext Z.heap h0) (_D : n0 ≤ al) (_w : Exa Z h0 al s_g) (_j : Fld Z h0 al s_r s_x "I" (.int 1)) (_f : Fld Z h0 al s_g s_w s_k (.ref dc)) (_u : Fld Z h0 al s_g "size" "I" (.int 0)) (_I : Exa Z h0 xn s_i) (_H : Fld Z h0 xn s_i "value" "I" (.int vi)) (_E : Arv Z h0 dc _C (.object s_e) (0 : Int32) [] .null) (_J : xn ≠ al) (_y : dc ≠ al) (SDC : Sta Z Z.heap s_g s_v s_k (.ref dc)) :
  Meets l Z mn_34 jdk_38_method_24_code 4 none ({ frames := 3, cells := 1, slots := 10, locals := 41 } : Room) ws #[(.ref al), (.ref xn), (.ref dc), (.int 0)] h0 (fun v h L => ∃ (_a : Addr) (_b : ClassId), v = none ∧ Fr n0 L ∧ Keep h0 h [al] ∧ h0.size ≤ _a ∧ Exa Z h al s_g ∧ Fld Z h al s_r s_x "I" (.int 1) ∧ Fld Z h al s_g s_w s_k (.ref _a) ∧ Fld Z h al s_g "size" "I" (.int 1) ∧ Arv Z h _a _b (.object s_e) (10 : Int32) [(.ref xn), .null, .null, .null, .null, .null, .null, .null, .null, .null] .null ∧ Exa Z h _a s_k ∧ Ovr Z _b s_e) := by
 refine Meets.of (plainFor_of_name pn_11) ?_
 intro p e s m _h _R c s₁ X0 hx hby hml _K hlk hnm hZ _o e0
 replace _o : s.vm.findClass s_g = some m.cls := _o
 have N0 := Fr.nil n0
 have K0 := Keep.refl h0 [al]
 refine Go.cast (ef_A30 m al xn dc (0 : Int32)) ?_
 show Go p e s _h _ _ _ s₁ (mkF m 0 #[vR al, vR xn, vR dc, vI (0 : Int32)] [])
 refine gs ?_ fun _ _k => XS.iloadN X0.here hx rfl (hb hby d33_0) rfl _k
 refine gs ?_ fun _ _k => XS.aloadN X0.here hx rfl (hb hby d33_1) rfl rfl _k
 obtain ⟨cl1, Ar1, q1, S1, M1, H1, G1⟩ := (id _E)
 refine Go.st (X0.arraylength hx (by rw [e0]; exact Ar1.1) (State.isArrayOf_alike hZ.alike Ar1.2.1) (g := (mkF m 2 #[vR al, vR xn, vR dc, vI (0 : Int32)] [(.ref dc), (.int 0)])) rfl rfl (hb hby d33_2)) ?_
 rw [len_of S1 M1]
 refine gs ?_ fun _ _k => XS.icmpNo X0.here hx rfl (hb hby d33_3) rfl (teq rfl).2 _k
 refine gs ?_ fun _ _k => XS.aloadN X0.here hx rfl (hb hby d33_6) rfl rfl _k
 show Go p e s _h _ _ _ s₁ (mkF m 7 #[vR al, vR xn, vR dc, vI (0 : Int32)] [(.ref al)])
 refine Go.callP (b := al) (W := 0) (argsL := []) (rest := []) X0 hx hZ _o (y := mn_33) (qw hw 252 rfl) (qw hw 253 rfl) (qw hw 254 rfl) (qw hw 51 rfl) (qw hw 52 rfl) (qw hw 256 rfl) (rmGR0 l Z a0 hw [] al dc _C h0 n0 (Nat.le_trans Z0 K0.1) ZN EZ _D _w _j _f _u _E _y SDC) e0 _w (by decide) (by rw [hml]; rfl) (lenOf pd15 rfl) (Nat.le_of_eq rfl) (hb hby d33_7) ?_
 intro T2 v2 L2 h2 e2 X2 hQ2
 obtain ⟨_a, _b, rfl, N2, K2, _A, _L, _M, _N, _O, _P, _Q, _B⟩ := hQ2
 have M2 := Fr.app N0 N2
 have _g : h0.size ≤ _a := Nat.le_trans K0.1 _A
 have _z : n0 ≤ _a := Nat.le_trans Z0 _g
 refine gs ?_ fun _ _k => XS.astoreN X2.here hx rfl (hb hby d33_10) rfl rfl (l' := #[vR al, vR xn, vR _a, vI (0 : Int32)]) rfl _k
 refine gs ?_ fun _ _k => XS.aloadN X2.here hx rfl (hb hby d33_11) rfl rfl _k
 refine gs ?_ fun _ _k => XS.iloadN X2.here hx rfl (hb hby d33_12) rfl _k
 refine gs ?_ fun _ _k => XS.aloadN X2.here hx rfl (hb hby d33_13) rfl rfl _k
 obtain ⟨cl3, Ar3, q3, S3, M3, H3, G3⟩ := (id _P)
 have in3 : ¬ ((0 : Int32) < 0 ∨ cl3.slots.size ≤ ((0 : Int32)).toNatClampNeg) := inb_of S3 ⟨by decide, by decide⟩
 have _F := _I.keep K2
 obtain ⟨T3, h3, X3, e3, W3, st3⟩ := stR X2 hx hZ e2 Ar3 (j := (0 : Int32)) in3 rfl (Sto.ofV Ar3 q3 _B (Ins.of_exa _F (qw hw 267 rfl))) (g := (mkF m 14 #[vR al, vR xn, vR _a, vI (0 : Int32)] [(.ref xn), (.int 0), (.ref _a)])) rfl rfl (hb hby d33_14)
 refine Go.st st3 ?_
 have _q : Arv Z h3 _a _b (.object s_e) (10 : Int32) [(.ref xn), .null, .null, .null, .null, .null, .null, .null, .null, .null] .null := Arv.set Ar3 q3 S3 M3 H3 G3 rfl W3 0 rfl (by simp)
 have N3 := Fr.snoc X3 M2 _z
 refine gs ?_ fun _ _k => XS.aloadN X3.here hx rfl (hb hby d33_15) rfl rfl _k
 refine gs ?_ fun _ _k => XS.iloadN X3.here hx rfl (hb hby d33_16) rfl _k
 refine gs ?_ fun _ _k => XT.iconstV X3.here hx rfl (1 : Int32) (hb hby d33_17) (by decide) _k
 refine gs ?_ fun _ _k => XS.iadd X3.here hx rfl (hb hby d33_18) rfl _k
 show Go p e s _h _ _ _ T3 (mkF m 19 #[vR al, vR xn, vR _a, vI (0 : Int32)] [(.int ((0 : Int32) + (1 : Int32))), (.ref al)])
 rw [show ((0 : Int32) + (1 : Int32)) = (1 : Int32) from by decide]
 show Go p e s _h _ _ _ T3 (mkF m 19 #[vR al, vR xn, vR _a, vI (0 : Int32)] [(.int 1), (.ref al)])
 have nq4 : al ≠ _a := Nat.ne_of_lt (Nat.lt_of_lt_of_le (_w).lt _A)
 have _d := _O.other W3 (Or.inl nq4)
 have _v := _L.wr W3
 obtain ⟨T5, h5, X5, e5, W5, st5⟩ := putF X3 hx hZ _o (host := "") (Or.inl (qw hw 105 rfl)) Via.refl e3 _d _v (Or.inl (qw hw 106 rfl)) (qw hw 51 rfl) (ty := .int) (by decide) rfl rfl (g := (mkF m 19 #[vR al, vR xn, vR _a, vI (0 : Int32)] [(.int 1), (.ref al)])) rfl rfl (hb hby d33_19)
 refine Go.st st5 ?_
 have _k : Fld Z h5 al s_g "size" "I" (.int 1) := _d.same W5
 have N5 := Fr.snoc X5 N3 _D
 show Go p e s _h _ _ _ T5 (mkF m 22 #[vR al, vR xn, vR _a, vI (0 : Int32)] [])
 have _r := _q.other W5 (Ne.symm nq4)
 have K_5 := ((K0.trans K2 (allS (Or.inl (by simp)) all0)).wr W3 (Or.inr _g)).wr W5 (Or.inl (by simp))
 have _G := _v.wr W5
 have _i := (_M.other W3 (Or.inl nq4)).other W5 (Or.inr (slot_ne (Or.inl (qw hw 70 rfl)) (Or.inl (qw hw 106 rfl)) (by decide) (t := .int) (t' := .int) (by decide) (by decide)))
 have _c := (_N.other W3 (Or.inl nq4)).other W5 (Or.inr (slot_ne (Or.inl (qw hw 73 rfl)) (Or.inl (qw hw 106 rfl)) (by decide) (t := (.array (.object s_e))) (t' := .int) (by decide) (by decide)))
 have _t := (_Q.wr W3).wr W5
 exact Go.retV X5 hx hlk _K (hb hby d33_22) (by decide) (by decide) ⟨_a, _b, rfl, N5, (by rw [e5]; exact K_5), _g, (by rw [e5]; exact _G), (by rw [e5]; exact _i), (by rw [e5]; exact _c), (by rw [e5]; exact _k), (by rw [e5]; exact _r), (by rw [e5]; exact _t), _B⟩
theorem pd16 : parseMethodDescriptor "(Ljava/lang/Object;[Ljava/lang/Object;I)V" = some ⟨[(.object s_e), (.array (.object s_e)), .int], none⟩ := by decide +kernel
theorem d32_0 : decode bc32 0 = .ok (.aload_n 0, 1) := by decide +kernel
theorem d32_1 : decode bc32 1 = .ok (.dup, 1) := by decide +kernel
theorem d32_2 : decode bc32 2 = .ok (.getfield 63, 3) := by decide +kernel
theorem d32_5 : decode bc32 5 = .ok (.iconst 1, 1) := by decide +kernel
theorem d32_6 : decode bc32 6 = .ok (.iadd, 1) := by decide +kernel
theorem d32_7 : decode bc32 7 = .ok (.putfield 63, 3) := by decide +kernel
theorem d32_10 : decode bc32 10 = .ok (.aload_n 0, 1) := by decide +kernel
theorem d32_11 : decode bc32 11 = .ok (.aload_n 1, 1) := by decide +kernel
theorem d32_12 : decode bc32 12 = .ok (.aload_n 0, 1) := by decide +kernel
theorem d32_13 : decode bc32 13 = .ok (.getfield 9, 3) := by decide +kernel
theorem d32_16 : decode bc32 16 = .ok (.aload_n 0, 1) := by decide +kernel
theorem d32_17 : decode bc32 17 = .ok (.getfield 48, 3) := by decide +kernel
theorem d32_20 : decode bc32 20 = .ok (.invokevirtual 131, 3) := by decide +kernel
theorem d32_23 : decode bc32 23 = .ok (.iconst 1, 1) := by decide +kernel
theorem d32_24 : decode bc32 24 = .ok (.ireturn, 1) := by decide +kernel
theorem ef_A10 (m : MethodId) (x0 : Addr) (x1 : Addr) : entryFrame m #[(.ref x0), (.ref x1)] 2 = mkF m 0 #[.val (.ref x0), .val (.ref x1)] [] := by first | (simp [entryFrame, mkF, argsToLocals, Value.category]; done) | rfl
theorem rmA10 (l : Launch) (Z : State) (a0 : Array Value) (hw : HW a0 Z) (ws : List Jvm.Cond) (vi : Int32) (al : Addr) (xn : Addr) (dc : Addr) (_y : ClassId) (h0 : Heap) (n0 : Nat) (Z0 : n0 ≤ h0.size) (ZN : Z.heap.size ≤ n0) (EZ : Ext Z.heap h0) (_w : n0 ≤ al) (_z : Exa Z h0 al s_g) (_c : Fld Z h0 al s_r s_x "I" (.int 0)) (_g : Fld Z h0 al s_g s_w s_k (.ref dc)) (_u : Fld Z h0 al s_g "size" "I" (.int 0)) (_E : Exa Z h0 xn s_i) (_r : Fld Z h0 xn s_i "value" "I" (.int vi)) (_F : Arv Z h0 dc _y (.object s_e) (0 : Int32) [] .null) (_k : xn ≠ al) (_o : dc ≠ al) (SDC : Sta Z Z.heap s_g s_v s_k (.ref dc)) :
  Meets l Z mn_35 jdk_38_method_25_code 2 (some .boolean) ({ frames := 4, cells := 1, slots := 10, locals := 56 } : Room) ws #[(.ref al), (.ref xn)] h0 (fun v h L => ∃ (_a : Addr) (_d : ClassId), v = some (.int (nar .boolean (1 : Int32))) ∧ Fr n0 L ∧ Keep h0 h [al] ∧ h0.size ≤ _a ∧ Exa Z h al s_g ∧ Fld Z h al s_r s_x "I" (.int 1) ∧ Fld Z h al s_g s_w s_k (.ref _a) ∧ Fld Z h al s_g "size" "I" (.int 1) ∧ Arv Z h _a _d (.object s_e) (10 : Int32) [(.ref xn), .null, .null, .null, .null, .null, .null, .null, .null, .null] .null ∧ Exa Z h _a s_k ∧ Ovr Z _d s_e) := by
 refine Meets.of (plainFor_of_name pn_11) ?_
 intro p e s m _i _O c s₁ X0 hx hby hml _G hlk hnm hZ _h e0
 replace _h : s.vm.findClass s_g = some m.cls := _h
 have N0 := Fr.nil n0
 have K0 := Keep.refl h0 [al]
 refine Go.cast (ef_A10 m al xn) ?_
 show Go p e s _i _ _ _ s₁ (mkF m 0 #[vR al, vR xn] [])
 refine gs ?_ fun _ _k => XS.aloadN X0.here hx rfl (hb hby d32_0) rfl rfl _k
 refine gs ?_ fun _ _k => XS.dup X0.here hx rfl (hb hby d32_1) rfl rfl _k
 obtain ⟨T1, X1, e1, st1⟩ := getF X0 hx hZ _h (host := "") (Or.inl (qw hw 245 rfl)) (Via.of (qw hw 246 rfl)) e0 _c (g := (mkF m 2 #[vR al, vR xn] [(.ref al), (.ref al)])) rfl rfl (hb hby d32_2)
 refine Go.st st1 ?_
 refine gs ?_ fun _ _k => XT.iconstV X1.here hx rfl (1 : Int32) (hb hby d32_5) (by decide) _k
 refine gs ?_ fun _ _k => XS.iadd X1.here hx rfl (hb hby d32_6) rfl _k
 show Go p e s _i _ _ _ T1 (mkF m 7 #[vR al, vR xn] [(.int ((0 : Int32) + (1 : Int32))), (.ref al)])
 rw [show ((0 : Int32) + (1 : Int32)) = (1 : Int32) from by decide]
 show Go p e s _i _ _ _ T1 (mkF m 7 #[vR al, vR xn] [(.int 1), (.ref al)])
 obtain ⟨T2, h2, X2, e2, W2, st2⟩ := putF X1 hx hZ _h (host := "") (Or.inl (qw hw 245 rfl)) (Via.of (qw hw 246 rfl)) e1 _c _z (Or.inl (qw hw 70 rfl)) (qw hw 51 rfl) (ty := .int) (by decide) rfl rfl (g := (mkF m 7 #[vR al, vR xn] [(.int 1), (.ref al)])) rfl rfl (hb hby d32_7)
 refine Go.st st2 ?_
 have _j : Fld Z h2 al s_r s_x "I" (.int 1) := _c.same W2
 have N2 := Fr.snoc X2 N0 _w
 refine gs ?_ fun _ _k => XS.aloadN X2.here hx rfl (hb hby d32_10) rfl rfl _k
 refine gs ?_ fun _ _k => XS.aloadN X2.here hx rfl (hb hby d32_11) rfl rfl _k
 refine gs ?_ fun _ _k => XS.aloadN X2.here hx rfl (hb hby d32_12) rfl rfl _k
 have _b := _g.other W2 (Or.inr (slot_ne (Or.inl (qw hw 73 rfl)) (Or.inl (qw hw 70 rfl)) (by decide) (t := (.array (.object s_e))) (t' := .int) (by decide) (by decide)))
 obtain ⟨T3, X3, e3, st3⟩ := getF X2 hx hZ _h (host := "") (Or.inl (qw hw 72 rfl)) Via.refl e2 _b (g := (mkF m 13 #[vR al, vR xn] [(.ref al), (.ref xn), (.ref al)])) rfl rfl (hb hby d32_13)
 refine Go.st st3 ?_
 refine gs ?_ fun _ _k => XS.aloadN X3.here hx rfl (hb hby d32_16) rfl rfl _k
 have _f := _u.other W2 (Or.inr (slot_ne (Or.inl (qw hw 106 rfl)) (Or.inl (qw hw 70 rfl)) (by decide) (t := .int) (t' := .int) (by decide) (by decide)))
 obtain ⟨T4, X4, e4, st4⟩ := getF X3 hx hZ _h (host := "") (Or.inl (qw hw 105 rfl)) Via.refl e3 _f (g := (mkF m 17 #[vR al, vR xn] [(.ref al), (.ref dc), (.ref xn), (.ref al)])) rfl rfl (hb hby d32_17)
 refine Go.st st4 ?_
 show Go p e s _i _ _ _ T4 (mkF m 20 #[vR al, vR xn] [(.int 0), (.ref dc), (.ref xn), (.ref al)])
 have K_2 := K0.wr W2 (Or.inl (by simp))
 have _H := own_extW EZ W2 (Nat.le_trans ZN _w)
 have _v := _z.wr W2
 have _A := _E.wr W2
 have _q := _r.other W2 (Or.inl _k)
 have _B := _F.other W2 _o
 refine Go.callP (b := al) (W := 0) (argsL := [(.ref xn), (.ref dc), (.int 0)]) (rest := []) X4 hx hZ _h (y := mn_34) (qw hw 247 rfl) (qw hw 248 rfl) (qw hw 249 rfl) (qw hw 51 rfl) (qw hw 52 rfl) (qw hw 251 rfl) (rmA30 l Z a0 hw [] vi al xn dc _y h2 n0 (Nat.le_trans Z0 K_2.1) ZN _H _w _v _j _b _f _A _q _B _k _o SDC) e4 _v (by decide) (by rw [hml]; rfl) (lenOf pd16 rfl) (Nat.le_of_eq rfl) (hb hby d32_20) ?_
 intro T5 v5 L5 h5 e5 X5 hQ5
 obtain ⟨_a, _d, rfl, N5, K5, _C, _I, _J, _K, _L, _M, _N, _D⟩ := hQ5
 have M5 := Fr.app N2 N5
 have _t : h0.size ≤ _a := Nat.le_trans K_2.1 _C
 refine gs ?_ fun _ _k => XT.iconstV X5.here hx rfl (1 : Int32) (hb hby d32_23) (by decide) _k
 show Go p e s _i _ _ _ T5 (mkF m 24 #[vR al, vR xn] [(.int 1)])
 have K_5 := K_2.trans K5 (allS (Or.inl (by simp)) all0)
 exact Go.retN X5 hx hlk _G (by simp) (hb hby d32_24) (by decide) (by decide) ⟨_a, _d, rfl, M5, (by rw [e5]; exact K_5), _t, (by rw [e5]; exact _I), (by rw [e5]; exact _J), (by rw [e5]; exact _K), (by rw [e5]; exact _L), (by rw [e5]; exact _M), (by rw [e5]; exact _N), _D⟩
theorem ef_A31 (m : MethodId) (x0 : Addr) (x1 : Addr) (x2 : Addr) (x3 : Int32) : entryFrame m #[(.ref x0), (.ref x1), (.ref x2), (.int x3)] 4 = mkF m 0 #[.val (.ref x0), .val (.ref x1), .val (.ref x2), .val (.int x3)] [] := by first | (simp [entryFrame, mkF, argsToLocals, Value.category]; done) | rfl
theorem rmA31 (l : Launch) (Z : State) (a0 : Array Value) (hw : HW a0 Z) (ws : List Jvm.Cond) (vi : Int32) (xa : Addr) (al : Addr) (xn : Addr) (ed : Addr) (_j : ClassId) (h0 : Heap) (n0 : Nat) (Z0 : n0 ≤ h0.size) (_z : n0 ≤ al) (_A : n0 ≤ ed) (_B : Exa Z h0 al s_g) (_g : Fld Z h0 al s_r s_x "I" (.int 2)) (_d : Fld Z h0 al s_g s_w s_k (.ref ed)) (_k : Fld Z h0 al s_g "size" "I" (.int 1)) (_C : Exa Z h0 xn s_i) (_y : Fld Z h0 xn s_i "value" "I" (.int vi)) (_r : Arv Z h0 ed _j (.object s_e) (10 : Int32) [(.ref xa), .null, .null, .null, .null, .null, .null, .null, .null, .null] .null) (_D : Ovr Z _j s_e) (_E : Exa Z h0 ed s_k) (_a : al ≠ ed) (_F : xn ≠ al) (_G : xn ≠ ed) :
  Meets l Z mn_34 jdk_38_method_24_code 4 none ({ frames := 0, cells := 0, slots := 0, locals := 0 } : Room) ws #[(.ref al), (.ref xn), (.ref ed), (.int 1)] h0 (fun v h L => v = none ∧ Fr n0 L ∧ Keep h0 h [al, ed] ∧ Exa Z h al s_g ∧ Fld Z h al s_r s_x "I" (.int 2) ∧ Fld Z h al s_g s_w s_k (.ref ed) ∧ Fld Z h al s_g "size" "I" (.int 2) ∧ Arv Z h ed _j (.object s_e) (10 : Int32) [(.ref xa), (.ref xn), .null, .null, .null, .null, .null, .null, .null, .null] .null ∧ Exa Z h ed s_k) := by
 refine Meets.of (plainFor_of_name pn_11) ?_
 intro p e s m _h _I c s₁ X0 hx hby hml _H hlk hnm hZ _q e0
 replace _q : s.vm.findClass s_g = some m.cls := _q
 have N0 := Fr.nil n0
 have K0 := Keep.refl h0 [al, ed]
 refine Go.cast (ef_A31 m al xn ed (1 : Int32)) ?_
 show Go p e s _h _ _ _ s₁ (mkF m 0 #[vR al, vR xn, vR ed, vI (1 : Int32)] [])
 refine gs ?_ fun _ _k => XS.iloadN X0.here hx rfl (hb hby d33_0) rfl _k
 refine gs ?_ fun _ _k => XS.aloadN X0.here hx rfl (hb hby d33_1) rfl rfl _k
 obtain ⟨cl1, Ar1, q1, S1, M1, H1, G1⟩ := (id _r)
 refine Go.st (X0.arraylength hx (by rw [e0]; exact Ar1.1) (State.isArrayOf_alike hZ.alike Ar1.2.1) (g := (mkF m 2 #[vR al, vR xn, vR ed, vI (1 : Int32)] [(.ref ed), (.int 1)])) rfl rfl (hb hby d33_2)) ?_
 rw [len_of S1 M1]
 refine gs ?_ fun _ _k => XS.icmpYes X0.here hx rfl (pc0 := 3) (pc' := 11) rfl (hb hby d33_3) rfl (feq (by decide : ¬ ((1 : Int32) = (10 : Int32)))).2 (by decide) (by decide) _k
 refine gs ?_ fun _ _k => XS.aloadN X0.here hx rfl (hb hby d33_11) rfl rfl _k
 refine gs ?_ fun _ _k => XS.iloadN X0.here hx rfl (hb hby d33_12) rfl _k
 refine gs ?_ fun _ _k => XS.aloadN X0.here hx rfl (hb hby d33_13) rfl rfl _k
 obtain ⟨cl2, Ar2, q2, S2, M2, H2, G2⟩ := (id _r)
 have in2 : ¬ ((1 : Int32) < 0 ∨ cl2.slots.size ≤ ((1 : Int32)).toNatClampNeg) := inb_of S2 ⟨by decide, by decide⟩
 obtain ⟨T2, h2, X2, e2, W2, st2⟩ := stR X0 hx hZ e0 Ar2 (j := (1 : Int32)) in2 rfl (Sto.ofV Ar2 q2 _D (Ins.of_exa _C (qw hw 267 rfl))) (g := (mkF m 14 #[vR al, vR xn, vR ed, vI (1 : Int32)] [(.ref xn), (.int 1), (.ref ed)])) rfl rfl (hb hby d33_14)
 refine Go.st st2 ?_
 have _t : Arv Z h2 ed _j (.object s_e) (10 : Int32) [(.ref xa), (.ref xn), .null, .null, .null, .null, .null, .null, .null, .null] .null := Arv.set Ar2 q2 S2 M2 H2 G2 rfl W2 1 rfl (by simp)
 have N2 := Fr.snoc X2 N0 _A
 refine gs ?_ fun _ _k => XS.aloadN X2.here hx rfl (hb hby d33_15) rfl rfl _k
 refine gs ?_ fun _ _k => XS.iloadN X2.here hx rfl (hb hby d33_16) rfl _k
 refine gs ?_ fun _ _k => XT.iconstV X2.here hx rfl (1 : Int32) (hb hby d33_17) (by decide) _k
 refine gs ?_ fun _ _k => XS.iadd X2.here hx rfl (hb hby d33_18) rfl _k
 show Go p e s _h _ _ _ T2 (mkF m 19 #[vR al, vR xn, vR ed, vI (1 : Int32)] [(.int ((1 : Int32) + (1 : Int32))), (.ref al)])
 rw [show ((1 : Int32) + (1 : Int32)) = (2 : Int32) from by decide]
 show Go p e s _h _ _ _ T2 (mkF m 19 #[vR al, vR xn, vR ed, vI (1 : Int32)] [(.int 2), (.ref al)])
 have _c := _k.other W2 (Or.inl _a)
 have _o := _B.wr W2
 obtain ⟨T3, h3, X3, e3, W3, st3⟩ := putF X2 hx hZ _q (host := "") (Or.inl (qw hw 105 rfl)) Via.refl e2 _c _o (Or.inl (qw hw 106 rfl)) (qw hw 51 rfl) (ty := .int) (by decide) rfl rfl (g := (mkF m 19 #[vR al, vR xn, vR ed, vI (1 : Int32)] [(.int 2), (.ref al)])) rfl rfl (hb hby d33_19)
 refine Go.st st3 ?_
 have _i : Fld Z h3 al s_g "size" "I" (.int 2) := _c.same W3
 have N3 := Fr.snoc X3 N2 _z
 show Go p e s _h _ _ _ T3 (mkF m 22 #[vR al, vR xn, vR ed, vI (1 : Int32)] [])
 have K_3 := (K0.wr W2 (Or.inl (by simp))).wr W3 (Or.inl (by simp))
 have _u := _o.wr W3
 have _f := (_g.other W2 (Or.inl _a)).other W3 (Or.inr (slot_ne (Or.inl (qw hw 70 rfl)) (Or.inl (qw hw 106 rfl)) (by decide) (t := .int) (t' := .int) (by decide) (by decide)))
 have _b := (_d.other W2 (Or.inl _a)).other W3 (Or.inr (slot_ne (Or.inl (qw hw 73 rfl)) (Or.inl (qw hw 106 rfl)) (by decide) (t := (.array (.object s_e))) (t' := .int) (by decide) (by decide)))
 have _v := _t.other W3 (Ne.symm _a)
 have _w := (_E.wr W2).wr W3
 exact Go.retV X3 hx hlk _H (hb hby d33_22) (by decide) (by decide) ⟨rfl, N3, (by rw [e3]; exact K_3), (by rw [e3]; exact _u), (by rw [e3]; exact _f), (by rw [e3]; exact _b), (by rw [e3]; exact _i), (by rw [e3]; exact _v), (by rw [e3]; exact _w)⟩
theorem ef_A11 (m : MethodId) (x0 : Addr) (x1 : Addr) : entryFrame m #[(.ref x0), (.ref x1)] 2 = mkF m 0 #[.val (.ref x0), .val (.ref x1)] [] := by first | (simp [entryFrame, mkF, argsToLocals, Value.category]; done) | rfl
theorem rmA11 (l : Launch) (Z : State) (a0 : Array Value) (hw : HW a0 Z) (ws : List Jvm.Cond) (vi : Int32) (xa : Addr) (al : Addr) (xn : Addr) (ed : Addr) (_o : ClassId) (h0 : Heap) (n0 : Nat) (Z0 : n0 ≤ h0.size) (_v : n0 ≤ al) (_B : n0 ≤ ed) (_w : Exa Z h0 al s_g) (_b : Fld Z h0 al s_r s_x "I" (.int 1)) (_d : Fld Z h0 al s_g s_w s_k (.ref ed)) (_r : Fld Z h0 al s_g "size" "I" (.int 1)) (_C : Exa Z h0 xn s_i) (_q : Fld Z h0 xn s_i "value" "I" (.int vi)) (_D : Arv Z h0 ed _o (.object s_e) (10 : Int32) [(.ref xa), .null, .null, .null, .null, .null, .null, .null, .null, .null] .null) (_E : Ovr Z _o s_e) (_F : Exa Z h0 ed s_k) (_i : al ≠ ed) (_j : xn ≠ al) (_u : xn ≠ ed) :
  Meets l Z mn_35 jdk_38_method_25_code 2 (some .boolean) ({ frames := 1, cells := 0, slots := 0, locals := 15 } : Room) ws #[(.ref al), (.ref xn)] h0 (fun v h L => v = some (.int (nar .boolean (1 : Int32))) ∧ Fr n0 L ∧ Keep h0 h [al, ed] ∧ Exa Z h al s_g ∧ Fld Z h al s_r s_x "I" (.int 2) ∧ Fld Z h al s_g s_w s_k (.ref ed) ∧ Fld Z h al s_g "size" "I" (.int 2) ∧ Arv Z h ed _o (.object s_e) (10 : Int32) [(.ref xa), (.ref xn), .null, .null, .null, .null, .null, .null, .null, .null] .null ∧ Exa Z h ed s_k) := by
 refine Meets.of (plainFor_of_name pn_11) ?_
 intro p e s m _g _N c s₁ X0 hx hby hml _G hlk hnm hZ _f e0
 replace _f : s.vm.findClass s_g = some m.cls := _f
 have N0 := Fr.nil n0
 have K0 := Keep.refl h0 [al, ed]
 refine Go.cast (ef_A11 m al xn) ?_
 show Go p e s _g _ _ _ s₁ (mkF m 0 #[vR al, vR xn] [])
 refine gs ?_ fun _ _k => XS.aloadN X0.here hx rfl (hb hby d32_0) rfl rfl _k
 refine gs ?_ fun _ _k => XS.dup X0.here hx rfl (hb hby d32_1) rfl rfl _k
 obtain ⟨T1, X1, e1, st1⟩ := getF X0 hx hZ _f (host := "") (Or.inl (qw hw 245 rfl)) (Via.of (qw hw 246 rfl)) e0 _b (g := (mkF m 2 #[vR al, vR xn] [(.ref al), (.ref al)])) rfl rfl (hb hby d32_2)
 refine Go.st st1 ?_
 refine gs ?_ fun _ _k => XT.iconstV X1.here hx rfl (1 : Int32) (hb hby d32_5) (by decide) _k
 refine gs ?_ fun _ _k => XS.iadd X1.here hx rfl (hb hby d32_6) rfl _k
 show Go p e s _g _ _ _ T1 (mkF m 7 #[vR al, vR xn] [(.int ((1 : Int32) + (1 : Int32))), (.ref al)])
 rw [show ((1 : Int32) + (1 : Int32)) = (2 : Int32) from by decide]
 show Go p e s _g _ _ _ T1 (mkF m 7 #[vR al, vR xn] [(.int 2), (.ref al)])
 obtain ⟨T2, h2, X2, e2, W2, st2⟩ := putF X1 hx hZ _f (host := "") (Or.inl (qw hw 245 rfl)) (Via.of (qw hw 246 rfl)) e1 _b _w (Or.inl (qw hw 70 rfl)) (qw hw 51 rfl) (ty := .int) (by decide) rfl rfl (g := (mkF m 7 #[vR al, vR xn] [(.int 2), (.ref al)])) rfl rfl (hb hby d32_7)
 refine Go.st st2 ?_
 have _h : Fld Z h2 al s_r s_x "I" (.int 2) := _b.same W2
 have N2 := Fr.snoc X2 N0 _v
 refine gs ?_ fun _ _k => XS.aloadN X2.here hx rfl (hb hby d32_10) rfl rfl _k
 refine gs ?_ fun _ _k => XS.aloadN X2.here hx rfl (hb hby d32_11) rfl rfl _k
 refine gs ?_ fun _ _k => XS.aloadN X2.here hx rfl (hb hby d32_12) rfl rfl _k
 have _a := _d.other W2 (Or.inr (slot_ne (Or.inl (qw hw 73 rfl)) (Or.inl (qw hw 70 rfl)) (by decide) (t := (.array (.object s_e))) (t' := .int) (by decide) (by decide)))
 obtain ⟨T3, X3, e3, st3⟩ := getF X2 hx hZ _f (host := "") (Or.inl (qw hw 72 rfl)) Via.refl e2 _a (g := (mkF m 13 #[vR al, vR xn] [(.ref al), (.ref xn), (.ref al)])) rfl rfl (hb hby d32_13)
 refine Go.st st3 ?_
 refine gs ?_ fun _ _k => XS.aloadN X3.here hx rfl (hb hby d32_16) rfl rfl _k
 have _c := _r.other W2 (Or.inr (slot_ne (Or.inl (qw hw 106 rfl)) (Or.inl (qw hw 70 rfl)) (by decide) (t := .int) (t' := .int) (by decide) (by decide)))
 obtain ⟨T4, X4, e4, st4⟩ := getF X3 hx hZ _f (host := "") (Or.inl (qw hw 105 rfl)) Via.refl e3 _c (g := (mkF m 17 #[vR al, vR xn] [(.ref al), (.ref ed), (.ref xn), (.ref al)])) rfl rfl (hb hby d32_17)
 refine Go.st st4 ?_
 show Go p e s _g _ _ _ T4 (mkF m 20 #[vR al, vR xn] [(.int 1), (.ref ed), (.ref xn), (.ref al)])
 have K_2 := K0.wr W2 (Or.inl (by simp))
 have _t := _w.wr W2
 have _y := _C.wr W2
 have _k := _q.other W2 (Or.inl _j)
 have _z := _D.other W2 (Ne.symm _i)
 have _A := _F.wr W2
 refine Go.callP (b := al) (W := 0) (argsL := [(.ref xn), (.ref ed), (.int 1)]) (rest := []) X4 hx hZ _f (y := mn_34) (qw hw 247 rfl) (qw hw 248 rfl) (qw hw 249 rfl) (qw hw 51 rfl) (qw hw 52 rfl) (qw hw 251 rfl) (rmA31 l Z a0 hw [] vi xa al xn ed _o h2 n0 (Nat.le_trans Z0 K_2.1) _v _B _t _h _a _c _y _k _z _E _A _i _j _u) e4 _t (by decide) (by rw [hml]; rfl) (lenOf pd16 rfl) (Nat.le_of_eq rfl) (hb hby d32_20) ?_
 intro T5 v5 L5 h5 e5 X5 hQ5
 obtain ⟨rfl, N5, K5, _H, _I, _J, _K, _L, _M⟩ := hQ5
 have M5 := Fr.app N2 N5
 refine gs ?_ fun _ _k => XT.iconstV X5.here hx rfl (1 : Int32) (hb hby d32_23) (by decide) _k
 show Go p e s _g _ _ _ T5 (mkF m 24 #[vR al, vR xn] [(.int 1)])
 have K_5 := K_2.trans K5 (allS (Or.inl (by simp)) (allS (Or.inl (by simp)) all0))
 exact Go.retN X5 hx hlk _G (by simp) (hb hby d32_24) (by decide) (by decide) ⟨rfl, M5, (by rw [e5]; exact K_5), (by rw [e5]; exact _H), (by rw [e5]; exact _I), (by rw [e5]; exact _J), (by rw [e5]; exact _K), (by rw [e5]; exact _L), (by rw [e5]; exact _M)⟩
theorem ef_A32 (m : MethodId) (x0 : Addr) (x1 : Addr) (x2 : Addr) (x3 : Int32) : entryFrame m #[(.ref x0), (.ref x1), (.ref x2), (.int x3)] 4 = mkF m 0 #[.val (.ref x0), .val (.ref x1), .val (.ref x2), .val (.int x3)] [] := by first | (simp [entryFrame, mkF, argsToLocals, Value.category]; done) | rfl
theorem rmA32 (l : Launch) (Z : State) (a0 : Array Value) (hw : HW a0 Z) (ws : List Jvm.Cond) (vi : Int32) (xa : Addr) (xb : Addr) (al : Addr) (xn : Addr) (ed : Addr) (_j : ClassId) (h0 : Heap) (n0 : Nat) (Z0 : n0 ≤ h0.size) (_z : n0 ≤ al) (_A : n0 ≤ ed) (_B : Exa Z h0 al s_g) (_g : Fld Z h0 al s_r s_x "I" (.int 3)) (_d : Fld Z h0 al s_g s_w s_k (.ref ed)) (_k : Fld Z h0 al s_g "size" "I" (.int 2)) (_C : Exa Z h0 xn s_i) (_y : Fld Z h0 xn s_i "value" "I" (.int vi)) (_r : Arv Z h0 ed _j (.object s_e) (10 : Int32) [(.ref xa), (.ref xb), .null, .null, .null, .null, .null, .null, .null, .null] .null) (_D : Ovr Z _j s_e) (_E : Exa Z h0 ed s_k) (_a : al ≠ ed) (_F : xn ≠ al) (_G : xn ≠ ed) :
  Meets l Z mn_34 jdk_38_method_24_code 4 none ({ frames := 0, cells := 0, slots := 0, locals := 0 } : Room) ws #[(.ref al), (.ref xn), (.ref ed), (.int 2)] h0 (fun v h L => v = none ∧ Fr n0 L ∧ Keep h0 h [al, ed] ∧ Exa Z h al s_g ∧ Fld Z h al s_r s_x "I" (.int 3) ∧ Fld Z h al s_g s_w s_k (.ref ed) ∧ Fld Z h al s_g "size" "I" (.int 3) ∧ Arv Z h ed _j (.object s_e) (10 : Int32) [(.ref xa), (.ref xb), (.ref xn), .null, .null, .null, .null, .null, .null, .null] .null ∧ Exa Z h ed s_k) := by
 refine Meets.of (plainFor_of_name pn_11) ?_
 intro p e s m _h _I c s₁ X0 hx hby hml _H hlk hnm hZ _q e0
 replace _q : s.vm.findClass s_g = some m.cls := _q
 have N0 := Fr.nil n0
 have K0 := Keep.refl h0 [al, ed]
 refine Go.cast (ef_A32 m al xn ed (2 : Int32)) ?_
 show Go p e s _h _ _ _ s₁ (mkF m 0 #[vR al, vR xn, vR ed, vI (2 : Int32)] [])
 refine gs ?_ fun _ _k => XS.iloadN X0.here hx rfl (hb hby d33_0) rfl _k
 refine gs ?_ fun _ _k => XS.aloadN X0.here hx rfl (hb hby d33_1) rfl rfl _k
 obtain ⟨cl1, Ar1, q1, S1, M1, H1, G1⟩ := (id _r)
 refine Go.st (X0.arraylength hx (by rw [e0]; exact Ar1.1) (State.isArrayOf_alike hZ.alike Ar1.2.1) (g := (mkF m 2 #[vR al, vR xn, vR ed, vI (2 : Int32)] [(.ref ed), (.int 2)])) rfl rfl (hb hby d33_2)) ?_
 rw [len_of S1 M1]
 refine gs ?_ fun _ _k => XS.icmpYes X0.here hx rfl (pc0 := 3) (pc' := 11) rfl (hb hby d33_3) rfl (feq (by decide : ¬ ((2 : Int32) = (10 : Int32)))).2 (by decide) (by decide) _k
 refine gs ?_ fun _ _k => XS.aloadN X0.here hx rfl (hb hby d33_11) rfl rfl _k
 refine gs ?_ fun _ _k => XS.iloadN X0.here hx rfl (hb hby d33_12) rfl _k
 refine gs ?_ fun _ _k => XS.aloadN X0.here hx rfl (hb hby d33_13) rfl rfl _k
 obtain ⟨cl2, Ar2, q2, S2, M2, H2, G2⟩ := (id _r)
 have in2 : ¬ ((2 : Int32) < 0 ∨ cl2.slots.size ≤ ((2 : Int32)).toNatClampNeg) := inb_of S2 ⟨by decide, by decide⟩
 obtain ⟨T2, h2, X2, e2, W2, st2⟩ := stR X0 hx hZ e0 Ar2 (j := (2 : Int32)) in2 rfl (Sto.ofV Ar2 q2 _D (Ins.of_exa _C (qw hw 267 rfl))) (g := (mkF m 14 #[vR al, vR xn, vR ed, vI (2 : Int32)] [(.ref xn), (.int 2), (.ref ed)])) rfl rfl (hb hby d33_14)
 refine Go.st st2 ?_
 have _t : Arv Z h2 ed _j (.object s_e) (10 : Int32) [(.ref xa), (.ref xb), (.ref xn), .null, .null, .null, .null, .null, .null, .null] .null := Arv.set Ar2 q2 S2 M2 H2 G2 rfl W2 2 rfl (by simp)
 have N2 := Fr.snoc X2 N0 _A
 refine gs ?_ fun _ _k => XS.aloadN X2.here hx rfl (hb hby d33_15) rfl rfl _k
 refine gs ?_ fun _ _k => XS.iloadN X2.here hx rfl (hb hby d33_16) rfl _k
 refine gs ?_ fun _ _k => XT.iconstV X2.here hx rfl (1 : Int32) (hb hby d33_17) (by decide) _k
 refine gs ?_ fun _ _k => XS.iadd X2.here hx rfl (hb hby d33_18) rfl _k
 show Go p e s _h _ _ _ T2 (mkF m 19 #[vR al, vR xn, vR ed, vI (2 : Int32)] [(.int ((2 : Int32) + (1 : Int32))), (.ref al)])
 rw [show ((2 : Int32) + (1 : Int32)) = (3 : Int32) from by decide]
 show Go p e s _h _ _ _ T2 (mkF m 19 #[vR al, vR xn, vR ed, vI (2 : Int32)] [(.int 3), (.ref al)])
 have _c := _k.other W2 (Or.inl _a)
 have _o := _B.wr W2
 obtain ⟨T3, h3, X3, e3, W3, st3⟩ := putF X2 hx hZ _q (host := "") (Or.inl (qw hw 105 rfl)) Via.refl e2 _c _o (Or.inl (qw hw 106 rfl)) (qw hw 51 rfl) (ty := .int) (by decide) rfl rfl (g := (mkF m 19 #[vR al, vR xn, vR ed, vI (2 : Int32)] [(.int 3), (.ref al)])) rfl rfl (hb hby d33_19)
 refine Go.st st3 ?_
 have _i : Fld Z h3 al s_g "size" "I" (.int 3) := _c.same W3
 have N3 := Fr.snoc X3 N2 _z
 show Go p e s _h _ _ _ T3 (mkF m 22 #[vR al, vR xn, vR ed, vI (2 : Int32)] [])
 have K_3 := (K0.wr W2 (Or.inl (by simp))).wr W3 (Or.inl (by simp))
 have _u := _o.wr W3
 have _f := (_g.other W2 (Or.inl _a)).other W3 (Or.inr (slot_ne (Or.inl (qw hw 70 rfl)) (Or.inl (qw hw 106 rfl)) (by decide) (t := .int) (t' := .int) (by decide) (by decide)))
 have _b := (_d.other W2 (Or.inl _a)).other W3 (Or.inr (slot_ne (Or.inl (qw hw 73 rfl)) (Or.inl (qw hw 106 rfl)) (by decide) (t := (.array (.object s_e))) (t' := .int) (by decide) (by decide)))
 have _v := _t.other W3 (Ne.symm _a)
 have _w := (_E.wr W2).wr W3
 exact Go.retV X3 hx hlk _H (hb hby d33_22) (by decide) (by decide) ⟨rfl, N3, (by rw [e3]; exact K_3), (by rw [e3]; exact _u), (by rw [e3]; exact _f), (by rw [e3]; exact _b), (by rw [e3]; exact _i), (by rw [e3]; exact _v), (by rw [e3]; exact _w)⟩
theorem ef_A12 (m : MethodId) (x0 : Addr) (x1 : Addr) : entryFrame m #[(.ref x0), (.ref x1)] 2 = mkF m 0 #[.val (.ref x0), .val (.ref x1)] [] := by first | (simp [entryFrame, mkF, argsToLocals, Value.category]; done) | rfl
theorem rmA12 (l : Launch) (Z : State) (a0 : Array Value) (hw : HW a0 Z) (ws : List Jvm.Cond) (vi : Int32) (xa : Addr) (xb : Addr) (al : Addr) (xn : Addr) (ed : Addr) (_o : ClassId) (h0 : Heap) (n0 : Nat) (Z0 : n0 ≤ h0.size) (_v : n0 ≤ al) (_B : n0 ≤ ed) (_w : Exa Z h0 al s_g) (_b : Fld Z h0 al s_r s_x "I" (.int 2)) (_d : Fld Z h0 al s_g s_w s_k (.ref ed)) (_r : Fld Z h0 al s_g "size" "I" (.int 2)) (_C : Exa Z h0 xn s_i) (_q : Fld Z h0 xn s_i "value" "I" (.int vi)) (_D : Arv Z h0 ed _o (.object s_e) (10 : Int32) [(.ref xa), (.ref xb), .null, .null, .null, .null, .null, .null, .null, .null] .null) (_E : Ovr Z _o s_e) (_F : Exa Z h0 ed s_k) (_i : al ≠ ed) (_j : xn ≠ al) (_u : xn ≠ ed) :
  Meets l Z mn_35 jdk_38_method_25_code 2 (some .boolean) ({ frames := 1, cells := 0, slots := 0, locals := 15 } : Room) ws #[(.ref al), (.ref xn)] h0 (fun v h L => v = some (.int (nar .boolean (1 : Int32))) ∧ Fr n0 L ∧ Keep h0 h [al, ed] ∧ Exa Z h al s_g ∧ Fld Z h al s_r s_x "I" (.int 3) ∧ Fld Z h al s_g s_w s_k (.ref ed) ∧ Fld Z h al s_g "size" "I" (.int 3) ∧ Arv Z h ed _o (.object s_e) (10 : Int32) [(.ref xa), (.ref xb), (.ref xn), .null, .null, .null, .null, .null, .null, .null] .null ∧ Exa Z h ed s_k) := by
 refine Meets.of (plainFor_of_name pn_11) ?_
 intro p e s m _g _N c s₁ X0 hx hby hml _G hlk hnm hZ _f e0
 replace _f : s.vm.findClass s_g = some m.cls := _f
 have N0 := Fr.nil n0
 have K0 := Keep.refl h0 [al, ed]
 refine Go.cast (ef_A12 m al xn) ?_
 show Go p e s _g _ _ _ s₁ (mkF m 0 #[vR al, vR xn] [])
 refine gs ?_ fun _ _k => XS.aloadN X0.here hx rfl (hb hby d32_0) rfl rfl _k
 refine gs ?_ fun _ _k => XS.dup X0.here hx rfl (hb hby d32_1) rfl rfl _k
 obtain ⟨T1, X1, e1, st1⟩ := getF X0 hx hZ _f (host := "") (Or.inl (qw hw 245 rfl)) (Via.of (qw hw 246 rfl)) e0 _b (g := (mkF m 2 #[vR al, vR xn] [(.ref al), (.ref al)])) rfl rfl (hb hby d32_2)
 refine Go.st st1 ?_
 refine gs ?_ fun _ _k => XT.iconstV X1.here hx rfl (1 : Int32) (hb hby d32_5) (by decide) _k
 refine gs ?_ fun _ _k => XS.iadd X1.here hx rfl (hb hby d32_6) rfl _k
 show Go p e s _g _ _ _ T1 (mkF m 7 #[vR al, vR xn] [(.int ((2 : Int32) + (1 : Int32))), (.ref al)])
 rw [show ((2 : Int32) + (1 : Int32)) = (3 : Int32) from by decide]
 show Go p e s _g _ _ _ T1 (mkF m 7 #[vR al, vR xn] [(.int 3), (.ref al)])
 obtain ⟨T2, h2, X2, e2, W2, st2⟩ := putF X1 hx hZ _f (host := "") (Or.inl (qw hw 245 rfl)) (Via.of (qw hw 246 rfl)) e1 _b _w (Or.inl (qw hw 70 rfl)) (qw hw 51 rfl) (ty := .int) (by decide) rfl rfl (g := (mkF m 7 #[vR al, vR xn] [(.int 3), (.ref al)])) rfl rfl (hb hby d32_7)
 refine Go.st st2 ?_
 have _h : Fld Z h2 al s_r s_x "I" (.int 3) := _b.same W2
 have N2 := Fr.snoc X2 N0 _v
 refine gs ?_ fun _ _k => XS.aloadN X2.here hx rfl (hb hby d32_10) rfl rfl _k
 refine gs ?_ fun _ _k => XS.aloadN X2.here hx rfl (hb hby d32_11) rfl rfl _k
 refine gs ?_ fun _ _k => XS.aloadN X2.here hx rfl (hb hby d32_12) rfl rfl _k
 have _a := _d.other W2 (Or.inr (slot_ne (Or.inl (qw hw 73 rfl)) (Or.inl (qw hw 70 rfl)) (by decide) (t := (.array (.object s_e))) (t' := .int) (by decide) (by decide)))
 obtain ⟨T3, X3, e3, st3⟩ := getF X2 hx hZ _f (host := "") (Or.inl (qw hw 72 rfl)) Via.refl e2 _a (g := (mkF m 13 #[vR al, vR xn] [(.ref al), (.ref xn), (.ref al)])) rfl rfl (hb hby d32_13)
 refine Go.st st3 ?_
 refine gs ?_ fun _ _k => XS.aloadN X3.here hx rfl (hb hby d32_16) rfl rfl _k
 have _c := _r.other W2 (Or.inr (slot_ne (Or.inl (qw hw 106 rfl)) (Or.inl (qw hw 70 rfl)) (by decide) (t := .int) (t' := .int) (by decide) (by decide)))
 obtain ⟨T4, X4, e4, st4⟩ := getF X3 hx hZ _f (host := "") (Or.inl (qw hw 105 rfl)) Via.refl e3 _c (g := (mkF m 17 #[vR al, vR xn] [(.ref al), (.ref ed), (.ref xn), (.ref al)])) rfl rfl (hb hby d32_17)
 refine Go.st st4 ?_
 show Go p e s _g _ _ _ T4 (mkF m 20 #[vR al, vR xn] [(.int 2), (.ref ed), (.ref xn), (.ref al)])
 have K_2 := K0.wr W2 (Or.inl (by simp))
 have _t := _w.wr W2
 have _y := _C.wr W2
 have _k := _q.other W2 (Or.inl _j)
 have _z := _D.other W2 (Ne.symm _i)
 have _A := _F.wr W2
 refine Go.callP (b := al) (W := 0) (argsL := [(.ref xn), (.ref ed), (.int 2)]) (rest := []) X4 hx hZ _f (y := mn_34) (qw hw 247 rfl) (qw hw 248 rfl) (qw hw 249 rfl) (qw hw 51 rfl) (qw hw 52 rfl) (qw hw 251 rfl) (rmA32 l Z a0 hw [] vi xa xb al xn ed _o h2 n0 (Nat.le_trans Z0 K_2.1) _v _B _t _h _a _c _y _k _z _E _A _i _j _u) e4 _t (by decide) (by rw [hml]; rfl) (lenOf pd16 rfl) (Nat.le_of_eq rfl) (hb hby d32_20) ?_
 intro T5 v5 L5 h5 e5 X5 hQ5
 obtain ⟨rfl, N5, K5, _H, _I, _J, _K, _L, _M⟩ := hQ5
 have M5 := Fr.app N2 N5
 refine gs ?_ fun _ _k => XT.iconstV X5.here hx rfl (1 : Int32) (hb hby d32_23) (by decide) _k
 show Go p e s _g _ _ _ T5 (mkF m 24 #[vR al, vR xn] [(.int 1)])
 have K_5 := K_2.trans K5 (allS (Or.inl (by simp)) (allS (Or.inl (by simp)) all0))
 exact Go.retN X5 hx hlk _G (by simp) (hb hby d32_24) (by decide) (by decide) ⟨rfl, M5, (by rw [e5]; exact K_5), (by rw [e5]; exact _H), (by rw [e5]; exact _I), (by rw [e5]; exact _J), (by rw [e5]; exact _K), (by rw [e5]; exact _L), (by rw [e5]; exact _M)⟩
theorem d29_0 : decode bc29 0 = .ok (.aload_n 0, 1) := by decide +kernel
theorem d29_1 : decode bc29 1 = .ok (.getfield 48, 3) := by decide +kernel
theorem d29_4 : decode bc29 4 = .ok (.ireturn, 1) := by decide +kernel
theorem ef_SZ (m : MethodId) (x0 : Addr) : entryFrame m #[(.ref x0)] 1 = mkF m 0 #[.val (.ref x0)] [] := by first | (simp [entryFrame, mkF, argsToLocals, Value.category]; done) | rfl
theorem rmSZ (l : Launch) (Z : State) (a0 : Array Value) (hw : HW a0 Z) (ws : List Jvm.Cond) (sn : Int32) (al : Addr) (h0 : Heap) (n0 : Nat) (Z0 : n0 ≤ h0.size) (_f : Exa Z h0 al s_g) (_a : Fld Z h0 al s_g "size" "I" (.int sn)) :
  Meets l Z mn_36 jdk_38_method_8_code 1 (some .int) ({ frames := 0, cells := 0, slots := 0, locals := 0 } : Room) ws #[(.ref al)] h0 (fun v h L => v = some (.int sn) ∧ Fr n0 L ∧ Ext h0 h) := by
 refine Meets.of (plainFor_of_name pn_11) ?_
 intro p e s m _c _g c s₁ X0 hx hby hml _d hlk hnm hZ _b e0
 replace _b : s.vm.findClass s_g = some m.cls := _b
 have N0 := Fr.nil n0
 have Q0 := own_extR h0
 refine Go.cast (ef_SZ m al) ?_
 show Go p e s _c _ _ _ s₁ (mkF m 0 #[vR al] [])
 refine gs ?_ fun _ _k => XS.aloadN X0.here hx rfl (hb hby d29_0) rfl rfl _k
 obtain ⟨T1, X1, e1, st1⟩ := getF X0 hx hZ _b (host := "") (Or.inl (qw hw 105 rfl)) Via.refl e0 _a (g := (mkF m 1 #[vR al] [(.ref al)])) rfl rfl (hb hby d29_1)
 refine Go.st st1 ?_
 show Go p e s _c _ _ _ T1 (mkF m 4 #[vR al] [(.int sn)])
 exact Go.retI X1 hx hlk _d (hb hby d29_4) (by decide) (by decide) ⟨rfl, N0, (by rw [e1]; exact Q0)⟩
theorem d14_0 : decode bc14 0 = .ok (.aload_n 0, 1) := by decide +kernel
theorem d14_1 : decode bc14 1 = .ok (.getfield 48, 3) := by decide +kernel
theorem d14_4 : decode bc14 4 = .ok (.ifCond .ne 7, 3) := by decide +kernel
theorem d14_7 : decode bc14 7 = .ok (.iconst 1, 1) := by decide +kernel
theorem d14_8 : decode bc14 8 = .ok (.goto 4, 3) := by decide +kernel
theorem d14_12 : decode bc14 12 = .ok (.ireturn, 1) := by decide +kernel
theorem ef_IS0 (m : MethodId) (x0 : Addr) : entryFrame m #[(.ref x0)] 1 = mkF m 0 #[.val (.ref x0)] [] := by first | (simp [entryFrame, mkF, argsToLocals, Value.category]; done) | rfl
theorem rmIS0 (l : Launch) (Z : State) (a0 : Array Value) (hw : HW a0 Z) (ws : List Jvm.Cond) (al : Addr) (h0 : Heap) (n0 : Nat) (Z0 : n0 ≤ h0.size) (_f : Exa Z h0 al s_g) (_a : Fld Z h0 al s_g "size" "I" (.int 0)) :
  Meets l Z mn_37 jdk_38_method_9_code 1 (some .boolean) ({ frames := 0, cells := 0, slots := 0, locals := 0 } : Room) ws #[(.ref al)] h0 (fun v h L => v = some (.int (nar .boolean (1 : Int32))) ∧ Fr n0 L ∧ Ext h0 h) := by
 refine Meets.of (plainFor_of_name pn_11) ?_
 intro p e s m _c _g c s₁ X0 hx hby hml _d hlk hnm hZ _b e0
 replace _b : s.vm.findClass s_g = some m.cls := _b
 have N0 := Fr.nil n0
 have Q0 := own_extR h0
 refine Go.cast (ef_IS0 m al) ?_
 show Go p e s _c _ _ _ s₁ (mkF m 0 #[vR al] [])
 refine gs ?_ fun _ _k => XS.aloadN X0.here hx rfl (hb hby d14_0) rfl rfl _k
 obtain ⟨T1, X1, e1, st1⟩ := getF X0 hx hZ _b (host := "") (Or.inl (qw hw 105 rfl)) Via.refl e0 _a (g := (mkF m 1 #[vR al] [(.ref al)])) rfl rfl (hb hby d14_1)
 refine Go.st st1 ?_
 refine gs ?_ fun _ _k => XS.ifNo X1.here hx rfl (hb hby d14_4) rfl ((if0 _ _).trans (teq rfl).2) _k
 refine gs ?_ fun _ _k => XT.iconstV X1.here hx rfl (1 : Int32) (hb hby d14_7) (by decide) _k
 refine gs ?_ fun _ _k => XS.goto X1.here hx rfl (pc0 := 8) (pc' := 12) rfl (hb hby d14_8) (by decide) (by decide) _k
 show Go p e s _c _ _ _ T1 (mkF m 12 #[vR al] [(.int 1)])
 exact Go.retN X1 hx hlk _d (by simp) (hb hby d14_12) (by decide) (by decide) ⟨rfl, N0, (by rw [e1]; exact Q0)⟩
theorem d14_11 : decode bc14 11 = .ok (.iconst 0, 1) := by decide +kernel
theorem ef_IS1 (m : MethodId) (x0 : Addr) : entryFrame m #[(.ref x0)] 1 = mkF m 0 #[.val (.ref x0)] [] := by first | (simp [entryFrame, mkF, argsToLocals, Value.category]; done) | rfl
theorem rmIS1 (l : Launch) (Z : State) (a0 : Array Value) (hw : HW a0 Z) (ws : List Jvm.Cond) (al : Addr) (h0 : Heap) (n0 : Nat) (Z0 : n0 ≤ h0.size) (_f : Exa Z h0 al s_g) (_a : Fld Z h0 al s_g "size" "I" (.int 1)) :
  Meets l Z mn_37 jdk_38_method_9_code 1 (some .boolean) ({ frames := 0, cells := 0, slots := 0, locals := 0 } : Room) ws #[(.ref al)] h0 (fun v h L => v = some (.int (nar .boolean (0 : Int32))) ∧ Fr n0 L ∧ Ext h0 h) := by
 refine Meets.of (plainFor_of_name pn_11) ?_
 intro p e s m _c _g c s₁ X0 hx hby hml _d hlk hnm hZ _b e0
 replace _b : s.vm.findClass s_g = some m.cls := _b
 have N0 := Fr.nil n0
 have Q0 := own_extR h0
 refine Go.cast (ef_IS1 m al) ?_
 show Go p e s _c _ _ _ s₁ (mkF m 0 #[vR al] [])
 refine gs ?_ fun _ _k => XS.aloadN X0.here hx rfl (hb hby d14_0) rfl rfl _k
 obtain ⟨T1, X1, e1, st1⟩ := getF X0 hx hZ _b (host := "") (Or.inl (qw hw 105 rfl)) Via.refl e0 _a (g := (mkF m 1 #[vR al] [(.ref al)])) rfl rfl (hb hby d14_1)
 refine Go.st st1 ?_
 refine gs ?_ fun _ _k => XS.ifYes X1.here hx rfl (pc0 := 4) (pc' := 11) rfl (hb hby d14_4) rfl ((if0 _ _).trans (feq (by decide : ¬ ((1 : Int32) = (0 : Int32)))).2) (by decide) (by decide) _k
 refine gs ?_ fun _ _k => XT.iconstV X1.here hx rfl (0 : Int32) (hb hby d14_11) (by decide) _k
 show Go p e s _c _ _ _ T1 (mkF m 12 #[vR al] [(.int 0)])
 exact Go.retN X1 hx hlk _d (by simp) (hb hby d14_12) (by decide) (by decide) ⟨rfl, N0, (by rw [e1]; exact Q0)⟩
theorem ef_IS2 (m : MethodId) (x0 : Addr) : entryFrame m #[(.ref x0)] 1 = mkF m 0 #[.val (.ref x0)] [] := by first | (simp [entryFrame, mkF, argsToLocals, Value.category]; done) | rfl
theorem rmIS2 (l : Launch) (Z : State) (a0 : Array Value) (hw : HW a0 Z) (ws : List Jvm.Cond) (al : Addr) (h0 : Heap) (n0 : Nat) (Z0 : n0 ≤ h0.size) (_f : Exa Z h0 al s_g) (_a : Fld Z h0 al s_g "size" "I" (.int 2)) :
  Meets l Z mn_37 jdk_38_method_9_code 1 (some .boolean) ({ frames := 0, cells := 0, slots := 0, locals := 0 } : Room) ws #[(.ref al)] h0 (fun v h L => v = some (.int (nar .boolean (0 : Int32))) ∧ Fr n0 L ∧ Ext h0 h) := by
 refine Meets.of (plainFor_of_name pn_11) ?_
 intro p e s m _c _g c s₁ X0 hx hby hml _d hlk hnm hZ _b e0
 replace _b : s.vm.findClass s_g = some m.cls := _b
 have N0 := Fr.nil n0
 have Q0 := own_extR h0
 refine Go.cast (ef_IS2 m al) ?_
 show Go p e s _c _ _ _ s₁ (mkF m 0 #[vR al] [])
 refine gs ?_ fun _ _k => XS.aloadN X0.here hx rfl (hb hby d14_0) rfl rfl _k
 obtain ⟨T1, X1, e1, st1⟩ := getF X0 hx hZ _b (host := "") (Or.inl (qw hw 105 rfl)) Via.refl e0 _a (g := (mkF m 1 #[vR al] [(.ref al)])) rfl rfl (hb hby d14_1)
 refine Go.st st1 ?_
 refine gs ?_ fun _ _k => XS.ifYes X1.here hx rfl (pc0 := 4) (pc' := 11) rfl (hb hby d14_4) rfl ((if0 _ _).trans (feq (by decide : ¬ ((2 : Int32) = (0 : Int32)))).2) (by decide) (by decide) _k
 refine gs ?_ fun _ _k => XT.iconstV X1.here hx rfl (0 : Int32) (hb hby d14_11) (by decide) _k
 show Go p e s _c _ _ _ T1 (mkF m 12 #[vR al] [(.int 0)])
 exact Go.retN X1 hx hlk _d (by simp) (hb hby d14_12) (by decide) (by decide) ⟨rfl, N0, (by rw [e1]; exact Q0)⟩
theorem ef_IS3 (m : MethodId) (x0 : Addr) : entryFrame m #[(.ref x0)] 1 = mkF m 0 #[.val (.ref x0)] [] := by first | (simp [entryFrame, mkF, argsToLocals, Value.category]; done) | rfl
theorem rmIS3 (l : Launch) (Z : State) (a0 : Array Value) (hw : HW a0 Z) (ws : List Jvm.Cond) (al : Addr) (h0 : Heap) (n0 : Nat) (Z0 : n0 ≤ h0.size) (_f : Exa Z h0 al s_g) (_a : Fld Z h0 al s_g "size" "I" (.int 3)) :
  Meets l Z mn_37 jdk_38_method_9_code 1 (some .boolean) ({ frames := 0, cells := 0, slots := 0, locals := 0 } : Room) ws #[(.ref al)] h0 (fun v h L => v = some (.int (nar .boolean (0 : Int32))) ∧ Fr n0 L ∧ Ext h0 h) := by
 refine Meets.of (plainFor_of_name pn_11) ?_
 intro p e s m _c _g c s₁ X0 hx hby hml _d hlk hnm hZ _b e0
 replace _b : s.vm.findClass s_g = some m.cls := _b
 have N0 := Fr.nil n0
 have Q0 := own_extR h0
 refine Go.cast (ef_IS3 m al) ?_
 show Go p e s _c _ _ _ s₁ (mkF m 0 #[vR al] [])
 refine gs ?_ fun _ _k => XS.aloadN X0.here hx rfl (hb hby d14_0) rfl rfl _k
 obtain ⟨T1, X1, e1, st1⟩ := getF X0 hx hZ _b (host := "") (Or.inl (qw hw 105 rfl)) Via.refl e0 _a (g := (mkF m 1 #[vR al] [(.ref al)])) rfl rfl (hb hby d14_1)
 refine Go.st st1 ?_
 refine gs ?_ fun _ _k => XS.ifYes X1.here hx rfl (pc0 := 4) (pc' := 11) rfl (hb hby d14_4) rfl ((if0 _ _).trans (feq (by decide : ¬ ((3 : Int32) = (0 : Int32)))).2) (by decide) (by decide) _k
 refine gs ?_ fun _ _k => XT.iconstV X1.here hx rfl (0 : Int32) (hb hby d14_11) (by decide) _k
 show Go p e s _c _ _ _ T1 (mkF m 12 #[vR al] [(.int 0)])
 exact Go.retN X1 hx hlk _d (by simp) (hb hby d14_12) (by decide) (by decide) ⟨rfl, N0, (by rw [e1]; exact Q0)⟩
theorem d15_0 : decode bc15 0 = .ok (.getstatic 90, 3) := by decide +kernel
theorem d15_3 : decode bc15 3 = .ok (.areturn, 1) := by decide +kernel
theorem ef_LO0 (m : MethodId)  : entryFrame m #[] 0 = mkF m 0 #[] [] := by first | (simp [entryFrame, mkF, argsToLocals, Value.category]; done) | rfl
theorem rmLO0 (l : Launch) (Z : State) (a0 : Array Value) (hw : HW a0 Z) (ws : List Jvm.Cond) (el : Addr) (h0 : Heap) (n0 : Nat) (Z0 : n0 ≤ h0.size) (ZN : Z.heap.size ≤ n0) (EZ : Ext Z.heap h0) (SEL : Sta Z Z.heap s_u "EMPTY_LIST" "Ljava/util/ImmutableCollections$ListN;" (.ref el)) :
  Meets l Z mn_38 jdk_40_method_36_code 0 (some (.object s_y)) ({ frames := 0, cells := 0, slots := 0, locals := 0 } : Room) ws #[] h0 (fun v h L => v = some (.ref el) ∧ Fr n0 L ∧ Ext h0 h) := by
 refine Meets.of (plainFor_of_name pn_12) ?_
 intro p e s m _b _d c s₁ X0 hx hby hml _c hlk hnm hZ _a e0
 replace _a : s.vm.findClass s_y = some m.cls := _a
 have N0 := Fr.nil n0
 have Q0 := own_extR h0
 refine Go.cast (ef_LO0 m ) ?_
 show Go p e s _b _ _ _ s₁ (mkF m 0 #[] [])
 obtain ⟨T1, X1, e1, st1⟩ := getS2 X0 hx hZ _a (host := "") (Or.inl (qw hw 110 rfl)) Via.refl e0 (SEL.ext EZ) (g := (mkF m 0 #[] [])) rfl (hb hby d15_0)
 refine Go.st st1 ?_
 show Go p e s _b _ _ _ T1 (mkF m 3 #[] [(.ref el)])
 exact Go.retA X1 hx hlk _c rfl rfl (hb hby d15_3) (by decide) (by decide) ⟨rfl, N0, (by rw [e1]; exact Q0)⟩
theorem d45_0 : decode bc45 0 = .ok (.aload_n 0, 1) := by decide +kernel
theorem d45_1 : decode bc45 1 = .ok (.ifnonnull 11, 3) := by decide +kernel
theorem d45_12 : decode bc45 12 = .ok (.aload_n 0, 1) := by decide +kernel
theorem d45_13 : decode bc45 13 = .ok (.areturn, 1) := by decide +kernel
theorem ef_RQ (m : MethodId) (x0 : Addr) : entryFrame m #[(.ref x0)] 1 = mkF m 0 #[.val (.ref x0)] [] := by first | (simp [entryFrame, mkF, argsToLocals, Value.category]; done) | rfl
theorem rmRQ (l : Launch) (Z : State) (a0 : Array Value) (hw : HW a0 Z) (ws : List Jvm.Cond) (xo : Addr) (h0 : Heap) (n0 : Nat) (Z0 : n0 ≤ h0.size) :
  Meets l Z mn_39 jdk_31_method_10_code 1 (some (.object s_e)) ({ frames := 0, cells := 0, slots := 0, locals := 0 } : Room) ws #[(.ref xo)] h0 (fun v h L => v = some (.ref xo) ∧ Fr n0 L ∧ Ext h0 h) := by
 refine Meets.of (plainFor_of_name pn_6) ?_
 intro p e s m _a _d c s₁ X0 hx hby hml _c hlk hnm hZ _b e0
 replace _b : s.vm.findClass "java/util/Objects" = some m.cls := _b
 have N0 := Fr.nil n0
 have Q0 := own_extR h0
 refine Go.cast (ef_RQ m xo) ?_
 show Go p e s _a _ _ _ s₁ (mkF m 0 #[vR xo] [])
 refine gs ?_ fun _ _k => XS.aloadN X0.here hx rfl (hb hby d45_0) rfl rfl _k
 refine gs ?_ fun _ _k => XS.ifnonnullYes X0.here hx rfl (pc0 := 1) (pc' := 12) rfl (hb hby d45_1) rfl (by decide) (by decide) _k
 refine gs ?_ fun _ _k => XS.aloadN X0.here hx rfl (hb hby d45_12) rfl rfl _k
 show Go p e s _a _ _ _ s₁ (mkF m 13 #[vR xo] [(.ref xo)])
 exact Go.retA X0 hx hlk _c rfl rfl (hb hby d45_13) (by decide) (by decide) ⟨rfl, N0, (by rw [e0]; exact Q0)⟩
theorem d44_0 : decode bc44 0 = .ok (.aload_n 0, 1) := by decide +kernel
theorem d44_1 : decode bc44 1 = .ok (.invokespecial 1, 3) := by decide +kernel
theorem d44_4 : decode bc44 4 = .ok (.return_, 1) := by decide +kernel
theorem ef_XC (m : MethodId) (x0 : Addr) : entryFrame m #[(.ref x0)] 1 = mkF m 0 #[.val (.ref x0)] [] := by first | (simp [entryFrame, mkF, argsToLocals, Value.category]; done) | rfl
theorem rmXC (l : Launch) (Z : State) (a0 : Array Value) (hw : HW a0 Z) (ws : List Jvm.Cond) (b : Addr) (h0 : Heap) (n0 : Nat) :
  Meets l Z mn_40 jdk_47_method_1_code 1 none ({ frames := 2, cells := 0, slots := 0, locals := 24 } : Room) ws #[(.ref b)] h0 (fun v h L => v = none ∧ Fr n0 L ∧ h = h0) := by
 refine Meets.of (plainFor_of_name pn_13) ?_
 intro p e s m _a _d c s₁ X0 hx hby hml _c hlk hnm hZ _b e0
 replace _b : s.vm.findClass "java/util/ImmutableCollections$AbstractImmutableCollection" = some m.cls := _b
 have N0 := Fr.nil n0
 refine Go.cast (ef_XC m b) ?_
 show Go p e s _a _ _ _ s₁ (mkF m 0 #[vR b] [])
 refine gs ?_ fun _ _k => XS.aloadN X0.here hx rfl (hb hby d44_0) rfl rfl _k
 show Go p e s _a _ _ _ s₁ (mkF m 1 #[vR b] [(.ref b)])
 refine Go.callC (b := b) (W := 0) (argsL := []) (rest := []) X0 hx hZ (y := mn_28) rfl _b (qw hw 320 rfl) (qw hw 63 rfl) (qw hw 66 rfl) (qw hw 67 rfl) (rmBC l Z a0 hw [] b h0 n0) e0 (by decide) (by rw [hml]; rfl) (lenOf pd0 rfl) (Nat.le_of_eq rfl) (hb hby d44_1) ?_
 intro T1 v1 L1 h1 e1 X1 hQ1
 obtain ⟨rfl, N1, E1⟩ := hQ1
 replace E1 := e1.trans E1
 have M1 := Fr.app N0 N1
 show Go p e s _a _ _ _ T1 (mkF m 4 #[vR b] [])
 exact Go.retV X1 hx hlk _c (hb hby d44_4) (by decide) (by decide) ⟨rfl, M1, E1⟩
theorem d43_0 : decode bc43 0 = .ok (.aload_n 0, 1) := by decide +kernel
theorem d43_1 : decode bc43 1 = .ok (.invokespecial 1, 3) := by decide +kernel
theorem d43_4 : decode bc43 4 = .ok (.return_, 1) := by decide +kernel
theorem ef_XL (m : MethodId) (x0 : Addr) : entryFrame m #[(.ref x0)] 1 = mkF m 0 #[.val (.ref x0)] [] := by first | (simp [entryFrame, mkF, argsToLocals, Value.category]; done) | rfl
theorem rmXL (l : Launch) (Z : State) (a0 : Array Value) (hw : HW a0 Z) (ws : List Jvm.Cond) (b : Addr) (h0 : Heap) (n0 : Nat) :
  Meets l Z mn_41 jdk_46_method_1_code 1 none ({ frames := 3, cells := 0, slots := 0, locals := 36 } : Room) ws #[(.ref b)] h0 (fun v h L => v = none ∧ Fr n0 L ∧ h = h0) := by
 refine Meets.of (plainFor_of_name pn_14) ?_
 intro p e s m _a _d c s₁ X0 hx hby hml _c hlk hnm hZ _b e0
 replace _b : s.vm.findClass "java/util/ImmutableCollections$AbstractImmutableList" = some m.cls := _b
 have N0 := Fr.nil n0
 refine Go.cast (ef_XL m b) ?_
 show Go p e s _a _ _ _ s₁ (mkF m 0 #[vR b] [])
 refine gs ?_ fun _ _k => XS.aloadN X0.here hx rfl (hb hby d43_0) rfl rfl _k
 show Go p e s _a _ _ _ s₁ (mkF m 1 #[vR b] [(.ref b)])
 refine Go.callC (b := b) (W := 0) (argsL := []) (rest := []) X0 hx hZ (y := mn_40) rfl _b (qw hw 314 rfl) (qw hw 315 rfl) (qw hw 318 rfl) (qw hw 319 rfl) (rmXC l Z a0 hw [] b h0 n0) e0 (by decide) (by rw [hml]; rfl) (lenOf pd0 rfl) (Nat.le_of_eq rfl) (hb hby d43_1) ?_
 intro T1 v1 L1 h1 e1 X1 hQ1
 obtain ⟨rfl, N1, E1⟩ := hQ1
 replace E1 := e1.trans E1
 have M1 := Fr.app N0 N1
 show Go p e s _a _ _ _ T1 (mkF m 4 #[vR b] [])
 exact Go.retV X1 hx hlk _c (hb hby d43_4) (by decide) (by decide) ⟨rfl, M1, E1⟩
theorem pd17 : parseMethodDescriptor "(Ljava/lang/Object;)Ljava/lang/Object;" = some ⟨[(.object s_e)], some (.object s_e)⟩ := by decide +kernel
theorem d42_0 : decode bc42 0 = .ok (.aload_n 0, 1) := by decide +kernel
theorem d42_1 : decode bc42 1 = .ok (.invokespecial 1, 3) := by decide +kernel
theorem d42_4 : decode bc42 4 = .ok (.aload_n 0, 1) := by decide +kernel
theorem d42_5 : decode bc42 5 = .ok (.aload_n 1, 1) := by decide +kernel
theorem d42_6 : decode bc42 6 = .ok (.invokestatic 7, 3) := by decide +kernel
theorem d42_9 : decode bc42 9 = .ok (.putfield 13, 3) := by decide +kernel
theorem d42_12 : decode bc42 12 = .ok (.aload_n 0, 1) := by decide +kernel
theorem d42_13 : decode bc42 13 = .ok (.getstatic 19, 3) := by decide +kernel
theorem d42_16 : decode bc42 16 = .ok (.putfield 24, 3) := by decide +kernel
theorem d42_19 : decode bc42 19 = .ok (.return_, 1) := by decide +kernel
theorem ef_TL1 (m : MethodId) (x0 : Addr) (x1 : Addr) : entryFrame m #[(.ref x0), (.ref x1)] 2 = mkF m 0 #[.val (.ref x0), .val (.ref x1)] [] := by first | (simp [entryFrame, mkF, argsToLocals, Value.category]; done) | rfl
theorem rmTL1 (l : Launch) (Z : State) (a0 : Array Value) (hw : HW a0 Z) (ws : List Jvm.Cond) (xa : Addr) (em : Addr) (li : Addr) (h0 : Heap) (n0 : Nat) (Z0 : n0 ≤ h0.size) (ZN : Z.heap.size ≤ n0) (EZ : Ext Z.heap h0) (_k : n0 ≤ li) (_t : Exa Z h0 li s_m) (_o : Fld Z h0 li s_m "e0" s_l .null) (_q : Fld Z h0 li s_m "e1" s_l .null) (SEM : Sta Z Z.heap s_u "EMPTY" s_l (.ref em)) :
  Meets l Z mn_42 jdk_44_method_1_code 2 none ({ frames := 4, cells := 0, slots := 0, locals := 48 } : Room) ws #[(.ref li), (.ref xa)] h0 (fun v h L => v = none ∧ Fr n0 L ∧ Keep h0 h [li] ∧ Exa Z h li s_m ∧ Fld Z h li s_m "e0" s_l (.ref xa) ∧ Fld Z h li s_m "e1" s_l (.ref em)) := by
 refine Meets.of (plainFor_of_name pn_15) ?_
 intro p e s m _d _w c s₁ X0 hx hby hml _u hlk hnm hZ _a e0
 replace _a : s.vm.findClass s_m = some m.cls := _a
 have N0 := Fr.nil n0
 have K0 := Keep.refl h0 [li]
 refine Go.cast (ef_TL1 m li xa) ?_
 show Go p e s _d _ _ _ s₁ (mkF m 0 #[vR li, vR xa] [])
 refine gs ?_ fun _ _k => XS.aloadN X0.here hx rfl (hb hby d42_0) rfl rfl _k
 show Go p e s _d _ _ _ s₁ (mkF m 1 #[vR li, vR xa] [(.ref li)])
 refine Go.callC (b := li) (W := 0) (argsL := []) (rest := []) X0 hx hZ (y := mn_41) rfl _a (qw hw 308 rfl) (qw hw 309 rfl) (qw hw 312 rfl) (qw hw 313 rfl) (rmXL l Z a0 hw [] li h0 n0) e0 (by decide) (by rw [hml]; rfl) (lenOf pd0 rfl) (Nat.le_of_eq rfl) (hb hby d42_1) ?_
 intro T1 v1 L1 h1 e1 X1 hQ1
 obtain ⟨rfl, N1, E1⟩ := hQ1
 replace E1 := e1.trans E1
 have M1 := Fr.app N0 N1
 refine gs ?_ fun _ _k => XS.aloadN X1.here hx rfl (hb hby d42_4) rfl rfl _k
 refine gs ?_ fun _ _k => XS.aloadN X1.here hx rfl (hb hby d42_5) rfl rfl _k
 show Go p e s _d _ _ _ T1 (mkF m 6 #[vR li, vR xa] [(.ref xa), (.ref li)])
 refine Go.callS (W := 1) (argsL := [(.ref xa)]) (rest := [(.ref li)]) X1 hx hZ _a (y := mn_39) (qw hw 322 rfl) (qw hw 323 rfl) (qw hw 324 rfl) (qw hw 325 rfl) (rmRQ l Z a0 hw [] xa h0 n0 (Nat.le_trans Z0 K0.1)) E1 (by decide) (by rw [hml]; rfl) (lenOf pd17 rfl) (Nat.le_of_eq rfl) (hb hby d42_6) ?_
 intro T2 v2 L2 h2 e2 X2 hQ2
 obtain ⟨rfl, N2, K2⟩ := hQ2
 have M2 := Fr.app M1 N2
 have _b := _o.ext K2
 have _f := _t.ext K2
 obtain ⟨T3, h3, X3, e3, W3, st3⟩ := putF X2 hx hZ _a (host := "") (Or.inl (qw hw 326 rfl)) Via.refl e2 _b _f (Or.inr ⟨(qw hw 327 rfl), rfl, hnm⟩) (qw hw 302 rfl) (ty := (.object s_e)) (by decide) rfl rfl (g := (mkF m 9 #[vR li, vR xa] [(.ref xa), (.ref li)])) rfl rfl (hb hby d42_9)
 refine Go.st st3 ?_
 have _g : Fld Z h3 li s_m "e0" s_l (.ref xa) := _b.same W3
 have N3 := Fr.snoc X3 M2 _k
 refine gs ?_ fun _ _k => XS.aloadN X3.here hx rfl (hb hby d42_12) rfl rfl _k
 have _v := own_extW (own_extE EZ K2) W3 (Nat.le_trans ZN _k)
 obtain ⟨T4, X4, e4, st4⟩ := getS2 X3 hx hZ _a (Or.inr (qw hw 328 rfl)) Via.refl e3 (SEM.ext _v) (g := (mkF m 13 #[vR li, vR xa] [(.ref li)])) rfl (hb hby d42_13)
 refine Go.st st4 ?_
 have _c := (_q.ext K2).other W3 (Or.inr (slot_ne (Or.inr (qw hw 330 rfl)) (Or.inr (qw hw 327 rfl)) (by decide) (t := (.object s_e)) (t' := (.object s_e)) (by decide) (by decide)))
 have _h := _f.wr W3
 obtain ⟨T5, h5, X5, e5, W5, st5⟩ := putF X4 hx hZ _a (host := "") (Or.inl (qw hw 329 rfl)) Via.refl e4 _c _h (Or.inr ⟨(qw hw 330 rfl), rfl, hnm⟩) (qw hw 302 rfl) (ty := (.object s_e)) (by decide) rfl rfl (g := (mkF m 16 #[vR li, vR xa] [(.ref em), (.ref li)])) rfl rfl (hb hby d42_16)
 refine Go.st st5 ?_
 have _i : Fld Z h5 li s_m "e1" s_l (.ref em) := _c.same W5
 have N5 := Fr.snoc X5 N3 _k
 show Go p e s _d _ _ _ T5 (mkF m 19 #[vR li, vR xa] [])
 have K_5 := ((K0.ext K2).wr W3 (Or.inl (by simp))).wr W5 (Or.inl (by simp))
 have _r := _h.wr W5
 have _j := _g.other W5 (Or.inr (slot_ne (Or.inr (qw hw 327 rfl)) (Or.inr (qw hw 330 rfl)) (by decide) (t := (.object s_e)) (t' := (.object s_e)) (by decide) (by decide)))
 exact Go.retV X5 hx hlk _u (hb hby d42_19) (by decide) (by decide) ⟨rfl, N5, (by rw [e5]; exact K_5), (by rw [e5]; exact _r), (by rw [e5]; exact _j), (by rw [e5]; exact _i)⟩
theorem d57_0 : decode bc57 0 = .ok (.aload_n 0, 1) := by decide +kernel
theorem d57_1 : decode bc57 1 = .ok (.invokespecial 1, 3) := by decide +kernel
theorem d57_4 : decode bc57 4 = .ok (.aload_n 0, 1) := by decide +kernel
theorem d57_5 : decode bc57 5 = .ok (.aload_n 1, 1) := by decide +kernel
theorem d57_6 : decode bc57 6 = .ok (.invokestatic 7, 3) := by decide +kernel
theorem d57_9 : decode bc57 9 = .ok (.putfield 13, 3) := by decide +kernel
theorem d57_12 : decode bc57 12 = .ok (.aload_n 0, 1) := by decide +kernel
theorem d57_13 : decode bc57 13 = .ok (.aload_n 2, 1) := by decide +kernel
theorem d57_14 : decode bc57 14 = .ok (.invokestatic 7, 3) := by decide +kernel
theorem d57_17 : decode bc57 17 = .ok (.putfield 24, 3) := by decide +kernel
theorem d57_20 : decode bc57 20 = .ok (.return_, 1) := by decide +kernel
theorem ef_TL2 (m : MethodId) (x0 : Addr) (x1 : Addr) (x2 : Addr) : entryFrame m #[(.ref x0), (.ref x1), (.ref x2)] 3 = mkF m 0 #[.val (.ref x0), .val (.ref x1), .val (.ref x2)] [] := by first | (simp [entryFrame, mkF, argsToLocals, Value.category]; done) | rfl
theorem rmTL2 (l : Launch) (Z : State) (a0 : Array Value) (hw : HW a0 Z) (ws : List Jvm.Cond) (xa : Addr) (xb : Addr) (li : Addr) (h0 : Heap) (n0 : Nat) (Z0 : n0 ≤ h0.size) (_q : n0 ≤ li) (_t : Exa Z h0 li s_m) (_k : Fld Z h0 li s_m "e0" s_l .null) (_o : Fld Z h0 li s_m "e1" s_l .null) :
  Meets l Z mn_43 jdk_44_method_2_code 3 none ({ frames := 4, cells := 0, slots := 0, locals := 48 } : Room) ws #[(.ref li), (.ref xa), (.ref xb)] h0 (fun v h L => v = none ∧ Fr n0 L ∧ Keep h0 h [li] ∧ Exa Z h li s_m ∧ Fld Z h li s_m "e0" s_l (.ref xa) ∧ Fld Z h li s_m "e1" s_l (.ref xb)) := by
 refine Meets.of (plainFor_of_name pn_15) ?_
 intro p e s m _b _v c s₁ X0 hx hby hml _u hlk hnm hZ _a e0
 replace _a : s.vm.findClass s_m = some m.cls := _a
 have N0 := Fr.nil n0
 have K0 := Keep.refl h0 [li]
 refine Go.cast (ef_TL2 m li xa xb) ?_
 show Go p e s _b _ _ _ s₁ (mkF m 0 #[vR li, vR xa, vR xb] [])
 refine gs ?_ fun _ _k => XS.aloadN X0.here hx rfl (hb hby d57_0) rfl rfl _k
 show Go p e s _b _ _ _ s₁ (mkF m 1 #[vR li, vR xa, vR xb] [(.ref li)])
 refine Go.callC (b := li) (W := 0) (argsL := []) (rest := []) X0 hx hZ (y := mn_41) rfl _a (qw hw 308 rfl) (qw hw 309 rfl) (qw hw 312 rfl) (qw hw 313 rfl) (rmXL l Z a0 hw [] li h0 n0) e0 (by decide) (by rw [hml]; rfl) (lenOf pd0 rfl) (Nat.le_of_eq rfl) (hb hby d57_1) ?_
 intro T1 v1 L1 h1 e1 X1 hQ1
 obtain ⟨rfl, N1, E1⟩ := hQ1
 replace E1 := e1.trans E1
 have M1 := Fr.app N0 N1
 refine gs ?_ fun _ _k => XS.aloadN X1.here hx rfl (hb hby d57_4) rfl rfl _k
 refine gs ?_ fun _ _k => XS.aloadN X1.here hx rfl (hb hby d57_5) rfl rfl _k
 show Go p e s _b _ _ _ T1 (mkF m 6 #[vR li, vR xa, vR xb] [(.ref xa), (.ref li)])
 refine Go.callS (W := 1) (argsL := [(.ref xa)]) (rest := [(.ref li)]) X1 hx hZ _a (y := mn_39) (qw hw 322 rfl) (qw hw 323 rfl) (qw hw 324 rfl) (qw hw 325 rfl) (rmRQ l Z a0 hw [] xa h0 n0 (Nat.le_trans Z0 K0.1)) E1 (by decide) (by rw [hml]; rfl) (lenOf pd17 rfl) (Nat.le_of_eq rfl) (hb hby d57_6) ?_
 intro T2 v2 L2 h2 e2 X2 hQ2
 obtain ⟨rfl, N2, K2⟩ := hQ2
 have M2 := Fr.app M1 N2
 have _c := _k.ext K2
 have _f := _t.ext K2
 obtain ⟨T3, h3, X3, e3, W3, st3⟩ := putF X2 hx hZ _a (host := "") (Or.inl (qw hw 326 rfl)) Via.refl e2 _c _f (Or.inr ⟨(qw hw 327 rfl), rfl, hnm⟩) (qw hw 302 rfl) (ty := (.object s_e)) (by decide) rfl rfl (g := (mkF m 9 #[vR li, vR xa, vR xb] [(.ref xa), (.ref li)])) rfl rfl (hb hby d57_9)
 refine Go.st st3 ?_
 have _g : Fld Z h3 li s_m "e0" s_l (.ref xa) := _c.same W3
 have N3 := Fr.snoc X3 M2 _q
 refine gs ?_ fun _ _k => XS.aloadN X3.here hx rfl (hb hby d57_12) rfl rfl _k
 refine gs ?_ fun _ _k => XS.aloadN X3.here hx rfl (hb hby d57_13) rfl rfl _k
 show Go p e s _b _ _ _ T3 (mkF m 14 #[vR li, vR xa, vR xb] [(.ref xb), (.ref li)])
 have K_3 := (K0.ext K2).wr W3 (Or.inl (by simp))
 refine Go.callS (W := 1) (argsL := [(.ref xb)]) (rest := [(.ref li)]) X3 hx hZ _a (y := mn_39) (qw hw 322 rfl) (qw hw 323 rfl) (qw hw 324 rfl) (qw hw 325 rfl) (rmRQ l Z a0 hw [] xb h3 n0 (Nat.le_trans Z0 K_3.1)) e3 (by decide) (by rw [hml]; rfl) (lenOf pd17 rfl) (Nat.le_of_eq rfl) (hb hby d57_14) ?_
 intro T4 v4 L4 h4 e4 X4 hQ4
 obtain ⟨rfl, N4, K4⟩ := hQ4
 have M4 := Fr.app N3 N4
 have _d := ((_o.ext K2).other W3 (Or.inr (slot_ne (Or.inr (qw hw 330 rfl)) (Or.inr (qw hw 327 rfl)) (by decide) (t := (.object s_e)) (t' := (.object s_e)) (by decide) (by decide)))).ext K4
 have _h := (_f.wr W3).ext K4
 obtain ⟨T5, h5, X5, e5, W5, st5⟩ := putF X4 hx hZ _a (host := "") (Or.inl (qw hw 329 rfl)) Via.refl e4 _d _h (Or.inr ⟨(qw hw 330 rfl), rfl, hnm⟩) (qw hw 302 rfl) (ty := (.object s_e)) (by decide) rfl rfl (g := (mkF m 17 #[vR li, vR xa, vR xb] [(.ref xb), (.ref li)])) rfl rfl (hb hby d57_17)
 refine Go.st st5 ?_
 have _i : Fld Z h5 li s_m "e1" s_l (.ref xb) := _d.same W5
 have N5 := Fr.snoc X5 M4 _q
 show Go p e s _b _ _ _ T5 (mkF m 20 #[vR li, vR xa, vR xb] [])
 have K_5 := (K_3.ext K4).wr W5 (Or.inl (by simp))
 have _r := _h.wr W5
 have _j := (_g.ext K4).other W5 (Or.inr (slot_ne (Or.inr (qw hw 327 rfl)) (Or.inr (qw hw 330 rfl)) (by decide) (t := (.object s_e)) (t' := (.object s_e)) (by decide) (by decide)))
 exact Go.retV X5 hx hlk _u (hb hby d57_20) (by decide) (by decide) ⟨rfl, N5, (by rw [e5]; exact K_5), (by rw [e5]; exact _r), (by rw [e5]; exact _j), (by rw [e5]; exact _i)⟩
theorem d55_0 : decode bc55 0 = .ok (.aload_n 0, 1) := by decide +kernel
theorem d55_1 : decode bc55 1 = .ok (.invokespecial 1, 3) := by decide +kernel
theorem d55_4 : decode bc55 4 = .ok (.aload_n 0, 1) := by decide +kernel
theorem d55_5 : decode bc55 5 = .ok (.aload_n 1, 1) := by decide +kernel
theorem d55_6 : decode bc55 6 = .ok (.putfield 7, 3) := by decide +kernel
theorem d55_9 : decode bc55 9 = .ok (.aload_n 0, 1) := by decide +kernel
theorem d55_10 : decode bc55 10 = .ok (.iload_n 2, 1) := by decide +kernel
theorem d55_11 : decode bc55 11 = .ok (.putfield 13, 3) := by decide +kernel
theorem d55_14 : decode bc55 14 = .ok (.return_, 1) := by decide +kernel
theorem ef_TLN (m : MethodId) (x0 : Addr) (x1 : Addr) (x2 : Int32) : entryFrame m #[(.ref x0), (.ref x1), (.int x2)] 3 = mkF m 0 #[.val (.ref x0), .val (.ref x1), .val (.int x2)] [] := by first | (simp [entryFrame, mkF, argsToLocals, Value.category]; done) | rfl
theorem rmTLN (l : Launch) (Z : State) (a0 : Array Value) (hw : HW a0 Z) (ws : List Jvm.Cond) (ar : Addr) (li : Addr) (h0 : Heap) (n0 : Nat) (Z0 : n0 ≤ h0.size) (_k : n0 ≤ li) (_o : Exa Z h0 li s_s) (_b : Fld Z h0 li s_s "elements" s_k .null) (_d : Fld Z h0 li s_s "allowNulls" "Z" (.int 0)) :
  Meets l Z mn_44 jdk_45_method_1_code 3 none ({ frames := 4, cells := 0, slots := 0, locals := 48 } : Room) ws #[(.ref li), (.ref ar), (.int 0)] h0 (fun v h L => v = none ∧ Fr n0 L ∧ Keep h0 h [li] ∧ Exa Z h li s_s ∧ Fld Z h li s_s "elements" s_k (.ref ar) ∧ Fld Z h li s_s "allowNulls" "Z" (.int (nar .boolean (0 : Int32)))) := by
 refine Meets.of (plainFor_of_name pn_16) ?_
 intro p e s m _i _t c s₁ X0 hx hby hml _r hlk hnm hZ _h e0
 replace _h : s.vm.findClass s_s = some m.cls := _h
 have N0 := Fr.nil n0
 have K0 := Keep.refl h0 [li]
 refine Go.cast (ef_TLN m li ar (0 : Int32)) ?_
 show Go p e s _i _ _ _ s₁ (mkF m 0 #[vR li, vR ar, vI (0 : Int32)] [])
 refine gs ?_ fun _ _k => XS.aloadN X0.here hx rfl (hb hby d55_0) rfl rfl _k
 show Go p e s _i _ _ _ s₁ (mkF m 1 #[vR li, vR ar, vI (0 : Int32)] [(.ref li)])
 refine Go.callC (b := li) (W := 0) (argsL := []) (rest := []) X0 hx hZ (y := mn_41) rfl _h (qw hw 392 rfl) (qw hw 309 rfl) (qw hw 312 rfl) (qw hw 313 rfl) (rmXL l Z a0 hw [] li h0 n0) e0 (by decide) (by rw [hml]; rfl) (lenOf pd0 rfl) (Nat.le_of_eq rfl) (hb hby d55_1) ?_
 intro T1 v1 L1 h1 e1 X1 hQ1
 obtain ⟨rfl, N1, E1⟩ := hQ1
 replace E1 := e1.trans E1
 have M1 := Fr.app N0 N1
 refine gs ?_ fun _ _k => XS.aloadN X1.here hx rfl (hb hby d55_4) rfl rfl _k
 refine gs ?_ fun _ _k => XS.aloadN X1.here hx rfl (hb hby d55_5) rfl rfl _k
 obtain ⟨T2, h2, X2, e2, W2, st2⟩ := putF X1 hx hZ _h (host := "") (Or.inl (qw hw 396 rfl)) Via.refl E1 _b _o (Or.inr ⟨(qw hw 397 rfl), rfl, hnm⟩) (qw hw 386 rfl) (ty := (.array (.object s_e))) (by decide) rfl rfl (g := (mkF m 6 #[vR li, vR ar, vI (0 : Int32)] [(.ref ar), (.ref li)])) rfl rfl (hb hby d55_6)
 refine Go.st st2 ?_
 have _f : Fld Z h2 li s_s "elements" s_k (.ref ar) := _b.same W2
 have N2 := Fr.snoc X2 M1 _k
 refine gs ?_ fun _ _k => XS.aloadN X2.here hx rfl (hb hby d55_9) rfl rfl _k
 refine gs ?_ fun _ _k => XS.iloadN X2.here hx rfl (hb hby d55_10) rfl _k
 have _a := _d.other W2 (Or.inr (slot_ne (Or.inr (qw hw 399 rfl)) (Or.inr (qw hw 397 rfl)) (by decide) (t := .boolean) (t' := (.array (.object s_e))) (by decide) (by decide)))
 have _j := _o.wr W2
 obtain ⟨T3, h3, X3, e3, W3, st3⟩ := putFN X2 hx hZ _h (qw hw 398 rfl) Via.refl e2 _a _j (Or.inr ⟨(qw hw 399 rfl), rfl, hnm⟩) (qw hw 386 rfl) (ty := .boolean) (v' := (.int (nar .boolean (0 : Int32)))) (by decide) rfl (fits_nar_bool _) (g := (mkF m 11 #[vR li, vR ar, vI (0 : Int32)] [(.int 0), (.ref li)])) rfl rfl (hb hby d55_11)
 refine Go.st st3 ?_
 have _c : Fld Z h3 li s_s "allowNulls" "Z" (.int (nar .boolean (0 : Int32))) := _a.same W3
 have N3 := Fr.snoc X3 N2 _k
 show Go p e s _i _ _ _ T3 (mkF m 14 #[vR li, vR ar, vI (0 : Int32)] [])
 have K_3 := (K0.wr W2 (Or.inl (by simp))).wr W3 (Or.inl (by simp))
 have _q := _j.wr W3
 have _g := _f.other W3 (Or.inr (slot_ne (Or.inr (qw hw 397 rfl)) (Or.inr (qw hw 399 rfl)) (by decide) (t := (.array (.object s_e))) (t' := .boolean) (by decide) (by decide)))
 exact Go.retV X3 hx hlk _r (hb hby d55_14) (by decide) (by decide) ⟨rfl, N3, (by rw [e3]; exact K_3), (by rw [e3]; exact _q), (by rw [e3]; exact _g), (by rw [e3]; exact _c)⟩
theorem pd18 : parseMethodDescriptor "([Ljava/lang/Object;Z)V" = some ⟨[(.array (.object s_e)), .boolean], none⟩ := by decide +kernel
theorem d54_0 : decode bc54 0 = .ok (.aload_n 0, 1) := by decide +kernel
theorem d54_1 : decode bc54 1 = .ok (.arraylength, 1) := by decide +kernel
theorem d54_2 : decode bc54 2 = .ok (.anewarray 2, 3) := by decide +kernel
theorem d54_5 : decode bc54 5 = .ok (.astore_n 1, 1) := by decide +kernel
theorem d54_6 : decode bc54 6 = .ok (.iconst 0, 1) := by decide +kernel
theorem d54_7 : decode bc54 7 = .ok (.istore_n 2, 1) := by decide +kernel
theorem d54_8 : decode bc54 8 = .ok (.iload_n 2, 1) := by decide +kernel
theorem d54_9 : decode bc54 9 = .ok (.aload_n 0, 1) := by decide +kernel
theorem d54_10 : decode bc54 10 = .ok (.arraylength, 1) := by decide +kernel
theorem d54_11 : decode bc54 11 = .ok (.if_icmp .ge 18, 3) := by decide +kernel
theorem d54_14 : decode bc54 14 = .ok (.aload_n 1, 1) := by decide +kernel
theorem d54_15 : decode bc54 15 = .ok (.iload_n 2, 1) := by decide +kernel
theorem d54_16 : decode bc54 16 = .ok (.aload_n 0, 1) := by decide +kernel
theorem d54_17 : decode bc54 17 = .ok (.iload_n 2, 1) := by decide +kernel
theorem d54_18 : decode bc54 18 = .ok (.aaload, 1) := by decide +kernel
theorem d54_19 : decode bc54 19 = .ok (.invokestatic 37, 3) := by decide +kernel
theorem d54_22 : decode bc54 22 = .ok (.aastore, 1) := by decide +kernel
theorem d54_23 : decode bc54 23 = .ok (.iinc 2 1, 3) := by decide +kernel
theorem d54_26 : decode bc54 26 = .ok (.goto (-18), 3) := by decide +kernel
theorem d54_29 : decode bc54 29 = .ok (.new 12, 3) := by decide +kernel
theorem d54_32 : decode bc54 32 = .ok (.dup, 1) := by decide +kernel
theorem d54_33 : decode bc54 33 = .ok (.aload_n 1, 1) := by decide +kernel
theorem d54_34 : decode bc54 34 = .ok (.iconst 0, 1) := by decide +kernel
theorem d54_35 : decode bc54 35 = .ok (.invokespecial 43, 3) := by decide +kernel
theorem d54_38 : decode bc54 38 = .ok (.areturn, 1) := by decide +kernel
theorem ef_LFA (m : MethodId) (x0 : Addr) : entryFrame m #[(.ref x0)] 3 = mkF m 0 #[.val (.ref x0), .unset, .unset] [] := by first | (simp [entryFrame, mkF, argsToLocals, Value.category]; done) | rfl
theorem rmLFA (l : Launch) (Z : State) (a0 : Array Value) (hw : HW a0 Z) (ws : List Jvm.Cond) (va : Int32) (vb : Int32) (vc : Int32) (ar : Addr) (xa : Addr) (xb : Addr) (xc : Addr) (_S : ClassId) (h0 : Heap) (n0 : Nat) (Z0 : n0 ≤ h0.size) (_g : Arv Z h0 ar _S (.object s_e) (3 : Int32) [(.ref xa), (.ref xb), (.ref xc)] .null) (_T : Exa Z h0 xa s_i) (_M : Fld Z h0 xa s_i "value" "I" (.int va)) (_U : Exa Z h0 xb s_i) (_N : Fld Z h0 xb s_i "value" "I" (.int vb)) (_V : Exa Z h0 xc s_i) (_O : Fld Z h0 xc s_i "value" "I" (.int vc)) :
  Meets l Z mn_45 jdk_56_method_4_code 3 (some (.object s_y)) ({ frames := 5, cells := 2, slots := 5, locals := 63 } : Room) ws #[(.ref ar)] h0 (fun v h L => ∃ (b2 : Addr) (b16 : Addr) (k2 : ClassId), v = some (.ref b16) ∧ Fr n0 L ∧ Ext h0 h ∧ h0.size ≤ b2 ∧ h0.size ≤ b16 ∧ Arv Z h b2 k2 (.object s_e) (3 : Int32) [(.ref xa), (.ref xb), (.ref xc)] .null ∧ Exa Z h b16 s_s ∧ Fld Z h b16 s_s "elements" s_k (.ref b2) ∧ Fld Z h b16 s_s "allowNulls" "Z" (.int (nar .boolean (0 : Int32))) ∧ Ovr Z k2 s_e ∧ b2 ≠ b16) := by
 refine Meets.of (plainFor_of_name pn_17) ?_
 intro p e s m _b _ra c s₁ X0 hx hby hml _W hlk hnm hZ _a e0
 replace _a : s.vm.findClass s_u = some m.cls := _a
 have N0 := Fr.nil n0
 have Q0 := own_extR h0
 refine Go.cast (ef_LFA m ar) ?_
 show Go p e s _b _ _ _ s₁ (mkF m 0 #[vR ar, vU, vU] [])
 refine gs ?_ fun _ _k => XS.aloadN X0.here hx rfl (hb hby d54_0) rfl rfl _k
 obtain ⟨cl1, Ar1, q1, S1, M1, H1, G1⟩ := (id _g)
 refine Go.st (X0.arraylength hx (by rw [e0]; exact Ar1.1) (State.isArrayOf_alike hZ.alike Ar1.2.1) (g := (mkF m 1 #[vR ar, vU, vU] [(.ref ar)])) rfl rfl (hb hby d54_1)) ?_
 rw [len_of S1 M1]
 obtain ⟨T2, h2, k2, X2, e2, E2, A2, O2, st2⟩ := newR X0 hx hZ _a (qw hw 384 rfl) (qw hw 118 rfl) e0 (g := (mkF m 2 #[vR ar, vU, vU] [(.int 3)])) rfl (hb hby d54_2) rfl (by decide) (cap := 3) (by decide) (by decide) (by decide) (by decide)
 obtain ⟨b2, g2⟩ : ∃ z, z = h0.size := ⟨_, rfl⟩
 rw [← g2] at A2 st2
 have sz2 : h0.size ≤ b2 := Nat.le_trans Q0.1 (Nat.le_of_eq g2.symm)
 have gn2 : n0 ≤ b2 := Nat.le_trans Z0 sz2
 refine Go.st st2 ?_
 have _aa : Arv Z h2 b2 k2 (.object s_e) (3 : Int32) [.null, .null, .null] .null := (Arv.new A2 (by decide)).pad (pad_rep [] .null 3)
 refine gs ?_ fun _ _k => XS.astoreN X2.here hx rfl (hb hby d54_5) rfl rfl (l' := #[vR ar, vR b2, vU]) rfl _k
 refine gs ?_ fun _ _k => XT.iconstV X2.here hx rfl (0 : Int32) (hb hby d54_6) (by decide) _k
 refine gs ?_ fun _ _k => XS.istoreN X2.here hx rfl (hb hby d54_7) rfl (l' := #[vR ar, vR b2, vI (0 : Int32)]) rfl _k
 refine gs ?_ fun _ _k => XS.iloadN X2.here hx rfl (hb hby d54_8) rfl _k
 refine gs ?_ fun _ _k => XS.aloadN X2.here hx rfl (hb hby d54_9) rfl rfl _k
 have _h := _g.ext E2
 obtain ⟨cl3, Ar3, q3, S3, M3, H3, G3⟩ := (id _h)
 refine Go.st (X2.arraylength hx (by rw [e2]; exact Ar3.1) (State.isArrayOf_alike hZ.alike Ar3.2.1) (g := (mkF m 10 #[vR ar, vR b2, vI (0 : Int32)] [(.ref ar), (.int 0)])) rfl rfl (hb hby d54_10)) ?_
 rw [len_of S3 M3]
 refine gs ?_ fun _ _k => XS.icmpNo X2.here hx rfl (hb hby d54_11) rfl (tlt (by decide : (0 : Int32) < (3 : Int32))).2.1 _k
 refine gs ?_ fun _ _k => XS.aloadN X2.here hx rfl (hb hby d54_14) rfl rfl _k
 refine gs ?_ fun _ _k => XS.iloadN X2.here hx rfl (hb hby d54_15) rfl _k
 refine gs ?_ fun _ _k => XS.aloadN X2.here hx rfl (hb hby d54_16) rfl rfl _k
 refine gs ?_ fun _ _k => XS.iloadN X2.here hx rfl (hb hby d54_17) rfl _k
 obtain ⟨cl4, Ar4, q4, S4, M4, H4, G4⟩ := (id _h)
 have in4 : ¬ ((0 : Int32) < 0 ∨ cl4.slots.size ≤ ((0 : Int32)).toNatClampNeg) := inb_of S4 ⟨by decide, by decide⟩
 refine Go.st (X2.aaload hx (j := (0 : Int32)) (v := (.ref xa)) (by rw [e2]; exact Ar4.1) (State.isArrayOf_alike hZ.alike Ar4.2.1) rfl Ar4.2.2 in4 (Has.at H4 in4 rfl) (g := (mkF m 18 #[vR ar, vR b2, vI (0 : Int32)] [(.int 0), (.ref ar), (.int 0), (.ref b2)])) rfl rfl (hb hby d54_18)) ?_
 show Go p e s _b _ _ _ T2 (mkF m 19 #[vR ar, vR b2, vI (0 : Int32)] [(.ref xa), (.int 0), (.ref b2)])
 have Q_2 := own_extE Q0 E2
 refine Go.callS (W := 2) (argsL := [(.ref xa)]) (rest := [(.int 0), (.ref b2)]) X2 hx hZ _a (y := mn_39) (qw hw 385 rfl) (qw hw 323 rfl) (qw hw 324 rfl) (qw hw 325 rfl) (rmRQ l Z a0 hw [] xa h2 n0 (Nat.le_trans Z0 Q_2.1)) e2 (by decide) (by rw [hml]; rfl) (lenOf pd17 rfl) (Nat.le_of_eq rfl) (hb hby d54_19) ?_
 intro T5 v5 L5 h5 e5 X5 hQ5
 obtain ⟨rfl, N5, K5⟩ := hQ5
 have M5 := Fr.app N0 N5
 have _z := _aa.ext K5
 obtain ⟨cl6, Ar6, q6, S6, M6, H6, G6⟩ := (id _z)
 have in6 : ¬ ((0 : Int32) < 0 ∨ cl6.slots.size ≤ ((0 : Int32)).toNatClampNeg) := inb_of S6 ⟨by decide, by decide⟩
 have _A := (_T.ext E2).ext K5
 obtain ⟨T6, h6, X6, e6, W6, st6⟩ := stR X5 hx hZ e5 Ar6 (j := (0 : Int32)) in6 rfl (Sto.ofV Ar6 q6 O2 (Ins.of_exa _A (qw hw 267 rfl))) (g := (mkF m 22 #[vR ar, vR b2, vI (0 : Int32)] [(.ref xa), (.int 0), (.ref b2)])) rfl rfl (hb hby d54_22)
 refine Go.st st6 ?_
 have _B : Arv Z h6 b2 k2 (.object s_e) (3 : Int32) [(.ref xa), .null, .null] .null := Arv.set Ar6 q6 S6 M6 H6 G6 rfl W6 0 rfl (by simp)
 have N6 := Fr.snoc X6 M5 gn2
 refine gs ?_ fun _ _k => XS.iinc X6.here hx rfl (hb hby d54_23) rfl (l' := #[vR ar, vR b2, vI (1 : Int32)]) rfl _k
 refine gs ?_ fun _ _k => XS.goto X6.here hx rfl (pc0 := 26) (pc' := 8) rfl (hb hby d54_26) (by decide) (by decide) _k
 refine gs ?_ fun _ _k => XS.iloadN X6.here hx rfl (hb hby d54_8) rfl _k
 refine gs ?_ fun _ _k => XS.aloadN X6.here hx rfl (hb hby d54_9) rfl rfl _k
 have _i := (_h.ext K5).other W6 (Nat.ne_of_lt (Nat.lt_of_lt_of_le _g.lt sz2))
 obtain ⟨cl7, Ar7, q7, S7, M7, H7, G7⟩ := (id _i)
 refine Go.st (X6.arraylength hx (by rw [e6]; exact Ar7.1) (State.isArrayOf_alike hZ.alike Ar7.2.1) (g := (mkF m 10 #[vR ar, vR b2, vI (1 : Int32)] [(.ref ar), (.int 1)])) rfl rfl (hb hby d54_10)) ?_
 rw [len_of S7 M7]
 refine gs ?_ fun _ _k => XS.icmpNo X6.here hx rfl (hb hby d54_11) rfl (tlt (by decide : (1 : Int32) < (3 : Int32))).2.1 _k
 refine gs ?_ fun _ _k => XS.aloadN X6.here hx rfl (hb hby d54_14) rfl rfl _k
 refine gs ?_ fun _ _k => XS.iloadN X6.here hx rfl (hb hby d54_15) rfl _k
 refine gs ?_ fun _ _k => XS.aloadN X6.here hx rfl (hb hby d54_16) rfl rfl _k
 refine gs ?_ fun _ _k => XS.iloadN X6.here hx rfl (hb hby d54_17) rfl _k
 obtain ⟨cl8, Ar8, q8, S8, M8, H8, G8⟩ := (id _i)
 have in8 : ¬ ((1 : Int32) < 0 ∨ cl8.slots.size ≤ ((1 : Int32)).toNatClampNeg) := inb_of S8 ⟨by decide, by decide⟩
 refine Go.st (X6.aaload hx (j := (1 : Int32)) (v := (.ref xb)) (by rw [e6]; exact Ar8.1) (State.isArrayOf_alike hZ.alike Ar8.2.1) rfl Ar8.2.2 in8 (Has.at H8 in8 rfl) (g := (mkF m 18 #[vR ar, vR b2, vI (1 : Int32)] [(.int 1), (.ref ar), (.int 1), (.ref b2)])) rfl rfl (hb hby d54_18)) ?_
 show Go p e s _b _ _ _ T6 (mkF m 19 #[vR ar, vR b2, vI (1 : Int32)] [(.ref xb), (.int 1), (.ref b2)])
 have Q_6 := own_extW (own_extE Q_2 K5) W6 sz2
 refine Go.callS (W := 2) (argsL := [(.ref xb)]) (rest := [(.int 1), (.ref b2)]) X6 hx hZ _a (y := mn_39) (qw hw 385 rfl) (qw hw 323 rfl) (qw hw 324 rfl) (qw hw 325 rfl) (rmRQ l Z a0 hw [] xb h6 n0 (Nat.le_trans Z0 Q_6.1)) e6 (by decide) (by rw [hml]; rfl) (lenOf pd17 rfl) (Nat.le_of_eq rfl) (hb hby d54_19) ?_
 intro T9 v9 L9 h9 e9 X9 hQ9
 obtain ⟨rfl, N9, K9⟩ := hQ9
 have M9 := Fr.app N6 N9
 have _C := _B.ext K9
 obtain ⟨_ba, _k, q10, S10, M10, H10, G10⟩ := (id _C)
 have _ca : ¬ ((1 : Int32) < 0 ∨ _ba.slots.size ≤ ((1 : Int32)).toNatClampNeg) := inb_of S10 ⟨by decide, by decide⟩
 have _D := (((_U.ext E2).ext K5).wr W6).ext K9
 obtain ⟨T10, h10, X10, e10, W10, _da⟩ := stR X9 hx hZ e9 _k (j := (1 : Int32)) _ca rfl (Sto.ofV _k q10 O2 (Ins.of_exa _D (qw hw 267 rfl))) (g := (mkF m 22 #[vR ar, vR b2, vI (1 : Int32)] [(.ref xb), (.int 1), (.ref b2)])) rfl rfl (hb hby d54_22)
 refine Go.st _da ?_
 have _t : Arv Z h10 b2 k2 (.object s_e) (3 : Int32) [(.ref xa), (.ref xb), .null] .null := Arv.set _k q10 S10 M10 H10 G10 rfl W10 1 rfl (by simp)
 have N10 := Fr.snoc X10 M9 gn2
 refine gs ?_ fun _ _k => XS.iinc X10.here hx rfl (hb hby d54_23) rfl (l' := #[vR ar, vR b2, vI (2 : Int32)]) rfl _k
 refine gs ?_ fun _ _k => XS.goto X10.here hx rfl (pc0 := 26) (pc' := 8) rfl (hb hby d54_26) (by decide) (by decide) _k
 refine gs ?_ fun _ _k => XS.iloadN X10.here hx rfl (hb hby d54_8) rfl _k
 refine gs ?_ fun _ _k => XS.aloadN X10.here hx rfl (hb hby d54_9) rfl rfl _k
 have _d := (_i.ext K9).other W10 (Nat.ne_of_lt (Nat.lt_of_lt_of_le _g.lt sz2))
 obtain ⟨_ta, _E, q11, S11, M11, H11, G11⟩ := (id _d)
 refine Go.st (X10.arraylength hx (by rw [e10]; exact _E.1) (State.isArrayOf_alike hZ.alike _E.2.1) (g := (mkF m 10 #[vR ar, vR b2, vI (2 : Int32)] [(.ref ar), (.int 2)])) rfl rfl (hb hby d54_10)) ?_
 rw [len_of S11 M11]
 refine gs ?_ fun _ _k => XS.icmpNo X10.here hx rfl (hb hby d54_11) rfl (tlt (by decide : (2 : Int32) < (3 : Int32))).2.1 _k
 refine gs ?_ fun _ _k => XS.aloadN X10.here hx rfl (hb hby d54_14) rfl rfl _k
 refine gs ?_ fun _ _k => XS.iloadN X10.here hx rfl (hb hby d54_15) rfl _k
 refine gs ?_ fun _ _k => XS.aloadN X10.here hx rfl (hb hby d54_16) rfl rfl _k
 refine gs ?_ fun _ _k => XS.iloadN X10.here hx rfl (hb hby d54_17) rfl _k
 obtain ⟨_fa, _o, q12, S12, M12, H12, G12⟩ := (id _d)
 have _F : ¬ ((2 : Int32) < 0 ∨ _fa.slots.size ≤ ((2 : Int32)).toNatClampNeg) := inb_of S12 ⟨by decide, by decide⟩
 refine Go.st (X10.aaload hx (j := (2 : Int32)) (v := (.ref xc)) (by rw [e10]; exact _o.1) (State.isArrayOf_alike hZ.alike _o.2.1) rfl _o.2.2 _F (Has.at H12 _F rfl) (g := (mkF m 18 #[vR ar, vR b2, vI (2 : Int32)] [(.int 2), (.ref ar), (.int 2), (.ref b2)])) rfl rfl (hb hby d54_18)) ?_
 show Go p e s _b _ _ _ T10 (mkF m 19 #[vR ar, vR b2, vI (2 : Int32)] [(.ref xc), (.int 2), (.ref b2)])
 have _G := own_extW (own_extE Q_6 K9) W10 sz2
 refine Go.callS (W := 2) (argsL := [(.ref xc)]) (rest := [(.int 2), (.ref b2)]) X10 hx hZ _a (y := mn_39) (qw hw 385 rfl) (qw hw 323 rfl) (qw hw 324 rfl) (qw hw 325 rfl) (rmRQ l Z a0 hw [] xc h10 n0 (Nat.le_trans Z0 _G.1)) e10 (by decide) (by rw [hml]; rfl) (lenOf pd17 rfl) (Nat.le_of_eq rfl) (hb hby d54_19) ?_
 intro T13 v13 L13 h13 e13 X13 _ga
 obtain ⟨rfl, N13, K13⟩ := _ga
 have M13 := Fr.app N10 N13
 have _u := _t.ext K13
 obtain ⟨_ha, _q, q14, S14, M14, H14, G14⟩ := (id _u)
 have _ia : ¬ ((2 : Int32) < 0 ∨ _ha.slots.size ≤ ((2 : Int32)).toNatClampNeg) := inb_of S14 ⟨by decide, by decide⟩
 have _v := (((((_V.ext E2).ext K5).wr W6).ext K9).wr W10).ext K13
 obtain ⟨T14, h14, X14, e14, W14, _ja⟩ := stR X13 hx hZ e13 _q (j := (2 : Int32)) _ia rfl (Sto.ofV _q q14 O2 (Ins.of_exa _v (qw hw 267 rfl))) (g := (mkF m 22 #[vR ar, vR b2, vI (2 : Int32)] [(.ref xc), (.int 2), (.ref b2)])) rfl rfl (hb hby d54_22)
 refine Go.st _ja ?_
 have _j : Arv Z h14 b2 k2 (.object s_e) (3 : Int32) [(.ref xa), (.ref xb), (.ref xc)] .null := Arv.set _q q14 S14 M14 H14 G14 rfl W14 2 rfl (by simp)
 have N14 := Fr.snoc X14 M13 gn2
 refine gs ?_ fun _ _k => XS.iinc X14.here hx rfl (hb hby d54_23) rfl (l' := #[vR ar, vR b2, vI (3 : Int32)]) rfl _k
 refine gs ?_ fun _ _k => XS.goto X14.here hx rfl (pc0 := 26) (pc' := 8) rfl (hb hby d54_26) (by decide) (by decide) _k
 refine gs ?_ fun _ _k => XS.iloadN X14.here hx rfl (hb hby d54_8) rfl _k
 refine gs ?_ fun _ _k => XS.aloadN X14.here hx rfl (hb hby d54_9) rfl rfl _k
 have _w := (_d.ext K13).other W14 (Nat.ne_of_lt (Nat.lt_of_lt_of_le _g.lt sz2))
 obtain ⟨_ua, _H, q15, S15, M15, H15, G15⟩ := (id _w)
 refine Go.st (X14.arraylength hx (by rw [e14]; exact _H.1) (State.isArrayOf_alike hZ.alike _H.2.1) (g := (mkF m 10 #[vR ar, vR b2, vI (3 : Int32)] [(.ref ar), (.int 3)])) rfl rfl (hb hby d54_10)) ?_
 rw [len_of S15 M15]
 refine gs ?_ fun _ _k => XS.icmpYes X14.here hx rfl (pc0 := 11) (pc' := 29) rfl (hb hby d54_11) rfl (flt (by decide : ¬ ((3 : Int32) < (3 : Int32)))).2.1 (by decide) (by decide) _k
 obtain ⟨T16, h16, X16, e16, E16, A16, D16, -, _I⟩ := newO X14 hx hZ _a (qw hw 95 rfl) (qw hw 386 rfl) (qw hw 387 rfl) e14 (g := (mkF m 29 #[vR ar, vR b2, vI (3 : Int32)] [])) rfl (hb hby d54_29) (by decide) (by decide)
 obtain ⟨b16, g16⟩ : ∃ z, z = h14.size := ⟨_, rfl⟩
 rw [← g16] at A16 D16 _I
 have _J := own_extW (own_extE _G K13) W14 sz2
 have _r : h0.size ≤ b16 := Nat.le_trans _J.1 (Nat.le_of_eq g16.symm)
 have _ka : n0 ≤ b16 := Nat.le_trans Z0 _r
 refine Go.st _I ?_
 have _f : Fld Z h16 b16 s_s "elements" s_k .null := D16 (Or.inr (qw hw 397 rfl)) (ty := (.array (.object s_e))) (by decide)
 have _c : Fld Z h16 b16 s_s "allowNulls" "Z" (.int 0) := D16 (Or.inr (qw hw 399 rfl)) (ty := .boolean) (by decide)
 refine gs ?_ fun _ _k => XS.dup X16.here hx rfl (hb hby d54_32) rfl rfl _k
 refine gs ?_ fun _ _k => XS.aloadN X16.here hx rfl (hb hby d54_33) rfl rfl _k
 refine gs ?_ fun _ _k => XT.iconstV X16.here hx rfl (0 : Int32) (hb hby d54_34) (by decide) _k
 show Go p e s _b _ _ _ T16 (mkF m 35 #[vR ar, vR b2, vI (3 : Int32)] [(.int 0), (.ref b2), (.ref b16), (.ref b16)])
 have _K := own_extE _J E16
 refine Go.callCN (b := b16) (W := 1) (argsL := [(.ref b2), (.int 0)]) (rest := [(.ref b16)]) X16 hx hZ (y := mn_44) rfl _a (qw hw 388 rfl) (qw hw 389 rfl) (qw hw 387 rfl) (qw hw 391 rfl) (rmTLN l Z a0 hw [] b2 b16 h16 n0 (Nat.le_trans Z0 _K.1) _ka A16 _f _c) e16 (by decide) (by rw [hml]; rfl) (lenOf pd18 rfl) (Nat.le_of_eq rfl) (hb hby d54_35) ?_
 intro T17 v17 L17 h17 e17 X17 _oa
 obtain ⟨rfl, N17, K17, _P, _Q, _R⟩ := _oa
 have M17 := Fr.app N14 N17
 show Go p e s _b _ _ _ T17 (mkF m 38 #[vR ar, vR b2, vI (3 : Int32)] [(.ref b16)])
 have _L : b2 ≠ b16 := Nat.ne_of_lt (Nat.lt_of_lt_of_le (_j).lt (Nat.le_of_eq g16.symm))
 have _y := (_j.ext E16).keep K17 (ninS _L nin0)
 have _qa := own_extK _K K17 (allS _r all0)
 exact Go.retA X17 hx hlk _W rfl rfl (hb hby d54_38) (by decide) (by decide) ⟨b2, b16, k2, rfl, M17, (by rw [e17]; exact _qa), sz2, _r, (by rw [e17]; exact _y), (by rw [e17]; exact _P), (by rw [e17]; exact _Q), (by rw [e17]; exact _R), O2, _L⟩
theorem pd19 : parseMethodDescriptor "(Ljava/lang/Object;)V" = some ⟨[(.object s_e)], none⟩ := by decide +kernel
theorem d41_0 : decode bc41 0 = .ok (.aload_n 0, 1) := by decide +kernel
theorem d41_1 : decode bc41 1 = .ok (.arraylength, 1) := by decide +kernel
theorem d41_2 : decode bc41 2 = .ok (.tableswitch 57 0 2 #[26, 32, 43], 26) := by decide +kernel
theorem d41_34 : decode bc41 34 = .ok (.new 96, 3) := by decide +kernel
theorem d41_37 : decode bc41 37 = .ok (.dup, 1) := by decide +kernel
theorem d41_38 : decode bc41 38 = .ok (.aload_n 0, 1) := by decide +kernel
theorem d41_39 : decode bc41 39 = .ok (.iconst 0, 1) := by decide +kernel
theorem d41_40 : decode bc41 40 = .ok (.aaload, 1) := by decide +kernel
theorem d41_41 : decode bc41 41 = .ok (.invokespecial 98, 3) := by decide +kernel
theorem d41_44 : decode bc41 44 = .ok (.areturn, 1) := by decide +kernel
theorem ef_LOA1 (m : MethodId) (x0 : Addr) : entryFrame m #[(.ref x0)] 2 = mkF m 0 #[.val (.ref x0), .unset] [] := by first | (simp [entryFrame, mkF, argsToLocals, Value.category]; done) | rfl
theorem rmLOA1 (l : Launch) (Z : State) (a0 : Array Value) (hw : HW a0 Z) (ws : List Jvm.Cond) (xa : Addr) (em : Addr) (ar : Addr) (_h : ClassId) (h0 : Heap) (n0 : Nat) (Z0 : n0 ≤ h0.size) (ZN : Z.heap.size ≤ n0) (EZ : Ext Z.heap h0) (_f : Arv Z h0 ar _h (.object s_e) (1 : Int32) [(.ref xa)] .null) (SEM : Sta Z Z.heap s_u "EMPTY" s_l (.ref em)) :
  Meets l Z mn_46 jdk_40_method_47_code 2 (some (.object s_y)) ({ frames := 5, cells := 1, slots := 2, locals := 62 } : Room) ws #[(.ref ar)] h0 (fun v h L => ∃ (b2 : Addr), v = some (.ref b2) ∧ Fr n0 L ∧ Ext h0 h ∧ h0.size ≤ b2 ∧ Exa Z h b2 s_m ∧ Fld Z h b2 s_m "e0" s_l (.ref xa) ∧ Fld Z h b2 s_m "e1" s_l (.ref em)) := by
 refine Meets.of (plainFor_of_name pn_12) ?_
 intro p e s m _a _r c s₁ X0 hx hby hml _i hlk hnm hZ _b e0
 replace _b : s.vm.findClass s_y = some m.cls := _b
 have N0 := Fr.nil n0
 have Q0 := own_extR h0
 refine Go.cast (ef_LOA1 m ar) ?_
 show Go p e s _a _ _ _ s₁ (mkF m 0 #[vR ar, vU] [])
 refine gs ?_ fun _ _k => XS.aloadN X0.here hx rfl (hb hby d41_0) rfl rfl _k
 obtain ⟨cl1, Ar1, q1, S1, M1, H1, G1⟩ := (id _f)
 refine Go.st (X0.arraylength hx (by rw [e0]; exact Ar1.1) (State.isArrayOf_alike hZ.alike Ar1.2.1) (g := (mkF m 1 #[vR ar, vU] [(.ref ar)])) rfl rfl (hb hby d41_1)) ?_
 rw [len_of S1 M1]
 refine gs ?_ fun _ _k => XS.tswIn X0.here hx rfl (pc0 := 2) (pc' := 34) rfl (hb hby d41_2) rfl (by decide) rfl (by decide) (by decide) _k
 obtain ⟨T2, h2, X2, e2, E2, A2, D2, -, st2⟩ := newO X0 hx hZ _b (qw hw 301 rfl) (qw hw 302 rfl) (qw hw 303 rfl) e0 (g := (mkF m 34 #[vR ar, vU] [])) rfl (hb hby d41_34) (by decide) (by decide)
 obtain ⟨b2, g2⟩ : ∃ z, z = h0.size := ⟨_, rfl⟩
 rw [← g2] at A2 D2 st2
 have sz2 : h0.size ≤ b2 := Nat.le_trans Q0.1 (Nat.le_of_eq g2.symm)
 have gn2 : n0 ≤ b2 := Nat.le_trans Z0 sz2
 refine Go.st st2 ?_
 have _c : Fld Z h2 b2 s_m "e0" s_l .null := D2 (Or.inr (qw hw 327 rfl)) (ty := (.object s_e)) (by decide)
 have _d : Fld Z h2 b2 s_m "e1" s_l .null := D2 (Or.inr (qw hw 330 rfl)) (ty := (.object s_e)) (by decide)
 refine gs ?_ fun _ _k => XS.dup X2.here hx rfl (hb hby d41_37) rfl rfl _k
 refine gs ?_ fun _ _k => XS.aloadN X2.here hx rfl (hb hby d41_38) rfl rfl _k
 refine gs ?_ fun _ _k => XT.iconstV X2.here hx rfl (0 : Int32) (hb hby d41_39) (by decide) _k
 have _g := _f.ext E2
 obtain ⟨cl3, Ar3, q3, S3, M3, H3, G3⟩ := (id _g)
 have in3 : ¬ ((0 : Int32) < 0 ∨ cl3.slots.size ≤ ((0 : Int32)).toNatClampNeg) := inb_of S3 ⟨by decide, by decide⟩
 refine Go.st (X2.aaload hx (j := (0 : Int32)) (v := (.ref xa)) (by rw [e2]; exact Ar3.1) (State.isArrayOf_alike hZ.alike Ar3.2.1) rfl Ar3.2.2 in3 (Has.at H3 in3 rfl) (g := (mkF m 40 #[vR ar, vU] [(.int 0), (.ref ar), (.ref b2), (.ref b2)])) rfl rfl (hb hby d41_40)) ?_
 show Go p e s _a _ _ _ T2 (mkF m 41 #[vR ar, vU] [(.ref xa), (.ref b2), (.ref b2)])
 have Q_2 := own_extE Q0 E2
 have _j := own_extE EZ E2
 refine Go.callC (b := b2) (W := 1) (argsL := [(.ref xa)]) (rest := [(.ref b2)]) X2 hx hZ (y := mn_42) rfl _b (qw hw 304 rfl) (qw hw 305 rfl) (qw hw 303 rfl) (qw hw 307 rfl) (rmTL1 l Z a0 hw [] xa em b2 h2 n0 (Nat.le_trans Z0 Q_2.1) ZN _j gn2 A2 _c _d SEM) e2 (by decide) (by rw [hml]; rfl) (lenOf pd19 rfl) (Nat.le_of_eq rfl) (hb hby d41_41) ?_
 intro T4 v4 L4 h4 e4 X4 hQ4
 obtain ⟨rfl, N4, K4, _k, _o, _q⟩ := hQ4
 have M4 := Fr.app N0 N4
 show Go p e s _a _ _ _ T4 (mkF m 44 #[vR ar, vU] [(.ref b2)])
 have Q_4 := own_extK Q_2 K4 (allS sz2 all0)
 exact Go.retA X4 hx hlk _i rfl rfl (hb hby d41_44) (by decide) (by decide) ⟨b2, rfl, M4, (by rw [e4]; exact Q_4), sz2, (by rw [e4]; exact _k), (by rw [e4]; exact _o), (by rw [e4]; exact _q)⟩
theorem pd20 : parseMethodDescriptor "(Ljava/lang/Object;Ljava/lang/Object;)V" = some ⟨[(.object s_e), (.object s_e)], none⟩ := by decide +kernel
theorem d41_45 : decode bc41 45 = .ok (.new 96, 3) := by decide +kernel
theorem d41_48 : decode bc41 48 = .ok (.dup, 1) := by decide +kernel
theorem d41_49 : decode bc41 49 = .ok (.aload_n 0, 1) := by decide +kernel
theorem d41_50 : decode bc41 50 = .ok (.iconst 0, 1) := by decide +kernel
theorem d41_51 : decode bc41 51 = .ok (.aaload, 1) := by decide +kernel
theorem d41_52 : decode bc41 52 = .ok (.aload_n 0, 1) := by decide +kernel
theorem d41_53 : decode bc41 53 = .ok (.iconst 1, 1) := by decide +kernel
theorem d41_54 : decode bc41 54 = .ok (.aaload, 1) := by decide +kernel
theorem d41_55 : decode bc41 55 = .ok (.invokespecial 100, 3) := by decide +kernel
theorem d41_58 : decode bc41 58 = .ok (.areturn, 1) := by decide +kernel
theorem ef_LOA2 (m : MethodId) (x0 : Addr) : entryFrame m #[(.ref x0)] 2 = mkF m 0 #[.val (.ref x0), .unset] [] := by first | (simp [entryFrame, mkF, argsToLocals, Value.category]; done) | rfl
theorem rmLOA2 (l : Launch) (Z : State) (a0 : Array Value) (hw : HW a0 Z) (ws : List Jvm.Cond) (xa : Addr) (xb : Addr) (ar : Addr) (_h : ClassId) (h0 : Heap) (n0 : Nat) (Z0 : n0 ≤ h0.size) (_g : Arv Z h0 ar _h (.object s_e) (2 : Int32) [(.ref xa), (.ref xb)] .null) :
  Meets l Z mn_46 jdk_40_method_47_code 2 (some (.object s_y)) ({ frames := 5, cells := 1, slots := 2, locals := 63 } : Room) ws #[(.ref ar)] h0 (fun v h L => ∃ (b2 : Addr), v = some (.ref b2) ∧ Fr n0 L ∧ Ext h0 h ∧ h0.size ≤ b2 ∧ Exa Z h b2 s_m ∧ Fld Z h b2 s_m "e0" s_l (.ref xa) ∧ Fld Z h b2 s_m "e1" s_l (.ref xb)) := by
 refine Meets.of (plainFor_of_name pn_12) ?_
 intro p e s m _a _q c s₁ X0 hx hby hml _i hlk hnm hZ _b e0
 replace _b : s.vm.findClass s_y = some m.cls := _b
 have N0 := Fr.nil n0
 have Q0 := own_extR h0
 refine Go.cast (ef_LOA2 m ar) ?_
 show Go p e s _a _ _ _ s₁ (mkF m 0 #[vR ar, vU] [])
 refine gs ?_ fun _ _k => XS.aloadN X0.here hx rfl (hb hby d41_0) rfl rfl _k
 obtain ⟨cl1, Ar1, q1, S1, M1, H1, G1⟩ := (id _g)
 refine Go.st (X0.arraylength hx (by rw [e0]; exact Ar1.1) (State.isArrayOf_alike hZ.alike Ar1.2.1) (g := (mkF m 1 #[vR ar, vU] [(.ref ar)])) rfl rfl (hb hby d41_1)) ?_
 rw [len_of S1 M1]
 refine gs ?_ fun _ _k => XS.tswIn X0.here hx rfl (pc0 := 2) (pc' := 45) rfl (hb hby d41_2) rfl (by decide) rfl (by decide) (by decide) _k
 obtain ⟨T2, h2, X2, e2, E2, A2, D2, -, st2⟩ := newO X0 hx hZ _b (qw hw 301 rfl) (qw hw 302 rfl) (qw hw 303 rfl) e0 (g := (mkF m 45 #[vR ar, vU] [])) rfl (hb hby d41_45) (by decide) (by decide)
 obtain ⟨b2, g2⟩ : ∃ z, z = h0.size := ⟨_, rfl⟩
 rw [← g2] at A2 D2 st2
 have sz2 : h0.size ≤ b2 := Nat.le_trans Q0.1 (Nat.le_of_eq g2.symm)
 have gn2 : n0 ≤ b2 := Nat.le_trans Z0 sz2
 refine Go.st st2 ?_
 have _d : Fld Z h2 b2 s_m "e0" s_l .null := D2 (Or.inr (qw hw 327 rfl)) (ty := (.object s_e)) (by decide)
 have _f : Fld Z h2 b2 s_m "e1" s_l .null := D2 (Or.inr (qw hw 330 rfl)) (ty := (.object s_e)) (by decide)
 refine gs ?_ fun _ _k => XS.dup X2.here hx rfl (hb hby d41_48) rfl rfl _k
 refine gs ?_ fun _ _k => XS.aloadN X2.here hx rfl (hb hby d41_49) rfl rfl _k
 refine gs ?_ fun _ _k => XT.iconstV X2.here hx rfl (0 : Int32) (hb hby d41_50) (by decide) _k
 have _c := _g.ext E2
 obtain ⟨cl3, Ar3, q3, S3, M3, H3, G3⟩ := (id _c)
 have in3 : ¬ ((0 : Int32) < 0 ∨ cl3.slots.size ≤ ((0 : Int32)).toNatClampNeg) := inb_of S3 ⟨by decide, by decide⟩
 refine Go.st (X2.aaload hx (j := (0 : Int32)) (v := (.ref xa)) (by rw [e2]; exact Ar3.1) (State.isArrayOf_alike hZ.alike Ar3.2.1) rfl Ar3.2.2 in3 (Has.at H3 in3 rfl) (g := (mkF m 51 #[vR ar, vU] [(.int 0), (.ref ar), (.ref b2), (.ref b2)])) rfl rfl (hb hby d41_51)) ?_
 refine gs ?_ fun _ _k => XS.aloadN X2.here hx rfl (hb hby d41_52) rfl rfl _k
 refine gs ?_ fun _ _k => XT.iconstV X2.here hx rfl (1 : Int32) (hb hby d41_53) (by decide) _k
 obtain ⟨cl4, Ar4, q4, S4, M4, H4, G4⟩ := (id _c)
 have in4 : ¬ ((1 : Int32) < 0 ∨ cl4.slots.size ≤ ((1 : Int32)).toNatClampNeg) := inb_of S4 ⟨by decide, by decide⟩
 refine Go.st (X2.aaload hx (j := (1 : Int32)) (v := (.ref xb)) (by rw [e2]; exact Ar4.1) (State.isArrayOf_alike hZ.alike Ar4.2.1) rfl Ar4.2.2 in4 (Has.at H4 in4 rfl) (g := (mkF m 54 #[vR ar, vU] [(.int 1), (.ref ar), (.ref xa), (.ref b2), (.ref b2)])) rfl rfl (hb hby d41_54)) ?_
 show Go p e s _a _ _ _ T2 (mkF m 55 #[vR ar, vU] [(.ref xb), (.ref xa), (.ref b2), (.ref b2)])
 have Q_2 := own_extE Q0 E2
 refine Go.callC (b := b2) (W := 1) (argsL := [(.ref xa), (.ref xb)]) (rest := [(.ref b2)]) X2 hx hZ (y := mn_43) rfl _b (qw hw 410 rfl) (qw hw 411 rfl) (qw hw 303 rfl) (qw hw 412 rfl) (rmTL2 l Z a0 hw [] xa xb b2 h2 n0 (Nat.le_trans Z0 Q_2.1) gn2 A2 _d _f) e2 (by decide) (by rw [hml]; rfl) (lenOf pd20 rfl) (Nat.le_of_eq rfl) (hb hby d41_55) ?_
 intro T5 v5 L5 h5 e5 X5 hQ5
 obtain ⟨rfl, N5, K5, _j, _k, _o⟩ := hQ5
 have M5 := Fr.app N0 N5
 show Go p e s _a _ _ _ T5 (mkF m 58 #[vR ar, vU] [(.ref b2)])
 have Q_5 := own_extK Q_2 K5 (allS sz2 all0)
 exact Go.retA X5 hx hlk _i rfl rfl (hb hby d41_58) (by decide) (by decide) ⟨b2, rfl, M5, (by rw [e5]; exact Q_5), sz2, (by rw [e5]; exact _j), (by rw [e5]; exact _k), (by rw [e5]; exact _o)⟩
theorem pd21 : parseMethodDescriptor "([Ljava/lang/Object;)Ljava/util/List;" = some ⟨[(.array (.object s_e))], some (.object s_y)⟩ := by decide +kernel
theorem d41_59 : decode bc41 59 = .ok (.aload_n 0, 1) := by decide +kernel
theorem d41_60 : decode bc41 60 = .ok (.invokestatic 109, 3) := by decide +kernel
theorem d41_63 : decode bc41 63 = .ok (.areturn, 1) := by decide +kernel
theorem ef_LOA3 (m : MethodId) (x0 : Addr) : entryFrame m #[(.ref x0)] 2 = mkF m 0 #[.val (.ref x0), .unset] [] := by first | (simp [entryFrame, mkF, argsToLocals, Value.category]; done) | rfl
theorem rmLOA3 (l : Launch) (Z : State) (a0 : Array Value) (hw : HW a0 Z) (ws : List Jvm.Cond) (va : Int32) (vb : Int32) (vc : Int32) (ar : Addr) (xa : Addr) (xb : Addr) (xc : Addr) (_k : ClassId) (h0 : Heap) (n0 : Nat) (Z0 : n0 ≤ h0.size) (_o : Arv Z h0 ar _k (.object s_e) (3 : Int32) [(.ref xa), (.ref xb), (.ref xc)] .null) (_w : Exa Z h0 xa s_i) (_c : Fld Z h0 xa s_i "value" "I" (.int va)) (_y : Exa Z h0 xb s_i) (_d : Fld Z h0 xb s_i "value" "I" (.int vb)) (_z : Exa Z h0 xc s_i) (_f : Fld Z h0 xc s_i "value" "I" (.int vc)) :
  Meets l Z mn_46 jdk_40_method_47_code 2 (some (.object s_y)) ({ frames := 6, cells := 2, slots := 5, locals := 77 } : Room) ws #[(.ref ar)] h0 (fun v h L => ∃ (_b : Addr) (_a : Addr) (_g : ClassId), v = some (.ref _a) ∧ Fr n0 L ∧ Ext h0 h ∧ h0.size ≤ _b ∧ h0.size ≤ _a ∧ Arv Z h _b _g (.object s_e) (3 : Int32) [(.ref xa), (.ref xb), (.ref xc)] .null ∧ Exa Z h _a s_s ∧ Fld Z h _a s_s "elements" s_k (.ref _b) ∧ Fld Z h _a s_s "allowNulls" "Z" (.int (nar .boolean (0 : Int32))) ∧ Ovr Z _g s_e ∧ _b ≠ _a) := by
 refine Meets.of (plainFor_of_name pn_12) ?_
 intro p e s m _h _F c s₁ X0 hx hby hml _A hlk hnm hZ _i e0
 replace _i : s.vm.findClass s_y = some m.cls := _i
 have N0 := Fr.nil n0
 have Q0 := own_extR h0
 refine Go.cast (ef_LOA3 m ar) ?_
 show Go p e s _h _ _ _ s₁ (mkF m 0 #[vR ar, vU] [])
 refine gs ?_ fun _ _k => XS.aloadN X0.here hx rfl (hb hby d41_0) rfl rfl _k
 obtain ⟨cl1, Ar1, q1, S1, M1, H1, G1⟩ := (id _o)
 refine Go.st (X0.arraylength hx (by rw [e0]; exact Ar1.1) (State.isArrayOf_alike hZ.alike Ar1.2.1) (g := (mkF m 1 #[vR ar, vU] [(.ref ar)])) rfl rfl (hb hby d41_1)) ?_
 rw [len_of S1 M1]
 refine gs ?_ fun _ _k => XS.tswOut X0.here hx rfl (pc0 := 2) (pc' := 59) rfl (hb hby d41_2) rfl (by decide) (by decide) (by decide) _k
 refine gs ?_ fun _ _k => XS.aloadN X0.here hx rfl (hb hby d41_59) rfl rfl _k
 show Go p e s _h _ _ _ s₁ (mkF m 60 #[vR ar, vU] [(.ref ar)])
 refine Go.callS (W := 0) (argsL := [(.ref ar)]) (rest := []) X0 hx hZ _i (y := mn_45) (qw hw 381 rfl) (qw hw 382 rfl) (qw hw 88 rfl) (qw hw 383 rfl) (rmLFA l Z a0 hw [] va vb vc ar xa xb xc _k h0 n0 (Nat.le_trans Z0 Q0.1) _o _w _c _y _d _z _f) e0 (by decide) (by rw [hml]; rfl) (lenOf pd21 rfl) (Nat.le_of_eq rfl) (hb hby d41_60) ?_
 intro T2 v2 L2 h2 e2 X2 hQ2
 obtain ⟨_b, _a, _g, rfl, N2, K2, _r, _t, _B, _C, _D, _E, _u, _v⟩ := hQ2
 have M2 := Fr.app N0 N2
 have _q : h0.size ≤ _b := Nat.le_trans Q0.1 _r
 have _j : h0.size ≤ _a := Nat.le_trans Q0.1 _t
 show Go p e s _h _ _ _ T2 (mkF m 63 #[vR ar, vU] [(.ref _a)])
 have Q_2 := own_extE Q0 K2
 exact Go.retA X2 hx hlk _A rfl rfl (hb hby d41_63) (by decide) (by decide) ⟨_b, _a, _g, rfl, M2, (by rw [e2]; exact Q_2), _q, _j, (by rw [e2]; exact _B), (by rw [e2]; exact _C), (by rw [e2]; exact _D), (by rw [e2]; exact _E), _u, _v⟩
section OwnCopy
open Jvm.Free.CopyOfC
theorem own_cb2 : jdk_65_method_119_code = copy2B := rfl
theorem own_cb3 : jdk_65_method_120_code = copy3B := rfl
theorem own_cbm : jdk_29_method_69_code = Jvm.Lib.Math.min.code := rfl
theorem own_tab3 {Z s : State} {a0 a : Array Value} (hw : ∀ d ∈ tables_1, d.before a0 Z = true) (hZ : Z.Warmed39 s.vm) : Copy3.tab.before a s = true := by
  refine (conj_holds (args := a) (first := s) (o := none) (s := s) (idx := []) _ _).mpr ⟨by rw [← own_cb3]; exact mvT (args := a) hZ (qw hw 288 rfl), fun d hd => ?_⟩
  simp only [List.mem_cons, List.not_mem_nil, or_false] at hd
  rcases hd with rfl | rfl | rfl | rfl | rfl | rfl | rfl | rfl | rfl | rfl | rfl
  · exact mvT (args := a) hZ (qw hw 290 rfl)
  · exact Cond.arrayOver_alike hZ.alike (qw hw 118 rfl)
  · exact mvT (args := a) hZ (qw hw 291 rfl)
  · exact mvT (args := a) hZ (qw hw 292 rfl)
  · exact mvT (args := a) hZ (qw hw 264 rfl)
  · rw [← own_cbm]; exact mvT (args := a) hZ (qw hw 293 rfl)
  · exact mvT (args := a) hZ (qw hw 294 rfl)
  · exact mvT (args := a) hZ (qw hw 297 rfl)
  · exact mvT (args := a) hZ (qw hw 295 rfl)
  · exact mvT (args := a) hZ (qw hw 296 rfl)
  · exact mvT (args := a) hZ (qw hw 289 rfl)
theorem own_tab2 {Z s : State} {a0 a : Array Value} (hw : ∀ d ∈ tables_1, d.before a0 Z = true) (hZ : Z.Warmed39 s.vm) : Copy2.tab.before a s = true := by
  refine (conj_holds (args := a) (first := s) (o := none) (s := s) (idx := []) _ _).mpr ⟨by rw [← own_cb2]; exact mvT (args := a) hZ (qw hw 279 rfl), fun d hd => ?_⟩
  simp only [Copy2.siteAtoms, List.cons_append, List.nil_append, List.mem_cons, List.not_mem_nil, or_false] at hd
  rcases hd with rfl | rfl | rfl | rfl | rfl | rfl | rfl | rfl | rfl
  · exact mvT (args := a) hZ (qw hw 280 rfl)
  · exact mvT (args := a) hZ (qw hw 281 rfl)
  · exact mvT (args := a) hZ (qw hw 283 rfl)
  · exact mvT (args := a) hZ (qw hw 282 rfl)
  · exact mvT (args := a) hZ (qw hw 284 rfl)
  · exact mvT (args := a) hZ (qw hw 286 rfl)
  · exact mvT (args := a) hZ (qw hw 287 rfl)
  · exact mvT (args := a) hZ (qw hw 278 rfl)
  · exact own_tab3 hw hZ
theorem rmCP (l : Launch) (Z : State) (a0 : Array Value) (hw : HW a0 Z) (ws : List Jvm.Cond) (orr : Addr) (k : ClassId) (nn : Nat) (vs : List Value) (h0 : Heap) (n0 : Nat) (h1 : nn ≤ 10)
    (V : Arv Z h0 orr k (.object s_e) (10 : Int32) vs .null) (E : Exa Z h0 orr s_k) (HE : ∀ i, i < 10 → vs.getD i .null = .null ∨ ∃ x, vs.getD i .null = .ref x ∧ Exa Z h0 x s_i)
    (MM : ∃ (c : ClassId) (kk : Class) (mi : Addr), Z.vm.findClass s_k = some c ∧ Z.vm.classes[c]? = some kk ∧ kk.mirror = some mi) :
    Meets l Z mn_47 jdk_65_method_119_code 2 (some (.array (.object s_e))) ({ frames := 3, cells := 1, slots := 10, locals := 64 } : Room) ws #[.ref orr, .int (Int32.ofNat nn)] h0 (fun v h L => ∃ (x : Addr) (k' : ClassId), v = some (.ref x) ∧ Fr n0 L ∧ Ext h0 h ∧ h0.size ≤ x ∧ Arv Z h x k' (.object s_e) (Int32.ofNat nn) (vs.take nn) .null) := by
  intro p e ha hc hk s m args _b hf _c hP hK
  obtain ⟨rfl, hZ, hh⟩ := hP
  obtain ⟨a1, a2, a3, a4, a5, a6, a7, a8⟩ := (Spec.appliesLoose_iff hf).mp _c
  have hal := hZ.alike
  obtain ⟨cc, A, q1, S, M, H, G⟩ := V
  obtain ⟨_a, kk, e1, e2, e3, e4, -⟩ := E
  have ec : _a = cc := Option.some.inj (e1.symm.trans A.1)
  subst ec
  obtain ⟨cM, kM, mi, m1, m2, m3⟩ := MM
  have eM : cM = _a.cls := Option.some.inj (m1.symm.trans e2)
  subst eM
  obtain ⟨_d, cO, kO, o1, o2, o3, o4, o5⟩ := Cond.arrayOver_spec (qw hw 118 rfl)
  have eO : cO = _a.cls := Option.some.inj (o5.symm.trans e2)
  subst eO
  have eK : kM = kO := Option.some.inj (m2.symm.trans o3)
  subst eK
  obtain ⟨kO', y1, y2⟩ := hal.2.2 _ _ o3
  obtain ⟨kc, z1, -⟩ := Vm.findClass_spec o1
  obtain ⟨kc', z2, -⟩ := hal.2.2 _ _ z1
  have hti : (Int32.ofNat nn).toInt = (nn : Int) := Int32.toInt_ofNat_small (by omega)
  have hcl : (Int32.ofNat nn).toNatClampNeg = nn := by show (Int32.ofNat nn).toInt.toNat = _; rw [hti]; rfl
  have hsz : _a.slots.size = 10 := S
  obtain ⟨cI, cT, i1, i2, i3⟩ := Cond.castable_spec (qw hw 267 rfl)
  have eT : cT = _d := Option.some.inj (i2.symm.trans o1)
  subst eT
  have hst : ∀ q, _a.vm ≠ .statics q := fun q z => by
    rw [z] at e4
    cases e4
  have hel : ∀ i : Nat, i < _a.slots.size → ∃ v, _a.slots[i]? = some v ∧ (v = .null ∨ ∃ (a : Addr) (c : Cell), v = .ref a ∧ s.heap[a]? = some c ∧ (∀ q, c.vm ≠ .statics q) ∧ (∃ k, s.vm.classes[c.cls]? = some k) ∧ s.vm.assignable c.cls cT = true) := fun i hi => by
    refine ⟨_, H i hi, ?_⟩
    have hi' : i < 10 := by rw [hsz] at hi; exact hi
    rcases HE i hi' with q | ⟨x, q, cx, kx, x1, x2, x3, x4, -⟩
    · exact Or.inl q
    · obtain ⟨kx', w1, -⟩ := hal.2.2 _ _ x3
      have ex : cI = cx.cls := Option.some.inj (i1.symm.trans x2)
      refine Or.inr ⟨x, cx, q, by rw [hh]; exact x1, fun z zz => ?_, ⟨kx', w1⟩, by rw [hal.assignable, ← ex]; exact i3⟩
      rw [zz] at x4
      cases x4
  have hP3 : Copy3.P 10 ⟨orr, _a, Int32.ofNat nn, mi, _a.cls, cT, m.cls⟩ #[.ref orr, .int (Int32.ofNat nn), .ref mi] s :=
    ⟨rfl, (by rw [hh]; exact e1), A.2.2, hst, ⟨kO', cT, _, y1, (by rw [y2]; exact o4), rfl⟩, (by rw [hal.findClass]; exact e2), ⟨kO', y1, (by rw [y2]; exact o4), (by rw [y2]; exact m3)⟩, (by rw [hal.findClass]; exact o1), ⟨kc', z2⟩, findClass_of_methodNamed a4, (by show 0 ≤ (Int32.ofNat nn).toInt; rw [hti]; omega), (by show (Int32.ofNat nn).toNatClampNeg ≤ 10; rw [hcl]; exact h1), (by show (Int32.ofNat nn).toNatClampNeg * 4 ≤ 536870912; rw [hcl]; omega), (by show _a.slots.size < 2 ^ 31; rw [hsz]; decide), hel⟩
  obtain ⟨N, o, g1, g2, g3, hQ1, hQ2, hQ3⟩ := Copy2.gets l 10 ⟨orr, _a, Int32.ofNat nn, mi, _a.cls, cT, m.cls⟩ p e ha hc hk s m _ _b hf
    ((Spec.appliesLoose_iff (S := Copy2.spec 10) hf).mpr ⟨a1, a2, a3, a4, a5, a6, a7, by simp only [Copy2.spec, Cond.before_and, Bool.and_eq_true]; exact ⟨rfl, own_tab2 hw hZ⟩⟩)
    ⟨rfl, hP3, notFace_of_selects (args := #[]) (mvT hZ (qw hw 283 rfl)), rfl⟩ hK
  subst hQ1
  have hmn : Copy3.mn ⟨orr, _a, Int32.ofNat nn, mi, _a.cls, cT, m.cls⟩ = Int32.ofNat nn := by
    show (if Int32.ofNat nn < _a.slots.size.toInt32 then Int32.ofNat nn else _a.slots.size.toInt32) = _
    split
    · rfl
    · rename_i hlt
      have hs : (Int32.ofNat _a.slots.size).toInt = (_a.slots.size : Int) := Int32.toInt_ofNat_small (by omega)
      have : ¬ (nn : Int) < (_a.slots.size : Int) := fun h => hlt (by show Int32.ofNat nn < Int32.ofNat _a.slots.size; rw [Int32.lt_iff_toInt_lt, hti, hs]; exact h)
      have e' : _a.slots.size = nn := by omega
      show Int32.ofNat _a.slots.size = _
      rw [e']
  rw [hmn] at hQ2
  have hE : Ext h0 (stepsAlone p.tables e N s).heap := by
    refine ⟨?_, fun y cy hy => hQ3.2.2.kept_nil (by rw [hh]; exact hy)⟩
    have := (Array.getElem?_eq_some_iff.mp hQ2).1
    rw [hh] at this
    exact Nat.le_of_lt this
  refine ⟨N, _, g1, g2, g3, _, [], rfl, ⟨s.heap.size, _a.cls, rfl, Fr.nil n0, hE, Nat.le_of_eq (congrArg Array.size hh.symm), ?_⟩, hQ3.1, hQ3.2.1, hQ3.2.2.mono (Nat.le_refl _) (by show (Int32.ofNat nn).toNatClampNeg ≤ 10; rw [hcl]; exact h1)⟩
  have hfr : (Copy3.fresh ⟨orr, _a, Int32.ofNat nn, mi, _a.cls, cT, m.cls⟩).slots.size = nn := by show (Array.replicate (Int32.ofNat nn).toNatClampNeg Value.null).size = nn; rw [Array.size_replicate, hcl]
  obtain ⟨f1, f2, f3⟩ := Jvm.Free.SB.copied_facts _a (Copy3.fresh ⟨orr, _a, Int32.ofNat nn, mi, _a.cls, cT, m.cls⟩) 0 0 (Int32.ofNat nn)
  have hat : ∀ j, j < nn → (copied _a (Copy3.fresh ⟨orr, _a, Int32.ofNat nn, mi, _a.cls, cT, m.cls⟩) 0 0 (Int32.ofNat nn)).slots[j]? = some ((vs.take nn).getD j .null) := fun j hj => by
    have := Jvm.Free.SBG.copied_at (cs := _a) (cd := Copy3.fresh ⟨orr, _a, Int32.ofNat nn, mi, _a.cls, cT, m.cls⟩) (p := 0) (n := nn) (by decide) (by omega) (by rw [hfr]; omega) j
    rw [show (Int32.ofNat 0) = 0 from rfl] at this
    rw [this, if_pos ⟨Nat.zero_le _, by omega⟩]
    have hj' : j < _a.slots.size := by omega
    have h2 := H j hj'
    have h3 : _a.slots.getD j .null = vs.getD j .null := by rw [Array.getD_eq_getD_getElem?, h2]; rfl
    have h4 : (vs.take nn).getD j .null = vs.getD j .null := by simp [List.getD_eq_getElem?_getD, List.getElem?_take, hj]
    rw [Nat.sub_zero, h3, h4]
  refine ⟨_, ⟨hQ2, ⟨(fun q z => by rw [f2] at z; cases z), kM, (by rw [f1]; exact o3), cT, o4⟩, (fun z => by rw [f2] at z; cases z)⟩, f1, ?_, ?_, fun j hj => hat j (by rw [f3, hfr] at hj; exact hj), fun j hj => ?_⟩
  · rw [f3, hfr, hcl]
  · rw [Int32.lt_iff_toInt_lt, hti]; have : (0 : Int32).toInt = 0 := rfl; omega
  · rw [f3, hfr] at hj
    have h4 : (vs.take nn).getD j .null = vs.getD j .null := by simp [List.getD_eq_getElem?_getD, List.getElem?_take, hj]
    rw [h4]
    rcases HE j (by omega) with q | ⟨x, q, -⟩ <;> rw [q] <;> rfl
end OwnCopy

theorem pd22 : parseMethodDescriptor "([Ljava/lang/Object;I)[Ljava/lang/Object;" = some ⟨[(.array (.object s_e)), .int], some (.array (.object s_e))⟩ := by decide +kernel
theorem d37_0 : decode bc37 0 = .ok (.aload_n 0, 1) := by decide +kernel
theorem d37_1 : decode bc37 1 = .ok (.getfield 9, 3) := by decide +kernel
theorem d37_4 : decode bc37 4 = .ok (.aload_n 0, 1) := by decide +kernel
theorem d37_5 : decode bc37 5 = .ok (.getfield 48, 3) := by decide +kernel
theorem d37_8 : decode bc37 8 = .ok (.invokestatic 66, 3) := by decide +kernel
theorem d37_11 : decode bc37 11 = .ok (.areturn, 1) := by decide +kernel
theorem ef_TA1 (m : MethodId) (x0 : Addr) : entryFrame m #[(.ref x0)] 1 = mkF m 0 #[.val (.ref x0)] [] := by first | (simp [entryFrame, mkF, argsToLocals, Value.category]; done) | rfl
theorem rmTA1 (l : Launch) (Z : State) (a0 : Array Value) (hw : HW a0 Z) (ws : List Jvm.Cond) (va : Int32) (al : Addr) (ed : Addr) (xa : Addr) (_f : ClassId) (h0 : Heap) (n0 : Nat) (Z0 : n0 ≤ h0.size) (_r : Exa Z h0 al s_g) (_a : Fld Z h0 al s_g s_w s_k (.ref ed)) (_d : Fld Z h0 al s_g "size" "I" (.int 1)) (_h : Arv Z h0 ed _f (.object s_e) (10 : Int32) [(.ref xa), .null, .null, .null, .null, .null, .null, .null, .null, .null] .null) (_t : Ovr Z _f s_e) (_i : Exa Z h0 ed s_k) (_j : Exa Z h0 xa s_i) (_g : Fld Z h0 xa s_i "value" "I" (.int va)) (MM : ∃ (c : ClassId) (kk : Class) (mi : Addr), Z.vm.findClass s_k = some c ∧ Z.vm.classes[c]? = some kk ∧ kk.mirror = some mi) :
  Meets l Z mn_48 jdk_38_method_16_code 1 (some (.array (.object s_e))) ({ frames := 4, cells := 1, slots := 10, locals := 77 } : Room) ws #[(.ref al)] h0 (fun v h L => ∃ (x4 : Addr) (k4 : ClassId), v = some (.ref x4) ∧ Fr n0 L ∧ Ext h0 h ∧ h0.size ≤ x4 ∧ Arv Z h x4 k4 (.object s_e) (1 : Int32) [(.ref xa)] .null) := by
 refine Meets.of (plainFor_of_name pn_11) ?_
 intro p e s m _c _u c s₁ X0 hx hby hml _k hlk hnm hZ _b e0
 replace _b : s.vm.findClass s_g = some m.cls := _b
 have N0 := Fr.nil n0
 have Q0 := own_extR h0
 refine Go.cast (ef_TA1 m al) ?_
 show Go p e s _c _ _ _ s₁ (mkF m 0 #[vR al] [])
 refine gs ?_ fun _ _k => XS.aloadN X0.here hx rfl (hb hby d37_0) rfl rfl _k
 obtain ⟨T1, X1, e1, st1⟩ := getF X0 hx hZ _b (host := "") (Or.inl (qw hw 72 rfl)) Via.refl e0 _a (g := (mkF m 1 #[vR al] [(.ref al)])) rfl rfl (hb hby d37_1)
 refine Go.st st1 ?_
 refine gs ?_ fun _ _k => XS.aloadN X1.here hx rfl (hb hby d37_4) rfl rfl _k
 obtain ⟨T2, X2, e2, st2⟩ := getF X1 hx hZ _b (host := "") (Or.inl (qw hw 105 rfl)) Via.refl e1 _d (g := (mkF m 5 #[vR al] [(.ref al), (.ref ed)])) rfl rfl (hb hby d37_5)
 refine Go.st st2 ?_
 show Go p e s _c _ _ _ T2 (mkF m 8 #[vR al] [(.int 1), (.ref ed)])
 have HE3 : ∀ i, i < 10 → ([(.ref xa), .null, .null, .null, .null, .null, .null, .null, .null, .null] : List Value).getD i .null = .null ∨ ∃ x, ([(.ref xa), .null, .null, .null, .null, .null, .null, .null, .null, .null] : List Value).getD i .null = .ref x ∧ Exa Z h0 x s_i := by
  intro i hi
  match i, hi with
  | 0, _ => exact Or.inr ⟨_, rfl, _j⟩
  | 1, _ => exact Or.inl rfl
  | 2, _ => exact Or.inl rfl
  | 3, _ => exact Or.inl rfl
  | 4, _ => exact Or.inl rfl
  | 5, _ => exact Or.inl rfl
  | 6, _ => exact Or.inl rfl
  | 7, _ => exact Or.inl rfl
  | 8, _ => exact Or.inl rfl
  | 9, _ => exact Or.inl rfl
  | q + 10, hi => exact absurd hi (by omega)
 refine Go.callS (W := 0) (argsL := [(.ref ed), (.int 1)]) (rest := []) X2 hx hZ _b (y := mn_47) (qw hw 276 rfl) (qw hw 277 rfl) (qw hw 278 rfl) (qw hw 279 rfl) (rmCP l Z a0 hw [] ed _f 1 [(.ref xa), .null, .null, .null, .null, .null, .null, .null, .null, .null] h0 n0 (by decide) _h _i HE3 MM) e2 (by decide) (by rw [hml]; rfl) (lenOf pd22 rfl) (Nat.le_of_eq rfl) (hb hby d37_8) ?_
 intro T4 v4 L4 h4 e4 X4 hQ4
 obtain ⟨x4, k4, rfl, N4, E4, g4, V4⟩ := hQ4
 have M4 := Fr.app N0 N4
 have _o : h0.size ≤ x4 := Nat.le_trans Q0.1 g4
 have _q : Arv Z h4 x4 k4 (.object s_e) (1 : Int32) [(.ref xa)] .null := V4
 show Go p e s _c _ _ _ T4 (mkF m 11 #[vR al] [(.ref x4)])
 have Q_4 := own_extE Q0 E4
 exact Go.retA X4 hx hlk _k rfl rfl (hb hby d37_11) (by decide) (by decide) ⟨x4, k4, rfl, M4, (by rw [e4]; exact Q_4), _o, (by rw [e4]; exact _q)⟩
theorem ef_TA2 (m : MethodId) (x0 : Addr) : entryFrame m #[(.ref x0)] 1 = mkF m 0 #[.val (.ref x0)] [] := by first | (simp [entryFrame, mkF, argsToLocals, Value.category]; done) | rfl
theorem rmTA2 (l : Launch) (Z : State) (a0 : Array Value) (hw : HW a0 Z) (ws : List Jvm.Cond) (va : Int32) (vb : Int32) (al : Addr) (ed : Addr) (xa : Addr) (xb : Addr) (_f : ClassId) (h0 : Heap) (n0 : Nat) (Z0 : n0 ≤ h0.size) (_u : Exa Z h0 al s_g) (_a : Fld Z h0 al s_g s_w s_k (.ref ed)) (_d : Fld Z h0 al s_g "size" "I" (.int 2)) (_i : Arv Z h0 ed _f (.object s_e) (10 : Int32) [(.ref xa), (.ref xb), .null, .null, .null, .null, .null, .null, .null, .null] .null) (_v : Ovr Z _f s_e) (_j : Exa Z h0 ed s_k) (_k : Exa Z h0 xa s_i) (_g : Fld Z h0 xa s_i "value" "I" (.int va)) (_o : Exa Z h0 xb s_i) (_h : Fld Z h0 xb s_i "value" "I" (.int vb)) (MM : ∃ (c : ClassId) (kk : Class) (mi : Addr), Z.vm.findClass s_k = some c ∧ Z.vm.classes[c]? = some kk ∧ kk.mirror = some mi) :
  Meets l Z mn_48 jdk_38_method_16_code 1 (some (.array (.object s_e))) ({ frames := 4, cells := 1, slots := 10, locals := 77 } : Room) ws #[(.ref al)] h0 (fun v h L => ∃ (x4 : Addr) (k4 : ClassId), v = some (.ref x4) ∧ Fr n0 L ∧ Ext h0 h ∧ h0.size ≤ x4 ∧ Arv Z h x4 k4 (.object s_e) (2 : Int32) [(.ref xa), (.ref xb)] .null) := by
 refine Meets.of (plainFor_of_name pn_11) ?_
 intro p e s m _c _w c s₁ X0 hx hby hml _q hlk hnm hZ _b e0
 replace _b : s.vm.findClass s_g = some m.cls := _b
 have N0 := Fr.nil n0
 have Q0 := own_extR h0
 refine Go.cast (ef_TA2 m al) ?_
 show Go p e s _c _ _ _ s₁ (mkF m 0 #[vR al] [])
 refine gs ?_ fun _ _k => XS.aloadN X0.here hx rfl (hb hby d37_0) rfl rfl _k
 obtain ⟨T1, X1, e1, st1⟩ := getF X0 hx hZ _b (host := "") (Or.inl (qw hw 72 rfl)) Via.refl e0 _a (g := (mkF m 1 #[vR al] [(.ref al)])) rfl rfl (hb hby d37_1)
 refine Go.st st1 ?_
 refine gs ?_ fun _ _k => XS.aloadN X1.here hx rfl (hb hby d37_4) rfl rfl _k
 obtain ⟨T2, X2, e2, st2⟩ := getF X1 hx hZ _b (host := "") (Or.inl (qw hw 105 rfl)) Via.refl e1 _d (g := (mkF m 5 #[vR al] [(.ref al), (.ref ed)])) rfl rfl (hb hby d37_5)
 refine Go.st st2 ?_
 show Go p e s _c _ _ _ T2 (mkF m 8 #[vR al] [(.int 2), (.ref ed)])
 have HE3 : ∀ i, i < 10 → ([(.ref xa), (.ref xb), .null, .null, .null, .null, .null, .null, .null, .null] : List Value).getD i .null = .null ∨ ∃ x, ([(.ref xa), (.ref xb), .null, .null, .null, .null, .null, .null, .null, .null] : List Value).getD i .null = .ref x ∧ Exa Z h0 x s_i := by
  intro i hi
  match i, hi with
  | 0, _ => exact Or.inr ⟨_, rfl, _k⟩
  | 1, _ => exact Or.inr ⟨_, rfl, _o⟩
  | 2, _ => exact Or.inl rfl
  | 3, _ => exact Or.inl rfl
  | 4, _ => exact Or.inl rfl
  | 5, _ => exact Or.inl rfl
  | 6, _ => exact Or.inl rfl
  | 7, _ => exact Or.inl rfl
  | 8, _ => exact Or.inl rfl
  | 9, _ => exact Or.inl rfl
  | q + 10, hi => exact absurd hi (by omega)
 refine Go.callS (W := 0) (argsL := [(.ref ed), (.int 2)]) (rest := []) X2 hx hZ _b (y := mn_47) (qw hw 276 rfl) (qw hw 277 rfl) (qw hw 278 rfl) (qw hw 279 rfl) (rmCP l Z a0 hw [] ed _f 2 [(.ref xa), (.ref xb), .null, .null, .null, .null, .null, .null, .null, .null] h0 n0 (by decide) _i _j HE3 MM) e2 (by decide) (by rw [hml]; rfl) (lenOf pd22 rfl) (Nat.le_of_eq rfl) (hb hby d37_8) ?_
 intro T4 v4 L4 h4 e4 X4 hQ4
 obtain ⟨x4, k4, rfl, N4, E4, g4, V4⟩ := hQ4
 have M4 := Fr.app N0 N4
 have _r : h0.size ≤ x4 := Nat.le_trans Q0.1 g4
 have _t : Arv Z h4 x4 k4 (.object s_e) (2 : Int32) [(.ref xa), (.ref xb)] .null := V4
 show Go p e s _c _ _ _ T4 (mkF m 11 #[vR al] [(.ref x4)])
 have Q_4 := own_extE Q0 E4
 exact Go.retA X4 hx hlk _q rfl rfl (hb hby d37_11) (by decide) (by decide) ⟨x4, k4, rfl, M4, (by rw [e4]; exact Q_4), _r, (by rw [e4]; exact _t)⟩
theorem ef_TA3 (m : MethodId) (x0 : Addr) : entryFrame m #[(.ref x0)] 1 = mkF m 0 #[.val (.ref x0)] [] := by first | (simp [entryFrame, mkF, argsToLocals, Value.category]; done) | rfl
theorem rmTA3 (l : Launch) (Z : State) (a0 : Array Value) (hw : HW a0 Z) (ws : List Jvm.Cond) (va : Int32) (vb : Int32) (vc : Int32) (al : Addr) (ed : Addr) (xa : Addr) (xb : Addr) (xc : Addr) (_f : ClassId) (h0 : Heap) (n0 : Nat) (Z0 : n0 ≤ h0.size) (_w : Exa Z h0 al s_g) (_a : Fld Z h0 al s_g s_w s_k (.ref ed)) (_d : Fld Z h0 al s_g "size" "I" (.int 3)) (_j : Arv Z h0 ed _f (.object s_e) (10 : Int32) [(.ref xa), (.ref xb), (.ref xc), .null, .null, .null, .null, .null, .null, .null] .null) (_y : Ovr Z _f s_e) (_k : Exa Z h0 ed s_k) (_o : Exa Z h0 xa s_i) (_g : Fld Z h0 xa s_i "value" "I" (.int va)) (_q : Exa Z h0 xb s_i) (_h : Fld Z h0 xb s_i "value" "I" (.int vb)) (_r : Exa Z h0 xc s_i) (_i : Fld Z h0 xc s_i "value" "I" (.int vc)) (MM : ∃ (c : ClassId) (kk : Class) (mi : Addr), Z.vm.findClass s_k = some c ∧ Z.vm.classes[c]? = some kk ∧ kk.mirror = some mi) :
  Meets l Z mn_48 jdk_38_method_16_code 1 (some (.array (.object s_e))) ({ frames := 4, cells := 1, slots := 10, locals := 77 } : Room) ws #[(.ref al)] h0 (fun v h L => ∃ (x4 : Addr) (k4 : ClassId), v = some (.ref x4) ∧ Fr n0 L ∧ Ext h0 h ∧ h0.size ≤ x4 ∧ Arv Z h x4 k4 (.object s_e) (3 : Int32) [(.ref xa), (.ref xb), (.ref xc)] .null) := by
 refine Meets.of (plainFor_of_name pn_11) ?_
 intro p e s m _c _z c s₁ X0 hx hby hml _t hlk hnm hZ _b e0
 replace _b : s.vm.findClass s_g = some m.cls := _b
 have N0 := Fr.nil n0
 have Q0 := own_extR h0
 refine Go.cast (ef_TA3 m al) ?_
 show Go p e s _c _ _ _ s₁ (mkF m 0 #[vR al] [])
 refine gs ?_ fun _ _k => XS.aloadN X0.here hx rfl (hb hby d37_0) rfl rfl _k
 obtain ⟨T1, X1, e1, st1⟩ := getF X0 hx hZ _b (host := "") (Or.inl (qw hw 72 rfl)) Via.refl e0 _a (g := (mkF m 1 #[vR al] [(.ref al)])) rfl rfl (hb hby d37_1)
 refine Go.st st1 ?_
 refine gs ?_ fun _ _k => XS.aloadN X1.here hx rfl (hb hby d37_4) rfl rfl _k
 obtain ⟨T2, X2, e2, st2⟩ := getF X1 hx hZ _b (host := "") (Or.inl (qw hw 105 rfl)) Via.refl e1 _d (g := (mkF m 5 #[vR al] [(.ref al), (.ref ed)])) rfl rfl (hb hby d37_5)
 refine Go.st st2 ?_
 show Go p e s _c _ _ _ T2 (mkF m 8 #[vR al] [(.int 3), (.ref ed)])
 have HE3 : ∀ i, i < 10 → ([(.ref xa), (.ref xb), (.ref xc), .null, .null, .null, .null, .null, .null, .null] : List Value).getD i .null = .null ∨ ∃ x, ([(.ref xa), (.ref xb), (.ref xc), .null, .null, .null, .null, .null, .null, .null] : List Value).getD i .null = .ref x ∧ Exa Z h0 x s_i := by
  intro i hi
  match i, hi with
  | 0, _ => exact Or.inr ⟨_, rfl, _o⟩
  | 1, _ => exact Or.inr ⟨_, rfl, _q⟩
  | 2, _ => exact Or.inr ⟨_, rfl, _r⟩
  | 3, _ => exact Or.inl rfl
  | 4, _ => exact Or.inl rfl
  | 5, _ => exact Or.inl rfl
  | 6, _ => exact Or.inl rfl
  | 7, _ => exact Or.inl rfl
  | 8, _ => exact Or.inl rfl
  | 9, _ => exact Or.inl rfl
  | q + 10, hi => exact absurd hi (by omega)
 refine Go.callS (W := 0) (argsL := [(.ref ed), (.int 3)]) (rest := []) X2 hx hZ _b (y := mn_47) (qw hw 276 rfl) (qw hw 277 rfl) (qw hw 278 rfl) (qw hw 279 rfl) (rmCP l Z a0 hw [] ed _f 3 [(.ref xa), (.ref xb), (.ref xc), .null, .null, .null, .null, .null, .null, .null] h0 n0 (by decide) _j _k HE3 MM) e2 (by decide) (by rw [hml]; rfl) (lenOf pd22 rfl) (Nat.le_of_eq rfl) (hb hby d37_8) ?_
 intro T4 v4 L4 h4 e4 X4 hQ4
 obtain ⟨x4, k4, rfl, N4, E4, g4, V4⟩ := hQ4
 have M4 := Fr.app N0 N4
 have _u : h0.size ≤ x4 := Nat.le_trans Q0.1 g4
 have _v : Arv Z h4 x4 k4 (.object s_e) (3 : Int32) [(.ref xa), (.ref xb), (.ref xc)] .null := V4
 show Go p e s _c _ _ _ T4 (mkF m 11 #[vR al] [(.ref x4)])
 have Q_4 := own_extE Q0 E4
 exact Go.retA X4 hx hlk _t rfl rfl (hb hby d37_11) (by decide) (by decide) ⟨x4, k4, rfl, M4, (by rw [e4]; exact Q_4), _u, (by rw [e4]; exact _v)⟩
theorem pd23 : parseMethodDescriptor "()Z" = some ⟨[], some .boolean⟩ := by decide +kernel
theorem pd24 : parseMethodDescriptor "()Ljava/util/List;" = some ⟨[], some (.object s_y)⟩ := by decide +kernel
theorem d13_0 : decode bc13 0 = .ok (.aload_n 0, 1) := by decide +kernel
theorem d13_1 : decode bc13 1 = .ok (.instanceof 10, 3) := by decide +kernel
theorem d13_4 : decode bc13 4 = .ok (.ifCond .ne 22, 3) := by decide +kernel
theorem d13_7 : decode bc13 7 = .ok (.aload_n 0, 1) := by decide +kernel
theorem d13_8 : decode bc13 8 = .ok (.instanceof 12, 3) := by decide +kernel
theorem d13_11 : decode bc13 11 = .ok (.ifCond .eq 20, 3) := by decide +kernel
theorem d13_31 : decode bc13 31 = .ok (.aload_n 0, 1) := by decide +kernel
theorem d13_32 : decode bc13 32 = .ok (.invokeinterface 20 1, 5) := by decide +kernel
theorem d13_37 : decode bc13 37 = .ok (.ifCond .eq 7, 3) := by decide +kernel
theorem d13_40 : decode bc13 40 = .ok (.invokestatic 26, 3) := by decide +kernel
theorem d13_43 : decode bc13 43 = .ok (.areturn, 1) := by decide +kernel
theorem ef_LC0 (m : MethodId) (x0 : Addr) : entryFrame m #[(.ref x0)] 2 = mkF m 0 #[.val (.ref x0), .unset] [] := by first | (simp [entryFrame, mkF, argsToLocals, Value.category]; done) | rfl
theorem rmLC0 (l : Launch) (Z : State) (a0 : Array Value) (hw : HW a0 Z) (ws : List Jvm.Cond) (dc : Addr) (el : Addr) (al : Addr) (h0 : Heap) (n0 : Nat) (Z0 : n0 ≤ h0.size) (ZN : Z.heap.size ≤ n0) (EZ : Ext Z.heap h0) (_c : Exa Z h0 al s_g) (_f : Fld Z h0 al s_g s_w s_k (.ref dc)) (_d : Fld Z h0 al s_g "size" "I" (.int 0)) (SEL : Sta Z Z.heap s_u "EMPTY_LIST" "Ljava/util/ImmutableCollections$ListN;" (.ref el)) :
  Meets l Z mn_49 jdk_56_method_3_code 2 (some (.object s_y)) ({ frames := 1, cells := 0, slots := 0, locals := 12 } : Room) ws #[(.ref al)] h0 (fun v h L => v = some (.ref el) ∧ Fr n0 L ∧ Ext h0 h) := by
 refine Meets.of (plainFor_of_name pn_17) ?_
 intro p e s m _b _i c s₁ X0 hx hby hml _g hlk hnm hZ _a e0
 replace _a : s.vm.findClass s_u = some m.cls := _a
 have N0 := Fr.nil n0
 have Q0 := own_extR h0
 refine Go.cast (ef_LC0 m al) ?_
 show Go p e s _b _ _ _ s₁ (mkF m 0 #[vR al, vU] [])
 refine gs ?_ fun _ _k => XS.aloadN X0.here hx rfl (hb hby d13_0) rfl rfl _k
 obtain ⟨T1, X1, e1, st1⟩ := instNo X0 hx hZ _a (qw hw 90 rfl) e0 _c (own_nsNo (qw hw 91 rfl) (qw hw 302 rfl) (NS.step (qw hw 91 rfl) (NS.step (qw hw 92 rfl) (NS.step (qw hw 93 rfl) (own_nsRoot (qw hw 94 rfl) (qw hw 302 rfl) (by decide)) (by decide)) (by decide)) (by decide)) (by decide)) (g := (mkF m 1 #[vR al, vU] [(.ref al)])) rfl rfl (hb hby d13_1)
 refine Go.st st1 ?_
 refine gs ?_ fun _ _k => XS.ifNo X1.here hx rfl (hb hby d13_4) rfl ((if0 _ _).trans (teq rfl).2) _k
 refine gs ?_ fun _ _k => XS.aloadN X1.here hx rfl (hb hby d13_7) rfl rfl _k
 obtain ⟨T2, X2, e2, st2⟩ := instNo X1 hx hZ _a (qw hw 95 rfl) e1 _c (own_nsNo (qw hw 91 rfl) (qw hw 386 rfl) (NS.step (qw hw 91 rfl) (NS.step (qw hw 92 rfl) (NS.step (qw hw 93 rfl) (own_nsRoot (qw hw 94 rfl) (qw hw 386 rfl) (by decide)) (by decide)) (by decide)) (by decide)) (by decide)) (g := (mkF m 8 #[vR al, vU] [(.ref al)])) rfl rfl (hb hby d13_8)
 refine Go.st st2 ?_
 refine gs ?_ fun _ _k => XS.ifYes X2.here hx rfl (pc0 := 11) (pc' := 31) rfl (hb hby d13_11) rfl ((if0 _ _).trans (teq rfl).1) (by decide) (by decide) _k
 refine gs ?_ fun _ _k => XS.aloadN X2.here hx rfl (hb hby d13_31) rfl rfl _k
 show Go p e s _b _ _ _ T2 (mkF m 32 #[vR al, vU] [(.ref al)])
 refine Go.callF (b := al) (W := 0) (argsL := []) (rest := []) X2 hx hZ _a (y := mn_50) (z := mn_37) (qw hw 96 rfl) (qw hw 97 rfl) (qw hw 98 rfl) rfl (qw hw 99 rfl) (qw hw 100 rfl) (qw hw 101 rfl) (qw hw 102 rfl) (qw hw 103 rfl) (qw hw 52 rfl) (qw hw 104 rfl) (rmIS0 l Z a0 hw [] al h0 n0 (Nat.le_trans Z0 Q0.1) _c _d) e2 _c (by decide) (by rw [hml]; rfl) (lenOf pd23 rfl) (Nat.le_of_eq rfl) (hb hby d13_32) ?_
 intro T3 v3 L3 h3 e3 X3 hQ3
 obtain ⟨rfl, N3, K3⟩ := hQ3
 have M3 := Fr.app N0 N3
 refine gs ?_ fun _ _k => XS.ifNo X3.here hx rfl (hb hby d13_37) rfl ((if0 _ _).trans (feq (by decide)).1) _k
 show Go p e s _b _ _ _ T3 (mkF m 40 #[vR al, vU] [])
 have Q_3 := own_extE Q0 K3
 have _h := own_extE EZ K3
 refine Go.callS (W := 0) (argsL := []) (rest := []) X3 hx hZ _a (y := mn_38) (qw hw 107 rfl) (qw hw 108 rfl) (qw hw 84 rfl) (qw hw 109 rfl) (rmLO0 l Z a0 hw [] el h3 n0 (Nat.le_trans Z0 Q_3.1) ZN _h SEL) e3 (by decide) (by rw [hml]; rfl) (lenOf pd24 rfl) (Nat.le_of_eq rfl) (hb hby d13_40) ?_
 intro T4 v4 L4 h4 e4 X4 hQ4
 obtain ⟨rfl, N4, K4⟩ := hQ4
 have M4 := Fr.app M3 N4
 show Go p e s _b _ _ _ T4 (mkF m 43 #[vR al, vU] [(.ref el)])
 have Q_4 := own_extE Q_3 K4
 exact Go.retA X4 hx hlk _g rfl rfl (hb hby d13_43) (by decide) (by decide) ⟨rfl, M4, (by rw [e4]; exact Q_4)⟩
theorem pd25 : parseMethodDescriptor "(Ljava/util/Collection;)Ljava/util/List;" = some ⟨[(.object "java/util/Collection")], some (.object s_y)⟩ := by decide +kernel
theorem d12_0 : decode bc12 0 = .ok (.aload_n 0, 1) := by decide +kernel
theorem d12_1 : decode bc12 1 = .ok (.invokestatic 112, 3) := by decide +kernel
theorem d12_4 : decode bc12 4 = .ok (.areturn, 1) := by decide +kernel
theorem ef_CO0 (m : MethodId) (x0 : Addr) : entryFrame m #[(.ref x0)] 1 = mkF m 0 #[.val (.ref x0)] [] := by first | (simp [entryFrame, mkF, argsToLocals, Value.category]; done) | rfl
theorem rmCO0 (l : Launch) (Z : State) (a0 : Array Value) (hw : HW a0 Z) (ws : List Jvm.Cond) (dc : Addr) (el : Addr) (al : Addr) (h0 : Heap) (n0 : Nat) (Z0 : n0 ≤ h0.size) (ZN : Z.heap.size ≤ n0) (EZ : Ext Z.heap h0) (_f : Exa Z h0 al s_g) (_a : Fld Z h0 al s_g s_w s_k (.ref dc)) (_c : Fld Z h0 al s_g "size" "I" (.int 0)) (SEL : Sta Z Z.heap s_u "EMPTY_LIST" "Ljava/util/ImmutableCollections$ListN;" (.ref el)) :
  Meets l Z mn_51 jdk_40_method_48_code 1 (some (.object s_y)) ({ frames := 8, cells := 3, slots := 15, locals := 103 } : Room) ws #[(.ref al)] h0 (fun v h L => v = some (.ref el) ∧ Fr n0 L ∧ Ext h0 h) := by
 refine Meets.of (plainFor_of_name pn_12) ?_
 intro p e s m _b _h c s₁ X0 hx hby hml _g hlk hnm hZ _d e0
 replace _d : s.vm.findClass s_y = some m.cls := _d
 have N0 := Fr.nil n0
 have Q0 := own_extR h0
 refine Go.cast (ef_CO0 m al) ?_
 show Go p e s _b _ _ _ s₁ (mkF m 0 #[vR al] [])
 refine gs ?_ fun _ _k => XS.aloadN X0.here hx rfl (hb hby d12_0) rfl rfl _k
 show Go p e s _b _ _ _ s₁ (mkF m 1 #[vR al] [(.ref al)])
 refine Go.callS (W := 0) (argsL := [(.ref al)]) (rest := []) X0 hx hZ _d (y := mn_49) (qw hw 86 rfl) (qw hw 87 rfl) (qw hw 88 rfl) (qw hw 89 rfl) (rmLC0 l Z a0 hw [] dc el al h0 n0 (Nat.le_trans Z0 Q0.1) ZN EZ _f _a _c SEL) e0 (by decide) (by rw [hml]; rfl) (lenOf pd25 rfl) (Nat.le_of_eq rfl) (hb hby d12_1) ?_
 intro T1 v1 L1 h1 e1 X1 hQ1
 obtain ⟨rfl, N1, K1⟩ := hQ1
 have M1 := Fr.app N0 N1
 show Go p e s _b _ _ _ T1 (mkF m 4 #[vR al] [(.ref el)])
 have Q_1 := own_extE Q0 K1
 exact Go.retA X1 hx hlk _g rfl rfl (hb hby d12_4) (by decide) (by decide) ⟨rfl, M1, (by rw [e1]; exact Q_1)⟩
theorem d13_44 : decode bc13 44 = .ok (.aload_n 0, 1) := by decide +kernel
theorem d13_45 : decode bc13 45 = .ok (.invokeinterface 30 1, 5) := by decide +kernel
theorem d13_50 : decode bc13 50 = .ok (.invokestatic 34, 3) := by decide +kernel
theorem d13_53 : decode bc13 53 = .ok (.areturn, 1) := by decide +kernel
theorem ef_LC1 (m : MethodId) (x0 : Addr) : entryFrame m #[(.ref x0)] 2 = mkF m 0 #[.val (.ref x0), .unset] [] := by first | (simp [entryFrame, mkF, argsToLocals, Value.category]; done) | rfl
theorem rmLC1 (l : Launch) (Z : State) (a0 : Array Value) (hw : HW a0 Z) (ws : List Jvm.Cond) (va : Int32) (em : Addr) (al : Addr) (ed : Addr) (xa : Addr) (_t : ClassId) (h0 : Heap) (n0 : Nat) (Z0 : n0 ≤ h0.size) (ZN : Z.heap.size ≤ n0) (EZ : Ext Z.heap h0) (_i : Exa Z h0 al s_g) (_d : Fld Z h0 al s_g s_w s_k (.ref ed)) (_h : Fld Z h0 al s_g "size" "I" (.int 1)) (_E : Arv Z h0 ed _t (.object s_e) (10 : Int32) [(.ref xa), .null, .null, .null, .null, .null, .null, .null, .null, .null] .null) (_F : Ovr Z _t s_e) (_G : Exa Z h0 ed s_k) (_H : Exa Z h0 xa s_i) (_o : Fld Z h0 xa s_i "value" "I" (.int va)) (MM : ∃ (c : ClassId) (kk : Class) (mi : Addr), Z.vm.findClass s_k = some c ∧ Z.vm.classes[c]? = some kk ∧ kk.mirror = some mi) (SEM : Sta Z Z.heap s_u "EMPTY" s_l (.ref em)) :
  Meets l Z mn_49 jdk_56_method_3_code 2 (some (.object s_y)) ({ frames := 6, cells := 2, slots := 12, locals := 89 } : Room) ws #[(.ref al)] h0 (fun v h L => ∃ (_b : Addr) (_a : Addr) (_q : ClassId), v = some (.ref _a) ∧ Fr n0 L ∧ Ext h0 h ∧ h0.size ≤ _b ∧ h0.size ≤ _a ∧ Arv Z h _b _q (.object s_e) (1 : Int32) [(.ref xa)] .null ∧ Exa Z h _a s_m ∧ Fld Z h _a s_m "e0" s_l (.ref xa) ∧ Fld Z h _a s_m "e1" s_l (.ref em) ∧ _b ≠ _a) := by
 refine Meets.of (plainFor_of_name pn_17) ?_
 intro p e s m _g _N c s₁ X0 hx hby hml _I hlk hnm hZ _f e0
 replace _f : s.vm.findClass s_u = some m.cls := _f
 have N0 := Fr.nil n0
 have Q0 := own_extR h0
 refine Go.cast (ef_LC1 m al) ?_
 show Go p e s _g _ _ _ s₁ (mkF m 0 #[vR al, vU] [])
 refine gs ?_ fun _ _k => XS.aloadN X0.here hx rfl (hb hby d13_0) rfl rfl _k
 obtain ⟨T1, X1, e1, st1⟩ := instNo X0 hx hZ _f (qw hw 90 rfl) e0 _i (own_nsNo (qw hw 91 rfl) (qw hw 302 rfl) (NS.step (qw hw 91 rfl) (NS.step (qw hw 92 rfl) (NS.step (qw hw 93 rfl) (own_nsRoot (qw hw 94 rfl) (qw hw 302 rfl) (by decide)) (by decide)) (by decide)) (by decide)) (by decide)) (g := (mkF m 1 #[vR al, vU] [(.ref al)])) rfl rfl (hb hby d13_1)
 refine Go.st st1 ?_
 refine gs ?_ fun _ _k => XS.ifNo X1.here hx rfl (hb hby d13_4) rfl ((if0 _ _).trans (teq rfl).2) _k
 refine gs ?_ fun _ _k => XS.aloadN X1.here hx rfl (hb hby d13_7) rfl rfl _k
 obtain ⟨T2, X2, e2, st2⟩ := instNo X1 hx hZ _f (qw hw 95 rfl) e1 _i (own_nsNo (qw hw 91 rfl) (qw hw 386 rfl) (NS.step (qw hw 91 rfl) (NS.step (qw hw 92 rfl) (NS.step (qw hw 93 rfl) (own_nsRoot (qw hw 94 rfl) (qw hw 386 rfl) (by decide)) (by decide)) (by decide)) (by decide)) (by decide)) (g := (mkF m 8 #[vR al, vU] [(.ref al)])) rfl rfl (hb hby d13_8)
 refine Go.st st2 ?_
 refine gs ?_ fun _ _k => XS.ifYes X2.here hx rfl (pc0 := 11) (pc' := 31) rfl (hb hby d13_11) rfl ((if0 _ _).trans (teq rfl).1) (by decide) (by decide) _k
 refine gs ?_ fun _ _k => XS.aloadN X2.here hx rfl (hb hby d13_31) rfl rfl _k
 show Go p e s _g _ _ _ T2 (mkF m 32 #[vR al, vU] [(.ref al)])
 refine Go.callF (b := al) (W := 0) (argsL := []) (rest := []) X2 hx hZ _f (y := mn_50) (z := mn_37) (qw hw 96 rfl) (qw hw 97 rfl) (qw hw 98 rfl) rfl (qw hw 99 rfl) (qw hw 100 rfl) (qw hw 101 rfl) (qw hw 102 rfl) (qw hw 103 rfl) (qw hw 52 rfl) (qw hw 104 rfl) (rmIS1 l Z a0 hw [] al h0 n0 (Nat.le_trans Z0 Q0.1) _i _h) e2 _i (by decide) (by rw [hml]; rfl) (lenOf pd23 rfl) (Nat.le_of_eq rfl) (hb hby d13_32) ?_
 intro T3 v3 L3 h3 e3 X3 hQ3
 obtain ⟨rfl, N3, K3⟩ := hQ3
 have M3 := Fr.app N0 N3
 refine gs ?_ fun _ _k => XS.ifYes X3.here hx rfl (pc0 := 37) (pc' := 44) rfl (hb hby d13_37) rfl ((if0 _ _).trans (teq (by decide)).1) (by decide) (by decide) _k
 refine gs ?_ fun _ _k => XS.aloadN X3.here hx rfl (hb hby d13_44) rfl rfl _k
 show Go p e s _g _ _ _ T3 (mkF m 45 #[vR al, vU] [(.ref al)])
 have Q_3 := own_extE Q0 K3
 have _r := _i.ext K3
 have _c := _d.ext K3
 have _k := _h.ext K3
 have _y := _E.ext K3
 have _z := _G.ext K3
 have _A := _H.ext K3
 have _j := _o.ext K3
 refine Go.callF (b := al) (W := 0) (argsL := []) (rest := []) X3 hx hZ _f (y := mn_52) (z := mn_48) (qw hw 268 rfl) (qw hw 269 rfl) (qw hw 270 rfl) rfl (qw hw 271 rfl) (qw hw 272 rfl) (qw hw 273 rfl) (qw hw 274 rfl) (qw hw 103 rfl) (qw hw 52 rfl) (qw hw 275 rfl) (rmTA1 l Z a0 hw [] va al ed xa _t h3 n0 (Nat.le_trans Z0 Q_3.1) _r _c _k _y _F _z _A _j MM) e3 _r (by decide) (by rw [hml]; rfl) (lenOf pd15 rfl) (Nat.le_of_eq rfl) (hb hby d13_45) ?_
 intro T4 v4 L4 h4 e4 X4 hQ4
 obtain ⟨_b, _q, rfl, N4, K4, _D, _u⟩ := hQ4
 have M4 := Fr.app M3 N4
 have _B : h0.size ≤ _b := Nat.le_trans Q_3.1 _D
 show Go p e s _g _ _ _ T4 (mkF m 50 #[vR al, vU] [(.ref _b)])
 have Q_4 := own_extE Q_3 K4
 have _J := own_extE (own_extE EZ K3) K4
 refine Go.callS (W := 0) (argsL := [(.ref _b)]) (rest := []) X4 hx hZ _f (y := mn_46) (qw hw 298 rfl) (qw hw 299 rfl) (qw hw 84 rfl) (qw hw 300 rfl) (rmLOA1 l Z a0 hw [] xa em _b _q h4 n0 (Nat.le_trans Z0 Q_4.1) ZN _J _u SEM) e4 (by decide) (by rw [hml]; rfl) (lenOf pd21 rfl) (Nat.le_of_eq rfl) (hb hby d13_50) ?_
 intro T5 v5 L5 h5 e5 X5 hQ5
 obtain ⟨_a, rfl, N5, K5, _w, _K, _L, _M⟩ := hQ5
 have M5 := Fr.app M4 N5
 have _C : h0.size ≤ _a := Nat.le_trans Q_4.1 _w
 show Go p e s _g _ _ _ T5 (mkF m 53 #[vR al, vU] [(.ref _a)])
 have _v := _u.ext K5
 have Q_5 := own_extE Q_4 K5
 have nq6 : _b ≠ _a := Nat.ne_of_lt (Nat.lt_of_lt_of_le (_u).lt _w)
 exact Go.retA X5 hx hlk _I rfl rfl (hb hby d13_53) (by decide) (by decide) ⟨_b, _a, _q, rfl, M5, (by rw [e5]; exact Q_5), _B, _C, (by rw [e5]; exact _v), (by rw [e5]; exact _K), (by rw [e5]; exact _L), (by rw [e5]; exact _M), nq6⟩
theorem ef_CO1 (m : MethodId) (x0 : Addr) : entryFrame m #[(.ref x0)] 1 = mkF m 0 #[.val (.ref x0)] [] := by first | (simp [entryFrame, mkF, argsToLocals, Value.category]; done) | rfl
theorem rmCO1 (l : Launch) (Z : State) (a0 : Array Value) (hw : HW a0 Z) (ws : List Jvm.Cond) (va : Int32) (em : Addr) (al : Addr) (ed : Addr) (xa : Addr) (_i : ClassId) (h0 : Heap) (n0 : Nat) (Z0 : n0 ≤ h0.size) (ZN : Z.heap.size ≤ n0) (EZ : Ext Z.heap h0) (_u : Exa Z h0 al s_g) (_c : Fld Z h0 al s_g s_w s_k (.ref ed)) (_h : Fld Z h0 al s_g "size" "I" (.int 1)) (_v : Arv Z h0 ed _i (.object s_e) (10 : Int32) [(.ref xa), .null, .null, .null, .null, .null, .null, .null, .null, .null] .null) (_w : Ovr Z _i s_e) (_y : Exa Z h0 ed s_k) (_z : Exa Z h0 xa s_i) (_f : Fld Z h0 xa s_i "value" "I" (.int va)) (MM : ∃ (c : ClassId) (kk : Class) (mi : Addr), Z.vm.findClass s_k = some c ∧ Z.vm.classes[c]? = some kk ∧ kk.mirror = some mi) (SEM : Sta Z Z.heap s_u "EMPTY" s_l (.ref em)) :
  Meets l Z mn_51 jdk_40_method_48_code 1 (some (.object s_y)) ({ frames := 8, cells := 3, slots := 15, locals := 103 } : Room) ws #[(.ref al)] h0 (fun v h L => ∃ (_b : Addr) (_a : Addr) (_d : ClassId), v = some (.ref _a) ∧ Fr n0 L ∧ Ext h0 h ∧ h0.size ≤ _b ∧ h0.size ≤ _a ∧ Arv Z h _b _d (.object s_e) (1 : Int32) [(.ref xa)] .null ∧ Exa Z h _a s_m ∧ Fld Z h _a s_m "e0" s_l (.ref xa) ∧ Fld Z h _a s_m "e1" s_l (.ref em) ∧ _b ≠ _a) := by
 refine Meets.of (plainFor_of_name pn_12) ?_
 intro p e s m _g _F c s₁ X0 hx hby hml _A hlk hnm hZ _j e0
 replace _j : s.vm.findClass s_y = some m.cls := _j
 have N0 := Fr.nil n0
 have Q0 := own_extR h0
 refine Go.cast (ef_CO1 m al) ?_
 show Go p e s _g _ _ _ s₁ (mkF m 0 #[vR al] [])
 refine gs ?_ fun _ _k => XS.aloadN X0.here hx rfl (hb hby d12_0) rfl rfl _k
 show Go p e s _g _ _ _ s₁ (mkF m 1 #[vR al] [(.ref al)])
 refine Go.callS (W := 0) (argsL := [(.ref al)]) (rest := []) X0 hx hZ _j (y := mn_49) (qw hw 86 rfl) (qw hw 87 rfl) (qw hw 88 rfl) (qw hw 89 rfl) (rmLC1 l Z a0 hw [] va em al ed xa _i h0 n0 (Nat.le_trans Z0 Q0.1) ZN EZ _u _c _h _v _w _y _z _f MM SEM) e0 (by decide) (by rw [hml]; rfl) (lenOf pd25 rfl) (Nat.le_of_eq rfl) (hb hby d12_1) ?_
 intro T1 v1 L1 h1 e1 X1 hQ1
 obtain ⟨_b, _a, _d, rfl, N1, K1, _q, _r, _B, _C, _D, _E, _t⟩ := hQ1
 have M1 := Fr.app N0 N1
 have _k : h0.size ≤ _b := Nat.le_trans Q0.1 _q
 have _o : h0.size ≤ _a := Nat.le_trans Q0.1 _r
 show Go p e s _g _ _ _ T1 (mkF m 4 #[vR al] [(.ref _a)])
 have Q_1 := own_extE Q0 K1
 exact Go.retA X1 hx hlk _A rfl rfl (hb hby d12_4) (by decide) (by decide) ⟨_b, _a, _d, rfl, M1, (by rw [e1]; exact Q_1), _k, _o, (by rw [e1]; exact _B), (by rw [e1]; exact _C), (by rw [e1]; exact _D), (by rw [e1]; exact _E), _t⟩
theorem ef_LC2 (m : MethodId) (x0 : Addr) : entryFrame m #[(.ref x0)] 2 = mkF m 0 #[.val (.ref x0), .unset] [] := by first | (simp [entryFrame, mkF, argsToLocals, Value.category]; done) | rfl
theorem rmLC2 (l : Launch) (Z : State) (a0 : Array Value) (hw : HW a0 Z) (ws : List Jvm.Cond) (va : Int32) (vb : Int32) (al : Addr) (ed : Addr) (xa : Addr) (xb : Addr) (_v : ClassId) (h0 : Heap) (n0 : Nat) (Z0 : n0 ≤ h0.size) (_i : Exa Z h0 al s_g) (_d : Fld Z h0 al s_g s_w s_k (.ref ed)) (_h : Fld Z h0 al s_g "size" "I" (.int 2)) (_H : Arv Z h0 ed _v (.object s_e) (10 : Int32) [(.ref xa), (.ref xb), .null, .null, .null, .null, .null, .null, .null, .null] .null) (_I : Ovr Z _v s_e) (_J : Exa Z h0 ed s_k) (_K : Exa Z h0 xa s_i) (_q : Fld Z h0 xa s_i "value" "I" (.int va)) (_L : Exa Z h0 xb s_i) (_r : Fld Z h0 xb s_i "value" "I" (.int vb)) (MM : ∃ (c : ClassId) (kk : Class) (mi : Addr), Z.vm.findClass s_k = some c ∧ Z.vm.classes[c]? = some kk ∧ kk.mirror = some mi) :
  Meets l Z mn_49 jdk_56_method_3_code 2 (some (.object s_y)) ({ frames := 6, cells := 2, slots := 12, locals := 89 } : Room) ws #[(.ref al)] h0 (fun v h L => ∃ (_b : Addr) (_a : Addr) (_t : ClassId), v = some (.ref _a) ∧ Fr n0 L ∧ Ext h0 h ∧ h0.size ≤ _b ∧ h0.size ≤ _a ∧ Arv Z h _b _t (.object s_e) (2 : Int32) [(.ref xa), (.ref xb)] .null ∧ Exa Z h _a s_m ∧ Fld Z h _a s_m "e0" s_l (.ref xa) ∧ Fld Z h _a s_m "e1" s_l (.ref xb) ∧ _b ≠ _a) := by
 refine Meets.of (plainFor_of_name pn_17) ?_
 intro p e s m _g _Q c s₁ X0 hx hby hml _M hlk hnm hZ _f e0
 replace _f : s.vm.findClass s_u = some m.cls := _f
 have N0 := Fr.nil n0
 have Q0 := own_extR h0
 refine Go.cast (ef_LC2 m al) ?_
 show Go p e s _g _ _ _ s₁ (mkF m 0 #[vR al, vU] [])
 refine gs ?_ fun _ _k => XS.aloadN X0.here hx rfl (hb hby d13_0) rfl rfl _k
 obtain ⟨T1, X1, e1, st1⟩ := instNo X0 hx hZ _f (qw hw 90 rfl) e0 _i (own_nsNo (qw hw 91 rfl) (qw hw 302 rfl) (NS.step (qw hw 91 rfl) (NS.step (qw hw 92 rfl) (NS.step (qw hw 93 rfl) (own_nsRoot (qw hw 94 rfl) (qw hw 302 rfl) (by decide)) (by decide)) (by decide)) (by decide)) (by decide)) (g := (mkF m 1 #[vR al, vU] [(.ref al)])) rfl rfl (hb hby d13_1)
 refine Go.st st1 ?_
 refine gs ?_ fun _ _k => XS.ifNo X1.here hx rfl (hb hby d13_4) rfl ((if0 _ _).trans (teq rfl).2) _k
 refine gs ?_ fun _ _k => XS.aloadN X1.here hx rfl (hb hby d13_7) rfl rfl _k
 obtain ⟨T2, X2, e2, st2⟩ := instNo X1 hx hZ _f (qw hw 95 rfl) e1 _i (own_nsNo (qw hw 91 rfl) (qw hw 386 rfl) (NS.step (qw hw 91 rfl) (NS.step (qw hw 92 rfl) (NS.step (qw hw 93 rfl) (own_nsRoot (qw hw 94 rfl) (qw hw 386 rfl) (by decide)) (by decide)) (by decide)) (by decide)) (by decide)) (g := (mkF m 8 #[vR al, vU] [(.ref al)])) rfl rfl (hb hby d13_8)
 refine Go.st st2 ?_
 refine gs ?_ fun _ _k => XS.ifYes X2.here hx rfl (pc0 := 11) (pc' := 31) rfl (hb hby d13_11) rfl ((if0 _ _).trans (teq rfl).1) (by decide) (by decide) _k
 refine gs ?_ fun _ _k => XS.aloadN X2.here hx rfl (hb hby d13_31) rfl rfl _k
 show Go p e s _g _ _ _ T2 (mkF m 32 #[vR al, vU] [(.ref al)])
 refine Go.callF (b := al) (W := 0) (argsL := []) (rest := []) X2 hx hZ _f (y := mn_50) (z := mn_37) (qw hw 96 rfl) (qw hw 97 rfl) (qw hw 98 rfl) rfl (qw hw 99 rfl) (qw hw 100 rfl) (qw hw 101 rfl) (qw hw 102 rfl) (qw hw 103 rfl) (qw hw 52 rfl) (qw hw 104 rfl) (rmIS2 l Z a0 hw [] al h0 n0 (Nat.le_trans Z0 Q0.1) _i _h) e2 _i (by decide) (by rw [hml]; rfl) (lenOf pd23 rfl) (Nat.le_of_eq rfl) (hb hby d13_32) ?_
 intro T3 v3 L3 h3 e3 X3 hQ3
 obtain ⟨rfl, N3, K3⟩ := hQ3
 have M3 := Fr.app N0 N3
 refine gs ?_ fun _ _k => XS.ifYes X3.here hx rfl (pc0 := 37) (pc' := 44) rfl (hb hby d13_37) rfl ((if0 _ _).trans (teq (by decide)).1) (by decide) (by decide) _k
 refine gs ?_ fun _ _k => XS.aloadN X3.here hx rfl (hb hby d13_44) rfl rfl _k
 show Go p e s _g _ _ _ T3 (mkF m 45 #[vR al, vU] [(.ref al)])
 have Q_3 := own_extE Q0 K3
 have _u := _i.ext K3
 have _c := _d.ext K3
 have _o := _h.ext K3
 have _A := _H.ext K3
 have _B := _J.ext K3
 have _C := _K.ext K3
 have _j := _q.ext K3
 have _D := _L.ext K3
 have _k := _r.ext K3
 refine Go.callF (b := al) (W := 0) (argsL := []) (rest := []) X3 hx hZ _f (y := mn_52) (z := mn_48) (qw hw 268 rfl) (qw hw 269 rfl) (qw hw 270 rfl) rfl (qw hw 271 rfl) (qw hw 272 rfl) (qw hw 273 rfl) (qw hw 274 rfl) (qw hw 103 rfl) (qw hw 52 rfl) (qw hw 275 rfl) (rmTA2 l Z a0 hw [] va vb al ed xa xb _v h3 n0 (Nat.le_trans Z0 Q_3.1) _u _c _o _A _I _B _C _j _D _k MM) e3 _u (by decide) (by rw [hml]; rfl) (lenOf pd15 rfl) (Nat.le_of_eq rfl) (hb hby d13_45) ?_
 intro T4 v4 L4 h4 e4 X4 hQ4
 obtain ⟨_b, _t, rfl, N4, K4, _G, _w⟩ := hQ4
 have M4 := Fr.app M3 N4
 have _E : h0.size ≤ _b := Nat.le_trans Q_3.1 _G
 show Go p e s _g _ _ _ T4 (mkF m 50 #[vR al, vU] [(.ref _b)])
 have Q_4 := own_extE Q_3 K4
 refine Go.callS (W := 0) (argsL := [(.ref _b)]) (rest := []) X4 hx hZ _f (y := mn_46) (qw hw 298 rfl) (qw hw 299 rfl) (qw hw 84 rfl) (qw hw 300 rfl) (rmLOA2 l Z a0 hw [] xa xb _b _t h4 n0 (Nat.le_trans Z0 Q_4.1) _w) e4 (by decide) (by rw [hml]; rfl) (lenOf pd21 rfl) (Nat.le_of_eq rfl) (hb hby d13_50) ?_
 intro T5 v5 L5 h5 e5 X5 hQ5
 obtain ⟨_a, rfl, N5, K5, _z, _N, _O, _P⟩ := hQ5
 have M5 := Fr.app M4 N5
 have _F : h0.size ≤ _a := Nat.le_trans Q_4.1 _z
 show Go p e s _g _ _ _ T5 (mkF m 53 #[vR al, vU] [(.ref _a)])
 have _y := _w.ext K5
 have Q_5 := own_extE Q_4 K5
 have nq6 : _b ≠ _a := Nat.ne_of_lt (Nat.lt_of_lt_of_le (_w).lt _z)
 exact Go.retA X5 hx hlk _M rfl rfl (hb hby d13_53) (by decide) (by decide) ⟨_b, _a, _t, rfl, M5, (by rw [e5]; exact Q_5), _E, _F, (by rw [e5]; exact _y), (by rw [e5]; exact _N), (by rw [e5]; exact _O), (by rw [e5]; exact _P), nq6⟩
theorem ef_CO2 (m : MethodId) (x0 : Addr) : entryFrame m #[(.ref x0)] 1 = mkF m 0 #[.val (.ref x0)] [] := by first | (simp [entryFrame, mkF, argsToLocals, Value.category]; done) | rfl
theorem rmCO2 (l : Launch) (Z : State) (a0 : Array Value) (hw : HW a0 Z) (ws : List Jvm.Cond) (va : Int32) (vb : Int32) (al : Addr) (ed : Addr) (xa : Addr) (xb : Addr) (_j : ClassId) (h0 : Heap) (n0 : Nat) (Z0 : n0 ≤ h0.size) (_v : Exa Z h0 al s_g) (_c : Fld Z h0 al s_g s_w s_k (.ref ed)) (_i : Fld Z h0 al s_g "size" "I" (.int 2)) (_w : Arv Z h0 ed _j (.object s_e) (10 : Int32) [(.ref xa), (.ref xb), .null, .null, .null, .null, .null, .null, .null, .null] .null) (_y : Ovr Z _j s_e) (_z : Exa Z h0 ed s_k) (_A : Exa Z h0 xa s_i) (_f : Fld Z h0 xa s_i "value" "I" (.int va)) (_B : Exa Z h0 xb s_i) (_g : Fld Z h0 xb s_i "value" "I" (.int vb)) (MM : ∃ (c : ClassId) (kk : Class) (mi : Addr), Z.vm.findClass s_k = some c ∧ Z.vm.classes[c]? = some kk ∧ kk.mirror = some mi) :
  Meets l Z mn_51 jdk_40_method_48_code 1 (some (.object s_y)) ({ frames := 8, cells := 3, slots := 15, locals := 103 } : Room) ws #[(.ref al)] h0 (fun v h L => ∃ (_b : Addr) (_a : Addr) (_d : ClassId), v = some (.ref _a) ∧ Fr n0 L ∧ Ext h0 h ∧ h0.size ≤ _b ∧ h0.size ≤ _a ∧ Arv Z h _b _d (.object s_e) (2 : Int32) [(.ref xa), (.ref xb)] .null ∧ Exa Z h _a s_m ∧ Fld Z h _a s_m "e0" s_l (.ref xa) ∧ Fld Z h _a s_m "e1" s_l (.ref xb) ∧ _b ≠ _a) := by
 refine Meets.of (plainFor_of_name pn_12) ?_
 intro p e s m _h _H c s₁ X0 hx hby hml _C hlk hnm hZ _k e0
 replace _k : s.vm.findClass s_y = some m.cls := _k
 have N0 := Fr.nil n0
 have Q0 := own_extR h0
 refine Go.cast (ef_CO2 m al) ?_
 show Go p e s _h _ _ _ s₁ (mkF m 0 #[vR al] [])
 refine gs ?_ fun _ _k => XS.aloadN X0.here hx rfl (hb hby d12_0) rfl rfl _k
 show Go p e s _h _ _ _ s₁ (mkF m 1 #[vR al] [(.ref al)])
 refine Go.callS (W := 0) (argsL := [(.ref al)]) (rest := []) X0 hx hZ _k (y := mn_49) (qw hw 86 rfl) (qw hw 87 rfl) (qw hw 88 rfl) (qw hw 89 rfl) (rmLC2 l Z a0 hw [] va vb al ed xa xb _j h0 n0 (Nat.le_trans Z0 Q0.1) _v _c _i _w _y _z _A _f _B _g MM) e0 (by decide) (by rw [hml]; rfl) (lenOf pd25 rfl) (Nat.le_of_eq rfl) (hb hby d12_1) ?_
 intro T1 v1 L1 h1 e1 X1 hQ1
 obtain ⟨_b, _a, _d, rfl, N1, K1, _r, _t, _D, _E, _F, _G, _u⟩ := hQ1
 have M1 := Fr.app N0 N1
 have _o : h0.size ≤ _b := Nat.le_trans Q0.1 _r
 have _q : h0.size ≤ _a := Nat.le_trans Q0.1 _t
 show Go p e s _h _ _ _ T1 (mkF m 4 #[vR al] [(.ref _a)])
 have Q_1 := own_extE Q0 K1
 exact Go.retA X1 hx hlk _C rfl rfl (hb hby d12_4) (by decide) (by decide) ⟨_b, _a, _d, rfl, M1, (by rw [e1]; exact Q_1), _o, _q, (by rw [e1]; exact _D), (by rw [e1]; exact _E), (by rw [e1]; exact _F), (by rw [e1]; exact _G), _u⟩
theorem ef_LC3 (m : MethodId) (x0 : Addr) : entryFrame m #[(.ref x0)] 2 = mkF m 0 #[.val (.ref x0), .unset] [] := by first | (simp [entryFrame, mkF, argsToLocals, Value.category]; done) | rfl
theorem rmLC3 (l : Launch) (Z : State) (a0 : Array Value) (hw : HW a0 Z) (ws : List Jvm.Cond) (va : Int32) (vb : Int32) (vc : Int32) (al : Addr) (ed : Addr) (xa : Addr) (xb : Addr) (xc : Addr) (_I : ClassId) (h0 : Heap) (n0 : Nat) (Z0 : n0 ≤ h0.size) (_r : Exa Z h0 al s_g) (_i : Fld Z h0 al s_g s_w s_k (.ref ed)) (_q : Fld Z h0 al s_g "size" "I" (.int 3)) (_W : Arv Z h0 ed _I (.object s_e) (10 : Int32) [(.ref xa), (.ref xb), (.ref xc), .null, .null, .null, .null, .null, .null, .null] .null) (_aa : Ovr Z _I s_e) (_ba : Exa Z h0 ed s_k) (_ca : Exa Z h0 xa s_i) (_y : Fld Z h0 xa s_i "value" "I" (.int va)) (_da : Exa Z h0 xb s_i) (_z : Fld Z h0 xb s_i "value" "I" (.int vb)) (_fa : Exa Z h0 xc s_i) (_A : Fld Z h0 xc s_i "value" "I" (.int vc)) (MM : ∃ (c : ClassId) (kk : Class) (mi : Addr), Z.vm.findClass s_k = some c ∧ Z.vm.classes[c]? = some kk ∧ kk.mirror = some mi) :
  Meets l Z mn_49 jdk_56_method_3_code 2 (some (.object s_y)) ({ frames := 7, cells := 3, slots := 15, locals := 90 } : Room) ws #[(.ref al)] h0 (fun v h L => ∃ (_c : Addr) (_b : Addr) (_a : Addr) (_B : ClassId) (_k : ClassId), v = some (.ref _a) ∧ Fr n0 L ∧ Ext h0 h ∧ h0.size ≤ _c ∧ h0.size ≤ _b ∧ h0.size ≤ _a ∧ Arv Z h _c _B (.object s_e) (3 : Int32) [(.ref xa), (.ref xb), (.ref xc)] .null ∧ Arv Z h _b _k (.object s_e) (3 : Int32) [(.ref xa), (.ref xb), (.ref xc)] .null ∧ Exa Z h _a s_s ∧ Fld Z h _a s_s "elements" s_k (.ref _b) ∧ Fld Z h _a s_s "allowNulls" "Z" (.int (nar .boolean (0 : Int32))) ∧ Ovr Z _k s_e ∧ _c ≠ _b ∧ _c ≠ _a ∧ _b ≠ _a) := by
 refine Meets.of (plainFor_of_name pn_17) ?_
 intro p e s m _o _oa c s₁ X0 hx hby hml _ga hlk hnm hZ _j e0
 replace _j : s.vm.findClass s_u = some m.cls := _j
 have N0 := Fr.nil n0
 have Q0 := own_extR h0
 refine Go.cast (ef_LC3 m al) ?_
 show Go p e s _o _ _ _ s₁ (mkF m 0 #[vR al, vU] [])
 refine gs ?_ fun _ _k => XS.aloadN X0.here hx rfl (hb hby d13_0) rfl rfl _k
 obtain ⟨T1, X1, e1, st1⟩ := instNo X0 hx hZ _j (qw hw 90 rfl) e0 _r (own_nsNo (qw hw 91 rfl) (qw hw 302 rfl) (NS.step (qw hw 91 rfl) (NS.step (qw hw 92 rfl) (NS.step (qw hw 93 rfl) (own_nsRoot (qw hw 94 rfl) (qw hw 302 rfl) (by decide)) (by decide)) (by decide)) (by decide)) (by decide)) (g := (mkF m 1 #[vR al, vU] [(.ref al)])) rfl rfl (hb hby d13_1)
 refine Go.st st1 ?_
 refine gs ?_ fun _ _k => XS.ifNo X1.here hx rfl (hb hby d13_4) rfl ((if0 _ _).trans (teq rfl).2) _k
 refine gs ?_ fun _ _k => XS.aloadN X1.here hx rfl (hb hby d13_7) rfl rfl _k
 obtain ⟨T2, X2, e2, st2⟩ := instNo X1 hx hZ _j (qw hw 95 rfl) e1 _r (own_nsNo (qw hw 91 rfl) (qw hw 386 rfl) (NS.step (qw hw 91 rfl) (NS.step (qw hw 92 rfl) (NS.step (qw hw 93 rfl) (own_nsRoot (qw hw 94 rfl) (qw hw 386 rfl) (by decide)) (by decide)) (by decide)) (by decide)) (by decide)) (g := (mkF m 8 #[vR al, vU] [(.ref al)])) rfl rfl (hb hby d13_8)
 refine Go.st st2 ?_
 refine gs ?_ fun _ _k => XS.ifYes X2.here hx rfl (pc0 := 11) (pc' := 31) rfl (hb hby d13_11) rfl ((if0 _ _).trans (teq rfl).1) (by decide) (by decide) _k
 refine gs ?_ fun _ _k => XS.aloadN X2.here hx rfl (hb hby d13_31) rfl rfl _k
 show Go p e s _o _ _ _ T2 (mkF m 32 #[vR al, vU] [(.ref al)])
 refine Go.callF (b := al) (W := 0) (argsL := []) (rest := []) X2 hx hZ _j (y := mn_50) (z := mn_37) (qw hw 96 rfl) (qw hw 97 rfl) (qw hw 98 rfl) rfl (qw hw 99 rfl) (qw hw 100 rfl) (qw hw 101 rfl) (qw hw 102 rfl) (qw hw 103 rfl) (qw hw 52 rfl) (qw hw 104 rfl) (rmIS3 l Z a0 hw [] al h0 n0 (Nat.le_trans Z0 Q0.1) _r _q) e2 _r (by decide) (by rw [hml]; rfl) (lenOf pd23 rfl) (Nat.le_of_eq rfl) (hb hby d13_32) ?_
 intro T3 v3 L3 h3 e3 X3 hQ3
 obtain ⟨rfl, N3, K3⟩ := hQ3
 have M3 := Fr.app N0 N3
 refine gs ?_ fun _ _k => XS.ifYes X3.here hx rfl (pc0 := 37) (pc' := 44) rfl (hb hby d13_37) rfl ((if0 _ _).trans (teq (by decide)).1) (by decide) (by decide) _k
 refine gs ?_ fun _ _k => XS.aloadN X3.here hx rfl (hb hby d13_44) rfl rfl _k
 show Go p e s _o _ _ _ T3 (mkF m 45 #[vR al, vU] [(.ref al)])
 have Q_3 := own_extE Q0 K3
 have _D := _r.ext K3
 have _d := _i.ext K3
 have _w := _q.ext K3
 have _N := _W.ext K3
 have _O := _ba.ext K3
 have _E := _ca.ext K3
 have _f := _y.ext K3
 have _F := _da.ext K3
 have _g := _z.ext K3
 have _G := _fa.ext K3
 have _h := _A.ext K3
 refine Go.callF (b := al) (W := 0) (argsL := []) (rest := []) X3 hx hZ _j (y := mn_52) (z := mn_48) (qw hw 268 rfl) (qw hw 269 rfl) (qw hw 270 rfl) rfl (qw hw 271 rfl) (qw hw 272 rfl) (qw hw 273 rfl) (qw hw 274 rfl) (qw hw 103 rfl) (qw hw 52 rfl) (qw hw 275 rfl) (rmTA3 l Z a0 hw [] va vb vc al ed xa xb xc _I h3 n0 (Nat.le_trans Z0 Q_3.1) _D _d _w _N _aa _O _E _f _F _g _G _h MM) e3 _D (by decide) (by rw [hml]; rfl) (lenOf pd15 rfl) (Nat.le_of_eq rfl) (hb hby d13_45) ?_
 intro T4 v4 L4 h4 e4 X4 hQ4
 obtain ⟨_c, _B, rfl, N4, K4, _T, _C⟩ := hQ4
 have M4 := Fr.app M3 N4
 have _P : h0.size ≤ _c := Nat.le_trans Q_3.1 _T
 show Go p e s _o _ _ _ T4 (mkF m 50 #[vR al, vU] [(.ref _c)])
 have Q_4 := own_extE Q_3 K4
 have _Q := _E.ext K4
 have _t := _f.ext K4
 have _R := _F.ext K4
 have _u := _g.ext K4
 have _S := _G.ext K4
 have _v := _h.ext K4
 refine Go.callS (W := 0) (argsL := [(.ref _c)]) (rest := []) X4 hx hZ _j (y := mn_46) (qw hw 298 rfl) (qw hw 299 rfl) (qw hw 84 rfl) (qw hw 300 rfl) (rmLOA3 l Z a0 hw [] va vb vc _c xa xb xc _B h4 n0 (Nat.le_trans Z0 Q_4.1) _C _Q _t _R _u _S _v) e4 (by decide) (by rw [hml]; rfl) (lenOf pd21 rfl) (Nat.le_of_eq rfl) (hb hby d13_50) ?_
 intro T5 v5 L5 h5 e5 X5 hQ5
 obtain ⟨_b, _a, _k, rfl, N5, K5, _L, _M, _ha, _ia, _ja, _ka, _U, _V⟩ := hQ5
 have M5 := Fr.app M4 N5
 have _J : h0.size ≤ _b := Nat.le_trans Q_4.1 _L
 have _H : h0.size ≤ _a := Nat.le_trans Q_4.1 _M
 show Go p e s _o _ _ _ T5 (mkF m 53 #[vR al, vU] [(.ref _a)])
 have _K := _C.ext K5
 have Q_5 := own_extE Q_4 K5
 have nq6 : _c ≠ _b := Nat.ne_of_lt (Nat.lt_of_lt_of_le (_C).lt _L)
 have nq7 : _c ≠ _a := Nat.ne_of_lt (Nat.lt_of_lt_of_le (_C).lt _M)
 exact Go.retA X5 hx hlk _ga rfl rfl (hb hby d13_53) (by decide) (by decide) ⟨_c, _b, _a, _B, _k, rfl, M5, (by rw [e5]; exact Q_5), _P, _J, _H, (by rw [e5]; exact _K), (by rw [e5]; exact _ha), (by rw [e5]; exact _ia), (by rw [e5]; exact _ja), (by rw [e5]; exact _ka), _U, nq6, nq7, _V⟩
theorem ef_CO3 (m : MethodId) (x0 : Addr) : entryFrame m #[(.ref x0)] 1 = mkF m 0 #[.val (.ref x0)] [] := by first | (simp [entryFrame, mkF, argsToLocals, Value.category]; done) | rfl
theorem rmCO3 (l : Launch) (Z : State) (a0 : Array Value) (hw : HW a0 Z) (ws : List Jvm.Cond) (va : Int32) (vb : Int32) (vc : Int32) (al : Addr) (ed : Addr) (xa : Addr) (xb : Addr) (xc : Addr) (_t : ClassId) (h0 : Heap) (n0 : Nat) (Z0 : n0 ≤ h0.size) (_E : Exa Z h0 al s_g) (_f : Fld Z h0 al s_g s_w s_k (.ref ed)) (_r : Fld Z h0 al s_g "size" "I" (.int 3)) (_F : Arv Z h0 ed _t (.object s_e) (10 : Int32) [(.ref xa), (.ref xb), (.ref xc), .null, .null, .null, .null, .null, .null, .null] .null) (_G : Ovr Z _t s_e) (_H : Exa Z h0 ed s_k) (_I : Exa Z h0 xa s_i) (_i : Fld Z h0 xa s_i "value" "I" (.int va)) (_J : Exa Z h0 xb s_i) (_j : Fld Z h0 xb s_i "value" "I" (.int vb)) (_K : Exa Z h0 xc s_i) (_k : Fld Z h0 xc s_i "value" "I" (.int vc)) (MM : ∃ (c : ClassId) (kk : Class) (mi : Addr), Z.vm.findClass s_k = some c ∧ Z.vm.classes[c]? = some kk ∧ kk.mirror = some mi) :
  Meets l Z mn_51 jdk_40_method_48_code 1 (some (.object s_y)) ({ frames := 8, cells := 3, slots := 15, locals := 103 } : Room) ws #[(.ref al)] h0 (fun v h L => ∃ (_c : Addr) (_b : Addr) (_a : Addr) (_g : ClassId) (_d : ClassId), v = some (.ref _a) ∧ Fr n0 L ∧ Ext h0 h ∧ h0.size ≤ _c ∧ h0.size ≤ _b ∧ h0.size ≤ _a ∧ Arv Z h _c _g (.object s_e) (3 : Int32) [(.ref xa), (.ref xb), (.ref xc)] .null ∧ Arv Z h _b _d (.object s_e) (3 : Int32) [(.ref xa), (.ref xb), (.ref xc)] .null ∧ Exa Z h _a s_s ∧ Fld Z h _a s_s "elements" s_k (.ref _b) ∧ Fld Z h _a s_s "allowNulls" "Z" (.int (nar .boolean (0 : Int32))) ∧ Ovr Z _d s_e ∧ _c ≠ _b ∧ _c ≠ _a ∧ _b ≠ _a) := by
 refine Meets.of (plainFor_of_name pn_12) ?_
 intro p e s m _o _R c s₁ X0 hx hby hml _L hlk hnm hZ _u e0
 replace _u : s.vm.findClass s_y = some m.cls := _u
 have N0 := Fr.nil n0
 have Q0 := own_extR h0
 refine Go.cast (ef_CO3 m al) ?_
 show Go p e s _o _ _ _ s₁ (mkF m 0 #[vR al] [])
 refine gs ?_ fun _ _k => XS.aloadN X0.here hx rfl (hb hby d12_0) rfl rfl _k
 show Go p e s _o _ _ _ s₁ (mkF m 1 #[vR al] [(.ref al)])
 refine Go.callS (W := 0) (argsL := [(.ref al)]) (rest := []) X0 hx hZ _u (y := mn_49) (qw hw 86 rfl) (qw hw 87 rfl) (qw hw 88 rfl) (qw hw 89 rfl) (rmLC3 l Z a0 hw [] va vb vc al ed xa xb xc _t h0 n0 (Nat.le_trans Z0 Q0.1) _E _f _r _F _G _H _I _i _J _j _K _k MM) e0 (by decide) (by rw [hml]; rfl) (lenOf pd25 rfl) (Nat.le_of_eq rfl) (hb hby d12_1) ?_
 intro T1 v1 L1 h1 e1 X1 hQ1
 obtain ⟨_c, _b, _a, _g, _d, rfl, N1, K1, _w, _y, _z, _M, _N, _O, _P, _Q, _A, _B, _C, _D⟩ := hQ1
 have M1 := Fr.app N0 N1
 have _v : h0.size ≤ _c := Nat.le_trans Q0.1 _w
 have _q : h0.size ≤ _b := Nat.le_trans Q0.1 _y
 have _h : h0.size ≤ _a := Nat.le_trans Q0.1 _z
 show Go p e s _o _ _ _ T1 (mkF m 4 #[vR al] [(.ref _a)])
 have Q_1 := own_extE Q0 K1
 exact Go.retA X1 hx hlk _L rfl rfl (hb hby d12_4) (by decide) (by decide) ⟨_c, _b, _a, _g, _d, rfl, M1, (by rw [e1]; exact Q_1), _v, _q, _h, (by rw [e1]; exact _M), (by rw [e1]; exact _N), (by rw [e1]; exact _O), (by rw [e1]; exact _P), (by rw [e1]; exact _Q), _A, _B, _C, _D⟩
def ALK0 (Z : State) (h : Heap) (al : Addr) : Prop := ∃ (dc : Addr), Exa Z h al s_g ∧ Fld Z h al s_g s_w s_k (.ref dc) ∧ Fld Z h al s_g "size" "I" (.int 0)
theorem ALK0.ext {Z : State} {h h' : Heap} {al : Addr} (F : ALK0 Z h al) (E : Ext h h') : ALK0 Z h' al := by obtain ⟨dc, q0, q1, q2⟩ := F; exact ⟨dc, q0.ext E, q1.ext E, q2.ext E⟩
def ALK1 (Z : State) (h : Heap) (al : Addr) : Prop := ∃ (ed : Addr) (xa : Addr) (k_ed : ClassId) (va : Int32), Exa Z h al s_g ∧ Fld Z h al s_g s_w s_k (.ref ed) ∧ Fld Z h al s_g "size" "I" (.int 1) ∧ Arv Z h ed k_ed (.object s_e) (10 : Int32) [(.ref xa), .null, .null, .null, .null, .null, .null, .null, .null, .null] .null ∧ Ovr Z k_ed s_e ∧ Exa Z h ed s_k ∧ Exa Z h xa s_i ∧ Fld Z h xa s_i "value" "I" (.int va)
theorem ALK1.ext {Z : State} {h h' : Heap} {al : Addr} (F : ALK1 Z h al) (E : Ext h h') : ALK1 Z h' al := by obtain ⟨ed, xa, k_ed, va, q0, q1, q2, q3, q4, q5, q6, q7⟩ := F; exact ⟨ed, xa, k_ed, va, q0.ext E, q1.ext E, q2.ext E, q3.ext E, q4, q5.ext E, q6.ext E, q7.ext E⟩
def ALK2 (Z : State) (h : Heap) (al : Addr) : Prop := ∃ (ed : Addr) (xa : Addr) (xb : Addr) (k_ed : ClassId) (va : Int32) (vb : Int32), Exa Z h al s_g ∧ Fld Z h al s_g s_w s_k (.ref ed) ∧ Fld Z h al s_g "size" "I" (.int 2) ∧ Arv Z h ed k_ed (.object s_e) (10 : Int32) [(.ref xa), (.ref xb), .null, .null, .null, .null, .null, .null, .null, .null] .null ∧ Ovr Z k_ed s_e ∧ Exa Z h ed s_k ∧ Exa Z h xa s_i ∧ Fld Z h xa s_i "value" "I" (.int va) ∧ Exa Z h xb s_i ∧ Fld Z h xb s_i "value" "I" (.int vb)
theorem ALK2.ext {Z : State} {h h' : Heap} {al : Addr} (F : ALK2 Z h al) (E : Ext h h') : ALK2 Z h' al := by obtain ⟨ed, xa, xb, k_ed, va, vb, q0, q1, q2, q3, q4, q5, q6, q7, q8, q9⟩ := F; exact ⟨ed, xa, xb, k_ed, va, vb, q0.ext E, q1.ext E, q2.ext E, q3.ext E, q4, q5.ext E, q6.ext E, q7.ext E, q8.ext E, q9.ext E⟩
def ALK3 (Z : State) (h : Heap) (al : Addr) : Prop := ∃ (ed : Addr) (xa : Addr) (xb : Addr) (xc : Addr) (k_ed : ClassId) (va : Int32) (vb : Int32) (vc : Int32), Exa Z h al s_g ∧ Fld Z h al s_g s_w s_k (.ref ed) ∧ Fld Z h al s_g "size" "I" (.int 3) ∧ Arv Z h ed k_ed (.object s_e) (10 : Int32) [(.ref xa), (.ref xb), (.ref xc), .null, .null, .null, .null, .null, .null, .null] .null ∧ Ovr Z k_ed s_e ∧ Exa Z h ed s_k ∧ Exa Z h xa s_i ∧ Fld Z h xa s_i "value" "I" (.int va) ∧ Exa Z h xb s_i ∧ Fld Z h xb s_i "value" "I" (.int vb) ∧ Exa Z h xc s_i ∧ Fld Z h xc s_i "value" "I" (.int vc)
theorem ALK3.ext {Z : State} {h h' : Heap} {al : Addr} (F : ALK3 Z h al) (E : Ext h h') : ALK3 Z h' al := by obtain ⟨ed, xa, xb, xc, k_ed, va, vb, vc, q0, q1, q2, q3, q4, q5, q6, q7, q8, q9, q10, q11⟩ := F; exact ⟨ed, xa, xb, xc, k_ed, va, vb, vc, q0.ext E, q1.ext E, q2.ext E, q3.ext E, q4, q5.ext E, q6.ext E, q7.ext E, q8.ext E, q9.ext E, q10.ext E, q11.ext E⟩
def ALK (Z : State) (h : Heap) (al : Addr) (n : Nat) : Prop := (n = 0 ∧ ALK0 Z h al) ∨ (n = 1 ∧ ALK1 Z h al) ∨ (n = 2 ∧ ALK2 Z h al) ∨ (n = 3 ∧ ALK3 Z h al)
theorem ALK.ext {Z : State} {h h' : Heap} {al : Addr} {n : Nat} (F : ALK Z h al n) (E : Ext h h') : ALK Z h' al n := by
  rcases F with ⟨q, F⟩ | ⟨q, F⟩ | ⟨q, F⟩ | ⟨q, F⟩
  · exact Or.inl ⟨q, F.ext E⟩
  · exact Or.inr (Or.inl ⟨q, F.ext E⟩)
  · exact Or.inr (Or.inr (Or.inl ⟨q, F.ext E⟩))
  · exact Or.inr (Or.inr (Or.inr ⟨q, F.ext E⟩))
theorem rmCOM (l : Launch) (Z : State) (a0 : Array Value) (hw : HW a0 Z) (ws : List Jvm.Cond) (al : Addr) (nl : Nat) (h0 : Heap) (n0 : Nat) (Z0 : n0 ≤ h0.size) (ZN : Z.heap.size ≤ n0) (EZ : Ext Z.heap h0) (AK : ALK Z h0 al nl) (el em : Addr) (SEL : Sta Z Z.heap s_u "EMPTY_LIST" "Ljava/util/ImmutableCollections$ListN;" (.ref el)) (SEM : Sta Z Z.heap s_u "EMPTY" s_l (.ref em)) (MM : ∃ (c : ClassId) (kk : Class) (mi : Addr), Z.vm.findClass s_k = some c ∧ Z.vm.classes[c]? = some kk ∧ kk.mirror = some mi) :
    Meets l Z mn_51 jdk_40_method_48_code 1 (some (.object s_y)) ({ frames := 8, cells := 3, slots := 15, locals := 103 } : Room) ws #[.ref al] h0 (fun v h L => ∃ x, v = some (.ref x) ∧ Fr n0 L ∧ Ext h0 h) := by
  rcases AK with ⟨q, F⟩ | ⟨q, F⟩ | ⟨q, F⟩ | ⟨q, F⟩
  · obtain ⟨dc, _f, _a, _b⟩ := F
    exact Meets.mono (rmCO0 l Z a0 hw ws dc el al h0 n0 Z0 ZN EZ _f _a _b SEL) (fun v h L hq => by obtain ⟨hv, hF, hE⟩ := hq; exact ⟨_, hv, hF, hE⟩)
  · obtain ⟨ed, xa, _g, va, _f, _a, _b, _h, _i, _j, _k, _c⟩ := F
    exact Meets.mono (rmCO1 l Z a0 hw ws va em al ed xa _g h0 n0 Z0 ZN EZ _f _a _b _h _i _j _k _c MM SEM) (fun v h L hq => by obtain ⟨_q, _u, _r, hv, hF, hE, -⟩ := hq; exact ⟨_, hv, hF, hE⟩)
  · obtain ⟨ed, xa, xb, _g, va, vb, _f, _a, _b, _h, _i, _j, _k, _c, _t, _d⟩ := F
    exact Meets.mono (rmCO2 l Z a0 hw ws va vb al ed xa xb _g h0 n0 Z0 _f _a _b _h _i _j _k _c _t _d MM) (fun v h L hq => by obtain ⟨_q, _u, _r, hv, hF, hE, -⟩ := hq; exact ⟨_, hv, hF, hE⟩)
  · obtain ⟨ed, xa, xb, xc, _g, va, vb, vc, _f, _a, _b, _h, _i, _j, _k, _c, _t, _d, _w, _o⟩ := F
    exact Meets.mono (rmCO3 l Z a0 hw ws va vb vc al ed xa xb xc _g h0 n0 Z0 _f _a _b _h _i _j _k _c _t _d _w _o MM) (fun v h L hq => by obtain ⟨_q, _y, _v, _r, _z, hv, hF, hE, -⟩ := hq; exact ⟨_, hv, hF, hE⟩)
theorem d7_0 : decode bc7 0 = .ok (.new 7, 3) := by decide +kernel
theorem d7_3 : decode bc7 3 = .ok (.dup, 1) := by decide +kernel
theorem d7_4 : decode bc7 4 = .ok (.invokespecial 9, 3) := by decide +kernel
theorem d7_7 : decode bc7 7 = .ok (.astore_n 1, 1) := by decide +kernel
theorem d7_8 : decode bc7 8 = .ok (.iload_n 0, 1) := by decide +kernel
theorem d7_9 : decode bc7 9 = .ok (.iconst 1, 1) := by decide +kernel
theorem d7_10 : decode bc7 10 = .ok (.iand, 1) := by decide +kernel
theorem d7_11 : decode bc7 11 = .ok (.ifCond .eq 12, 3) := by decide +kernel
theorem d7_23 : decode bc7 23 = .ok (.iload_n 0, 1) := by decide +kernel
theorem d7_24 : decode bc7 24 = .ok (.iconst 2, 1) := by decide +kernel
theorem d7_25 : decode bc7 25 = .ok (.iand, 1) := by decide +kernel
theorem d7_26 : decode bc7 26 = .ok (.ifCond .eq 12, 3) := by decide +kernel
theorem d7_38 : decode bc7 38 = .ok (.iload_n 0, 1) := by decide +kernel
theorem d7_39 : decode bc7 39 = .ok (.iconst 4, 1) := by decide +kernel
theorem d7_40 : decode bc7 40 = .ok (.iand, 1) := by decide +kernel
theorem d7_41 : decode bc7 41 = .ok (.ifCond .eq 12, 3) := by decide +kernel
theorem d7_53 : decode bc7 53 = .ok (.aload_n 1, 1) := by decide +kernel
theorem d7_54 : decode bc7 54 = .ok (.areturn, 1) := by decide +kernel
theorem ef_AW0 (m : MethodId) (x0 : Int32) : entryFrame m #[(.int x0)] 2 = mkF m 0 #[.val (.int x0), .unset] [] := by first | (simp [entryFrame, mkF, argsToLocals, Value.category]; done) | rfl
theorem rmAW0 (l : Launch) (Z : State) (a0 : Array Value) (hw : HW a0 Z) (ws : List Jvm.Cond) (ca : Addr) (cl : Cell) (dc : Addr) (ka : Addr) (kb : Addr) (kc : Addr) (_j : ClassId) (h0 : Heap) (n0 : Nat) (Z0 : n0 ≤ h0.size) (ZN : Z.heap.size ≤ n0) (EZ : Ext Z.heap h0) (_v : Arv Z h0 dc _j (.object s_e) (0 : Int32) [] .null) (_w : Exa Z h0 ka s_i) (_g : Fld Z h0 ka s_i "value" "I" (.int 0)) (_y : Exa Z h0 kb s_i) (_h : Fld Z h0 kb s_i "value" "I" (.int 1)) (_z : Exa Z h0 kc s_i) (_i : Fld Z h0 kc s_i "value" "I" (.int 2)) (SH : Sta Z Z.heap s_n "high" "I" (.int 127)) (SC : Sta Z Z.heap s_n "cache" "[Ljava/lang/Integer;" (.ref ca)) (BX : Bxs Z ca cl s_i "I" 256 (fun j => .int (j - 128))) (hia : cl.slots[128]? = some (.ref ka)) (hib : cl.slots[129]? = some (.ref kb)) (hic : cl.slots[130]? = some (.ref kc)) (SDC : Sta Z Z.heap s_g s_v s_k (.ref dc)) :
  Meets l Z mn_53 method_2_code 2 (some (.object s_g)) ({ frames := 5, cells := 2, slots := 13, locals := 69 } : Room) ws #[(.int 0)] h0 (fun v h L => ∃ (b1 : Addr), v = some (.ref b1) ∧ Fr n0 L ∧ Ext h0 h ∧ h0.size ≤ b1 ∧ Exa Z h b1 s_g ∧ Fld Z h b1 s_r s_x "I" (.int 0) ∧ Fld Z h b1 s_g s_w s_k (.ref dc) ∧ Fld Z h b1 s_g "size" "I" (.int 0)) := by
 refine Meets.of (plainFor_of_name pn_18) ?_
 intro p e s m _c _A c s₁ X0 hx hby hml _k hlk hnm hZ _d e0
 replace _d : s.vm.findClass s_t = some m.cls := _d
 have N0 := Fr.nil n0
 have Q0 := own_extR h0
 refine Go.cast (ef_AW0 m (0 : Int32)) ?_
 show Go p e s _c _ _ _ s₁ (mkF m 0 #[vI (0 : Int32), vU] [])
 obtain ⟨T1, h1, X1, e1, E1, A1, D1, -, st1⟩ := newO X0 hx hZ _d (qw hw 50 rfl) (qw hw 51 rfl) (qw hw 52 rfl) e0 (g := (mkF m 0 #[vI (0 : Int32), vU] [])) rfl (hb hby d7_0) (by decide) (by decide)
 obtain ⟨b1, g1⟩ : ∃ z, z = h0.size := ⟨_, rfl⟩
 rw [← g1] at A1 D1 st1
 have sz1 : h0.size ≤ b1 := Nat.le_trans Q0.1 (Nat.le_of_eq g1.symm)
 have gn1 : n0 ≤ b1 := Nat.le_trans Z0 sz1
 refine Go.st st1 ?_
 have _b : Fld Z h1 b1 s_r s_x "I" (.int 0) := D1 (Or.inl (qw hw 70 rfl)) (ty := .int) (by decide)
 have _a : Fld Z h1 b1 s_g s_w s_k .null := D1 (Or.inl (qw hw 73 rfl)) (ty := (.array (.object s_e))) (by decide)
 have _f : Fld Z h1 b1 s_g "size" "I" (.int 0) := D1 (Or.inl (qw hw 106 rfl)) (ty := .int) (by decide)
 refine gs ?_ fun _ _k => XS.dup X1.here hx rfl (hb hby d7_3) rfl rfl _k
 show Go p e s _c _ _ _ T1 (mkF m 4 #[vI (0 : Int32), vU] [(.ref b1), (.ref b1)])
 have Q_1 := own_extE Q0 E1
 have _o := own_extE EZ E1
 refine Go.callC (b := b1) (W := 1) (argsL := []) (rest := [(.ref b1)]) X1 hx hZ (y := mn_30) rfl _d (qw hw 53 rfl) (qw hw 54 rfl) (qw hw 52 rfl) (qw hw 55 rfl) (rmAI l Z a0 hw [] dc b1 h1 n0 (Nat.le_trans Z0 Q_1.1) ZN _o gn1 A1 _b _a _f SDC) e1 (by decide) (by rw [hml]; rfl) (lenOf pd0 rfl) (Nat.le_of_eq rfl) (hb hby d7_4) ?_
 intro T2 v2 L2 h2 e2 X2 hQ2
 obtain ⟨rfl, N2, K2, _q, _r, _t, _u⟩ := hQ2
 have M2 := Fr.app N0 N2
 refine gs ?_ fun _ _k => XS.astoreN X2.here hx rfl (hb hby d7_7) rfl rfl (l' := #[vI (0 : Int32), vR b1]) rfl _k
 refine gs ?_ fun _ _k => XS.iloadN X2.here hx rfl (hb hby d7_8) rfl _k
 refine gs ?_ fun _ _k => XT.iconstV X2.here hx rfl (1 : Int32) (hb hby d7_9) (by decide) _k
 refine gs ?_ fun _ _k => XS.iand X2.here hx rfl (hb hby d7_10) rfl _k
 refine gs ?_ fun _ _k => XS.ifYes X2.here hx rfl (pc0 := 11) (pc' := 23) rfl (hb hby d7_11) rfl ((if0 _ _).trans (teq (by decide)).1) (by decide) (by decide) _k
 refine gs ?_ fun _ _k => XS.iloadN X2.here hx rfl (hb hby d7_23) rfl _k
 refine gs ?_ fun _ _k => XT.iconstV X2.here hx rfl (2 : Int32) (hb hby d7_24) (by decide) _k
 refine gs ?_ fun _ _k => XS.iand X2.here hx rfl (hb hby d7_25) rfl _k
 refine gs ?_ fun _ _k => XS.ifYes X2.here hx rfl (pc0 := 26) (pc' := 38) rfl (hb hby d7_26) rfl ((if0 _ _).trans (teq (by decide)).1) (by decide) (by decide) _k
 refine gs ?_ fun _ _k => XS.iloadN X2.here hx rfl (hb hby d7_38) rfl _k
 refine gs ?_ fun _ _k => XT.iconstV X2.here hx rfl (4 : Int32) (hb hby d7_39) (by decide) _k
 refine gs ?_ fun _ _k => XS.iand X2.here hx rfl (hb hby d7_40) rfl _k
 refine gs ?_ fun _ _k => XS.ifYes X2.here hx rfl (pc0 := 41) (pc' := 53) rfl (hb hby d7_41) rfl ((if0 _ _).trans (teq (by decide)).1) (by decide) (by decide) _k
 refine gs ?_ fun _ _k => XS.aloadN X2.here hx rfl (hb hby d7_53) rfl rfl _k
 show Go p e s _c _ _ _ T2 (mkF m 54 #[vI (0 : Int32), vR b1] [(.ref b1)])
 have Q_2 := own_extK Q_1 K2 (allS sz1 all0)
 exact Go.retA X2 hx hlk _k rfl rfl (hb hby d7_54) (by decide) (by decide) ⟨b1, rfl, M2, (by rw [e2]; exact Q_2), sz1, (by rw [e2]; exact _q), (by rw [e2]; exact _r), (by rw [e2]; exact _t), (by rw [e2]; exact _u)⟩
theorem pd26 : parseMethodDescriptor "(I)Ljava/lang/Integer;" = some ⟨[.int], some (.object s_i)⟩ := by decide +kernel
theorem d7_14 : decode bc7 14 = .ok (.aload_n 1, 1) := by decide +kernel
theorem d7_15 : decode bc7 15 = .ok (.iconst 0, 1) := by decide +kernel
theorem d7_16 : decode bc7 16 = .ok (.invokestatic 10, 3) := by decide +kernel
theorem d7_19 : decode bc7 19 = .ok (.invokevirtual 16, 3) := by decide +kernel
theorem d7_22 : decode bc7 22 = .ok (.pop, 1) := by decide +kernel
theorem ef_AW1 (m : MethodId) (x0 : Int32) : entryFrame m #[(.int x0)] 2 = mkF m 0 #[.val (.int x0), .unset] [] := by first | (simp [entryFrame, mkF, argsToLocals, Value.category]; done) | rfl
theorem rmAW1 (l : Launch) (Z : State) (a0 : Array Value) (hw : HW a0 Z) (ws : List Jvm.Cond) (ca : Addr) (cl : Cell) (dc : Addr) (ka : Addr) (kb : Addr) (kc : Addr) (_y : ClassId) (h0 : Heap) (n0 : Nat) (Z0 : n0 ≤ h0.size) (ZN : Z.heap.size ≤ n0) (EZ : Ext Z.heap h0) (_u : Arv Z h0 dc _y (.object s_e) (0 : Int32) [] .null) (_v : Exa Z h0 ka s_i) (_r : Fld Z h0 ka s_i "value" "I" (.int 0)) (_S : Exa Z h0 kb s_i) (_D : Fld Z h0 kb s_i "value" "I" (.int 1)) (_T : Exa Z h0 kc s_i) (_E : Fld Z h0 kc s_i "value" "I" (.int 2)) (SH : Sta Z Z.heap s_n "high" "I" (.int 127)) (SC : Sta Z Z.heap s_n "cache" "[Ljava/lang/Integer;" (.ref ca)) (BX : Bxs Z ca cl s_i "I" 256 (fun j => .int (j - 128))) (hia : cl.slots[128]? = some (.ref ka)) (hib : cl.slots[129]? = some (.ref kb)) (hic : cl.slots[130]? = some (.ref kc)) (SDC : Sta Z Z.heap s_g s_v s_k (.ref dc)) :
  Meets l Z mn_53 method_2_code 2 (some (.object s_g)) ({ frames := 5, cells := 2, slots := 13, locals := 69 } : Room) ws #[(.int 1)] h0 (fun v h L => ∃ (b1 : Addr) (_a : Addr) (_b : ClassId), v = some (.ref b1) ∧ Fr n0 L ∧ Ext h0 h ∧ h0.size ≤ b1 ∧ h0.size ≤ _a ∧ Exa Z h b1 s_g ∧ Fld Z h b1 s_r s_x "I" (.int 1) ∧ Fld Z h b1 s_g s_w s_k (.ref _a) ∧ Fld Z h b1 s_g "size" "I" (.int 1) ∧ Arv Z h _a _b (.object s_e) (10 : Int32) [(.ref ka), .null, .null, .null, .null, .null, .null, .null, .null, .null] .null ∧ Exa Z h _a s_k ∧ Ovr Z _b s_e ∧ b1 ≠ _a) := by
 refine Meets.of (plainFor_of_name pn_18) ?_
 intro p e s m _f _U c s₁ X0 hx hby hml _G hlk hnm hZ _h e0
 replace _h : s.vm.findClass s_t = some m.cls := _h
 have N0 := Fr.nil n0
 have Q0 := own_extR h0
 refine Go.cast (ef_AW1 m (1 : Int32)) ?_
 show Go p e s _f _ _ _ s₁ (mkF m 0 #[vI (1 : Int32), vU] [])
 obtain ⟨T1, h1, X1, e1, E1, A1, D1, -, st1⟩ := newO X0 hx hZ _h (qw hw 50 rfl) (qw hw 51 rfl) (qw hw 52 rfl) e0 (g := (mkF m 0 #[vI (1 : Int32), vU] [])) rfl (hb hby d7_0) (by decide) (by decide)
 obtain ⟨b1, g1⟩ : ∃ z, z = h0.size := ⟨_, rfl⟩
 rw [← g1] at A1 D1 st1
 have sz1 : h0.size ≤ b1 := Nat.le_trans Q0.1 (Nat.le_of_eq g1.symm)
 have gn1 : n0 ≤ b1 := Nat.le_trans Z0 sz1
 refine Go.st st1 ?_
 have _i : Fld Z h1 b1 s_r s_x "I" (.int 0) := D1 (Or.inl (qw hw 70 rfl)) (ty := .int) (by decide)
 have _d : Fld Z h1 b1 s_g s_w s_k .null := D1 (Or.inl (qw hw 73 rfl)) (ty := (.array (.object s_e))) (by decide)
 have _t : Fld Z h1 b1 s_g "size" "I" (.int 0) := D1 (Or.inl (qw hw 106 rfl)) (ty := .int) (by decide)
 refine gs ?_ fun _ _k => XS.dup X1.here hx rfl (hb hby d7_3) rfl rfl _k
 show Go p e s _f _ _ _ T1 (mkF m 4 #[vI (1 : Int32), vU] [(.ref b1), (.ref b1)])
 have Q_1 := own_extE Q0 E1
 have _z := own_extE EZ E1
 refine Go.callC (b := b1) (W := 1) (argsL := []) (rest := [(.ref b1)]) X1 hx hZ (y := mn_30) rfl _h (qw hw 53 rfl) (qw hw 54 rfl) (qw hw 52 rfl) (qw hw 55 rfl) (rmAI l Z a0 hw [] dc b1 h1 n0 (Nat.le_trans Z0 Q_1.1) ZN _z gn1 A1 _i _d _t SDC) e1 (by decide) (by rw [hml]; rfl) (lenOf pd0 rfl) (Nat.le_of_eq rfl) (hb hby d7_4) ?_
 intro T2 v2 L2 h2 e2 X2 hQ2
 obtain ⟨rfl, N2, K2, _H, _I, _J, _K⟩ := hQ2
 have M2 := Fr.app N0 N2
 refine gs ?_ fun _ _k => XS.astoreN X2.here hx rfl (hb hby d7_7) rfl rfl (l' := #[vI (1 : Int32), vR b1]) rfl _k
 refine gs ?_ fun _ _k => XS.iloadN X2.here hx rfl (hb hby d7_8) rfl _k
 refine gs ?_ fun _ _k => XT.iconstV X2.here hx rfl (1 : Int32) (hb hby d7_9) (by decide) _k
 refine gs ?_ fun _ _k => XS.iand X2.here hx rfl (hb hby d7_10) rfl _k
 refine gs ?_ fun _ _k => XS.ifNo X2.here hx rfl (hb hby d7_11) rfl ((if0 _ _).trans (feq (by decide)).1) _k
 refine gs ?_ fun _ _k => XS.aloadN X2.here hx rfl (hb hby d7_14) rfl rfl _k
 refine gs ?_ fun _ _k => XT.iconstV X2.here hx rfl (0 : Int32) (hb hby d7_15) (by decide) _k
 show Go p e s _f _ _ _ T2 (mkF m 16 #[vI (1 : Int32), vR b1] [(.int 0), (.ref b1)])
 have Q_2 := own_extK Q_1 K2 (allS sz1 all0)
 have _A := own_extK _z K2 (allS (Nat.le_trans ZN gn1) all0)
 refine Go.callS (W := 1) (argsL := [(.int 0)]) (rest := [(.ref b1)]) X2 hx hZ _h (y := mn_27) (qw hw 39 rfl) (qw hw 40 rfl) (qw hw 41 rfl) (qw hw 42 rfl) (rmVO0 l Z a0 hw [] ca cl ka h2 n0 (Nat.le_trans Z0 Q_2.1) ZN _A SH SC BX hia) e2 (by decide) (by rw [hml]; rfl) (lenOf pd26 rfl) (Nat.le_of_eq rfl) (hb hby d7_16) ?_
 intro T3 v3 L3 h3 e3 X3 hQ3
 obtain ⟨rfl, N3, K3⟩ := hQ3
 have M3 := Fr.app M2 N3
 show Go p e s _f _ _ _ T3 (mkF m 19 #[vI (1 : Int32), vR b1] [(.ref ka), (.ref b1)])
 have _q := _K.ext K3
 have _c := _J.ext K3
 have _j := ((_r.ext E1).keep K2 (ninS (Nat.ne_of_lt (Nat.lt_of_lt_of_le _v.lt sz1)) nin0)).ext K3
 have Q_3 := own_extE Q_2 K3
 have _L := own_extE _A K3
 have _k := _H.ext K3
 have _g := _I.ext K3
 have _B := ((_v.ext E1).keep K2).ext K3
 have _C := ((_u.ext E1).keep K2 (ninS (Nat.ne_of_lt (Nat.lt_of_lt_of_le _u.lt sz1)) nin0)).ext K3
 refine Go.callV (b := b1) (W := 0) (argsL := [(.ref ka)]) (rest := []) X3 hx hZ _h (y := mn_35) (z := mn_35) (qw hw 240 rfl) (qw hw 241 rfl) (notFace_of_selects (args := #[]) (mvT hZ (qw hw 243 rfl))) (qw hw 243 rfl) (qw hw 242 rfl) (qw hw 52 rfl) (qw hw 244 rfl) (rmA10 l Z a0 hw [] (0 : Int32) b1 ka dc _y h3 n0 (Nat.le_trans Z0 Q_3.1) ZN _L gn1 _k _g _c _q _B _j _C (Nat.ne_of_lt (Nat.lt_of_lt_of_le _v.lt sz1)) (Nat.ne_of_lt (Nat.lt_of_lt_of_le _u.lt sz1)) SDC) e3 _k (by decide) (by rw [hml]; rfl) (lenOf pd12 rfl) (Nat.le_of_eq rfl) (hb hby d7_19) ?_
 intro T4 v4 L4 h4 e4 X4 hQ4
 obtain ⟨_a, _b, rfl, N4, K4, _w, _M, _N, _O, _P, _Q, _R, _F⟩ := hQ4
 have M4 := Fr.app M3 N4
 have _o : h0.size ≤ _a := Nat.le_trans Q_3.1 _w
 refine gs ?_ fun _ _k => XS.pop X4.here hx rfl (hb hby d7_22) rfl rfl _k
 refine gs ?_ fun _ _k => XS.iloadN X4.here hx rfl (hb hby d7_23) rfl _k
 refine gs ?_ fun _ _k => XT.iconstV X4.here hx rfl (2 : Int32) (hb hby d7_24) (by decide) _k
 refine gs ?_ fun _ _k => XS.iand X4.here hx rfl (hb hby d7_25) rfl _k
 refine gs ?_ fun _ _k => XS.ifYes X4.here hx rfl (pc0 := 26) (pc' := 38) rfl (hb hby d7_26) rfl ((if0 _ _).trans (teq (by decide)).1) (by decide) (by decide) _k
 refine gs ?_ fun _ _k => XS.iloadN X4.here hx rfl (hb hby d7_38) rfl _k
 refine gs ?_ fun _ _k => XT.iconstV X4.here hx rfl (4 : Int32) (hb hby d7_39) (by decide) _k
 refine gs ?_ fun _ _k => XS.iand X4.here hx rfl (hb hby d7_40) rfl _k
 refine gs ?_ fun _ _k => XS.ifYes X4.here hx rfl (pc0 := 41) (pc' := 53) rfl (hb hby d7_41) rfl ((if0 _ _).trans (teq (by decide)).1) (by decide) (by decide) _k
 refine gs ?_ fun _ _k => XS.aloadN X4.here hx rfl (hb hby d7_53) rfl rfl _k
 show Go p e s _f _ _ _ T4 (mkF m 54 #[vI (1 : Int32), vR b1] [(.ref b1)])
 have Q_4 := own_extK Q_3 K4 (allS sz1 all0)
 have nq5 : b1 ≠ _a := Nat.ne_of_lt (Nat.lt_of_lt_of_le (_k).lt _w)
 exact Go.retA X4 hx hlk _G rfl rfl (hb hby d7_54) (by decide) (by decide) ⟨b1, _a, _b, rfl, M4, (by rw [e4]; exact Q_4), sz1, _o, (by rw [e4]; exact _M), (by rw [e4]; exact _N), (by rw [e4]; exact _O), (by rw [e4]; exact _P), (by rw [e4]; exact _Q), (by rw [e4]; exact _R), _F, nq5⟩
theorem d7_29 : decode bc7 29 = .ok (.aload_n 1, 1) := by decide +kernel
theorem d7_30 : decode bc7 30 = .ok (.iconst 1, 1) := by decide +kernel
theorem d7_31 : decode bc7 31 = .ok (.invokestatic 10, 3) := by decide +kernel
theorem d7_34 : decode bc7 34 = .ok (.invokevirtual 16, 3) := by decide +kernel
theorem d7_37 : decode bc7 37 = .ok (.pop, 1) := by decide +kernel
theorem ef_AW2 (m : MethodId) (x0 : Int32) : entryFrame m #[(.int x0)] 2 = mkF m 0 #[.val (.int x0), .unset] [] := by first | (simp [entryFrame, mkF, argsToLocals, Value.category]; done) | rfl
theorem rmAW2 (l : Launch) (Z : State) (a0 : Array Value) (hw : HW a0 Z) (ws : List Jvm.Cond) (ca : Addr) (cl : Cell) (dc : Addr) (ka : Addr) (kb : Addr) (kc : Addr) (_y : ClassId) (h0 : Heap) (n0 : Nat) (Z0 : n0 ≤ h0.size) (ZN : Z.heap.size ≤ n0) (EZ : Ext Z.heap h0) (_u : Arv Z h0 dc _y (.object s_e) (0 : Int32) [] .null) (_S : Exa Z h0 ka s_i) (_D : Fld Z h0 ka s_i "value" "I" (.int 0)) (_v : Exa Z h0 kb s_i) (_r : Fld Z h0 kb s_i "value" "I" (.int 1)) (_T : Exa Z h0 kc s_i) (_E : Fld Z h0 kc s_i "value" "I" (.int 2)) (SH : Sta Z Z.heap s_n "high" "I" (.int 127)) (SC : Sta Z Z.heap s_n "cache" "[Ljava/lang/Integer;" (.ref ca)) (BX : Bxs Z ca cl s_i "I" 256 (fun j => .int (j - 128))) (hia : cl.slots[128]? = some (.ref ka)) (hib : cl.slots[129]? = some (.ref kb)) (hic : cl.slots[130]? = some (.ref kc)) (SDC : Sta Z Z.heap s_g s_v s_k (.ref dc)) :
  Meets l Z mn_53 method_2_code 2 (some (.object s_g)) ({ frames := 5, cells := 2, slots := 13, locals := 69 } : Room) ws #[(.int 2)] h0 (fun v h L => ∃ (b1 : Addr) (_a : Addr) (_b : ClassId), v = some (.ref b1) ∧ Fr n0 L ∧ Ext h0 h ∧ h0.size ≤ b1 ∧ h0.size ≤ _a ∧ Exa Z h b1 s_g ∧ Fld Z h b1 s_r s_x "I" (.int 1) ∧ Fld Z h b1 s_g s_w s_k (.ref _a) ∧ Fld Z h b1 s_g "size" "I" (.int 1) ∧ Arv Z h _a _b (.object s_e) (10 : Int32) [(.ref kb), .null, .null, .null, .null, .null, .null, .null, .null, .null] .null ∧ Exa Z h _a s_k ∧ Ovr Z _b s_e ∧ b1 ≠ _a) := by
 refine Meets.of (plainFor_of_name pn_18) ?_
 intro p e s m _f _U c s₁ X0 hx hby hml _G hlk hnm hZ _h e0
 replace _h : s.vm.findClass s_t = some m.cls := _h
 have N0 := Fr.nil n0
 have Q0 := own_extR h0
 refine Go.cast (ef_AW2 m (2 : Int32)) ?_
 show Go p e s _f _ _ _ s₁ (mkF m 0 #[vI (2 : Int32), vU] [])
 obtain ⟨T1, h1, X1, e1, E1, A1, D1, -, st1⟩ := newO X0 hx hZ _h (qw hw 50 rfl) (qw hw 51 rfl) (qw hw 52 rfl) e0 (g := (mkF m 0 #[vI (2 : Int32), vU] [])) rfl (hb hby d7_0) (by decide) (by decide)
 obtain ⟨b1, g1⟩ : ∃ z, z = h0.size := ⟨_, rfl⟩
 rw [← g1] at A1 D1 st1
 have sz1 : h0.size ≤ b1 := Nat.le_trans Q0.1 (Nat.le_of_eq g1.symm)
 have gn1 : n0 ≤ b1 := Nat.le_trans Z0 sz1
 refine Go.st st1 ?_
 have _i : Fld Z h1 b1 s_r s_x "I" (.int 0) := D1 (Or.inl (qw hw 70 rfl)) (ty := .int) (by decide)
 have _d : Fld Z h1 b1 s_g s_w s_k .null := D1 (Or.inl (qw hw 73 rfl)) (ty := (.array (.object s_e))) (by decide)
 have _t : Fld Z h1 b1 s_g "size" "I" (.int 0) := D1 (Or.inl (qw hw 106 rfl)) (ty := .int) (by decide)
 refine gs ?_ fun _ _k => XS.dup X1.here hx rfl (hb hby d7_3) rfl rfl _k
 show Go p e s _f _ _ _ T1 (mkF m 4 #[vI (2 : Int32), vU] [(.ref b1), (.ref b1)])
 have Q_1 := own_extE Q0 E1
 have _z := own_extE EZ E1
 refine Go.callC (b := b1) (W := 1) (argsL := []) (rest := [(.ref b1)]) X1 hx hZ (y := mn_30) rfl _h (qw hw 53 rfl) (qw hw 54 rfl) (qw hw 52 rfl) (qw hw 55 rfl) (rmAI l Z a0 hw [] dc b1 h1 n0 (Nat.le_trans Z0 Q_1.1) ZN _z gn1 A1 _i _d _t SDC) e1 (by decide) (by rw [hml]; rfl) (lenOf pd0 rfl) (Nat.le_of_eq rfl) (hb hby d7_4) ?_
 intro T2 v2 L2 h2 e2 X2 hQ2
 obtain ⟨rfl, N2, K2, _H, _I, _J, _K⟩ := hQ2
 have M2 := Fr.app N0 N2
 refine gs ?_ fun _ _k => XS.astoreN X2.here hx rfl (hb hby d7_7) rfl rfl (l' := #[vI (2 : Int32), vR b1]) rfl _k
 refine gs ?_ fun _ _k => XS.iloadN X2.here hx rfl (hb hby d7_8) rfl _k
 refine gs ?_ fun _ _k => XT.iconstV X2.here hx rfl (1 : Int32) (hb hby d7_9) (by decide) _k
 refine gs ?_ fun _ _k => XS.iand X2.here hx rfl (hb hby d7_10) rfl _k
 refine gs ?_ fun _ _k => XS.ifYes X2.here hx rfl (pc0 := 11) (pc' := 23) rfl (hb hby d7_11) rfl ((if0 _ _).trans (teq (by decide)).1) (by decide) (by decide) _k
 refine gs ?_ fun _ _k => XS.iloadN X2.here hx rfl (hb hby d7_23) rfl _k
 refine gs ?_ fun _ _k => XT.iconstV X2.here hx rfl (2 : Int32) (hb hby d7_24) (by decide) _k
 refine gs ?_ fun _ _k => XS.iand X2.here hx rfl (hb hby d7_25) rfl _k
 refine gs ?_ fun _ _k => XS.ifNo X2.here hx rfl (hb hby d7_26) rfl ((if0 _ _).trans (feq (by decide)).1) _k
 refine gs ?_ fun _ _k => XS.aloadN X2.here hx rfl (hb hby d7_29) rfl rfl _k
 refine gs ?_ fun _ _k => XT.iconstV X2.here hx rfl (1 : Int32) (hb hby d7_30) (by decide) _k
 show Go p e s _f _ _ _ T2 (mkF m 31 #[vI (2 : Int32), vR b1] [(.int 1), (.ref b1)])
 have Q_2 := own_extK Q_1 K2 (allS sz1 all0)
 have _A := own_extK _z K2 (allS (Nat.le_trans ZN gn1) all0)
 refine Go.callS (W := 1) (argsL := [(.int 1)]) (rest := [(.ref b1)]) X2 hx hZ _h (y := mn_27) (qw hw 39 rfl) (qw hw 40 rfl) (qw hw 41 rfl) (qw hw 42 rfl) (rmVO1 l Z a0 hw [] ca cl kb h2 n0 (Nat.le_trans Z0 Q_2.1) ZN _A SH SC BX hib) e2 (by decide) (by rw [hml]; rfl) (lenOf pd26 rfl) (Nat.le_of_eq rfl) (hb hby d7_31) ?_
 intro T3 v3 L3 h3 e3 X3 hQ3
 obtain ⟨rfl, N3, K3⟩ := hQ3
 have M3 := Fr.app M2 N3
 show Go p e s _f _ _ _ T3 (mkF m 34 #[vI (2 : Int32), vR b1] [(.ref kb), (.ref b1)])
 have _q := _K.ext K3
 have _c := _J.ext K3
 have _j := ((_r.ext E1).keep K2 (ninS (Nat.ne_of_lt (Nat.lt_of_lt_of_le _v.lt sz1)) nin0)).ext K3
 have Q_3 := own_extE Q_2 K3
 have _L := own_extE _A K3
 have _k := _H.ext K3
 have _g := _I.ext K3
 have _B := ((_v.ext E1).keep K2).ext K3
 have _C := ((_u.ext E1).keep K2 (ninS (Nat.ne_of_lt (Nat.lt_of_lt_of_le _u.lt sz1)) nin0)).ext K3
 refine Go.callV (b := b1) (W := 0) (argsL := [(.ref kb)]) (rest := []) X3 hx hZ _h (y := mn_35) (z := mn_35) (qw hw 240 rfl) (qw hw 241 rfl) (notFace_of_selects (args := #[]) (mvT hZ (qw hw 243 rfl))) (qw hw 243 rfl) (qw hw 242 rfl) (qw hw 52 rfl) (qw hw 244 rfl) (rmA10 l Z a0 hw [] (1 : Int32) b1 kb dc _y h3 n0 (Nat.le_trans Z0 Q_3.1) ZN _L gn1 _k _g _c _q _B _j _C (Nat.ne_of_lt (Nat.lt_of_lt_of_le _v.lt sz1)) (Nat.ne_of_lt (Nat.lt_of_lt_of_le _u.lt sz1)) SDC) e3 _k (by decide) (by rw [hml]; rfl) (lenOf pd12 rfl) (Nat.le_of_eq rfl) (hb hby d7_34) ?_
 intro T4 v4 L4 h4 e4 X4 hQ4
 obtain ⟨_a, _b, rfl, N4, K4, _w, _M, _N, _O, _P, _Q, _R, _F⟩ := hQ4
 have M4 := Fr.app M3 N4
 have _o : h0.size ≤ _a := Nat.le_trans Q_3.1 _w
 refine gs ?_ fun _ _k => XS.pop X4.here hx rfl (hb hby d7_37) rfl rfl _k
 refine gs ?_ fun _ _k => XS.iloadN X4.here hx rfl (hb hby d7_38) rfl _k
 refine gs ?_ fun _ _k => XT.iconstV X4.here hx rfl (4 : Int32) (hb hby d7_39) (by decide) _k
 refine gs ?_ fun _ _k => XS.iand X4.here hx rfl (hb hby d7_40) rfl _k
 refine gs ?_ fun _ _k => XS.ifYes X4.here hx rfl (pc0 := 41) (pc' := 53) rfl (hb hby d7_41) rfl ((if0 _ _).trans (teq (by decide)).1) (by decide) (by decide) _k
 refine gs ?_ fun _ _k => XS.aloadN X4.here hx rfl (hb hby d7_53) rfl rfl _k
 show Go p e s _f _ _ _ T4 (mkF m 54 #[vI (2 : Int32), vR b1] [(.ref b1)])
 have Q_4 := own_extK Q_3 K4 (allS sz1 all0)
 have nq5 : b1 ≠ _a := Nat.ne_of_lt (Nat.lt_of_lt_of_le (_k).lt _w)
 exact Go.retA X4 hx hlk _G rfl rfl (hb hby d7_54) (by decide) (by decide) ⟨b1, _a, _b, rfl, M4, (by rw [e4]; exact Q_4), sz1, _o, (by rw [e4]; exact _M), (by rw [e4]; exact _N), (by rw [e4]; exact _O), (by rw [e4]; exact _P), (by rw [e4]; exact _Q), (by rw [e4]; exact _R), _F, nq5⟩
theorem ef_AW3 (m : MethodId) (x0 : Int32) : entryFrame m #[(.int x0)] 2 = mkF m 0 #[.val (.int x0), .unset] [] := by first | (simp [entryFrame, mkF, argsToLocals, Value.category]; done) | rfl
theorem rmAW3 (l : Launch) (Z : State) (a0 : Array Value) (hw : HW a0 Z) (ws : List Jvm.Cond) (ca : Addr) (cl : Cell) (dc : Addr) (ka : Addr) (kb : Addr) (kc : Addr) (_J : ClassId) (h0 : Heap) (n0 : Nat) (Z0 : n0 ≤ h0.size) (ZN : Z.heap.size ≤ n0) (EZ : Ext Z.heap h0) (_G : Arv Z h0 dc _J (.object s_e) (0 : Int32) [] .null) (_H : Exa Z h0 ka s_i) (_B : Fld Z h0 ka s_i "value" "I" (.int 0)) (_t : Exa Z h0 kb s_i) (_C : Fld Z h0 kb s_i "value" "I" (.int 1)) (_ra : Exa Z h0 kc s_i) (_Q : Fld Z h0 kc s_i "value" "I" (.int 2)) (SH : Sta Z Z.heap s_n "high" "I" (.int 127)) (SC : Sta Z Z.heap s_n "cache" "[Ljava/lang/Integer;" (.ref ca)) (BX : Bxs Z ca cl s_i "I" 256 (fun j => .int (j - 128))) (hia : cl.slots[128]? = some (.ref ka)) (hib : cl.slots[129]? = some (.ref kb)) (hic : cl.slots[130]? = some (.ref kc)) (SDC : Sta Z Z.heap s_g s_v s_k (.ref dc)) :
  Meets l Z mn_53 method_2_code 2 (some (.object s_g)) ({ frames := 5, cells := 2, slots := 13, locals := 69 } : Room) ws #[(.int 3)] h0 (fun v h L => ∃ (b1 : Addr) (_a : Addr) (_b : ClassId), v = some (.ref b1) ∧ Fr n0 L ∧ Ext h0 h ∧ h0.size ≤ b1 ∧ h0.size ≤ _a ∧ Exa Z h b1 s_g ∧ Fld Z h b1 s_r s_x "I" (.int 2) ∧ Fld Z h b1 s_g s_w s_k (.ref _a) ∧ Fld Z h b1 s_g "size" "I" (.int 2) ∧ Arv Z h _a _b (.object s_e) (10 : Int32) [(.ref ka), (.ref kb), .null, .null, .null, .null, .null, .null, .null, .null] .null ∧ Exa Z h _a s_k ∧ Ovr Z _b s_e ∧ b1 ≠ _a) := by
 refine Meets.of (plainFor_of_name pn_18) ?_
 intro p e s m _d _ta c s₁ X0 hx hby hml _R hlk hnm hZ _f e0
 replace _f : s.vm.findClass s_t = some m.cls := _f
 have N0 := Fr.nil n0
 have Q0 := own_extR h0
 refine Go.cast (ef_AW3 m (3 : Int32)) ?_
 show Go p e s _d _ _ _ s₁ (mkF m 0 #[vI (3 : Int32), vU] [])
 obtain ⟨T1, h1, X1, e1, E1, A1, D1, -, st1⟩ := newO X0 hx hZ _f (qw hw 50 rfl) (qw hw 51 rfl) (qw hw 52 rfl) e0 (g := (mkF m 0 #[vI (3 : Int32), vU] [])) rfl (hb hby d7_0) (by decide) (by decide)
 obtain ⟨b1, g1⟩ : ∃ z, z = h0.size := ⟨_, rfl⟩
 rw [← g1] at A1 D1 st1
 have sz1 : h0.size ≤ b1 := Nat.le_trans Q0.1 (Nat.le_of_eq g1.symm)
 have gn1 : n0 ≤ b1 := Nat.le_trans Z0 sz1
 refine Go.st st1 ?_
 have _r : Fld Z h1 b1 s_r s_x "I" (.int 0) := D1 (Or.inl (qw hw 70 rfl)) (ty := .int) (by decide)
 have _i : Fld Z h1 b1 s_g s_w s_k .null := D1 (Or.inl (qw hw 73 rfl)) (ty := (.array (.object s_e))) (by decide)
 have _E : Fld Z h1 b1 s_g "size" "I" (.int 0) := D1 (Or.inl (qw hw 106 rfl)) (ty := .int) (by decide)
 refine gs ?_ fun _ _k => XS.dup X1.here hx rfl (hb hby d7_3) rfl rfl _k
 show Go p e s _d _ _ _ T1 (mkF m 4 #[vI (3 : Int32), vU] [(.ref b1), (.ref b1)])
 have Q_1 := own_extE Q0 E1
 have _K := own_extE EZ E1
 refine Go.callC (b := b1) (W := 1) (argsL := []) (rest := [(.ref b1)]) X1 hx hZ (y := mn_30) rfl _f (qw hw 53 rfl) (qw hw 54 rfl) (qw hw 52 rfl) (qw hw 55 rfl) (rmAI l Z a0 hw [] dc b1 h1 n0 (Nat.le_trans Z0 Q_1.1) ZN _K gn1 A1 _r _i _E SDC) e1 (by decide) (by rw [hml]; rfl) (lenOf pd0 rfl) (Nat.le_of_eq rfl) (hb hby d7_4) ?_
 intro T2 v2 L2 h2 e2 X2 hQ2
 obtain ⟨rfl, N2, K2, _S, _T, _U, _V⟩ := hQ2
 have M2 := Fr.app N0 N2
 refine gs ?_ fun _ _k => XS.astoreN X2.here hx rfl (hb hby d7_7) rfl rfl (l' := #[vI (3 : Int32), vR b1]) rfl _k
 refine gs ?_ fun _ _k => XS.iloadN X2.here hx rfl (hb hby d7_8) rfl _k
 refine gs ?_ fun _ _k => XT.iconstV X2.here hx rfl (1 : Int32) (hb hby d7_9) (by decide) _k
 refine gs ?_ fun _ _k => XS.iand X2.here hx rfl (hb hby d7_10) rfl _k
 refine gs ?_ fun _ _k => XS.ifNo X2.here hx rfl (hb hby d7_11) rfl ((if0 _ _).trans (feq (by decide)).1) _k
 refine gs ?_ fun _ _k => XS.aloadN X2.here hx rfl (hb hby d7_14) rfl rfl _k
 refine gs ?_ fun _ _k => XT.iconstV X2.here hx rfl (0 : Int32) (hb hby d7_15) (by decide) _k
 show Go p e s _d _ _ _ T2 (mkF m 16 #[vI (3 : Int32), vR b1] [(.int 0), (.ref b1)])
 have Q_2 := own_extK Q_1 K2 (allS sz1 all0)
 have _L := own_extK _K K2 (allS (Nat.le_trans ZN gn1) all0)
 refine Go.callS (W := 1) (argsL := [(.int 0)]) (rest := [(.ref b1)]) X2 hx hZ _f (y := mn_27) (qw hw 39 rfl) (qw hw 40 rfl) (qw hw 41 rfl) (qw hw 42 rfl) (rmVO0 l Z a0 hw [] ca cl ka h2 n0 (Nat.le_trans Z0 Q_2.1) ZN _L SH SC BX hia) e2 (by decide) (by rw [hml]; rfl) (lenOf pd26 rfl) (Nat.le_of_eq rfl) (hb hby d7_16) ?_
 intro T3 v3 L3 h3 e3 X3 hQ3
 obtain ⟨rfl, N3, K3⟩ := hQ3
 have M3 := Fr.app M2 N3
 show Go p e s _d _ _ _ T3 (mkF m 19 #[vI (3 : Int32), vR b1] [(.ref ka), (.ref b1)])
 have _z := _V.ext K3
 have _g := _U.ext K3
 have _u := ((_B.ext E1).keep K2 (ninS (Nat.ne_of_lt (Nat.lt_of_lt_of_le _H.lt sz1)) nin0)).ext K3
 have Q_3 := own_extE Q_2 K3
 have _M := own_extE _L K3
 have _v := _S.ext K3
 have _j := _T.ext K3
 have _N := ((_H.ext E1).keep K2).ext K3
 have _O := ((_G.ext E1).keep K2 (ninS (Nat.ne_of_lt (Nat.lt_of_lt_of_le _G.lt sz1)) nin0)).ext K3
 refine Go.callV (b := b1) (W := 0) (argsL := [(.ref ka)]) (rest := []) X3 hx hZ _f (y := mn_35) (z := mn_35) (qw hw 240 rfl) (qw hw 241 rfl) (notFace_of_selects (args := #[]) (mvT hZ (qw hw 243 rfl))) (qw hw 243 rfl) (qw hw 242 rfl) (qw hw 52 rfl) (qw hw 244 rfl) (rmA10 l Z a0 hw [] (0 : Int32) b1 ka dc _J h3 n0 (Nat.le_trans Z0 Q_3.1) ZN _M gn1 _v _j _g _z _N _u _O (Nat.ne_of_lt (Nat.lt_of_lt_of_le _H.lt sz1)) (Nat.ne_of_lt (Nat.lt_of_lt_of_le _G.lt sz1)) SDC) e3 _v (by decide) (by rw [hml]; rfl) (lenOf pd12 rfl) (Nat.le_of_eq rfl) (hb hby d7_19) ?_
 intro T4 v4 L4 h4 e4 X4 hQ4
 obtain ⟨_a, _b, rfl, N4, K4, _D, _W, _aa, _ba, _ca, _da, _fa, _I⟩ := hQ4
 have M4 := Fr.app M3 N4
 have _c : h0.size ≤ _a := Nat.le_trans Q_3.1 _D
 have _w : n0 ≤ _a := Nat.le_trans Z0 _c
 refine gs ?_ fun _ _k => XS.pop X4.here hx rfl (hb hby d7_22) rfl rfl _k
 refine gs ?_ fun _ _k => XS.iloadN X4.here hx rfl (hb hby d7_23) rfl _k
 refine gs ?_ fun _ _k => XT.iconstV X4.here hx rfl (2 : Int32) (hb hby d7_24) (by decide) _k
 refine gs ?_ fun _ _k => XS.iand X4.here hx rfl (hb hby d7_25) rfl _k
 refine gs ?_ fun _ _k => XS.ifNo X4.here hx rfl (hb hby d7_26) rfl ((if0 _ _).trans (feq (by decide)).1) _k
 refine gs ?_ fun _ _k => XS.aloadN X4.here hx rfl (hb hby d7_29) rfl rfl _k
 refine gs ?_ fun _ _k => XT.iconstV X4.here hx rfl (1 : Int32) (hb hby d7_30) (by decide) _k
 show Go p e s _d _ _ _ T4 (mkF m 31 #[vI (3 : Int32), vR b1] [(.int 1), (.ref b1)])
 have Q_4 := own_extK Q_3 K4 (allS sz1 all0)
 have _ga := own_extK _M K4 (allS (Nat.le_trans ZN gn1) all0)
 refine Go.callS (W := 1) (argsL := [(.int 1)]) (rest := [(.ref b1)]) X4 hx hZ _f (y := mn_27) (qw hw 39 rfl) (qw hw 40 rfl) (qw hw 41 rfl) (qw hw 42 rfl) (rmVO1 l Z a0 hw [] ca cl kb h4 n0 (Nat.le_trans Z0 Q_4.1) ZN _ga SH SC BX hib) e4 (by decide) (by rw [hml]; rfl) (lenOf pd26 rfl) (Nat.le_of_eq rfl) (hb hby d7_31) ?_
 intro T5 v5 L5 h5 e5 X5 hQ5
 obtain ⟨rfl, N5, K5⟩ := hQ5
 have M5 := Fr.app M4 N5
 show Go p e s _d _ _ _ T5 (mkF m 34 #[vI (3 : Int32), vR b1] [(.ref kb), (.ref b1)])
 have _A := _ca.ext K5
 have _h := _ba.ext K5
 have _y := ((((_C.ext E1).keep K2 (ninS (Nat.ne_of_lt (Nat.lt_of_lt_of_le _t.lt sz1)) nin0)).ext K3).keep K4 (ninS (Nat.ne_of_lt (Nat.lt_of_lt_of_le _t.lt sz1)) nin0)).ext K5
 have _o := _da.ext K5
 have Q_5 := own_extE Q_4 K5
 have _F := _W.ext K5
 have _k := _aa.ext K5
 have _P := ((((_t.ext E1).keep K2).ext K3).keep K4).ext K5
 have _q := _fa.ext K5
 have nq6 : b1 ≠ _a := Nat.ne_of_lt (Nat.lt_of_lt_of_le (_v).lt _D)
 have nq7 : kb ≠ _a := Nat.ne_of_lt (Nat.lt_of_lt_of_le (((_t.ext E1).keep K2).ext K3).lt _D)
 refine Go.callV (b := b1) (W := 0) (argsL := [(.ref kb)]) (rest := []) X5 hx hZ _f (y := mn_35) (z := mn_35) (qw hw 240 rfl) (qw hw 241 rfl) (notFace_of_selects (args := #[]) (mvT hZ (qw hw 243 rfl))) (qw hw 243 rfl) (qw hw 242 rfl) (qw hw 52 rfl) (qw hw 244 rfl) (rmA11 l Z a0 hw [] (1 : Int32) ka b1 kb _a _b h5 n0 (Nat.le_trans Z0 Q_5.1) gn1 _w _F _k _h _A _P _y _o _I _q nq6 (Nat.ne_of_lt (Nat.lt_of_lt_of_le _t.lt sz1)) nq7) e5 _F (by decide) (by rw [hml]; rfl) (lenOf pd12 rfl) (Nat.le_of_eq rfl) (hb hby d7_34) ?_
 intro T8 v8 L8 h8 e8 X8 hQ8
 obtain ⟨rfl, N8, K8, _ha, _ia, _ja, _ka, _oa, _qa⟩ := hQ8
 have M8 := Fr.app M5 N8
 refine gs ?_ fun _ _k => XS.pop X8.here hx rfl (hb hby d7_37) rfl rfl _k
 refine gs ?_ fun _ _k => XS.iloadN X8.here hx rfl (hb hby d7_38) rfl _k
 refine gs ?_ fun _ _k => XT.iconstV X8.here hx rfl (4 : Int32) (hb hby d7_39) (by decide) _k
 refine gs ?_ fun _ _k => XS.iand X8.here hx rfl (hb hby d7_40) rfl _k
 refine gs ?_ fun _ _k => XS.ifYes X8.here hx rfl (pc0 := 41) (pc' := 53) rfl (hb hby d7_41) rfl ((if0 _ _).trans (teq (by decide)).1) (by decide) (by decide) _k
 refine gs ?_ fun _ _k => XS.aloadN X8.here hx rfl (hb hby d7_53) rfl rfl _k
 show Go p e s _d _ _ _ T8 (mkF m 54 #[vI (3 : Int32), vR b1] [(.ref b1)])
 have Q_8 := own_extK Q_5 K8 (allS sz1 (allS _c all0))
 exact Go.retA X8 hx hlk _R rfl rfl (hb hby d7_54) (by decide) (by decide) ⟨b1, _a, _b, rfl, M8, (by rw [e8]; exact Q_8), sz1, _c, (by rw [e8]; exact _ha), (by rw [e8]; exact _ia), (by rw [e8]; exact _ja), (by rw [e8]; exact _ka), (by rw [e8]; exact _oa), (by rw [e8]; exact _qa), _I, nq6⟩
theorem d7_44 : decode bc7 44 = .ok (.aload_n 1, 1) := by decide +kernel
theorem d7_45 : decode bc7 45 = .ok (.iconst 2, 1) := by decide +kernel
theorem d7_46 : decode bc7 46 = .ok (.invokestatic 10, 3) := by decide +kernel
theorem d7_49 : decode bc7 49 = .ok (.invokevirtual 16, 3) := by decide +kernel
theorem d7_52 : decode bc7 52 = .ok (.pop, 1) := by decide +kernel
theorem ef_AW4 (m : MethodId) (x0 : Int32) : entryFrame m #[(.int x0)] 2 = mkF m 0 #[.val (.int x0), .unset] [] := by first | (simp [entryFrame, mkF, argsToLocals, Value.category]; done) | rfl
theorem rmAW4 (l : Launch) (Z : State) (a0 : Array Value) (hw : HW a0 Z) (ws : List Jvm.Cond) (ca : Addr) (cl : Cell) (dc : Addr) (ka : Addr) (kb : Addr) (kc : Addr) (_y : ClassId) (h0 : Heap) (n0 : Nat) (Z0 : n0 ≤ h0.size) (ZN : Z.heap.size ≤ n0) (EZ : Ext Z.heap h0) (_u : Arv Z h0 dc _y (.object s_e) (0 : Int32) [] .null) (_S : Exa Z h0 ka s_i) (_D : Fld Z h0 ka s_i "value" "I" (.int 0)) (_T : Exa Z h0 kb s_i) (_E : Fld Z h0 kb s_i "value" "I" (.int 1)) (_v : Exa Z h0 kc s_i) (_r : Fld Z h0 kc s_i "value" "I" (.int 2)) (SH : Sta Z Z.heap s_n "high" "I" (.int 127)) (SC : Sta Z Z.heap s_n "cache" "[Ljava/lang/Integer;" (.ref ca)) (BX : Bxs Z ca cl s_i "I" 256 (fun j => .int (j - 128))) (hia : cl.slots[128]? = some (.ref ka)) (hib : cl.slots[129]? = some (.ref kb)) (hic : cl.slots[130]? = some (.ref kc)) (SDC : Sta Z Z.heap s_g s_v s_k (.ref dc)) :
  Meets l Z mn_53 method_2_code 2 (some (.object s_g)) ({ frames := 5, cells := 2, slots := 13, locals := 69 } : Room) ws #[(.int 4)] h0 (fun v h L => ∃ (b1 : Addr) (_a : Addr) (_b : ClassId), v = some (.ref b1) ∧ Fr n0 L ∧ Ext h0 h ∧ h0.size ≤ b1 ∧ h0.size ≤ _a ∧ Exa Z h b1 s_g ∧ Fld Z h b1 s_r s_x "I" (.int 1) ∧ Fld Z h b1 s_g s_w s_k (.ref _a) ∧ Fld Z h b1 s_g "size" "I" (.int 1) ∧ Arv Z h _a _b (.object s_e) (10 : Int32) [(.ref kc), .null, .null, .null, .null, .null, .null, .null, .null, .null] .null ∧ Exa Z h _a s_k ∧ Ovr Z _b s_e ∧ b1 ≠ _a) := by
 refine Meets.of (plainFor_of_name pn_18) ?_
 intro p e s m _f _U c s₁ X0 hx hby hml _G hlk hnm hZ _h e0
 replace _h : s.vm.findClass s_t = some m.cls := _h
 have N0 := Fr.nil n0
 have Q0 := own_extR h0
 refine Go.cast (ef_AW4 m (4 : Int32)) ?_
 show Go p e s _f _ _ _ s₁ (mkF m 0 #[vI (4 : Int32), vU] [])
 obtain ⟨T1, h1, X1, e1, E1, A1, D1, -, st1⟩ := newO X0 hx hZ _h (qw hw 50 rfl) (qw hw 51 rfl) (qw hw 52 rfl) e0 (g := (mkF m 0 #[vI (4 : Int32), vU] [])) rfl (hb hby d7_0) (by decide) (by decide)
 obtain ⟨b1, g1⟩ : ∃ z, z = h0.size := ⟨_, rfl⟩
 rw [← g1] at A1 D1 st1
 have sz1 : h0.size ≤ b1 := Nat.le_trans Q0.1 (Nat.le_of_eq g1.symm)
 have gn1 : n0 ≤ b1 := Nat.le_trans Z0 sz1
 refine Go.st st1 ?_
 have _i : Fld Z h1 b1 s_r s_x "I" (.int 0) := D1 (Or.inl (qw hw 70 rfl)) (ty := .int) (by decide)
 have _d : Fld Z h1 b1 s_g s_w s_k .null := D1 (Or.inl (qw hw 73 rfl)) (ty := (.array (.object s_e))) (by decide)
 have _t : Fld Z h1 b1 s_g "size" "I" (.int 0) := D1 (Or.inl (qw hw 106 rfl)) (ty := .int) (by decide)
 refine gs ?_ fun _ _k => XS.dup X1.here hx rfl (hb hby d7_3) rfl rfl _k
 show Go p e s _f _ _ _ T1 (mkF m 4 #[vI (4 : Int32), vU] [(.ref b1), (.ref b1)])
 have Q_1 := own_extE Q0 E1
 have _z := own_extE EZ E1
 refine Go.callC (b := b1) (W := 1) (argsL := []) (rest := [(.ref b1)]) X1 hx hZ (y := mn_30) rfl _h (qw hw 53 rfl) (qw hw 54 rfl) (qw hw 52 rfl) (qw hw 55 rfl) (rmAI l Z a0 hw [] dc b1 h1 n0 (Nat.le_trans Z0 Q_1.1) ZN _z gn1 A1 _i _d _t SDC) e1 (by decide) (by rw [hml]; rfl) (lenOf pd0 rfl) (Nat.le_of_eq rfl) (hb hby d7_4) ?_
 intro T2 v2 L2 h2 e2 X2 hQ2
 obtain ⟨rfl, N2, K2, _H, _I, _J, _K⟩ := hQ2
 have M2 := Fr.app N0 N2
 refine gs ?_ fun _ _k => XS.astoreN X2.here hx rfl (hb hby d7_7) rfl rfl (l' := #[vI (4 : Int32), vR b1]) rfl _k
 refine gs ?_ fun _ _k => XS.iloadN X2.here hx rfl (hb hby d7_8) rfl _k
 refine gs ?_ fun _ _k => XT.iconstV X2.here hx rfl (1 : Int32) (hb hby d7_9) (by decide) _k
 refine gs ?_ fun _ _k => XS.iand X2.here hx rfl (hb hby d7_10) rfl _k
 refine gs ?_ fun _ _k => XS.ifYes X2.here hx rfl (pc0 := 11) (pc' := 23) rfl (hb hby d7_11) rfl ((if0 _ _).trans (teq (by decide)).1) (by decide) (by decide) _k
 refine gs ?_ fun _ _k => XS.iloadN X2.here hx rfl (hb hby d7_23) rfl _k
 refine gs ?_ fun _ _k => XT.iconstV X2.here hx rfl (2 : Int32) (hb hby d7_24) (by decide) _k
 refine gs ?_ fun _ _k => XS.iand X2.here hx rfl (hb hby d7_25) rfl _k
 refine gs ?_ fun _ _k => XS.ifYes X2.here hx rfl (pc0 := 26) (pc' := 38) rfl (hb hby d7_26) rfl ((if0 _ _).trans (teq (by decide)).1) (by decide) (by decide) _k
 refine gs ?_ fun _ _k => XS.iloadN X2.here hx rfl (hb hby d7_38) rfl _k
 refine gs ?_ fun _ _k => XT.iconstV X2.here hx rfl (4 : Int32) (hb hby d7_39) (by decide) _k
 refine gs ?_ fun _ _k => XS.iand X2.here hx rfl (hb hby d7_40) rfl _k
 refine gs ?_ fun _ _k => XS.ifNo X2.here hx rfl (hb hby d7_41) rfl ((if0 _ _).trans (feq (by decide)).1) _k
 refine gs ?_ fun _ _k => XS.aloadN X2.here hx rfl (hb hby d7_44) rfl rfl _k
 refine gs ?_ fun _ _k => XT.iconstV X2.here hx rfl (2 : Int32) (hb hby d7_45) (by decide) _k
 show Go p e s _f _ _ _ T2 (mkF m 46 #[vI (4 : Int32), vR b1] [(.int 2), (.ref b1)])
 have Q_2 := own_extK Q_1 K2 (allS sz1 all0)
 have _A := own_extK _z K2 (allS (Nat.le_trans ZN gn1) all0)
 refine Go.callS (W := 1) (argsL := [(.int 2)]) (rest := [(.ref b1)]) X2 hx hZ _h (y := mn_27) (qw hw 39 rfl) (qw hw 40 rfl) (qw hw 41 rfl) (qw hw 42 rfl) (rmVO2 l Z a0 hw [] ca cl kc h2 n0 (Nat.le_trans Z0 Q_2.1) ZN _A SH SC BX hic) e2 (by decide) (by rw [hml]; rfl) (lenOf pd26 rfl) (Nat.le_of_eq rfl) (hb hby d7_46) ?_
 intro T3 v3 L3 h3 e3 X3 hQ3
 obtain ⟨rfl, N3, K3⟩ := hQ3
 have M3 := Fr.app M2 N3
 show Go p e s _f _ _ _ T3 (mkF m 49 #[vI (4 : Int32), vR b1] [(.ref kc), (.ref b1)])
 have _q := _K.ext K3
 have _c := _J.ext K3
 have _j := ((_r.ext E1).keep K2 (ninS (Nat.ne_of_lt (Nat.lt_of_lt_of_le _v.lt sz1)) nin0)).ext K3
 have Q_3 := own_extE Q_2 K3
 have _L := own_extE _A K3
 have _k := _H.ext K3
 have _g := _I.ext K3
 have _B := ((_v.ext E1).keep K2).ext K3
 have _C := ((_u.ext E1).keep K2 (ninS (Nat.ne_of_lt (Nat.lt_of_lt_of_le _u.lt sz1)) nin0)).ext K3
 refine Go.callV (b := b1) (W := 0) (argsL := [(.ref kc)]) (rest := []) X3 hx hZ _h (y := mn_35) (z := mn_35) (qw hw 240 rfl) (qw hw 241 rfl) (notFace_of_selects (args := #[]) (mvT hZ (qw hw 243 rfl))) (qw hw 243 rfl) (qw hw 242 rfl) (qw hw 52 rfl) (qw hw 244 rfl) (rmA10 l Z a0 hw [] (2 : Int32) b1 kc dc _y h3 n0 (Nat.le_trans Z0 Q_3.1) ZN _L gn1 _k _g _c _q _B _j _C (Nat.ne_of_lt (Nat.lt_of_lt_of_le _v.lt sz1)) (Nat.ne_of_lt (Nat.lt_of_lt_of_le _u.lt sz1)) SDC) e3 _k (by decide) (by rw [hml]; rfl) (lenOf pd12 rfl) (Nat.le_of_eq rfl) (hb hby d7_49) ?_
 intro T4 v4 L4 h4 e4 X4 hQ4
 obtain ⟨_a, _b, rfl, N4, K4, _w, _M, _N, _O, _P, _Q, _R, _F⟩ := hQ4
 have M4 := Fr.app M3 N4
 have _o : h0.size ≤ _a := Nat.le_trans Q_3.1 _w
 refine gs ?_ fun _ _k => XS.pop X4.here hx rfl (hb hby d7_52) rfl rfl _k
 refine gs ?_ fun _ _k => XS.aloadN X4.here hx rfl (hb hby d7_53) rfl rfl _k
 show Go p e s _f _ _ _ T4 (mkF m 54 #[vI (4 : Int32), vR b1] [(.ref b1)])
 have Q_4 := own_extK Q_3 K4 (allS sz1 all0)
 have nq5 : b1 ≠ _a := Nat.ne_of_lt (Nat.lt_of_lt_of_le (_k).lt _w)
 exact Go.retA X4 hx hlk _G rfl rfl (hb hby d7_54) (by decide) (by decide) ⟨b1, _a, _b, rfl, M4, (by rw [e4]; exact Q_4), sz1, _o, (by rw [e4]; exact _M), (by rw [e4]; exact _N), (by rw [e4]; exact _O), (by rw [e4]; exact _P), (by rw [e4]; exact _Q), (by rw [e4]; exact _R), _F, nq5⟩
theorem ef_AW5 (m : MethodId) (x0 : Int32) : entryFrame m #[(.int x0)] 2 = mkF m 0 #[.val (.int x0), .unset] [] := by first | (simp [entryFrame, mkF, argsToLocals, Value.category]; done) | rfl
theorem rmAW5 (l : Launch) (Z : State) (a0 : Array Value) (hw : HW a0 Z) (ws : List Jvm.Cond) (ca : Addr) (cl : Cell) (dc : Addr) (ka : Addr) (kb : Addr) (kc : Addr) (_J : ClassId) (h0 : Heap) (n0 : Nat) (Z0 : n0 ≤ h0.size) (ZN : Z.heap.size ≤ n0) (EZ : Ext Z.heap h0) (_G : Arv Z h0 dc _J (.object s_e) (0 : Int32) [] .null) (_H : Exa Z h0 ka s_i) (_B : Fld Z h0 ka s_i "value" "I" (.int 0)) (_ra : Exa Z h0 kb s_i) (_Q : Fld Z h0 kb s_i "value" "I" (.int 1)) (_t : Exa Z h0 kc s_i) (_C : Fld Z h0 kc s_i "value" "I" (.int 2)) (SH : Sta Z Z.heap s_n "high" "I" (.int 127)) (SC : Sta Z Z.heap s_n "cache" "[Ljava/lang/Integer;" (.ref ca)) (BX : Bxs Z ca cl s_i "I" 256 (fun j => .int (j - 128))) (hia : cl.slots[128]? = some (.ref ka)) (hib : cl.slots[129]? = some (.ref kb)) (hic : cl.slots[130]? = some (.ref kc)) (SDC : Sta Z Z.heap s_g s_v s_k (.ref dc)) :
  Meets l Z mn_53 method_2_code 2 (some (.object s_g)) ({ frames := 5, cells := 2, slots := 13, locals := 69 } : Room) ws #[(.int 5)] h0 (fun v h L => ∃ (b1 : Addr) (_a : Addr) (_b : ClassId), v = some (.ref b1) ∧ Fr n0 L ∧ Ext h0 h ∧ h0.size ≤ b1 ∧ h0.size ≤ _a ∧ Exa Z h b1 s_g ∧ Fld Z h b1 s_r s_x "I" (.int 2) ∧ Fld Z h b1 s_g s_w s_k (.ref _a) ∧ Fld Z h b1 s_g "size" "I" (.int 2) ∧ Arv Z h _a _b (.object s_e) (10 : Int32) [(.ref ka), (.ref kc), .null, .null, .null, .null, .null, .null, .null, .null] .null ∧ Exa Z h _a s_k ∧ Ovr Z _b s_e ∧ b1 ≠ _a) := by
 refine Meets.of (plainFor_of_name pn_18) ?_
 intro p e s m _d _ta c s₁ X0 hx hby hml _R hlk hnm hZ _f e0
 replace _f : s.vm.findClass s_t = some m.cls := _f
 have N0 := Fr.nil n0
 have Q0 := own_extR h0
 refine Go.cast (ef_AW5 m (5 : Int32)) ?_
 show Go p e s _d _ _ _ s₁ (mkF m 0 #[vI (5 : Int32), vU] [])
 obtain ⟨T1, h1, X1, e1, E1, A1, D1, -, st1⟩ := newO X0 hx hZ _f (qw hw 50 rfl) (qw hw 51 rfl) (qw hw 52 rfl) e0 (g := (mkF m 0 #[vI (5 : Int32), vU] [])) rfl (hb hby d7_0) (by decide) (by decide)
 obtain ⟨b1, g1⟩ : ∃ z, z = h0.size := ⟨_, rfl⟩
 rw [← g1] at A1 D1 st1
 have sz1 : h0.size ≤ b1 := Nat.le_trans Q0.1 (Nat.le_of_eq g1.symm)
 have gn1 : n0 ≤ b1 := Nat.le_trans Z0 sz1
 refine Go.st st1 ?_
 have _r : Fld Z h1 b1 s_r s_x "I" (.int 0) := D1 (Or.inl (qw hw 70 rfl)) (ty := .int) (by decide)
 have _i : Fld Z h1 b1 s_g s_w s_k .null := D1 (Or.inl (qw hw 73 rfl)) (ty := (.array (.object s_e))) (by decide)
 have _E : Fld Z h1 b1 s_g "size" "I" (.int 0) := D1 (Or.inl (qw hw 106 rfl)) (ty := .int) (by decide)
 refine gs ?_ fun _ _k => XS.dup X1.here hx rfl (hb hby d7_3) rfl rfl _k
 show Go p e s _d _ _ _ T1 (mkF m 4 #[vI (5 : Int32), vU] [(.ref b1), (.ref b1)])
 have Q_1 := own_extE Q0 E1
 have _K := own_extE EZ E1
 refine Go.callC (b := b1) (W := 1) (argsL := []) (rest := [(.ref b1)]) X1 hx hZ (y := mn_30) rfl _f (qw hw 53 rfl) (qw hw 54 rfl) (qw hw 52 rfl) (qw hw 55 rfl) (rmAI l Z a0 hw [] dc b1 h1 n0 (Nat.le_trans Z0 Q_1.1) ZN _K gn1 A1 _r _i _E SDC) e1 (by decide) (by rw [hml]; rfl) (lenOf pd0 rfl) (Nat.le_of_eq rfl) (hb hby d7_4) ?_
 intro T2 v2 L2 h2 e2 X2 hQ2
 obtain ⟨rfl, N2, K2, _S, _T, _U, _V⟩ := hQ2
 have M2 := Fr.app N0 N2
 refine gs ?_ fun _ _k => XS.astoreN X2.here hx rfl (hb hby d7_7) rfl rfl (l' := #[vI (5 : Int32), vR b1]) rfl _k
 refine gs ?_ fun _ _k => XS.iloadN X2.here hx rfl (hb hby d7_8) rfl _k
 refine gs ?_ fun _ _k => XT.iconstV X2.here hx rfl (1 : Int32) (hb hby d7_9) (by decide) _k
 refine gs ?_ fun _ _k => XS.iand X2.here hx rfl (hb hby d7_10) rfl _k
 refine gs ?_ fun _ _k => XS.ifNo X2.here hx rfl (hb hby d7_11) rfl ((if0 _ _).trans (feq (by decide)).1) _k
 refine gs ?_ fun _ _k => XS.aloadN X2.here hx rfl (hb hby d7_14) rfl rfl _k
 refine gs ?_ fun _ _k => XT.iconstV X2.here hx rfl (0 : Int32) (hb hby d7_15) (by decide) _k
 show Go p e s _d _ _ _ T2 (mkF m 16 #[vI (5 : Int32), vR b1] [(.int 0), (.ref b1)])
 have Q_2 := own_extK Q_1 K2 (allS sz1 all0)
 have _L := own_extK _K K2 (allS (Nat.le_trans ZN gn1) all0)
 refine Go.callS (W := 1) (argsL := [(.int 0)]) (rest := [(.ref b1)]) X2 hx hZ _f (y := mn_27) (qw hw 39 rfl) (qw hw 40 rfl) (qw hw 41 rfl) (qw hw 42 rfl) (rmVO0 l Z a0 hw [] ca cl ka h2 n0 (Nat.le_trans Z0 Q_2.1) ZN _L SH SC BX hia) e2 (by decide) (by rw [hml]; rfl) (lenOf pd26 rfl) (Nat.le_of_eq rfl) (hb hby d7_16) ?_
 intro T3 v3 L3 h3 e3 X3 hQ3
 obtain ⟨rfl, N3, K3⟩ := hQ3
 have M3 := Fr.app M2 N3
 show Go p e s _d _ _ _ T3 (mkF m 19 #[vI (5 : Int32), vR b1] [(.ref ka), (.ref b1)])
 have _z := _V.ext K3
 have _g := _U.ext K3
 have _u := ((_B.ext E1).keep K2 (ninS (Nat.ne_of_lt (Nat.lt_of_lt_of_le _H.lt sz1)) nin0)).ext K3
 have Q_3 := own_extE Q_2 K3
 have _M := own_extE _L K3
 have _v := _S.ext K3
 have _j := _T.ext K3
 have _N := ((_H.ext E1).keep K2).ext K3
 have _O := ((_G.ext E1).keep K2 (ninS (Nat.ne_of_lt (Nat.lt_of_lt_of_le _G.lt sz1)) nin0)).ext K3
 refine Go.callV (b := b1) (W := 0) (argsL := [(.ref ka)]) (rest := []) X3 hx hZ _f (y := mn_35) (z := mn_35) (qw hw 240 rfl) (qw hw 241 rfl) (notFace_of_selects (args := #[]) (mvT hZ (qw hw 243 rfl))) (qw hw 243 rfl) (qw hw 242 rfl) (qw hw 52 rfl) (qw hw 244 rfl) (rmA10 l Z a0 hw [] (0 : Int32) b1 ka dc _J h3 n0 (Nat.le_trans Z0 Q_3.1) ZN _M gn1 _v _j _g _z _N _u _O (Nat.ne_of_lt (Nat.lt_of_lt_of_le _H.lt sz1)) (Nat.ne_of_lt (Nat.lt_of_lt_of_le _G.lt sz1)) SDC) e3 _v (by decide) (by rw [hml]; rfl) (lenOf pd12 rfl) (Nat.le_of_eq rfl) (hb hby d7_19) ?_
 intro T4 v4 L4 h4 e4 X4 hQ4
 obtain ⟨_a, _b, rfl, N4, K4, _D, _W, _aa, _ba, _ca, _da, _fa, _I⟩ := hQ4
 have M4 := Fr.app M3 N4
 have _c : h0.size ≤ _a := Nat.le_trans Q_3.1 _D
 have _w : n0 ≤ _a := Nat.le_trans Z0 _c
 refine gs ?_ fun _ _k => XS.pop X4.here hx rfl (hb hby d7_22) rfl rfl _k
 refine gs ?_ fun _ _k => XS.iloadN X4.here hx rfl (hb hby d7_23) rfl _k
 refine gs ?_ fun _ _k => XT.iconstV X4.here hx rfl (2 : Int32) (hb hby d7_24) (by decide) _k
 refine gs ?_ fun _ _k => XS.iand X4.here hx rfl (hb hby d7_25) rfl _k
 refine gs ?_ fun _ _k => XS.ifYes X4.here hx rfl (pc0 := 26) (pc' := 38) rfl (hb hby d7_26) rfl ((if0 _ _).trans (teq (by decide)).1) (by decide) (by decide) _k
 refine gs ?_ fun _ _k => XS.iloadN X4.here hx rfl (hb hby d7_38) rfl _k
 refine gs ?_ fun _ _k => XT.iconstV X4.here hx rfl (4 : Int32) (hb hby d7_39) (by decide) _k
 refine gs ?_ fun _ _k => XS.iand X4.here hx rfl (hb hby d7_40) rfl _k
 refine gs ?_ fun _ _k => XS.ifNo X4.here hx rfl (hb hby d7_41) rfl ((if0 _ _).trans (feq (by decide)).1) _k
 refine gs ?_ fun _ _k => XS.aloadN X4.here hx rfl (hb hby d7_44) rfl rfl _k
 refine gs ?_ fun _ _k => XT.iconstV X4.here hx rfl (2 : Int32) (hb hby d7_45) (by decide) _k
 show Go p e s _d _ _ _ T4 (mkF m 46 #[vI (5 : Int32), vR b1] [(.int 2), (.ref b1)])
 have Q_4 := own_extK Q_3 K4 (allS sz1 all0)
 have _ga := own_extK _M K4 (allS (Nat.le_trans ZN gn1) all0)
 refine Go.callS (W := 1) (argsL := [(.int 2)]) (rest := [(.ref b1)]) X4 hx hZ _f (y := mn_27) (qw hw 39 rfl) (qw hw 40 rfl) (qw hw 41 rfl) (qw hw 42 rfl) (rmVO2 l Z a0 hw [] ca cl kc h4 n0 (Nat.le_trans Z0 Q_4.1) ZN _ga SH SC BX hic) e4 (by decide) (by rw [hml]; rfl) (lenOf pd26 rfl) (Nat.le_of_eq rfl) (hb hby d7_46) ?_
 intro T5 v5 L5 h5 e5 X5 hQ5
 obtain ⟨rfl, N5, K5⟩ := hQ5
 have M5 := Fr.app M4 N5
 show Go p e s _d _ _ _ T5 (mkF m 49 #[vI (5 : Int32), vR b1] [(.ref kc), (.ref b1)])
 have _A := _ca.ext K5
 have _h := _ba.ext K5
 have _y := ((((_C.ext E1).keep K2 (ninS (Nat.ne_of_lt (Nat.lt_of_lt_of_le _t.lt sz1)) nin0)).ext K3).keep K4 (ninS (Nat.ne_of_lt (Nat.lt_of_lt_of_le _t.lt sz1)) nin0)).ext K5
 have _o := _da.ext K5
 have Q_5 := own_extE Q_4 K5
 have _F := _W.ext K5
 have _k := _aa.ext K5
 have _P := ((((_t.ext E1).keep K2).ext K3).keep K4).ext K5
 have _q := _fa.ext K5
 have nq6 : b1 ≠ _a := Nat.ne_of_lt (Nat.lt_of_lt_of_le (_v).lt _D)
 have nq7 : kc ≠ _a := Nat.ne_of_lt (Nat.lt_of_lt_of_le (((_t.ext E1).keep K2).ext K3).lt _D)
 refine Go.callV (b := b1) (W := 0) (argsL := [(.ref kc)]) (rest := []) X5 hx hZ _f (y := mn_35) (z := mn_35) (qw hw 240 rfl) (qw hw 241 rfl) (notFace_of_selects (args := #[]) (mvT hZ (qw hw 243 rfl))) (qw hw 243 rfl) (qw hw 242 rfl) (qw hw 52 rfl) (qw hw 244 rfl) (rmA11 l Z a0 hw [] (2 : Int32) ka b1 kc _a _b h5 n0 (Nat.le_trans Z0 Q_5.1) gn1 _w _F _k _h _A _P _y _o _I _q nq6 (Nat.ne_of_lt (Nat.lt_of_lt_of_le _t.lt sz1)) nq7) e5 _F (by decide) (by rw [hml]; rfl) (lenOf pd12 rfl) (Nat.le_of_eq rfl) (hb hby d7_49) ?_
 intro T8 v8 L8 h8 e8 X8 hQ8
 obtain ⟨rfl, N8, K8, _ha, _ia, _ja, _ka, _oa, _qa⟩ := hQ8
 have M8 := Fr.app M5 N8
 refine gs ?_ fun _ _k => XS.pop X8.here hx rfl (hb hby d7_52) rfl rfl _k
 refine gs ?_ fun _ _k => XS.aloadN X8.here hx rfl (hb hby d7_53) rfl rfl _k
 show Go p e s _d _ _ _ T8 (mkF m 54 #[vI (5 : Int32), vR b1] [(.ref b1)])
 have Q_8 := own_extK Q_5 K8 (allS sz1 (allS _c all0))
 exact Go.retA X8 hx hlk _R rfl rfl (hb hby d7_54) (by decide) (by decide) ⟨b1, _a, _b, rfl, M8, (by rw [e8]; exact Q_8), sz1, _c, (by rw [e8]; exact _ha), (by rw [e8]; exact _ia), (by rw [e8]; exact _ja), (by rw [e8]; exact _ka), (by rw [e8]; exact _oa), (by rw [e8]; exact _qa), _I, nq6⟩
theorem ef_AW6 (m : MethodId) (x0 : Int32) : entryFrame m #[(.int x0)] 2 = mkF m 0 #[.val (.int x0), .unset] [] := by first | (simp [entryFrame, mkF, argsToLocals, Value.category]; done) | rfl
theorem rmAW6 (l : Launch) (Z : State) (a0 : Array Value) (hw : HW a0 Z) (ws : List Jvm.Cond) (ca : Addr) (cl : Cell) (dc : Addr) (ka : Addr) (kb : Addr) (kc : Addr) (_J : ClassId) (h0 : Heap) (n0 : Nat) (Z0 : n0 ≤ h0.size) (ZN : Z.heap.size ≤ n0) (EZ : Ext Z.heap h0) (_G : Arv Z h0 dc _J (.object s_e) (0 : Int32) [] .null) (_ra : Exa Z h0 ka s_i) (_Q : Fld Z h0 ka s_i "value" "I" (.int 0)) (_H : Exa Z h0 kb s_i) (_B : Fld Z h0 kb s_i "value" "I" (.int 1)) (_t : Exa Z h0 kc s_i) (_C : Fld Z h0 kc s_i "value" "I" (.int 2)) (SH : Sta Z Z.heap s_n "high" "I" (.int 127)) (SC : Sta Z Z.heap s_n "cache" "[Ljava/lang/Integer;" (.ref ca)) (BX : Bxs Z ca cl s_i "I" 256 (fun j => .int (j - 128))) (hia : cl.slots[128]? = some (.ref ka)) (hib : cl.slots[129]? = some (.ref kb)) (hic : cl.slots[130]? = some (.ref kc)) (SDC : Sta Z Z.heap s_g s_v s_k (.ref dc)) :
  Meets l Z mn_53 method_2_code 2 (some (.object s_g)) ({ frames := 5, cells := 2, slots := 13, locals := 69 } : Room) ws #[(.int 6)] h0 (fun v h L => ∃ (b1 : Addr) (_a : Addr) (_b : ClassId), v = some (.ref b1) ∧ Fr n0 L ∧ Ext h0 h ∧ h0.size ≤ b1 ∧ h0.size ≤ _a ∧ Exa Z h b1 s_g ∧ Fld Z h b1 s_r s_x "I" (.int 2) ∧ Fld Z h b1 s_g s_w s_k (.ref _a) ∧ Fld Z h b1 s_g "size" "I" (.int 2) ∧ Arv Z h _a _b (.object s_e) (10 : Int32) [(.ref kb), (.ref kc), .null, .null, .null, .null, .null, .null, .null, .null] .null ∧ Exa Z h _a s_k ∧ Ovr Z _b s_e ∧ b1 ≠ _a) := by
 refine Meets.of (plainFor_of_name pn_18) ?_
 intro p e s m _d _ta c s₁ X0 hx hby hml _R hlk hnm hZ _f e0
 replace _f : s.vm.findClass s_t = some m.cls := _f
 have N0 := Fr.nil n0
 have Q0 := own_extR h0
 refine Go.cast (ef_AW6 m (6 : Int32)) ?_
 show Go p e s _d _ _ _ s₁ (mkF m 0 #[vI (6 : Int32), vU] [])
 obtain ⟨T1, h1, X1, e1, E1, A1, D1, -, st1⟩ := newO X0 hx hZ _f (qw hw 50 rfl) (qw hw 51 rfl) (qw hw 52 rfl) e0 (g := (mkF m 0 #[vI (6 : Int32), vU] [])) rfl (hb hby d7_0) (by decide) (by decide)
 obtain ⟨b1, g1⟩ : ∃ z, z = h0.size := ⟨_, rfl⟩
 rw [← g1] at A1 D1 st1
 have sz1 : h0.size ≤ b1 := Nat.le_trans Q0.1 (Nat.le_of_eq g1.symm)
 have gn1 : n0 ≤ b1 := Nat.le_trans Z0 sz1
 refine Go.st st1 ?_
 have _r : Fld Z h1 b1 s_r s_x "I" (.int 0) := D1 (Or.inl (qw hw 70 rfl)) (ty := .int) (by decide)
 have _i : Fld Z h1 b1 s_g s_w s_k .null := D1 (Or.inl (qw hw 73 rfl)) (ty := (.array (.object s_e))) (by decide)
 have _E : Fld Z h1 b1 s_g "size" "I" (.int 0) := D1 (Or.inl (qw hw 106 rfl)) (ty := .int) (by decide)
 refine gs ?_ fun _ _k => XS.dup X1.here hx rfl (hb hby d7_3) rfl rfl _k
 show Go p e s _d _ _ _ T1 (mkF m 4 #[vI (6 : Int32), vU] [(.ref b1), (.ref b1)])
 have Q_1 := own_extE Q0 E1
 have _K := own_extE EZ E1
 refine Go.callC (b := b1) (W := 1) (argsL := []) (rest := [(.ref b1)]) X1 hx hZ (y := mn_30) rfl _f (qw hw 53 rfl) (qw hw 54 rfl) (qw hw 52 rfl) (qw hw 55 rfl) (rmAI l Z a0 hw [] dc b1 h1 n0 (Nat.le_trans Z0 Q_1.1) ZN _K gn1 A1 _r _i _E SDC) e1 (by decide) (by rw [hml]; rfl) (lenOf pd0 rfl) (Nat.le_of_eq rfl) (hb hby d7_4) ?_
 intro T2 v2 L2 h2 e2 X2 hQ2
 obtain ⟨rfl, N2, K2, _S, _T, _U, _V⟩ := hQ2
 have M2 := Fr.app N0 N2
 refine gs ?_ fun _ _k => XS.astoreN X2.here hx rfl (hb hby d7_7) rfl rfl (l' := #[vI (6 : Int32), vR b1]) rfl _k
 refine gs ?_ fun _ _k => XS.iloadN X2.here hx rfl (hb hby d7_8) rfl _k
 refine gs ?_ fun _ _k => XT.iconstV X2.here hx rfl (1 : Int32) (hb hby d7_9) (by decide) _k
 refine gs ?_ fun _ _k => XS.iand X2.here hx rfl (hb hby d7_10) rfl _k
 refine gs ?_ fun _ _k => XS.ifYes X2.here hx rfl (pc0 := 11) (pc' := 23) rfl (hb hby d7_11) rfl ((if0 _ _).trans (teq (by decide)).1) (by decide) (by decide) _k
 refine gs ?_ fun _ _k => XS.iloadN X2.here hx rfl (hb hby d7_23) rfl _k
 refine gs ?_ fun _ _k => XT.iconstV X2.here hx rfl (2 : Int32) (hb hby d7_24) (by decide) _k
 refine gs ?_ fun _ _k => XS.iand X2.here hx rfl (hb hby d7_25) rfl _k
 refine gs ?_ fun _ _k => XS.ifNo X2.here hx rfl (hb hby d7_26) rfl ((if0 _ _).trans (feq (by decide)).1) _k
 refine gs ?_ fun _ _k => XS.aloadN X2.here hx rfl (hb hby d7_29) rfl rfl _k
 refine gs ?_ fun _ _k => XT.iconstV X2.here hx rfl (1 : Int32) (hb hby d7_30) (by decide) _k
 show Go p e s _d _ _ _ T2 (mkF m 31 #[vI (6 : Int32), vR b1] [(.int 1), (.ref b1)])
 have Q_2 := own_extK Q_1 K2 (allS sz1 all0)
 have _L := own_extK _K K2 (allS (Nat.le_trans ZN gn1) all0)
 refine Go.callS (W := 1) (argsL := [(.int 1)]) (rest := [(.ref b1)]) X2 hx hZ _f (y := mn_27) (qw hw 39 rfl) (qw hw 40 rfl) (qw hw 41 rfl) (qw hw 42 rfl) (rmVO1 l Z a0 hw [] ca cl kb h2 n0 (Nat.le_trans Z0 Q_2.1) ZN _L SH SC BX hib) e2 (by decide) (by rw [hml]; rfl) (lenOf pd26 rfl) (Nat.le_of_eq rfl) (hb hby d7_31) ?_
 intro T3 v3 L3 h3 e3 X3 hQ3
 obtain ⟨rfl, N3, K3⟩ := hQ3
 have M3 := Fr.app M2 N3
 show Go p e s _d _ _ _ T3 (mkF m 34 #[vI (6 : Int32), vR b1] [(.ref kb), (.ref b1)])
 have _z := _V.ext K3
 have _g := _U.ext K3
 have _u := ((_B.ext E1).keep K2 (ninS (Nat.ne_of_lt (Nat.lt_of_lt_of_le _H.lt sz1)) nin0)).ext K3
 have Q_3 := own_extE Q_2 K3
 have _M := own_extE _L K3
 have _v := _S.ext K3
 have _j := _T.ext K3
 have _N := ((_H.ext E1).keep K2).ext K3
 have _O := ((_G.ext E1).keep K2 (ninS (Nat.ne_of_lt (Nat.lt_of_lt_of_le _G.lt sz1)) nin0)).ext K3
 refine Go.callV (b := b1) (W := 0) (argsL := [(.ref kb)]) (rest := []) X3 hx hZ _f (y := mn_35) (z := mn_35) (qw hw 240 rfl) (qw hw 241 rfl) (notFace_of_selects (args := #[]) (mvT hZ (qw hw 243 rfl))) (qw hw 243 rfl) (qw hw 242 rfl) (qw hw 52 rfl) (qw hw 244 rfl) (rmA10 l Z a0 hw [] (1 : Int32) b1 kb dc _J h3 n0 (Nat.le_trans Z0 Q_3.1) ZN _M gn1 _v _j _g _z _N _u _O (Nat.ne_of_lt (Nat.lt_of_lt_of_le _H.lt sz1)) (Nat.ne_of_lt (Nat.lt_of_lt_of_le _G.lt sz1)) SDC) e3 _v (by decide) (by rw [hml]; rfl) (lenOf pd12 rfl) (Nat.le_of_eq rfl) (hb hby d7_34) ?_
 intro T4 v4 L4 h4 e4 X4 hQ4
 obtain ⟨_a, _b, rfl, N4, K4, _D, _W, _aa, _ba, _ca, _da, _fa, _I⟩ := hQ4
 have M4 := Fr.app M3 N4
 have _c : h0.size ≤ _a := Nat.le_trans Q_3.1 _D
 have _w : n0 ≤ _a := Nat.le_trans Z0 _c
 refine gs ?_ fun _ _k => XS.pop X4.here hx rfl (hb hby d7_37) rfl rfl _k
 refine gs ?_ fun _ _k => XS.iloadN X4.here hx rfl (hb hby d7_38) rfl _k
 refine gs ?_ fun _ _k => XT.iconstV X4.here hx rfl (4 : Int32) (hb hby d7_39) (by decide) _k
 refine gs ?_ fun _ _k => XS.iand X4.here hx rfl (hb hby d7_40) rfl _k
 refine gs ?_ fun _ _k => XS.ifNo X4.here hx rfl (hb hby d7_41) rfl ((if0 _ _).trans (feq (by decide)).1) _k
 refine gs ?_ fun _ _k => XS.aloadN X4.here hx rfl (hb hby d7_44) rfl rfl _k
 refine gs ?_ fun _ _k => XT.iconstV X4.here hx rfl (2 : Int32) (hb hby d7_45) (by decide) _k
 show Go p e s _d _ _ _ T4 (mkF m 46 #[vI (6 : Int32), vR b1] [(.int 2), (.ref b1)])
 have Q_4 := own_extK Q_3 K4 (allS sz1 all0)
 have _ga := own_extK _M K4 (allS (Nat.le_trans ZN gn1) all0)
 refine Go.callS (W := 1) (argsL := [(.int 2)]) (rest := [(.ref b1)]) X4 hx hZ _f (y := mn_27) (qw hw 39 rfl) (qw hw 40 rfl) (qw hw 41 rfl) (qw hw 42 rfl) (rmVO2 l Z a0 hw [] ca cl kc h4 n0 (Nat.le_trans Z0 Q_4.1) ZN _ga SH SC BX hic) e4 (by decide) (by rw [hml]; rfl) (lenOf pd26 rfl) (Nat.le_of_eq rfl) (hb hby d7_46) ?_
 intro T5 v5 L5 h5 e5 X5 hQ5
 obtain ⟨rfl, N5, K5⟩ := hQ5
 have M5 := Fr.app M4 N5
 show Go p e s _d _ _ _ T5 (mkF m 49 #[vI (6 : Int32), vR b1] [(.ref kc), (.ref b1)])
 have _A := _ca.ext K5
 have _h := _ba.ext K5
 have _y := ((((_C.ext E1).keep K2 (ninS (Nat.ne_of_lt (Nat.lt_of_lt_of_le _t.lt sz1)) nin0)).ext K3).keep K4 (ninS (Nat.ne_of_lt (Nat.lt_of_lt_of_le _t.lt sz1)) nin0)).ext K5
 have _o := _da.ext K5
 have Q_5 := own_extE Q_4 K5
 have _F := _W.ext K5
 have _k := _aa.ext K5
 have _P := ((((_t.ext E1).keep K2).ext K3).keep K4).ext K5
 have _q := _fa.ext K5
 have nq6 : b1 ≠ _a := Nat.ne_of_lt (Nat.lt_of_lt_of_le (_v).lt _D)
 have nq7 : kc ≠ _a := Nat.ne_of_lt (Nat.lt_of_lt_of_le (((_t.ext E1).keep K2).ext K3).lt _D)
 refine Go.callV (b := b1) (W := 0) (argsL := [(.ref kc)]) (rest := []) X5 hx hZ _f (y := mn_35) (z := mn_35) (qw hw 240 rfl) (qw hw 241 rfl) (notFace_of_selects (args := #[]) (mvT hZ (qw hw 243 rfl))) (qw hw 243 rfl) (qw hw 242 rfl) (qw hw 52 rfl) (qw hw 244 rfl) (rmA11 l Z a0 hw [] (2 : Int32) kb b1 kc _a _b h5 n0 (Nat.le_trans Z0 Q_5.1) gn1 _w _F _k _h _A _P _y _o _I _q nq6 (Nat.ne_of_lt (Nat.lt_of_lt_of_le _t.lt sz1)) nq7) e5 _F (by decide) (by rw [hml]; rfl) (lenOf pd12 rfl) (Nat.le_of_eq rfl) (hb hby d7_49) ?_
 intro T8 v8 L8 h8 e8 X8 hQ8
 obtain ⟨rfl, N8, K8, _ha, _ia, _ja, _ka, _oa, _qa⟩ := hQ8
 have M8 := Fr.app M5 N8
 refine gs ?_ fun _ _k => XS.pop X8.here hx rfl (hb hby d7_52) rfl rfl _k
 refine gs ?_ fun _ _k => XS.aloadN X8.here hx rfl (hb hby d7_53) rfl rfl _k
 show Go p e s _d _ _ _ T8 (mkF m 54 #[vI (6 : Int32), vR b1] [(.ref b1)])
 have Q_8 := own_extK Q_5 K8 (allS sz1 (allS _c all0))
 exact Go.retA X8 hx hlk _R rfl rfl (hb hby d7_54) (by decide) (by decide) ⟨b1, _a, _b, rfl, M8, (by rw [e8]; exact Q_8), sz1, _c, (by rw [e8]; exact _ha), (by rw [e8]; exact _ia), (by rw [e8]; exact _ja), (by rw [e8]; exact _ka), (by rw [e8]; exact _oa), (by rw [e8]; exact _qa), _I, nq6⟩
theorem ef_AW7 (m : MethodId) (x0 : Int32) : entryFrame m #[(.int x0)] 2 = mkF m 0 #[.val (.int x0), .unset] [] := by first | (simp [entryFrame, mkF, argsToLocals, Value.category]; done) | rfl
theorem rmAW7 (l : Launch) (Z : State) (a0 : Array Value) (hw : HW a0 Z) (ws : List Jvm.Cond) (ca : Addr) (cl : Cell) (dc : Addr) (ka : Addr) (kb : Addr) (kc : Addr) (_S : ClassId) (h0 : Heap) (n0 : Nat) (Z0 : n0 ≤ h0.size) (ZN : Z.heap.size ≤ n0) (EZ : Ext Z.heap h0) (_Q : Arv Z h0 dc _S (.object s_e) (0 : Int32) [] .null) (_R : Exa Z h0 ka s_i) (_J : Fld Z h0 ka s_i "value" "I" (.int 0)) (_B : Exa Z h0 kb s_i) (_K : Fld Z h0 kb s_i "value" "I" (.int 1)) (_t : Exa Z h0 kc s_i) (_L : Fld Z h0 kc s_i "value" "I" (.int 2)) (SH : Sta Z Z.heap s_n "high" "I" (.int 127)) (SC : Sta Z Z.heap s_n "cache" "[Ljava/lang/Integer;" (.ref ca)) (BX : Bxs Z ca cl s_i "I" 256 (fun j => .int (j - 128))) (hia : cl.slots[128]? = some (.ref ka)) (hib : cl.slots[129]? = some (.ref kb)) (hic : cl.slots[130]? = some (.ref kc)) (SDC : Sta Z Z.heap s_g s_v s_k (.ref dc)) :
  Meets l Z mn_53 method_2_code 2 (some (.object s_g)) ({ frames := 5, cells := 2, slots := 13, locals := 69 } : Room) ws #[(.int 7)] h0 (fun v h L => ∃ (b1 : Addr) (_a : Addr) (_b : ClassId), v = some (.ref b1) ∧ Fr n0 L ∧ Ext h0 h ∧ h0.size ≤ b1 ∧ h0.size ≤ _a ∧ Exa Z h b1 s_g ∧ Fld Z h b1 s_r s_x "I" (.int 3) ∧ Fld Z h b1 s_g s_w s_k (.ref _a) ∧ Fld Z h b1 s_g "size" "I" (.int 3) ∧ Arv Z h _a _b (.object s_e) (10 : Int32) [(.ref ka), (.ref kb), (.ref kc), .null, .null, .null, .null, .null, .null, .null] .null ∧ Exa Z h _a s_k ∧ Ovr Z _b s_e ∧ b1 ≠ _a) := by
 refine Meets.of (plainFor_of_name pn_18) ?_
 intro p e s m _d _Ma c s₁ X0 hx hby hml _qa hlk hnm hZ _g e0
 replace _g : s.vm.findClass s_t = some m.cls := _g
 have N0 := Fr.nil n0
 have Q0 := own_extR h0
 refine Go.cast (ef_AW7 m (7 : Int32)) ?_
 show Go p e s _d _ _ _ s₁ (mkF m 0 #[vI (7 : Int32), vU] [])
 obtain ⟨T1, h1, X1, e1, E1, A1, D1, -, st1⟩ := newO X0 hx hZ _g (qw hw 50 rfl) (qw hw 51 rfl) (qw hw 52 rfl) e0 (g := (mkF m 0 #[vI (7 : Int32), vU] [])) rfl (hb hby d7_0) (by decide) (by decide)
 obtain ⟨b1, g1⟩ : ∃ z, z = h0.size := ⟨_, rfl⟩
 rw [← g1] at A1 D1 st1
 have sz1 : h0.size ≤ b1 := Nat.le_trans Q0.1 (Nat.le_of_eq g1.symm)
 have gn1 : n0 ≤ b1 := Nat.le_trans Z0 sz1
 refine Go.st st1 ?_
 have _z : Fld Z h1 b1 s_r s_x "I" (.int 0) := D1 (Or.inl (qw hw 70 rfl)) (ty := .int) (by decide)
 have _k : Fld Z h1 b1 s_g s_w s_k .null := D1 (Or.inl (qw hw 73 rfl)) (ty := (.array (.object s_e))) (by decide)
 have _N : Fld Z h1 b1 s_g "size" "I" (.int 0) := D1 (Or.inl (qw hw 106 rfl)) (ty := .int) (by decide)
 refine gs ?_ fun _ _k => XS.dup X1.here hx rfl (hb hby d7_3) rfl rfl _k
 show Go p e s _d _ _ _ T1 (mkF m 4 #[vI (7 : Int32), vU] [(.ref b1), (.ref b1)])
 have Q_1 := own_extE Q0 E1
 have _T := own_extE EZ E1
 refine Go.callC (b := b1) (W := 1) (argsL := []) (rest := [(.ref b1)]) X1 hx hZ (y := mn_30) rfl _g (qw hw 53 rfl) (qw hw 54 rfl) (qw hw 52 rfl) (qw hw 55 rfl) (rmAI l Z a0 hw [] dc b1 h1 n0 (Nat.le_trans Z0 Q_1.1) ZN _T gn1 A1 _z _k _N SDC) e1 (by decide) (by rw [hml]; rfl) (lenOf pd0 rfl) (Nat.le_of_eq rfl) (hb hby d7_4) ?_
 intro T2 v2 L2 h2 e2 X2 hQ2
 obtain ⟨rfl, N2, K2, _ra, _ta, _ua, _va⟩ := hQ2
 have M2 := Fr.app N0 N2
 refine gs ?_ fun _ _k => XS.astoreN X2.here hx rfl (hb hby d7_7) rfl rfl (l' := #[vI (7 : Int32), vR b1]) rfl _k
 refine gs ?_ fun _ _k => XS.iloadN X2.here hx rfl (hb hby d7_8) rfl _k
 refine gs ?_ fun _ _k => XT.iconstV X2.here hx rfl (1 : Int32) (hb hby d7_9) (by decide) _k
 refine gs ?_ fun _ _k => XS.iand X2.here hx rfl (hb hby d7_10) rfl _k
 refine gs ?_ fun _ _k => XS.ifNo X2.here hx rfl (hb hby d7_11) rfl ((if0 _ _).trans (feq (by decide)).1) _k
 refine gs ?_ fun _ _k => XS.aloadN X2.here hx rfl (hb hby d7_14) rfl rfl _k
 refine gs ?_ fun _ _k => XT.iconstV X2.here hx rfl (0 : Int32) (hb hby d7_15) (by decide) _k
 show Go p e s _d _ _ _ T2 (mkF m 16 #[vI (7 : Int32), vR b1] [(.int 0), (.ref b1)])
 have Q_2 := own_extK Q_1 K2 (allS sz1 all0)
 have _U := own_extK _T K2 (allS (Nat.le_trans ZN gn1) all0)
 refine Go.callS (W := 1) (argsL := [(.int 0)]) (rest := [(.ref b1)]) X2 hx hZ _g (y := mn_27) (qw hw 39 rfl) (qw hw 40 rfl) (qw hw 41 rfl) (qw hw 42 rfl) (rmVO0 l Z a0 hw [] ca cl ka h2 n0 (Nat.le_trans Z0 Q_2.1) ZN _U SH SC BX hia) e2 (by decide) (by rw [hml]; rfl) (lenOf pd26 rfl) (Nat.le_of_eq rfl) (hb hby d7_16) ?_
 intro T3 v3 L3 h3 e3 X3 hQ3
 obtain ⟨rfl, N3, K3⟩ := hQ3
 have M3 := Fr.app M2 N3
 show Go p e s _d _ _ _ T3 (mkF m 19 #[vI (7 : Int32), vR b1] [(.ref ka), (.ref b1)])
 have _G := _va.ext K3
 have _h := _ua.ext K3
 have _C := ((_J.ext E1).keep K2 (ninS (Nat.ne_of_lt (Nat.lt_of_lt_of_le _R.lt sz1)) nin0)).ext K3
 have Q_3 := own_extE Q_2 K3
 have _V := own_extE _U K3
 have _D := _ra.ext K3
 have _o := _ta.ext K3
 have _W := ((_R.ext E1).keep K2).ext K3
 have _aa := ((_Q.ext E1).keep K2 (ninS (Nat.ne_of_lt (Nat.lt_of_lt_of_le _Q.lt sz1)) nin0)).ext K3
 refine Go.callV (b := b1) (W := 0) (argsL := [(.ref ka)]) (rest := []) X3 hx hZ _g (y := mn_35) (z := mn_35) (qw hw 240 rfl) (qw hw 241 rfl) (notFace_of_selects (args := #[]) (mvT hZ (qw hw 243 rfl))) (qw hw 243 rfl) (qw hw 242 rfl) (qw hw 52 rfl) (qw hw 244 rfl) (rmA10 l Z a0 hw [] (0 : Int32) b1 ka dc _S h3 n0 (Nat.le_trans Z0 Q_3.1) ZN _V gn1 _D _o _h _G _W _C _aa (Nat.ne_of_lt (Nat.lt_of_lt_of_le _R.lt sz1)) (Nat.ne_of_lt (Nat.lt_of_lt_of_le _Q.lt sz1)) SDC) e3 _D (by decide) (by rw [hml]; rfl) (lenOf pd12 rfl) (Nat.le_of_eq rfl) (hb hby d7_19) ?_
 intro T4 v4 L4 h4 e4 X4 hQ4
 obtain ⟨_a, _b, rfl, N4, K4, _A, _wa, _ya, _za, _Aa, _Ba, _Ca, _M⟩ := hQ4
 have M4 := Fr.app M3 N4
 have _c : h0.size ≤ _a := Nat.le_trans Q_3.1 _A
 have _f : n0 ≤ _a := Nat.le_trans Z0 _c
 refine gs ?_ fun _ _k => XS.pop X4.here hx rfl (hb hby d7_22) rfl rfl _k
 refine gs ?_ fun _ _k => XS.iloadN X4.here hx rfl (hb hby d7_23) rfl _k
 refine gs ?_ fun _ _k => XT.iconstV X4.here hx rfl (2 : Int32) (hb hby d7_24) (by decide) _k
 refine gs ?_ fun _ _k => XS.iand X4.here hx rfl (hb hby d7_25) rfl _k
 refine gs ?_ fun _ _k => XS.ifNo X4.here hx rfl (hb hby d7_26) rfl ((if0 _ _).trans (feq (by decide)).1) _k
 refine gs ?_ fun _ _k => XS.aloadN X4.here hx rfl (hb hby d7_29) rfl rfl _k
 refine gs ?_ fun _ _k => XT.iconstV X4.here hx rfl (1 : Int32) (hb hby d7_30) (by decide) _k
 show Go p e s _d _ _ _ T4 (mkF m 31 #[vI (7 : Int32), vR b1] [(.int 1), (.ref b1)])
 have Q_4 := own_extK Q_3 K4 (allS sz1 all0)
 have _ba := own_extK _V K4 (allS (Nat.le_trans ZN gn1) all0)
 refine Go.callS (W := 1) (argsL := [(.int 1)]) (rest := [(.ref b1)]) X4 hx hZ _g (y := mn_27) (qw hw 39 rfl) (qw hw 40 rfl) (qw hw 41 rfl) (qw hw 42 rfl) (rmVO1 l Z a0 hw [] ca cl kb h4 n0 (Nat.le_trans Z0 Q_4.1) ZN _ba SH SC BX hib) e4 (by decide) (by rw [hml]; rfl) (lenOf pd26 rfl) (Nat.le_of_eq rfl) (hb hby d7_31) ?_
 intro T5 v5 L5 h5 e5 X5 hQ5
 obtain ⟨rfl, N5, K5⟩ := hQ5
 have M5 := Fr.app M4 N5
 show Go p e s _d _ _ _ T5 (mkF m 34 #[vI (7 : Int32), vR b1] [(.ref kb), (.ref b1)])
 have _H := _Aa.ext K5
 have _i := _za.ext K5
 have _E := ((((_K.ext E1).keep K2 (ninS (Nat.ne_of_lt (Nat.lt_of_lt_of_le _B.lt sz1)) nin0)).ext K3).keep K4 (ninS (Nat.ne_of_lt (Nat.lt_of_lt_of_le _B.lt sz1)) nin0)).ext K5
 have _u := _Ba.ext K5
 have Q_5 := own_extE Q_4 K5
 have _O := _wa.ext K5
 have _q := _ya.ext K5
 have _ca := ((((_B.ext E1).keep K2).ext K3).keep K4).ext K5
 have _v := _Ca.ext K5
 have nq6 : b1 ≠ _a := Nat.ne_of_lt (Nat.lt_of_lt_of_le (_D).lt _A)
 have nq7 : kb ≠ _a := Nat.ne_of_lt (Nat.lt_of_lt_of_le (((_B.ext E1).keep K2).ext K3).lt _A)
 refine Go.callV (b := b1) (W := 0) (argsL := [(.ref kb)]) (rest := []) X5 hx hZ _g (y := mn_35) (z := mn_35) (qw hw 240 rfl) (qw hw 241 rfl) (notFace_of_selects (args := #[]) (mvT hZ (qw hw 243 rfl))) (qw hw 243 rfl) (qw hw 242 rfl) (qw hw 52 rfl) (qw hw 244 rfl) (rmA11 l Z a0 hw [] (1 : Int32) ka b1 kb _a _b h5 n0 (Nat.le_trans Z0 Q_5.1) gn1 _f _O _q _i _H _ca _E _u _M _v nq6 (Nat.ne_of_lt (Nat.lt_of_lt_of_le _B.lt sz1)) nq7) e5 _O (by decide) (by rw [hml]; rfl) (lenOf pd12 rfl) (Nat.le_of_eq rfl) (hb hby d7_34) ?_
 intro T8 v8 L8 h8 e8 X8 hQ8
 obtain ⟨rfl, N8, K8, _Da, _Ea, _Fa, _Ga, _Ha, _Ia⟩ := hQ8
 have M8 := Fr.app M5 N8
 refine gs ?_ fun _ _k => XS.pop X8.here hx rfl (hb hby d7_37) rfl rfl _k
 refine gs ?_ fun _ _k => XS.iloadN X8.here hx rfl (hb hby d7_38) rfl _k
 refine gs ?_ fun _ _k => XT.iconstV X8.here hx rfl (4 : Int32) (hb hby d7_39) (by decide) _k
 refine gs ?_ fun _ _k => XS.iand X8.here hx rfl (hb hby d7_40) rfl _k
 refine gs ?_ fun _ _k => XS.ifNo X8.here hx rfl (hb hby d7_41) rfl ((if0 _ _).trans (feq (by decide)).1) _k
 refine gs ?_ fun _ _k => XS.aloadN X8.here hx rfl (hb hby d7_44) rfl rfl _k
 refine gs ?_ fun _ _k => XT.iconstV X8.here hx rfl (2 : Int32) (hb hby d7_45) (by decide) _k
 show Go p e s _d _ _ _ T8 (mkF m 46 #[vI (7 : Int32), vR b1] [(.int 2), (.ref b1)])
 have Q_8 := own_extK Q_5 K8 (allS sz1 (allS _c all0))
 have _Ja := own_extK (own_extE _ba K5) K8 (allS (Nat.le_trans ZN gn1) (allS (Nat.le_trans ZN _f) all0))
 refine Go.callS (W := 1) (argsL := [(.int 2)]) (rest := [(.ref b1)]) X8 hx hZ _g (y := mn_27) (qw hw 39 rfl) (qw hw 40 rfl) (qw hw 41 rfl) (qw hw 42 rfl) (rmVO2 l Z a0 hw [] ca cl kc h8 n0 (Nat.le_trans Z0 Q_8.1) ZN _Ja SH SC BX hic) e8 (by decide) (by rw [hml]; rfl) (lenOf pd26 rfl) (Nat.le_of_eq rfl) (hb hby d7_46) ?_
 intro T9 v9 L9 h9 e9 X9 hQ9
 obtain ⟨rfl, N9, K9⟩ := hQ9
 have M9 := Fr.app M8 N9
 show Go p e s _d _ _ _ T9 (mkF m 49 #[vI (7 : Int32), vR b1] [(.ref kc), (.ref b1)])
 have _I := _Ga.ext K9
 have _j := _Fa.ext K9
 have _da : kc ≠ _a := Nat.ne_of_lt (Nat.lt_of_lt_of_le (((_t.ext E1).keep K2).ext K3).lt _A)
 have _F := ((((((_L.ext E1).keep K2 (ninS (Nat.ne_of_lt (Nat.lt_of_lt_of_le _t.lt sz1)) nin0)).ext K3).keep K4 (ninS (Nat.ne_of_lt (Nat.lt_of_lt_of_le _t.lt sz1)) nin0)).ext K5).keep K8 (ninS (Nat.ne_of_lt (Nat.lt_of_lt_of_le _t.lt sz1)) (ninS _da nin0))).ext K9
 have _w := _Ha.ext K9
 have Q_9 := own_extE Q_8 K9
 have _P := _Da.ext K9
 have _r := _Ea.ext K9
 have _fa := ((((((_t.ext E1).keep K2).ext K3).keep K4).ext K5).keep K8).ext K9
 have _y := _Ia.ext K9
 refine Go.callV (b := b1) (W := 0) (argsL := [(.ref kc)]) (rest := []) X9 hx hZ _g (y := mn_35) (z := mn_35) (qw hw 240 rfl) (qw hw 241 rfl) (notFace_of_selects (args := #[]) (mvT hZ (qw hw 243 rfl))) (qw hw 243 rfl) (qw hw 242 rfl) (qw hw 52 rfl) (qw hw 244 rfl) (rmA12 l Z a0 hw [] (2 : Int32) ka kb b1 kc _a _b h9 n0 (Nat.le_trans Z0 Q_9.1) gn1 _f _P _r _j _I _fa _F _w _M _y nq6 (Nat.ne_of_lt (Nat.lt_of_lt_of_le _t.lt sz1)) _da) e9 _P (by decide) (by rw [hml]; rfl) (lenOf pd12 rfl) (Nat.le_of_eq rfl) (hb hby d7_49) ?_
 intro T11 v11 L11 h11 e11 X11 _Ka
 obtain ⟨rfl, N11, K11, _ga, _ha, _ia, _ja, _ka, _oa⟩ := _Ka
 have M11 := Fr.app M9 N11
 refine gs ?_ fun _ _k => XS.pop X11.here hx rfl (hb hby d7_52) rfl rfl _k
 refine gs ?_ fun _ _k => XS.aloadN X11.here hx rfl (hb hby d7_53) rfl rfl _k
 show Go p e s _d _ _ _ T11 (mkF m 54 #[vI (7 : Int32), vR b1] [(.ref b1)])
 have _La := own_extK Q_9 K11 (allS sz1 (allS _c all0))
 exact Go.retA X11 hx hlk _qa rfl rfl (hb hby d7_54) (by decide) (by decide) ⟨b1, _a, _b, rfl, M11, (by rw [e11]; exact _La), sz1, _c, (by rw [e11]; exact _ga), (by rw [e11]; exact _ha), (by rw [e11]; exact _ia), (by rw [e11]; exact _ja), (by rw [e11]; exact _ka), (by rw [e11]; exact _oa), _M, nq6⟩
def own_pop (d : Nat) : Nat := d % 2 + d / 2 % 2 + d / 4 % 2
def BXK (Z : State) (h : Heap) (ka : Addr) (kb : Addr) (kc : Addr) : Prop := Exa Z h ka s_i ∧ Fld Z h ka s_i "value" "I" (.int 0) ∧ Exa Z h kb s_i ∧ Fld Z h kb s_i "value" "I" (.int 1) ∧ Exa Z h kc s_i ∧ Fld Z h kc s_i "value" "I" (.int 2)
theorem BXK.ext {Z : State} {h h' : Heap} {ka : Addr} {kb : Addr} {kc : Addr} (F : BXK Z h ka kb kc) (E : Ext h h') : BXK Z h' ka kb kc := by obtain ⟨q0, q1, q2, q3, q4, q5⟩ := F; exact ⟨q0.ext E, q1.ext E, q2.ext E, q3.ext E, q4.ext E, q5.ext E⟩
theorem rmAWM (l : Launch) (Z : State) (a0 : Array Value) (hw : HW a0 Z) (ws : List Jvm.Cond) (A : Nat) (hA : A < 8) (ca : Addr) (cl : Cell) (ka : Addr) (kb : Addr) (kc : Addr) (SH : Sta Z Z.heap s_n "high" "I" (.int 127)) (SC : Sta Z Z.heap s_n "cache" "[Ljava/lang/Integer;" (.ref ca)) (BX : Bxs Z ca cl s_i "I" 256 (fun j => .int (j - 128))) (hia : cl.slots[128]? = some (.ref ka)) (hib : cl.slots[129]? = some (.ref kb)) (hic : cl.slots[130]? = some (.ref kc)) (BK : BXK Z Z.heap ka kb kc) (dc : Addr) (_z : ClassId) (SDC : Sta Z Z.heap s_g s_v s_k (.ref dc)) (VD : Arv Z Z.heap dc _z (.object s_e) (0 : Int32) [] .null) (h0 : Heap) (n0 : Nat) (Z0 : n0 ≤ h0.size) (ZN : Z.heap.size ≤ n0) (EZ : Ext Z.heap h0) :
  Meets l Z mn_53 method_2_code 2 (some (.object s_g)) ({ frames := 5, cells := 2, slots := 13, locals := 69 } : Room) ws #[.int (Int32.ofNat A)] h0 (fun v h L => ∃ al, v = some (.ref al) ∧ Fr n0 L ∧ Ext h0 h ∧ h0.size ≤ al ∧ Exa Z h al s_g ∧ Fld Z h al s_g "size" "I" (.int (Int32.ofNat (own_pop A))) ∧ ALK Z h al (own_pop A)) := by
 have _A := VD.ext EZ
 obtain ⟨_v, _i, _w, _j, _y, _k⟩ := BK.ext EZ
 match A, hA with
 | 0, _ => exact Meets.mono (rmAW0 l Z a0 hw ws ca cl dc ka kb kc _z h0 n0 Z0 ZN EZ _A _v _i _w _j _y _k SH SC BX hia hib hic SDC) (fun v h L hq => by obtain ⟨b1, hv, hF, hK, _u, _r, _q, _a, _b⟩ := hq; exact ⟨b1, hv, hF, hK, _u, _r, _b, Or.inl ⟨rfl, dc, _r, _a, _b⟩⟩)
 | 1, _ => exact Meets.mono (rmAW1 l Z a0 hw ws ca cl dc ka kb kc _z h0 n0 Z0 ZN EZ _A _v _i _w _j _y _k SH SC BX hia hib hic SDC) (fun v h L hq => by obtain ⟨b1, _g, _h, hv, hF, hK, _u, _t, _r, _q, _a, _b, _d, _f, _c, _o⟩ := hq; exact ⟨b1, hv, hF, hK, _u, _r, _b, Or.inr (Or.inl ⟨rfl, _g, ka, _h, (0 : Int32), _r, _a, _b, _d, _c, _f, _v.ext hK, _i.ext hK⟩)⟩)
 | 2, _ => exact Meets.mono (rmAW2 l Z a0 hw ws ca cl dc ka kb kc _z h0 n0 Z0 ZN EZ _A _v _i _w _j _y _k SH SC BX hia hib hic SDC) (fun v h L hq => by obtain ⟨b1, _g, _h, hv, hF, hK, _u, _t, _r, _q, _a, _b, _d, _f, _c, _o⟩ := hq; exact ⟨b1, hv, hF, hK, _u, _r, _b, Or.inr (Or.inl ⟨rfl, _g, kb, _h, (1 : Int32), _r, _a, _b, _d, _c, _f, _w.ext hK, _j.ext hK⟩)⟩)
 | 3, _ => exact Meets.mono (rmAW3 l Z a0 hw ws ca cl dc ka kb kc _z h0 n0 Z0 ZN EZ _A _v _i _w _j _y _k SH SC BX hia hib hic SDC) (fun v h L hq => by obtain ⟨b1, _g, _h, hv, hF, hK, _u, _t, _r, _q, _a, _b, _d, _f, _c, _o⟩ := hq; exact ⟨b1, hv, hF, hK, _u, _r, _b, Or.inr (Or.inr (Or.inl ⟨rfl, _g, ka, kb, _h, (0 : Int32), (1 : Int32), _r, _a, _b, _d, _c, _f, _v.ext hK, _i.ext hK, _w.ext hK, _j.ext hK⟩))⟩)
 | 4, _ => exact Meets.mono (rmAW4 l Z a0 hw ws ca cl dc ka kb kc _z h0 n0 Z0 ZN EZ _A _v _i _w _j _y _k SH SC BX hia hib hic SDC) (fun v h L hq => by obtain ⟨b1, _g, _h, hv, hF, hK, _u, _t, _r, _q, _a, _b, _d, _f, _c, _o⟩ := hq; exact ⟨b1, hv, hF, hK, _u, _r, _b, Or.inr (Or.inl ⟨rfl, _g, kc, _h, (2 : Int32), _r, _a, _b, _d, _c, _f, _y.ext hK, _k.ext hK⟩)⟩)
 | 5, _ => exact Meets.mono (rmAW5 l Z a0 hw ws ca cl dc ka kb kc _z h0 n0 Z0 ZN EZ _A _v _i _w _j _y _k SH SC BX hia hib hic SDC) (fun v h L hq => by obtain ⟨b1, _g, _h, hv, hF, hK, _u, _t, _r, _q, _a, _b, _d, _f, _c, _o⟩ := hq; exact ⟨b1, hv, hF, hK, _u, _r, _b, Or.inr (Or.inr (Or.inl ⟨rfl, _g, ka, kc, _h, (0 : Int32), (2 : Int32), _r, _a, _b, _d, _c, _f, _v.ext hK, _i.ext hK, _y.ext hK, _k.ext hK⟩))⟩)
 | 6, _ => exact Meets.mono (rmAW6 l Z a0 hw ws ca cl dc ka kb kc _z h0 n0 Z0 ZN EZ _A _v _i _w _j _y _k SH SC BX hia hib hic SDC) (fun v h L hq => by obtain ⟨b1, _g, _h, hv, hF, hK, _u, _t, _r, _q, _a, _b, _d, _f, _c, _o⟩ := hq; exact ⟨b1, hv, hF, hK, _u, _r, _b, Or.inr (Or.inr (Or.inl ⟨rfl, _g, kb, kc, _h, (1 : Int32), (2 : Int32), _r, _a, _b, _d, _c, _f, _w.ext hK, _j.ext hK, _y.ext hK, _k.ext hK⟩))⟩)
 | 7, _ => exact Meets.mono (rmAW7 l Z a0 hw ws ca cl dc ka kb kc _z h0 n0 Z0 ZN EZ _A _v _i _w _j _y _k SH SC BX hia hib hic SDC) (fun v h L hq => by obtain ⟨b1, _g, _h, hv, hF, hK, _u, _t, _r, _q, _a, _b, _d, _f, _c, _o⟩ := hq; exact ⟨b1, hv, hF, hK, _u, _r, _b, Or.inr (Or.inr (Or.inr ⟨rfl, _g, ka, kb, kc, _h, (0 : Int32), (1 : Int32), (2 : Int32), _r, _a, _b, _d, _c, _f, _v.ext hK, _i.ext hK, _w.ext hK, _j.ext hK, _y.ext hK, _k.ext hK⟩))⟩)
 | q + 8, hA => exact absurd hA (by omega)
theorem pd27 : parseMethodDescriptor "(Ljava/util/List;I)V" = some ⟨[(.object s_y), .int], none⟩ := by decide +kernel
theorem pd28 : parseMethodDescriptor "(Ljava/lang/Object;Ljava/lang/Object;)Ljava/lang/Object;" = some ⟨[(.object s_e), (.object s_e)], some (.object s_e)⟩ := by decide +kernel
theorem d11_0 : decode bc11 0 = .ok (.aload_n 0, 1) := by decide +kernel
theorem d11_1 : decode bc11 1 = .ok (.getfield 10, 3) := by decide +kernel
theorem d11_4 : decode bc11 4 = .ok (.aload_n 1, 1) := by decide +kernel
theorem d11_5 : decode bc11 5 = .ok (.new 24, 3) := by decide +kernel
theorem d11_8 : decode bc11 8 = .ok (.dup, 1) := by decide +kernel
theorem d11_9 : decode bc11 9 = .ok (.aload_n 2, 1) := by decide +kernel
theorem d11_10 : decode bc11 10 = .ok (.invokestatic 26, 3) := by decide +kernel
theorem d11_13 : decode bc11 13 = .ok (.aload_n 0, 1) := by decide +kernel
theorem d11_14 : decode bc11 14 = .ok (.getfield 16, 3) := by decide +kernel
theorem d11_17 : decode bc11 17 = .ok (.invokespecial 32, 3) := by decide +kernel
theorem d11_20 : decode bc11 20 = .ok (.invokeinterface 35 3, 5) := by decide +kernel
theorem d11_25 : decode bc11 25 = .ok (.pop, 1) := by decide +kernel
theorem d11_26 : decode bc11 26 = .ok (.aload_n 0, 1) := by decide +kernel
theorem d11_27 : decode bc11 27 = .ok (.dup, 1) := by decide +kernel
theorem d11_28 : decode bc11 28 = .ok (.getfield 41, 3) := by decide +kernel
theorem d11_31 : decode bc11 31 = .ok (.aload_n 2, 1) := by decide +kernel
theorem d11_32 : decode bc11 32 = .ok (.invokeinterface 44 1, 5) := by decide +kernel
theorem d11_37 : decode bc11 37 = .ok (.iadd, 1) := by decide +kernel
theorem d11_38 : decode bc11 38 = .ok (.putfield 41, 3) := by decide +kernel
theorem d11_41 : decode bc11 41 = .ok (.return_, 1) := by decide +kernel
theorem ef_AD0 (m : MethodId) (x0 : Addr) (x1 : Addr) (x2 : Addr) : entryFrame m #[(.ref x0), (.ref x1), (.ref x2)] 3 = mkF m 0 #[.val (.ref x0), .val (.ref x1), .val (.ref x2)] [] := by first | (simp [entryFrame, mkF, argsToLocals, Value.category]; done) | rfl
theorem rmAD0 (l : Launch) (Z : State) (a0 : Array Value) (hw : HW a0 Z) (ws : List Jvm.Cond) (ls : Value) (ln : Value) (ac : Int32) (tk : Int32) (nl : Nat) (el : Addr) (em : Addr) (gr : Addr) (mp : Addr) (ka : Addr) (al : Addr) (h0 : Heap) (n0 : Nat) (Z0 : n0 ≤ h0.size) (ZN : Z.heap.size ≤ n0) (EZ : Ext Z.heap h0) (_Vb : n0 ≤ gr) (_Wb : n0 ≤ mp) (_i : Exa Z h0 gr s_a) (_ka : Fld Z h0 gr s_a "stimuli" "I" (.int 3)) (_N : Fld Z h0 gr s_a "nodes" "Ljava/util/Map;" (.ref mp)) (_Ua : Fld Z h0 gr s_a "arcs" "I" (.int ac)) (_Ma : Fld Z h0 gr s_a "taken" "I" (.int tk)) (_T : Fld Z h0 gr s_a "lastState" s_l ls) (_fa : Fld Z h0 gr s_a "lastNode" s_o ln) (_d : Exa Z h0 mp s_f) (_O : Fld Z h0 mp s_j "loadFactor" "F" (.float (1061158912 : UInt32))) (_Na : Fld Z h0 mp s_j "table" s_p .null) (_U : Fld Z h0 mp s_j "threshold" "I" (.int 0)) (_ga : Fld Z h0 mp s_j s_x "I" (.int 0)) (_Va : Fld Z h0 mp s_j "size" "I" (.int 0)) (_Wa : Fld Z h0 mp s_f "head" s_h .null) (_ab : Fld Z h0 mp s_f "tail" s_h .null) (_oa : Fld Z h0 mp s_f "putMode" "I" (.int 0)) (_G : Fld Z h0 mp s_f "accessOrder" "Z" (.int (nar .boolean (0 : Int32)))) (_vb : Exa Z h0 ka s_i) (_Oa : Fld Z h0 ka s_i "value" "I" (.int 0)) (_wb : Exa Z h0 al s_g) (_bb : Fld Z h0 al s_g "size" "I" (.int (Int32.ofNat nl))) (AK : ALK Z h0 al nl) (_c : gr ≠ mp) (_ac : ka ≠ gr) (_hb : ka ≠ mp) (_bc : al ≠ gr) (_ib : al ≠ mp) (SEL : Sta Z Z.heap s_u "EMPTY_LIST" "Ljava/util/ImmutableCollections$ListN;" (.ref el)) (SEM : Sta Z Z.heap s_u "EMPTY" s_l (.ref em)) (MM : ∃ (c : ClassId) (kk : Class) (mi : Addr), Z.vm.findClass s_k = some c ∧ Z.vm.classes[c]? = some kk ∧ kk.mirror = some mi) :
  Meets l Z mn_54 prog_31_method_3_code 3 none ({ frames := 9, cells := 9, slots := 50, locals := 119 } : Room) ws #[(.ref gr), (.ref ka), (.ref al)] h0 (fun v h L => ∃ (b2 : Addr) (_f : Addr) (_g : Addr) (_h : Addr) (_b : Addr) (_a : Addr) (_Pa : ClassId) (_jb : ClassId) (_Qa : ClassId) (_o : ClassId), v = none ∧ Fr n0 L ∧ Keep h0 h [gr, mp] ∧ h0.size ≤ b2 ∧ h0.size ≤ _f ∧ h0.size ≤ _g ∧ h0.size ≤ _h ∧ h0.size ≤ _b ∧ h0.size ≤ _a ∧ Exa Z h gr s_a ∧ Fld Z h gr s_a "stimuli" "I" (.int 3) ∧ Fld Z h gr s_a "nodes" "Ljava/util/Map;" (.ref mp) ∧ Fld Z h gr s_a "arcs" "I" (.int (ac + (Int32.ofNat nl))) ∧ Fld Z h gr s_a "taken" "I" (.int tk) ∧ Fld Z h gr s_a "lastState" s_l ls ∧ Fld Z h gr s_a "lastNode" s_o ln ∧ Exa Z h mp s_f ∧ Fld Z h mp s_j "loadFactor" "F" (.float (1061158912 : UInt32)) ∧ Fld Z h mp s_j "table" s_p (.ref _b) ∧ Fld Z h mp s_j "threshold" "I" (.int 12) ∧ Fld Z h mp s_j s_x "I" (.int 1) ∧ Fld Z h mp s_j "size" "I" (.int 1) ∧ Fld Z h mp s_f "head" s_h (.ref _a) ∧ Fld Z h mp s_f "tail" s_h (.ref _a) ∧ Fld Z h mp s_f "putMode" "I" (.int 0) ∧ Fld Z h mp s_f "accessOrder" "Z" (.int (nar .boolean (0 : Int32))) ∧ Exa Z h b2 s_b ∧ Fld Z h b2 s_b "next" s_k (.ref _f) ∧ Fld Z h b2 s_b "times" "[J" (.ref _g) ∧ Fld Z h b2 s_b "nextNodes" s_z (.ref _h) ∧ Arv Z h _f _Pa (.object s_e) (3 : Int32) [.null, .null, .null] .null ∧ Arv Z h _g _jb .long (3 : Int32) [(.long 0), (.long 0), (.long 0)] (.long 0) ∧ Arv Z h _h _Qa (.object s_b) (3 : Int32) [.null, .null, .null] .null ∧ Arv Z h _b _o (.object s_c) (16 : Int32) [(.ref _a), .null, .null, .null, .null, .null, .null, .null, .null, .null, .null, .null, .null, .null, .null, .null] .null ∧ Exa Z h _a s_d ∧ Fld Z h _a s_c "hash" "I" (.int 0) ∧ Fld Z h _a s_c "key" s_l (.ref ka) ∧ Fld Z h _a s_c "value" s_l (.ref b2) ∧ Fld Z h _a s_c "next" s_q .null ∧ Fld Z h _a s_d "before" s_h .null ∧ Fld Z h _a s_d "after" s_h .null ∧ Ovr Z _Pa s_e ∧ Ovr Z _Qa s_b ∧ Ovr Z _o s_c ∧ b2 ≠ _f ∧ b2 ≠ _g ∧ b2 ≠ _h ∧ b2 ≠ _b ∧ b2 ≠ _a ∧ _f ≠ _g ∧ _f ≠ _h ∧ _f ≠ _b ∧ _f ≠ _a ∧ _g ≠ _h ∧ _g ≠ _b ∧ _g ≠ _a ∧ _h ≠ _b ∧ _h ≠ _a ∧ _b ≠ _a) := by
 refine Meets.of (plainFor_of_name pn_8) ?_
 intro p e s m _w _Sc c s₁ X0 hx hby hml _cc hlk hnm hZ _j e0
 replace _j : s.vm.findClass s_a = some m.cls := _j
 have N0 := Fr.nil n0
 have K0 := Keep.refl h0 [gr, mp]
 refine Go.cast (ef_AD0 m gr ka al) ?_
 show Go p e s _w _ _ _ s₁ (mkF m 0 #[vR gr, vR ka, vR al] [])
 refine gs ?_ fun _ _k => XS.aloadN X0.here hx rfl (hb hby d11_0) rfl rfl _k
 obtain ⟨T1, X1, e1, st1⟩ := getF X0 hx hZ _j (host := "") (Or.inl (qw hw 35 rfl)) Via.refl e0 _N (g := (mkF m 1 #[vR gr, vR ka, vR al] [(.ref gr)])) rfl rfl (hb hby d11_1)
 refine Go.st st1 ?_
 refine gs ?_ fun _ _k => XS.aloadN X1.here hx rfl (hb hby d11_4) rfl rfl _k
 obtain ⟨T2, h2, X2, e2, E2, A2, D2, -, st2⟩ := newO X1 hx hZ _j (qw hw 79 rfl) (qw hw 80 rfl) (qw hw 81 rfl) e1 (g := (mkF m 5 #[vR gr, vR ka, vR al] [(.ref ka), (.ref mp)])) rfl (hb hby d11_5) (by decide) (by decide)
 obtain ⟨b2, g2⟩ : ∃ z, z = h0.size := ⟨_, rfl⟩
 rw [← g2] at A2 D2 st2
 have sz2 : h0.size ≤ b2 := Nat.le_trans K0.1 (Nat.le_of_eq g2.symm)
 have gn2 : n0 ≤ b2 := Nat.le_trans Z0 sz2
 refine Go.st st2 ?_
 have _qa : Fld Z h2 b2 s_b "allowed" "Ljava/util/List;" .null := D2 (Or.inr (qw hw 116 rfl)) (ty := (.object s_y)) (by decide)
 have _cb : Fld Z h2 b2 s_b "next" s_k .null := D2 (Or.inr (qw hw 120 rfl)) (ty := (.array (.object s_e))) (by decide)
 have _Ra : Fld Z h2 b2 s_b "times" "[J" .null := D2 (Or.inr (qw hw 123 rfl)) (ty := (.array .long)) (by decide)
 have _V : Fld Z h2 b2 s_b "nextNodes" s_z .null := D2 (Or.inr (qw hw 127 rfl)) (ty := (.array (.object s_b))) (by decide)
 refine gs ?_ fun _ _k => XS.dup X2.here hx rfl (hb hby d11_8) rfl rfl _k
 refine gs ?_ fun _ _k => XS.aloadN X2.here hx rfl (hb hby d11_9) rfl rfl _k
 show Go p e s _w _ _ _ T2 (mkF m 10 #[vR gr, vR ka, vR al] [(.ref al), (.ref b2), (.ref b2), (.ref ka), (.ref mp)])
 have K_2 := K0.ext E2
 have _dc := own_extE EZ E2
 have _fc := AK.ext E2
 refine Go.callS (W := 4) (argsL := [(.ref al)]) (rest := [(.ref b2), (.ref b2), (.ref ka), (.ref mp)]) X2 hx hZ _j (y := mn_51) (qw hw 82 rfl) (qw hw 83 rfl) (qw hw 84 rfl) (qw hw 85 rfl) (rmCOM l Z a0 hw [] al nl h2 n0 (Nat.le_trans Z0 K_2.1) ZN _dc _fc el em SEL SEM MM) e2 (by decide) (by rw [hml]; rfl) (lenOf pd25 rfl) (Nat.le_of_eq rfl) (hb hby d11_10) ?_
 intro T3 v3 L3 h3 e3 X3 hQ3
 obtain ⟨lc3, rfl, N3, E3⟩ := hQ3
 have M3 := Fr.app N0 N3
 refine gs ?_ fun _ _k => XS.aloadN X3.here hx rfl (hb hby d11_13) rfl rfl _k
 have _k := (_ka.ext E2).ext E3
 obtain ⟨T4, X4, e4, st4⟩ := getF X3 hx hZ _j (host := "") (Or.inl (qw hw 37 rfl)) Via.refl e3 _k (g := (mkF m 14 #[vR gr, vR ka, vR al] [(.ref gr), (.ref lc3), (.ref b2), (.ref b2), (.ref ka), (.ref mp)])) rfl rfl (hb hby d11_14)
 refine Go.st st4 ?_
 show Go p e s _w _ _ _ T4 (mkF m 17 #[vR gr, vR ka, vR al] [(.int 3), (.ref lc3), (.ref b2), (.ref b2), (.ref ka), (.ref mp)])
 have K_3 := K_2.ext E3
 have _P := A2.ext E3
 have _W := _qa.ext E3
 have _Ca := _cb.ext E3
 have _ra := _Ra.ext E3
 have _H := _V.ext E3
 refine Go.callC (b := b2) (W := 3) (argsL := [(.ref lc3), (.int 3)]) (rest := [(.ref b2), (.ref ka), (.ref mp)]) X4 hx hZ (y := mn_25) rfl _j (qw hw 111 rfl) (qw hw 112 rfl) (qw hw 81 rfl) (qw hw 113 rfl) (rmNI l Z a0 hw [] lc3 b2 h3 n0 (Nat.le_trans Z0 K_3.1) gn2 _P _W _Ca _ra _H) e4 (by decide) (by rw [hml]; rfl) (lenOf pd27 rfl) (Nat.le_of_eq rfl) (hb hby d11_17) ?_
 intro T5 v5 L5 h5 e5 X5 hQ5
 obtain ⟨_f, _g, _h, _Pa, _jb, _Qa, rfl, N5, K5, _ha, _ia, _ja, _kb, _Tc, _gc, _hc, _ic, _ob, _jc, _yb, _qb, _Gb, _Hb, _Ib, _Jb, _Kb⟩ := hQ5
 have M5 := Fr.app M3 N5
 have _zb : h0.size ≤ _f := Nat.le_trans K_3.1 _ha
 have _Ab : h0.size ≤ _g := Nat.le_trans K_3.1 _ia
 have _Bb : h0.size ≤ _h := Nat.le_trans K_3.1 _ja
 show Go p e s _w _ _ _ T5 (mkF m 20 #[vR gr, vR ka, vR al] [(.ref b2), (.ref ka), (.ref mp)])
 have K_5 := K_3.trans K5 (allS (Or.inr sz2) all0)
 have _db := ((_d.ext E2).ext E3).keep K5
 have _A := ((_O.ext E2).ext E3).keep K5 (ninS (Nat.ne_of_lt (Nat.lt_of_lt_of_le _d.lt sz2)) nin0)
 have _ta := ((_Na.ext E2).ext E3).keep K5 (ninS (Nat.ne_of_lt (Nat.lt_of_lt_of_le _d.lt sz2)) nin0)
 have _I := ((_U.ext E2).ext E3).keep K5 (ninS (Nat.ne_of_lt (Nat.lt_of_lt_of_le _d.lt sz2)) nin0)
 have _Q := ((_ga.ext E2).ext E3).keep K5 (ninS (Nat.ne_of_lt (Nat.lt_of_lt_of_le _d.lt sz2)) nin0)
 have _Da := ((_Va.ext E2).ext E3).keep K5 (ninS (Nat.ne_of_lt (Nat.lt_of_lt_of_le _d.lt sz2)) nin0)
 have _Ea := ((_Wa.ext E2).ext E3).keep K5 (ninS (Nat.ne_of_lt (Nat.lt_of_lt_of_le _d.lt sz2)) nin0)
 have _Fa := ((_ab.ext E2).ext E3).keep K5 (ninS (Nat.ne_of_lt (Nat.lt_of_lt_of_le _d.lt sz2)) nin0)
 have _aa := ((_oa.ext E2).ext E3).keep K5 (ninS (Nat.ne_of_lt (Nat.lt_of_lt_of_le _d.lt sz2)) nin0)
 have _r := ((_G.ext E2).ext E3).keep K5 (ninS (Nat.ne_of_lt (Nat.lt_of_lt_of_le _d.lt sz2)) nin0)
 have _Cb := ((_vb.ext E2).ext E3).keep K5
 have _ua := ((_Oa.ext E2).ext E3).keep K5 (ninS (Nat.ne_of_lt (Nat.lt_of_lt_of_le _vb.lt sz2)) nin0)
 refine Go.callF (b := mp) (W := 0) (argsL := [(.ref ka), (.ref b2)]) (rest := []) X5 hx hZ _j (y := mn_55) (z := mn_17) (qw hw 128 rfl) (qw hw 129 rfl) (qw hw 130 rfl) rfl (qw hw 131 rfl) (qw hw 132 rfl) (qw hw 133 rfl) (qw hw 134 rfl) (qw hw 135 rfl) (qw hw 19 rfl) (qw hw 136 rfl) (rmT0 l Z a0 hw [] b2 mp ka h5 n0 (Nat.le_trans Z0 K_5.1) _Wb _db _A _ta _I _Q _Da _Ea _Fa _aa _r _Cb _ua _hb) e5 _db (by decide) (by rw [hml]; rfl) (lenOf pd28 rfl) (Nat.le_of_eq rfl) (hb hby d11_20) ?_
 intro T6 v6 L6 h6 e6 X6 hQ6
 obtain ⟨_b, _a, _o, rfl, N6, K6, _y, _z, _kc, _oc, _qc, _rc, _tc, _uc, _vc, _wc, _yc, _zc, _Lb, _Mb, _Nb, _Ob, _Pb, _Qb, _Rb, _Sb, _Tb, _Ub⟩ := hQ6
 have M6 := Fr.app M5 N6
 have _Sa : h0.size ≤ _b := Nat.le_trans K_5.1 _y
 have _Ta : h0.size ≤ _a := Nat.le_trans K_5.1 _z
 refine gs ?_ fun _ _k => XS.pop X6.here hx rfl (hb hby d11_25) rfl rfl _k
 refine gs ?_ fun _ _k => XS.aloadN X6.here hx rfl (hb hby d11_26) rfl rfl _k
 refine gs ?_ fun _ _k => XS.dup X6.here hx rfl (hb hby d11_27) rfl rfl _k
 have _E := (((_Ua.ext E2).ext E3).keep K5 (ninS (Nat.ne_of_lt (Nat.lt_of_lt_of_le _i.lt sz2)) nin0)).keep K6 (ninS _c nin0)
 obtain ⟨T7, X7, e7, st7⟩ := getF X6 hx hZ _j (host := "") (Or.inl (qw hw 219 rfl)) Via.refl e6 _E (g := (mkF m 28 #[vR gr, vR ka, vR al] [(.ref gr), (.ref gr)])) rfl rfl (hb hby d11_28)
 refine Go.st st7 ?_
 refine gs ?_ fun _ _k => XS.aloadN X7.here hx rfl (hb hby d11_31) rfl rfl _k
 show Go p e s _w _ _ _ T7 (mkF m 32 #[vR gr, vR ka, vR al] [(.ref al), (.int ac), (.ref gr)])
 have K_6 := K_5.trans K6 (allS (Or.inl (by simp)) all0)
 have _fb := (((_wb.ext E2).ext E3).keep K5).keep K6
 have _Ga := (((_bb.ext E2).ext E3).keep K5 (ninS (Nat.ne_of_lt (Nat.lt_of_lt_of_le _wb.lt sz2)) nin0)).keep K6 (ninS _ib nin0)
 refine Go.callF (b := al) (W := 2) (argsL := []) (rest := [(.int ac), (.ref gr)]) X7 hx hZ _j (y := mn_56) (z := mn_36) (qw hw 221 rfl) (qw hw 222 rfl) (qw hw 223 rfl) rfl (qw hw 224 rfl) (qw hw 225 rfl) (qw hw 226 rfl) (qw hw 227 rfl) (qw hw 228 rfl) (qw hw 52 rfl) (qw hw 229 rfl) (rmSZ l Z a0 hw [] (Int32.ofNat nl) al h6 n0 (Nat.le_trans Z0 K_6.1) _fb _Ga) e7 _fb (by decide) (by rw [hml]; rfl) (lenOf pd8 rfl) (Nat.le_of_eq rfl) (hb hby d11_32) ?_
 intro T8 v8 L8 h8 e8 X8 hQ8
 obtain ⟨rfl, N8, K8⟩ := hQ8
 have M8 := Fr.app M6 N8
 refine gs ?_ fun _ _k => XS.iadd X8.here hx rfl (hb hby d11_37) rfl _k
 have _F := _E.ext K8
 have _gb := ((((_i.ext E2).ext E3).keep K5).keep K6).ext K8
 obtain ⟨T9, h9, X9, e9, W9, st9⟩ := putF X8 hx hZ _j (host := "") (Or.inl (qw hw 219 rfl)) Via.refl e8 _F _gb (Or.inl (qw hw 220 rfl)) (qw hw 1 rfl) (ty := .int) (by decide) rfl rfl (g := (mkF m 38 #[vR gr, vR ka, vR al] [(.int (ac + (Int32.ofNat nl))), (.ref gr)])) rfl rfl (hb hby d11_38)
 refine Go.st st9 ?_
 have _Ha : Fld Z h9 gr s_a "arcs" "I" (.int (ac + (Int32.ofNat nl))) := _F.same W9
 have N9 := Fr.snoc X9 M8 _Vb
 show Go p e s _w _ _ _ T9 (mkF m 41 #[vR gr, vR ka, vR al] [])
 have _Ac : mp ≠ _f := Nat.ne_of_lt (Nat.lt_of_lt_of_le ((_d.ext E2).ext E3).lt _ha)
 have _Bc : gr ≠ _f := Nat.ne_of_lt (Nat.lt_of_lt_of_le ((_i.ext E2).ext E3).lt _ha)
 have _rb := ((_ob.keep K6 (ninS (Ne.symm _Ac) nin0)).ext K8).other W9 (Ne.symm _Bc)
 have _Cc : mp ≠ _g := Nat.ne_of_lt (Nat.lt_of_lt_of_le ((_d.ext E2).ext E3).lt _ia)
 have _Dc : gr ≠ _g := Nat.ne_of_lt (Nat.lt_of_lt_of_le ((_i.ext E2).ext E3).lt _ia)
 have _tb := ((_jc.keep K6 (ninS (Ne.symm _Cc) nin0)).ext K8).other W9 (Ne.symm _Dc)
 have _Ec : mp ≠ _h := Nat.ne_of_lt (Nat.lt_of_lt_of_le ((_d.ext E2).ext E3).lt _ja)
 have _Fc : gr ≠ _h := Nat.ne_of_lt (Nat.lt_of_lt_of_le ((_i.ext E2).ext E3).lt _ja)
 have _ub := ((_qb.keep K6 (ninS (Ne.symm _Ec) nin0)).ext K8).other W9 (Ne.symm _Fc)
 have _Gc : gr ≠ _b := Nat.ne_of_lt (Nat.lt_of_lt_of_le (((_i.ext E2).ext E3).keep K5).lt _y)
 have _va := (_Lb.ext K8).other W9 (Ne.symm _Gc)
 have K_9 := (K_6.ext K8).wr W9 (Or.inl (by simp))
 have _Db := _gb.wr W9
 have _ba := (((_k.keep K5 (ninS (Nat.ne_of_lt (Nat.lt_of_lt_of_le _i.lt sz2)) nin0)).keep K6 (ninS _c nin0)).ext K8).other W9 (Or.inr (slot_ne (Or.inr (qw hw 38 rfl)) (Or.inl (qw hw 220 rfl)) (by decide) (t := .int) (t' := .int) (by decide) (by decide)))
 have _wa := (((((_N.ext E2).ext E3).keep K5 (ninS (Nat.ne_of_lt (Nat.lt_of_lt_of_le _i.lt sz2)) nin0)).keep K6 (ninS _c nin0)).ext K8).other W9 (Or.inr (slot_ne (Or.inr (qw hw 36 rfl)) (Or.inl (qw hw 220 rfl)) (by decide) (t := (.object "java/util/Map")) (t' := .int) (by decide) (by decide)))
 have _ya := (((((_Ma.ext E2).ext E3).keep K5 (ninS (Nat.ne_of_lt (Nat.lt_of_lt_of_le _i.lt sz2)) nin0)).keep K6 (ninS _c nin0)).ext K8).other W9 (Or.inr (slot_ne (Or.inl (qw hw 236 rfl)) (Or.inl (qw hw 220 rfl)) (by decide) (t := .int) (t' := .int) (by decide) (by decide)))
 have _J := (((((_T.ext E2).ext E3).keep K5 (ninS (Nat.ne_of_lt (Nat.lt_of_lt_of_le _i.lt sz2)) nin0)).keep K6 (ninS _c nin0)).ext K8).other W9 (Or.inr (slot_ne (Or.inl (qw hw 364 rfl)) (Or.inl (qw hw 220 rfl)) (by decide) (t := (.object s_e)) (t' := .int) (by decide) (by decide)))
 have _R := (((((_fa.ext E2).ext E3).keep K5 (ninS (Nat.ne_of_lt (Nat.lt_of_lt_of_le _i.lt sz2)) nin0)).keep K6 (ninS _c nin0)).ext K8).other W9 (Or.inr (slot_ne (Or.inl (qw hw 344 rfl)) (Or.inl (qw hw 220 rfl)) (by decide) (t := (.object s_b)) (t' := .int) (by decide) (by decide)))
 have _Eb := (_kc.ext K8).wr W9
 have _B := (_oc.ext K8).other W9 (Or.inl (Ne.symm _c))
 have _za := (_qc.ext K8).other W9 (Or.inl (Ne.symm _c))
 have _K := (_rc.ext K8).other W9 (Or.inl (Ne.symm _c))
 have _S := (_tc.ext K8).other W9 (Or.inl (Ne.symm _c))
 have _Ia := (_uc.ext K8).other W9 (Or.inl (Ne.symm _c))
 have _Ja := (_vc.ext K8).other W9 (Or.inl (Ne.symm _c))
 have _Ka := (_wc.ext K8).other W9 (Or.inl (Ne.symm _c))
 have _ca := (_yc.ext K8).other W9 (Or.inl (Ne.symm _c))
 have _t := (_zc.ext K8).other W9 (Or.inl (Ne.symm _c))
 have _Fb := ((_kb.keep K6).ext K8).wr W9
 have _La := ((_gc.keep K6 (ninS (Ne.symm (Nat.ne_of_lt (Nat.lt_of_lt_of_le _d.lt sz2))) nin0)).ext K8).other W9 (Or.inl (Ne.symm (Nat.ne_of_lt (Nat.lt_of_lt_of_le _i.lt sz2))))
 have _Aa := ((_hc.keep K6 (ninS (Ne.symm (Nat.ne_of_lt (Nat.lt_of_lt_of_le _d.lt sz2))) nin0)).ext K8).other W9 (Or.inl (Ne.symm (Nat.ne_of_lt (Nat.lt_of_lt_of_le _i.lt sz2))))
 have _L := ((_ic.keep K6 (ninS (Ne.symm (Nat.ne_of_lt (Nat.lt_of_lt_of_le _d.lt sz2))) nin0)).ext K8).other W9 (Or.inl (Ne.symm (Nat.ne_of_lt (Nat.lt_of_lt_of_le _i.lt sz2))))
 have _Ba := (_Mb.ext K8).wr W9
 have _da : gr ≠ _a := Nat.ne_of_lt (Nat.lt_of_lt_of_le (((_i.ext E2).ext E3).keep K5).lt _z)
 have _C := (_Nb.ext K8).other W9 (Or.inl (Ne.symm _da))
 have _M := (_Ob.ext K8).other W9 (Or.inl (Ne.symm _da))
 have _u := (_Pb.ext K8).other W9 (Or.inl (Ne.symm _da))
 have _D := (_Qb.ext K8).other W9 (Or.inl (Ne.symm _da))
 have _q := (_Rb.ext K8).other W9 (Or.inl (Ne.symm _da))
 have _v := (_Sb.ext K8).other W9 (Or.inl (Ne.symm _da))
 have _Hc : b2 ≠ _f := Nat.ne_of_lt (Nat.lt_of_lt_of_le (_P).lt _ha)
 have _Ic : b2 ≠ _g := Nat.ne_of_lt (Nat.lt_of_lt_of_le (_P).lt _ia)
 have _Jc : b2 ≠ _h := Nat.ne_of_lt (Nat.lt_of_lt_of_le (_P).lt _ja)
 have _Kc : b2 ≠ _b := Nat.ne_of_lt (Nat.lt_of_lt_of_le (_kb).lt _y)
 have _Lc : b2 ≠ _a := Nat.ne_of_lt (Nat.lt_of_lt_of_le (_kb).lt _z)
 have _Mc : _f ≠ _b := Nat.ne_of_lt (Nat.lt_of_lt_of_le (_ob).lt _y)
 have _Nc : _f ≠ _a := Nat.ne_of_lt (Nat.lt_of_lt_of_le (_ob).lt _z)
 have _Oc : _g ≠ _b := Nat.ne_of_lt (Nat.lt_of_lt_of_le (_yb).lt _y)
 have _Pc : _g ≠ _a := Nat.ne_of_lt (Nat.lt_of_lt_of_le (_yb).lt _z)
 have _Qc : _h ≠ _b := Nat.ne_of_lt (Nat.lt_of_lt_of_le (_qb).lt _y)
 have _Rc : _h ≠ _a := Nat.ne_of_lt (Nat.lt_of_lt_of_le (_qb).lt _z)
 exact Go.retV X9 hx hlk _cc (hb hby d11_41) (by decide) (by decide) ⟨b2, _f, _g, _h, _b, _a, _Pa, _jb, _Qa, _o, rfl, N9, (by rw [e9]; exact K_9), sz2, _zb, _Ab, _Bb, _Sa, _Ta, (by rw [e9]; exact _Db), (by rw [e9]; exact _ba), (by rw [e9]; exact _wa), (by rw [e9]; exact _Ha), (by rw [e9]; exact _ya), (by rw [e9]; exact _J), (by rw [e9]; exact _R), (by rw [e9]; exact _Eb), (by rw [e9]; exact _B), (by rw [e9]; exact _za), (by rw [e9]; exact _K), (by rw [e9]; exact _S), (by rw [e9]; exact _Ia), (by rw [e9]; exact _Ja), (by rw [e9]; exact _Ka), (by rw [e9]; exact _ca), (by rw [e9]; exact _t), (by rw [e9]; exact _Fb), (by rw [e9]; exact _La), (by rw [e9]; exact _Aa), (by rw [e9]; exact _L), (by rw [e9]; exact _rb), (by rw [e9]; exact _tb), (by rw [e9]; exact _ub), (by rw [e9]; exact _va), (by rw [e9]; exact _Ba), (by rw [e9]; exact _C), (by rw [e9]; exact _M), (by rw [e9]; exact _u), (by rw [e9]; exact _D), (by rw [e9]; exact _q), (by rw [e9]; exact _v), _Gb, _Hb, _Tb, _Hc, _Ic, _Jc, _Kc, _Lc, _Ib, _Jb, _Mc, _Nc, _Kb, _Oc, _Pc, _Qc, _Rc, _Ub⟩
theorem ef_AD1 (m : MethodId) (x0 : Addr) (x1 : Addr) (x2 : Addr) : entryFrame m #[(.ref x0), (.ref x1), (.ref x2)] 3 = mkF m 0 #[.val (.ref x0), .val (.ref x1), .val (.ref x2)] [] := by first | (simp [entryFrame, mkF, argsToLocals, Value.category]; done) | rfl
theorem rmAD1 (l : Launch) (Z : State) (a0 : Array Value) (hw : HW a0 Z) (ws : List Jvm.Cond) (ls : Value) (ln : Value) (ac : Int32) (tk : Int32) (nl : Nat) (el : Addr) (em : Addr) (ka : Addr) (na : Addr) (gr : Addr) (mp : Addr) (kb : Addr) (al : Addr) (ea : Addr) (tb : Addr) (_Sa : ClassId) (h0 : Heap) (n0 : Nat) (Z0 : n0 ≤ h0.size) (ZN : Z.heap.size ≤ n0) (EZ : Ext Z.heap h0) (_Ec : n0 ≤ gr) (_Fc : n0 ≤ mp) (_Gc : n0 ≤ ea) (_Hc : n0 ≤ tb) (_j : Exa Z h0 gr s_a) (_ja : Fld Z h0 gr s_a "stimuli" "I" (.int 3)) (_P : Fld Z h0 gr s_a "nodes" "Ljava/util/Map;" (.ref mp)) (_jb : Fld Z h0 gr s_a "arcs" "I" (.int ac)) (_Ta : Fld Z h0 gr s_a "taken" "I" (.int tk)) (_V : Fld Z h0 gr s_a "lastState" s_l ls) (_ga : Fld Z h0 gr s_a "lastNode" s_o ln) (_d : Exa Z h0 mp s_f) (_Q : Fld Z h0 mp s_j "loadFactor" "F" (.float (1061158912 : UInt32))) (_Ua : Fld Z h0 mp s_j "table" s_p (.ref tb)) (_W : Fld Z h0 mp s_j "threshold" "I" (.int 12)) (_ha : Fld Z h0 mp s_j s_x "I" (.int 1)) (_kb : Fld Z h0 mp s_j "size" "I" (.int 1)) (_ob : Fld Z h0 mp s_f "head" s_h (.ref ea)) (_qb : Fld Z h0 mp s_f "tail" s_h (.ref ea)) (_ka : Fld Z h0 mp s_f "putMode" "I" (.int 0)) (_I : Fld Z h0 mp s_f "accessOrder" "Z" (.int (nar .boolean (0 : Int32)))) (_Ob : Exa Z h0 kb s_i) (_Va : Fld Z h0 kb s_i "value" "I" (.int 1)) (_Pb : Exa Z h0 al s_g) (_rb : Fld Z h0 al s_g "size" "I" (.int (Int32.ofNat nl))) (_k : Exa Z h0 ea s_d) (_tb : Fld Z h0 ea s_c "hash" "I" (.int 0)) (_Ab : Fld Z h0 ea s_c "key" s_l (.ref ka)) (_Wa : Fld Z h0 ea s_c "value" s_l (.ref na)) (_ub : Fld Z h0 ea s_c "next" s_q .null) (_Da : Fld Z h0 ea s_d "before" s_h .null) (_ab : Fld Z h0 ea s_d "after" s_h .null) (_r : Arv Z h0 tb _Sa (.object s_c) (16 : Int32) [(.ref ea), .null, .null, .null, .null, .null, .null, .null, .null, .null, .null, .null, .null, .null, .null, .null] .null) (_Ic : Ovr Z _Sa s_c) (AK : ALK Z h0 al nl) (_b : gr ≠ mp) (_c : gr ≠ ea) (_i : gr ≠ tb) (_Bb : mp ≠ ea) (_Cb : mp ≠ tb) (_Jc : kb ≠ gr) (_Db : kb ≠ mp) (_Eb : kb ≠ ea) (_Fb : kb ≠ tb) (_Kc : al ≠ gr) (_Gb : al ≠ mp) (_Hb : al ≠ ea) (_Ib : al ≠ tb) (_Jb : ea ≠ tb) (SEL : Sta Z Z.heap s_u "EMPTY_LIST" "Ljava/util/ImmutableCollections$ListN;" (.ref el)) (SEM : Sta Z Z.heap s_u "EMPTY" s_l (.ref em)) (MM : ∃ (c : ClassId) (kk : Class) (mi : Addr), Z.vm.findClass s_k = some c ∧ Z.vm.classes[c]? = some kk ∧ kk.mirror = some mi) :
  Meets l Z mn_54 prog_31_method_3_code 3 none ({ frames := 9, cells := 8, slots := 34, locals := 119 } : Room) ws #[(.ref gr), (.ref kb), (.ref al)] h0 (fun v h L => ∃ (b2 : Addr) (_f : Addr) (_g : Addr) (_h : Addr) (_a : Addr) (_bb : ClassId) (_Kb : ClassId) (_cb : ClassId), v = none ∧ Fr n0 L ∧ Keep h0 h [gr, mp, ea, tb] ∧ h0.size ≤ b2 ∧ h0.size ≤ _f ∧ h0.size ≤ _g ∧ h0.size ≤ _h ∧ h0.size ≤ _a ∧ Exa Z h gr s_a ∧ Fld Z h gr s_a "stimuli" "I" (.int 3) ∧ Fld Z h gr s_a "nodes" "Ljava/util/Map;" (.ref mp) ∧ Fld Z h gr s_a "arcs" "I" (.int (ac + (Int32.ofNat nl))) ∧ Fld Z h gr s_a "taken" "I" (.int tk) ∧ Fld Z h gr s_a "lastState" s_l ls ∧ Fld Z h gr s_a "lastNode" s_o ln ∧ Exa Z h mp s_f ∧ Fld Z h mp s_j "loadFactor" "F" (.float (1061158912 : UInt32)) ∧ Fld Z h mp s_j "table" s_p (.ref tb) ∧ Fld Z h mp s_j "threshold" "I" (.int 12) ∧ Fld Z h mp s_j s_x "I" (.int 2) ∧ Fld Z h mp s_j "size" "I" (.int 2) ∧ Fld Z h mp s_f "head" s_h (.ref ea) ∧ Fld Z h mp s_f "tail" s_h (.ref _a) ∧ Fld Z h mp s_f "putMode" "I" (.int 0) ∧ Fld Z h mp s_f "accessOrder" "Z" (.int (nar .boolean (0 : Int32))) ∧ Exa Z h ea s_d ∧ Fld Z h ea s_c "hash" "I" (.int 0) ∧ Fld Z h ea s_c "key" s_l (.ref ka) ∧ Fld Z h ea s_c "value" s_l (.ref na) ∧ Fld Z h ea s_c "next" s_q .null ∧ Arv Z h tb _Sa (.object s_c) (16 : Int32) [(.ref ea), (.ref _a), .null, .null, .null, .null, .null, .null, .null, .null, .null, .null, .null, .null, .null, .null] .null ∧ Exa Z h b2 s_b ∧ Fld Z h b2 s_b "next" s_k (.ref _f) ∧ Fld Z h b2 s_b "times" "[J" (.ref _g) ∧ Fld Z h b2 s_b "nextNodes" s_z (.ref _h) ∧ Arv Z h _f _bb (.object s_e) (3 : Int32) [.null, .null, .null] .null ∧ Arv Z h _g _Kb .long (3 : Int32) [(.long 0), (.long 0), (.long 0)] (.long 0) ∧ Arv Z h _h _cb (.object s_b) (3 : Int32) [.null, .null, .null] .null ∧ Exa Z h _a s_d ∧ Fld Z h _a s_c "hash" "I" (.int 1) ∧ Fld Z h _a s_c "key" s_l (.ref kb) ∧ Fld Z h _a s_c "value" s_l (.ref b2) ∧ Fld Z h _a s_c "next" s_q .null ∧ Ovr Z _bb s_e ∧ Ovr Z _cb s_b ∧ b2 ≠ _f ∧ b2 ≠ _g ∧ b2 ≠ _h ∧ b2 ≠ _a ∧ _f ≠ _g ∧ _f ≠ _h ∧ _f ≠ _a ∧ _g ≠ _h ∧ _g ≠ _a ∧ _h ≠ _a) := by
 refine Meets.of (plainFor_of_name pn_8) ?_
 intro p e s m _w _Kd c s₁ X0 hx hby hml _Lc hlk hnm hZ _o e0
 replace _o : s.vm.findClass s_a = some m.cls := _o
 have N0 := Fr.nil n0
 have K0 := Keep.refl h0 [gr, mp, ea, tb]
 refine Go.cast (ef_AD1 m gr kb al) ?_
 show Go p e s _w _ _ _ s₁ (mkF m 0 #[vR gr, vR kb, vR al] [])
 refine gs ?_ fun _ _k => XS.aloadN X0.here hx rfl (hb hby d11_0) rfl rfl _k
 obtain ⟨T1, X1, e1, st1⟩ := getF X0 hx hZ _o (host := "") (Or.inl (qw hw 35 rfl)) Via.refl e0 _P (g := (mkF m 1 #[vR gr, vR kb, vR al] [(.ref gr)])) rfl rfl (hb hby d11_1)
 refine Go.st st1 ?_
 refine gs ?_ fun _ _k => XS.aloadN X1.here hx rfl (hb hby d11_4) rfl rfl _k
 obtain ⟨T2, h2, X2, e2, E2, A2, D2, -, st2⟩ := newO X1 hx hZ _o (qw hw 79 rfl) (qw hw 80 rfl) (qw hw 81 rfl) e1 (g := (mkF m 5 #[vR gr, vR kb, vR al] [(.ref kb), (.ref mp)])) rfl (hb hby d11_5) (by decide) (by decide)
 obtain ⟨b2, g2⟩ : ∃ z, z = h0.size := ⟨_, rfl⟩
 rw [← g2] at A2 D2 st2
 have sz2 : h0.size ≤ b2 := Nat.le_trans K0.1 (Nat.le_of_eq g2.symm)
 have gn2 : n0 ≤ b2 := Nat.le_trans Z0 sz2
 refine Go.st st2 ?_
 have _oa : Fld Z h2 b2 s_b "allowed" "Ljava/util/List;" .null := D2 (Or.inr (qw hw 116 rfl)) (ty := (.object s_y)) (by decide)
 have _vb : Fld Z h2 b2 s_b "next" s_k .null := D2 (Or.inr (qw hw 120 rfl)) (ty := (.array (.object s_e))) (by decide)
 have _db : Fld Z h2 b2 s_b "times" "[J" .null := D2 (Or.inr (qw hw 123 rfl)) (ty := (.array .long)) (by decide)
 have _aa : Fld Z h2 b2 s_b "nextNodes" s_z .null := D2 (Or.inr (qw hw 127 rfl)) (ty := (.array (.object s_b))) (by decide)
 refine gs ?_ fun _ _k => XS.dup X2.here hx rfl (hb hby d11_8) rfl rfl _k
 refine gs ?_ fun _ _k => XS.aloadN X2.here hx rfl (hb hby d11_9) rfl rfl _k
 show Go p e s _w _ _ _ T2 (mkF m 10 #[vR gr, vR kb, vR al] [(.ref al), (.ref b2), (.ref b2), (.ref kb), (.ref mp)])
 have K_2 := K0.ext E2
 have _Mc := own_extE EZ E2
 have _Nc := AK.ext E2
 refine Go.callS (W := 4) (argsL := [(.ref al)]) (rest := [(.ref b2), (.ref b2), (.ref kb), (.ref mp)]) X2 hx hZ _o (y := mn_51) (qw hw 82 rfl) (qw hw 83 rfl) (qw hw 84 rfl) (qw hw 85 rfl) (rmCOM l Z a0 hw [] al nl h2 n0 (Nat.le_trans Z0 K_2.1) ZN _Mc _Nc el em SEL SEM MM) e2 (by decide) (by rw [hml]; rfl) (lenOf pd25 rfl) (Nat.le_of_eq rfl) (hb hby d11_10) ?_
 intro T3 v3 L3 h3 e3 X3 hQ3
 obtain ⟨lc3, rfl, N3, E3⟩ := hQ3
 have M3 := Fr.app N0 N3
 refine gs ?_ fun _ _k => XS.aloadN X3.here hx rfl (hb hby d11_13) rfl rfl _k
 have _q := (_ja.ext E2).ext E3
 obtain ⟨T4, X4, e4, st4⟩ := getF X3 hx hZ _o (host := "") (Or.inl (qw hw 37 rfl)) Via.refl e3 _q (g := (mkF m 14 #[vR gr, vR kb, vR al] [(.ref gr), (.ref lc3), (.ref b2), (.ref b2), (.ref kb), (.ref mp)])) rfl rfl (hb hby d11_14)
 refine Go.st st4 ?_
 show Go p e s _w _ _ _ T4 (mkF m 17 #[vR gr, vR kb, vR al] [(.int 3), (.ref lc3), (.ref b2), (.ref b2), (.ref kb), (.ref mp)])
 have K_3 := K_2.ext E3
 have _R := A2.ext E3
 have _ba := _oa.ext E3
 have _Ea := _vb.ext E3
 have _qa := _db.ext E3
 have _J := _aa.ext E3
 refine Go.callC (b := b2) (W := 3) (argsL := [(.ref lc3), (.int 3)]) (rest := [(.ref b2), (.ref kb), (.ref mp)]) X4 hx hZ (y := mn_25) rfl _o (qw hw 111 rfl) (qw hw 112 rfl) (qw hw 81 rfl) (qw hw 113 rfl) (rmNI l Z a0 hw [] lc3 b2 h3 n0 (Nat.le_trans Z0 K_3.1) gn2 _R _ba _Ea _qa _J) e4 (by decide) (by rw [hml]; rfl) (lenOf pd27 rfl) (Nat.le_of_eq rfl) (hb hby d11_17) ?_
 intro T5 v5 L5 h5 e5 X5 hQ5
 obtain ⟨_f, _g, _h, _bb, _Kb, _cb, rfl, N5, K5, _y, _z, _A, _Qb, _Ld, _Oc, _Pc, _Qc, _Rb, _Rc, _Sc, _Sb, _ic, _jc, _kc, _oc, _qc⟩ := hQ5
 have M5 := Fr.app M3 N5
 have _Tb : h0.size ≤ _f := Nat.le_trans K_3.1 _y
 have _Ub : h0.size ≤ _g := Nat.le_trans K_3.1 _z
 have _Vb : h0.size ≤ _h := Nat.le_trans K_3.1 _A
 show Go p e s _w _ _ _ T5 (mkF m 20 #[vR gr, vR kb, vR al] [(.ref b2), (.ref kb), (.ref mp)])
 have K_5 := K_3.trans K5 (allS (Or.inr sz2) all0)
 have _wb := ((_d.ext E2).ext E3).keep K5
 have _C := ((_Q.ext E2).ext E3).keep K5 (ninS (Nat.ne_of_lt (Nat.lt_of_lt_of_le _d.lt sz2)) nin0)
 have _ra := ((_Ua.ext E2).ext E3).keep K5 (ninS (Nat.ne_of_lt (Nat.lt_of_lt_of_le _d.lt sz2)) nin0)
 have _K := ((_W.ext E2).ext E3).keep K5 (ninS (Nat.ne_of_lt (Nat.lt_of_lt_of_le _d.lt sz2)) nin0)
 have _S := ((_ha.ext E2).ext E3).keep K5 (ninS (Nat.ne_of_lt (Nat.lt_of_lt_of_le _d.lt sz2)) nin0)
 have _Fa := ((_kb.ext E2).ext E3).keep K5 (ninS (Nat.ne_of_lt (Nat.lt_of_lt_of_le _d.lt sz2)) nin0)
 have _Ga := ((_ob.ext E2).ext E3).keep K5 (ninS (Nat.ne_of_lt (Nat.lt_of_lt_of_le _d.lt sz2)) nin0)
 have _Ha := ((_qb.ext E2).ext E3).keep K5 (ninS (Nat.ne_of_lt (Nat.lt_of_lt_of_le _d.lt sz2)) nin0)
 have _ca := ((_ka.ext E2).ext E3).keep K5 (ninS (Nat.ne_of_lt (Nat.lt_of_lt_of_le _d.lt sz2)) nin0)
 have _t := ((_I.ext E2).ext E3).keep K5 (ninS (Nat.ne_of_lt (Nat.lt_of_lt_of_le _d.lt sz2)) nin0)
 have _Wb := ((_k.ext E2).ext E3).keep K5
 have _Ia := ((_tb.ext E2).ext E3).keep K5 (ninS (Nat.ne_of_lt (Nat.lt_of_lt_of_le _k.lt sz2)) nin0)
 have _fb := ((_Ab.ext E2).ext E3).keep K5 (ninS (Nat.ne_of_lt (Nat.lt_of_lt_of_le _k.lt sz2)) nin0)
 have _ta := ((_Wa.ext E2).ext E3).keep K5 (ninS (Nat.ne_of_lt (Nat.lt_of_lt_of_le _k.lt sz2)) nin0)
 have _Ja := ((_ub.ext E2).ext E3).keep K5 (ninS (Nat.ne_of_lt (Nat.lt_of_lt_of_le _k.lt sz2)) nin0)
 have _ia := ((_Da.ext E2).ext E3).keep K5 (ninS (Nat.ne_of_lt (Nat.lt_of_lt_of_le _k.lt sz2)) nin0)
 have _ua := ((_ab.ext E2).ext E3).keep K5 (ninS (Nat.ne_of_lt (Nat.lt_of_lt_of_le _k.lt sz2)) nin0)
 have _ac := ((_r.ext E2).ext E3).keep K5 (ninS (Nat.ne_of_lt (Nat.lt_of_lt_of_le _r.lt sz2)) nin0)
 have _bc := ((_Ob.ext E2).ext E3).keep K5
 have _va := ((_Va.ext E2).ext E3).keep K5 (ninS (Nat.ne_of_lt (Nat.lt_of_lt_of_le _Ob.lt sz2)) nin0)
 refine Go.callF (b := mp) (W := 0) (argsL := [(.ref kb), (.ref b2)]) (rest := []) X5 hx hZ _o (y := mn_55) (z := mn_17) (qw hw 128 rfl) (qw hw 129 rfl) (qw hw 130 rfl) rfl (qw hw 131 rfl) (qw hw 132 rfl) (qw hw 133 rfl) (qw hw 134 rfl) (qw hw 135 rfl) (qw hw 19 rfl) (qw hw 136 rfl) (rmT1 l Z a0 hw [] ka na b2 mp ea tb kb _Sa h5 n0 (Nat.le_trans Z0 K_5.1) _Fc _Gc _Hc _wb _C _ra _K _S _Fa _Ga _Ha _ca _t _Wb _Ia _fb _ta _Ja _ia _ua _ac _Ic _bc _va _Bb _Cb _Jb _Db _Eb _Fb) e5 _wb (by decide) (by rw [hml]; rfl) (lenOf pd28 rfl) (Nat.le_of_eq rfl) (hb hby d11_20) ?_
 intro T6 v6 L6 h6 e6 X6 hQ6
 obtain ⟨_a, rfl, N6, K6, _B, _Tc, _Uc, _Vc, _Wc, _ad, _bd, _cd, _dd, _fd, _gd, _rc, _tc, _uc, _vc, _wc, _Gd, _Hd, _yc, _zc, _Ac, _Bc, _Cc, _Dc, _Id, _Jd⟩ := hQ6
 have M6 := Fr.app M5 N6
 have _gb : h0.size ≤ _a := Nat.le_trans K_5.1 _B
 refine gs ?_ fun _ _k => XS.pop X6.here hx rfl (hb hby d11_25) rfl rfl _k
 refine gs ?_ fun _ _k => XS.aloadN X6.here hx rfl (hb hby d11_26) rfl rfl _k
 refine gs ?_ fun _ _k => XS.dup X6.here hx rfl (hb hby d11_27) rfl rfl _k
 have _G := (((_jb.ext E2).ext E3).keep K5 (ninS (Nat.ne_of_lt (Nat.lt_of_lt_of_le _j.lt sz2)) nin0)).keep K6 (ninS _b (ninS _c (ninS _i nin0)))
 obtain ⟨T7, X7, e7, st7⟩ := getF X6 hx hZ _o (host := "") (Or.inl (qw hw 219 rfl)) Via.refl e6 _G (g := (mkF m 28 #[vR gr, vR kb, vR al] [(.ref gr), (.ref gr)])) rfl rfl (hb hby d11_28)
 refine Go.st st7 ?_
 refine gs ?_ fun _ _k => XS.aloadN X7.here hx rfl (hb hby d11_31) rfl rfl _k
 show Go p e s _w _ _ _ T7 (mkF m 32 #[vR gr, vR kb, vR al] [(.ref al), (.int ac), (.ref gr)])
 have K_6 := K_5.trans K6 (allS (Or.inl (by simp)) (allS (Or.inl (by simp)) (allS (Or.inl (by simp)) all0)))
 have _yb := (((_Pb.ext E2).ext E3).keep K5).keep K6
 have _Ka := (((_rb.ext E2).ext E3).keep K5 (ninS (Nat.ne_of_lt (Nat.lt_of_lt_of_le _Pb.lt sz2)) nin0)).keep K6 (ninS _Gb (ninS _Hb (ninS _Ib nin0)))
 refine Go.callF (b := al) (W := 2) (argsL := []) (rest := [(.int ac), (.ref gr)]) X7 hx hZ _o (y := mn_56) (z := mn_36) (qw hw 221 rfl) (qw hw 222 rfl) (qw hw 223 rfl) rfl (qw hw 224 rfl) (qw hw 225 rfl) (qw hw 226 rfl) (qw hw 227 rfl) (qw hw 228 rfl) (qw hw 52 rfl) (qw hw 229 rfl) (rmSZ l Z a0 hw [] (Int32.ofNat nl) al h6 n0 (Nat.le_trans Z0 K_6.1) _yb _Ka) e7 _yb (by decide) (by rw [hml]; rfl) (lenOf pd8 rfl) (Nat.le_of_eq rfl) (hb hby d11_32) ?_
 intro T8 v8 L8 h8 e8 X8 hQ8
 obtain ⟨rfl, N8, K8⟩ := hQ8
 have M8 := Fr.app M6 N8
 refine gs ?_ fun _ _k => XS.iadd X8.here hx rfl (hb hby d11_37) rfl _k
 have _H := _G.ext K8
 have _zb := ((((_j.ext E2).ext E3).keep K5).keep K6).ext K8
 obtain ⟨T9, h9, X9, e9, W9, st9⟩ := putF X8 hx hZ _o (host := "") (Or.inl (qw hw 219 rfl)) Via.refl e8 _H _zb (Or.inl (qw hw 220 rfl)) (qw hw 1 rfl) (ty := .int) (by decide) rfl rfl (g := (mkF m 38 #[vR gr, vR kb, vR al] [(.int (ac + (Int32.ofNat nl))), (.ref gr)])) rfl rfl (hb hby d11_38)
 refine Go.st st9 ?_
 have _La : Fld Z h9 gr s_a "arcs" "I" (.int (ac + (Int32.ofNat nl))) := _H.same W9
 have N9 := Fr.snoc X9 M8 _Ec
 show Go p e s _w _ _ _ T9 (mkF m 41 #[vR gr, vR kb, vR al] [])
 have _hd : tb ≠ _f := Nat.ne_of_lt (Nat.lt_of_lt_of_le ((_r.ext E2).ext E3).lt _y)
 have _id : ea ≠ _f := Nat.ne_of_lt (Nat.lt_of_lt_of_le ((_k.ext E2).ext E3).lt _y)
 have _jd : mp ≠ _f := Nat.ne_of_lt (Nat.lt_of_lt_of_le ((_d.ext E2).ext E3).lt _y)
 have _kd : gr ≠ _f := Nat.ne_of_lt (Nat.lt_of_lt_of_le ((_j.ext E2).ext E3).lt _y)
 have _Lb := ((_Rb.keep K6 (ninS (Ne.symm _jd) (ninS (Ne.symm _id) (ninS (Ne.symm _hd) nin0)))).ext K8).other W9 (Ne.symm _kd)
 have _od : tb ≠ _g := Nat.ne_of_lt (Nat.lt_of_lt_of_le ((_r.ext E2).ext E3).lt _z)
 have _qd : ea ≠ _g := Nat.ne_of_lt (Nat.lt_of_lt_of_le ((_k.ext E2).ext E3).lt _z)
 have _rd : mp ≠ _g := Nat.ne_of_lt (Nat.lt_of_lt_of_le ((_d.ext E2).ext E3).lt _z)
 have _td : gr ≠ _g := Nat.ne_of_lt (Nat.lt_of_lt_of_le ((_j.ext E2).ext E3).lt _z)
 have _Mb := ((_Rc.keep K6 (ninS (Ne.symm _rd) (ninS (Ne.symm _qd) (ninS (Ne.symm _od) nin0)))).ext K8).other W9 (Ne.symm _td)
 have _ud : tb ≠ _h := Nat.ne_of_lt (Nat.lt_of_lt_of_le ((_r.ext E2).ext E3).lt _A)
 have _vd : ea ≠ _h := Nat.ne_of_lt (Nat.lt_of_lt_of_le ((_k.ext E2).ext E3).lt _A)
 have _wd : mp ≠ _h := Nat.ne_of_lt (Nat.lt_of_lt_of_le ((_d.ext E2).ext E3).lt _A)
 have _yd : gr ≠ _h := Nat.ne_of_lt (Nat.lt_of_lt_of_le ((_j.ext E2).ext E3).lt _A)
 have _Nb := ((_Sb.keep K6 (ninS (Ne.symm _wd) (ninS (Ne.symm _vd) (ninS (Ne.symm _ud) nin0)))).ext K8).other W9 (Ne.symm _yd)
 have K_9 := (K_6.ext K8).wr W9 (Or.inl (by simp))
 have _cc := _zb.wr W9
 have _da := (((_q.keep K5 (ninS (Nat.ne_of_lt (Nat.lt_of_lt_of_le _j.lt sz2)) nin0)).keep K6 (ninS _b (ninS _c (ninS _i nin0)))).ext K8).other W9 (Or.inr (slot_ne (Or.inr (qw hw 38 rfl)) (Or.inl (qw hw 220 rfl)) (by decide) (t := .int) (t' := .int) (by decide) (by decide)))
 have _wa := (((((_P.ext E2).ext E3).keep K5 (ninS (Nat.ne_of_lt (Nat.lt_of_lt_of_le _j.lt sz2)) nin0)).keep K6 (ninS _b (ninS _c (ninS _i nin0)))).ext K8).other W9 (Or.inr (slot_ne (Or.inr (qw hw 36 rfl)) (Or.inl (qw hw 220 rfl)) (by decide) (t := (.object "java/util/Map")) (t' := .int) (by decide) (by decide)))
 have _ya := (((((_Ta.ext E2).ext E3).keep K5 (ninS (Nat.ne_of_lt (Nat.lt_of_lt_of_le _j.lt sz2)) nin0)).keep K6 (ninS _b (ninS _c (ninS _i nin0)))).ext K8).other W9 (Or.inr (slot_ne (Or.inl (qw hw 236 rfl)) (Or.inl (qw hw 220 rfl)) (by decide) (t := .int) (t' := .int) (by decide) (by decide)))
 have _L := (((((_V.ext E2).ext E3).keep K5 (ninS (Nat.ne_of_lt (Nat.lt_of_lt_of_le _j.lt sz2)) nin0)).keep K6 (ninS _b (ninS _c (ninS _i nin0)))).ext K8).other W9 (Or.inr (slot_ne (Or.inl (qw hw 364 rfl)) (Or.inl (qw hw 220 rfl)) (by decide) (t := (.object s_e)) (t' := .int) (by decide) (by decide)))
 have _T := (((((_ga.ext E2).ext E3).keep K5 (ninS (Nat.ne_of_lt (Nat.lt_of_lt_of_le _j.lt sz2)) nin0)).keep K6 (ninS _b (ninS _c (ninS _i nin0)))).ext K8).other W9 (Or.inr (slot_ne (Or.inl (qw hw 344 rfl)) (Or.inl (qw hw 220 rfl)) (by decide) (t := (.object s_b)) (t' := .int) (by decide) (by decide)))
 have _dc := (_Tc.ext K8).wr W9
 have _D := (_Uc.ext K8).other W9 (Or.inl (Ne.symm _b))
 have _za := (_Vc.ext K8).other W9 (Or.inl (Ne.symm _b))
 have _M := (_Wc.ext K8).other W9 (Or.inl (Ne.symm _b))
 have _U := (_ad.ext K8).other W9 (Or.inl (Ne.symm _b))
 have _Ma := (_bd.ext K8).other W9 (Or.inl (Ne.symm _b))
 have _Na := (_cd.ext K8).other W9 (Or.inl (Ne.symm _b))
 have _Oa := (_dd.ext K8).other W9 (Or.inl (Ne.symm _b))
 have _fa := (_fd.ext K8).other W9 (Or.inl (Ne.symm _b))
 have _u := (_gd.ext K8).other W9 (Or.inl (Ne.symm _b))
 have _fc := (_rc.ext K8).wr W9
 have _Pa := (_tc.ext K8).other W9 (Or.inl (Ne.symm _c))
 have _hb := (_uc.ext K8).other W9 (Or.inl (Ne.symm _c))
 have _Aa := (_vc.ext K8).other W9 (Or.inl (Ne.symm _c))
 have _Qa := (_wc.ext K8).other W9 (Or.inl (Ne.symm _c))
 have _gc := (_yc.ext K8).other W9 (Ne.symm _i)
 have _hc := ((_Qb.keep K6).ext K8).wr W9
 have _Ra := ((_Oc.keep K6 (ninS (Ne.symm (Nat.ne_of_lt (Nat.lt_of_lt_of_le _d.lt sz2))) (ninS (Ne.symm (Nat.ne_of_lt (Nat.lt_of_lt_of_le _k.lt sz2))) (ninS (Ne.symm (Nat.ne_of_lt (Nat.lt_of_lt_of_le _r.lt sz2))) nin0)))).ext K8).other W9 (Or.inl (Ne.symm (Nat.ne_of_lt (Nat.lt_of_lt_of_le _j.lt sz2))))
 have _Ba := ((_Pc.keep K6 (ninS (Ne.symm (Nat.ne_of_lt (Nat.lt_of_lt_of_le _d.lt sz2))) (ninS (Ne.symm (Nat.ne_of_lt (Nat.lt_of_lt_of_le _k.lt sz2))) (ninS (Ne.symm (Nat.ne_of_lt (Nat.lt_of_lt_of_le _r.lt sz2))) nin0)))).ext K8).other W9 (Or.inl (Ne.symm (Nat.ne_of_lt (Nat.lt_of_lt_of_le _j.lt sz2))))
 have _N := ((_Qc.keep K6 (ninS (Ne.symm (Nat.ne_of_lt (Nat.lt_of_lt_of_le _d.lt sz2))) (ninS (Ne.symm (Nat.ne_of_lt (Nat.lt_of_lt_of_le _k.lt sz2))) (ninS (Ne.symm (Nat.ne_of_lt (Nat.lt_of_lt_of_le _r.lt sz2))) nin0)))).ext K8).other W9 (Or.inl (Ne.symm (Nat.ne_of_lt (Nat.lt_of_lt_of_le _j.lt sz2))))
 have _Ca := (_zc.ext K8).wr W9
 have _ib : gr ≠ _a := Nat.ne_of_lt (Nat.lt_of_lt_of_le (((_j.ext E2).ext E3).keep K5).lt _B)
 have _E := (_Ac.ext K8).other W9 (Or.inl (Ne.symm _ib))
 have _O := (_Bc.ext K8).other W9 (Or.inl (Ne.symm _ib))
 have _v := (_Cc.ext K8).other W9 (Or.inl (Ne.symm _ib))
 have _F := (_Dc.ext K8).other W9 (Or.inl (Ne.symm _ib))
 have _zd : b2 ≠ _f := Nat.ne_of_lt (Nat.lt_of_lt_of_le (_R).lt _y)
 have _Ad : b2 ≠ _g := Nat.ne_of_lt (Nat.lt_of_lt_of_le (_R).lt _z)
 have _Bd : b2 ≠ _h := Nat.ne_of_lt (Nat.lt_of_lt_of_le (_R).lt _A)
 have _Cd : b2 ≠ _a := Nat.ne_of_lt (Nat.lt_of_lt_of_le (_Qb).lt _B)
 have _Dd : _f ≠ _a := Nat.ne_of_lt (Nat.lt_of_lt_of_le (_Rb).lt _B)
 have _Ed : _g ≠ _a := Nat.ne_of_lt (Nat.lt_of_lt_of_le (_Sc).lt _B)
 have _Fd : _h ≠ _a := Nat.ne_of_lt (Nat.lt_of_lt_of_le (_Sb).lt _B)
 exact Go.retV X9 hx hlk _Lc (hb hby d11_41) (by decide) (by decide) ⟨b2, _f, _g, _h, _a, _bb, _Kb, _cb, rfl, N9, (by rw [e9]; exact K_9), sz2, _Tb, _Ub, _Vb, _gb, (by rw [e9]; exact _cc), (by rw [e9]; exact _da), (by rw [e9]; exact _wa), (by rw [e9]; exact _La), (by rw [e9]; exact _ya), (by rw [e9]; exact _L), (by rw [e9]; exact _T), (by rw [e9]; exact _dc), (by rw [e9]; exact _D), (by rw [e9]; exact _za), (by rw [e9]; exact _M), (by rw [e9]; exact _U), (by rw [e9]; exact _Ma), (by rw [e9]; exact _Na), (by rw [e9]; exact _Oa), (by rw [e9]; exact _fa), (by rw [e9]; exact _u), (by rw [e9]; exact _fc), (by rw [e9]; exact _Pa), (by rw [e9]; exact _hb), (by rw [e9]; exact _Aa), (by rw [e9]; exact _Qa), (by rw [e9]; exact _gc), (by rw [e9]; exact _hc), (by rw [e9]; exact _Ra), (by rw [e9]; exact _Ba), (by rw [e9]; exact _N), (by rw [e9]; exact _Lb), (by rw [e9]; exact _Mb), (by rw [e9]; exact _Nb), (by rw [e9]; exact _Ca), (by rw [e9]; exact _E), (by rw [e9]; exact _O), (by rw [e9]; exact _v), (by rw [e9]; exact _F), _ic, _jc, _zd, _Ad, _Bd, _Cd, _kc, _oc, _Dd, _qc, _Ed, _Fd⟩
theorem d30_0 : decode bc30 0 = .ok (.aload_n 0, 1) := by decide +kernel
theorem d30_1 : decode bc30 1 = .ok (.getfield 92, 3) := by decide +kernel
theorem d30_4 : decode bc30 4 = .ok (.aload_n 0, 1) := by decide +kernel
theorem d30_5 : decode bc30 5 = .ok (.getfield 41, 3) := by decide +kernel
theorem d30_8 : decode bc30 8 = .ok (.if_icmp .ne 7, 3) := by decide +kernel
theorem d30_15 : decode bc30 15 = .ok (.iconst 0, 1) := by decide +kernel
theorem d30_16 : decode bc30 16 = .ok (.ireturn, 1) := by decide +kernel
theorem ef_CM0 (m : MethodId) (x0 : Addr) : entryFrame m #[(.ref x0)] 1 = mkF m 0 #[.val (.ref x0)] [] := by first | (simp [entryFrame, mkF, argsToLocals, Value.category]; done) | rfl
theorem rmCM0 (l : Launch) (Z : State) (a0 : Array Value) (hw : HW a0 Z) (ws : List Jvm.Cond) (tk : Int32) (ac : Int32) (gr : Addr) (h0 : Heap) (n0 : Nat) (Z0 : n0 ≤ h0.size) (_g : Exa Z h0 gr s_a) (_a : Fld Z h0 gr s_a "taken" "I" (.int tk)) (_c : Fld Z h0 gr s_a "arcs" "I" (.int ac)) (hq : ¬ tk = ac) :
  Meets l Z mn_57 prog_31_method_8_code 1 (some .boolean) ({ frames := 0, cells := 0, slots := 0, locals := 0 } : Room) ws #[(.ref gr)] h0 (fun v h L => v = some (.int (nar .boolean (0 : Int32))) ∧ Fr n0 L ∧ Ext h0 h) := by
 refine Meets.of (plainFor_of_name pn_8) ?_
 intro p e s m _d _h c s₁ X0 hx hby hml _f hlk hnm hZ _b e0
 replace _b : s.vm.findClass s_a = some m.cls := _b
 have N0 := Fr.nil n0
 have Q0 := own_extR h0
 refine Go.cast (ef_CM0 m gr) ?_
 show Go p e s _d _ _ _ s₁ (mkF m 0 #[vR gr] [])
 refine gs ?_ fun _ _k => XS.aloadN X0.here hx rfl (hb hby d30_0) rfl rfl _k
 obtain ⟨T1, X1, e1, st1⟩ := getF X0 hx hZ _b (host := "") (Or.inl (qw hw 235 rfl)) Via.refl e0 _a (g := (mkF m 1 #[vR gr] [(.ref gr)])) rfl rfl (hb hby d30_1)
 refine Go.st st1 ?_
 refine gs ?_ fun _ _k => XS.aloadN X1.here hx rfl (hb hby d30_4) rfl rfl _k
 obtain ⟨T2, X2, e2, st2⟩ := getF X1 hx hZ _b (host := "") (Or.inl (qw hw 219 rfl)) Via.refl e1 _c (g := (mkF m 5 #[vR gr] [(.ref gr), (.int tk)])) rfl rfl (hb hby d30_5)
 refine Go.st st2 ?_
 refine gs ?_ fun _ _k => XS.icmpYes X2.here hx rfl (pc0 := 8) (pc' := 15) rfl (hb hby d30_8) rfl (feq hq).2 (by decide) (by decide) _k
 refine gs ?_ fun _ _k => XT.iconstV X2.here hx rfl (0 : Int32) (hb hby d30_15) (by decide) _k
 show Go p e s _d _ _ _ T2 (mkF m 16 #[vR gr] [(.int 0)])
 exact Go.retN X2 hx hlk _f (by simp) (hb hby d30_16) (by decide) (by decide) ⟨rfl, N0, (by rw [e2]; exact Q0)⟩
theorem d30_11 : decode bc30 11 = .ok (.iconst 1, 1) := by decide +kernel
theorem d30_12 : decode bc30 12 = .ok (.goto 4, 3) := by decide +kernel
theorem ef_CM1 (m : MethodId) (x0 : Addr) : entryFrame m #[(.ref x0)] 1 = mkF m 0 #[.val (.ref x0)] [] := by first | (simp [entryFrame, mkF, argsToLocals, Value.category]; done) | rfl
theorem rmCM1 (l : Launch) (Z : State) (a0 : Array Value) (hw : HW a0 Z) (ws : List Jvm.Cond) (tk : Int32) (ac : Int32) (gr : Addr) (h0 : Heap) (n0 : Nat) (Z0 : n0 ≤ h0.size) (_g : Exa Z h0 gr s_a) (_a : Fld Z h0 gr s_a "taken" "I" (.int tk)) (_c : Fld Z h0 gr s_a "arcs" "I" (.int ac)) (hq : tk = ac) :
  Meets l Z mn_57 prog_31_method_8_code 1 (some .boolean) ({ frames := 0, cells := 0, slots := 0, locals := 0 } : Room) ws #[(.ref gr)] h0 (fun v h L => v = some (.int (nar .boolean (1 : Int32))) ∧ Fr n0 L ∧ Ext h0 h) := by
 refine Meets.of (plainFor_of_name pn_8) ?_
 intro p e s m _d _h c s₁ X0 hx hby hml _f hlk hnm hZ _b e0
 replace _b : s.vm.findClass s_a = some m.cls := _b
 have N0 := Fr.nil n0
 have Q0 := own_extR h0
 refine Go.cast (ef_CM1 m gr) ?_
 show Go p e s _d _ _ _ s₁ (mkF m 0 #[vR gr] [])
 refine gs ?_ fun _ _k => XS.aloadN X0.here hx rfl (hb hby d30_0) rfl rfl _k
 obtain ⟨T1, X1, e1, st1⟩ := getF X0 hx hZ _b (host := "") (Or.inl (qw hw 235 rfl)) Via.refl e0 _a (g := (mkF m 1 #[vR gr] [(.ref gr)])) rfl rfl (hb hby d30_1)
 refine Go.st st1 ?_
 refine gs ?_ fun _ _k => XS.aloadN X1.here hx rfl (hb hby d30_4) rfl rfl _k
 obtain ⟨T2, X2, e2, st2⟩ := getF X1 hx hZ _b (host := "") (Or.inl (qw hw 219 rfl)) Via.refl e1 _c (g := (mkF m 5 #[vR gr] [(.ref gr), (.int tk)])) rfl rfl (hb hby d30_5)
 refine Go.st st2 ?_
 refine gs ?_ fun _ _k => XS.icmpNo X2.here hx rfl (hb hby d30_8) rfl (teq hq).2 _k
 refine gs ?_ fun _ _k => XT.iconstV X2.here hx rfl (1 : Int32) (hb hby d30_11) (by decide) _k
 refine gs ?_ fun _ _k => XS.goto X2.here hx rfl (pc0 := 12) (pc' := 16) rfl (hb hby d30_12) (by decide) (by decide) _k
 show Go p e s _d _ _ _ T2 (mkF m 16 #[vR gr] [(.int 1)])
 exact Go.retN X2 hx hlk _f (by simp) (hb hby d30_16) (by decide) (by decide) ⟨rfl, N0, (by rw [e2]; exact Q0)⟩
theorem d46_0 : decode bc46 0 = .ok (.iload_n 0, 1) := by decide +kernel
theorem d46_1 : decode bc46 1 = .ok (.bipush 8, 2) := by decide +kernel
theorem d46_3 : decode bc46 3 = .ok (.iushr, 1) := by decide +kernel
theorem d46_4 : decode bc46 4 = .ok (.iconst 3, 1) := by decide +kernel
theorem d46_5 : decode bc46 5 = .ok (.iand, 1) := by decide +kernel
theorem d46_6 : decode bc46 6 = .ok (.istore_n 1, 1) := by decide +kernel
theorem d46_7 : decode bc46 7 = .ok (.iload_n 1, 1) := by decide +kernel
theorem d46_8 : decode bc46 8 = .ok (.iconst 3, 1) := by decide +kernel
theorem d46_9 : decode bc46 9 = .ok (.if_icmp .ne 5, 3) := by decide +kernel
theorem d46_14 : decode bc46 14 = .ok (.iload_n 1, 1) := by decide +kernel
theorem d46_15 : decode bc46 15 = .ok (.invokestatic 10, 3) := by decide +kernel
theorem d46_18 : decode bc46 18 = .ok (.areturn, 1) := by decide +kernel
theorem ef_TG0 (m : MethodId) (x0 : Int32) : entryFrame m #[(.int x0)] 2 = mkF m 0 #[.val (.int x0), .unset] [] := by first | (simp [entryFrame, mkF, argsToLocals, Value.category]; done) | rfl
theorem rmTG0 (l : Launch) (Z : State) (a0 : Array Value) (hw : HW a0 Z) (ws : List Jvm.Cond) (ca : Addr) (cl : Cell) (tt : Int32) (ka : Addr) (kb : Addr) (kc : Addr) (h0 : Heap) (n0 : Nat) (Z0 : n0 ≤ h0.size) (ZN : Z.heap.size ≤ n0) (EZ : Ext Z.heap h0) (SH : Sta Z Z.heap s_n "high" "I" (.int 127)) (SC : Sta Z Z.heap s_n "cache" "[Ljava/lang/Integer;" (.ref ca)) (BX : Bxs Z ca cl s_i "I" 256 (fun j => .int (j - 128))) (hia : cl.slots[128]? = some (.ref ka)) (hib : cl.slots[129]? = some (.ref kb)) (hic : cl.slots[130]? = some (.ref kc)) (hq : (((tt.toUInt32 >>> ((8 : Int32) &&& 31).toUInt32).toInt32) &&& (3 : Int32)) = (0 : Int32)) :
  Meets l Z mn_58 method_3_code 2 (some (.object s_i)) ({ frames := 1, cells := 0, slots := 0, locals := 12 } : Room) ws #[(.int tt)] h0 (fun v h L => v = some (.ref ka) ∧ Fr n0 L ∧ Ext h0 h) := by
 refine Meets.of (plainFor_of_name pn_18) ?_
 intro p e s m _a _d c s₁ X0 hx hby hml _c hlk hnm hZ _b e0
 replace _b : s.vm.findClass s_t = some m.cls := _b
 have N0 := Fr.nil n0
 have Q0 := own_extR h0
 refine Go.cast (ef_TG0 m tt) ?_
 show Go p e s _a _ _ _ s₁ (mkF m 0 #[vI tt, vU] [])
 refine gs ?_ fun _ _k => XS.iloadN X0.here hx rfl (hb hby d46_0) rfl _k
 refine gs ?_ fun _ _k => XT.bipushV X0.here hx rfl (8 : Int32) (hb hby d46_1) (by decide) _k
 refine gs ?_ fun _ _k => XS.iushr X0.here hx rfl (hb hby d46_3) rfl _k
 refine gs ?_ fun _ _k => XT.iconstV X0.here hx rfl (3 : Int32) (hb hby d46_4) (by decide) _k
 refine gs ?_ fun _ _k => XS.iand X0.here hx rfl (hb hby d46_5) rfl _k
 refine gs ?_ fun _ _k => XS.istoreN X0.here hx rfl (hb hby d46_6) rfl (l' := #[vI tt, vI (((tt.toUInt32 >>> ((8 : Int32) &&& 31).toUInt32).toInt32) &&& (3 : Int32))]) rfl _k
 show Go p e s _a _ _ _ s₁ (mkF m 7 #[vI tt, vI (((tt.toUInt32 >>> ((8 : Int32) &&& 31).toUInt32).toInt32) &&& (3 : Int32))] [])
 rw [hq]
 show Go p e s _a _ _ _ s₁ (mkF m 7 #[vI tt, vI (0 : Int32)] [])
 refine gs ?_ fun _ _k => XS.iloadN X0.here hx rfl (hb hby d46_7) rfl _k
 refine gs ?_ fun _ _k => XT.iconstV X0.here hx rfl (3 : Int32) (hb hby d46_8) (by decide) _k
 refine gs ?_ fun _ _k => XS.icmpYes X0.here hx rfl (pc0 := 9) (pc' := 14) rfl (hb hby d46_9) rfl (feq (by decide)).2 (by decide) (by decide) _k
 refine gs ?_ fun _ _k => XS.iloadN X0.here hx rfl (hb hby d46_14) rfl _k
 show Go p e s _a _ _ _ s₁ (mkF m 15 #[vI tt, vI (0 : Int32)] [(.int 0)])
 refine Go.callS (W := 0) (argsL := [(.int 0)]) (rest := []) X0 hx hZ _b (y := mn_27) (qw hw 39 rfl) (qw hw 40 rfl) (qw hw 41 rfl) (qw hw 42 rfl) (rmVO0 l Z a0 hw [] ca cl ka h0 n0 (Nat.le_trans Z0 Q0.1) ZN EZ SH SC BX hia) e0 (by decide) (by rw [hml]; rfl) (lenOf pd26 rfl) (Nat.le_of_eq rfl) (hb hby d46_15) ?_
 intro T1 v1 L1 h1 e1 X1 hQ1
 obtain ⟨rfl, N1, K1⟩ := hQ1
 have M1 := Fr.app N0 N1
 show Go p e s _a _ _ _ T1 (mkF m 18 #[vI tt, vI (0 : Int32)] [(.ref ka)])
 have Q_1 := own_extE Q0 K1
 exact Go.retA X1 hx hlk _c rfl rfl (hb hby d46_18) (by decide) (by decide) ⟨rfl, M1, (by rw [e1]; exact Q_1)⟩
theorem ef_TG1 (m : MethodId) (x0 : Int32) : entryFrame m #[(.int x0)] 2 = mkF m 0 #[.val (.int x0), .unset] [] := by first | (simp [entryFrame, mkF, argsToLocals, Value.category]; done) | rfl
theorem rmTG1 (l : Launch) (Z : State) (a0 : Array Value) (hw : HW a0 Z) (ws : List Jvm.Cond) (ca : Addr) (cl : Cell) (tt : Int32) (ka : Addr) (kb : Addr) (kc : Addr) (h0 : Heap) (n0 : Nat) (Z0 : n0 ≤ h0.size) (ZN : Z.heap.size ≤ n0) (EZ : Ext Z.heap h0) (SH : Sta Z Z.heap s_n "high" "I" (.int 127)) (SC : Sta Z Z.heap s_n "cache" "[Ljava/lang/Integer;" (.ref ca)) (BX : Bxs Z ca cl s_i "I" 256 (fun j => .int (j - 128))) (hia : cl.slots[128]? = some (.ref ka)) (hib : cl.slots[129]? = some (.ref kb)) (hic : cl.slots[130]? = some (.ref kc)) (hq : (((tt.toUInt32 >>> ((8 : Int32) &&& 31).toUInt32).toInt32) &&& (3 : Int32)) = (1 : Int32)) :
  Meets l Z mn_58 method_3_code 2 (some (.object s_i)) ({ frames := 1, cells := 0, slots := 0, locals := 12 } : Room) ws #[(.int tt)] h0 (fun v h L => v = some (.ref kb) ∧ Fr n0 L ∧ Ext h0 h) := by
 refine Meets.of (plainFor_of_name pn_18) ?_
 intro p e s m _a _d c s₁ X0 hx hby hml _c hlk hnm hZ _b e0
 replace _b : s.vm.findClass s_t = some m.cls := _b
 have N0 := Fr.nil n0
 have Q0 := own_extR h0
 refine Go.cast (ef_TG1 m tt) ?_
 show Go p e s _a _ _ _ s₁ (mkF m 0 #[vI tt, vU] [])
 refine gs ?_ fun _ _k => XS.iloadN X0.here hx rfl (hb hby d46_0) rfl _k
 refine gs ?_ fun _ _k => XT.bipushV X0.here hx rfl (8 : Int32) (hb hby d46_1) (by decide) _k
 refine gs ?_ fun _ _k => XS.iushr X0.here hx rfl (hb hby d46_3) rfl _k
 refine gs ?_ fun _ _k => XT.iconstV X0.here hx rfl (3 : Int32) (hb hby d46_4) (by decide) _k
 refine gs ?_ fun _ _k => XS.iand X0.here hx rfl (hb hby d46_5) rfl _k
 refine gs ?_ fun _ _k => XS.istoreN X0.here hx rfl (hb hby d46_6) rfl (l' := #[vI tt, vI (((tt.toUInt32 >>> ((8 : Int32) &&& 31).toUInt32).toInt32) &&& (3 : Int32))]) rfl _k
 show Go p e s _a _ _ _ s₁ (mkF m 7 #[vI tt, vI (((tt.toUInt32 >>> ((8 : Int32) &&& 31).toUInt32).toInt32) &&& (3 : Int32))] [])
 rw [hq]
 show Go p e s _a _ _ _ s₁ (mkF m 7 #[vI tt, vI (1 : Int32)] [])
 refine gs ?_ fun _ _k => XS.iloadN X0.here hx rfl (hb hby d46_7) rfl _k
 refine gs ?_ fun _ _k => XT.iconstV X0.here hx rfl (3 : Int32) (hb hby d46_8) (by decide) _k
 refine gs ?_ fun _ _k => XS.icmpYes X0.here hx rfl (pc0 := 9) (pc' := 14) rfl (hb hby d46_9) rfl (feq (by decide)).2 (by decide) (by decide) _k
 refine gs ?_ fun _ _k => XS.iloadN X0.here hx rfl (hb hby d46_14) rfl _k
 show Go p e s _a _ _ _ s₁ (mkF m 15 #[vI tt, vI (1 : Int32)] [(.int 1)])
 refine Go.callS (W := 0) (argsL := [(.int 1)]) (rest := []) X0 hx hZ _b (y := mn_27) (qw hw 39 rfl) (qw hw 40 rfl) (qw hw 41 rfl) (qw hw 42 rfl) (rmVO1 l Z a0 hw [] ca cl kb h0 n0 (Nat.le_trans Z0 Q0.1) ZN EZ SH SC BX hib) e0 (by decide) (by rw [hml]; rfl) (lenOf pd26 rfl) (Nat.le_of_eq rfl) (hb hby d46_15) ?_
 intro T1 v1 L1 h1 e1 X1 hQ1
 obtain ⟨rfl, N1, K1⟩ := hQ1
 have M1 := Fr.app N0 N1
 show Go p e s _a _ _ _ T1 (mkF m 18 #[vI tt, vI (1 : Int32)] [(.ref kb)])
 have Q_1 := own_extE Q0 K1
 exact Go.retA X1 hx hlk _c rfl rfl (hb hby d46_18) (by decide) (by decide) ⟨rfl, M1, (by rw [e1]; exact Q_1)⟩
theorem ef_TG2 (m : MethodId) (x0 : Int32) : entryFrame m #[(.int x0)] 2 = mkF m 0 #[.val (.int x0), .unset] [] := by first | (simp [entryFrame, mkF, argsToLocals, Value.category]; done) | rfl
theorem rmTG2 (l : Launch) (Z : State) (a0 : Array Value) (hw : HW a0 Z) (ws : List Jvm.Cond) (ca : Addr) (cl : Cell) (tt : Int32) (ka : Addr) (kb : Addr) (kc : Addr) (h0 : Heap) (n0 : Nat) (Z0 : n0 ≤ h0.size) (ZN : Z.heap.size ≤ n0) (EZ : Ext Z.heap h0) (SH : Sta Z Z.heap s_n "high" "I" (.int 127)) (SC : Sta Z Z.heap s_n "cache" "[Ljava/lang/Integer;" (.ref ca)) (BX : Bxs Z ca cl s_i "I" 256 (fun j => .int (j - 128))) (hia : cl.slots[128]? = some (.ref ka)) (hib : cl.slots[129]? = some (.ref kb)) (hic : cl.slots[130]? = some (.ref kc)) (hq : (((tt.toUInt32 >>> ((8 : Int32) &&& 31).toUInt32).toInt32) &&& (3 : Int32)) = (2 : Int32)) :
  Meets l Z mn_58 method_3_code 2 (some (.object s_i)) ({ frames := 1, cells := 0, slots := 0, locals := 12 } : Room) ws #[(.int tt)] h0 (fun v h L => v = some (.ref kc) ∧ Fr n0 L ∧ Ext h0 h) := by
 refine Meets.of (plainFor_of_name pn_18) ?_
 intro p e s m _a _d c s₁ X0 hx hby hml _c hlk hnm hZ _b e0
 replace _b : s.vm.findClass s_t = some m.cls := _b
 have N0 := Fr.nil n0
 have Q0 := own_extR h0
 refine Go.cast (ef_TG2 m tt) ?_
 show Go p e s _a _ _ _ s₁ (mkF m 0 #[vI tt, vU] [])
 refine gs ?_ fun _ _k => XS.iloadN X0.here hx rfl (hb hby d46_0) rfl _k
 refine gs ?_ fun _ _k => XT.bipushV X0.here hx rfl (8 : Int32) (hb hby d46_1) (by decide) _k
 refine gs ?_ fun _ _k => XS.iushr X0.here hx rfl (hb hby d46_3) rfl _k
 refine gs ?_ fun _ _k => XT.iconstV X0.here hx rfl (3 : Int32) (hb hby d46_4) (by decide) _k
 refine gs ?_ fun _ _k => XS.iand X0.here hx rfl (hb hby d46_5) rfl _k
 refine gs ?_ fun _ _k => XS.istoreN X0.here hx rfl (hb hby d46_6) rfl (l' := #[vI tt, vI (((tt.toUInt32 >>> ((8 : Int32) &&& 31).toUInt32).toInt32) &&& (3 : Int32))]) rfl _k
 show Go p e s _a _ _ _ s₁ (mkF m 7 #[vI tt, vI (((tt.toUInt32 >>> ((8 : Int32) &&& 31).toUInt32).toInt32) &&& (3 : Int32))] [])
 rw [hq]
 show Go p e s _a _ _ _ s₁ (mkF m 7 #[vI tt, vI (2 : Int32)] [])
 refine gs ?_ fun _ _k => XS.iloadN X0.here hx rfl (hb hby d46_7) rfl _k
 refine gs ?_ fun _ _k => XT.iconstV X0.here hx rfl (3 : Int32) (hb hby d46_8) (by decide) _k
 refine gs ?_ fun _ _k => XS.icmpYes X0.here hx rfl (pc0 := 9) (pc' := 14) rfl (hb hby d46_9) rfl (feq (by decide)).2 (by decide) (by decide) _k
 refine gs ?_ fun _ _k => XS.iloadN X0.here hx rfl (hb hby d46_14) rfl _k
 show Go p e s _a _ _ _ s₁ (mkF m 15 #[vI tt, vI (2 : Int32)] [(.int 2)])
 refine Go.callS (W := 0) (argsL := [(.int 2)]) (rest := []) X0 hx hZ _b (y := mn_27) (qw hw 39 rfl) (qw hw 40 rfl) (qw hw 41 rfl) (qw hw 42 rfl) (rmVO2 l Z a0 hw [] ca cl kc h0 n0 (Nat.le_trans Z0 Q0.1) ZN EZ SH SC BX hic) e0 (by decide) (by rw [hml]; rfl) (lenOf pd26 rfl) (Nat.le_of_eq rfl) (hb hby d46_15) ?_
 intro T1 v1 L1 h1 e1 X1 hQ1
 obtain ⟨rfl, N1, K1⟩ := hQ1
 have M1 := Fr.app N0 N1
 show Go p e s _a _ _ _ T1 (mkF m 18 #[vI tt, vI (2 : Int32)] [(.ref kc)])
 have Q_1 := own_extE Q0 K1
 exact Go.retA X1 hx hlk _c rfl rfl (hb hby d46_18) (by decide) (by decide) ⟨rfl, M1, (by rw [e1]; exact Q_1)⟩
theorem d46_12 : decode bc46 12 = .ok (.aconst_null, 1) := by decide +kernel
theorem d46_13 : decode bc46 13 = .ok (.areturn, 1) := by decide +kernel
theorem ef_TG3 (m : MethodId) (x0 : Int32) : entryFrame m #[(.int x0)] 2 = mkF m 0 #[.val (.int x0), .unset] [] := by first | (simp [entryFrame, mkF, argsToLocals, Value.category]; done) | rfl
theorem rmTG3 (l : Launch) (Z : State) (a0 : Array Value) (hw : HW a0 Z) (ws : List Jvm.Cond) (ca : Addr) (cl : Cell) (tt : Int32) (ka : Addr) (kb : Addr) (kc : Addr) (h0 : Heap) (n0 : Nat) (Z0 : n0 ≤ h0.size) (ZN : Z.heap.size ≤ n0) (EZ : Ext Z.heap h0) (SH : Sta Z Z.heap s_n "high" "I" (.int 127)) (SC : Sta Z Z.heap s_n "cache" "[Ljava/lang/Integer;" (.ref ca)) (BX : Bxs Z ca cl s_i "I" 256 (fun j => .int (j - 128))) (hia : cl.slots[128]? = some (.ref ka)) (hib : cl.slots[129]? = some (.ref kb)) (hic : cl.slots[130]? = some (.ref kc)) (hq : (((tt.toUInt32 >>> ((8 : Int32) &&& 31).toUInt32).toInt32) &&& (3 : Int32)) = (3 : Int32)) :
  Meets l Z mn_58 method_3_code 2 (some (.object s_i)) ({ frames := 1, cells := 0, slots := 0, locals := 12 } : Room) ws #[(.int tt)] h0 (fun v h L => v = some .null ∧ Fr n0 L ∧ Ext h0 h) := by
 refine Meets.of (plainFor_of_name pn_18) ?_
 intro p e s m _a _d c s₁ X0 hx hby hml _c hlk hnm hZ _b e0
 replace _b : s.vm.findClass s_t = some m.cls := _b
 have N0 := Fr.nil n0
 have Q0 := own_extR h0
 refine Go.cast (ef_TG3 m tt) ?_
 show Go p e s _a _ _ _ s₁ (mkF m 0 #[vI tt, vU] [])
 refine gs ?_ fun _ _k => XS.iloadN X0.here hx rfl (hb hby d46_0) rfl _k
 refine gs ?_ fun _ _k => XT.bipushV X0.here hx rfl (8 : Int32) (hb hby d46_1) (by decide) _k
 refine gs ?_ fun _ _k => XS.iushr X0.here hx rfl (hb hby d46_3) rfl _k
 refine gs ?_ fun _ _k => XT.iconstV X0.here hx rfl (3 : Int32) (hb hby d46_4) (by decide) _k
 refine gs ?_ fun _ _k => XS.iand X0.here hx rfl (hb hby d46_5) rfl _k
 refine gs ?_ fun _ _k => XS.istoreN X0.here hx rfl (hb hby d46_6) rfl (l' := #[vI tt, vI (((tt.toUInt32 >>> ((8 : Int32) &&& 31).toUInt32).toInt32) &&& (3 : Int32))]) rfl _k
 show Go p e s _a _ _ _ s₁ (mkF m 7 #[vI tt, vI (((tt.toUInt32 >>> ((8 : Int32) &&& 31).toUInt32).toInt32) &&& (3 : Int32))] [])
 rw [hq]
 show Go p e s _a _ _ _ s₁ (mkF m 7 #[vI tt, vI (3 : Int32)] [])
 refine gs ?_ fun _ _k => XS.iloadN X0.here hx rfl (hb hby d46_7) rfl _k
 refine gs ?_ fun _ _k => XT.iconstV X0.here hx rfl (3 : Int32) (hb hby d46_8) (by decide) _k
 refine gs ?_ fun _ _k => XS.icmpNo X0.here hx rfl (hb hby d46_9) rfl (teq (by decide)).2 _k
 refine gs ?_ fun _ _k => XS.aconstNull X0.here hx rfl (hb hby d46_12) _k
 show Go p e s _a _ _ _ s₁ (mkF m 13 #[vI tt, vI (3 : Int32)] [.null])
 exact Go.retA X0 hx hlk _c rfl rfl (hb hby d46_13) (by decide) (by decide) ⟨rfl, N0, (by rw [e0]; exact Q0)⟩
theorem d51_0 : decode bc51 0 = .ok (.aload_n 0, 1) := by decide +kernel
theorem d51_1 : decode bc51 1 = .ok (.getfield 17, 3) := by decide +kernel
theorem d51_4 : decode bc51 4 = .ok (.iload_n 1, 1) := by decide +kernel
theorem d51_5 : decode bc51 5 = .ok (.laload, 1) := by decide +kernel
theorem d51_6 : decode bc51 6 = .ok (.lconst 0, 1) := by decide +kernel
theorem d51_7 : decode bc51 7 = .ok (.lcmp, 1) := by decide +kernel
theorem d51_8 : decode bc51 8 = .ok (.ifCond .le 7, 3) := by decide +kernel
theorem d51_15 : decode bc51 15 = .ok (.iconst 0, 1) := by decide +kernel
theorem d51_16 : decode bc51 16 = .ok (.ireturn, 1) := by decide +kernel
theorem ef_IT0 (m : MethodId) (x0 : Addr) (x1 : Int32) : entryFrame m #[(.ref x0), (.int x1)] 2 = mkF m 0 #[.val (.ref x0), .val (.int x1)] [] := by first | (simp [entryFrame, mkF, argsToLocals, Value.category]; done) | rfl
theorem rmIT0 (l : Launch) (Z : State) (a0 : Array Value) (hw : HW a0 Z) (ws : List Jvm.Cond) (kk : Int32) (ts : List Value) (t : Int64) (no : Addr) (tm : Addr) (_d : ClassId) (h0 : Heap) (n0 : Nat) (Z0 : n0 ≤ h0.size) (_h : Exa Z h0 no s_b) (_a : Fld Z h0 no s_b "times" "[J" (.ref tm)) (_f : Arv Z h0 tm _d .long (3 : Int32) ts (.long 0)) (hk : ¬ kk < 0 ∧ kk < (3 : Int32)) (ht : ts.getD kk.toNatClampNeg (.long 0) = .long t) (hq : ¬ (0 : Int64) < t) :
  Meets l Z mn_59 prog_34_method_2_code 2 (some .boolean) ({ frames := 0, cells := 0, slots := 0, locals := 0 } : Room) ws #[(.ref no), (.int kk)] h0 (fun v h L => v = some (.int (nar .boolean (0 : Int32))) ∧ Fr n0 L ∧ Ext h0 h) := by
 refine Meets.of (plainFor_of_name pn_7) ?_
 intro p e s m _c _i c s₁ X0 hx hby hml _g hlk hnm hZ _b e0
 replace _b : s.vm.findClass s_b = some m.cls := _b
 have N0 := Fr.nil n0
 have Q0 := own_extR h0
 refine Go.cast (ef_IT0 m no kk) ?_
 show Go p e s _c _ _ _ s₁ (mkF m 0 #[vR no, vI kk] [])
 refine gs ?_ fun _ _k => XS.aloadN X0.here hx rfl (hb hby d51_0) rfl rfl _k
 obtain ⟨T1, X1, e1, st1⟩ := getF X0 hx hZ _b (host := "") (Or.inl (qw hw 122 rfl)) Via.refl e0 _a (g := (mkF m 1 #[vR no, vI kk] [(.ref no)])) rfl rfl (hb hby d51_1)
 refine Go.st st1 ?_
 refine gs ?_ fun _ _k => XS.iloadN X1.here hx rfl (hb hby d51_4) rfl _k
 obtain ⟨cl2, Ar2, q2, S2, M2, H2, G2⟩ := (id _f)
 have in2 : ¬ (kk < 0 ∨ cl2.slots.size ≤ (kk).toNatClampNeg) := inb_of S2 hk
 refine Go.st (X1.laload hx (j := kk) (v := (.long t)) (by rw [e1]; exact Ar2.1) (State.isArrayOf_alike hZ.alike Ar2.2.1) Ar2.2.2 in2 (Has.at H2 in2 ht) (g := (mkF m 5 #[vR no, vI kk] [(.int kk), (.ref tm)])) rfl rfl (hb hby d51_5)) ?_
 refine gs ?_ fun _ _k => XT.lconstV X1.here hx rfl (0 : Int64) (hb hby d51_6) (by decide) _k
 refine gs ?_ fun _ _k => XS.lcmp X1.here hx rfl (hb hby d51_7) rfl _k
 refine gs ?_ fun _ _k => XS.ifYes X1.here hx rfl (pc0 := 8) (pc' := 15) rfl (hb hby d51_8) rfl ((if0 _ _).trans (flt (mt (lw_gt _ _).mp hq)).2.2.2) (by decide) (by decide) _k
 refine gs ?_ fun _ _k => XT.iconstV X1.here hx rfl (0 : Int32) (hb hby d51_15) (by decide) _k
 show Go p e s _c _ _ _ T1 (mkF m 16 #[vR no, vI kk] [(.int 0)])
 exact Go.retN X1 hx hlk _g (by simp) (hb hby d51_16) (by decide) (by decide) ⟨rfl, N0, (by rw [e1]; exact Q0)⟩
theorem d51_11 : decode bc51 11 = .ok (.iconst 1, 1) := by decide +kernel
theorem d51_12 : decode bc51 12 = .ok (.goto 4, 3) := by decide +kernel
theorem ef_IT1 (m : MethodId) (x0 : Addr) (x1 : Int32) : entryFrame m #[(.ref x0), (.int x1)] 2 = mkF m 0 #[.val (.ref x0), .val (.int x1)] [] := by first | (simp [entryFrame, mkF, argsToLocals, Value.category]; done) | rfl
theorem rmIT1 (l : Launch) (Z : State) (a0 : Array Value) (hw : HW a0 Z) (ws : List Jvm.Cond) (kk : Int32) (ts : List Value) (t : Int64) (no : Addr) (tm : Addr) (_d : ClassId) (h0 : Heap) (n0 : Nat) (Z0 : n0 ≤ h0.size) (_h : Exa Z h0 no s_b) (_a : Fld Z h0 no s_b "times" "[J" (.ref tm)) (_f : Arv Z h0 tm _d .long (3 : Int32) ts (.long 0)) (hk : ¬ kk < 0 ∧ kk < (3 : Int32)) (ht : ts.getD kk.toNatClampNeg (.long 0) = .long t) (hq : (0 : Int64) < t) :
  Meets l Z mn_59 prog_34_method_2_code 2 (some .boolean) ({ frames := 0, cells := 0, slots := 0, locals := 0 } : Room) ws #[(.ref no), (.int kk)] h0 (fun v h L => v = some (.int (nar .boolean (1 : Int32))) ∧ Fr n0 L ∧ Ext h0 h) := by
 refine Meets.of (plainFor_of_name pn_7) ?_
 intro p e s m _c _i c s₁ X0 hx hby hml _g hlk hnm hZ _b e0
 replace _b : s.vm.findClass s_b = some m.cls := _b
 have N0 := Fr.nil n0
 have Q0 := own_extR h0
 refine Go.cast (ef_IT1 m no kk) ?_
 show Go p e s _c _ _ _ s₁ (mkF m 0 #[vR no, vI kk] [])
 refine gs ?_ fun _ _k => XS.aloadN X0.here hx rfl (hb hby d51_0) rfl rfl _k
 obtain ⟨T1, X1, e1, st1⟩ := getF X0 hx hZ _b (host := "") (Or.inl (qw hw 122 rfl)) Via.refl e0 _a (g := (mkF m 1 #[vR no, vI kk] [(.ref no)])) rfl rfl (hb hby d51_1)
 refine Go.st st1 ?_
 refine gs ?_ fun _ _k => XS.iloadN X1.here hx rfl (hb hby d51_4) rfl _k
 obtain ⟨cl2, Ar2, q2, S2, M2, H2, G2⟩ := (id _f)
 have in2 : ¬ (kk < 0 ∨ cl2.slots.size ≤ (kk).toNatClampNeg) := inb_of S2 hk
 refine Go.st (X1.laload hx (j := kk) (v := (.long t)) (by rw [e1]; exact Ar2.1) (State.isArrayOf_alike hZ.alike Ar2.2.1) Ar2.2.2 in2 (Has.at H2 in2 ht) (g := (mkF m 5 #[vR no, vI kk] [(.int kk), (.ref tm)])) rfl rfl (hb hby d51_5)) ?_
 refine gs ?_ fun _ _k => XT.lconstV X1.here hx rfl (0 : Int64) (hb hby d51_6) (by decide) _k
 refine gs ?_ fun _ _k => XS.lcmp X1.here hx rfl (hb hby d51_7) rfl _k
 refine gs ?_ fun _ _k => XS.ifNo X1.here hx rfl (hb hby d51_8) rfl ((if0 _ _).trans (tlt ((lw_gt _ _).mpr hq)).2.2.2) _k
 refine gs ?_ fun _ _k => XT.iconstV X1.here hx rfl (1 : Int32) (hb hby d51_11) (by decide) _k
 refine gs ?_ fun _ _k => XS.goto X1.here hx rfl (pc0 := 12) (pc' := 16) rfl (hb hby d51_12) (by decide) (by decide) _k
 show Go p e s _c _ _ _ T1 (mkF m 16 #[vR no, vI kk] [(.int 1)])
 exact Go.retN X1 hx hlk _g (by simp) (hb hby d51_16) (by decide) (by decide) ⟨rfl, N0, (by rw [e1]; exact Q0)⟩
theorem d53_0 : decode bc53 0 = .ok (.aload_n 0, 1) := by decide +kernel
theorem d53_1 : decode bc53 1 = .ok (.getfield 13, 3) := by decide +kernel
theorem d53_4 : decode bc53 4 = .ok (.iload_n 1, 1) := by decide +kernel
theorem d53_5 : decode bc53 5 = .ok (.aaload, 1) := by decide +kernel
theorem d53_6 : decode bc53 6 = .ok (.areturn, 1) := by decide +kernel
theorem ef_NX (m : MethodId) (x0 : Addr) (x1 : Int32) : entryFrame m #[(.ref x0), (.int x1)] 2 = mkF m 0 #[.val (.ref x0), .val (.int x1)] [] := by first | (simp [entryFrame, mkF, argsToLocals, Value.category]; done) | rfl
theorem rmNX (l : Launch) (Z : State) (a0 : Array Value) (hw : HW a0 Z) (ws : List Jvm.Cond) (kk : Int32) (us : List Value) (u : Value) (no : Addr) (nx : Addr) (_d : ClassId) (h0 : Heap) (n0 : Nat) (Z0 : n0 ≤ h0.size) (_h : Exa Z h0 no s_b) (_a : Fld Z h0 no s_b "next" s_k (.ref nx)) (_f : Arv Z h0 nx _d (.object s_e) (3 : Int32) us .null) (_i : Ovr Z _d s_e) (hk : ¬ kk < 0 ∧ kk < (3 : Int32)) (hu : us.getD kk.toNatClampNeg .null = u) (hr : u.isRef = true) :
  Meets l Z mn_60 prog_34_method_3_code 2 (some (.object s_e)) ({ frames := 0, cells := 0, slots := 0, locals := 0 } : Room) ws #[(.ref no), (.int kk)] h0 (fun v h L => v = some u ∧ Fr n0 L ∧ Ext h0 h) := by
 refine Meets.of (plainFor_of_name pn_7) ?_
 intro p e s m _c _j c s₁ X0 hx hby hml _g hlk hnm hZ _b e0
 replace _b : s.vm.findClass s_b = some m.cls := _b
 have N0 := Fr.nil n0
 have Q0 := own_extR h0
 refine Go.cast (ef_NX m no kk) ?_
 show Go p e s _c _ _ _ s₁ (mkF m 0 #[vR no, vI kk] [])
 refine gs ?_ fun _ _k => XS.aloadN X0.here hx rfl (hb hby d53_0) rfl rfl _k
 obtain ⟨T1, X1, e1, st1⟩ := getF X0 hx hZ _b (host := "") (Or.inl (qw hw 119 rfl)) Via.refl e0 _a (g := (mkF m 1 #[vR no, vI kk] [(.ref no)])) rfl rfl (hb hby d53_1)
 refine Go.st st1 ?_
 refine gs ?_ fun _ _k => XS.iloadN X1.here hx rfl (hb hby d53_4) rfl _k
 obtain ⟨cl2, Ar2, q2, S2, M2, H2, G2⟩ := (id _f)
 have in2 : ¬ (kk < 0 ∨ cl2.slots.size ≤ (kk).toNatClampNeg) := inb_of S2 hk
 refine Go.st (X1.aaload hx (j := kk) (v := u) (by rw [e1]; exact Ar2.1) (State.isArrayOf_alike hZ.alike Ar2.2.1) rfl Ar2.2.2 in2 (Has.at H2 in2 hu) (g := (mkF m 5 #[vR no, vI kk] [(.int kk), (.ref nx)])) rfl rfl (hb hby d53_5)) ?_
 show Go p e s _c _ _ _ T1 (mkF m 6 #[vR no, vI kk] [u])
 exact Go.retA X1 hx hlk _g rfl hr (hb hby d53_6) (by decide) (by decide) ⟨rfl, N0, (by rw [e1]; exact Q0)⟩
def IsK (ka kb kc : Addr) (v : Value) : Prop := v = .ref ka ∨ v = .ref kb ∨ v = .ref kc ∨ v = .null
def LKb (two : Bool) (ka kb kc va vb : Addr) (to r : Value) : Prop := (to = .ref ka ∧ r = .ref va) ∨ (to = .ref kb ∧ r = cond two (.ref vb) .null) ∨ (to = .ref kc ∧ r = .null) ∨ (to = .null ∧ r = .null)
def NodeOf (two : Bool) (ka kb va vb : Addr) (u r : Value) : Prop := (u = .ref ka ∧ r = .ref va) ∨ (two = true ∧ u = .ref kb ∧ r = .ref vb)
def LSok (two : Bool) (ka kb va vb : Addr) (ls ln : Value) : Prop := ln = .null ∨ NodeOf two ka kb va vb ls ln
def ArcOK (two : Bool) (ka kb kc va vb : Addr) (b : Nat) (t : Int64) (u r : Value) : Prop := t.toInt ≤ b ∧ ((t = 0 ∧ r = .null) ∨ (0 < t ∧ IsK ka kb kc u ∧ (r = .null ∨ NodeOf two ka kb va vb u r)))
section OwnArc
variable {two : Bool} {ka kb kc va vb : Addr} {u to r r' v : Value} {t : Int64} {b : Nat}
theorem own_isRefK (h : IsK ka kb kc v) : v.isRef = true := by rcases h with rfl | rfl | rfl | rfl <;> rfl
theorem own_fitsK (h : IsK ka kb kc v) : fits (.object s_e) v = true := by rcases h with rfl | rfl | rfl | rfl <;> rfl
theorem own_lkEx (h : IsK ka kb kc to) : ∃ r, LKb two ka kb kc va vb to r := by
  rcases h with rfl | rfl | rfl | rfl
  · exact ⟨_, Or.inl ⟨rfl, rfl⟩⟩
  · exact ⟨_, Or.inr (Or.inl ⟨rfl, rfl⟩)⟩
  · exact ⟨_, Or.inr (Or.inr (Or.inl ⟨rfl, rfl⟩))⟩
  · exact ⟨_, Or.inr (Or.inr (Or.inr ⟨rfl, rfl⟩))⟩
theorem own_lkN (h : LKb two ka kb kc va vb to r) : r = .null ∨ ∃ x, r = .ref x ∧ NodeOf two ka kb va vb to (.ref x) := by
  rcases h with ⟨rfl, rfl⟩ | ⟨rfl, rfl⟩ | ⟨rfl, rfl⟩ | ⟨rfl, rfl⟩
  · exact Or.inr ⟨va, rfl, Or.inl ⟨rfl, rfl⟩⟩
  · cases two
    · exact Or.inl rfl
    · exact Or.inr ⟨vb, rfl, Or.inr ⟨rfl, rfl, rfl⟩⟩
  · exact Or.inl rfl
  · exact Or.inl rfl
theorem own_nlk (h : NodeOf two ka kb va vb u r) : LKb two ka kb kc va vb u r := by
  rcases h with ⟨rfl, rfl⟩ | ⟨rfl, rfl, rfl⟩
  · exact Or.inl ⟨rfl, rfl⟩
  · exact Or.inr (Or.inl ⟨rfl, rfl⟩)
theorem own_nref (h : NodeOf two ka kb va vb u r) : ∃ y x, u = .ref y ∧ r = .ref x := by
  rcases h with ⟨rfl, rfl⟩ | ⟨-, rfl, rfl⟩ <;> exact ⟨_, _, rfl, rfl⟩
theorem own_nIsK (h : NodeOf two ka kb va vb u r) : IsK ka kb kc u := by
  rcases h with ⟨rfl, rfl⟩ | ⟨-, rfl, rfl⟩
  · exact Or.inl rfl
  · exact Or.inr (Or.inl rfl)
theorem own_nfun (nab : ¬ ka = kb) (h : NodeOf two ka kb va vb u r) (h' : NodeOf two ka kb va vb u r') : r = r' := by
  rcases h with ⟨rfl, rfl⟩ | ⟨-, rfl, rfl⟩ <;> rcases h' with ⟨q, rfl⟩ | ⟨-, q, rfl⟩
  · rfl
  · exact absurd (Value.ref.inj q) nab
  · exact absurd (Value.ref.inj q).symm nab
  · rfl
theorem NodeOf.to2 (h : NodeOf false ka kb va va u r) : NodeOf true ka kb va vb u r := by
  rcases h with h | ⟨q, -⟩
  · exact Or.inl h
  · cases q
theorem LSok.to2 (h : LSok false ka kb va va u r) : LSok true ka kb va vb u r := h.imp id NodeOf.to2
theorem ArcOK.to2 (h : ArcOK false ka kb kc va va b t u r) : ArcOK true ka kb kc va vb b t u r := ⟨h.1, h.2.imp id fun q => ⟨q.1, q.2.1, q.2.2.imp id NodeOf.to2⟩⟩
theorem ArcOK.up (h : ArcOK two ka kb kc va vb b t u r) : ArcOK two ka kb kc va vb (b + 1) t u r := ⟨Int.le_trans h.1 (by omega), h.2⟩
theorem own_pos0 (h : t = 0) : ¬ (0 : Int64) < t := by subst h; decide
theorem own_inc (h : t = 0 ∨ (0 : Int64) < t) (q : t.toInt ≤ b) (hb : b < 100) : (0 : Int64) < t + 1 ∧ (t + 1).toInt ≤ (b + 1 : Nat) := by
  have h0 : 0 ≤ t.toInt := by
    rcases h with rfl | h
    · decide
    · have := Int64.lt_iff_toInt_lt.mp h; simp at this; omega
  have e : (t + 1).toInt = t.toInt + 1 := by
    have o : (1 : Int64).toInt = 1 := rfl
    rw [Jvm.Kit.i64_add (by rw [o]; omega) (by rw [o]; omega), o]
  constructor
  · rw [Int64.lt_iff_toInt_lt, e]; simp; omega
  · rw [e]; omega
end OwnArc
def MapOK (Z : State) (h : Heap) (two : Bool) (mp : Addr) (tb : Addr) (ea : Addr) (eb : Addr) (k_tb : ClassId) (ka : Addr) (kb : Addr) (va : Addr) (vb : Addr) : Prop := Exa Z h mp s_f ∧ Fld Z h mp s_j "table" s_p (.ref tb) ∧ Fld Z h mp s_f "accessOrder" "Z" (.int (nar .boolean (0 : Int32))) ∧ Arv Z h tb k_tb (.object s_c) (16 : Int32) [(.ref ea), (cond two (.ref eb) .null), .null, .null, .null, .null, .null, .null, .null, .null, .null, .null, .null, .null, .null, .null] .null ∧ Ovr Z k_tb s_c ∧ Exa Z h ea s_d ∧ Fld Z h ea s_c "hash" "I" (.int 0) ∧ Fld Z h ea s_c "key" s_l (.ref ka) ∧ Fld Z h ea s_c "value" s_l (.ref va) ∧ Fld Z h ea s_c "next" s_q .null ∧ (two = true → Exa Z h eb s_d) ∧ (two = true → Fld Z h eb s_c "hash" "I" (.int 1)) ∧ (two = true → Fld Z h eb s_c "key" s_l (.ref kb)) ∧ (two = true → Fld Z h eb s_c "value" s_l (.ref vb)) ∧ (two = true → Fld Z h eb s_c "next" s_q .null) ∧ Exa Z h va s_b ∧ (two = true → Exa Z h vb s_b)
theorem MapOK.ext {Z : State} {h h' : Heap} {two : Bool} {mp : Addr} {tb : Addr} {ea : Addr} {eb : Addr} {k_tb : ClassId} {ka : Addr} {kb : Addr} {va : Addr} {vb : Addr} (F : MapOK Z h two mp tb ea eb k_tb ka kb va vb) (E : Ext h h') : MapOK Z h' two mp tb ea eb k_tb ka kb va vb := by obtain ⟨q0, q1, q2, q3, q4, q5, q6, q7, q8, q9, q10, q11, q12, q13, q14, q15, q16⟩ := F; exact ⟨q0.ext E, q1.ext E, q2.ext E, q3.ext E, q4, q5.ext E, q6.ext E, q7.ext E, q8.ext E, q9.ext E, fun z => (q10 z).ext E, fun z => (q11 z).ext E, fun z => (q12 z).ext E, fun z => (q13 z).ext E, fun z => (q14 z).ext E, q15.ext E, fun z => (q16 z).ext E⟩
theorem MapOK.keep {Z : State} {h h' : Heap} {ws : List Addr} {two : Bool} {mp : Addr} {tb : Addr} {ea : Addr} {eb : Addr} {k_tb : ClassId} {ka : Addr} {kb : Addr} {va : Addr} {vb : Addr} (F : MapOK Z h two mp tb ea eb k_tb ka kb va vb) (K : Keep h h' ws) (n_mp : mp ∉ ws) (n_tb : tb ∉ ws) (n_ea : ea ∉ ws) (n_eb : eb ∉ ws) : MapOK Z h' two mp tb ea eb k_tb ka kb va vb := by obtain ⟨q0, q1, q2, q3, q4, q5, q6, q7, q8, q9, q10, q11, q12, q13, q14, q15, q16⟩ := F; exact ⟨q0.keep K, q1.keep K n_mp, q2.keep K n_mp, q3.keep K n_tb, q4, q5.keep K, q6.keep K n_ea, q7.keep K n_ea, q8.keep K n_ea, q9.keep K n_ea, fun z => (q10 z).keep K, fun z => (q11 z).keep K n_eb, fun z => (q12 z).keep K n_eb, fun z => (q13 z).keep K n_eb, fun z => (q14 z).keep K n_eb, q15.keep K, fun z => (q16 z).keep K⟩
theorem MapOK.exa {Z : State} {h : Heap} {two : Bool} {mp : Addr} {tb : Addr} {ea : Addr} {eb : Addr} {k_tb : ClassId} {ka : Addr} {kb : Addr} {va : Addr} {vb : Addr} {u : Value} {x : Addr} (F : MapOK Z h two mp tb ea eb k_tb ka kb va vb) (q : NodeOf two ka kb va vb u (.ref x)) : Exa Z h x s_b := by
  obtain ⟨E_mp, F_table_mp, F_accessOrder_mp, V_tb, O_tb, E_ea, F_hash_ea, F_key_ea, F_value_ea, F_next_ea, E_eb, F_hash_eb, F_key_eb, F_value_eb, F_next_eb, E_va, E_vb⟩ := F
  rcases q with ⟨-, q⟩ | ⟨t, -, q⟩
  · cases q; exact E_va
  · cases q; exact E_vb t
theorem rmGB (l : Launch) (Z : State) (a0 : Array Value) (hw : HW a0 Z) (ws : List Jvm.Cond) (two : Bool) (mp : Addr) (tb : Addr) (ea : Addr) (eb : Addr) (_h : ClassId) (ka : Addr) (kb : Addr) (va : Addr) (vb : Addr) (kc : Addr) (h0 : Heap) (n0 : Nat) (Z0 : n0 ≤ h0.size) (MK : MapOK Z h0 two mp tb ea eb _h ka kb va vb) (BK : BXK Z h0 ka kb kc) (to r : Value) (hr : LKb two ka kb kc va vb to r) :
    Meets l Z mn_19 jdk_94_method_20_code 3 (some (.object s_e)) ({ frames := 4, cells := 0, slots := 0, locals := 58 } : Room) ws #[.ref mp, to] h0 (fun v h L => v = some r ∧ Fr n0 L ∧ Ext h0 h) := by
  obtain ⟨_i, _b, _a, _j, _k, _o, _d, _g, _c, _f, _C, _v, _y, _u, _w, _D, _E⟩ := MK
  obtain ⟨_z, _q, _A, _r, _B, _t⟩ := BK
  cases two
  · rcases hr with ⟨rfl, rfl⟩ | ⟨rfl, rfl⟩ | ⟨rfl, rfl⟩ | ⟨rfl, rfl⟩
    · exact rmHa l Z a0 hw ws va .null mp tb ea ka _h h0 n0 Z0 _i _b _a _j _k _o _d _g _c _f _z _q
    · exact rmH0 l Z a0 hw ws va ka mp tb ea kb _h h0 n0 Z0 _i _b _a _j _k _o _d _g _c _f _A _r
    · exact rmHc l Z a0 hw ws va ka .null mp tb ea kc _h h0 n0 Z0 _i _b _a _j _k _o _d _g _c _f _B _t
    · exact rmHn l Z a0 hw ws va ka .null mp tb ea _h h0 n0 Z0 _i _b _a _j _k _o _d _g _c _f
  · rcases hr with ⟨rfl, rfl⟩ | ⟨rfl, rfl⟩ | ⟨rfl, rfl⟩ | ⟨rfl, rfl⟩
    · exact rmHa l Z a0 hw ws va (.ref eb) mp tb ea ka _h h0 n0 Z0 _i _b _a _j _k _o _d _g _c _f _z _q
    · exact rmH1 l Z a0 hw ws va ka vb mp tb ea eb kb _h h0 n0 Z0 _i _b _a _j _k _o _d _g _c _f (_C rfl) (_v rfl) (_y rfl) (_u rfl) (_w rfl) _A _r
    · exact rmHc l Z a0 hw ws va ka (.ref eb) mp tb ea kc _h h0 n0 Z0 _i _b _a _j _k _o _d _g _c _f _B _t
    · exact rmHn l Z a0 hw ws va ka (.ref eb) mp tb ea _h h0 n0 Z0 _i _b _a _j _k _o _d _g _c _f
theorem rmOM (l : Launch) (Z : State) (a0 : Array Value) (hw : HW a0 Z) (ws : List Jvm.Cond) (ka kb kc : Addr) (h0 : Heap) (n0 : Nat) (Z0 : n0 ≤ h0.size) (BK : BXK Z h0 ka kb kc) (nab : ¬ ka = kb) (nac : ¬ ka = kc) (nbc : ¬ kb = kc) (u v0 : Value) (hu : IsK ka kb kc u) (hv : IsK ka kb kc v0) :
    Meets l Z mn_23 jdk_31_method_2_code 2 (some .boolean) ({ frames := 2, cells := 0, slots := 0, locals := 26 } : Room) ws #[u, v0] h0 (fun v h L => ∃ z : Int32, v = some (.int z) ∧ (u = v0 → z = 1) ∧ (¬ u = v0 → z = 0) ∧ Fr n0 L ∧ Ext h0 h) := by
  obtain ⟨_d, _a, _f, _b, _g, _c⟩ := BK
  rcases hu with rfl | rfl | rfl | rfl <;> rcases hv with rfl | rfl | rfl | rfl
  · exact Meets.mono (rmOExx l Z a0 hw ws ka h0 n0 Z0) (fun v h L hq => ⟨_, hq.1, fun _ => by decide, fun z => absurd rfl z, hq.2⟩)
  · exact Meets.mono (rmOExy l Z a0 hw ws (0 : Int32) (1 : Int32) ka kb h0 n0 Z0 _d _a _f _b (by decide) nab) (fun v h L hq => ⟨_, hq.1, fun z => absurd z (fun z => nab (Value.ref.inj z)), fun _ => by decide, hq.2⟩)
  · exact Meets.mono (rmOExy l Z a0 hw ws (0 : Int32) (2 : Int32) ka kc h0 n0 Z0 _d _a _g _c (by decide) nac) (fun v h L hq => ⟨_, hq.1, fun z => absurd z (fun z => nac (Value.ref.inj z)), fun _ => by decide, hq.2⟩)
  · exact Meets.mono (rmOExn l Z a0 hw ws (0 : Int32) ka h0 n0 Z0 _d _a) (fun v h L hq => ⟨_, hq.1, fun z => absurd z nofun, fun _ => by decide, hq.2⟩)
  · exact Meets.mono (rmOExy l Z a0 hw ws (1 : Int32) (0 : Int32) kb ka h0 n0 Z0 _f _b _d _a (by decide) (Ne.symm nab)) (fun v h L hq => ⟨_, hq.1, fun z => absurd z (fun z => (Ne.symm nab) (Value.ref.inj z)), fun _ => by decide, hq.2⟩)
  · exact Meets.mono (rmOExx l Z a0 hw ws kb h0 n0 Z0) (fun v h L hq => ⟨_, hq.1, fun _ => by decide, fun z => absurd rfl z, hq.2⟩)
  · exact Meets.mono (rmOExy l Z a0 hw ws (1 : Int32) (2 : Int32) kb kc h0 n0 Z0 _f _b _g _c (by decide) nbc) (fun v h L hq => ⟨_, hq.1, fun z => absurd z (fun z => nbc (Value.ref.inj z)), fun _ => by decide, hq.2⟩)
  · exact Meets.mono (rmOExn l Z a0 hw ws (1 : Int32) kb h0 n0 Z0 _f _b) (fun v h L hq => ⟨_, hq.1, fun z => absurd z nofun, fun _ => by decide, hq.2⟩)
  · exact Meets.mono (rmOExy l Z a0 hw ws (2 : Int32) (0 : Int32) kc ka h0 n0 Z0 _g _c _d _a (by decide) (Ne.symm nac)) (fun v h L hq => ⟨_, hq.1, fun z => absurd z (fun z => (Ne.symm nac) (Value.ref.inj z)), fun _ => by decide, hq.2⟩)
  · exact Meets.mono (rmOExy l Z a0 hw ws (2 : Int32) (1 : Int32) kc kb h0 n0 Z0 _g _c _f _b (by decide) (Ne.symm nbc)) (fun v h L hq => ⟨_, hq.1, fun z => absurd z (fun z => (Ne.symm nbc) (Value.ref.inj z)), fun _ => by decide, hq.2⟩)
  · exact Meets.mono (rmOExx l Z a0 hw ws kc h0 n0 Z0) (fun v h L hq => ⟨_, hq.1, fun _ => by decide, fun z => absurd rfl z, hq.2⟩)
  · exact Meets.mono (rmOExn l Z a0 hw ws (2 : Int32) kc h0 n0 Z0 _g _c) (fun v h L hq => ⟨_, hq.1, fun z => absurd z nofun, fun _ => by decide, hq.2⟩)
  · exact Meets.mono (rmOEnx l Z a0 hw ws ka h0 n0 Z0) (fun v h L hq => ⟨_, hq.1, fun z => absurd z nofun, fun _ => by decide, hq.2⟩)
  · exact Meets.mono (rmOEnx l Z a0 hw ws kb h0 n0 Z0) (fun v h L hq => ⟨_, hq.1, fun z => absurd z nofun, fun _ => by decide, hq.2⟩)
  · exact Meets.mono (rmOEnx l Z a0 hw ws kc h0 n0 Z0) (fun v h L hq => ⟨_, hq.1, fun z => absurd z nofun, fun _ => by decide, hq.2⟩)
  · exact Meets.mono (rmOEnn l Z a0 hw ws h0 n0 Z0) (fun v h L hq => ⟨_, hq.1, fun _ => by decide, fun z => absurd rfl z, hq.2⟩)
theorem d48_0 : decode bc48 0 = .ok (.aload_n 0, 1) := by decide +kernel
theorem d48_1 : decode bc48 1 = .ok (.getfield 117, 3) := by decide +kernel
theorem d48_4 : decode bc48 4 = .ok (.ifnull 14, 3) := by decide +kernel
theorem d48_18 : decode bc48 18 = .ok (.aload_n 0, 1) := by decide +kernel
theorem d48_19 : decode bc48 19 = .ok (.getfield 10, 3) := by decide +kernel
theorem d48_22 : decode bc48 22 = .ok (.aload_n 1, 1) := by decide +kernel
theorem d48_23 : decode bc48 23 = .ok (.invokeinterface 109 2, 5) := by decide +kernel
theorem d48_28 : decode bc48 28 = .ok (.checkcast 24, 3) := by decide +kernel
theorem d48_31 : decode bc48 31 = .ok (.astore_n 2, 1) := by decide +kernel
theorem d48_32 : decode bc48 32 = .ok (.aload_n 2, 1) := by decide +kernel
theorem d48_33 : decode bc48 33 = .ok (.ifnonnull 5, 3) := by decide +kernel
theorem d48_38 : decode bc48 38 = .ok (.aload_n 0, 1) := by decide +kernel
theorem d48_39 : decode bc48 39 = .ok (.aload_n 1, 1) := by decide +kernel
theorem d48_40 : decode bc48 40 = .ok (.putfield 113, 3) := by decide +kernel
theorem d48_43 : decode bc48 43 = .ok (.aload_n 0, 1) := by decide +kernel
theorem d48_44 : decode bc48 44 = .ok (.aload_n 2, 1) := by decide +kernel
theorem d48_45 : decode bc48 45 = .ok (.putfield 117, 3) := by decide +kernel
theorem d48_48 : decode bc48 48 = .ok (.aload_n 0, 1) := by decide +kernel
theorem d48_49 : decode bc48 49 = .ok (.getfield 117, 3) := by decide +kernel
theorem d48_52 : decode bc48 52 = .ok (.areturn, 1) := by decide +kernel
theorem ef_NOA (m : MethodId) (x0 : Addr) (x1 : Addr) : entryFrame m #[(.ref x0), (.ref x1)] 3 = mkF m 0 #[.val (.ref x0), .val (.ref x1), .unset] [] := by first | (simp [entryFrame, mkF, argsToLocals, Value.category]; done) | rfl
theorem rmNOA (l : Launch) (Z : State) (a0 : Array Value) (hw : HW a0 Z) (ws : List Jvm.Cond) (two : Bool) (mp : Addr) (tb : Addr) (ea : Addr) (eb : Addr) (_A : ClassId) (ka : Addr) (kb : Addr) (va : Addr) (vb : Addr) (kc : Addr) (ac : Int32) (tk : Int32) (fk_ : Addr) (ls : Value) (gr : Addr) (nd : Addr) (h0 : Heap) (n0 : Nat) (Z0 : n0 ≤ h0.size) (ZN : Z.heap.size ≤ n0) (EZ : Ext Z.heap h0) (_B : n0 ≤ gr) (_E : Exa Z h0 gr s_a) (_o : Fld Z h0 gr s_a "stimuli" "I" (.int 3)) (_i : Fld Z h0 gr s_a "nodes" "Ljava/util/Map;" (.ref mp)) (_w : Fld Z h0 gr s_a "arcs" "I" (.int ac)) (_u : Fld Z h0 gr s_a "taken" "I" (.int tk)) (_j : Fld Z h0 gr s_a "lastState" s_l ls) (_f : Fld Z h0 gr s_a "lastNode" s_o .null) (_F : Exa Z h0 nd s_b) (MK : MapOK Z h0 two mp tb ea eb _A ka kb va vb) (_G : nd ≠ gr) (_H : mp ≠ gr) (_I : tb ≠ gr) (_J : ea ≠ gr) (_K : eb ≠ gr) (BK : BXK Z Z.heap ka kb kc) (hLK : LKb two ka kb kc va vb (.ref fk_) (.ref nd)) (nab : ¬ ka = kb) (nac : ¬ ka = kc) (nbc : ¬ kb = kc) :
  Meets l Z mn_61 prog_31_method_15_code 3 (some (.object s_b)) ({ frames := 5, cells := 0, slots := 0, locals := 72 } : Room) ws #[(.ref gr), (.ref fk_)] h0 (fun v h L => v = some (.ref nd) ∧ Fr n0 L ∧ Keep h0 h [gr] ∧ Exa Z h gr s_a ∧ Fld Z h gr s_a "stimuli" "I" (.int 3) ∧ Fld Z h gr s_a "nodes" "Ljava/util/Map;" (.ref mp) ∧ Fld Z h gr s_a "arcs" "I" (.int ac) ∧ Fld Z h gr s_a "taken" "I" (.int tk) ∧ Fld Z h gr s_a "lastState" s_l (.ref fk_) ∧ Fld Z h gr s_a "lastNode" s_o (.ref nd)) := by
 refine Meets.of (plainFor_of_name pn_8) ?_
 intro p e s m _v _M c s₁ X0 hx hby hml _L hlk hnm hZ _d e0
 replace _d : s.vm.findClass s_a = some m.cls := _d
 have N0 := Fr.nil n0
 have K0 := Keep.refl h0 [gr]
 refine Go.cast (ef_NOA m gr fk_) ?_
 show Go p e s _v _ _ _ s₁ (mkF m 0 #[vR gr, vR fk_, vU] [])
 refine gs ?_ fun _ _k => XS.aloadN X0.here hx rfl (hb hby d48_0) rfl rfl _k
 obtain ⟨T1, X1, e1, st1⟩ := getF X0 hx hZ _d (host := "") (Or.inl (qw hw 343 rfl)) Via.refl e0 _f (g := (mkF m 1 #[vR gr, vR fk_, vU] [(.ref gr)])) rfl rfl (hb hby d48_1)
 refine Go.st st1 ?_
 refine gs ?_ fun _ _k => XS.ifnullYes X1.here hx rfl (pc0 := 4) (pc' := 18) rfl (hb hby d48_4) rfl (by decide) (by decide) _k
 refine gs ?_ fun _ _k => XS.aloadN X1.here hx rfl (hb hby d48_18) rfl rfl _k
 obtain ⟨T2, X2, e2, st2⟩ := getF X1 hx hZ _d (host := "") (Or.inl (qw hw 35 rfl)) Via.refl e1 _i (g := (mkF m 19 #[vR gr, vR fk_, vU] [(.ref gr)])) rfl rfl (hb hby d48_19)
 refine Go.st st2 ?_
 refine gs ?_ fun _ _k => XS.aloadN X2.here hx rfl (hb hby d48_22) rfl rfl _k
 show Go p e s _v _ _ _ T2 (mkF m 23 #[vR gr, vR fk_, vU] [(.ref fk_), (.ref mp)])
 refine Go.callF (b := mp) (W := 0) (argsL := [(.ref fk_)]) (rest := []) X2 hx hZ _d (y := mn_62) (z := mn_19) (qw hw 345 rfl) (qw hw 346 rfl) (qw hw 347 rfl) rfl (qw hw 348 rfl) (qw hw 349 rfl) (qw hw 350 rfl) (qw hw 351 rfl) (qw hw 135 rfl) (qw hw 11 rfl) (qw hw 352 rfl) (rmGB l Z a0 hw [] two mp tb ea eb _A ka kb va vb kc h0 n0 (Nat.le_trans Z0 K0.1) MK (BK.ext EZ) (.ref fk_) (.ref nd) hLK) e2 MK.1 (by decide) (by rw [hml]; rfl) (lenOf pd17 rfl) (Nat.le_of_eq rfl) (hb hby d48_23) ?_
 intro T3 v3 L3 h3 e3 X3 hQ3
 obtain ⟨rfl, N3, E3⟩ := hQ3
 have M3 := Fr.app N0 N3
 have _C := _F.ext E3
 obtain ⟨T4, X4, e4, st4⟩ := castY X3 hx hZ _d (qw hw 79 rfl) e3 (Ins.of_exa _C (qw hw 362 rfl)) (g := (mkF m 28 #[vR gr, vR fk_, vU] [(.ref nd)])) rfl rfl (hb hby d48_28)
 refine Go.st st4 ?_
 refine gs ?_ fun _ _k => XS.astoreN X4.here hx rfl (hb hby d48_31) rfl rfl (l' := #[vR gr, vR fk_, vR nd]) rfl _k
 refine gs ?_ fun _ _k => XS.aloadN X4.here hx rfl (hb hby d48_32) rfl rfl _k
 refine gs ?_ fun _ _k => XS.ifnonnullYes X4.here hx rfl (pc0 := 33) (pc' := 38) rfl (hb hby d48_33) rfl (by decide) (by decide) _k
 refine gs ?_ fun _ _k => XS.aloadN X4.here hx rfl (hb hby d48_38) rfl rfl _k
 refine gs ?_ fun _ _k => XS.aloadN X4.here hx rfl (hb hby d48_39) rfl rfl _k
 have _a := _j.ext E3
 have _y := _E.ext E3
 obtain ⟨T5, h5, X5, e5, W5, st5⟩ := putF X4 hx hZ _d (host := "") (Or.inl (qw hw 363 rfl)) Via.refl e4 _a _y (Or.inl (qw hw 364 rfl)) (qw hw 1 rfl) (ty := (.object s_e)) (by decide) rfl rfl (g := (mkF m 40 #[vR gr, vR fk_, vR nd] [(.ref fk_), (.ref gr)])) rfl rfl (hb hby d48_40)
 refine Go.st st5 ?_
 have _g : Fld Z h5 gr s_a "lastState" s_l (.ref fk_) := _a.same W5
 have N5 := Fr.snoc X5 M3 _B
 refine gs ?_ fun _ _k => XS.aloadN X5.here hx rfl (hb hby d48_43) rfl rfl _k
 refine gs ?_ fun _ _k => XS.aloadN X5.here hx rfl (hb hby d48_44) rfl rfl _k
 have _b := (_f.ext E3).other W5 (Or.inr (slot_ne (Or.inl (qw hw 344 rfl)) (Or.inl (qw hw 364 rfl)) (by decide) (t := (.object s_b)) (t' := (.object s_e)) (by decide) (by decide)))
 have _z := _y.wr W5
 obtain ⟨T6, h6, X6, e6, W6, st6⟩ := putF X5 hx hZ _d (host := "") (Or.inl (qw hw 343 rfl)) Via.refl e5 _b _z (Or.inl (qw hw 344 rfl)) (qw hw 1 rfl) (ty := (.object s_b)) (by decide) rfl rfl (g := (mkF m 45 #[vR gr, vR fk_, vR nd] [(.ref nd), (.ref gr)])) rfl rfl (hb hby d48_45)
 refine Go.st st6 ?_
 have _c : Fld Z h6 gr s_a "lastNode" s_o (.ref nd) := _b.same W6
 have N6 := Fr.snoc X6 N5 _B
 refine gs ?_ fun _ _k => XS.aloadN X6.here hx rfl (hb hby d48_48) rfl rfl _k
 obtain ⟨T7, X7, e7, st7⟩ := getF X6 hx hZ _d (host := "") (Or.inl (qw hw 343 rfl)) Via.refl e6 _c (g := (mkF m 49 #[vR gr, vR fk_, vR nd] [(.ref gr)])) rfl rfl (hb hby d48_49)
 refine Go.st st7 ?_
 show Go p e s _v _ _ _ T7 (mkF m 52 #[vR gr, vR fk_, vR nd] [(.ref nd)])
 have K_6 := ((K0.ext E3).wr W5 (Or.inl (by simp))).wr W6 (Or.inl (by simp))
 have _D := _z.wr W6
 have _k := ((_o.ext E3).other W5 (Or.inr (slot_ne (Or.inr (qw hw 38 rfl)) (Or.inl (qw hw 364 rfl)) (by decide) (t := .int) (t' := (.object s_e)) (by decide) (by decide)))).other W6 (Or.inr (slot_ne (Or.inr (qw hw 38 rfl)) (Or.inl (qw hw 344 rfl)) (by decide) (t := .int) (t' := (.object s_b)) (by decide) (by decide)))
 have _q := ((_i.ext E3).other W5 (Or.inr (slot_ne (Or.inr (qw hw 36 rfl)) (Or.inl (qw hw 364 rfl)) (by decide) (t := (.object "java/util/Map")) (t' := (.object s_e)) (by decide) (by decide)))).other W6 (Or.inr (slot_ne (Or.inr (qw hw 36 rfl)) (Or.inl (qw hw 344 rfl)) (by decide) (t := (.object "java/util/Map")) (t' := (.object s_b)) (by decide) (by decide)))
 have _t := ((_w.ext E3).other W5 (Or.inr (slot_ne (Or.inl (qw hw 220 rfl)) (Or.inl (qw hw 364 rfl)) (by decide) (t := .int) (t' := (.object s_e)) (by decide) (by decide)))).other W6 (Or.inr (slot_ne (Or.inl (qw hw 220 rfl)) (Or.inl (qw hw 344 rfl)) (by decide) (t := .int) (t' := (.object s_b)) (by decide) (by decide)))
 have _r := ((_u.ext E3).other W5 (Or.inr (slot_ne (Or.inl (qw hw 236 rfl)) (Or.inl (qw hw 364 rfl)) (by decide) (t := .int) (t' := (.object s_e)) (by decide) (by decide)))).other W6 (Or.inr (slot_ne (Or.inl (qw hw 236 rfl)) (Or.inl (qw hw 344 rfl)) (by decide) (t := .int) (t' := (.object s_b)) (by decide) (by decide)))
 have _h := _g.other W6 (Or.inr (slot_ne (Or.inl (qw hw 364 rfl)) (Or.inl (qw hw 344 rfl)) (by decide) (t := (.object s_e)) (t' := (.object s_b)) (by decide) (by decide)))
 exact Go.retA X7 hx hlk _L rfl rfl (hb hby d48_52) (by decide) (by decide) ⟨rfl, N6, (by rw [e7]; exact K_6), (by rw [e7]; exact _D), (by rw [e7]; exact _k), (by rw [e7]; exact _q), (by rw [e7]; exact _t), (by rw [e7]; exact _r), (by rw [e7]; exact _h), (by rw [e7]; exact _c)⟩
theorem pd29 : parseMethodDescriptor "(Ljava/lang/Object;Ljava/lang/Object;)Z" = some ⟨[(.object s_e), (.object s_e)], some .boolean⟩ := by decide +kernel
theorem d48_7 : decode bc48 7 = .ok (.aload_n 1, 1) := by decide +kernel
theorem d48_8 : decode bc48 8 = .ok (.aload_n 0, 1) := by decide +kernel
theorem d48_9 : decode bc48 9 = .ok (.getfield 113, 3) := by decide +kernel
theorem d48_12 : decode bc48 12 = .ok (.invokestatic 95, 3) := by decide +kernel
theorem d48_15 : decode bc48 15 = .ok (.ifCond .ne 33, 3) := by decide +kernel
theorem ef_NOB (m : MethodId) (x0 : Addr) (x1 : Addr) : entryFrame m #[(.ref x0), (.ref x1)] 3 = mkF m 0 #[.val (.ref x0), .val (.ref x1), .unset] [] := by first | (simp [entryFrame, mkF, argsToLocals, Value.category]; done) | rfl
theorem rmNOB (l : Launch) (Z : State) (a0 : Array Value) (hw : HW a0 Z) (ws : List Jvm.Cond) (two : Bool) (mp : Addr) (tb : Addr) (ea : Addr) (eb : Addr) (_v : ClassId) (ka : Addr) (kb : Addr) (va : Addr) (vb : Addr) (kc : Addr) (ac : Int32) (tk : Int32) (fk_ : Addr) (gr : Addr) (nd : Addr) (h0 : Heap) (n0 : Nat) (Z0 : n0 ≤ h0.size) (ZN : Z.heap.size ≤ n0) (EZ : Ext Z.heap h0) (_E : n0 ≤ gr) (_w : Exa Z h0 gr s_a) (_h : Fld Z h0 gr s_a "stimuli" "I" (.int 3)) (_o : Fld Z h0 gr s_a "nodes" "Ljava/util/Map;" (.ref mp)) (_t : Fld Z h0 gr s_a "arcs" "I" (.int ac)) (_q : Fld Z h0 gr s_a "taken" "I" (.int tk)) (_b : Fld Z h0 gr s_a "lastState" s_l (.ref fk_)) (_c : Fld Z h0 gr s_a "lastNode" s_o (.ref nd)) (_F : Exa Z h0 nd s_b) (MK : MapOK Z h0 two mp tb ea eb _v ka kb va vb) (_y : nd ≠ gr) (_z : mp ≠ gr) (_A : tb ≠ gr) (_B : ea ≠ gr) (_C : eb ≠ gr) (BK : BXK Z Z.heap ka kb kc) (hLK : LKb two ka kb kc va vb (.ref fk_) (.ref nd)) (nab : ¬ ka = kb) (nac : ¬ ka = kc) (nbc : ¬ kb = kc) (ikf : IsK ka kb kc (.ref fk_)) :
  Meets l Z mn_61 prog_31_method_15_code 3 (some (.object s_b)) ({ frames := 5, cells := 0, slots := 0, locals := 72 } : Room) ws #[(.ref gr), (.ref fk_)] h0 (fun v h L => v = some (.ref nd) ∧ Fr n0 L ∧ Keep h0 h [gr] ∧ Exa Z h gr s_a ∧ Fld Z h gr s_a "stimuli" "I" (.int 3) ∧ Fld Z h gr s_a "nodes" "Ljava/util/Map;" (.ref mp) ∧ Fld Z h gr s_a "arcs" "I" (.int ac) ∧ Fld Z h gr s_a "taken" "I" (.int tk) ∧ Fld Z h gr s_a "lastState" s_l (.ref fk_) ∧ Fld Z h gr s_a "lastNode" s_o (.ref nd)) := by
 refine Meets.of (plainFor_of_name pn_8) ?_
 intro p e s m _r _G c s₁ X0 hx hby hml _D hlk hnm hZ _f e0
 replace _f : s.vm.findClass s_a = some m.cls := _f
 have N0 := Fr.nil n0
 have K0 := Keep.refl h0 [gr]
 refine Go.cast (ef_NOB m gr fk_) ?_
 show Go p e s _r _ _ _ s₁ (mkF m 0 #[vR gr, vR fk_, vU] [])
 refine gs ?_ fun _ _k => XS.aloadN X0.here hx rfl (hb hby d48_0) rfl rfl _k
 obtain ⟨T1, X1, e1, st1⟩ := getF X0 hx hZ _f (host := "") (Or.inl (qw hw 343 rfl)) Via.refl e0 _c (g := (mkF m 1 #[vR gr, vR fk_, vU] [(.ref gr)])) rfl rfl (hb hby d48_1)
 refine Go.st st1 ?_
 refine gs ?_ fun _ _k => XS.ifnullNo X1.here hx rfl (hb hby d48_4) rfl _k
 refine gs ?_ fun _ _k => XS.aloadN X1.here hx rfl (hb hby d48_7) rfl rfl _k
 refine gs ?_ fun _ _k => XS.aloadN X1.here hx rfl (hb hby d48_8) rfl rfl _k
 obtain ⟨T2, X2, e2, st2⟩ := getF X1 hx hZ _f (host := "") (Or.inl (qw hw 363 rfl)) Via.refl e1 _b (g := (mkF m 9 #[vR gr, vR fk_, vU] [(.ref gr), (.ref fk_)])) rfl rfl (hb hby d48_9)
 refine Go.st st2 ?_
 show Go p e s _r _ _ _ T2 (mkF m 12 #[vR gr, vR fk_, vU] [(.ref fk_), (.ref fk_)])
 refine Go.callS (W := 0) (argsL := [(.ref fk_), (.ref fk_)]) (rest := []) X2 hx hZ _f (y := mn_23) (qw hw 373 rfl) (qw hw 374 rfl) (qw hw 324 rfl) (qw hw 375 rfl) (rmOM l Z a0 hw [] ka kb kc h0 n0 (Nat.le_trans Z0 K0.1) (BK.ext EZ) nab nac nbc (.ref fk_) (.ref fk_) ikf ikf) e2 (by decide) (by rw [hml]; rfl) (lenOf pd29 rfl) (Nat.le_of_eq rfl) (hb hby d48_12) ?_
 intro T3 v3 L3 h3 e3 X3 hQ3
 obtain ⟨z3, rfl, za3, zb3, N3, E3⟩ := hQ3
 obtain rfl := (za3 rfl)
 have M3 := Fr.app N0 N3
 refine gs ?_ fun _ _k => XS.ifYes X3.here hx rfl (pc0 := 15) (pc' := 48) rfl (hb hby d48_15) rfl ((if0 _ _).trans (feq (by decide : ¬ ((1 : Int32) = (0 : Int32)))).2) (by decide) (by decide) _k
 refine gs ?_ fun _ _k => XS.aloadN X3.here hx rfl (hb hby d48_48) rfl rfl _k
 have _a := _c.ext E3
 obtain ⟨T4, X4, e4, st4⟩ := getF X3 hx hZ _f (host := "") (Or.inl (qw hw 343 rfl)) Via.refl e3 _a (g := (mkF m 49 #[vR gr, vR fk_, vU] [(.ref gr)])) rfl rfl (hb hby d48_49)
 refine Go.st st4 ?_
 show Go p e s _r _ _ _ T4 (mkF m 52 #[vR gr, vR fk_, vU] [(.ref nd)])
 have K_3 := K0.ext E3
 have _u := _w.ext E3
 have _g := _h.ext E3
 have _i := _o.ext E3
 have _k := _t.ext E3
 have _j := _q.ext E3
 have _d := _b.ext E3
 exact Go.retA X4 hx hlk _D rfl rfl (hb hby d48_52) (by decide) (by decide) ⟨rfl, M3, (by rw [e4]; exact K_3), (by rw [e4]; exact _u), (by rw [e4]; exact _g), (by rw [e4]; exact _i), (by rw [e4]; exact _k), (by rw [e4]; exact _j), (by rw [e4]; exact _d), (by rw [e4]; exact _a)⟩
theorem ef_NOC (m : MethodId) (x0 : Addr) (x1 : Addr) : entryFrame m #[(.ref x0), (.ref x1)] 3 = mkF m 0 #[.val (.ref x0), .val (.ref x1), .unset] [] := by first | (simp [entryFrame, mkF, argsToLocals, Value.category]; done) | rfl
theorem rmNOC (l : Launch) (Z : State) (a0 : Array Value) (hw : HW a0 Z) (ws : List Jvm.Cond) (two : Bool) (mp : Addr) (tb : Addr) (ea : Addr) (eb : Addr) (_B : ClassId) (ka : Addr) (kb : Addr) (va : Addr) (vb : Addr) (kc : Addr) (ac : Int32) (tk : Int32) (fk_ : Addr) (gk : Addr) (nq : Addr) (gr : Addr) (nd : Addr) (h0 : Heap) (n0 : Nat) (Z0 : n0 ≤ h0.size) (ZN : Z.heap.size ≤ n0) (EZ : Ext Z.heap h0) (_C : n0 ≤ gr) (_G : Exa Z h0 gr s_a) (_q : Fld Z h0 gr s_a "stimuli" "I" (.int 3)) (_v : Fld Z h0 gr s_a "nodes" "Ljava/util/Map;" (.ref mp)) (_y : Fld Z h0 gr s_a "arcs" "I" (.int ac)) (_w : Fld Z h0 gr s_a "taken" "I" (.int tk)) (_f : Fld Z h0 gr s_a "lastState" s_l (.ref gk)) (_g : Fld Z h0 gr s_a "lastNode" s_o (.ref nq)) (_H : Exa Z h0 nd s_b) (MK : MapOK Z h0 two mp tb ea eb _B ka kb va vb) (_I : nd ≠ gr) (_J : mp ≠ gr) (_K : tb ≠ gr) (_L : ea ≠ gr) (_M : eb ≠ gr) (BK : BXK Z Z.heap ka kb kc) (hLK : LKb two ka kb kc va vb (.ref fk_) (.ref nd)) (nab : ¬ ka = kb) (nac : ¬ ka = kc) (nbc : ¬ kb = kc) (ikf : IsK ka kb kc (.ref fk_)) (ikg : IsK ka kb kc (.ref gk)) (nfg : ¬ fk_ = gk) :
  Meets l Z mn_61 prog_31_method_15_code 3 (some (.object s_b)) ({ frames := 5, cells := 0, slots := 0, locals := 72 } : Room) ws #[(.ref gr), (.ref fk_)] h0 (fun v h L => v = some (.ref nd) ∧ Fr n0 L ∧ Keep h0 h [gr] ∧ Exa Z h gr s_a ∧ Fld Z h gr s_a "stimuli" "I" (.int 3) ∧ Fld Z h gr s_a "nodes" "Ljava/util/Map;" (.ref mp) ∧ Fld Z h gr s_a "arcs" "I" (.int ac) ∧ Fld Z h gr s_a "taken" "I" (.int tk) ∧ Fld Z h gr s_a "lastState" s_l (.ref fk_) ∧ Fld Z h gr s_a "lastNode" s_o (.ref nd)) := by
 refine Meets.of (plainFor_of_name pn_8) ?_
 intro p e s m _o _P c s₁ X0 hx hby hml _N hlk hnm hZ _a e0
 replace _a : s.vm.findClass s_a = some m.cls := _a
 have N0 := Fr.nil n0
 have K0 := Keep.refl h0 [gr]
 refine Go.cast (ef_NOC m gr fk_) ?_
 show Go p e s _o _ _ _ s₁ (mkF m 0 #[vR gr, vR fk_, vU] [])
 refine gs ?_ fun _ _k => XS.aloadN X0.here hx rfl (hb hby d48_0) rfl rfl _k
 obtain ⟨T1, X1, e1, st1⟩ := getF X0 hx hZ _a (host := "") (Or.inl (qw hw 343 rfl)) Via.refl e0 _g (g := (mkF m 1 #[vR gr, vR fk_, vU] [(.ref gr)])) rfl rfl (hb hby d48_1)
 refine Go.st st1 ?_
 refine gs ?_ fun _ _k => XS.ifnullNo X1.here hx rfl (hb hby d48_4) rfl _k
 refine gs ?_ fun _ _k => XS.aloadN X1.here hx rfl (hb hby d48_7) rfl rfl _k
 refine gs ?_ fun _ _k => XS.aloadN X1.here hx rfl (hb hby d48_8) rfl rfl _k
 obtain ⟨T2, X2, e2, st2⟩ := getF X1 hx hZ _a (host := "") (Or.inl (qw hw 363 rfl)) Via.refl e1 _f (g := (mkF m 9 #[vR gr, vR fk_, vU] [(.ref gr), (.ref fk_)])) rfl rfl (hb hby d48_9)
 refine Go.st st2 ?_
 show Go p e s _o _ _ _ T2 (mkF m 12 #[vR gr, vR fk_, vU] [(.ref gk), (.ref fk_)])
 refine Go.callS (W := 0) (argsL := [(.ref fk_), (.ref gk)]) (rest := []) X2 hx hZ _a (y := mn_23) (qw hw 373 rfl) (qw hw 374 rfl) (qw hw 324 rfl) (qw hw 375 rfl) (rmOM l Z a0 hw [] ka kb kc h0 n0 (Nat.le_trans Z0 K0.1) (BK.ext EZ) nab nac nbc (.ref fk_) (.ref gk) ikf ikg) e2 (by decide) (by rw [hml]; rfl) (lenOf pd29 rfl) (Nat.le_of_eq rfl) (hb hby d48_12) ?_
 intro T3 v3 L3 h3 e3 X3 hQ3
 obtain ⟨z3, rfl, za3, zb3, N3, E3⟩ := hQ3
 obtain rfl := (zb3 (fun q => nfg (Value.ref.inj q)))
 have M3 := Fr.app N0 N3
 refine gs ?_ fun _ _k => XS.ifNo X3.here hx rfl (hb hby d48_15) rfl ((if0 _ _).trans (teq rfl).2) _k
 refine gs ?_ fun _ _k => XS.aloadN X3.here hx rfl (hb hby d48_18) rfl rfl _k
 have _h := _v.ext E3
 obtain ⟨T4, X4, e4, st4⟩ := getF X3 hx hZ _a (host := "") (Or.inl (qw hw 35 rfl)) Via.refl e3 _h (g := (mkF m 19 #[vR gr, vR fk_, vU] [(.ref gr)])) rfl rfl (hb hby d48_19)
 refine Go.st st4 ?_
 refine gs ?_ fun _ _k => XS.aloadN X4.here hx rfl (hb hby d48_22) rfl rfl _k
 show Go p e s _o _ _ _ T4 (mkF m 23 #[vR gr, vR fk_, vU] [(.ref fk_), (.ref mp)])
 have K_3 := K0.ext E3
 have _D := MK.ext E3
 have _O := own_extE EZ E3
 refine Go.callF (b := mp) (W := 0) (argsL := [(.ref fk_)]) (rest := []) X4 hx hZ _a (y := mn_62) (z := mn_19) (qw hw 345 rfl) (qw hw 346 rfl) (qw hw 347 rfl) rfl (qw hw 348 rfl) (qw hw 349 rfl) (qw hw 350 rfl) (qw hw 351 rfl) (qw hw 135 rfl) (qw hw 11 rfl) (qw hw 352 rfl) (rmGB l Z a0 hw [] two mp tb ea eb _B ka kb va vb kc h3 n0 (Nat.le_trans Z0 K_3.1) _D (BK.ext _O) (.ref fk_) (.ref nd) hLK) e4 _D.1 (by decide) (by rw [hml]; rfl) (lenOf pd17 rfl) (Nat.le_of_eq rfl) (hb hby d48_23) ?_
 intro T5 v5 L5 h5 e5 X5 hQ5
 obtain ⟨rfl, N5, E5⟩ := hQ5
 have M5 := Fr.app M3 N5
 have _E := (_H.ext E3).ext E5
 obtain ⟨T6, X6, e6, st6⟩ := castY X5 hx hZ _a (qw hw 79 rfl) e5 (Ins.of_exa _E (qw hw 362 rfl)) (g := (mkF m 28 #[vR gr, vR fk_, vU] [(.ref nd)])) rfl rfl (hb hby d48_28)
 refine Go.st st6 ?_
 refine gs ?_ fun _ _k => XS.astoreN X6.here hx rfl (hb hby d48_31) rfl rfl (l' := #[vR gr, vR fk_, vR nd]) rfl _k
 refine gs ?_ fun _ _k => XS.aloadN X6.here hx rfl (hb hby d48_32) rfl rfl _k
 refine gs ?_ fun _ _k => XS.ifnonnullYes X6.here hx rfl (pc0 := 33) (pc' := 38) rfl (hb hby d48_33) rfl (by decide) (by decide) _k
 refine gs ?_ fun _ _k => XS.aloadN X6.here hx rfl (hb hby d48_38) rfl rfl _k
 refine gs ?_ fun _ _k => XS.aloadN X6.here hx rfl (hb hby d48_39) rfl rfl _k
 have _b := (_f.ext E3).ext E5
 have _z := (_G.ext E3).ext E5
 obtain ⟨T7, h7, X7, e7, W7, st7⟩ := putF X6 hx hZ _a (host := "") (Or.inl (qw hw 363 rfl)) Via.refl e6 _b _z (Or.inl (qw hw 364 rfl)) (qw hw 1 rfl) (ty := (.object s_e)) (by decide) rfl rfl (g := (mkF m 40 #[vR gr, vR fk_, vR nd] [(.ref fk_), (.ref gr)])) rfl rfl (hb hby d48_40)
 refine Go.st st7 ?_
 have _i : Fld Z h7 gr s_a "lastState" s_l (.ref fk_) := _b.same W7
 have N7 := Fr.snoc X7 M5 _C
 refine gs ?_ fun _ _k => XS.aloadN X7.here hx rfl (hb hby d48_43) rfl rfl _k
 refine gs ?_ fun _ _k => XS.aloadN X7.here hx rfl (hb hby d48_44) rfl rfl _k
 have _c := ((_g.ext E3).ext E5).other W7 (Or.inr (slot_ne (Or.inl (qw hw 344 rfl)) (Or.inl (qw hw 364 rfl)) (by decide) (t := (.object s_b)) (t' := (.object s_e)) (by decide) (by decide)))
 have _A := _z.wr W7
 obtain ⟨T8, h8, X8, e8, W8, st8⟩ := putF X7 hx hZ _a (host := "") (Or.inl (qw hw 343 rfl)) Via.refl e7 _c _A (Or.inl (qw hw 344 rfl)) (qw hw 1 rfl) (ty := (.object s_b)) (by decide) rfl rfl (g := (mkF m 45 #[vR gr, vR fk_, vR nd] [(.ref nd), (.ref gr)])) rfl rfl (hb hby d48_45)
 refine Go.st st8 ?_
 have _d : Fld Z h8 gr s_a "lastNode" s_o (.ref nd) := _c.same W8
 have N8 := Fr.snoc X8 N7 _C
 refine gs ?_ fun _ _k => XS.aloadN X8.here hx rfl (hb hby d48_48) rfl rfl _k
 obtain ⟨T9, X9, e9, st9⟩ := getF X8 hx hZ _a (host := "") (Or.inl (qw hw 343 rfl)) Via.refl e8 _d (g := (mkF m 49 #[vR gr, vR fk_, vR nd] [(.ref gr)])) rfl rfl (hb hby d48_49)
 refine Go.st st9 ?_
 show Go p e s _o _ _ _ T9 (mkF m 52 #[vR gr, vR fk_, vR nd] [(.ref nd)])
 have K_8 := ((K_3.ext E5).wr W7 (Or.inl (by simp))).wr W8 (Or.inl (by simp))
 have _F := _A.wr W8
 have _k := (((_q.ext E3).ext E5).other W7 (Or.inr (slot_ne (Or.inr (qw hw 38 rfl)) (Or.inl (qw hw 364 rfl)) (by decide) (t := .int) (t' := (.object s_e)) (by decide) (by decide)))).other W8 (Or.inr (slot_ne (Or.inr (qw hw 38 rfl)) (Or.inl (qw hw 344 rfl)) (by decide) (t := .int) (t' := (.object s_b)) (by decide) (by decide)))
 have _r := ((_h.ext E5).other W7 (Or.inr (slot_ne (Or.inr (qw hw 36 rfl)) (Or.inl (qw hw 364 rfl)) (by decide) (t := (.object "java/util/Map")) (t' := (.object s_e)) (by decide) (by decide)))).other W8 (Or.inr (slot_ne (Or.inr (qw hw 36 rfl)) (Or.inl (qw hw 344 rfl)) (by decide) (t := (.object "java/util/Map")) (t' := (.object s_b)) (by decide) (by decide)))
 have _u := (((_y.ext E3).ext E5).other W7 (Or.inr (slot_ne (Or.inl (qw hw 220 rfl)) (Or.inl (qw hw 364 rfl)) (by decide) (t := .int) (t' := (.object s_e)) (by decide) (by decide)))).other W8 (Or.inr (slot_ne (Or.inl (qw hw 220 rfl)) (Or.inl (qw hw 344 rfl)) (by decide) (t := .int) (t' := (.object s_b)) (by decide) (by decide)))
 have _t := (((_w.ext E3).ext E5).other W7 (Or.inr (slot_ne (Or.inl (qw hw 236 rfl)) (Or.inl (qw hw 364 rfl)) (by decide) (t := .int) (t' := (.object s_e)) (by decide) (by decide)))).other W8 (Or.inr (slot_ne (Or.inl (qw hw 236 rfl)) (Or.inl (qw hw 344 rfl)) (by decide) (t := .int) (t' := (.object s_b)) (by decide) (by decide)))
 have _j := _i.other W8 (Or.inr (slot_ne (Or.inl (qw hw 364 rfl)) (Or.inl (qw hw 344 rfl)) (by decide) (t := (.object s_e)) (t' := (.object s_b)) (by decide) (by decide)))
 exact Go.retA X9 hx hlk _N rfl rfl (hb hby d48_52) (by decide) (by decide) ⟨rfl, N8, (by rw [e9]; exact K_8), (by rw [e9]; exact _F), (by rw [e9]; exact _k), (by rw [e9]; exact _r), (by rw [e9]; exact _u), (by rw [e9]; exact _t), (by rw [e9]; exact _j), (by rw [e9]; exact _d)⟩
theorem rmNM (l : Launch) (Z : State) (a0 : Array Value) (hw : HW a0 Z) (ws : List Jvm.Cond) (two : Bool) (mp : Addr) (tb : Addr) (ea : Addr) (eb : Addr) (_q : ClassId) (ka : Addr) (kb : Addr) (va : Addr) (vb : Addr) (kc : Addr) (ac tk : Int32) (fk_ : Addr) (ls ln : Value) (gr nd : Addr) (h0 : Heap) (n0 : Nat) (Z0 : n0 ≤ h0.size) (ZN : Z.heap.size ≤ n0) (EZ : Ext Z.heap h0) (_r : n0 ≤ gr) (_t : Exa Z h0 gr s_a) (_c : Fld Z h0 gr s_a "stimuli" "I" (.int 3)) (_d : Fld Z h0 gr s_a "nodes" "Ljava/util/Map;" (.ref mp)) (_g : Fld Z h0 gr s_a "arcs" "I" (.int ac)) (_f : Fld Z h0 gr s_a "taken" "I" (.int tk)) (_a : Fld Z h0 gr s_a "lastState" s_l ls) (_b : Fld Z h0 gr s_a "lastNode" s_o ln) (_u : Exa Z h0 nd s_b) (MK : MapOK Z h0 two mp tb ea eb _q ka kb va vb) (_h : nd ≠ gr) (_i : mp ≠ gr) (_j : tb ≠ gr) (_k : ea ≠ gr) (_o : eb ≠ gr) (BK : BXK Z Z.heap ka kb kc) (nab : ¬ ka = kb) (nac : ¬ ka = kc) (nbc : ¬ kb = kc) (hN : NodeOf two ka kb va vb (.ref fk_) (.ref nd)) (hLS : LSok two ka kb va vb ls ln) :
    Meets l Z mn_61 prog_31_method_15_code 3 (some (.object s_b)) ({ frames := 5, cells := 0, slots := 0, locals := 72 } : Room) ws #[.ref gr, .ref fk_] h0 (fun v h L => v = some (.ref nd) ∧ Fr n0 L ∧ Keep h0 h [gr] ∧ Exa Z h gr s_a ∧ Fld Z h gr s_a "stimuli" "I" (.int 3) ∧ Fld Z h gr s_a "nodes" "Ljava/util/Map;" (.ref mp) ∧ Fld Z h gr s_a "arcs" "I" (.int ac) ∧ Fld Z h gr s_a "taken" "I" (.int tk) ∧ Fld Z h gr s_a "lastState" s_l (.ref fk_) ∧ Fld Z h gr s_a "lastNode" s_o (.ref nd)) := by
  have hLK := own_nlk (kc := kc) hN
  have ikf := own_nIsK (kc := kc) hN
  rcases hLS with rfl | hg
  · exact rmNOA l Z a0 hw ws two mp tb ea eb _q ka kb va vb kc ac tk fk_ ls gr nd h0 n0 Z0 ZN EZ _r _t _c _d _g _f _a _b _u MK _h _i _j _k _o BK hLK nab nac nbc
  · obtain ⟨gk, nq, rfl, rfl⟩ := own_nref hg
    by_cases nfg : fk_ = gk
    · subst nfg
      have e := Value.ref.inj (own_nfun nab hN hg)
      subst e
      exact rmNOB l Z a0 hw ws two mp tb ea eb _q ka kb va vb kc ac tk fk_ gr nd h0 n0 Z0 ZN EZ _r _t _c _d _g _f _a _b _u MK _h _i _j _k _o BK hLK nab nac nbc ikf
    · have ikg := own_nIsK (kc := kc) hg
      exact rmNOC l Z a0 hw ws two mp tb ea eb _q ka kb va vb kc ac tk fk_ gk nq gr nd h0 n0 Z0 ZN EZ _r _t _c _d _g _f _a _b _u MK _h _i _j _k _o BK hLK nab nac nbc ikf ikg nfg
def own_bt (t : Int64) : Nat := if 0 < t then 1 else 0
def own_sb (k d : Nat) : Nat := if d / 2 ^ k % 2 = 1 then d else d + 2 ^ k
theorem own_bt_pos {t : Int64} (h : 0 < t) : own_bt t = 1 := if_pos h
theorem own_bt_neg {t : Int64} (h : ¬ 0 < t) : own_bt t = 0 := if_neg h
theorem own_bt_le (t : Int64) : own_bt t ≤ 1 := by
  by_cases h : 0 < t
  · rw [own_bt_pos h]; exact Nat.le_refl 1
  · rw [own_bt_neg h]; exact Nat.zero_le 1
theorem own_b01 {n : Nat} (h : n ≤ 1) : n = 0 ∨ n = 1 := by omega
theorem own_sb0 {n1 n2 n3 : Nat} (h1 : n1 ≤ 1) (h2 : n2 ≤ 1) (h3 : n3 ≤ 1) : own_sb 0 (n1 + 2 * n2 + 4 * n3) = 1 + 2 * n2 + 4 * n3 := by
  rcases own_b01 h1 with rfl | rfl <;> rcases own_b01 h2 with rfl | rfl <;> rcases own_b01 h3 with rfl | rfl <;> rfl
theorem own_sb1 {n1 n2 n3 : Nat} (h1 : n1 ≤ 1) (h2 : n2 ≤ 1) (h3 : n3 ≤ 1) : own_sb 1 (n1 + 2 * n2 + 4 * n3) = n1 + 2 * 1 + 4 * n3 := by
  rcases own_b01 h1 with rfl | rfl <;> rcases own_b01 h2 with rfl | rfl <;> rcases own_b01 h3 with rfl | rfl <;> rfl
theorem own_sb2 {n1 n2 n3 : Nat} (h1 : n1 ≤ 1) (h2 : n2 ≤ 1) (h3 : n3 ≤ 1) : own_sb 2 (n1 + 2 * n2 + 4 * n3) = n1 + 2 * n2 + 4 * 1 := by
  rcases own_b01 h1 with rfl | rfl <;> rcases own_b01 h2 with rfl | rfl <;> rcases own_b01 h3 with rfl | rfl <;> rfl
theorem own_pop3 {n1 n2 n3 : Nat} (h1 : n1 ≤ 1) (h2 : n2 ≤ 1) (h3 : n3 ≤ 1) : own_pop (n1 + 2 * n2 + 4 * n3) = n1 + n2 + n3 := by unfold own_pop; omega
theorem own_ofS (n : Nat) : Int32.ofNat n + 1 = Int32.ofNat (n + 1) := (Int32.ofNat_add n 1).symm
theorem own_stoK {Z : State} {h : Heap} {a0 : Array Value} {ka kb kc a : Addr} {v : Value} {c : Cell} {k : ClassId} {ty : FieldType} {C : String} (hv : IsK ka kb kc v) (A : Arr Z h a c ty) (q : c.cls = k) (O : Ovr Z k C) (B : BXK Z h ka kb kc) (wc : (Jvm.Cond.castable s_i C).before a0 Z = true) : Sto Z h a v := by
  rcases hv with rfl | rfl | rfl | rfl
  · exact Sto.ofV A q O (Ins.of_exa B.1 wc)
  · exact Sto.ofV A q O (Ins.of_exa B.2.2.1 wc)
  · exact Sto.ofV A q O (Ins.of_exa B.2.2.2.2.1 wc)
  · exact Or.inl rfl
theorem own_getset {L : List Value} {i : Nat} {v d : Value} (h : i < L.length) : (L.set i v).getD i d = v := by first | (rw [List.getD_eq_getElem?_getD, List.getElem?_set_self h]; rfl) | simp [List.getD, h]
theorem own_setself {L : List Value} {i : Nat} {v d : Value} (h : i < L.length) (e : L.getD i d = v) : L = L.set i v := by
  have e' : L[i]'h = v := by rw [List.getD_eq_getElem?_getD, List.getElem?_eq_getElem h] at e; exact e
  rw [← e', List.set_getElem_self]
theorem pd30 : parseMethodDescriptor "(Ljava/lang/Object;)Lcom/example/covenant/covenant/StateGraph$Node;" = some ⟨[(.object s_e)], some (.object s_b)⟩ := by decide +kernel
theorem pd31 : parseMethodDescriptor "(I)Z" = some ⟨[.int], some .boolean⟩ := by decide +kernel
theorem pd32 : parseMethodDescriptor "(I)Ljava/lang/Object;" = some ⟨[.int], some (.object s_e)⟩ := by decide +kernel
theorem d47_0 : decode bc47 0 = .ok (.aload_n 0, 1) := by decide +kernel
theorem d47_1 : decode bc47 1 = .ok (.aload_n 1, 1) := by decide +kernel
theorem d47_2 : decode bc47 2 = .ok (.invokevirtual 20, 3) := by decide +kernel
theorem d47_5 : decode bc47 5 = .ok (.astore 4, 2) := by decide +kernel
theorem d47_7 : decode bc47 7 = .ok (.aload 4, 2) := by decide +kernel
theorem d47_9 : decode bc47 9 = .ok (.iload_n 2, 1) := by decide +kernel
theorem d47_10 : decode bc47 10 = .ok (.invokevirtual 74, 3) := by decide +kernel
theorem d47_13 : decode bc47 13 = .ok (.ifCond .ne 24, 3) := by decide +kernel
theorem d47_16 : decode bc47 16 = .ok (.aload 4, 2) := by decide +kernel
theorem d47_18 : decode bc47 18 = .ok (.getfield 89, 3) := by decide +kernel
theorem d47_21 : decode bc47 21 = .ok (.iload_n 2, 1) := by decide +kernel
theorem d47_22 : decode bc47 22 = .ok (.aload_n 3, 1) := by decide +kernel
theorem d47_23 : decode bc47 23 = .ok (.aastore, 1) := by decide +kernel
theorem d47_24 : decode bc47 24 = .ok (.aload_n 0, 1) := by decide +kernel
theorem d47_25 : decode bc47 25 = .ok (.dup, 1) := by decide +kernel
theorem d47_26 : decode bc47 26 = .ok (.getfield 92, 3) := by decide +kernel
theorem d47_29 : decode bc47 29 = .ok (.iconst 1, 1) := by decide +kernel
theorem d47_30 : decode bc47 30 = .ok (.iadd, 1) := by decide +kernel
theorem d47_31 : decode bc47 31 = .ok (.putfield 92, 3) := by decide +kernel
theorem d47_34 : decode bc47 34 = .ok (.goto 18, 3) := by decide +kernel
theorem d47_37 : decode bc47 37 = .ok (.aload 4, 2) := by decide +kernel
theorem d47_39 : decode bc47 39 = .ok (.iload_n 2, 1) := by decide +kernel
theorem d47_40 : decode bc47 40 = .ok (.invokevirtual 86, 3) := by decide +kernel
theorem d47_43 : decode bc47 43 = .ok (.aload_n 3, 1) := by decide +kernel
theorem d47_44 : decode bc47 44 = .ok (.invokestatic 95, 3) := by decide +kernel
theorem d47_47 : decode bc47 47 = .ok (.ifCond .ne 5, 3) := by decide +kernel
theorem d47_50 : decode bc47 50 = .ok (.iconst 0, 1) := by decide +kernel
theorem d47_51 : decode bc47 51 = .ok (.ireturn, 1) := by decide +kernel
theorem d47_52 : decode bc47 52 = .ok (.aload 4, 2) := by decide +kernel
theorem d47_54 : decode bc47 54 = .ok (.getfield 101, 3) := by decide +kernel
theorem d47_57 : decode bc47 57 = .ok (.iload_n 2, 1) := by decide +kernel
theorem d47_58 : decode bc47 58 = .ok (.dup2, 1) := by decide +kernel
theorem d47_59 : decode bc47 59 = .ok (.laload, 1) := by decide +kernel
theorem d47_60 : decode bc47 60 = .ok (.lconst 1, 1) := by decide +kernel
theorem d47_61 : decode bc47 61 = .ok (.ladd, 1) := by decide +kernel
theorem d47_62 : decode bc47 62 = .ok (.lastore, 1) := by decide +kernel
theorem d47_63 : decode bc47 63 = .ok (.aload 4, 2) := by decide +kernel
theorem d47_65 : decode bc47 65 = .ok (.getfield 105, 3) := by decide +kernel
theorem d47_68 : decode bc47 68 = .ok (.iload_n 2, 1) := by decide +kernel
theorem d47_69 : decode bc47 69 = .ok (.aaload, 1) := by decide +kernel
theorem d47_70 : decode bc47 70 = .ok (.ifnonnull 23, 3) := by decide +kernel
theorem d47_73 : decode bc47 73 = .ok (.aload 4, 2) := by decide +kernel
theorem d47_75 : decode bc47 75 = .ok (.getfield 105, 3) := by decide +kernel
theorem d47_78 : decode bc47 78 = .ok (.iload_n 2, 1) := by decide +kernel
theorem d47_79 : decode bc47 79 = .ok (.aload_n 0, 1) := by decide +kernel
theorem d47_80 : decode bc47 80 = .ok (.getfield 10, 3) := by decide +kernel
theorem d47_83 : decode bc47 83 = .ok (.aload_n 3, 1) := by decide +kernel
theorem d47_84 : decode bc47 84 = .ok (.invokeinterface 109 2, 5) := by decide +kernel
theorem d47_89 : decode bc47 89 = .ok (.checkcast 24, 3) := by decide +kernel
theorem d47_92 : decode bc47 92 = .ok (.aastore, 1) := by decide +kernel
theorem d47_93 : decode bc47 93 = .ok (.aload 4, 2) := by decide +kernel
theorem d47_95 : decode bc47 95 = .ok (.getfield 105, 3) := by decide +kernel
theorem d47_98 : decode bc47 98 = .ok (.iload_n 2, 1) := by decide +kernel
theorem d47_99 : decode bc47 99 = .ok (.aaload, 1) := by decide +kernel
theorem d47_100 : decode bc47 100 = .ok (.ifnull 19, 3) := by decide +kernel
theorem d47_103 : decode bc47 103 = .ok (.aload_n 0, 1) := by decide +kernel
theorem d47_104 : decode bc47 104 = .ok (.aload_n 3, 1) := by decide +kernel
theorem d47_105 : decode bc47 105 = .ok (.putfield 113, 3) := by decide +kernel
theorem d47_108 : decode bc47 108 = .ok (.aload_n 0, 1) := by decide +kernel
theorem d47_109 : decode bc47 109 = .ok (.aload 4, 2) := by decide +kernel
theorem d47_111 : decode bc47 111 = .ok (.getfield 105, 3) := by decide +kernel
theorem d47_114 : decode bc47 114 = .ok (.iload_n 2, 1) := by decide +kernel
theorem d47_115 : decode bc47 115 = .ok (.aaload, 1) := by decide +kernel
theorem d47_116 : decode bc47 116 = .ok (.putfield 117, 3) := by decide +kernel
theorem d47_119 : decode bc47 119 = .ok (.iconst 1, 1) := by decide +kernel
theorem d47_120 : decode bc47 120 = .ok (.ireturn, 1) := by decide +kernel
theorem ef_TK (m : MethodId) (x0 : Addr) (x1 : Addr) (x2 : Int32) (x3 : Value) (hx3 : x3.isRef = true) : entryFrame m #[(.ref x0), (.ref x1), (.int x2), x3] 5 = mkF m 0 #[.val (.ref x0), .val (.ref x1), .val (.int x2), .val x3, .unset] [] := by rcases ref_cases hx3 with rfl | ⟨a, rfl⟩ <;> first | (simp [entryFrame, mkF, argsToLocals, Value.category]; done) | rfl
theorem rmTK (l : Launch) (Z : State) (a0 : Array Value) (hw : HW a0 Z) (ws : List Jvm.Cond) (two : Bool) (mp : Addr) (tb : Addr) (ea : Addr) (eb : Addr) (_rc : ClassId) (ka : Addr) (kb : Addr) (va : Addr) (vb : Addr) (kc : Addr) (ac : Int32) (tk : Int32) (fk_ : Addr) (ls : Value) (ln : Value) (to : Value) (b : Nat) (kk : Int32) (ts : List Value) (us : List Value) (rs : List Value) (t : Int64) (u : Value) (r : Value) (gr : Addr) (nd : Addr) (nx : Addr) (tm : Addr) (nn : Addr) (_wa : ClassId) (_R : ClassId) (_ya : ClassId) (h0 : Heap) (n0 : Nat) (Z0 : n0 ≤ h0.size) (ZN : Z.heap.size ≤ n0) (EZ : Ext Z.heap h0) (_A : n0 ≤ gr) (_Jd : n0 ≤ nx) (_qb : n0 ≤ tm) (_tc : n0 ≤ nn) (_Kd : Exa Z h0 gr s_a) (_rb : Fld Z h0 gr s_a "stimuli" "I" (.int 3)) (_uc : Fld Z h0 gr s_a "nodes" "Ljava/util/Map;" (.ref mp)) (_Cc : Fld Z h0 gr s_a "arcs" "I" (.int ac)) (_vc : Fld Z h0 gr s_a "taken" "I" (.int tk)) (_Ma : Fld Z h0 gr s_a "lastState" s_l ls) (_Ta : Fld Z h0 gr s_a "lastNode" s_o ln) (_tb : Exa Z h0 nd s_b) (_Q : Fld Z h0 nd s_b "next" s_k (.ref nx)) (_J : Fld Z h0 nd s_b "times" "[J" (.ref tm)) (_B : Fld Z h0 nd s_b "nextNodes" s_z (.ref nn)) (_wc : Arv Z h0 nx _wa (.object s_e) (3 : Int32) us .null) (_yc : Ovr Z _wa s_e) (_zc : Arv Z h0 tm _R .long (3 : Int32) ts (.long 0)) (_Ac : Arv Z h0 nn _ya (.object s_b) (3 : Int32) rs .null) (_Ld : Ovr Z _ya s_b) (MK : MapOK Z h0 two mp tb ea eb _rc ka kb va vb) (_c : gr ≠ nx) (_a : gr ≠ tm) (_b : gr ≠ nn) (_f : nd ≠ gr) (_ub : nd ≠ nx) (_za : nd ≠ tm) (_S : nd ≠ nn) (_C : nx ≠ tm) (_K : nx ≠ nn) (_y : tm ≠ nn) (_T : mp ≠ gr) (_Gc : mp ≠ nx) (_vb : mp ≠ tm) (_Ef : mp ≠ nn) (_U : tb ≠ gr) (_Hc : tb ≠ nx) (_wb : tb ≠ tm) (_Ff : tb ≠ nn) (_V : ea ≠ gr) (_Ic : ea ≠ nx) (_yb : ea ≠ tm) (_Gf : ea ≠ nn) (_W : eb ≠ gr) (_Jc : eb ≠ nx) (_zb : eb ≠ tm) (_Hf : eb ≠ nn) (BK : BXK Z Z.heap ka kb kc) (nab : ¬ ka = kb) (nac : ¬ ka = kc) (nbc : ¬ kb = kc) (hN : NodeOf two ka kb va vb (.ref fk_) (.ref nd)) (hLS : LSok two ka kb va vb ls ln) (ikt : IsK ka kb kc to) (hbd : b < 100) (hk : ¬ kk < 0 ∧ kk < (3 : Int32)) (ht : ts.getD kk.toNatClampNeg (.long 0) = .long t) (hu : us.getD kk.toNatClampNeg .null = u) (hr : rs.getD kk.toNatClampNeg .null = r) (lt : kk.toNatClampNeg < ts.length) (lu : kk.toNatClampNeg < us.length) (lr : kk.toNatClampNeg < rs.length) (hA : ArcOK two ka kb kc va vb b t u r) :
  Meets l Z mn_63 prog_31_method_7_code 5 (some .boolean) ({ frames := 6, cells := 0, slots := 0, locals := 86 } : Room) ws #[(.ref gr), (.ref fk_), (.int kk), to] h0 (fun v h L => ∃ (z : Int32) (t1 : Int64) (u1 r1 ls1 ln1 : Value) (tk1 : Int32), v = some (.int z) ∧ Fr n0 L ∧ Keep h0 h [gr, nx, tm, nn] ∧ Exa Z h gr s_a ∧ Fld Z h gr s_a "stimuli" "I" (.int 3) ∧ Fld Z h gr s_a "nodes" "Ljava/util/Map;" (.ref mp) ∧ Fld Z h gr s_a "arcs" "I" (.int ac) ∧ Fld Z h gr s_a "taken" "I" (.int tk1) ∧ Fld Z h gr s_a "lastState" s_l ls1 ∧ Fld Z h gr s_a "lastNode" s_o ln1 ∧ Arv Z h nx _wa (.object s_e) (3 : Int32) (us.set kk.toNatClampNeg u1) .null ∧ Arv Z h tm _R .long (3 : Int32) (ts.set kk.toNatClampNeg (.long t1)) (.long 0) ∧ Arv Z h nn _ya (.object s_b) (3 : Int32) (rs.set kk.toNatClampNeg r1) .null ∧ LSok two ka kb va vb ls1 ln1 ∧ ArcOK two ka kb kc va vb (b + 1) t1 u1 r1 ∧ 0 < t1 ∧ (0 < t → tk1 = tk) ∧ (¬ 0 < t → tk1 = tk + 1)) := by
 refine Meets.of (plainFor_of_name pn_8) ?_
 intro p e s m _h _Bh c s₁ X0 hx hby hml _Na hlk hnm hZ _d e0
 replace _d : s.vm.findClass s_a = some m.cls := _d
 have N0 := Fr.nil n0
 have K0 := Keep.refl h0 [gr, nx, tm, nn]
 refine Go.cast (ef_TK m gr fk_ kk to (own_isRefK ikt)) ?_
 show Go p e s _h _ _ _ s₁ (mkF m 0 #[vR gr, vR fk_, vI kk, .val to, vU] [])
 refine gs ?_ fun _ _k => XS.aloadN X0.here hx rfl (hb hby d47_0) rfl rfl _k
 refine gs ?_ fun _ _k => XS.aloadN X0.here hx rfl (hb hby d47_1) rfl rfl _k
 show Go p e s _h _ _ _ s₁ (mkF m 2 #[vR gr, vR fk_, vI kk, .val to, vU] [(.ref fk_), (.ref gr)])
 refine Go.callP (b := gr) (W := 0) (argsL := [(.ref fk_)]) (rest := []) X0 hx hZ _d (y := mn_61) (qw hw 339 rfl) (qw hw 340 rfl) (qw hw 341 rfl) (qw hw 1 rfl) (qw hw 2 rfl) (qw hw 342 rfl) (rmNM l Z a0 hw [] two mp tb ea eb _rc ka kb va vb kc ac tk fk_ ls ln gr nd h0 n0 Z0 ZN EZ _A _Kd _rb _uc _Cc _vc _Ma _Ta _tb MK _f _T _U _V _W BK nab nac nbc hN hLS) e0 _Kd (by decide) (by rw [hml]; rfl) (lenOf pd30 rfl) (Nat.le_of_eq rfl) (hb hby d47_2) ?_
 intro T1 v1 L1 h1 e1 X1 hQ1
 obtain ⟨rfl, N1, K1, _aa, _k, _z, _t, _u, _i, _j⟩ := hQ1
 have M1 := Fr.app N0 N1
 refine gs ?_ fun _ _k => XS.astore X1.here hx rfl (hb hby d47_5) rfl rfl (l' := #[vR gr, vR fk_, vI kk, .val to, vR nd]) rfl _k
 show Go p e s _h _ _ _ T1 (mkF m 7 #[vR gr, vR fk_, vI kk, .val to, vR nd] [])
 rcases id hA with ⟨hb1, ⟨ht0, hw0⟩ | ⟨hq, iu, hn⟩⟩
 · --
  have hnq := own_pos0 ht0
  subst hw0
  refine gs ?_ fun _ _k => XS.aload X1.here hx rfl (hb hby d47_7) rfl rfl _k
  refine gs ?_ fun _ _k => XS.iloadN X1.here hx rfl (hb hby d47_9) rfl _k
  show Go p e s _h _ _ _ T1 (mkF m 10 #[vR gr, vR fk_, vI kk, .val to, vR nd] [(.int kk), (.ref nd)])
  have K_1 := K0.trans K1 (allS (Or.inl (by simp)) all0)
  have _o := _tb.keep K1
  have _g := _J.keep K1 (ninS _f nin0)
  have _v := _zc.keep K1 (ninS (Ne.symm _a) nin0)
  refine Go.callV (b := nd) (W := 0) (argsL := [(.int kk)]) (rest := []) X1 hx hZ _d (y := mn_59) (z := mn_59) (qw hw 365 rfl) (qw hw 366 rfl) (notFace_of_selects (args := #[]) (mvT hZ (qw hw 368 rfl))) (qw hw 368 rfl) (qw hw 367 rfl) (qw hw 81 rfl) (qw hw 369 rfl) (rmIT0 l Z a0 hw [] kk ts t nd tm _R h1 n0 (Nat.le_trans Z0 K_1.1) _o _g _v hk ht hnq) e1 _o (by decide) (by rw [hml]; rfl) (lenOf pd31 rfl) (Nat.le_of_eq rfl) (hb hby d47_10) ?_
  intro T2 v2 L2 h2 e2 X2 hQ2
  obtain ⟨rfl, N2, K2⟩ := hQ2
  have M2 := Fr.app M1 N2
  refine gs ?_ fun _ _k => XS.ifNo X2.here hx rfl (hb hby d47_13) rfl ((if0 _ _).trans (teq (by decide)).2) _k
  refine gs ?_ fun _ _k => XS.aload X2.here hx rfl (hb hby d47_16) rfl rfl _k
  have _Nb := (_Q.keep K1 (ninS _f nin0)).ext K2
  obtain ⟨T3, X3, e3, st3⟩ := getF X2 hx hZ _d (host := "") (Or.inl (qw hw 370 rfl)) Via.refl e2 _Nb (g := (mkF m 18 #[vR gr, vR fk_, vI kk, .val to, vR nd] [(.ref nd)])) rfl rfl (hb hby d47_18)
  refine Go.st st3 ?_
  refine gs ?_ fun _ _k => XS.iloadN X3.here hx rfl (hb hby d47_21) rfl _k
  refine gs ?_ fun _ _k => XS.aloadN X3.here hx rfl (hb hby d47_22) rfl (own_isRefK ikt) _k
  have _Md := (_wc.keep K1 (ninS (Ne.symm _c) nin0)).ext K2
  obtain ⟨cl4, Ar4, q4, S4, M4, H4, G4⟩ := (id _Md)
  have in4 : ¬ (kk < 0 ∨ cl4.slots.size ≤ (kk).toNatClampNeg) := inb_of S4 hk
  have _Nd := own_extE (own_extK EZ K1 (allS (Nat.le_trans ZN _A) all0)) K2
  obtain ⟨T4, h4, X4, e4, W4, st4⟩ := stR X3 hx hZ e3 Ar4 (j := kk) in4 rfl (own_stoK ikt Ar4 q4 _yc (BK.ext _Nd) (qw hw 267 rfl)) (g := (mkF m 23 #[vR gr, vR fk_, vI kk, .val to, vR nd] [to, (.int kk), (.ref nx)])) rfl rfl (hb hby d47_23)
  refine Go.st st4 ?_
  have _Dc : Arv Z h4 nx _wa (.object s_e) (3 : Int32) (us.set kk.toNatClampNeg to) .null := Arv.set Ar4 q4 S4 M4 H4 G4 (own_fitsK ikt) W4 _ rfl lu
  have N4 := Fr.snoc X4 M2 _Jd
  refine gs ?_ fun _ _k => XS.aloadN X4.here hx rfl (hb hby d47_24) rfl rfl _k
  refine gs ?_ fun _ _k => XS.dup X4.here hx rfl (hb hby d47_25) rfl rfl _k
  have _L := (_u.ext K2).other W4 (Or.inl _c)
  obtain ⟨T5, X5, e5, st5⟩ := getF X4 hx hZ _d (host := "") (Or.inl (qw hw 235 rfl)) Via.refl e4 _L (g := (mkF m 26 #[vR gr, vR fk_, vI kk, .val to, vR nd] [(.ref gr), (.ref gr)])) rfl rfl (hb hby d47_26)
  refine Go.st st5 ?_
  refine gs ?_ fun _ _k => XT.iconstV X5.here hx rfl (1 : Int32) (hb hby d47_29) (by decide) _k
  refine gs ?_ fun _ _k => XS.iadd X5.here hx rfl (hb hby d47_30) rfl _k
  have _Ab := (_aa.ext K2).wr W4
  obtain ⟨T6, h6, X6, e6, W6, st6⟩ := putF X5 hx hZ _d (host := "") (Or.inl (qw hw 235 rfl)) Via.refl e5 _L _Ab (Or.inl (qw hw 236 rfl)) (qw hw 1 rfl) (ty := .int) (by decide) rfl rfl (g := (mkF m 31 #[vR gr, vR fk_, vI kk, .val to, vR nd] [(.int (tk + (1 : Int32))), (.ref gr)])) rfl rfl (hb hby d47_31)
  refine Go.st st6 ?_
  have _ba : Fld Z h6 gr s_a "taken" "I" (.int (tk + (1 : Int32))) := _L.same W6
  have N6 := Fr.snoc X6 N4 _A
  refine gs ?_ fun _ _k => XS.goto X6.here hx rfl (pc0 := 34) (pc' := 52) rfl (hb hby d47_34) (by decide) (by decide) _k
  refine gs ?_ fun _ _k => XS.aload X6.here hx rfl (hb hby d47_52) rfl rfl _k
  have _Bb := ((_g.ext K2).other W4 (Or.inl _ub)).other W6 (Or.inl _f)
  obtain ⟨T7, X7, e7, st7⟩ := getF X6 hx hZ _d (host := "") (Or.inl (qw hw 371 rfl)) Via.refl e6 _Bb (g := (mkF m 54 #[vR gr, vR fk_, vI kk, .val to, vR nd] [(.ref nd)])) rfl rfl (hb hby d47_54)
  refine Go.st st7 ?_
  refine gs ?_ fun _ _k => XS.iloadN X7.here hx rfl (hb hby d47_57) rfl _k
  refine gs ?_ fun _ _k => XT.dup2 X7.here hx rfl (hb hby d47_58) rfl rfl rfl _k
  have _Ec := ((_v.ext K2).other W4 (Ne.symm _C)).other W6 (Ne.symm _a)
  obtain ⟨cl8, Ar8, q8, S8, M8, H8, G8⟩ := (id _Ec)
  have in8 : ¬ (kk < 0 ∨ cl8.slots.size ≤ (kk).toNatClampNeg) := inb_of S8 hk
  refine Go.st (X7.laload hx (j := kk) (v := (.long t)) (by rw [e7]; exact Ar8.1) (State.isArrayOf_alike hZ.alike Ar8.2.1) Ar8.2.2 in8 (Has.at H8 in8 ht) (g := (mkF m 59 #[vR gr, vR fk_, vI kk, .val to, vR nd] [(.int kk), (.ref tm), (.int kk), (.ref tm)])) rfl rfl (hb hby d47_59)) ?_
  refine gs ?_ fun _ _k => XT.lconstV X7.here hx rfl (1 : Int64) (hb hby d47_60) (by decide) _k
  refine gs ?_ fun _ _k => XS.ladd X7.here hx rfl (hb hby d47_61) rfl _k
  obtain ⟨cl9, Ar9, q9, S9, M9, H9, G9⟩ := (id _Ec)
  have in9 : ¬ (kk < 0 ∨ cl9.slots.size ≤ (kk).toNatClampNeg) := inb_of S9 hk
  obtain ⟨T9, h9, X9, e9, W9, st9⟩ := stJ X7 hx hZ e7 Ar9 (j := kk) in9 (g := (mkF m 62 #[vR gr, vR fk_, vI kk, .val to, vR nd] [(.long (t + (1 : Int64))), (.int kk), (.ref tm)])) rfl rfl (hb hby d47_62)
  refine Go.st st9 ?_
  have _Fc : Arv Z h9 tm _R .long (3 : Int32) (ts.set kk.toNatClampNeg (.long (t + (1 : Int64)))) (.long 0) := Arv.set Ar9 q9 S9 M9 H9 G9 rfl W9 _ rfl lt
  have N9 := Fr.snoc X9 N6 _qb
  refine gs ?_ fun _ _k => XS.aload X9.here hx rfl (hb hby d47_63) rfl rfl _k
  have _r := ((((_B.keep K1 (ninS _f nin0)).ext K2).other W4 (Or.inl _ub)).other W6 (Or.inl _f)).other W9 (Or.inl _za)
  obtain ⟨T10, X10, e10, _If⟩ := getF X9 hx hZ _d (host := "") (Or.inl (qw hw 372 rfl)) Via.refl e9 _r (g := (mkF m 65 #[vR gr, vR fk_, vI kk, .val to, vR nd] [(.ref nd)])) rfl rfl (hb hby d47_65)
  refine Go.st _If ?_
  refine gs ?_ fun _ _k => XS.iloadN X10.here hx rfl (hb hby d47_68) rfl _k
  have _Cb := ((((_Ac.keep K1 (ninS (Ne.symm _b) nin0)).ext K2).other W4 (Ne.symm _K)).other W6 (Ne.symm _b)).other W9 (Ne.symm _y)
  obtain ⟨_Jf, _Kc, q11, S11, M11, H11, G11⟩ := (id _Cb)
  have _Od : ¬ (kk < 0 ∨ _Jf.slots.size ≤ (kk).toNatClampNeg) := inb_of S11 hk
  refine Go.st (X10.aaload hx (j := kk) (v := .null) (by rw [e10]; exact _Kc.1) (State.isArrayOf_alike hZ.alike _Kc.2.1) rfl _Kc.2.2 _Od (Has.at H11 _Od hr) (g := (mkF m 69 #[vR gr, vR fk_, vI kk, .val to, vR nd] [(.int kk), (.ref nn)])) rfl rfl (hb hby d47_69)) ?_
  refine gs ?_ fun _ _k => XS.ifnonnullNo X10.here hx rfl (hb hby d47_70) rfl _k
  refine gs ?_ fun _ _k => XS.aload X10.here hx rfl (hb hby d47_73) rfl rfl _k
  obtain ⟨T12, X12, e12, _Kf⟩ := getF X10 hx hZ _d (host := "") (Or.inl (qw hw 372 rfl)) Via.refl e10 _r (g := (mkF m 75 #[vR gr, vR fk_, vI kk, .val to, vR nd] [(.ref nd)])) rfl rfl (hb hby d47_75)
  refine Go.st _Kf ?_
  refine gs ?_ fun _ _k => XS.iloadN X12.here hx rfl (hb hby d47_78) rfl _k
  refine gs ?_ fun _ _k => XS.aloadN X12.here hx rfl (hb hby d47_79) rfl rfl _k
  have _M := (((_z.ext K2).other W4 (Or.inl _c)).other W6 (Or.inr (slot_ne (Or.inr (qw hw 36 rfl)) (Or.inl (qw hw 236 rfl)) (by decide) (t := (.object "java/util/Map")) (t' := .int) (by decide) (by decide)))).other W9 (Or.inl _a)
  obtain ⟨T13, X13, e13, _Lf⟩ := getF X12 hx hZ _d (host := "") (Or.inl (qw hw 35 rfl)) Via.refl e12 _M (g := (mkF m 80 #[vR gr, vR fk_, vI kk, .val to, vR nd] [(.ref gr), (.int kk), (.ref nn)])) rfl rfl (hb hby d47_80)
  refine Go.st _Lf ?_
  refine gs ?_ fun _ _k => XS.aloadN X13.here hx rfl (hb hby d47_83) rfl (own_isRefK ikt) _k
  show Go p e s _h _ _ _ T13 (mkF m 84 #[vR gr, vR fk_, vI kk, .val to, vR nd] [to, (.ref mp), (.int kk), (.ref nn)])
  have K_9 := (((K_1.ext K2).wr W4 (Or.inl (by simp))).wr W6 (Or.inl (by simp))).wr W9 (Or.inl (by simp))
  obtain ⟨_Pd, _Qd⟩ := own_lkEx (two := two) (va := va) (vb := vb) ikt
  have _Lc := ((((MK.keep K1 (ninS _T nin0) (ninS _U nin0) (ninS _V nin0) (ninS _W nin0)).ext K2).keep (Keep.of_wr W4) (ninS _Gc nin0) (ninS _Hc nin0) (ninS _Ic nin0) (ninS _Jc nin0)).keep (Keep.of_wr W6) (ninS _T nin0) (ninS _U nin0) (ninS _V nin0) (ninS _W nin0)).keep (Keep.of_wr W9) (ninS _vb nin0) (ninS _wb nin0) (ninS _yb nin0) (ninS _zb nin0)
  have _Mf := own_extW (own_extW (own_extW _Nd W4 (Nat.le_trans ZN _Jd)) W6 (Nat.le_trans ZN _A)) W9 (Nat.le_trans ZN _qb)
  refine Go.callF (b := mp) (W := 2) (argsL := [to]) (rest := [(.int kk), (.ref nn)]) X13 hx hZ _d (y := mn_62) (z := mn_19) (qw hw 345 rfl) (qw hw 346 rfl) (qw hw 347 rfl) rfl (qw hw 348 rfl) (qw hw 349 rfl) (qw hw 350 rfl) (qw hw 351 rfl) (qw hw 135 rfl) (qw hw 11 rfl) (qw hw 352 rfl) (rmGB l Z a0 hw [] two mp tb ea eb _rc ka kb va vb kc h9 n0 (Nat.le_trans Z0 K_9.1) _Lc (BK.ext _Mf) to _Pd _Qd) e13 _Lc.1 (by decide) (by rw [hml]; rfl) (lenOf pd17 rfl) (Nat.le_of_eq rfl) (hb hby d47_84) ?_
  intro T15 v15 L15 h15 e15 X15 _Nf
  obtain ⟨rfl, N15, E15⟩ := _Nf
  have M15 := Fr.app N9 N15
  show Go p e s _h _ _ _ T15 (mkF m 89 #[vR gr, vR fk_, vI kk, .val to, vR nd] [_Pd, (.int kk), (.ref nn)])
  rcases own_lkN _Qd with rfl | ⟨xr, rfl, hxr⟩
  · --
   refine Go.st (X15.checkcastNull hx (g := (mkF m 89 #[vR gr, vR fk_, vI kk, .val to, vR nd] [.null, (.int kk), (.ref nn)])) rfl rfl (hb hby d47_89)) ?_
   have _Oa := _Cb.ext E15
   obtain ⟨_Of, _Rd, q16, S16, M16, H16, G16⟩ := (id _Oa)
   have _Pf : ¬ (kk < 0 ∨ _Of.slots.size ≤ (kk).toNatClampNeg) := inb_of S16 hk
   obtain ⟨T16, h16, X16, e16, W16, _Qf⟩ := stR X15 hx hZ e15 _Rd (j := kk) _Pf rfl (Or.inl rfl) (g := (mkF m 92 #[vR gr, vR fk_, vI kk, .val to, vR nd] [.null, (.int kk), (.ref nn)])) rfl rfl (hb hby d47_92)
   refine Go.st _Qf ?_
   have _Ob : Arv Z h16 nn _ya (.object s_b) (3 : Int32) (rs.set kk.toNatClampNeg .null) .null := Arv.set _Rd q16 S16 M16 H16 G16 rfl W16 _ rfl lr
   have N16 := Fr.snoc X16 M15 _tc
   refine gs ?_ fun _ _k => XS.aload X16.here hx rfl (hb hby d47_93) rfl rfl _k
   have _ca := (_r.ext E15).other W16 (Or.inl _S)
   obtain ⟨T17, X17, e17, _Rf⟩ := getF X16 hx hZ _d (host := "") (Or.inl (qw hw 372 rfl)) Via.refl e16 _ca (g := (mkF m 95 #[vR gr, vR fk_, vI kk, .val to, vR nd] [(.ref nd)])) rfl rfl (hb hby d47_95)
   refine Go.st _Rf ?_
   refine gs ?_ fun _ _k => XS.iloadN X17.here hx rfl (hb hby d47_98) rfl _k
   obtain ⟨_Sf, _Mc, q18, S18, M18, H18, G18⟩ := (id _Ob)
   have _Sd : ¬ (kk < 0 ∨ _Sf.slots.size ≤ (kk).toNatClampNeg) := inb_of S18 hk
   refine Go.st (X17.aaload hx (j := kk) (v := .null) (by rw [e17]; exact _Mc.1) (State.isArrayOf_alike hZ.alike _Mc.2.1) rfl _Mc.2.2 _Sd (Has.at H18 _Sd (own_getset lr)) (g := (mkF m 99 #[vR gr, vR fk_, vI kk, .val to, vR nd] [(.int kk), (.ref nn)])) rfl rfl (hb hby d47_99)) ?_
   refine gs ?_ fun _ _k => XS.ifnullYes X17.here hx rfl (pc0 := 100) (pc' := 119) rfl (hb hby d47_100) rfl (by decide) (by decide) _k
   refine gs ?_ fun _ _k => XT.iconstV X17.here hx rfl (1 : Int32) (hb hby d47_119) (by decide) _k
   show Go p e s _h _ _ _ T17 (mkF m 120 #[vR gr, vR fk_, vI kk, .val to, vR nd] [(.int 1)])
   have _da := (((((_i.ext K2).other W4 (Or.inl _c)).other W6 (Or.inr (slot_ne (Or.inl (qw hw 364 rfl)) (Or.inl (qw hw 236 rfl)) (by decide) (t := (.object s_e)) (t' := .int) (by decide) (by decide)))).other W9 (Or.inl _a)).ext E15).other W16 (Or.inl _b)
   have _Aa := (((((_j.ext K2).other W4 (Or.inl _c)).other W6 (Or.inr (slot_ne (Or.inl (qw hw 344 rfl)) (Or.inl (qw hw 236 rfl)) (by decide) (t := (.object s_b)) (t' := .int) (by decide) (by decide)))).other W9 (Or.inl _a)).ext E15).other W16 (Or.inl _b)
   have _gd := (((_Dc.other W6 (Ne.symm _c)).other W9 _C).ext E15).other W16 _K
   have _hd := (_Fc.ext E15).other W16 _y
   have _Tf := (K_9.ext E15).wr W16 (Or.inl (by simp))
   have _id := (((_Ab.wr W6).wr W9).ext E15).wr W16
   have _Ga := (((((_k.ext K2).other W4 (Or.inl _c)).other W6 (Or.inr (slot_ne (Or.inr (qw hw 38 rfl)) (Or.inl (qw hw 236 rfl)) (by decide) (t := .int) (t' := .int) (by decide) (by decide)))).other W9 (Or.inl _a)).ext E15).other W16 (Or.inl _b)
   have _Ua := (_M.ext E15).other W16 (Or.inl _b)
   have _Db := (((((_t.ext K2).other W4 (Or.inl _c)).other W6 (Or.inr (slot_ne (Or.inl (qw hw 220 rfl)) (Or.inl (qw hw 236 rfl)) (by decide) (t := .int) (t' := .int) (by decide) (by decide)))).other W9 (Or.inl _a)).ext E15).other W16 (Or.inl _b)
   have _Va := ((_ba.other W9 (Or.inl _a)).ext E15).other W16 (Or.inl _b)
   exact Go.retN X17 hx hlk _Na (by simp) (hb hby d47_120) (by decide) (by decide) ⟨(nar .boolean (1 : Int32)), (t + (1 : Int64)), to, .null, (.ref fk_), (.ref nd), (tk + (1 : Int32)), rfl, N16, (by rw [e17]; exact _Tf), (by rw [e17]; exact _id), (by rw [e17]; exact _Ga), (by rw [e17]; exact _Ua), (by rw [e17]; exact _Db), (by rw [e17]; exact _Va), (by rw [e17]; exact _da), (by rw [e17]; exact _Aa), (by rw [e17]; exact _gd), (by rw [e17]; exact _hd), (by rw [e17]; exact _Ob), Or.inr hN, ⟨(own_inc (Or.inl ht0) hb1 hbd).2, Or.inr ⟨(own_inc (Or.inl ht0) hb1 hbd).1, ikt, Or.inl rfl⟩⟩, (own_inc (Or.inl ht0) hb1 hbd).1, fun q => absurd q hnq, fun _ => rfl⟩
  · --
   have _zf := _Lc.ext E15
   have _Eb := _zf.exa hxr
   obtain ⟨T19, X19, e19, _Uf⟩ := castY X15 hx hZ _d (qw hw 79 rfl) e15 (Ins.of_exa _Eb (qw hw 362 rfl)) (g := (mkF m 89 #[vR gr, vR fk_, vI kk, .val to, vR nd] [(.ref xr), (.int kk), (.ref nn)])) rfl rfl (hb hby d47_89)
   refine Go.st _Uf ?_
   have _Oa := _Cb.ext E15
   obtain ⟨_Vf, _Nc, q20, S20, M20, H20, G20⟩ := (id _Oa)
   have _Wf : ¬ (kk < 0 ∨ _Vf.slots.size ≤ (kk).toNatClampNeg) := inb_of S20 hk
   obtain ⟨T20, h20, X20, e20, W20, _ag⟩ := stR X19 hx hZ e19 _Nc (j := kk) _Wf rfl (Sto.ofV _Nc q20 _Ld (Ins.of_exa _Eb (qw hw 362 rfl))) (g := (mkF m 92 #[vR gr, vR fk_, vI kk, .val to, vR nd] [(.ref xr), (.int kk), (.ref nn)])) rfl rfl (hb hby d47_92)
   refine Go.st _ag ?_
   have _Pb : Arv Z h20 nn _ya (.object s_b) (3 : Int32) (rs.set kk.toNatClampNeg (.ref xr)) .null := Arv.set _Nc q20 S20 M20 H20 G20 rfl W20 _ rfl lr
   have N20 := Fr.snoc X20 M15 _tc
   refine gs ?_ fun _ _k => XS.aload X20.here hx rfl (hb hby d47_93) rfl rfl _k
   have _E := (_r.ext E15).other W20 (Or.inl _S)
   obtain ⟨T21, X21, e21, _bg⟩ := getF X20 hx hZ _d (host := "") (Or.inl (qw hw 372 rfl)) Via.refl e20 _E (g := (mkF m 95 #[vR gr, vR fk_, vI kk, .val to, vR nd] [(.ref nd)])) rfl rfl (hb hby d47_95)
   refine Go.st _bg ?_
   refine gs ?_ fun _ _k => XS.iloadN X21.here hx rfl (hb hby d47_98) rfl _k
   obtain ⟨_cg, _Oc, q22, S22, M22, H22, G22⟩ := (id _Pb)
   have _Td : ¬ (kk < 0 ∨ _cg.slots.size ≤ (kk).toNatClampNeg) := inb_of S22 hk
   refine Go.st (X21.aaload hx (j := kk) (v := (.ref xr)) (by rw [e21]; exact _Oc.1) (State.isArrayOf_alike hZ.alike _Oc.2.1) rfl _Oc.2.2 _Td (Has.at H22 _Td (own_getset lr)) (g := (mkF m 99 #[vR gr, vR fk_, vI kk, .val to, vR nd] [(.int kk), (.ref nn)])) rfl rfl (hb hby d47_99)) ?_
   refine gs ?_ fun _ _k => XS.ifnullNo X21.here hx rfl (hb hby d47_100) rfl _k
   refine gs ?_ fun _ _k => XS.aloadN X21.here hx rfl (hb hby d47_103) rfl rfl _k
   refine gs ?_ fun _ _k => XS.aloadN X21.here hx rfl (hb hby d47_104) rfl (own_isRefK ikt) _k
   have _F := (((((_i.ext K2).other W4 (Or.inl _c)).other W6 (Or.inr (slot_ne (Or.inl (qw hw 364 rfl)) (Or.inl (qw hw 236 rfl)) (by decide) (t := (.object s_e)) (t' := .int) (by decide) (by decide)))).other W9 (Or.inl _a)).ext E15).other W20 (Or.inl _b)
   have _Qb := (((_Ab.wr W6).wr W9).ext E15).wr W20
   obtain ⟨T23, h23, X23, e23, W23, _dg⟩ := putF X21 hx hZ _d (host := "") (Or.inl (qw hw 363 rfl)) Via.refl e21 _F _Qb (Or.inl (qw hw 364 rfl)) (qw hw 1 rfl) (ty := (.object s_e)) (by decide) rfl (own_fitsK ikt) (g := (mkF m 105 #[vR gr, vR fk_, vI kk, .val to, vR nd] [to, (.ref gr)])) rfl rfl (hb hby d47_105)
   refine Go.st _dg ?_
   have _fa : Fld Z h23 gr s_a "lastState" s_l to := _F.same W23
   have N23 := Fr.snoc X23 N20 _A
   refine gs ?_ fun _ _k => XS.aloadN X23.here hx rfl (hb hby d47_108) rfl rfl _k
   refine gs ?_ fun _ _k => XS.aload X23.here hx rfl (hb hby d47_109) rfl rfl _k
   have _ga := _E.other W23 (Or.inl _f)
   obtain ⟨T24, X24, e24, _fg⟩ := getF X23 hx hZ _d (host := "") (Or.inl (qw hw 372 rfl)) Via.refl e23 _ga (g := (mkF m 111 #[vR gr, vR fk_, vI kk, .val to, vR nd] [(.ref nd), (.ref gr)])) rfl rfl (hb hby d47_111)
   refine Go.st _fg ?_
   refine gs ?_ fun _ _k => XS.iloadN X24.here hx rfl (hb hby d47_114) rfl _k
   have _Rb := _Pb.other W23 (Ne.symm _b)
   obtain ⟨_gg, _Pc, q25, S25, M25, H25, G25⟩ := (id _Rb)
   have _Ud : ¬ (kk < 0 ∨ _gg.slots.size ≤ (kk).toNatClampNeg) := inb_of S25 hk
   refine Go.st (X24.aaload hx (j := kk) (v := (.ref xr)) (by rw [e24]; exact _Pc.1) (State.isArrayOf_alike hZ.alike _Pc.2.1) rfl _Pc.2.2 _Ud (Has.at H25 _Ud (own_getset lr)) (g := (mkF m 115 #[vR gr, vR fk_, vI kk, .val to, vR nd] [(.int kk), (.ref nn), (.ref gr)])) rfl rfl (hb hby d47_115)) ?_
   have _N := ((((((_j.ext K2).other W4 (Or.inl _c)).other W6 (Or.inr (slot_ne (Or.inl (qw hw 344 rfl)) (Or.inl (qw hw 236 rfl)) (by decide) (t := (.object s_b)) (t' := .int) (by decide) (by decide)))).other W9 (Or.inl _a)).ext E15).other W20 (Or.inl _b)).other W23 (Or.inr (slot_ne (Or.inl (qw hw 344 rfl)) (Or.inl (qw hw 364 rfl)) (by decide) (t := (.object s_b)) (t' := (.object s_e)) (by decide) (by decide)))
   have _Sb := _Qb.wr W23
   obtain ⟨T26, h26, X26, e26, W26, _hg⟩ := putF X24 hx hZ _d (host := "") (Or.inl (qw hw 343 rfl)) Via.refl e24 _N _Sb (Or.inl (qw hw 344 rfl)) (qw hw 1 rfl) (ty := (.object s_b)) (by decide) rfl rfl (g := (mkF m 116 #[vR gr, vR fk_, vI kk, .val to, vR nd] [(.ref xr), (.ref gr)])) rfl rfl (hb hby d47_116)
   refine Go.st _hg ?_
   have _Ba : Fld Z h26 gr s_a "lastNode" s_o (.ref xr) := _N.same W26
   have N26 := Fr.snoc X26 N23 _A
   refine gs ?_ fun _ _k => XT.iconstV X26.here hx rfl (1 : Int32) (hb hby d47_119) (by decide) _k
   show Go p e s _h _ _ _ T26 (mkF m 120 #[vR gr, vR fk_, vI kk, .val to, vR nd] [(.int 1)])
   have _ha := _fa.other W26 (Or.inr (slot_ne (Or.inl (qw hw 364 rfl)) (Or.inl (qw hw 344 rfl)) (by decide) (t := (.object s_e)) (t' := (.object s_b)) (by decide) (by decide)))
   have _jd := (((((_Dc.other W6 (Ne.symm _c)).other W9 _C).ext E15).other W20 _K).other W23 (Ne.symm _c)).other W26 (Ne.symm _c)
   have _kd := (((_Fc.ext E15).other W20 _y).other W23 (Ne.symm _a)).other W26 (Ne.symm _a)
   have _od := _Rb.other W26 (Ne.symm _b)
   have _ig := (((K_9.ext E15).wr W20 (Or.inl (by simp))).wr W23 (Or.inl (by simp))).wr W26 (Or.inl (by simp))
   have _qd := _Sb.wr W26
   have _Ha := (((((((_k.ext K2).other W4 (Or.inl _c)).other W6 (Or.inr (slot_ne (Or.inr (qw hw 38 rfl)) (Or.inl (qw hw 236 rfl)) (by decide) (t := .int) (t' := .int) (by decide) (by decide)))).other W9 (Or.inl _a)).ext E15).other W20 (Or.inl _b)).other W23 (Or.inr (slot_ne (Or.inr (qw hw 38 rfl)) (Or.inl (qw hw 364 rfl)) (by decide) (t := .int) (t' := (.object s_e)) (by decide) (by decide)))).other W26 (Or.inr (slot_ne (Or.inr (qw hw 38 rfl)) (Or.inl (qw hw 344 rfl)) (by decide) (t := .int) (t' := (.object s_b)) (by decide) (by decide)))
   have _Wa := (((_M.ext E15).other W20 (Or.inl _b)).other W23 (Or.inr (slot_ne (Or.inr (qw hw 36 rfl)) (Or.inl (qw hw 364 rfl)) (by decide) (t := (.object "java/util/Map")) (t' := (.object s_e)) (by decide) (by decide)))).other W26 (Or.inr (slot_ne (Or.inr (qw hw 36 rfl)) (Or.inl (qw hw 344 rfl)) (by decide) (t := (.object "java/util/Map")) (t' := (.object s_b)) (by decide) (by decide)))
   have _Fb := (((((((_t.ext K2).other W4 (Or.inl _c)).other W6 (Or.inr (slot_ne (Or.inl (qw hw 220 rfl)) (Or.inl (qw hw 236 rfl)) (by decide) (t := .int) (t' := .int) (by decide) (by decide)))).other W9 (Or.inl _a)).ext E15).other W20 (Or.inl _b)).other W23 (Or.inr (slot_ne (Or.inl (qw hw 220 rfl)) (Or.inl (qw hw 364 rfl)) (by decide) (t := .int) (t' := (.object s_e)) (by decide) (by decide)))).other W26 (Or.inr (slot_ne (Or.inl (qw hw 220 rfl)) (Or.inl (qw hw 344 rfl)) (by decide) (t := .int) (t' := (.object s_b)) (by decide) (by decide)))
   have _ab := ((((_ba.other W9 (Or.inl _a)).ext E15).other W20 (Or.inl _b)).other W23 (Or.inr (slot_ne (Or.inl (qw hw 236 rfl)) (Or.inl (qw hw 364 rfl)) (by decide) (t := .int) (t' := (.object s_e)) (by decide) (by decide)))).other W26 (Or.inr (slot_ne (Or.inl (qw hw 236 rfl)) (Or.inl (qw hw 344 rfl)) (by decide) (t := .int) (t' := (.object s_b)) (by decide) (by decide)))
   exact Go.retN X26 hx hlk _Na (by simp) (hb hby d47_120) (by decide) (by decide) ⟨(nar .boolean (1 : Int32)), (t + (1 : Int64)), to, (.ref xr), to, (.ref xr), (tk + (1 : Int32)), rfl, N26, (by rw [e26]; exact _ig), (by rw [e26]; exact _qd), (by rw [e26]; exact _Ha), (by rw [e26]; exact _Wa), (by rw [e26]; exact _Fb), (by rw [e26]; exact _ab), (by rw [e26]; exact _ha), (by rw [e26]; exact _Ba), (by rw [e26]; exact _jd), (by rw [e26]; exact _kd), (by rw [e26]; exact _od), Or.inr hxr, ⟨(own_inc (Or.inl ht0) hb1 hbd).2, Or.inr ⟨(own_inc (Or.inl ht0) hb1 hbd).1, ikt, Or.inr hxr⟩⟩, (own_inc (Or.inl ht0) hb1 hbd).1, fun q => absurd q hnq, fun _ => rfl⟩
 · --
  by_cases heq : u = to
  · --
   rcases hn with hw0 | hn
   · --
    subst hw0
    refine gs ?_ fun _ _k => XS.aload X1.here hx rfl (hb hby d47_7) rfl rfl _k
    refine gs ?_ fun _ _k => XS.iloadN X1.here hx rfl (hb hby d47_9) rfl _k
    show Go p e s _h _ _ _ T1 (mkF m 10 #[vR gr, vR fk_, vI kk, .val to, vR nd] [(.int kk), (.ref nd)])
    have K_1 := K0.trans K1 (allS (Or.inl (by simp)) all0)
    have _o := _tb.keep K1
    have _g := _J.keep K1 (ninS _f nin0)
    have _v := _zc.keep K1 (ninS (Ne.symm _a) nin0)
    refine Go.callV (b := nd) (W := 0) (argsL := [(.int kk)]) (rest := []) X1 hx hZ _d (y := mn_59) (z := mn_59) (qw hw 365 rfl) (qw hw 366 rfl) (notFace_of_selects (args := #[]) (mvT hZ (qw hw 368 rfl))) (qw hw 368 rfl) (qw hw 367 rfl) (qw hw 81 rfl) (qw hw 369 rfl) (rmIT1 l Z a0 hw [] kk ts t nd tm _R h1 n0 (Nat.le_trans Z0 K_1.1) _o _g _v hk ht hq) e1 _o (by decide) (by rw [hml]; rfl) (lenOf pd31 rfl) (Nat.le_of_eq rfl) (hb hby d47_10) ?_
    intro T27 v27 L27 h27 e27 X27 _jg
    obtain ⟨rfl, N27, K27⟩ := _jg
    have M27 := Fr.app M1 N27
    refine gs ?_ fun _ _k => XS.ifYes X27.here hx rfl (pc0 := 13) (pc' := 37) rfl (hb hby d47_13) rfl ((if0 _ _).trans (feq (by decide)).2) (by decide) (by decide) _k
    refine gs ?_ fun _ _k => XS.aload X27.here hx rfl (hb hby d47_37) rfl rfl _k
    refine gs ?_ fun _ _k => XS.iloadN X27.here hx rfl (hb hby d47_39) rfl _k
    show Go p e s _h _ _ _ T27 (mkF m 40 #[vR gr, vR fk_, vI kk, .val to, vR nd] [(.int kk), (.ref nd)])
    have _Vd := K_1.ext K27
    have _Tb := _o.ext K27
    have _Gb := (_Q.keep K1 (ninS _f nin0)).ext K27
    have _Pa := (_wc.keep K1 (ninS (Ne.symm _c) nin0)).ext K27
    refine Go.callV (b := nd) (W := 0) (argsL := [(.int kk)]) (rest := []) X27 hx hZ _d (y := mn_60) (z := mn_60) (qw hw 376 rfl) (qw hw 377 rfl) (notFace_of_selects (args := #[]) (mvT hZ (qw hw 379 rfl))) (qw hw 379 rfl) (qw hw 378 rfl) (qw hw 81 rfl) (qw hw 380 rfl) (rmNX l Z a0 hw [] kk us u nd nx _wa h27 n0 (Nat.le_trans Z0 _Vd.1) _Tb _Gb _Pa _yc hk hu (own_isRefK iu)) e27 _Tb (by decide) (by rw [hml]; rfl) (lenOf pd32 rfl) (Nat.le_of_eq rfl) (hb hby d47_40) ?_
    intro T28 v28 L28 h28 e28 X28 _kg
    obtain ⟨rfl, N28, K28⟩ := _kg
    have M28 := Fr.app M27 N28
    refine gs ?_ fun _ _k => XS.aloadN X28.here hx rfl (hb hby d47_43) rfl (own_isRefK ikt) _k
    show Go p e s _h _ _ _ T28 (mkF m 44 #[vR gr, vR fk_, vI kk, .val to, vR nd] [to, u])
    have _Wd := _Vd.ext K28
    have _fd := own_extE (own_extE (own_extK EZ K1 (allS (Nat.le_trans ZN _A) all0)) K27) K28
    refine Go.callS (W := 0) (argsL := [u, to]) (rest := []) X28 hx hZ _d (y := mn_23) (qw hw 373 rfl) (qw hw 374 rfl) (qw hw 324 rfl) (qw hw 375 rfl) (rmOM l Z a0 hw [] ka kb kc h28 n0 (Nat.le_trans Z0 _Wd.1) (BK.ext _fd) nab nac nbc u to iu ikt) e28 (by decide) (by rw [hml]; rfl) (lenOf pd29 rfl) (Nat.le_of_eq rfl) (hb hby d47_44) ?_
    intro T29 v29 L29 h29 e29 X29 _og
    obtain ⟨z29, rfl, _qg, _Ch, N29, E29⟩ := _og
    obtain rfl := (_qg heq)
    have M29 := Fr.app M28 N29
    refine gs ?_ fun _ _k => XS.ifYes X29.here hx rfl (pc0 := 47) (pc' := 52) rfl (hb hby d47_47) rfl ((if0 _ _).trans (feq (by decide : ¬ ((1 : Int32) = (0 : Int32)))).2) (by decide) (by decide) _k
    refine gs ?_ fun _ _k => XS.aload X29.here hx rfl (hb hby d47_52) rfl rfl _k
    have _bb := ((_g.ext K27).ext K28).ext E29
    obtain ⟨T30, X30, e30, _rg⟩ := getF X29 hx hZ _d (host := "") (Or.inl (qw hw 371 rfl)) Via.refl e29 _bb (g := (mkF m 54 #[vR gr, vR fk_, vI kk, .val to, vR nd] [(.ref nd)])) rfl rfl (hb hby d47_54)
    refine Go.st _rg ?_
    refine gs ?_ fun _ _k => XS.iloadN X30.here hx rfl (hb hby d47_57) rfl _k
    refine gs ?_ fun _ _k => XT.dup2 X30.here hx rfl (hb hby d47_58) rfl rfl rfl _k
    have _Ub := ((_v.ext K27).ext K28).ext E29
    obtain ⟨_tg, _Qc, q31, S31, M31, H31, G31⟩ := (id _Ub)
    have _af : ¬ (kk < 0 ∨ _tg.slots.size ≤ (kk).toNatClampNeg) := inb_of S31 hk
    refine Go.st (X30.laload hx (j := kk) (v := (.long t)) (by rw [e30]; exact _Qc.1) (State.isArrayOf_alike hZ.alike _Qc.2.1) _Qc.2.2 _af (Has.at H31 _af ht) (g := (mkF m 59 #[vR gr, vR fk_, vI kk, .val to, vR nd] [(.int kk), (.ref tm), (.int kk), (.ref tm)])) rfl rfl (hb hby d47_59)) ?_
    refine gs ?_ fun _ _k => XT.lconstV X30.here hx rfl (1 : Int64) (hb hby d47_60) (by decide) _k
    refine gs ?_ fun _ _k => XS.ladd X30.here hx rfl (hb hby d47_61) rfl _k
    obtain ⟨_ug, _bf, q32, S32, M32, H32, G32⟩ := (id _Ub)
    have _vg : ¬ (kk < 0 ∨ _ug.slots.size ≤ (kk).toNatClampNeg) := inb_of S32 hk
    obtain ⟨T32, h32, X32, e32, W32, _wg⟩ := stJ X30 hx hZ e30 _bf (j := kk) _vg (g := (mkF m 62 #[vR gr, vR fk_, vI kk, .val to, vR nd] [(.long (t + (1 : Int64))), (.int kk), (.ref tm)])) rfl rfl (hb hby d47_62)
    refine Go.st _wg ?_
    have _Vb : Arv Z h32 tm _R .long (3 : Int32) (ts.set kk.toNatClampNeg (.long (t + (1 : Int64)))) (.long 0) := Arv.set _bf q32 S32 M32 H32 G32 rfl W32 _ rfl lt
    have N32 := Fr.snoc X32 M29 _qb
    refine gs ?_ fun _ _k => XS.aload X32.here hx rfl (hb hby d47_63) rfl rfl _k
    have _q := ((((_B.keep K1 (ninS _f nin0)).ext K27).ext K28).ext E29).other W32 (Or.inl _za)
    obtain ⟨T33, X33, e33, _yg⟩ := getF X32 hx hZ _d (host := "") (Or.inl (qw hw 372 rfl)) Via.refl e32 _q (g := (mkF m 65 #[vR gr, vR fk_, vI kk, .val to, vR nd] [(.ref nd)])) rfl rfl (hb hby d47_65)
    refine Go.st _yg ?_
    refine gs ?_ fun _ _k => XS.iloadN X33.here hx rfl (hb hby d47_68) rfl _k
    have _Qa := ((((_Ac.keep K1 (ninS (Ne.symm _b) nin0)).ext K27).ext K28).ext E29).other W32 (Ne.symm _y)
    obtain ⟨_zg, _Rc, q34, S34, M34, H34, G34⟩ := (id _Qa)
    have _cf : ¬ (kk < 0 ∨ _zg.slots.size ≤ (kk).toNatClampNeg) := inb_of S34 hk
    refine Go.st (X33.aaload hx (j := kk) (v := .null) (by rw [e33]; exact _Rc.1) (State.isArrayOf_alike hZ.alike _Rc.2.1) rfl _Rc.2.2 _cf (Has.at H34 _cf hr) (g := (mkF m 69 #[vR gr, vR fk_, vI kk, .val to, vR nd] [(.int kk), (.ref nn)])) rfl rfl (hb hby d47_69)) ?_
    refine gs ?_ fun _ _k => XS.ifnonnullNo X33.here hx rfl (hb hby d47_70) rfl _k
    refine gs ?_ fun _ _k => XS.aload X33.here hx rfl (hb hby d47_73) rfl rfl _k
    obtain ⟨T35, X35, e35, _Ag⟩ := getF X33 hx hZ _d (host := "") (Or.inl (qw hw 372 rfl)) Via.refl e33 _q (g := (mkF m 75 #[vR gr, vR fk_, vI kk, .val to, vR nd] [(.ref nd)])) rfl rfl (hb hby d47_75)
    refine Go.st _Ag ?_
    refine gs ?_ fun _ _k => XS.iloadN X35.here hx rfl (hb hby d47_78) rfl _k
    refine gs ?_ fun _ _k => XS.aloadN X35.here hx rfl (hb hby d47_79) rfl rfl _k
    have _D := (((_z.ext K27).ext K28).ext E29).other W32 (Or.inl _a)
    obtain ⟨T36, X36, e36, _Bg⟩ := getF X35 hx hZ _d (host := "") (Or.inl (qw hw 35 rfl)) Via.refl e35 _D (g := (mkF m 80 #[vR gr, vR fk_, vI kk, .val to, vR nd] [(.ref gr), (.int kk), (.ref nn)])) rfl rfl (hb hby d47_80)
    refine Go.st _Bg ?_
    refine gs ?_ fun _ _k => XS.aloadN X36.here hx rfl (hb hby d47_83) rfl (own_isRefK ikt) _k
    show Go p e s _h _ _ _ T36 (mkF m 84 #[vR gr, vR fk_, vI kk, .val to, vR nd] [to, (.ref mp), (.int kk), (.ref nn)])
    have _Sc := (_Wd.ext E29).wr W32 (Or.inl (by simp))
    obtain ⟨_df, _ff⟩ := own_lkEx (two := two) (va := va) (vb := vb) ikt
    have _Bc := ((((MK.keep K1 (ninS _T nin0) (ninS _U nin0) (ninS _V nin0) (ninS _W nin0)).ext K27).ext K28).ext E29).keep (Keep.of_wr W32) (ninS _vb nin0) (ninS _wb nin0) (ninS _yb nin0) (ninS _zb nin0)
    have _Af := own_extW (own_extE _fd E29) W32 (Nat.le_trans ZN _qb)
    refine Go.callF (b := mp) (W := 2) (argsL := [to]) (rest := [(.int kk), (.ref nn)]) X36 hx hZ _d (y := mn_62) (z := mn_19) (qw hw 345 rfl) (qw hw 346 rfl) (qw hw 347 rfl) rfl (qw hw 348 rfl) (qw hw 349 rfl) (qw hw 350 rfl) (qw hw 351 rfl) (qw hw 135 rfl) (qw hw 11 rfl) (qw hw 352 rfl) (rmGB l Z a0 hw [] two mp tb ea eb _rc ka kb va vb kc h32 n0 (Nat.le_trans Z0 _Sc.1) _Bc (BK.ext _Af) to _df _ff) e36 _Bc.1 (by decide) (by rw [hml]; rfl) (lenOf pd17 rfl) (Nat.le_of_eq rfl) (hb hby d47_84) ?_
    intro T38 v38 L38 h38 e38 X38 _Cg
    obtain ⟨rfl, N38, E38⟩ := _Cg
    have M38 := Fr.app N32 N38
    show Go p e s _h _ _ _ T38 (mkF m 89 #[vR gr, vR fk_, vI kk, .val to, vR nd] [_df, (.int kk), (.ref nn)])
    rcases own_lkN _ff with rfl | ⟨xr, rfl, hxr⟩
    · --
     refine Go.st (X38.checkcastNull hx (g := (mkF m 89 #[vR gr, vR fk_, vI kk, .val to, vR nd] [.null, (.int kk), (.ref nn)])) rfl rfl (hb hby d47_89)) ?_
     have _Ra := _Qa.ext E38
     obtain ⟨_Dg, _gf, q39, S39, M39, H39, G39⟩ := (id _Ra)
     have _Eg : ¬ (kk < 0 ∨ _Dg.slots.size ≤ (kk).toNatClampNeg) := inb_of S39 hk
     obtain ⟨T39, h39, X39, e39, W39, _Fg⟩ := stR X38 hx hZ e38 _gf (j := kk) _Eg rfl (Or.inl rfl) (g := (mkF m 92 #[vR gr, vR fk_, vI kk, .val to, vR nd] [.null, (.int kk), (.ref nn)])) rfl rfl (hb hby d47_92)
     refine Go.st _Fg ?_
     have _Wb : Arv Z h39 nn _ya (.object s_b) (3 : Int32) (rs.set kk.toNatClampNeg .null) .null := Arv.set _gf q39 S39 M39 H39 G39 rfl W39 _ rfl lr
     have N39 := Fr.snoc X39 M38 _tc
     refine gs ?_ fun _ _k => XS.aload X39.here hx rfl (hb hby d47_93) rfl rfl _k
     have _ia := (_q.ext E38).other W39 (Or.inl _S)
     obtain ⟨T40, X40, e40, _Gg⟩ := getF X39 hx hZ _d (host := "") (Or.inl (qw hw 372 rfl)) Via.refl e39 _ia (g := (mkF m 95 #[vR gr, vR fk_, vI kk, .val to, vR nd] [(.ref nd)])) rfl rfl (hb hby d47_95)
     refine Go.st _Gg ?_
     refine gs ?_ fun _ _k => XS.iloadN X40.here hx rfl (hb hby d47_98) rfl _k
     obtain ⟨_Hg, _Tc, q41, S41, M41, H41, G41⟩ := (id _Wb)
     have _hf : ¬ (kk < 0 ∨ _Hg.slots.size ≤ (kk).toNatClampNeg) := inb_of S41 hk
     refine Go.st (X40.aaload hx (j := kk) (v := .null) (by rw [e40]; exact _Tc.1) (State.isArrayOf_alike hZ.alike _Tc.2.1) rfl _Tc.2.2 _hf (Has.at H41 _hf (own_getset lr)) (g := (mkF m 99 #[vR gr, vR fk_, vI kk, .val to, vR nd] [(.int kk), (.ref nn)])) rfl rfl (hb hby d47_99)) ?_
     refine gs ?_ fun _ _k => XS.ifnullYes X40.here hx rfl (pc0 := 100) (pc' := 119) rfl (hb hby d47_100) rfl (by decide) (by decide) _k
     refine gs ?_ fun _ _k => XT.iconstV X40.here hx rfl (1 : Int32) (hb hby d47_119) (by decide) _k
     show Go p e s _h _ _ _ T40 (mkF m 120 #[vR gr, vR fk_, vI kk, .val to, vR nd] [(.int 1)])
     have _ja := (((((_i.ext K27).ext K28).ext E29).other W32 (Or.inl _a)).ext E38).other W39 (Or.inl _b)
     have _Ca := (((((_j.ext K27).ext K28).ext E29).other W32 (Or.inl _a)).ext E38).other W39 (Or.inl _b)
     have _rd := ((((_Pa.ext K28).ext E29).other W32 _C).ext E38).other W39 _K
     have _td := (_Vb.ext E38).other W39 _y
     have _Ig := (_Sc.ext E38).wr W39 (Or.inl (by simp))
     have _ud := (((((_aa.ext K27).ext K28).ext E29).wr W32).ext E38).wr W39
     have _Ia := (((((_k.ext K27).ext K28).ext E29).other W32 (Or.inl _a)).ext E38).other W39 (Or.inl _b)
     have _cb := (_D.ext E38).other W39 (Or.inl _b)
     have _Hb := (((((_t.ext K27).ext K28).ext E29).other W32 (Or.inl _a)).ext E38).other W39 (Or.inl _b)
     have _db := (((((_u.ext K27).ext K28).ext E29).other W32 (Or.inl _a)).ext E38).other W39 (Or.inl _b)
     exact Go.retN X40 hx hlk _Na (by simp) (hb hby d47_120) (by decide) (by decide) ⟨(nar .boolean (1 : Int32)), (t + (1 : Int64)), u, .null, (.ref fk_), (.ref nd), tk, rfl, N39, (by rw [e40]; exact _Ig), (by rw [e40]; exact _ud), (by rw [e40]; exact _Ia), (by rw [e40]; exact _cb), (by rw [e40]; exact _Hb), (by rw [e40]; exact _db), (by rw [e40]; exact _ja), (by rw [e40]; exact _Ca), (by rw [e40, ← own_setself lu hu]; exact _rd), (by rw [e40]; exact _td), (by rw [e40]; exact _Wb), Or.inr hN, ⟨(own_inc (Or.inr hq) hb1 hbd).2, Or.inr ⟨(own_inc (Or.inr hq) hb1 hbd).1, iu, Or.inl rfl⟩⟩, (own_inc (Or.inr hq) hb1 hbd).1, fun _ => rfl, fun q => absurd hq q⟩
    · --
     have _Bf := _Bc.ext E38
     have _Eb := _Bf.exa hxr
     obtain ⟨T42, X42, e42, _Jg⟩ := castY X38 hx hZ _d (qw hw 79 rfl) e38 (Ins.of_exa _Eb (qw hw 362 rfl)) (g := (mkF m 89 #[vR gr, vR fk_, vI kk, .val to, vR nd] [(.ref xr), (.int kk), (.ref nn)])) rfl rfl (hb hby d47_89)
     refine Go.st _Jg ?_
     have _Ra := _Qa.ext E38
     obtain ⟨_Kg, _Uc, q43, S43, M43, H43, G43⟩ := (id _Ra)
     have _Lg : ¬ (kk < 0 ∨ _Kg.slots.size ≤ (kk).toNatClampNeg) := inb_of S43 hk
     obtain ⟨T43, h43, X43, e43, W43, _Mg⟩ := stR X42 hx hZ e42 _Uc (j := kk) _Lg rfl (Sto.ofV _Uc q43 _Ld (Ins.of_exa _Eb (qw hw 362 rfl))) (g := (mkF m 92 #[vR gr, vR fk_, vI kk, .val to, vR nd] [(.ref xr), (.int kk), (.ref nn)])) rfl rfl (hb hby d47_92)
     refine Go.st _Mg ?_
     have _ac : Arv Z h43 nn _ya (.object s_b) (3 : Int32) (rs.set kk.toNatClampNeg (.ref xr)) .null := Arv.set _Uc q43 S43 M43 H43 G43 rfl W43 _ rfl lr
     have N43 := Fr.snoc X43 M38 _tc
     refine gs ?_ fun _ _k => XS.aload X43.here hx rfl (hb hby d47_93) rfl rfl _k
     have _G := (_q.ext E38).other W43 (Or.inl _S)
     obtain ⟨T44, X44, e44, _Ng⟩ := getF X43 hx hZ _d (host := "") (Or.inl (qw hw 372 rfl)) Via.refl e43 _G (g := (mkF m 95 #[vR gr, vR fk_, vI kk, .val to, vR nd] [(.ref nd)])) rfl rfl (hb hby d47_95)
     refine Go.st _Ng ?_
     refine gs ?_ fun _ _k => XS.iloadN X44.here hx rfl (hb hby d47_98) rfl _k
     obtain ⟨_Og, _Vc, q45, S45, M45, H45, G45⟩ := (id _ac)
     have _if : ¬ (kk < 0 ∨ _Og.slots.size ≤ (kk).toNatClampNeg) := inb_of S45 hk
     refine Go.st (X44.aaload hx (j := kk) (v := (.ref xr)) (by rw [e44]; exact _Vc.1) (State.isArrayOf_alike hZ.alike _Vc.2.1) rfl _Vc.2.2 _if (Has.at H45 _if (own_getset lr)) (g := (mkF m 99 #[vR gr, vR fk_, vI kk, .val to, vR nd] [(.int kk), (.ref nn)])) rfl rfl (hb hby d47_99)) ?_
     refine gs ?_ fun _ _k => XS.ifnullNo X44.here hx rfl (hb hby d47_100) rfl _k
     refine gs ?_ fun _ _k => XS.aloadN X44.here hx rfl (hb hby d47_103) rfl rfl _k
     refine gs ?_ fun _ _k => XS.aloadN X44.here hx rfl (hb hby d47_104) rfl (own_isRefK ikt) _k
     have _H := (((((_i.ext K27).ext K28).ext E29).other W32 (Or.inl _a)).ext E38).other W43 (Or.inl _b)
     have _bc := (((((_aa.ext K27).ext K28).ext E29).wr W32).ext E38).wr W43
     obtain ⟨T46, h46, X46, e46, W46, _Pg⟩ := putF X44 hx hZ _d (host := "") (Or.inl (qw hw 363 rfl)) Via.refl e44 _H _bc (Or.inl (qw hw 364 rfl)) (qw hw 1 rfl) (ty := (.object s_e)) (by decide) rfl (own_fitsK ikt) (g := (mkF m 105 #[vR gr, vR fk_, vI kk, .val to, vR nd] [to, (.ref gr)])) rfl rfl (hb hby d47_105)
     refine Go.st _Pg ?_
     have _ka : Fld Z h46 gr s_a "lastState" s_l to := _H.same W46
     have N46 := Fr.snoc X46 N43 _A
     refine gs ?_ fun _ _k => XS.aloadN X46.here hx rfl (hb hby d47_108) rfl rfl _k
     refine gs ?_ fun _ _k => XS.aload X46.here hx rfl (hb hby d47_109) rfl rfl _k
     have _oa := _G.other W46 (Or.inl _f)
     obtain ⟨T47, X47, e47, _Qg⟩ := getF X46 hx hZ _d (host := "") (Or.inl (qw hw 372 rfl)) Via.refl e46 _oa (g := (mkF m 111 #[vR gr, vR fk_, vI kk, .val to, vR nd] [(.ref nd), (.ref gr)])) rfl rfl (hb hby d47_111)
     refine Go.st _Qg ?_
     refine gs ?_ fun _ _k => XS.iloadN X47.here hx rfl (hb hby d47_114) rfl _k
     have _cc := _ac.other W46 (Ne.symm _b)
     obtain ⟨_Rg, _Wc, q48, S48, M48, H48, G48⟩ := (id _cc)
     have _jf : ¬ (kk < 0 ∨ _Rg.slots.size ≤ (kk).toNatClampNeg) := inb_of S48 hk
     refine Go.st (X47.aaload hx (j := kk) (v := (.ref xr)) (by rw [e47]; exact _Wc.1) (State.isArrayOf_alike hZ.alike _Wc.2.1) rfl _Wc.2.2 _jf (Has.at H48 _jf (own_getset lr)) (g := (mkF m 115 #[vR gr, vR fk_, vI kk, .val to, vR nd] [(.int kk), (.ref nn), (.ref gr)])) rfl rfl (hb hby d47_115)) ?_
     have _O := ((((((_j.ext K27).ext K28).ext E29).other W32 (Or.inl _a)).ext E38).other W43 (Or.inl _b)).other W46 (Or.inr (slot_ne (Or.inl (qw hw 344 rfl)) (Or.inl (qw hw 364 rfl)) (by decide) (t := (.object s_b)) (t' := (.object s_e)) (by decide) (by decide)))
     have _dc := _bc.wr W46
     obtain ⟨T49, h49, X49, e49, W49, _Sg⟩ := putF X47 hx hZ _d (host := "") (Or.inl (qw hw 343 rfl)) Via.refl e47 _O _dc (Or.inl (qw hw 344 rfl)) (qw hw 1 rfl) (ty := (.object s_b)) (by decide) rfl rfl (g := (mkF m 116 #[vR gr, vR fk_, vI kk, .val to, vR nd] [(.ref xr), (.ref gr)])) rfl rfl (hb hby d47_116)
     refine Go.st _Sg ?_
     have _Da : Fld Z h49 gr s_a "lastNode" s_o (.ref xr) := _O.same W49
     have N49 := Fr.snoc X49 N46 _A
     refine gs ?_ fun _ _k => XT.iconstV X49.here hx rfl (1 : Int32) (hb hby d47_119) (by decide) _k
     show Go p e s _h _ _ _ T49 (mkF m 120 #[vR gr, vR fk_, vI kk, .val to, vR nd] [(.int 1)])
     have _qa := _ka.other W49 (Or.inr (slot_ne (Or.inl (qw hw 364 rfl)) (Or.inl (qw hw 344 rfl)) (by decide) (t := (.object s_e)) (t' := (.object s_b)) (by decide) (by decide)))
     have _vd := ((((((_Pa.ext K28).ext E29).other W32 _C).ext E38).other W43 _K).other W46 (Ne.symm _c)).other W49 (Ne.symm _c)
     have _wd := (((_Vb.ext E38).other W43 _y).other W46 (Ne.symm _a)).other W49 (Ne.symm _a)
     have _yd := _cc.other W49 (Ne.symm _b)
     have _Tg := (((_Sc.ext E38).wr W43 (Or.inl (by simp))).wr W46 (Or.inl (by simp))).wr W49 (Or.inl (by simp))
     have _zd := _dc.wr W49
     have _Ja := (((((((_k.ext K27).ext K28).ext E29).other W32 (Or.inl _a)).ext E38).other W43 (Or.inl _b)).other W46 (Or.inr (slot_ne (Or.inr (qw hw 38 rfl)) (Or.inl (qw hw 364 rfl)) (by decide) (t := .int) (t' := (.object s_e)) (by decide) (by decide)))).other W49 (Or.inr (slot_ne (Or.inr (qw hw 38 rfl)) (Or.inl (qw hw 344 rfl)) (by decide) (t := .int) (t' := (.object s_b)) (by decide) (by decide)))
     have _fb := (((_D.ext E38).other W43 (Or.inl _b)).other W46 (Or.inr (slot_ne (Or.inr (qw hw 36 rfl)) (Or.inl (qw hw 364 rfl)) (by decide) (t := (.object "java/util/Map")) (t' := (.object s_e)) (by decide) (by decide)))).other W49 (Or.inr (slot_ne (Or.inr (qw hw 36 rfl)) (Or.inl (qw hw 344 rfl)) (by decide) (t := (.object "java/util/Map")) (t' := (.object s_b)) (by decide) (by decide)))
     have _Ib := (((((((_t.ext K27).ext K28).ext E29).other W32 (Or.inl _a)).ext E38).other W43 (Or.inl _b)).other W46 (Or.inr (slot_ne (Or.inl (qw hw 220 rfl)) (Or.inl (qw hw 364 rfl)) (by decide) (t := .int) (t' := (.object s_e)) (by decide) (by decide)))).other W49 (Or.inr (slot_ne (Or.inl (qw hw 220 rfl)) (Or.inl (qw hw 344 rfl)) (by decide) (t := .int) (t' := (.object s_b)) (by decide) (by decide)))
     have _gb := (((((((_u.ext K27).ext K28).ext E29).other W32 (Or.inl _a)).ext E38).other W43 (Or.inl _b)).other W46 (Or.inr (slot_ne (Or.inl (qw hw 236 rfl)) (Or.inl (qw hw 364 rfl)) (by decide) (t := .int) (t' := (.object s_e)) (by decide) (by decide)))).other W49 (Or.inr (slot_ne (Or.inl (qw hw 236 rfl)) (Or.inl (qw hw 344 rfl)) (by decide) (t := .int) (t' := (.object s_b)) (by decide) (by decide)))
     exact Go.retN X49 hx hlk _Na (by simp) (hb hby d47_120) (by decide) (by decide) ⟨(nar .boolean (1 : Int32)), (t + (1 : Int64)), u, (.ref xr), to, (.ref xr), tk, rfl, N49, (by rw [e49]; exact _Tg), (by rw [e49]; exact _zd), (by rw [e49]; exact _Ja), (by rw [e49]; exact _fb), (by rw [e49]; exact _Ib), (by rw [e49]; exact _gb), (by rw [e49]; exact _qa), (by rw [e49]; exact _Da), (by rw [e49, ← own_setself lu hu]; exact _vd), (by rw [e49]; exact _wd), (by rw [e49]; exact _yd), Or.inr hxr, ⟨(own_inc (Or.inr hq) hb1 hbd).2, Or.inr ⟨(own_inc (Or.inr hq) hb1 hbd).1, iu, Or.inr (heq.symm ▸ hxr)⟩⟩, (own_inc (Or.inr hq) hb1 hbd).1, fun _ => rfl, fun q => absurd hq q⟩
   · --
    obtain ⟨y1, x1, hy1, hx1⟩ := own_nref hn
    subst hx1
    refine gs ?_ fun _ _k => XS.aload X1.here hx rfl (hb hby d47_7) rfl rfl _k
    refine gs ?_ fun _ _k => XS.iloadN X1.here hx rfl (hb hby d47_9) rfl _k
    show Go p e s _h _ _ _ T1 (mkF m 10 #[vR gr, vR fk_, vI kk, .val to, vR nd] [(.int kk), (.ref nd)])
    have K_1 := K0.trans K1 (allS (Or.inl (by simp)) all0)
    have _o := _tb.keep K1
    have _g := _J.keep K1 (ninS _f nin0)
    have _v := _zc.keep K1 (ninS (Ne.symm _a) nin0)
    refine Go.callV (b := nd) (W := 0) (argsL := [(.int kk)]) (rest := []) X1 hx hZ _d (y := mn_59) (z := mn_59) (qw hw 365 rfl) (qw hw 366 rfl) (notFace_of_selects (args := #[]) (mvT hZ (qw hw 368 rfl))) (qw hw 368 rfl) (qw hw 367 rfl) (qw hw 81 rfl) (qw hw 369 rfl) (rmIT1 l Z a0 hw [] kk ts t nd tm _R h1 n0 (Nat.le_trans Z0 K_1.1) _o _g _v hk ht hq) e1 _o (by decide) (by rw [hml]; rfl) (lenOf pd31 rfl) (Nat.le_of_eq rfl) (hb hby d47_10) ?_
    intro T50 v50 L50 h50 e50 X50 _Ug
    obtain ⟨rfl, N50, K50⟩ := _Ug
    have M50 := Fr.app M1 N50
    refine gs ?_ fun _ _k => XS.ifYes X50.here hx rfl (pc0 := 13) (pc' := 37) rfl (hb hby d47_13) rfl ((if0 _ _).trans (feq (by decide)).2) (by decide) (by decide) _k
    refine gs ?_ fun _ _k => XS.aload X50.here hx rfl (hb hby d47_37) rfl rfl _k
    refine gs ?_ fun _ _k => XS.iloadN X50.here hx rfl (hb hby d47_39) rfl _k
    show Go p e s _h _ _ _ T50 (mkF m 40 #[vR gr, vR fk_, vI kk, .val to, vR nd] [(.int kk), (.ref nd)])
    have _kf := K_1.ext K50
    have _fc := _o.ext K50
    have _Jb := (_Q.keep K1 (ninS _f nin0)).ext K50
    have _gc := (_wc.keep K1 (ninS (Ne.symm _c) nin0)).ext K50
    refine Go.callV (b := nd) (W := 0) (argsL := [(.int kk)]) (rest := []) X50 hx hZ _d (y := mn_60) (z := mn_60) (qw hw 376 rfl) (qw hw 377 rfl) (notFace_of_selects (args := #[]) (mvT hZ (qw hw 379 rfl))) (qw hw 379 rfl) (qw hw 378 rfl) (qw hw 81 rfl) (qw hw 380 rfl) (rmNX l Z a0 hw [] kk us u nd nx _wa h50 n0 (Nat.le_trans Z0 _kf.1) _fc _Jb _gc _yc hk hu (own_isRefK iu)) e50 _fc (by decide) (by rw [hml]; rfl) (lenOf pd32 rfl) (Nat.le_of_eq rfl) (hb hby d47_40) ?_
    intro T51 v51 L51 h51 e51 X51 _Vg
    obtain ⟨rfl, N51, K51⟩ := _Vg
    have M51 := Fr.app M50 N51
    refine gs ?_ fun _ _k => XS.aloadN X51.here hx rfl (hb hby d47_43) rfl (own_isRefK ikt) _k
    show Go p e s _h _ _ _ T51 (mkF m 44 #[vR gr, vR fk_, vI kk, .val to, vR nd] [to, u])
    have _of := _kf.ext K51
    have _Cf := own_extE (own_extE (own_extK EZ K1 (allS (Nat.le_trans ZN _A) all0)) K50) K51
    refine Go.callS (W := 0) (argsL := [u, to]) (rest := []) X51 hx hZ _d (y := mn_23) (qw hw 373 rfl) (qw hw 374 rfl) (qw hw 324 rfl) (qw hw 375 rfl) (rmOM l Z a0 hw [] ka kb kc h51 n0 (Nat.le_trans Z0 _of.1) (BK.ext _Cf) nab nac nbc u to iu ikt) e51 (by decide) (by rw [hml]; rfl) (lenOf pd29 rfl) (Nat.le_of_eq rfl) (hb hby d47_44) ?_
    intro T52 v52 L52 h52 e52 X52 _Wg
    obtain ⟨z52, rfl, _ah, _Dh, N52, E52⟩ := _Wg
    obtain rfl := (_ah heq)
    have M52 := Fr.app M51 N52
    refine gs ?_ fun _ _k => XS.ifYes X52.here hx rfl (pc0 := 47) (pc' := 52) rfl (hb hby d47_47) rfl ((if0 _ _).trans (feq (by decide : ¬ ((1 : Int32) = (0 : Int32)))).2) (by decide) (by decide) _k
    refine gs ?_ fun _ _k => XS.aload X52.here hx rfl (hb hby d47_52) rfl rfl _k
    have _hb := ((_g.ext K50).ext K51).ext E52
    obtain ⟨T53, X53, e53, _bh⟩ := getF X52 hx hZ _d (host := "") (Or.inl (qw hw 371 rfl)) Via.refl e52 _hb (g := (mkF m 54 #[vR gr, vR fk_, vI kk, .val to, vR nd] [(.ref nd)])) rfl rfl (hb hby d47_54)
    refine Go.st _bh ?_
    refine gs ?_ fun _ _k => XS.iloadN X53.here hx rfl (hb hby d47_57) rfl _k
    refine gs ?_ fun _ _k => XT.dup2 X53.here hx rfl (hb hby d47_58) rfl rfl rfl _k
    have _hc := ((_v.ext K50).ext K51).ext E52
    obtain ⟨_ch, _ad, q54, S54, M54, H54, G54⟩ := (id _hc)
    have _qf : ¬ (kk < 0 ∨ _ch.slots.size ≤ (kk).toNatClampNeg) := inb_of S54 hk
    refine Go.st (X53.laload hx (j := kk) (v := (.long t)) (by rw [e53]; exact _ad.1) (State.isArrayOf_alike hZ.alike _ad.2.1) _ad.2.2 _qf (Has.at H54 _qf ht) (g := (mkF m 59 #[vR gr, vR fk_, vI kk, .val to, vR nd] [(.int kk), (.ref tm), (.int kk), (.ref tm)])) rfl rfl (hb hby d47_59)) ?_
    refine gs ?_ fun _ _k => XT.lconstV X53.here hx rfl (1 : Int64) (hb hby d47_60) (by decide) _k
    refine gs ?_ fun _ _k => XS.ladd X53.here hx rfl (hb hby d47_61) rfl _k
    obtain ⟨_dh, _rf, q55, S55, M55, H55, G55⟩ := (id _hc)
    have _fh : ¬ (kk < 0 ∨ _dh.slots.size ≤ (kk).toNatClampNeg) := inb_of S55 hk
    obtain ⟨T55, h55, X55, e55, W55, _gh⟩ := stJ X53 hx hZ e53 _rf (j := kk) _fh (g := (mkF m 62 #[vR gr, vR fk_, vI kk, .val to, vR nd] [(.long (t + (1 : Int64))), (.int kk), (.ref tm)])) rfl rfl (hb hby d47_62)
    refine Go.st _gh ?_
    have _Ad : Arv Z h55 tm _R .long (3 : Int32) (ts.set kk.toNatClampNeg (.long (t + (1 : Int64)))) (.long 0) := Arv.set _rf q55 S55 M55 H55 G55 rfl W55 _ rfl lt
    have N55 := Fr.snoc X55 M52 _qb
    refine gs ?_ fun _ _k => XS.aload X55.here hx rfl (hb hby d47_63) rfl rfl _k
    have _w := ((((_B.keep K1 (ninS _f nin0)).ext K50).ext K51).ext E52).other W55 (Or.inl _za)
    obtain ⟨T56, X56, e56, _hh⟩ := getF X55 hx hZ _d (host := "") (Or.inl (qw hw 372 rfl)) Via.refl e55 _w (g := (mkF m 65 #[vR gr, vR fk_, vI kk, .val to, vR nd] [(.ref nd)])) rfl rfl (hb hby d47_65)
    refine Go.st _hh ?_
    refine gs ?_ fun _ _k => XS.iloadN X56.here hx rfl (hb hby d47_68) rfl _k
    have _Sa := ((((_Ac.keep K1 (ninS (Ne.symm _b) nin0)).ext K50).ext K51).ext E52).other W55 (Ne.symm _y)
    obtain ⟨_ih, _bd, q57, S57, M57, H57, G57⟩ := (id _Sa)
    have _tf : ¬ (kk < 0 ∨ _ih.slots.size ≤ (kk).toNatClampNeg) := inb_of S57 hk
    refine Go.st (X56.aaload hx (j := kk) (v := (.ref x1)) (by rw [e56]; exact _bd.1) (State.isArrayOf_alike hZ.alike _bd.2.1) rfl _bd.2.2 _tf (Has.at H57 _tf hr) (g := (mkF m 69 #[vR gr, vR fk_, vI kk, .val to, vR nd] [(.int kk), (.ref nn)])) rfl rfl (hb hby d47_69)) ?_
    refine gs ?_ fun _ _k => XS.ifnonnullYes X56.here hx rfl (pc0 := 70) (pc' := 93) rfl (hb hby d47_70) rfl (by decide) (by decide) _k
    refine gs ?_ fun _ _k => XS.aload X56.here hx rfl (hb hby d47_93) rfl rfl _k
    obtain ⟨T58, X58, e58, _jh⟩ := getF X56 hx hZ _d (host := "") (Or.inl (qw hw 372 rfl)) Via.refl e56 _w (g := (mkF m 95 #[vR gr, vR fk_, vI kk, .val to, vR nd] [(.ref nd)])) rfl rfl (hb hby d47_95)
    refine Go.st _jh ?_
    refine gs ?_ fun _ _k => XS.iloadN X58.here hx rfl (hb hby d47_98) rfl _k
    obtain ⟨_kh, _cd, q59, S59, M59, H59, G59⟩ := (id _Sa)
    have _uf : ¬ (kk < 0 ∨ _kh.slots.size ≤ (kk).toNatClampNeg) := inb_of S59 hk
    refine Go.st (X58.aaload hx (j := kk) (v := (.ref x1)) (by rw [e58]; exact _cd.1) (State.isArrayOf_alike hZ.alike _cd.2.1) rfl _cd.2.2 _uf (Has.at H59 _uf hr) (g := (mkF m 99 #[vR gr, vR fk_, vI kk, .val to, vR nd] [(.int kk), (.ref nn)])) rfl rfl (hb hby d47_99)) ?_
    refine gs ?_ fun _ _k => XS.ifnullNo X58.here hx rfl (hb hby d47_100) rfl _k
    refine gs ?_ fun _ _k => XS.aloadN X58.here hx rfl (hb hby d47_103) rfl rfl _k
    refine gs ?_ fun _ _k => XS.aloadN X58.here hx rfl (hb hby d47_104) rfl (own_isRefK ikt) _k
    have _I := (((_i.ext K50).ext K51).ext E52).other W55 (Or.inl _a)
    have _ic := (((_aa.ext K50).ext K51).ext E52).wr W55
    obtain ⟨T60, h60, X60, e60, W60, _oh⟩ := putF X58 hx hZ _d (host := "") (Or.inl (qw hw 363 rfl)) Via.refl e58 _I _ic (Or.inl (qw hw 364 rfl)) (qw hw 1 rfl) (ty := (.object s_e)) (by decide) rfl (own_fitsK ikt) (g := (mkF m 105 #[vR gr, vR fk_, vI kk, .val to, vR nd] [to, (.ref gr)])) rfl rfl (hb hby d47_105)
    refine Go.st _oh ?_
    have _ra : Fld Z h60 gr s_a "lastState" s_l to := _I.same W60
    have N60 := Fr.snoc X60 N55 _A
    refine gs ?_ fun _ _k => XS.aloadN X60.here hx rfl (hb hby d47_108) rfl rfl _k
    refine gs ?_ fun _ _k => XS.aload X60.here hx rfl (hb hby d47_109) rfl rfl _k
    have _ta := _w.other W60 (Or.inl _f)
    obtain ⟨T61, X61, e61, _qh⟩ := getF X60 hx hZ _d (host := "") (Or.inl (qw hw 372 rfl)) Via.refl e60 _ta (g := (mkF m 111 #[vR gr, vR fk_, vI kk, .val to, vR nd] [(.ref nd), (.ref gr)])) rfl rfl (hb hby d47_111)
    refine Go.st _qh ?_
    refine gs ?_ fun _ _k => XS.iloadN X61.here hx rfl (hb hby d47_114) rfl _k
    have _jc := _Sa.other W60 (Ne.symm _b)
    obtain ⟨_rh, _dd, q62, S62, M62, H62, G62⟩ := (id _jc)
    have _vf : ¬ (kk < 0 ∨ _rh.slots.size ≤ (kk).toNatClampNeg) := inb_of S62 hk
    refine Go.st (X61.aaload hx (j := kk) (v := (.ref x1)) (by rw [e61]; exact _dd.1) (State.isArrayOf_alike hZ.alike _dd.2.1) rfl _dd.2.2 _vf (Has.at H62 _vf hr) (g := (mkF m 115 #[vR gr, vR fk_, vI kk, .val to, vR nd] [(.int kk), (.ref nn), (.ref gr)])) rfl rfl (hb hby d47_115)) ?_
    have _P := ((((_j.ext K50).ext K51).ext E52).other W55 (Or.inl _a)).other W60 (Or.inr (slot_ne (Or.inl (qw hw 344 rfl)) (Or.inl (qw hw 364 rfl)) (by decide) (t := (.object s_b)) (t' := (.object s_e)) (by decide) (by decide)))
    have _kc := _ic.wr W60
    obtain ⟨T63, h63, X63, e63, W63, _th⟩ := putF X61 hx hZ _d (host := "") (Or.inl (qw hw 343 rfl)) Via.refl e61 _P _kc (Or.inl (qw hw 344 rfl)) (qw hw 1 rfl) (ty := (.object s_b)) (by decide) rfl rfl (g := (mkF m 116 #[vR gr, vR fk_, vI kk, .val to, vR nd] [(.ref x1), (.ref gr)])) rfl rfl (hb hby d47_116)
    refine Go.st _th ?_
    have _Ea : Fld Z h63 gr s_a "lastNode" s_o (.ref x1) := _P.same W63
    have N63 := Fr.snoc X63 N60 _A
    refine gs ?_ fun _ _k => XT.iconstV X63.here hx rfl (1 : Int32) (hb hby d47_119) (by decide) _k
    show Go p e s _h _ _ _ T63 (mkF m 120 #[vR gr, vR fk_, vI kk, .val to, vR nd] [(.int 1)])
    have _ua := _ra.other W63 (Or.inr (slot_ne (Or.inl (qw hw 364 rfl)) (Or.inl (qw hw 344 rfl)) (by decide) (t := (.object s_e)) (t' := (.object s_b)) (by decide) (by decide)))
    have _Bd := ((((_gc.ext K51).ext E52).other W55 _C).other W60 (Ne.symm _c)).other W63 (Ne.symm _c)
    have _Cd := (_Ad.other W60 (Ne.symm _a)).other W63 (Ne.symm _a)
    have _Dd := _jc.other W63 (Ne.symm _b)
    have _uh := (((_of.ext E52).wr W55 (Or.inl (by simp))).wr W60 (Or.inl (by simp))).wr W63 (Or.inl (by simp))
    have _Ed := _kc.wr W63
    have _Ka := (((((_k.ext K50).ext K51).ext E52).other W55 (Or.inl _a)).other W60 (Or.inr (slot_ne (Or.inr (qw hw 38 rfl)) (Or.inl (qw hw 364 rfl)) (by decide) (t := .int) (t' := (.object s_e)) (by decide) (by decide)))).other W63 (Or.inr (slot_ne (Or.inr (qw hw 38 rfl)) (Or.inl (qw hw 344 rfl)) (by decide) (t := .int) (t' := (.object s_b)) (by decide) (by decide)))
    have _ib := (((((_z.ext K50).ext K51).ext E52).other W55 (Or.inl _a)).other W60 (Or.inr (slot_ne (Or.inr (qw hw 36 rfl)) (Or.inl (qw hw 364 rfl)) (by decide) (t := (.object "java/util/Map")) (t' := (.object s_e)) (by decide) (by decide)))).other W63 (Or.inr (slot_ne (Or.inr (qw hw 36 rfl)) (Or.inl (qw hw 344 rfl)) (by decide) (t := (.object "java/util/Map")) (t' := (.object s_b)) (by decide) (by decide)))
    have _Kb := (((((_t.ext K50).ext K51).ext E52).other W55 (Or.inl _a)).other W60 (Or.inr (slot_ne (Or.inl (qw hw 220 rfl)) (Or.inl (qw hw 364 rfl)) (by decide) (t := .int) (t' := (.object s_e)) (by decide) (by decide)))).other W63 (Or.inr (slot_ne (Or.inl (qw hw 220 rfl)) (Or.inl (qw hw 344 rfl)) (by decide) (t := .int) (t' := (.object s_b)) (by decide) (by decide)))
    have _jb := (((((_u.ext K50).ext K51).ext E52).other W55 (Or.inl _a)).other W60 (Or.inr (slot_ne (Or.inl (qw hw 236 rfl)) (Or.inl (qw hw 364 rfl)) (by decide) (t := .int) (t' := (.object s_e)) (by decide) (by decide)))).other W63 (Or.inr (slot_ne (Or.inl (qw hw 236 rfl)) (Or.inl (qw hw 344 rfl)) (by decide) (t := .int) (t' := (.object s_b)) (by decide) (by decide)))
    exact Go.retN X63 hx hlk _Na (by simp) (hb hby d47_120) (by decide) (by decide) ⟨(nar .boolean (1 : Int32)), (t + (1 : Int64)), u, (.ref x1), to, (.ref x1), tk, rfl, N63, (by rw [e63]; exact _uh), (by rw [e63]; exact _Ed), (by rw [e63]; exact _Ka), (by rw [e63]; exact _ib), (by rw [e63]; exact _Kb), (by rw [e63]; exact _jb), (by rw [e63]; exact _ua), (by rw [e63]; exact _Ea), (by rw [e63, ← own_setself lu hu]; exact _Bd), (by rw [e63]; exact _Cd), (by rw [e63, ← own_setself lr hr]; exact _Dd), Or.inr (heq ▸ hn), ⟨(own_inc (Or.inr hq) hb1 hbd).2, Or.inr ⟨(own_inc (Or.inr hq) hb1 hbd).1, iu, Or.inr hn⟩⟩, (own_inc (Or.inr hq) hb1 hbd).1, fun _ => rfl, fun q => absurd hq q⟩
  · --
   refine gs ?_ fun _ _k => XS.aload X1.here hx rfl (hb hby d47_7) rfl rfl _k
   refine gs ?_ fun _ _k => XS.iloadN X1.here hx rfl (hb hby d47_9) rfl _k
   show Go p e s _h _ _ _ T1 (mkF m 10 #[vR gr, vR fk_, vI kk, .val to, vR nd] [(.int kk), (.ref nd)])
   have K_1 := K0.trans K1 (allS (Or.inl (by simp)) all0)
   have _o := _tb.keep K1
   have _g := _J.keep K1 (ninS _f nin0)
   have _v := _zc.keep K1 (ninS (Ne.symm _a) nin0)
   refine Go.callV (b := nd) (W := 0) (argsL := [(.int kk)]) (rest := []) X1 hx hZ _d (y := mn_59) (z := mn_59) (qw hw 365 rfl) (qw hw 366 rfl) (notFace_of_selects (args := #[]) (mvT hZ (qw hw 368 rfl))) (qw hw 368 rfl) (qw hw 367 rfl) (qw hw 81 rfl) (qw hw 369 rfl) (rmIT1 l Z a0 hw [] kk ts t nd tm _R h1 n0 (Nat.le_trans Z0 K_1.1) _o _g _v hk ht hq) e1 _o (by decide) (by rw [hml]; rfl) (lenOf pd31 rfl) (Nat.le_of_eq rfl) (hb hby d47_10) ?_
   intro T64 v64 L64 h64 e64 X64 _vh
   obtain ⟨rfl, N64, K64⟩ := _vh
   have M64 := Fr.app M1 N64
   refine gs ?_ fun _ _k => XS.ifYes X64.here hx rfl (pc0 := 13) (pc' := 37) rfl (hb hby d47_13) rfl ((if0 _ _).trans (feq (by decide)).2) (by decide) (by decide) _k
   refine gs ?_ fun _ _k => XS.aload X64.here hx rfl (hb hby d47_37) rfl rfl _k
   refine gs ?_ fun _ _k => XS.iloadN X64.here hx rfl (hb hby d47_39) rfl _k
   show Go p e s _h _ _ _ T64 (mkF m 40 #[vR gr, vR fk_, vI kk, .val to, vR nd] [(.int kk), (.ref nd)])
   have _wf := K_1.ext K64
   have _oc := _o.ext K64
   have _Lb := (_Q.keep K1 (ninS _f nin0)).ext K64
   have _qc := (_wc.keep K1 (ninS (Ne.symm _c) nin0)).ext K64
   refine Go.callV (b := nd) (W := 0) (argsL := [(.int kk)]) (rest := []) X64 hx hZ _d (y := mn_60) (z := mn_60) (qw hw 376 rfl) (qw hw 377 rfl) (notFace_of_selects (args := #[]) (mvT hZ (qw hw 379 rfl))) (qw hw 379 rfl) (qw hw 378 rfl) (qw hw 81 rfl) (qw hw 380 rfl) (rmNX l Z a0 hw [] kk us u nd nx _wa h64 n0 (Nat.le_trans Z0 _wf.1) _oc _Lb _qc _yc hk hu (own_isRefK iu)) e64 _oc (by decide) (by rw [hml]; rfl) (lenOf pd32 rfl) (Nat.le_of_eq rfl) (hb hby d47_40) ?_
   intro T65 v65 L65 h65 e65 X65 _wh
   obtain ⟨rfl, N65, K65⟩ := _wh
   have M65 := Fr.app M64 N65
   refine gs ?_ fun _ _k => XS.aloadN X65.here hx rfl (hb hby d47_43) rfl (own_isRefK ikt) _k
   show Go p e s _h _ _ _ T65 (mkF m 44 #[vR gr, vR fk_, vI kk, .val to, vR nd] [to, u])
   have _yf := _wf.ext K65
   have _Df := own_extE (own_extE (own_extK EZ K1 (allS (Nat.le_trans ZN _A) all0)) K64) K65
   refine Go.callS (W := 0) (argsL := [u, to]) (rest := []) X65 hx hZ _d (y := mn_23) (qw hw 373 rfl) (qw hw 374 rfl) (qw hw 324 rfl) (qw hw 375 rfl) (rmOM l Z a0 hw [] ka kb kc h65 n0 (Nat.le_trans Z0 _yf.1) (BK.ext _Df) nab nac nbc u to iu ikt) e65 (by decide) (by rw [hml]; rfl) (lenOf pd29 rfl) (Nat.le_of_eq rfl) (hb hby d47_44) ?_
   intro T66 v66 L66 h66 e66 X66 _yh
   obtain ⟨z66, rfl, _Eh, _zh, N66, E66⟩ := _yh
   obtain rfl := (_zh heq)
   have M66 := Fr.app M65 N66
   refine gs ?_ fun _ _k => XS.ifNo X66.here hx rfl (hb hby d47_47) rfl ((if0 _ _).trans (teq rfl).2) _k
   refine gs ?_ fun _ _k => XT.iconstV X66.here hx rfl (0 : Int32) (hb hby d47_50) (by decide) _k
   show Go p e s _h _ _ _ T66 (mkF m 51 #[vR gr, vR fk_, vI kk, .val to, vR nd] [(.int 0)])
   have _va := ((_i.ext K64).ext K65).ext E66
   have _Fa := ((_j.ext K64).ext K65).ext E66
   have _Fd := (_qc.ext K65).ext E66
   have _Gd := ((_v.ext K64).ext K65).ext E66
   have _Hd := (((_Ac.keep K1 (ninS (Ne.symm _b) nin0)).ext K64).ext K65).ext E66
   have _Ah := _yf.ext E66
   have _Id := ((_aa.ext K64).ext K65).ext E66
   have _La := ((_k.ext K64).ext K65).ext E66
   have _kb := ((_z.ext K64).ext K65).ext E66
   have _Mb := ((_t.ext K64).ext K65).ext E66
   have _ob := ((_u.ext K64).ext K65).ext E66
   exact Go.retN X66 hx hlk _Na (by simp) (hb hby d47_51) (by decide) (by decide) ⟨(nar .boolean (0 : Int32)), t, u, r, (.ref fk_), (.ref nd), tk, rfl, M66, (by rw [e66]; exact _Ah), (by rw [e66]; exact _Id), (by rw [e66]; exact _La), (by rw [e66]; exact _kb), (by rw [e66]; exact _Mb), (by rw [e66]; exact _ob), (by rw [e66]; exact _va), (by rw [e66]; exact _Fa), (by rw [e66, ← own_setself lu hu]; exact _Fd), (by rw [e66, ← own_setself lt ht]; exact _Gd), (by rw [e66, ← own_setself lr hr]; exact _Hd), Or.inr hN, hA.up, hq, fun _ => rfl, fun q => absurd hq q⟩
def GrB (Z : State) (h : Heap) (two : Bool) (gr : Addr) (mp : Addr) (ka : Addr) (kb : Addr) (va : Addr) (vb : Addr) (ac : Int32) (tk : Int32) : Prop := ∃ (ls : Value) (ln : Value), Exa Z h gr s_a ∧ Fld Z h gr s_a "stimuli" "I" (.int 3) ∧ Fld Z h gr s_a "nodes" "Ljava/util/Map;" (.ref mp) ∧ Fld Z h gr s_a "arcs" "I" (.int ac) ∧ Fld Z h gr s_a "taken" "I" (.int tk) ∧ Fld Z h gr s_a "lastState" s_l ls ∧ Fld Z h gr s_a "lastNode" s_o ln ∧ LSok two ka kb va vb ls ln
theorem GrB.ext {Z : State} {h h' : Heap} {two : Bool} {gr : Addr} {mp : Addr} {ka : Addr} {kb : Addr} {va : Addr} {vb : Addr} {ac : Int32} {tk : Int32} (F : GrB Z h two gr mp ka kb va vb ac tk) (E : Ext h h') : GrB Z h' two gr mp ka kb va vb ac tk := by obtain ⟨ls, ln, q0, q1, q2, q3, q4, q5, q6, q7⟩ := F; exact ⟨ls, ln, q0.ext E, q1.ext E, q2.ext E, q3.ext E, q4.ext E, q5.ext E, q6.ext E, q7⟩
theorem GrB.keep {Z : State} {h h' : Heap} {ws : List Addr} {two : Bool} {gr : Addr} {mp : Addr} {ka : Addr} {kb : Addr} {va : Addr} {vb : Addr} {ac : Int32} {tk : Int32} (F : GrB Z h two gr mp ka kb va vb ac tk) (K : Keep h h' ws) (n_gr : gr ∉ ws) : GrB Z h' two gr mp ka kb va vb ac tk := by obtain ⟨ls, ln, q0, q1, q2, q3, q4, q5, q6, q7⟩ := F; exact ⟨ls, ln, q0.keep K, q1.keep K n_gr, q2.keep K n_gr, q3.keep K n_gr, q4.keep K n_gr, q5.keep K n_gr, q6.keep K n_gr, q7⟩
def NodB (Z : State) (h : Heap) (two : Bool) (nd : Addr) (nx : Addr) (tm : Addr) (nn : Addr) (k_nx : ClassId) (k_tm : ClassId) (k_nn : ClassId) (ka : Addr) (kb : Addr) (kc : Addr) (va : Addr) (vb : Addr) (d : Nat) (b : Nat) : Prop := ∃ (ta : Int64) (tb_ : Int64) (tc : Int64) (ua : Value) (ub : Value) (uc : Value) (wa : Value) (wb : Value) (wc : Value), Exa Z h nd s_b ∧ Fld Z h nd s_b "next" s_k (.ref nx) ∧ Fld Z h nd s_b "times" "[J" (.ref tm) ∧ Fld Z h nd s_b "nextNodes" s_z (.ref nn) ∧ Arv Z h nx k_nx (.object s_e) (3 : Int32) [ua, ub, uc] .null ∧ Ovr Z k_nx s_e ∧ Arv Z h tm k_tm .long (3 : Int32) [(.long ta), (.long tb_), (.long tc)] (.long 0) ∧ Arv Z h nn k_nn (.object s_b) (3 : Int32) [wa, wb, wc] .null ∧ Ovr Z k_nn s_b ∧ ArcOK two ka kb kc va vb b ta ua wa ∧ ArcOK two ka kb kc va vb b tb_ ub wb ∧ ArcOK two ka kb kc va vb b tc uc wc ∧ d = own_bt ta + 2 * own_bt tb_ + 4 * own_bt tc
theorem NodB.ext {Z : State} {h h' : Heap} {two : Bool} {nd : Addr} {nx : Addr} {tm : Addr} {nn : Addr} {k_nx : ClassId} {k_tm : ClassId} {k_nn : ClassId} {ka : Addr} {kb : Addr} {kc : Addr} {va : Addr} {vb : Addr} {d : Nat} {b : Nat} (F : NodB Z h two nd nx tm nn k_nx k_tm k_nn ka kb kc va vb d b) (E : Ext h h') : NodB Z h' two nd nx tm nn k_nx k_tm k_nn ka kb kc va vb d b := by obtain ⟨ta, tb_, tc, ua, ub, uc, wa, wb, wc, q0, q1, q2, q3, q4, q5, q6, q7, q8, q9, q10, q11, q12⟩ := F; exact ⟨ta, tb_, tc, ua, ub, uc, wa, wb, wc, q0.ext E, q1.ext E, q2.ext E, q3.ext E, q4.ext E, q5, q6.ext E, q7.ext E, q8, q9, q10, q11, q12⟩
theorem NodB.keep {Z : State} {h h' : Heap} {ws : List Addr} {two : Bool} {nd : Addr} {nx : Addr} {tm : Addr} {nn : Addr} {k_nx : ClassId} {k_tm : ClassId} {k_nn : ClassId} {ka : Addr} {kb : Addr} {kc : Addr} {va : Addr} {vb : Addr} {d : Nat} {b : Nat} (F : NodB Z h two nd nx tm nn k_nx k_tm k_nn ka kb kc va vb d b) (K : Keep h h' ws) (n_nd : nd ∉ ws) (n_nx : nx ∉ ws) (n_tm : tm ∉ ws) (n_nn : nn ∉ ws) : NodB Z h' two nd nx tm nn k_nx k_tm k_nn ka kb kc va vb d b := by obtain ⟨ta, tb_, tc, ua, ub, uc, wa, wb, wc, q0, q1, q2, q3, q4, q5, q6, q7, q8, q9, q10, q11, q12⟩ := F; exact ⟨ta, tb_, tc, ua, ub, uc, wa, wb, wc, q0.keep K, q1.keep K n_nd, q2.keep K n_nd, q3.keep K n_nd, q4.keep K n_nx, q5, q6.keep K n_tm, q7.keep K n_nn, q8, q9, q10, q11, q12⟩
theorem NodB.up {Z : State} {h : Heap} {two : Bool} {nd : Addr} {nx : Addr} {tm : Addr} {nn : Addr} {k_nx : ClassId} {k_tm : ClassId} {k_nn : ClassId} {ka : Addr} {kb : Addr} {kc : Addr} {va : Addr} {vb : Addr} {d : Nat} {b : Nat} (F : NodB Z h two nd nx tm nn k_nx k_tm k_nn ka kb kc va vb d b) : NodB Z h two nd nx tm nn k_nx k_tm k_nn ka kb kc va vb d (b + 1) := by obtain ⟨ta, tb_, tc, ua, ub, uc, wa, wb, wc, E_nd, F_next_nd, F_times_nd, F_nextNodes_nd, V_nx, O_nx, V_tm, V_nn, O_nn, hA, hB, hC, hd⟩ := F; exact ⟨ta, tb_, tc, ua, ub, uc, wa, wb, wc, E_nd, F_next_nd, F_times_nd, F_nextNodes_nd, V_nx, O_nx, V_tm, V_nn, O_nn, hA.up, hB.up, hC.up, hd⟩
theorem NodB.to2 {Z : State} {h : Heap} {nd : Addr} {nx : Addr} {tm : Addr} {nn : Addr} {k_nx : ClassId} {k_tm : ClassId} {k_nn : ClassId} {ka : Addr} {kb : Addr} {kc : Addr} {va : Addr} {vb : Addr} {d : Nat} {b : Nat} (F : NodB Z h false nd nx tm nn k_nx k_tm k_nn ka kb kc va va d b) : NodB Z h true nd nx tm nn k_nx k_tm k_nn ka kb kc va vb d b := by obtain ⟨ta, tb_, tc, ua, ub, uc, wa, wb, wc, E_nd, F_next_nd, F_times_nd, F_nextNodes_nd, V_nx, O_nx, V_tm, V_nn, O_nn, hA, hB, hC, hd⟩ := F; exact ⟨ta, tb_, tc, ua, ub, uc, wa, wb, wc, E_nd, F_next_nd, F_times_nd, F_nextNodes_nd, V_nx, O_nx, V_tm, V_nn, O_nn, hA.to2, hB.to2, hC.to2, hd⟩
theorem GrB.to2 {Z : State} {h : Heap} {gr : Addr} {mp : Addr} {ka : Addr} {kb : Addr} {va : Addr} {vb : Addr} {ac : Int32} {tk : Int32} (F : GrB Z h false gr mp ka kb va va ac tk) : GrB Z h true gr mp ka kb va vb ac tk := by obtain ⟨ls, ln, E_gr, F_stimuli_gr, F_nodes_gr, F_arcs_gr, F_taken_gr, F_lastState_gr, F_lastNode_gr, hLS⟩ := F; exact ⟨ls, ln, E_gr, F_stimuli_gr, F_nodes_gr, F_arcs_gr, F_taken_gr, F_lastState_gr, F_lastNode_gr, hLS.to2⟩
theorem rmTKM0 (l : Launch) (Z : State) (a0 : Array Value) (hw : HW a0 Z) (ws : List Jvm.Cond) (two : Bool) (mp : Addr) (tb : Addr) (ea : Addr) (eb : Addr) (_ca : ClassId) (ka : Addr) (kb : Addr) (va : Addr) (vb : Addr) (kc : Addr) (ac : Int32) (fk_ : Addr) (to : Value) (b : Nat) (d : Nat) (q : Nat) (gr : Addr) (nd : Addr) (nx : Addr) (tm : Addr) (nn : Addr) (_A : ClassId) (_B : ClassId) (_C : ClassId) (h0 : Heap) (n0 : Nat) (Z0 : n0 ≤ h0.size) (ZN : Z.heap.size ≤ n0) (EZ : Ext Z.heap h0) (_oa : n0 ≤ gr) (_qa : n0 ≤ nx) (_ra : n0 ≤ tm) (_ta : n0 ≤ nn) (GR : GrB Z h0 two gr mp ka kb va vb ac (Int32.ofNat (own_pop d + q))) (NA : NodB Z h0 two nd nx tm nn _A _B _C ka kb kc va vb d b) (MK : MapOK Z h0 two mp tb ea eb _ca ka kb va vb) (_D : gr ≠ nx) (_E : gr ≠ tm) (_F : gr ≠ nn) (_b : nd ≠ gr) (_c : nd ≠ nx) (_d : nd ≠ tm) (_f : nd ≠ nn) (_G : nx ≠ tm) (_H : nx ≠ nn) (_I : tm ≠ nn) (_J : mp ≠ gr) (_K : mp ≠ nx) (_L : mp ≠ tm) (_M : mp ≠ nn) (_N : tb ≠ gr) (_O : tb ≠ nx) (_P : tb ≠ tm) (_Q : tb ≠ nn) (_R : ea ≠ gr) (_S : ea ≠ nx) (_T : ea ≠ tm) (_U : ea ≠ nn) (_V : eb ≠ gr) (_W : eb ≠ nx) (_aa : eb ≠ tm) (_ba : eb ≠ nn) (BK : BXK Z Z.heap ka kb kc) (nab : ¬ ka = kb) (nac : ¬ ka = kc) (nbc : ¬ kb = kc) (hN : NodeOf two ka kb va vb (.ref fk_) (.ref nd)) (ikt : IsK ka kb kc to) (hbd : b < 100) :
    Meets l Z mn_63 prog_31_method_7_code 5 (some .boolean) ({ frames := 6, cells := 0, slots := 0, locals := 86 } : Room) ws #[.ref gr, .ref fk_, .int (0 : Int32), to] h0 (fun v h L => ∃ z : Int32, v = some (.int z) ∧ Fr n0 L ∧ Keep h0 h [gr, nx, tm, nn] ∧ GrB Z h two gr mp ka kb va vb ac (Int32.ofNat (own_pop (own_sb 0 d) + q)) ∧ NodB Z h two nd nx tm nn _A _B _C ka kb kc va vb (own_sb 0 d) (b + 1)) := by
  obtain ⟨ls, ln, _ua, _r, _v, _z, _w, _i, _o, hLS⟩ := GR
  obtain ⟨ta, tb_, tc, ua, ub, uc, wa, wb, wc, _da, _k, _g, _a, _va, _fa, _wa, _ya, _ga, hA, hB, hC, hd⟩ := NA
  subst hd
  refine Meets.mono (rmTK l Z a0 hw ws two mp tb ea eb _ca ka kb va vb kc ac _ fk_ ls ln to b (0 : Int32) _ _ _ ta ua wa gr nd nx tm nn _A _B _C h0 n0 Z0 ZN EZ _oa _qa _ra _ta _ua _r _v _z _w _i _o _da _k _g _a _va _fa _wa _ya _ga MK _D _E _F _b _c _d _f _G _H _I _J _K _L _M _N _O _P _Q _R _S _T _U _V _W _aa _ba BK nab nac nbc hN hLS ikt hbd (by decide) rfl rfl rfl (by show _ < 3; decide) (by show _ < 3; decide) (by show _ < 3; decide) hA) (fun v h L hq => ?_)
  obtain ⟨z, t1, u1, r1, ls1, ln1, tk1, hv, hF, hK, _ha, _q, _t, _y, _u, _h, _j, _ia, _ja, _ka, _za, hA1, hp, e1, e2⟩ := hq
  have e : tk1 = Int32.ofNat (own_pop (own_sb 0 (own_bt ta + 2 * own_bt tb_ + 4 * own_bt tc)) + q) := by
    rw [own_sb0 (own_bt_le ta) (own_bt_le tb_) (own_bt_le tc), own_pop3 (Nat.le_refl 1) (own_bt_le tb_) (own_bt_le tc)]
    by_cases hc : 0 < ta
    · rw [e1 hc, own_pop3 (own_bt_le ta) (own_bt_le tb_) (own_bt_le tc), own_bt_pos hc]
    · rw [e2 hc, own_pop3 (own_bt_le ta) (own_bt_le tb_) (own_bt_le tc), own_bt_neg hc, own_ofS]
      congr 1
      omega
  subst e
  exact ⟨z, hv, hF, hK, ⟨ls1, ln1, _ha, _q, _t, _y, _u, _h, _j, _za⟩, ⟨t1, tb_, tc, u1, ub, uc, r1, wb, wc, _da.keep hK, _k.keep hK (ninS _b (ninS _c (ninS _d (ninS _f nin0)))), _g.keep hK (ninS _b (ninS _c (ninS _d (ninS _f nin0)))), _a.keep hK (ninS _b (ninS _c (ninS _d (ninS _f nin0)))), _ia, _fa, _ja, _ka, _ga, hA1, hB.up, hC.up, by rw [own_sb0 (own_bt_le ta) (own_bt_le tb_) (own_bt_le tc), own_bt_pos hp]⟩⟩
theorem rmTKM1 (l : Launch) (Z : State) (a0 : Array Value) (hw : HW a0 Z) (ws : List Jvm.Cond) (two : Bool) (mp : Addr) (tb : Addr) (ea : Addr) (eb : Addr) (_ca : ClassId) (ka : Addr) (kb : Addr) (va : Addr) (vb : Addr) (kc : Addr) (ac : Int32) (fk_ : Addr) (to : Value) (b : Nat) (d : Nat) (q : Nat) (gr : Addr) (nd : Addr) (nx : Addr) (tm : Addr) (nn : Addr) (_A : ClassId) (_B : ClassId) (_C : ClassId) (h0 : Heap) (n0 : Nat) (Z0 : n0 ≤ h0.size) (ZN : Z.heap.size ≤ n0) (EZ : Ext Z.heap h0) (_oa : n0 ≤ gr) (_qa : n0 ≤ nx) (_ra : n0 ≤ tm) (_ta : n0 ≤ nn) (GR : GrB Z h0 two gr mp ka kb va vb ac (Int32.ofNat (own_pop d + q))) (NA : NodB Z h0 two nd nx tm nn _A _B _C ka kb kc va vb d b) (MK : MapOK Z h0 two mp tb ea eb _ca ka kb va vb) (_D : gr ≠ nx) (_E : gr ≠ tm) (_F : gr ≠ nn) (_b : nd ≠ gr) (_c : nd ≠ nx) (_d : nd ≠ tm) (_f : nd ≠ nn) (_G : nx ≠ tm) (_H : nx ≠ nn) (_I : tm ≠ nn) (_J : mp ≠ gr) (_K : mp ≠ nx) (_L : mp ≠ tm) (_M : mp ≠ nn) (_N : tb ≠ gr) (_O : tb ≠ nx) (_P : tb ≠ tm) (_Q : tb ≠ nn) (_R : ea ≠ gr) (_S : ea ≠ nx) (_T : ea ≠ tm) (_U : ea ≠ nn) (_V : eb ≠ gr) (_W : eb ≠ nx) (_aa : eb ≠ tm) (_ba : eb ≠ nn) (BK : BXK Z Z.heap ka kb kc) (nab : ¬ ka = kb) (nac : ¬ ka = kc) (nbc : ¬ kb = kc) (hN : NodeOf two ka kb va vb (.ref fk_) (.ref nd)) (ikt : IsK ka kb kc to) (hbd : b < 100) :
    Meets l Z mn_63 prog_31_method_7_code 5 (some .boolean) ({ frames := 6, cells := 0, slots := 0, locals := 86 } : Room) ws #[.ref gr, .ref fk_, .int (1 : Int32), to] h0 (fun v h L => ∃ z : Int32, v = some (.int z) ∧ Fr n0 L ∧ Keep h0 h [gr, nx, tm, nn] ∧ GrB Z h two gr mp ka kb va vb ac (Int32.ofNat (own_pop (own_sb 1 d) + q)) ∧ NodB Z h two nd nx tm nn _A _B _C ka kb kc va vb (own_sb 1 d) (b + 1)) := by
  obtain ⟨ls, ln, _ua, _r, _v, _z, _w, _i, _o, hLS⟩ := GR
  obtain ⟨ta, tb_, tc, ua, ub, uc, wa, wb, wc, _da, _k, _g, _a, _va, _fa, _wa, _ya, _ga, hA, hB, hC, hd⟩ := NA
  subst hd
  refine Meets.mono (rmTK l Z a0 hw ws two mp tb ea eb _ca ka kb va vb kc ac _ fk_ ls ln to b (1 : Int32) _ _ _ tb_ ub wb gr nd nx tm nn _A _B _C h0 n0 Z0 ZN EZ _oa _qa _ra _ta _ua _r _v _z _w _i _o _da _k _g _a _va _fa _wa _ya _ga MK _D _E _F _b _c _d _f _G _H _I _J _K _L _M _N _O _P _Q _R _S _T _U _V _W _aa _ba BK nab nac nbc hN hLS ikt hbd (by decide) rfl rfl rfl (by show _ < 3; decide) (by show _ < 3; decide) (by show _ < 3; decide) hB) (fun v h L hq => ?_)
  obtain ⟨z, t1, u1, r1, ls1, ln1, tk1, hv, hF, hK, _ha, _q, _t, _y, _u, _h, _j, _ia, _ja, _ka, _za, hA1, hp, e1, e2⟩ := hq
  have e : tk1 = Int32.ofNat (own_pop (own_sb 1 (own_bt ta + 2 * own_bt tb_ + 4 * own_bt tc)) + q) := by
    rw [own_sb1 (own_bt_le ta) (own_bt_le tb_) (own_bt_le tc), own_pop3 (own_bt_le ta) (Nat.le_refl 1) (own_bt_le tc)]
    by_cases hc : 0 < tb_
    · rw [e1 hc, own_pop3 (own_bt_le ta) (own_bt_le tb_) (own_bt_le tc), own_bt_pos hc]
    · rw [e2 hc, own_pop3 (own_bt_le ta) (own_bt_le tb_) (own_bt_le tc), own_bt_neg hc, own_ofS]
      congr 1
      omega
  subst e
  exact ⟨z, hv, hF, hK, ⟨ls1, ln1, _ha, _q, _t, _y, _u, _h, _j, _za⟩, ⟨ta, t1, tc, ua, u1, uc, wa, r1, wc, _da.keep hK, _k.keep hK (ninS _b (ninS _c (ninS _d (ninS _f nin0)))), _g.keep hK (ninS _b (ninS _c (ninS _d (ninS _f nin0)))), _a.keep hK (ninS _b (ninS _c (ninS _d (ninS _f nin0)))), _ia, _fa, _ja, _ka, _ga, hA.up, hA1, hC.up, by rw [own_sb1 (own_bt_le ta) (own_bt_le tb_) (own_bt_le tc), own_bt_pos hp]⟩⟩
theorem rmTKM2 (l : Launch) (Z : State) (a0 : Array Value) (hw : HW a0 Z) (ws : List Jvm.Cond) (two : Bool) (mp : Addr) (tb : Addr) (ea : Addr) (eb : Addr) (_ca : ClassId) (ka : Addr) (kb : Addr) (va : Addr) (vb : Addr) (kc : Addr) (ac : Int32) (fk_ : Addr) (to : Value) (b : Nat) (d : Nat) (q : Nat) (gr : Addr) (nd : Addr) (nx : Addr) (tm : Addr) (nn : Addr) (_A : ClassId) (_B : ClassId) (_C : ClassId) (h0 : Heap) (n0 : Nat) (Z0 : n0 ≤ h0.size) (ZN : Z.heap.size ≤ n0) (EZ : Ext Z.heap h0) (_oa : n0 ≤ gr) (_qa : n0 ≤ nx) (_ra : n0 ≤ tm) (_ta : n0 ≤ nn) (GR : GrB Z h0 two gr mp ka kb va vb ac (Int32.ofNat (own_pop d + q))) (NA : NodB Z h0 two nd nx tm nn _A _B _C ka kb kc va vb d b) (MK : MapOK Z h0 two mp tb ea eb _ca ka kb va vb) (_D : gr ≠ nx) (_E : gr ≠ tm) (_F : gr ≠ nn) (_b : nd ≠ gr) (_c : nd ≠ nx) (_d : nd ≠ tm) (_f : nd ≠ nn) (_G : nx ≠ tm) (_H : nx ≠ nn) (_I : tm ≠ nn) (_J : mp ≠ gr) (_K : mp ≠ nx) (_L : mp ≠ tm) (_M : mp ≠ nn) (_N : tb ≠ gr) (_O : tb ≠ nx) (_P : tb ≠ tm) (_Q : tb ≠ nn) (_R : ea ≠ gr) (_S : ea ≠ nx) (_T : ea ≠ tm) (_U : ea ≠ nn) (_V : eb ≠ gr) (_W : eb ≠ nx) (_aa : eb ≠ tm) (_ba : eb ≠ nn) (BK : BXK Z Z.heap ka kb kc) (nab : ¬ ka = kb) (nac : ¬ ka = kc) (nbc : ¬ kb = kc) (hN : NodeOf two ka kb va vb (.ref fk_) (.ref nd)) (ikt : IsK ka kb kc to) (hbd : b < 100) :
    Meets l Z mn_63 prog_31_method_7_code 5 (some .boolean) ({ frames := 6, cells := 0, slots := 0, locals := 86 } : Room) ws #[.ref gr, .ref fk_, .int (2 : Int32), to] h0 (fun v h L => ∃ z : Int32, v = some (.int z) ∧ Fr n0 L ∧ Keep h0 h [gr, nx, tm, nn] ∧ GrB Z h two gr mp ka kb va vb ac (Int32.ofNat (own_pop (own_sb 2 d) + q)) ∧ NodB Z h two nd nx tm nn _A _B _C ka kb kc va vb (own_sb 2 d) (b + 1)) := by
  obtain ⟨ls, ln, _ua, _r, _v, _z, _w, _i, _o, hLS⟩ := GR
  obtain ⟨ta, tb_, tc, ua, ub, uc, wa, wb, wc, _da, _k, _g, _a, _va, _fa, _wa, _ya, _ga, hA, hB, hC, hd⟩ := NA
  subst hd
  refine Meets.mono (rmTK l Z a0 hw ws two mp tb ea eb _ca ka kb va vb kc ac _ fk_ ls ln to b (2 : Int32) _ _ _ tc uc wc gr nd nx tm nn _A _B _C h0 n0 Z0 ZN EZ _oa _qa _ra _ta _ua _r _v _z _w _i _o _da _k _g _a _va _fa _wa _ya _ga MK _D _E _F _b _c _d _f _G _H _I _J _K _L _M _N _O _P _Q _R _S _T _U _V _W _aa _ba BK nab nac nbc hN hLS ikt hbd (by decide) rfl rfl rfl (by show _ < 3; decide) (by show _ < 3; decide) (by show _ < 3; decide) hC) (fun v h L hq => ?_)
  obtain ⟨z, t1, u1, r1, ls1, ln1, tk1, hv, hF, hK, _ha, _q, _t, _y, _u, _h, _j, _ia, _ja, _ka, _za, hA1, hp, e1, e2⟩ := hq
  have e : tk1 = Int32.ofNat (own_pop (own_sb 2 (own_bt ta + 2 * own_bt tb_ + 4 * own_bt tc)) + q) := by
    rw [own_sb2 (own_bt_le ta) (own_bt_le tb_) (own_bt_le tc), own_pop3 (own_bt_le ta) (own_bt_le tb_) (Nat.le_refl 1)]
    by_cases hc : 0 < tc
    · rw [e1 hc, own_pop3 (own_bt_le ta) (own_bt_le tb_) (own_bt_le tc), own_bt_pos hc]
    · rw [e2 hc, own_pop3 (own_bt_le ta) (own_bt_le tb_) (own_bt_le tc), own_bt_neg hc, own_ofS]
      congr 1
      omega
  subst e
  exact ⟨z, hv, hF, hK, ⟨ls1, ln1, _ha, _q, _t, _y, _u, _h, _j, _za⟩, ⟨ta, tb_, t1, ua, ub, u1, wa, wb, r1, _da.keep hK, _k.keep hK (ninS _b (ninS _c (ninS _d (ninS _f nin0)))), _g.keep hK (ninS _b (ninS _c (ninS _d (ninS _f nin0)))), _a.keep hK (ninS _b (ninS _c (ninS _d (ninS _f nin0)))), _ia, _fa, _ja, _ka, _ga, hA.up, hB.up, hA1, by rw [own_sb2 (own_bt_le ta) (own_bt_le tb_) (own_bt_le tc), own_bt_pos hp]⟩⟩
theorem rmTKG (l : Launch) (Z : State) (a0 : Array Value) (hw : HW a0 Z) (ws : List Jvm.Cond) (two : Bool) (mp : Addr) (tb : Addr) (ea : Addr) (eb : Addr) (_K : ClassId) (ka : Addr) (kb : Addr) (va : Addr) (vb : Addr) (kc : Addr) (ac : Int32) (fk_ : Addr) (to : Value) (b : Nat) (d : Nat) (q : Nat) (gr : Addr) (nd : Addr) (nx : Addr) (tm : Addr) (nn : Addr) (_H : ClassId) (_I : ClassId) (_J : ClassId) (i : Nat) (hi : i < 3) (h0 : Heap) (n0 : Nat) (Z0 : n0 ≤ h0.size) (ZN : Z.heap.size ≤ n0) (EZ : Ext Z.heap h0) (_L : n0 ≤ gr) (_M : n0 ≤ nx) (_N : n0 ≤ tm) (_O : n0 ≤ nn) (GR : GrB Z h0 two gr mp ka kb va vb ac (Int32.ofNat (own_pop d + q))) (NA : NodB Z h0 two nd nx tm nn _H _I _J ka kb kc va vb d b) (MK : MapOK Z h0 two mp tb ea eb _K ka kb va vb) (_a : gr ≠ nx) (_b : gr ≠ tm) (_c : gr ≠ nn) (_d : nd ≠ gr) (_f : nd ≠ nx) (_g : nd ≠ tm) (_h : nd ≠ nn) (_i : nx ≠ tm) (_j : nx ≠ nn) (_k : tm ≠ nn) (_o : mp ≠ gr) (_q : mp ≠ nx) (_r : mp ≠ tm) (_t : mp ≠ nn) (_u : tb ≠ gr) (_v : tb ≠ nx) (_w : tb ≠ tm) (_y : tb ≠ nn) (_z : ea ≠ gr) (_A : ea ≠ nx) (_B : ea ≠ tm) (_C : ea ≠ nn) (_D : eb ≠ gr) (_E : eb ≠ nx) (_F : eb ≠ tm) (_G : eb ≠ nn) (BK : BXK Z Z.heap ka kb kc) (nab : ¬ ka = kb) (nac : ¬ ka = kc) (nbc : ¬ kb = kc) (hN : NodeOf two ka kb va vb (.ref fk_) (.ref nd)) (ikt : IsK ka kb kc to) (hbd : b < 100) :
  Meets l Z mn_63 prog_31_method_7_code 5 (some .boolean) ({ frames := 6, cells := 0, slots := 0, locals := 86 } : Room) ws #[.ref gr, .ref fk_, .int (Int32.ofNat i), to] h0 (fun v h L => ∃ z : Int32, v = some (.int z) ∧ Fr n0 L ∧ Keep h0 h [gr, nx, tm, nn] ∧ GrB Z h two gr mp ka kb va vb ac (Int32.ofNat (own_pop (own_sb i d) + q)) ∧ NodB Z h two nd nx tm nn _H _I _J ka kb kc va vb (own_sb i d) (b + 1)) := by
 match i, hi with
 | 0, _ => exact rmTKM0 l Z a0 hw ws two mp tb ea eb _K ka kb va vb kc ac fk_ to b d q gr nd nx tm nn _H _I _J h0 n0 Z0 ZN EZ _L _M _N _O GR NA MK _a _b _c _d _f _g _h _i _j _k _o _q _r _t _u _v _w _y _z _A _B _C _D _E _F _G BK nab nac nbc hN ikt hbd
 | 1, _ => exact rmTKM1 l Z a0 hw ws two mp tb ea eb _K ka kb va vb kc ac fk_ to b d q gr nd nx tm nn _H _I _J h0 n0 Z0 ZN EZ _L _M _N _O GR NA MK _a _b _c _d _f _g _h _i _j _k _o _q _r _t _u _v _w _y _z _A _B _C _D _E _F _G BK nab nac nbc hN ikt hbd
 | 2, _ => exact rmTKM2 l Z a0 hw ws two mp tb ea eb _K ka kb va vb kc ac fk_ to b d q gr nd nx tm nn _H _I _J h0 n0 Z0 ZN EZ _L _M _N _O GR NA MK _a _b _c _d _f _g _h _i _j _k _o _q _r _t _u _v _w _y _z _A _B _C _D _E _F _G BK nab nac nbc hN ikt hbd
 | j + 3, hi => exact absurd hi (by omega)
theorem own_small {y : Int32} {n : Nat} (h : y.toInt = n) (hn : n < 8) : y = Int32.ofNat n := Int32.toInt_inj.mp (by
  rw [h]
  match n, hn with
  | 0, _ => rfl
  | 1, _ => rfl
  | 2, _ => rfl
  | 3, _ => rfl
  | 4, _ => rfl
  | 5, _ => rfl
  | 6, _ => rfl
  | 7, _ => rfl
  | q + 8, hn => exact absurd hn (by omega))
theorem own_m7 (y : Int32) : ∃ A : Nat, A < 8 ∧ (y &&& (7 : Int32)) = Int32.ofNat A := by
  have h : (y &&& (7 : Int32)).toInt = y.toInt % (2 ^ 3 : Nat) := c_mask y 7 3 (by decide) (by decide)
  exact ⟨(y.toInt % 8).toNat, by omega, own_small (by rw [h]; omega) (by omega)⟩
theorem own_m3 (y : Int32) : (y &&& (3 : Int32)) = 0 ∨ (y &&& (3 : Int32)) = 1 ∨ (y &&& (3 : Int32)) = 2 ∨ (y &&& (3 : Int32)) = 3 := by
  have h : (y &&& (3 : Int32)).toInt = y.toInt % (2 ^ 2 : Nat) := c_mask y 3 2 (by decide) (by decide)
  have hc : y.toInt % 4 = 0 ∨ y.toInt % 4 = 1 ∨ y.toInt % 4 = 2 ∨ y.toInt % 4 = 3 := by omega
  rcases hc with q | q | q | q
  · exact Or.inl (own_small (n := 0) (by rw [h]; omega) (by omega))
  · exact Or.inr (Or.inl (own_small (n := 1) (by rw [h]; omega) (by omega)))
  · exact Or.inr (Or.inr (Or.inl (own_small (n := 2) (by rw [h]; omega) (by omega))))
  · exact Or.inr (Or.inr (Or.inr (own_small (n := 3) (by rw [h]; omega) (by omega))))
theorem own_r3 (y : Int32) : ∃ i : Nat, i < 3 ∧ (((y.toUInt32 >>> ((1 : Int32) &&& 31).toUInt32).toInt32) % (3 : Int32)) = Int32.ofNat i := by
  have h0 := Jvm.Kit.i32_iushr_nonneg y (n := ((1 : Int32) &&& 31).toUInt32) (k := 1) (by decide) (by decide) (by decide)
  obtain ⟨w1, hw1⟩ : ∃ z, z = (y.toUInt32 >>> ((1 : Int32) &&& 31).toUInt32).toInt32 := ⟨_, rfl⟩
  rw [← hw1] at h0 ⊢
  have h1 : 0 ≤ w1.toInt := by have := Int32.le_iff_toInt_le.mp h0; simpa using this
  have h : (w1 % (3 : Int32)).toInt = w1.toInt % 3 := by rw [Int32.toInt_mod, Int.tmod_eq_emod_of_nonneg h1]; rfl
  exact ⟨(w1.toInt % 3).toNat, by omega, own_small (by rw [h]; omega) (by omega)⟩
theorem rmTM (l : Launch) (Z : State) (a0 : Array Value) (hw : HW a0 Z) (ws : List Jvm.Cond) (ca : Addr) (cl : Cell) (ka : Addr) (kb : Addr) (kc : Addr) (SH : Sta Z Z.heap s_n "high" "I" (.int 127)) (SC : Sta Z Z.heap s_n "cache" "[Ljava/lang/Integer;" (.ref ca)) (BX : Bxs Z ca cl s_i "I" 256 (fun j => .int (j - 128))) (hia : cl.slots[128]? = some (.ref ka)) (hib : cl.slots[129]? = some (.ref kb)) (hic : cl.slots[130]? = some (.ref kc)) (BK : BXK Z Z.heap ka kb kc) (tt : Int32) (h0 : Heap) (n0 : Nat) (Z0 : n0 ≤ h0.size) (ZN : Z.heap.size ≤ n0) (EZ : Ext Z.heap h0) :
    Meets l Z mn_58 method_3_code 2 (some (.object s_i)) ({ frames := 1, cells := 0, slots := 0, locals := 12 } : Room) ws #[.int tt] h0 (fun v h L => ∃ to, v = some to ∧ IsK ka kb kc to ∧ Fr n0 L ∧ Ext h0 h) := by
  rcases own_m3 ((tt.toUInt32 >>> ((8 : Int32) &&& 31).toUInt32).toInt32) with hq | hq | hq | hq
  · exact Meets.mono (rmTG0 l Z a0 hw ws ca cl tt ka kb kc h0 n0 Z0 ZN EZ SH SC BX hia hib hic hq) (fun v h L hz => ⟨_, hz.1, Or.inl rfl, hz.2.1, hz.2.2⟩)
  · exact Meets.mono (rmTG1 l Z a0 hw ws ca cl tt ka kb kc h0 n0 Z0 ZN EZ SH SC BX hia hib hic hq) (fun v h L hz => ⟨_, hz.1, Or.inr (Or.inl rfl), hz.2.1, hz.2.2⟩)
  · exact Meets.mono (rmTG2 l Z a0 hw ws ca cl tt ka kb kc h0 n0 Z0 ZN EZ SH SC BX hia hib hic hq) (fun v h L hz => ⟨_, hz.1, Or.inr (Or.inr (Or.inl rfl)), hz.2.1, hz.2.2⟩)
  · exact Meets.mono (rmTG3 l Z a0 hw ws ca cl tt ka kb kc h0 n0 Z0 ZN EZ SH SC BX hia hib hic hq) (fun v h L hz => ⟨_, hz.1, Or.inr (Or.inr (Or.inr rfl)), hz.2.1, hz.2.2⟩)
theorem GrB.exa {Z : State} {h : Heap} {two : Bool} {gr : Addr} {mp : Addr} {ka : Addr} {kb : Addr} {va : Addr} {vb : Addr} {ac : Int32} {tk : Int32} (F : GrB Z h two gr mp ka kb va vb ac tk) : Exa Z h gr s_a := by obtain ⟨ls, ln, E_gr, F_stimuli_gr, F_nodes_gr, F_arcs_gr, F_taken_gr, F_lastState_gr, F_lastNode_gr, hLS⟩ := F; exact E_gr
def own_sub (d A : Nat) : Bool := decide (d % 2 ≤ A % 2) && decide (d / 2 % 2 ≤ A / 2 % 2) && decide (d / 4 % 2 ≤ A / 4 % 2)
theorem own_sb_lt : ∀ i, i < 3 → ∀ d, d < 8 → own_sb i d < 8 := by decide +kernel
theorem own_c3 : ∀ a, a < 8 → ∀ b, b < 8 → (Int32.ofNat a = Int32.ofNat b ↔ a = b) := by decide +kernel
theorem own_c4 : ∀ d, d < 8 → ∀ e, e < 8 → ∀ a, a < 8 → ((Int32.ofNat (d + 8 * e) &&& (7 : Int32)) = Int32.ofNat a ↔ d = a) := by decide +kernel
theorem own_c5 : ∀ d, d < 8 → ∀ e, e < 8 → ∀ a, a < 8 → ((((Int32.ofNat (d + 8 * e)).toUInt32 >>> ((3 : Int32) &&& 31).toUInt32).toInt32 &&& (7 : Int32)) = Int32.ofNat a ↔ e = a) := by decide +kernel
theorem own_c6 : ∀ d, d < 8 → ∀ a, a < 8 → own_sub d a = true → own_pop d ≤ own_pop a ∧ own_pop a ≤ 3 ∧ (own_pop d = own_pop a → d = a) := by decide +kernel
theorem own_c8 : ∀ d, d < 8 → ∀ a, a < 8 → own_sub d a = true → (Int32.ofNat (own_pop d + 0) = Int32.ofNat (own_pop a) ↔ (Int32.ofNat d &&& (7 : Int32)) = Int32.ofNat a) := by decide +kernel
theorem own_c9 {d e a b : Nat} (hd : d < 8) (he : e < 8) (ha : a < 8) (hb : b < 8) (s1 : own_sub d a = true) (s2 : own_sub e b = true) : Int32.ofNat (own_pop d + own_pop e) = Int32.ofNat (own_pop a + own_pop b) ↔ d = a ∧ e = b := by
  obtain ⟨p1, p2, p3⟩ := own_c6 d hd a ha s1
  obtain ⟨q1, q2, q3⟩ := own_c6 e he b hb s2
  rw [own_c3 (own_pop d + own_pop e) (by omega) (own_pop a + own_pop b) (by omega)]
  constructor
  · intro z; exact ⟨p3 (by omega), q3 (by omega)⟩
  · rintro ⟨rfl, rfl⟩; rfl
theorem own_eqz {P : Prop} {z1 z2 : Int32} (h1 : (P → z1 = 1) ∧ (¬ P → z1 = 0)) (h2 : (P → z2 = 1) ∧ (¬ P → z2 = 0)) : z1 = z2 := by
  by_cases h : P
  · rw [h1.1 h, h2.1 h]
  · rw [h1.2 h, h2.2 h]
theorem own_oa : ∀ i, i < 3 → ∀ d, d < 8 → (Int32.ofNat d ||| ((1 : Int32) <<< ((Int32.ofNat i) &&& 31))) = Int32.ofNat (own_sb i d) := by decide +kernel
theorem own_ob : ∀ i, i < 3 → ∀ d, d < 8 → ∀ e, e < 8 → (Int32.ofNat (d + 8 * e) ||| ((1 : Int32) <<< ((Int32.ofNat i) &&& 31))) = Int32.ofNat (own_sb i d + 8 * e) := by decide +kernel
theorem own_oc : ∀ i, i < 3 → ∀ d, d < 8 → ∀ e, e < 8 → (Int32.ofNat (d + 8 * e) ||| ((8 : Int32) <<< ((Int32.ofNat i) &&& 31))) = Int32.ofNat (d + 8 * own_sb i e) := by decide +kernel
theorem own_od : ∀ i, i < 3 → ∀ a, a < 8 → ¬ ((Int32.ofNat a &&& ((1 : Int32) <<< ((Int32.ofNat i) &&& 31))) = (0 : Int32)) → ∀ d, d < 8 → own_sub d a = true → own_sub (own_sb i d) a = true := by decide +kernel
theorem pd33 : parseMethodDescriptor "(Ljava/lang/Object;ILjava/lang/Object;)Z" = some ⟨[(.object s_e), .int, (.object s_e)], some .boolean⟩ := by decide +kernel
theorem d31_0 : decode bc31 0 = .ok (.iload_n 1, 1) := by decide +kernel
theorem d31_1 : decode bc31 1 = .ok (.iconst 1, 1) := by decide +kernel
theorem d31_2 : decode bc31 2 = .ok (.iand, 1) := by decide +kernel
theorem d31_3 : decode bc31 3 = .ok (.istore 6, 2) := by decide +kernel
theorem d31_5 : decode bc31 5 = .ok (.iload_n 1, 1) := by decide +kernel
theorem d31_6 : decode bc31 6 = .ok (.iconst 1, 1) := by decide +kernel
theorem d31_7 : decode bc31 7 = .ok (.iushr, 1) := by decide +kernel
theorem d31_8 : decode bc31 8 = .ok (.iconst 3, 1) := by decide +kernel
theorem d31_9 : decode bc31 9 = .ok (.irem, 1) := by decide +kernel
theorem d31_10 : decode bc31 10 = .ok (.istore 7, 2) := by decide +kernel
theorem d31_12 : decode bc31 12 = .ok (.iload 6, 2) := by decide +kernel
theorem d31_14 : decode bc31 14 = .ok (.ifCond .ne 38, 3) := by decide +kernel
theorem d31_17 : decode bc31 17 = .ok (.iload_n 3, 1) := by decide +kernel
theorem d31_18 : decode bc31 18 = .ok (.iconst 1, 1) := by decide +kernel
theorem d31_19 : decode bc31 19 = .ok (.iload 7, 2) := by decide +kernel
theorem d31_21 : decode bc31 21 = .ok (.ishl, 1) := by decide +kernel
theorem d31_22 : decode bc31 22 = .ok (.iand, 1) := by decide +kernel
theorem d31_23 : decode bc31 23 = .ok (.ifCond .eq 26, 3) := by decide +kernel
theorem d31_26 : decode bc31 26 = .ok (.aload_n 0, 1) := by decide +kernel
theorem d31_27 : decode bc31 27 = .ok (.iconst 0, 1) := by decide +kernel
theorem d31_28 : decode bc31 28 = .ok (.invokestatic 10, 3) := by decide +kernel
theorem d31_31 : decode bc31 31 = .ok (.iload 7, 2) := by decide +kernel
theorem d31_33 : decode bc31 33 = .ok (.iload_n 1, 1) := by decide +kernel
theorem d31_34 : decode bc31 34 = .ok (.invokestatic 20, 3) := by decide +kernel
theorem d31_37 : decode bc31 37 = .ok (.invokevirtual 25, 3) := by decide +kernel
theorem d31_40 : decode bc31 40 = .ok (.pop, 1) := by decide +kernel
theorem d31_41 : decode bc31 41 = .ok (.iload 5, 2) := by decide +kernel
theorem d31_43 : decode bc31 43 = .ok (.iconst 1, 1) := by decide +kernel
theorem d31_44 : decode bc31 44 = .ok (.iload 7, 2) := by decide +kernel
theorem d31_46 : decode bc31 46 = .ok (.ishl, 1) := by decide +kernel
theorem d31_47 : decode bc31 47 = .ok (.ior, 1) := by decide +kernel
theorem d31_48 : decode bc31 48 = .ok (.ireturn, 1) := by decide +kernel
theorem d31_49 : decode bc31 49 = .ok (.iload 5, 2) := by decide +kernel
theorem d31_51 : decode bc31 51 = .ok (.ireturn, 1) := by decide +kernel
theorem d31_52 : decode bc31 52 = .ok (.iload_n 2, 1) := by decide +kernel
theorem d31_53 : decode bc31 53 = .ok (.ifCond .eq 37, 3) := by decide +kernel
theorem d31_90 : decode bc31 90 = .ok (.iload 5, 2) := by decide +kernel
theorem d31_92 : decode bc31 92 = .ok (.ireturn, 1) := by decide +kernel
theorem ef_ST0 (m : MethodId) (x0 : Addr) (x1 : Int32) (x2 : Int32) (x3 : Int32) (x4 : Int32) (x5 : Int32) : entryFrame m #[(.ref x0), (.int x1), (.int x2), (.int x3), (.int x4), (.int x5)] 8 = mkF m 0 #[.val (.ref x0), .val (.int x1), .val (.int x2), .val (.int x3), .val (.int x4), .val (.int x5), .unset, .unset] [] := by first | (simp [entryFrame, mkF, argsToLocals, Value.category]; done) | rfl
theorem rmST0 (l : Launch) (Z : State) (a0 : Array Value) (hw : HW a0 Z) (ws : List Jvm.Cond) (ca : Addr) (cl : Cell) (ka : Addr) (kb : Addr) (kc : Addr) (gr : Addr) (mp : Addr) (tb : Addr) (ea : Addr) (na : Addr) (nxa : Addr) (tma : Addr) (nna : Addr) (_I : ClassId) (kxa : ClassId) (kta : ClassId) (kna : ClassId) (ac : Int32) (tt : Int32) (A0 : Nat) (d0 : Nat) (b : Nat) (a1 : Int32) (h0 : Heap) (n0 : Nat) (Z0 : n0 ≤ h0.size) (ZN : Z.heap.size ≤ n0) (EZ : Ext Z.heap h0) (_O : n0 ≤ gr) (_L : n0 ≤ nxa) (_M : n0 ≤ tma) (_N : n0 ≤ nna) (GR : GrB Z h0 false gr mp ka kb na na ac (Int32.ofNat (own_pop d0 + 0))) (MK : MapOK Z h0 false mp tb ea ea _I ka kb na na) (NA : NodB Z h0 false na nxa tma nna kxa kta kna ka kb kc na na d0 b) (_o : gr ≠ nxa) (_q : gr ≠ tma) (_r : gr ≠ nna) (_E : mp ≠ gr) (_t : mp ≠ nxa) (_u : mp ≠ tma) (_v : mp ≠ nna) (_F : tb ≠ gr) (_w : tb ≠ nxa) (_y : tb ≠ tma) (_z : tb ≠ nna) (_f : ea ≠ gr) (_b : ea ≠ nxa) (_c : ea ≠ tma) (_d : ea ≠ nna) (_f : ea ≠ gr) (_b : ea ≠ nxa) (_c : ea ≠ tma) (_d : ea ≠ nna) (_G : na ≠ gr) (_A : na ≠ nxa) (_B : na ≠ tma) (_C : na ≠ nna) (_i : nxa ≠ tma) (_j : nxa ≠ nna) (_k : tma ≠ nna) (SH : Sta Z Z.heap s_n "high" "I" (.int 127)) (SC : Sta Z Z.heap s_n "cache" "[Ljava/lang/Integer;" (.ref ca)) (BX : Bxs Z ca cl s_i "I" 256 (fun j => .int (j - 128))) (hia : cl.slots[128]? = some (.ref ka)) (hib : cl.slots[129]? = some (.ref kb)) (hic : cl.slots[130]? = some (.ref kc)) (BK : BXK Z Z.heap ka kb kc) (nab : ¬ ka = kb) (nac : ¬ ka = kc) (nbc : ¬ kb = kc) (hA0 : A0 < 8) (hd0 : d0 < 8) (s0 : own_sub d0 A0 = true) (hbd : b < 100) :
  Meets l Z mn_64 method_4_code 8 (some .int) ({ frames := 7, cells := 0, slots := 0, locals := 102 } : Room) ws #[(.ref gr), (.int tt), (.int 0), (.int (Int32.ofNat A0)), (.int a1), (.int (Int32.ofNat d0))] h0 (fun v h L => ∃ e0', v = some (.int (Int32.ofNat e0')) ∧ Fr n0 L ∧ Keep h0 h [gr, nxa, tma, nna] ∧ GrB Z h false gr mp ka kb na na ac (Int32.ofNat (own_pop e0' + 0)) ∧ NodB Z h false na nxa tma nna kxa kta kna ka kb kc na na e0' (b + 1) ∧ e0' < 8 ∧ own_sub e0' A0 = true) := by
 refine Meets.of (plainFor_of_name pn_18) ?_
 intro p e s m _a _S c s₁ X0 hx hby hml _H hlk hnm hZ _g e0
 replace _g : s.vm.findClass s_t = some m.cls := _g
 have N0 := Fr.nil n0
 have K0 := Keep.refl h0 [gr, nxa, tma, nna]
 refine Go.cast (ef_ST0 m gr tt (0 : Int32) (Int32.ofNat A0) a1 (Int32.ofNat d0)) ?_
 show Go p e s _a _ _ _ s₁ (mkF m 0 #[vR gr, vI tt, vI (0 : Int32), vI (Int32.ofNat A0), vI a1, vI (Int32.ofNat d0), vU, vU] [])
 refine gs ?_ fun _ _k => XS.iloadN X0.here hx rfl (hb hby d31_0) rfl _k
 refine gs ?_ fun _ _k => XT.iconstV X0.here hx rfl (1 : Int32) (hb hby d31_1) (by decide) _k
 refine gs ?_ fun _ _k => XS.iand X0.here hx rfl (hb hby d31_2) rfl _k
 refine gs ?_ fun _ _k => XS.istore X0.here hx rfl (hb hby d31_3) rfl (l' := #[vR gr, vI tt, vI (0 : Int32), vI (Int32.ofNat A0), vI a1, vI (Int32.ofNat d0), vI (tt &&& (1 : Int32)), vU]) rfl _k
 refine gs ?_ fun _ _k => XS.iloadN X0.here hx rfl (hb hby d31_5) rfl _k
 refine gs ?_ fun _ _k => XT.iconstV X0.here hx rfl (1 : Int32) (hb hby d31_6) (by decide) _k
 refine gs ?_ fun _ _k => XS.iushr X0.here hx rfl (hb hby d31_7) rfl _k
 refine gs ?_ fun _ _k => XT.iconstV X0.here hx rfl (3 : Int32) (hb hby d31_8) (by decide) _k
 refine gs ?_ fun _ _k => iremM X0 hx rfl (hb hby d31_9) rfl (by decide) _k
 refine gs ?_ fun _ _k => XS.istore X0.here hx rfl (hb hby d31_10) rfl (l' := #[vR gr, vI tt, vI (0 : Int32), vI (Int32.ofNat A0), vI a1, vI (Int32.ofNat d0), vI (tt &&& (1 : Int32)), vI (((tt.toUInt32 >>> ((1 : Int32) &&& 31).toUInt32).toInt32) % (3 : Int32))]) rfl _k
 refine gs ?_ fun _ _k => XS.iload X0.here hx rfl (hb hby d31_12) rfl _k
 by_cases _D : (tt &&& (1 : Int32)) = (0 : Int32)
 · --
  refine gs ?_ fun _ _k => XS.ifNo X0.here hx rfl (hb hby d31_14) rfl ((if0 _ _).trans (teq _D).2) _k
  show Go p e s _a _ _ _ s₁ (mkF m 17 #[vR gr, vI tt, vI (0 : Int32), vI (Int32.ofNat A0), vI a1, vI (Int32.ofNat d0), vI (tt &&& (1 : Int32)), vI (((tt.toUInt32 >>> ((1 : Int32) &&& 31).toUInt32).toInt32) % (3 : Int32))] [])
  obtain ⟨i, hi, hk⟩ := own_r3 tt
  rw [hk]
  show Go p e s _a _ _ _ s₁ (mkF m 17 #[vR gr, vI tt, vI (0 : Int32), vI (Int32.ofNat A0), vI a1, vI (Int32.ofNat d0), vI (tt &&& (1 : Int32)), vI (Int32.ofNat i)] [])
  refine gs ?_ fun _ _k => XS.iloadN X0.here hx rfl (hb hby d31_17) rfl _k
  refine gs ?_ fun _ _k => XT.iconstV X0.here hx rfl (1 : Int32) (hb hby d31_18) (by decide) _k
  refine gs ?_ fun _ _k => XS.iload X0.here hx rfl (hb hby d31_19) rfl _k
  refine gs ?_ fun _ _k => XS.ishl X0.here hx rfl (hb hby d31_21) rfl _k
  refine gs ?_ fun _ _k => XS.iand X0.here hx rfl (hb hby d31_22) rfl _k
  by_cases _h : ((Int32.ofNat A0) &&& ((1 : Int32) <<< ((Int32.ofNat i) &&& 31))) = (0 : Int32)
  · --
   refine gs ?_ fun _ _k => XS.ifYes X0.here hx rfl (pc0 := 23) (pc' := 49) rfl (hb hby d31_23) rfl ((if0 _ _).trans (teq _h).1) (by decide) (by decide) _k
   refine gs ?_ fun _ _k => XS.iload X0.here hx rfl (hb hby d31_49) rfl _k
   show Go p e s _a _ _ _ s₁ (mkF m 51 #[vR gr, vI tt, vI (0 : Int32), vI (Int32.ofNat A0), vI a1, vI (Int32.ofNat d0), vI (tt &&& (1 : Int32)), vI (Int32.ofNat i)] [(.int (Int32.ofNat d0))])
   exact Go.retI X0 hx hlk _H (hb hby d31_51) (by decide) (by decide) ⟨d0, rfl, N0, (by rw [e0]; exact K0), (by rw [e0]; exact GR), (by rw [e0]; exact NA.up), hd0, s0⟩
  · --
   refine gs ?_ fun _ _k => XS.ifNo X0.here hx rfl (hb hby d31_23) rfl ((if0 _ _).trans (feq _h).1) _k
   refine gs ?_ fun _ _k => XS.aloadN X0.here hx rfl (hb hby d31_26) rfl rfl _k
   refine gs ?_ fun _ _k => XT.iconstV X0.here hx rfl (0 : Int32) (hb hby d31_27) (by decide) _k
   show Go p e s _a _ _ _ s₁ (mkF m 28 #[vR gr, vI tt, vI (0 : Int32), vI (Int32.ofNat A0), vI a1, vI (Int32.ofNat d0), vI (tt &&& (1 : Int32)), vI (Int32.ofNat i)] [(.int 0), (.ref gr)])
   refine Go.callS (W := 1) (argsL := [(.int 0)]) (rest := [(.ref gr)]) X0 hx hZ _g (y := mn_27) (qw hw 39 rfl) (qw hw 40 rfl) (qw hw 41 rfl) (qw hw 42 rfl) (rmVO0 l Z a0 hw [] ca cl ka h0 n0 (Nat.le_trans Z0 K0.1) ZN EZ SH SC BX hia) e0 (by decide) (by rw [hml]; rfl) (lenOf pd26 rfl) (Nat.le_of_eq rfl) (hb hby d31_28) ?_
   intro T3 v3 L3 h3 e3 X3 hQ3
   obtain ⟨rfl, N3, K3⟩ := hQ3
   have M3 := Fr.app N0 N3
   refine gs ?_ fun _ _k => XS.iload X3.here hx rfl (hb hby d31_31) rfl _k
   refine gs ?_ fun _ _k => XS.iloadN X3.here hx rfl (hb hby d31_33) rfl _k
   show Go p e s _a _ _ _ T3 (mkF m 34 #[vR gr, vI tt, vI (0 : Int32), vI (Int32.ofNat A0), vI a1, vI (Int32.ofNat d0), vI (tt &&& (1 : Int32)), vI (Int32.ofNat i)] [(.int tt), (.int (Int32.ofNat i)), (.ref ka), (.ref gr)])
   have K_3 := K0.ext K3
   have _J := own_extE EZ K3
   refine Go.callS (W := 3) (argsL := [(.int tt)]) (rest := [(.int (Int32.ofNat i)), (.ref ka), (.ref gr)]) X3 hx hZ _g (y := mn_58) (qw hw 331 rfl) (qw hw 332 rfl) (qw hw 48 rfl) (qw hw 333 rfl) (rmTM l Z a0 hw [] ca cl ka kb kc SH SC BX hia hib hic BK tt h3 n0 (Nat.le_trans Z0 K_3.1) ZN _J) e3 (by decide) (by rw [hml]; rfl) (lenOf pd26 rfl) (Nat.le_of_eq rfl) (hb hby d31_34) ?_
   intro T4 v4 L4 h4 e4 X4 hQ4
   obtain ⟨to4, rfl, ik4, N4, E4⟩ := hQ4
   have M4 := Fr.app M3 N4
   show Go p e s _a _ _ _ T4 (mkF m 37 #[vR gr, vI tt, vI (0 : Int32), vI (Int32.ofNat A0), vI a1, vI (Int32.ofNat d0), vI (tt &&& (1 : Int32)), vI (Int32.ofNat i)] [to4, (.int (Int32.ofNat i)), (.ref ka), (.ref gr)])
   have K_4 := K_3.ext E4
   have _K := (GR.ext K3).ext E4
   have _P := own_extE _J E4
   have _Q := (NA.ext K3).ext E4
   have _R := (MK.ext K3).ext E4
   refine Go.callV (b := gr) (W := 0) (argsL := [(.ref ka), (.int (Int32.ofNat i)), to4]) (rest := []) X4 hx hZ _g (y := mn_63) (z := mn_63) (qw hw 334 rfl) (qw hw 335 rfl) (notFace_of_selects (args := #[]) (mvT hZ (qw hw 337 rfl))) (qw hw 337 rfl) (qw hw 336 rfl) (qw hw 2 rfl) (qw hw 338 rfl) (rmTKG l Z a0 hw [] false mp tb ea ea _I ka kb na na kc ac ka to4 b d0 0 gr na nxa tma nna kxa kta kna i hi h4 n0 (Nat.le_trans Z0 K_4.1) ZN _P _O _L _M _N _K _Q _R _o _q _r _G _A _B _C _i _j _k _E _t _u _v _F _w _y _z _f _b _c _d _f _b _c _d BK nab nac nbc (Or.inl ⟨rfl, rfl⟩) ik4 hbd) e4 (GrB.exa _K) (by decide) (by rw [hml]; rfl) (lenOf pd33 rfl) (Nat.le_of_eq rfl) (hb hby d31_37) ?_
   intro T5 v5 L5 h5 e5 X5 hQ5
   obtain ⟨z5, rfl, N5, K5, G5, D5⟩ := hQ5
   have M5 := Fr.app M4 N5
   refine gs ?_ fun _ _k => XS.pop X5.here hx rfl (hb hby d31_40) rfl rfl _k
   refine gs ?_ fun _ _k => XS.iload X5.here hx rfl (hb hby d31_41) rfl _k
   refine gs ?_ fun _ _k => XT.iconstV X5.here hx rfl (1 : Int32) (hb hby d31_43) (by decide) _k
   refine gs ?_ fun _ _k => XS.iload X5.here hx rfl (hb hby d31_44) rfl _k
   refine gs ?_ fun _ _k => XS.ishl X5.here hx rfl (hb hby d31_46) rfl _k
   refine gs ?_ fun _ _k => XS.ior X5.here hx rfl (hb hby d31_47) rfl _k
   show Go p e s _a _ _ _ T5 (mkF m 48 #[vR gr, vI tt, vI (0 : Int32), vI (Int32.ofNat A0), vI a1, vI (Int32.ofNat d0), vI (tt &&& (1 : Int32)), vI (Int32.ofNat i)] [(.int ((Int32.ofNat d0) ||| ((1 : Int32) <<< ((Int32.ofNat i) &&& 31))))])
   have K_5 := K_4.trans K5 (allS (Or.inl (by simp)) (allS (Or.inl (by simp)) (allS (Or.inl (by simp)) (allS (Or.inl (by simp)) all0))))
   exact Go.retI X5 hx hlk _H (hb hby d31_48) (by decide) (by decide) ⟨(own_sb i d0), congrArg (fun z => some (Value.int z)) (own_oa i hi d0 hd0), M5, (by rw [e5]; exact K_5), (by rw [e5]; exact G5), (by rw [e5]; exact D5), (own_sb_lt i hi d0 hd0), (own_od i hi A0 hA0 _h d0 hd0 s0)⟩
 · --
  refine gs ?_ fun _ _k => XS.ifYes X0.here hx rfl (pc0 := 14) (pc' := 52) rfl (hb hby d31_14) rfl ((if0 _ _).trans (feq _D).2) (by decide) (by decide) _k
  refine gs ?_ fun _ _k => XS.iloadN X0.here hx rfl (hb hby d31_52) rfl _k
  refine gs ?_ fun _ _k => XS.ifYes X0.here hx rfl (pc0 := 53) (pc' := 90) rfl (hb hby d31_53) rfl ((if0 _ _).trans (teq rfl).1) (by decide) (by decide) _k
  refine gs ?_ fun _ _k => XS.iload X0.here hx rfl (hb hby d31_90) rfl _k
  show Go p e s _a _ _ _ s₁ (mkF m 92 #[vR gr, vI tt, vI (0 : Int32), vI (Int32.ofNat A0), vI a1, vI (Int32.ofNat d0), vI (tt &&& (1 : Int32)), vI (((tt.toUInt32 >>> ((1 : Int32) &&& 31).toUInt32).toInt32) % (3 : Int32))] [(.int (Int32.ofNat d0))])
  exact Go.retI X0 hx hlk _H (hb hby d31_92) (by decide) (by decide) ⟨d0, rfl, N0, (by rw [e0]; exact K0), (by rw [e0]; exact GR), (by rw [e0]; exact NA.up), hd0, s0⟩
theorem d31_56 : decode bc31 56 = .ok (.iload 4, 2) := by decide +kernel
theorem d31_58 : decode bc31 58 = .ok (.iconst 1, 1) := by decide +kernel
theorem d31_59 : decode bc31 59 = .ok (.iload 7, 2) := by decide +kernel
theorem d31_61 : decode bc31 61 = .ok (.ishl, 1) := by decide +kernel
theorem d31_62 : decode bc31 62 = .ok (.iand, 1) := by decide +kernel
theorem d31_63 : decode bc31 63 = .ok (.ifCond .eq 27, 3) := by decide +kernel
theorem d31_66 : decode bc31 66 = .ok (.aload_n 0, 1) := by decide +kernel
theorem d31_67 : decode bc31 67 = .ok (.iconst 1, 1) := by decide +kernel
theorem d31_68 : decode bc31 68 = .ok (.invokestatic 10, 3) := by decide +kernel
theorem d31_71 : decode bc31 71 = .ok (.iload 7, 2) := by decide +kernel
theorem d31_73 : decode bc31 73 = .ok (.iload_n 1, 1) := by decide +kernel
theorem d31_74 : decode bc31 74 = .ok (.invokestatic 20, 3) := by decide +kernel
theorem d31_77 : decode bc31 77 = .ok (.invokevirtual 25, 3) := by decide +kernel
theorem d31_80 : decode bc31 80 = .ok (.pop, 1) := by decide +kernel
theorem d31_81 : decode bc31 81 = .ok (.iload 5, 2) := by decide +kernel
theorem d31_83 : decode bc31 83 = .ok (.bipush 8, 2) := by decide +kernel
theorem d31_85 : decode bc31 85 = .ok (.iload 7, 2) := by decide +kernel
theorem d31_87 : decode bc31 87 = .ok (.ishl, 1) := by decide +kernel
theorem d31_88 : decode bc31 88 = .ok (.ior, 1) := by decide +kernel
theorem d31_89 : decode bc31 89 = .ok (.ireturn, 1) := by decide +kernel
theorem ef_ST1 (m : MethodId) (x0 : Addr) (x1 : Int32) (x2 : Int32) (x3 : Int32) (x4 : Int32) (x5 : Int32) : entryFrame m #[(.ref x0), (.int x1), (.int x2), (.int x3), (.int x4), (.int x5)] 8 = mkF m 0 #[.val (.ref x0), .val (.int x1), .val (.int x2), .val (.int x3), .val (.int x4), .val (.int x5), .unset, .unset] [] := by first | (simp [entryFrame, mkF, argsToLocals, Value.category]; done) | rfl
theorem rmST1 (l : Launch) (Z : State) (a0 : Array Value) (hw : HW a0 Z) (ws : List Jvm.Cond) (ca : Addr) (cl : Cell) (ka : Addr) (kb : Addr) (kc : Addr) (gr : Addr) (mp : Addr) (tb : Addr) (ea : Addr) (eb : Addr) (na : Addr) (nxa : Addr) (tma : Addr) (nna : Addr) (nb : Addr) (nxb : Addr) (tmb : Addr) (nnb : Addr) (_Ia : ClassId) (kxa : ClassId) (kta : ClassId) (kna : ClassId) (kxb : ClassId) (ktb : ClassId) (knb : ClassId) (ac : Int32) (tt : Int32) (A0 : Nat) (d0 : Nat) (b : Nat) (A1 : Nat) (d1 : Nat) (h0 : Heap) (n0 : Nat) (Z0 : n0 ≤ h0.size) (ZN : Z.heap.size ≤ n0) (EZ : Ext Z.heap h0) (_Ja : n0 ≤ gr) (_Oa : n0 ≤ nxa) (_Pa : n0 ≤ tma) (_Qa : n0 ≤ nna) (_Ra : n0 ≤ nxb) (_Sa : n0 ≤ tmb) (_Ta : n0 ≤ nnb) (GR : GrB Z h0 true gr mp ka kb na nb ac (Int32.ofNat (own_pop d0 + own_pop d1))) (MK : MapOK Z h0 true mp tb ea eb _Ia ka kb na nb) (NA : NodB Z h0 true na nxa tma nna kxa kta kna ka kb kc na nb d0 b) (NB : NodB Z h0 true nb nxb tmb nnb kxb ktb knb ka kb kc na nb d1 b) (_q : gr ≠ nxa) (_r : gr ≠ tma) (_t : gr ≠ nna) (_u : gr ≠ nxb) (_v : gr ≠ tmb) (_w : gr ≠ nnb) (_y : mp ≠ gr) (_N : mp ≠ nxa) (_O : mp ≠ tma) (_P : mp ≠ nna) (_Q : mp ≠ nxb) (_R : mp ≠ tmb) (_S : mp ≠ nnb) (_z : tb ≠ gr) (_T : tb ≠ nxa) (_U : tb ≠ tma) (_V : tb ≠ nna) (_W : tb ≠ nxb) (_aa : tb ≠ tmb) (_ba : tb ≠ nnb) (_A : ea ≠ gr) (_ca : ea ≠ nxa) (_da : ea ≠ tma) (_fa : ea ≠ nna) (_ga : ea ≠ nxb) (_ha : ea ≠ tmb) (_ia : ea ≠ nnb) (_B : eb ≠ gr) (_ja : eb ≠ nxa) (_ka : eb ≠ tma) (_oa : eb ≠ nna) (_qa : eb ≠ nxb) (_ra : eb ≠ tmb) (_ta : eb ≠ nnb) (_C : na ≠ gr) (_ua : na ≠ nxa) (_va : na ≠ tma) (_wa : na ≠ nna) (_ya : na ≠ nxb) (_za : na ≠ tmb) (_Aa : na ≠ nnb) (_G : nxa ≠ tma) (_H : nxa ≠ nna) (_c : nxa ≠ nxb) (_d : nxa ≠ tmb) (_f : nxa ≠ nnb) (_I : tma ≠ nna) (_g : tma ≠ nxb) (_h : tma ≠ tmb) (_i : tma ≠ nnb) (_j : nna ≠ nxb) (_k : nna ≠ tmb) (_o : nna ≠ nnb) (_D : nb ≠ gr) (_Ba : nb ≠ nxa) (_Ca : nb ≠ tma) (_Da : nb ≠ nna) (_Ea : nb ≠ nxb) (_Fa : nb ≠ tmb) (_Ga : nb ≠ nnb) (_J : nxb ≠ tmb) (_K : nxb ≠ nnb) (_L : tmb ≠ nnb) (SH : Sta Z Z.heap s_n "high" "I" (.int 127)) (SC : Sta Z Z.heap s_n "cache" "[Ljava/lang/Integer;" (.ref ca)) (BX : Bxs Z ca cl s_i "I" 256 (fun j => .int (j - 128))) (hia : cl.slots[128]? = some (.ref ka)) (hib : cl.slots[129]? = some (.ref kb)) (hic : cl.slots[130]? = some (.ref kc)) (BK : BXK Z Z.heap ka kb kc) (nab : ¬ ka = kb) (nac : ¬ ka = kc) (nbc : ¬ kb = kc) (hA0 : A0 < 8) (hd0 : d0 < 8) (s0 : own_sub d0 A0 = true) (hbd : b < 100) (hA1 : A1 < 8) (hd1 : d1 < 8) (s1 : own_sub d1 A1 = true) :
  Meets l Z mn_64 method_4_code 8 (some .int) ({ frames := 7, cells := 0, slots := 0, locals := 102 } : Room) ws #[(.ref gr), (.int tt), (.int 1), (.int (Int32.ofNat A0)), (.int (Int32.ofNat A1)), (.int (Int32.ofNat (d0 + 8 * d1)))] h0 (fun v h L => ∃ e0' e1', v = some (.int (Int32.ofNat (e0' + 8 * e1'))) ∧ Fr n0 L ∧ Keep h0 h [gr, nxa, tma, nna, nxb, tmb, nnb] ∧ GrB Z h true gr mp ka kb na nb ac (Int32.ofNat (own_pop e0' + own_pop e1')) ∧ NodB Z h true na nxa tma nna kxa kta kna ka kb kc na nb e0' (b + 1) ∧ NodB Z h true nb nxb tmb nnb kxb ktb knb ka kb kc na nb e1' (b + 1) ∧ e0' < 8 ∧ own_sub e0' A0 = true ∧ e1' < 8 ∧ own_sub e1' A1 = true) := by
 refine Meets.of (plainFor_of_name pn_18) ?_
 intro p e s m _a _gb c s₁ X0 hx hby hml _M hlk hnm hZ _b e0
 replace _b : s.vm.findClass s_t = some m.cls := _b
 have N0 := Fr.nil n0
 have K0 := Keep.refl h0 [gr, nxa, tma, nna, nxb, tmb, nnb]
 refine Go.cast (ef_ST1 m gr tt (1 : Int32) (Int32.ofNat A0) (Int32.ofNat A1) (Int32.ofNat (d0 + 8 * d1))) ?_
 show Go p e s _a _ _ _ s₁ (mkF m 0 #[vR gr, vI tt, vI (1 : Int32), vI (Int32.ofNat A0), vI (Int32.ofNat A1), vI (Int32.ofNat (d0 + 8 * d1)), vU, vU] [])
 refine gs ?_ fun _ _k => XS.iloadN X0.here hx rfl (hb hby d31_0) rfl _k
 refine gs ?_ fun _ _k => XT.iconstV X0.here hx rfl (1 : Int32) (hb hby d31_1) (by decide) _k
 refine gs ?_ fun _ _k => XS.iand X0.here hx rfl (hb hby d31_2) rfl _k
 refine gs ?_ fun _ _k => XS.istore X0.here hx rfl (hb hby d31_3) rfl (l' := #[vR gr, vI tt, vI (1 : Int32), vI (Int32.ofNat A0), vI (Int32.ofNat A1), vI (Int32.ofNat (d0 + 8 * d1)), vI (tt &&& (1 : Int32)), vU]) rfl _k
 refine gs ?_ fun _ _k => XS.iloadN X0.here hx rfl (hb hby d31_5) rfl _k
 refine gs ?_ fun _ _k => XT.iconstV X0.here hx rfl (1 : Int32) (hb hby d31_6) (by decide) _k
 refine gs ?_ fun _ _k => XS.iushr X0.here hx rfl (hb hby d31_7) rfl _k
 refine gs ?_ fun _ _k => XT.iconstV X0.here hx rfl (3 : Int32) (hb hby d31_8) (by decide) _k
 refine gs ?_ fun _ _k => iremM X0 hx rfl (hb hby d31_9) rfl (by decide) _k
 refine gs ?_ fun _ _k => XS.istore X0.here hx rfl (hb hby d31_10) rfl (l' := #[vR gr, vI tt, vI (1 : Int32), vI (Int32.ofNat A0), vI (Int32.ofNat A1), vI (Int32.ofNat (d0 + 8 * d1)), vI (tt &&& (1 : Int32)), vI (((tt.toUInt32 >>> ((1 : Int32) &&& 31).toUInt32).toInt32) % (3 : Int32))]) rfl _k
 refine gs ?_ fun _ _k => XS.iload X0.here hx rfl (hb hby d31_12) rfl _k
 by_cases _Ha : (tt &&& (1 : Int32)) = (0 : Int32)
 · --
  refine gs ?_ fun _ _k => XS.ifNo X0.here hx rfl (hb hby d31_14) rfl ((if0 _ _).trans (teq _Ha).2) _k
  show Go p e s _a _ _ _ s₁ (mkF m 17 #[vR gr, vI tt, vI (1 : Int32), vI (Int32.ofNat A0), vI (Int32.ofNat A1), vI (Int32.ofNat (d0 + 8 * d1)), vI (tt &&& (1 : Int32)), vI (((tt.toUInt32 >>> ((1 : Int32) &&& 31).toUInt32).toInt32) % (3 : Int32))] [])
  obtain ⟨i, hi, hk⟩ := own_r3 tt
  rw [hk]
  show Go p e s _a _ _ _ s₁ (mkF m 17 #[vR gr, vI tt, vI (1 : Int32), vI (Int32.ofNat A0), vI (Int32.ofNat A1), vI (Int32.ofNat (d0 + 8 * d1)), vI (tt &&& (1 : Int32)), vI (Int32.ofNat i)] [])
  refine gs ?_ fun _ _k => XS.iloadN X0.here hx rfl (hb hby d31_17) rfl _k
  refine gs ?_ fun _ _k => XT.iconstV X0.here hx rfl (1 : Int32) (hb hby d31_18) (by decide) _k
  refine gs ?_ fun _ _k => XS.iload X0.here hx rfl (hb hby d31_19) rfl _k
  refine gs ?_ fun _ _k => XS.ishl X0.here hx rfl (hb hby d31_21) rfl _k
  refine gs ?_ fun _ _k => XS.iand X0.here hx rfl (hb hby d31_22) rfl _k
  by_cases _E : ((Int32.ofNat A0) &&& ((1 : Int32) <<< ((Int32.ofNat i) &&& 31))) = (0 : Int32)
  · --
   refine gs ?_ fun _ _k => XS.ifYes X0.here hx rfl (pc0 := 23) (pc' := 49) rfl (hb hby d31_23) rfl ((if0 _ _).trans (teq _E).1) (by decide) (by decide) _k
   refine gs ?_ fun _ _k => XS.iload X0.here hx rfl (hb hby d31_49) rfl _k
   show Go p e s _a _ _ _ s₁ (mkF m 51 #[vR gr, vI tt, vI (1 : Int32), vI (Int32.ofNat A0), vI (Int32.ofNat A1), vI (Int32.ofNat (d0 + 8 * d1)), vI (tt &&& (1 : Int32)), vI (Int32.ofNat i)] [(.int (Int32.ofNat (d0 + 8 * d1)))])
   exact Go.retI X0 hx hlk _M (hb hby d31_51) (by decide) (by decide) ⟨d0, d1, rfl, N0, (by rw [e0]; exact K0), (by rw [e0]; exact GR), (by rw [e0]; exact NA.up), (by rw [e0]; exact NB.up), hd0, s0, hd1, s1⟩
  · --
   refine gs ?_ fun _ _k => XS.ifNo X0.here hx rfl (hb hby d31_23) rfl ((if0 _ _).trans (feq _E).1) _k
   refine gs ?_ fun _ _k => XS.aloadN X0.here hx rfl (hb hby d31_26) rfl rfl _k
   refine gs ?_ fun _ _k => XT.iconstV X0.here hx rfl (0 : Int32) (hb hby d31_27) (by decide) _k
   show Go p e s _a _ _ _ s₁ (mkF m 28 #[vR gr, vI tt, vI (1 : Int32), vI (Int32.ofNat A0), vI (Int32.ofNat A1), vI (Int32.ofNat (d0 + 8 * d1)), vI (tt &&& (1 : Int32)), vI (Int32.ofNat i)] [(.int 0), (.ref gr)])
   refine Go.callS (W := 1) (argsL := [(.int 0)]) (rest := [(.ref gr)]) X0 hx hZ _b (y := mn_27) (qw hw 39 rfl) (qw hw 40 rfl) (qw hw 41 rfl) (qw hw 42 rfl) (rmVO0 l Z a0 hw [] ca cl ka h0 n0 (Nat.le_trans Z0 K0.1) ZN EZ SH SC BX hia) e0 (by decide) (by rw [hml]; rfl) (lenOf pd26 rfl) (Nat.le_of_eq rfl) (hb hby d31_28) ?_
   intro T3 v3 L3 h3 e3 X3 hQ3
   obtain ⟨rfl, N3, K3⟩ := hQ3
   have M3 := Fr.app N0 N3
   refine gs ?_ fun _ _k => XS.iload X3.here hx rfl (hb hby d31_31) rfl _k
   refine gs ?_ fun _ _k => XS.iloadN X3.here hx rfl (hb hby d31_33) rfl _k
   show Go p e s _a _ _ _ T3 (mkF m 34 #[vR gr, vI tt, vI (1 : Int32), vI (Int32.ofNat A0), vI (Int32.ofNat A1), vI (Int32.ofNat (d0 + 8 * d1)), vI (tt &&& (1 : Int32)), vI (Int32.ofNat i)] [(.int tt), (.int (Int32.ofNat i)), (.ref ka), (.ref gr)])
   have K_3 := K0.ext K3
   have _Ka := own_extE EZ K3
   refine Go.callS (W := 3) (argsL := [(.int tt)]) (rest := [(.int (Int32.ofNat i)), (.ref ka), (.ref gr)]) X3 hx hZ _b (y := mn_58) (qw hw 331 rfl) (qw hw 332 rfl) (qw hw 48 rfl) (qw hw 333 rfl) (rmTM l Z a0 hw [] ca cl ka kb kc SH SC BX hia hib hic BK tt h3 n0 (Nat.le_trans Z0 K_3.1) ZN _Ka) e3 (by decide) (by rw [hml]; rfl) (lenOf pd26 rfl) (Nat.le_of_eq rfl) (hb hby d31_34) ?_
   intro T4 v4 L4 h4 e4 X4 hQ4
   obtain ⟨to4, rfl, ik4, N4, E4⟩ := hQ4
   have M4 := Fr.app M3 N4
   show Go p e s _a _ _ _ T4 (mkF m 37 #[vR gr, vI tt, vI (1 : Int32), vI (Int32.ofNat A0), vI (Int32.ofNat A1), vI (Int32.ofNat (d0 + 8 * d1)), vI (tt &&& (1 : Int32)), vI (Int32.ofNat i)] [to4, (.int (Int32.ofNat i)), (.ref ka), (.ref gr)])
   have K_4 := K_3.ext E4
   have _La := (GR.ext K3).ext E4
   have _Ua := own_extE _Ka E4
   have _Va := (NA.ext K3).ext E4
   have _Wa := (MK.ext K3).ext E4
   refine Go.callV (b := gr) (W := 0) (argsL := [(.ref ka), (.int (Int32.ofNat i)), to4]) (rest := []) X4 hx hZ _b (y := mn_63) (z := mn_63) (qw hw 334 rfl) (qw hw 335 rfl) (notFace_of_selects (args := #[]) (mvT hZ (qw hw 337 rfl))) (qw hw 337 rfl) (qw hw 336 rfl) (qw hw 2 rfl) (qw hw 338 rfl) (rmTKG l Z a0 hw [] true mp tb ea eb _Ia ka kb na nb kc ac ka to4 b d0 (own_pop d1) gr na nxa tma nna kxa kta kna i hi h4 n0 (Nat.le_trans Z0 K_4.1) ZN _Ua _Ja _Oa _Pa _Qa _La _Va _Wa _q _r _t _C _ua _va _wa _G _H _I _y _N _O _P _z _T _U _V _A _ca _da _fa _B _ja _ka _oa BK nab nac nbc (Or.inl ⟨rfl, rfl⟩) ik4 hbd) e4 (GrB.exa _La) (by decide) (by rw [hml]; rfl) (lenOf pd33 rfl) (Nat.le_of_eq rfl) (hb hby d31_37) ?_
   intro T5 v5 L5 h5 e5 X5 hQ5
   obtain ⟨z5, rfl, N5, K5, G5, D5⟩ := hQ5
   have M5 := Fr.app M4 N5
   refine gs ?_ fun _ _k => XS.pop X5.here hx rfl (hb hby d31_40) rfl rfl _k
   refine gs ?_ fun _ _k => XS.iload X5.here hx rfl (hb hby d31_41) rfl _k
   refine gs ?_ fun _ _k => XT.iconstV X5.here hx rfl (1 : Int32) (hb hby d31_43) (by decide) _k
   refine gs ?_ fun _ _k => XS.iload X5.here hx rfl (hb hby d31_44) rfl _k
   refine gs ?_ fun _ _k => XS.ishl X5.here hx rfl (hb hby d31_46) rfl _k
   refine gs ?_ fun _ _k => XS.ior X5.here hx rfl (hb hby d31_47) rfl _k
   show Go p e s _a _ _ _ T5 (mkF m 48 #[vR gr, vI tt, vI (1 : Int32), vI (Int32.ofNat A0), vI (Int32.ofNat A1), vI (Int32.ofNat (d0 + 8 * d1)), vI (tt &&& (1 : Int32)), vI (Int32.ofNat i)] [(.int ((Int32.ofNat (d0 + 8 * d1)) ||| ((1 : Int32) <<< ((Int32.ofNat i) &&& 31))))])
   have _ab := ((NB.ext K3).ext E4).keep K5 (ninS _D (ninS _Ba (ninS _Ca (ninS _Da nin0)))) (ninS (Ne.symm _u) (ninS (Ne.symm _c) (ninS (Ne.symm _g) (ninS (Ne.symm _j) nin0)))) (ninS (Ne.symm _v) (ninS (Ne.symm _d) (ninS (Ne.symm _h) (ninS (Ne.symm _k) nin0)))) (ninS (Ne.symm _w) (ninS (Ne.symm _f) (ninS (Ne.symm _i) (ninS (Ne.symm _o) nin0))))
   have K_5 := K_4.trans K5 (allS (Or.inl (by simp)) (allS (Or.inl (by simp)) (allS (Or.inl (by simp)) (allS (Or.inl (by simp)) all0))))
   exact Go.retI X5 hx hlk _M (hb hby d31_48) (by decide) (by decide) ⟨(own_sb i d0), d1, congrArg (fun z => some (Value.int z)) (own_ob i hi d0 hd0 d1 hd1), M5, (by rw [e5]; exact K_5), (by rw [e5]; exact G5), (by rw [e5]; exact D5), (by rw [e5]; exact _ab.up), (own_sb_lt i hi d0 hd0), (own_od i hi A0 hA0 _E d0 hd0 s0), hd1, s1⟩
 · --
  refine gs ?_ fun _ _k => XS.ifYes X0.here hx rfl (pc0 := 14) (pc' := 52) rfl (hb hby d31_14) rfl ((if0 _ _).trans (feq _Ha).2) (by decide) (by decide) _k
  refine gs ?_ fun _ _k => XS.iloadN X0.here hx rfl (hb hby d31_52) rfl _k
  refine gs ?_ fun _ _k => XS.ifNo X0.here hx rfl (hb hby d31_53) rfl ((if0 _ _).trans (feq (by decide : ¬ ((1 : Int32) = (0 : Int32)))).1) _k
  show Go p e s _a _ _ _ s₁ (mkF m 56 #[vR gr, vI tt, vI (1 : Int32), vI (Int32.ofNat A0), vI (Int32.ofNat A1), vI (Int32.ofNat (d0 + 8 * d1)), vI (tt &&& (1 : Int32)), vI (((tt.toUInt32 >>> ((1 : Int32) &&& 31).toUInt32).toInt32) % (3 : Int32))] [])
  obtain ⟨i, hi, hk⟩ := own_r3 tt
  rw [hk]
  show Go p e s _a _ _ _ s₁ (mkF m 56 #[vR gr, vI tt, vI (1 : Int32), vI (Int32.ofNat A0), vI (Int32.ofNat A1), vI (Int32.ofNat (d0 + 8 * d1)), vI (tt &&& (1 : Int32)), vI (Int32.ofNat i)] [])
  refine gs ?_ fun _ _k => XS.iload X0.here hx rfl (hb hby d31_56) rfl _k
  refine gs ?_ fun _ _k => XT.iconstV X0.here hx rfl (1 : Int32) (hb hby d31_58) (by decide) _k
  refine gs ?_ fun _ _k => XS.iload X0.here hx rfl (hb hby d31_59) rfl _k
  refine gs ?_ fun _ _k => XS.ishl X0.here hx rfl (hb hby d31_61) rfl _k
  refine gs ?_ fun _ _k => XS.iand X0.here hx rfl (hb hby d31_62) rfl _k
  by_cases _F : ((Int32.ofNat A1) &&& ((1 : Int32) <<< ((Int32.ofNat i) &&& 31))) = (0 : Int32)
  · --
   refine gs ?_ fun _ _k => XS.ifYes X0.here hx rfl (pc0 := 63) (pc' := 90) rfl (hb hby d31_63) rfl ((if0 _ _).trans (teq _F).1) (by decide) (by decide) _k
   refine gs ?_ fun _ _k => XS.iload X0.here hx rfl (hb hby d31_90) rfl _k
   show Go p e s _a _ _ _ s₁ (mkF m 92 #[vR gr, vI tt, vI (1 : Int32), vI (Int32.ofNat A0), vI (Int32.ofNat A1), vI (Int32.ofNat (d0 + 8 * d1)), vI (tt &&& (1 : Int32)), vI (Int32.ofNat i)] [(.int (Int32.ofNat (d0 + 8 * d1)))])
   exact Go.retI X0 hx hlk _M (hb hby d31_92) (by decide) (by decide) ⟨d0, d1, rfl, N0, (by rw [e0]; exact K0), (by rw [e0]; exact GR), (by rw [e0]; exact NA.up), (by rw [e0]; exact NB.up), hd0, s0, hd1, s1⟩
  · --
   refine gs ?_ fun _ _k => XS.ifNo X0.here hx rfl (hb hby d31_63) rfl ((if0 _ _).trans (feq _F).1) _k
   refine gs ?_ fun _ _k => XS.aloadN X0.here hx rfl (hb hby d31_66) rfl rfl _k
   refine gs ?_ fun _ _k => XT.iconstV X0.here hx rfl (1 : Int32) (hb hby d31_67) (by decide) _k
   show Go p e s _a _ _ _ s₁ (mkF m 68 #[vR gr, vI tt, vI (1 : Int32), vI (Int32.ofNat A0), vI (Int32.ofNat A1), vI (Int32.ofNat (d0 + 8 * d1)), vI (tt &&& (1 : Int32)), vI (Int32.ofNat i)] [(.int 1), (.ref gr)])
   refine Go.callS (W := 1) (argsL := [(.int 1)]) (rest := [(.ref gr)]) X0 hx hZ _b (y := mn_27) (qw hw 39 rfl) (qw hw 40 rfl) (qw hw 41 rfl) (qw hw 42 rfl) (rmVO1 l Z a0 hw [] ca cl kb h0 n0 (Nat.le_trans Z0 K0.1) ZN EZ SH SC BX hib) e0 (by decide) (by rw [hml]; rfl) (lenOf pd26 rfl) (Nat.le_of_eq rfl) (hb hby d31_68) ?_
   intro T7 v7 L7 h7 e7 X7 hQ7
   obtain ⟨rfl, N7, K7⟩ := hQ7
   have M7 := Fr.app N0 N7
   refine gs ?_ fun _ _k => XS.iload X7.here hx rfl (hb hby d31_71) rfl _k
   refine gs ?_ fun _ _k => XS.iloadN X7.here hx rfl (hb hby d31_73) rfl _k
   show Go p e s _a _ _ _ T7 (mkF m 74 #[vR gr, vI tt, vI (1 : Int32), vI (Int32.ofNat A0), vI (Int32.ofNat A1), vI (Int32.ofNat (d0 + 8 * d1)), vI (tt &&& (1 : Int32)), vI (Int32.ofNat i)] [(.int tt), (.int (Int32.ofNat i)), (.ref kb), (.ref gr)])
   have K_7 := K0.ext K7
   have _Ma := own_extE EZ K7
   refine Go.callS (W := 3) (argsL := [(.int tt)]) (rest := [(.int (Int32.ofNat i)), (.ref kb), (.ref gr)]) X7 hx hZ _b (y := mn_58) (qw hw 331 rfl) (qw hw 332 rfl) (qw hw 48 rfl) (qw hw 333 rfl) (rmTM l Z a0 hw [] ca cl ka kb kc SH SC BX hia hib hic BK tt h7 n0 (Nat.le_trans Z0 K_7.1) ZN _Ma) e7 (by decide) (by rw [hml]; rfl) (lenOf pd26 rfl) (Nat.le_of_eq rfl) (hb hby d31_74) ?_
   intro T8 v8 L8 h8 e8 X8 hQ8
   obtain ⟨to8, rfl, ik8, N8, E8⟩ := hQ8
   have M8 := Fr.app M7 N8
   show Go p e s _a _ _ _ T8 (mkF m 77 #[vR gr, vI tt, vI (1 : Int32), vI (Int32.ofNat A0), vI (Int32.ofNat A1), vI (Int32.ofNat (d0 + 8 * d1)), vI (tt &&& (1 : Int32)), vI (Int32.ofNat i)] [to8, (.int (Int32.ofNat i)), (.ref kb), (.ref gr)])
   have K_8 := K_7.ext E8
   have _Na := (GR.ext K7).ext E8
   have _bb := own_extE _Ma E8
   have _cb := (NB.ext K7).ext E8
   have _db := (MK.ext K7).ext E8
   refine Go.callV (b := gr) (W := 0) (argsL := [(.ref kb), (.int (Int32.ofNat i)), to8]) (rest := []) X8 hx hZ _b (y := mn_63) (z := mn_63) (qw hw 334 rfl) (qw hw 335 rfl) (notFace_of_selects (args := #[]) (mvT hZ (qw hw 337 rfl))) (qw hw 337 rfl) (qw hw 336 rfl) (qw hw 2 rfl) (qw hw 338 rfl) (rmTKG l Z a0 hw [] true mp tb ea eb _Ia ka kb na nb kc ac kb to8 b d1 (own_pop d0) gr nb nxb tmb nnb kxb ktb knb i hi h8 n0 (Nat.le_trans Z0 K_8.1) ZN _bb _Ja _Ra _Sa _Ta (by rw [Nat.add_comm (own_pop d1)]; exact _Na) _cb _db _u _v _w _D _Ea _Fa _Ga _J _K _L _y _Q _R _S _z _W _aa _ba _A _ga _ha _ia _B _qa _ra _ta BK nab nac nbc (Or.inr ⟨rfl, rfl, rfl⟩) ik8 hbd) e8 (GrB.exa _Na) (by decide) (by rw [hml]; rfl) (lenOf pd33 rfl) (Nat.le_of_eq rfl) (hb hby d31_77) ?_
   intro T9 v9 L9 h9 e9 X9 hQ9
   obtain ⟨z9, rfl, N9, K9, G9, D9⟩ := hQ9
   have M9 := Fr.app M8 N9
   refine gs ?_ fun _ _k => XS.pop X9.here hx rfl (hb hby d31_80) rfl rfl _k
   refine gs ?_ fun _ _k => XS.iload X9.here hx rfl (hb hby d31_81) rfl _k
   refine gs ?_ fun _ _k => XT.bipushV X9.here hx rfl (8 : Int32) (hb hby d31_83) (by decide) _k
   refine gs ?_ fun _ _k => XS.iload X9.here hx rfl (hb hby d31_85) rfl _k
   refine gs ?_ fun _ _k => XS.ishl X9.here hx rfl (hb hby d31_87) rfl _k
   refine gs ?_ fun _ _k => XS.ior X9.here hx rfl (hb hby d31_88) rfl _k
   show Go p e s _a _ _ _ T9 (mkF m 89 #[vR gr, vI tt, vI (1 : Int32), vI (Int32.ofNat A0), vI (Int32.ofNat A1), vI (Int32.ofNat (d0 + 8 * d1)), vI (tt &&& (1 : Int32)), vI (Int32.ofNat i)] [(.int ((Int32.ofNat (d0 + 8 * d1)) ||| ((8 : Int32) <<< ((Int32.ofNat i) &&& 31))))])
   have _fb := ((NA.ext K7).ext E8).keep K9 (ninS _C (ninS _ya (ninS _za (ninS _Aa nin0)))) (ninS (Ne.symm _q) (ninS _c (ninS _d (ninS _f nin0)))) (ninS (Ne.symm _r) (ninS _g (ninS _h (ninS _i nin0)))) (ninS (Ne.symm _t) (ninS _j (ninS _k (ninS _o nin0))))
   have K_9 := K_8.trans K9 (allS (Or.inl (by simp)) (allS (Or.inl (by simp)) (allS (Or.inl (by simp)) (allS (Or.inl (by simp)) all0))))
   exact Go.retI X9 hx hlk _M (hb hby d31_89) (by decide) (by decide) ⟨d0, (own_sb i d1), congrArg (fun z => some (Value.int z)) (own_oc i hi d0 hd0 d1 hd1), M9, (by rw [e9]; exact K_9), (by rw [e9, Nat.add_comm (own_pop d0)]; exact G9), (by rw [e9]; exact _fb.up), (by rw [e9]; exact D9), hd0, s0, (own_sb_lt i hi d1 hd1), (own_od i hi A1 hA1 _F d1 hd1 s1)⟩
theorem rmCMM (l : Launch) (Z : State) (a0 : Array Value) (hw : HW a0 Z) (ws : List Jvm.Cond) (two : Bool) (gr : Addr) (mp : Addr) (ka : Addr) (kb : Addr) (va : Addr) (vb : Addr) (ac : Int32) (tk : Int32) (h0 : Heap) (n0 : Nat) (Z0 : n0 ≤ h0.size) (GR : GrB Z h0 two gr mp ka kb va vb ac tk) :
    Meets l Z mn_57 prog_31_method_8_code 1 (some .boolean) ({ frames := 0, cells := 0, slots := 0, locals := 0 } : Room) ws #[.ref gr] h0 (fun v h L => ∃ z : Int32, v = some (.int z) ∧ ((tk = ac → z = 1) ∧ (¬ tk = ac → z = 0)) ∧ Fr n0 L ∧ Ext h0 h) := by
  obtain ⟨ls, ln, _f, _g, _h, _b, _a, _c, _d, hLS⟩ := GR
  by_cases hq : tk = ac
  · exact Meets.mono (rmCM1 l Z a0 hw ws tk ac gr h0 n0 Z0 _f _a _b hq) (fun v h L hz => ⟨_, hz.1, ⟨fun _ => by decide, fun q => absurd hq q⟩, hz.2⟩)
  · exact Meets.mono (rmCM0 l Z a0 hw ws tk ac gr h0 n0 Z0 _f _a _b hq) (fun v h L hz => ⟨_, hz.1, ⟨fun q => absurd q hq, fun _ => by decide⟩, hz.2⟩)
theorem own_s0 : ∀ a, a < 8 → own_sub 0 a = true := by decide +kernel
theorem own_z0 : ∀ a, a < 8 → (Int32.ofNat a = (0 : Int32) ↔ Int32.ofNat (own_pop 0 + 0) = Int32.ofNat (own_pop a)) := by decide +kernel
theorem pd34 : parseMethodDescriptor "(I)V" = some ⟨[.int], none⟩ := by decide +kernel
theorem pd35 : parseMethodDescriptor "(I)Ljava/util/ArrayList;" = some ⟨[.int], some (.object s_g)⟩ := by decide +kernel
theorem pd36 : parseMethodDescriptor "(Ljava/lang/Object;Ljava/util/List;)V" = some ⟨[(.object s_e), (.object s_y)], none⟩ := by decide +kernel
theorem pd37 : parseMethodDescriptor "(Lcom/example/covenant/covenant/StateGraph;IZIII)I" = some ⟨[(.object s_a), .int, .boolean, .int, .int, .int], some .int⟩ := by decide +kernel
theorem ef_0 (m : MethodId) (x0 : Int32) (x1 : Int32) (x2 : Int32) (x3 : Int32) : entryFrame m #[(.int x0), (.int x1), (.int x2), (.int x3)] maxLocals = mkF m 0 #[.val (.int x0), .val (.int x1), .val (.int x2), .val (.int x3), .unset, .unset, .unset, .unset, .unset, .unset, .unset] [] := by first | (simp [entryFrame, mkF, argsToLocals, Value.category, maxLocals]; done) | rfl
theorem rm0 (l : Launch) (Z : State) (a0 : Array Value) (hw : HW a0 Z) (ws : List Jvm.Cond) (p0 p1 p2 p3 : Int32) (h0 : Heap) (n0 : Nat) (Z0 : n0 ≤ h0.size) (ZN : Z.heap.size ≤ n0) (EZ : Ext Z.heap h0) (ca : Addr) (cl : Cell) (ka : Addr) (kb : Addr) (kc : Addr) (SH : Sta Z Z.heap s_n "high" "I" (.int 127)) (SC : Sta Z Z.heap s_n "cache" "[Ljava/lang/Integer;" (.ref ca)) (BX : Bxs Z ca cl s_i "I" 256 (fun j => .int (j - 128))) (hia : cl.slots[128]? = some (.ref ka)) (hib : cl.slots[129]? = some (.ref kb)) (hic : cl.slots[130]? = some (.ref kc)) (BK : BXK Z Z.heap ka kb kc) (dc : Addr) (_od : ClassId) (SDC : Sta Z Z.heap s_g s_v s_k (.ref dc)) (VD : Arv Z Z.heap dc _od (.object s_e) (0 : Int32) [] .null) (el em : Addr) (SEL : Sta Z Z.heap s_u "EMPTY_LIST" "Ljava/util/ImmutableCollections$ListN;" (.ref el)) (SEM : Sta Z Z.heap s_u "EMPTY" s_l (.ref em)) (MM : ∃ (c : ClassId) (kk : Class) (mi : Addr), Z.vm.findClass s_k = some c ∧ Z.vm.classes[c]? = some kk ∧ kk.mirror = some mi) (nab : ¬ ka = kb) (nac : ¬ ka = kc) (nbc : ¬ kb = kc) :
  Meets l Z x code maxLocals ret room_1 ws #[(.int p0), (.int p1), (.int p2), (.int p3)] h0 (fun v h L => v = some (.int 1) ∧ Fr n0 L) := by
 refine Meets.of (plainFor_of_name pn_18) ?_
 intro p e s m _a _kj c s₁ X0 hx hby hml _Ud hlk hnm hZ _E e0
 replace _E : s.vm.findClass s_t = some m.cls := _E
 have N0 := Fr.nil n0
 have Q0 := own_extR h0
 obtain ⟨_Gc, _Hc, _da, _Ic, _oj, _Lg⟩ := BK.ext EZ
 refine Go.cast (ef_0 m p0 p1 p2 p3) ?_
 show Go p e s _a _ _ _ s₁ (mkF m 0 #[vI p0, vI p1, vI p2, vI p3, vU, vU, vU, vU, vU, vU, vU] [])
 refine gs ?_ fun _ _k => XS.iloadN X0.here hx rfl (hb hby at_0) rfl _k
 refine gs ?_ fun _ _k => XT.bipushV X0.here hx rfl (7 : Int32) (hb hby at_1) (by decide) _k
 refine gs ?_ fun _ _k => XS.iand X0.here hx rfl (hb hby at_3) rfl _k
 refine gs ?_ fun _ _k => XS.istore X0.here hx rfl (hb hby at_4) rfl (l' := #[vI p0, vI p1, vI p2, vI p3, vI (p0 &&& (7 : Int32)), vU, vU, vU, vU, vU, vU]) rfl _k
 show Go p e s _a _ _ _ s₁ (mkF m 6 #[vI p0, vI p1, vI p2, vI p3, vI (p0 &&& (7 : Int32)), vU, vU, vU, vU, vU, vU] [])
 obtain ⟨A0, hA0, eA0⟩ := own_m7 p0
 rw [eA0]
 show Go p e s _a _ _ _ s₁ (mkF m 6 #[vI p0, vI p1, vI p2, vI p3, vI (Int32.ofNat A0), vU, vU, vU, vU, vU, vU] [])
 refine gs ?_ fun _ _k => XS.iloadN X0.here hx rfl (hb hby at_6) rfl _k
 refine gs ?_ fun _ _k => XT.iconstV X0.here hx rfl (3 : Int32) (hb hby at_7) (by decide) _k
 refine gs ?_ fun _ _k => XS.iushr X0.here hx rfl (hb hby at_8) rfl _k
 refine gs ?_ fun _ _k => XT.bipushV X0.here hx rfl (7 : Int32) (hb hby at_9) (by decide) _k
 refine gs ?_ fun _ _k => XS.iand X0.here hx rfl (hb hby at_11) rfl _k
 refine gs ?_ fun _ _k => XS.istore X0.here hx rfl (hb hby at_12) rfl (l' := #[vI p0, vI p1, vI p2, vI p3, vI (Int32.ofNat A0), vI (((p0.toUInt32 >>> ((3 : Int32) &&& 31).toUInt32).toInt32) &&& (7 : Int32)), vU, vU, vU, vU, vU]) rfl _k
 show Go p e s _a _ _ _ s₁ (mkF m 14 #[vI p0, vI p1, vI p2, vI p3, vI (Int32.ofNat A0), vI (((p0.toUInt32 >>> ((3 : Int32) &&& 31).toUInt32).toInt32) &&& (7 : Int32)), vU, vU, vU, vU, vU] [])
 obtain ⟨A1, hA1, eA1⟩ := own_m7 ((p0.toUInt32 >>> ((3 : Int32) &&& 31).toUInt32).toInt32)
 rw [eA1]
 show Go p e s _a _ _ _ s₁ (mkF m 14 #[vI p0, vI p1, vI p2, vI p3, vI (Int32.ofNat A0), vI (Int32.ofNat A1), vU, vU, vU, vU, vU] [])
 refine gs ?_ fun _ _k => XS.iloadN X0.here hx rfl (hb hby at_14) rfl _k
 refine gs ?_ fun _ _k => XT.bipushV X0.here hx rfl (6 : Int32) (hb hby at_15) (by decide) _k
 refine gs ?_ fun _ _k => XS.iushr X0.here hx rfl (hb hby at_17) rfl _k
 refine gs ?_ fun _ _k => XT.iconstV X0.here hx rfl (1 : Int32) (hb hby at_18) (by decide) _k
 refine gs ?_ fun _ _k => XS.iand X0.here hx rfl (hb hby at_19) rfl _k
 have J1 : ∀ z1 : Int32, (z1 = 0 ∨ z1 = 1) → Go p e s _a (fun v h L => v = some (.int 1) ∧ Fr n0 L) room_1.cells room_1.slots s₁ (mkF m 28 #[vI p0, vI p1, vI p2, vI p3, vI (Int32.ofNat A0), vI (Int32.ofNat A1), vU, vU, vU, vU, vU] [(.int z1)]) := by
  intro z1 hj1
  show Go p e s _a _ _ _ s₁ (mkF m 28 #[vI p0, vI p1, vI p2, vI p3, vI (Int32.ofNat A0), vI (Int32.ofNat A1), vU, vU, vU, vU, vU] [(.int z1)])
  refine gs ?_ fun _ _k => XS.istore X0.here hx rfl (hb hby at_28) rfl (l' := #[vI p0, vI p1, vI p2, vI p3, vI (Int32.ofNat A0), vI (Int32.ofNat A1), vI z1, vU, vU, vU, vU]) rfl _k
  obtain ⟨T2, h2, X2, e2, E2, A2, D2, -, st2⟩ := newO X0 hx hZ _E (qw hw 0 rfl) (qw hw 1 rfl) (qw hw 2 rfl) e0 (g := (mkF m 30 #[vI p0, vI p1, vI p2, vI p3, vI (Int32.ofNat A0), vI (Int32.ofNat A1), vI z1, vU, vU, vU, vU] [])) rfl (hb hby at_30) (by decide) (by decide)
  obtain ⟨b2, g2⟩ : ∃ z, z = h0.size := ⟨_, rfl⟩
  rw [← g2] at A2 D2 st2
  have sz2 : h0.size ≤ b2 := Nat.le_trans Q0.1 (Nat.le_of_eq g2.symm)
  have gn2 : n0 ≤ b2 := Nat.le_trans Z0 sz2
  refine Go.st st2 ?_
  have _Jc : Fld Z h2 b2 s_a "nodes" "Ljava/util/Map;" .null := D2 (Or.inr (qw hw 36 rfl)) (ty := (.object "java/util/Map")) (by decide)
  have _cc : Fld Z h2 b2 s_a "stimuli" "I" (.int 0) := D2 (Or.inr (qw hw 38 rfl)) (ty := .int) (by decide)
  have _Tc : Fld Z h2 b2 s_a "arcs" "I" (.int 0) := D2 (Or.inl (qw hw 220 rfl)) (ty := .int) (by decide)
  have _Kc : Fld Z h2 b2 s_a "taken" "I" (.int 0) := D2 (Or.inl (qw hw 236 rfl)) (ty := .int) (by decide)
  have _Tb : Fld Z h2 b2 s_a "lastNode" s_o .null := D2 (Or.inl (qw hw 344 rfl)) (ty := (.object s_b)) (by decide)
  have _Fb : Fld Z h2 b2 s_a "lastState" s_l .null := D2 (Or.inl (qw hw 364 rfl)) (ty := (.object s_e)) (by decide)
  refine gs ?_ fun _ _k => XS.dup X2.here hx rfl (hb hby at_33) rfl rfl _k
  refine gs ?_ fun _ _k => XT.iconstV X2.here hx rfl (3 : Int32) (hb hby at_34) (by decide) _k
  show Go p e s _a _ _ _ T2 (mkF m 35 #[vI p0, vI p1, vI p2, vI p3, vI (Int32.ofNat A0), vI (Int32.ofNat A1), vI z1, vU, vU, vU, vU] [(.int 3), (.ref b2), (.ref b2)])
  have Q_2 := own_extE Q0 E2
  refine Go.callC (b := b2) (W := 1) (argsL := [(.int 3)]) (rest := [(.ref b2)]) X2 hx hZ (y := mn_26) rfl _E (qw hw 3 rfl) (qw hw 4 rfl) (qw hw 2 rfl) (qw hw 5 rfl) (rmSG l Z a0 hw [] b2 h2 n0 (Nat.le_trans Z0 Q_2.1) gn2 A2 _cc _Jc _Tc _Kc _Fb _Tb) e2 (by decide) (by rw [hml]; rfl) (lenOf pd34 rfl) (Nat.le_of_eq rfl) (hb hby at_35) ?_
  intro T3 v3 L3 h3 e3 X3 hQ3
  obtain ⟨_h, rfl, N3, K3, _bc, _Vd, _Ih, _Jh, _Kh, _Lh, _Mh, _Nh, _Wd, _Oh, _Ph, _Mg, _Ng, _Og, _Pg, _Qg, _Rg, _Sg⟩ := hQ3
  have M3 := Fr.app N0 N3
  have _dc : h0.size ≤ _h := Nat.le_trans Q_2.1 _bc
  have _rb : n0 ≤ _h := Nat.le_trans Z0 _dc
  refine gs ?_ fun _ _k => XS.astore X3.here hx rfl (hb hby at_38) rfl rfl (l' := #[vI p0, vI p1, vI p2, vI p3, vI (Int32.ofNat A0), vI (Int32.ofNat A1), vI z1, vR b2, vU, vU, vU]) rfl _k
  refine gs ?_ fun _ _k => XS.aload X3.here hx rfl (hb hby at_40) rfl rfl _k
  refine gs ?_ fun _ _k => XT.iconstV X3.here hx rfl (0 : Int32) (hb hby at_42) (by decide) _k
  show Go p e s _a _ _ _ T3 (mkF m 43 #[vI p0, vI p1, vI p2, vI p3, vI (Int32.ofNat A0), vI (Int32.ofNat A1), vI z1, vR b2, vU, vU, vU] [(.int 0), (.ref b2)])
  have Q_3 := own_extK Q_2 K3 (allS sz2 all0)
  have _af := own_extK (own_extE EZ E2) K3 (allS (Nat.le_trans ZN gn2) all0)
  refine Go.callS (W := 1) (argsL := [(.int 0)]) (rest := [(.ref b2)]) X3 hx hZ _E (y := mn_27) (qw hw 39 rfl) (qw hw 40 rfl) (qw hw 41 rfl) (qw hw 42 rfl) (rmVO0 l Z a0 hw [] ca cl ka h3 n0 (Nat.le_trans Z0 Q_3.1) ZN _af SH SC BX hia) e3 (by decide) (by rw [hml]; rfl) (lenOf pd26 rfl) (Nat.le_of_eq rfl) (hb hby at_43) ?_
  intro T4 v4 L4 h4 e4 X4 hQ4
  obtain ⟨rfl, N4, K4⟩ := hQ4
  have M4 := Fr.app M3 N4
  refine gs ?_ fun _ _k => XS.iload X4.here hx rfl (hb hby at_46) rfl _k
  show Go p e s _a _ _ _ T4 (mkF m 48 #[vI p0, vI p1, vI p2, vI p3, vI (Int32.ofNat A0), vI (Int32.ofNat A1), vI z1, vR b2, vU, vU, vU] [(.int (Int32.ofNat A0)), (.ref ka), (.ref b2)])
  have Q_4 := own_extE Q_3 K4
  have _bf := own_extE _af K4
  refine Go.callS (W := 2) (argsL := [(.int (Int32.ofNat A0))]) (rest := [(.ref ka), (.ref b2)]) X4 hx hZ _E (y := mn_53) (qw hw 46 rfl) (qw hw 47 rfl) (qw hw 48 rfl) (qw hw 49 rfl) (rmAWM l Z a0 hw [] A0 hA0 ca cl ka kb kc SH SC BX hia hib hic BK dc _od SDC VD h4 n0 (Nat.le_trans Z0 Q_4.1) ZN _bf) e4 (by decide) (by rw [hml]; rfl) (lenOf pd35 rfl) (Nat.le_of_eq rfl) (hb hby at_48) ?_
  intro T5 v5 L5 h5 e5 X5 hQ5
  obtain ⟨al5, rfl, N5, E5, gz5, EA5, FS5, AK5⟩ := hQ5
  have M5 := Fr.app M4 N5
  show Go p e s _a _ _ _ T5 (mkF m 51 #[vI p0, vI p1, vI p2, vI p3, vI (Int32.ofNat A0), vI (Int32.ofNat A1), vI z1, vR b2, vU, vU, vU] [(.ref al5), (.ref ka), (.ref b2)])
  have _fc := (_Jh.ext K4).ext E5
  have Q_5 := own_extE Q_4 E5
  have _cf := own_extE _bf E5
  have _W := (_Vd.ext K4).ext E5
  have _Gb := (_Ih.ext K4).ext E5
  have _Dc := (_Kh.ext K4).ext E5
  have _gc := (_Lh.ext K4).ext E5
  have _hb := (_Mh.ext K4).ext E5
  have _tb := (_Nh.ext K4).ext E5
  have _O := (_Wd.ext K4).ext E5
  have _Ka := (_Oh.ext K4).ext E5
  have _Hb := (_Ng.ext K4).ext E5
  have _Ma := (_Og.ext K4).ext E5
  have _fb := (_Rg.ext K4).ext E5
  have _Ub := (_Sg.ext K4).ext E5
  have _Vb := (_Qg.ext K4).ext E5
  have _Wb := (_Pg.ext K4).ext E5
  have _ib := (_Ph.ext K4).ext E5
  have _ya := (_Mg.ext K4).ext E5
  have _df := (((_Gc.ext E2).keep K3).ext K4).ext E5
  have _hc := (((_Hc.ext E2).keep K3 (ninS (Nat.ne_of_lt (Nat.lt_of_lt_of_le _Gc.lt sz2)) nin0)).ext K4).ext E5
  have nq6 : b2 ≠ _h := Nat.ne_of_lt (Nat.lt_of_lt_of_le (A2).lt _bc)
  have nq7 : ka ≠ _h := Nat.ne_of_lt (Nat.lt_of_lt_of_le (_Gc.ext E2).lt _bc)
  have nq8 : b2 ≠ al5 := Nat.ne_of_lt (Nat.lt_of_lt_of_le (_Vd.ext K4).lt gz5)
  have nq9 : _h ≠ al5 := Nat.ne_of_lt (Nat.lt_of_lt_of_le (_Wd.ext K4).lt gz5)
  refine Go.callV (b := b2) (W := 0) (argsL := [(.ref ka), (.ref al5)]) (rest := []) X5 hx hZ _E (y := mn_54) (z := mn_54) (qw hw 74 rfl) (qw hw 75 rfl) (notFace_of_selects (args := #[]) (mvT hZ (qw hw 77 rfl))) (qw hw 77 rfl) (qw hw 76 rfl) (qw hw 2 rfl) (qw hw 78 rfl) (rmAD0 l Z a0 hw [] .null .null (0 : Int32) (0 : Int32) (own_pop A0) el em b2 _h ka al5 h5 n0 (Nat.le_trans Z0 Q_5.1) ZN _cf gn2 _rb _W _Gb _fc _Dc _gc _hb _tb _O _Ka _Hb _Ma _fb _Ub _Vb _Wb _ib _ya _df _hc EA5 FS5 AK5 nq6 (Nat.ne_of_lt (Nat.lt_of_lt_of_le _Gc.lt sz2)) nq7 (Ne.symm nq8) (Ne.symm nq9) SEL SEM MM) e5 _W (by decide) (by rw [hml]; rfl) (lenOf pd36 rfl) (Nat.le_of_eq rfl) (hb hby at_51) ?_
  intro T10 v10 L10 h10 e10 X10 _Qh
  obtain ⟨_g, _k, _o, _q, _c, _b, _aa, _ba, _ca, _r, rfl, N10, K10, _Uc, _ub, _vb, _wb, _yb, _zb, _Id, _Tg, _Ug, _Vg, _Wg, _ah, _bh, _Lc, _ch, _Jd, _ff, _gf, _hf, _if, _jf, _kf, _Vc, _oa, _of, _qf, _rf, _qa, _ra, _ta, _ic, _jc, _Wc, _ad, _bd, _cd, _tf, _uf, _vf, _wf, _kc, _Na, _Oa, _Pa, _yf, _zf, _Qa, _Ra, _M, _i, _Sa, _B, _d, _C, _f, _Sd⟩ := _Qh
  have M10 := Fr.app M5 N10
  have _Q : h0.size ≤ _k := Nat.le_trans Q_5.1 _ub
  have _w : n0 ≤ _k := Nat.le_trans Z0 _Q
  have _R : h0.size ≤ _o := Nat.le_trans Q_5.1 _vb
  have _y : n0 ≤ _o := Nat.le_trans Z0 _R
  have _S : h0.size ≤ _q := Nat.le_trans Q_5.1 _wb
  have _z : n0 ≤ _q := Nat.le_trans Z0 _S
  have _Ga : h0.size ≤ _c := Nat.le_trans Q_5.1 _yb
  have _Ha : n0 ≤ _c := Nat.le_trans Z0 _Ga
  have _Ia : h0.size ≤ _b := Nat.le_trans Q_5.1 _zb
  have _Ja : n0 ≤ _b := Nat.le_trans Z0 _Ia
  show Go p e s _a _ _ _ T10 (mkF m 54 #[vI p0, vI p1, vI p2, vI p3, vI (Int32.ofNat A0), vI (Int32.ofNat A1), vI z1, vR b2, vU, vU, vU] [])
  have _dh : MapOK Z h10 false _h _c _b _b _r ka kb _g _g := ⟨_Lc, _Jd, _Vc, _ic, _kc, _jc, _Wc, _ad, _bd, _cd, (nofun), (nofun), (nofun), (nofun), (nofun), _oa, (nofun)⟩
  have _Kd := _Vg
  rw [Int32.zero_add] at _Kd
  have _Mc : GrB Z h10 false b2 _h ka kb _g _g (Int32.ofNat (own_pop A0)) (Int32.ofNat (own_pop 0 + 0)) := ⟨_, _, _Id, _Tg, _Ug, _Kd, _Wg, _ah, _bh, Or.inl rfl⟩
  have _fh : NodB Z h10 false _g _k _o _q _aa _ba _ca ka kb kc _g _g 0 0 := ⟨0, 0, 0, .null, .null, .null, .null, .null, .null, _oa, _of, _qf, _rf, _qa, _vf, _ra, _ta, _wf, ⟨by decide, Or.inl ⟨rfl, rfl⟩⟩, ⟨by decide, Or.inl ⟨rfl, rfl⟩⟩, ⟨by decide, Or.inl ⟨rfl, rfl⟩⟩, by decide⟩
  show Go p e s _a _ _ _ T10 (mkF m 54 #[vI p0, vI p1, vI p2, vI p3, vI (Int32.ofNat A0), vI (Int32.ofNat A1), vI z1, vR b2, vU, vU, vU] [])
  refine gs ?_ fun _ _k => XS.aload X10.here hx rfl (hb hby at_54) rfl rfl _k
  show Go p e s _a _ _ _ T10 (mkF m 56 #[vI p0, vI p1, vI p2, vI p3, vI (Int32.ofNat A0), vI (Int32.ofNat A1), vI z1, vR b2, vU, vU, vU] [(.ref b2)])
  have _Af := own_extK Q_5 K10 (allS sz2 (allS _dc all0))
  refine Go.callV (b := b2) (W := 0) (argsL := []) (rest := []) X10 hx hZ _E (y := mn_57) (z := mn_57) (qw hw 230 rfl) (qw hw 231 rfl) (notFace_of_selects (args := #[]) (mvT hZ (qw hw 233 rfl))) (qw hw 233 rfl) (qw hw 232 rfl) (qw hw 2 rfl) (qw hw 234 rfl) (rmCMM l Z a0 hw [] false b2 _h ka kb _g _g (Int32.ofNat (own_pop A0)) (Int32.ofNat (own_pop 0 + 0)) h10 n0 (Nat.le_trans Z0 _Af.1) _Mc) e10 (GrB.exa _Mc) (by decide) (by rw [hml]; rfl) (lenOf pd23 rfl) (Nat.le_of_eq rfl) (hb hby at_56) ?_
  intro T14 v14 L14 h14 e14 X14 _Rh
  obtain ⟨_oc, rfl, _Bf, N14, E14⟩ := _Rh
  have M14 := Fr.app M10 N14
  refine gs ?_ fun _ _k => XS.iload X14.here hx rfl (hb hby at_59) rfl _k
  have J15 : ∀ z15 : Int32, _oc = z15 → Go p e s _a (fun v h L => v = some (.int 1) ∧ Fr n0 L) room_1.cells room_1.slots T14 (mkF m 69 #[vI p0, vI p1, vI p2, vI p3, vI (Int32.ofNat A0), vI (Int32.ofNat A1), vI z1, vR b2, vU, vU, vU] [(.int z15), (.int _oc)]) := by
   intro z15 _Sh
   show Go p e s _a _ _ _ T14 (mkF m 69 #[vI p0, vI p1, vI p2, vI p3, vI (Int32.ofNat A0), vI (Int32.ofNat A1), vI z1, vR b2, vU, vU, vU] [(.int z15), (.int _oc)])
   refine gs ?_ fun _ _k => XS.icmpNo X14.here hx rfl (hb hby at_69) rfl (teq _Sh).2 _k
   refine gs ?_ fun _ _k => XT.iconstV X14.here hx rfl (1 : Int32) (hb hby at_72) (by decide) _k
   refine gs ?_ fun _ _k => XS.goto X14.here hx rfl (pc0 := 73) (pc' := 77) rfl (hb hby at_73) (by decide) (by decide) _k
   refine gs ?_ fun _ _k => XS.istore X14.here hx rfl (hb hby at_77) rfl (l' := #[vI p0, vI p1, vI p2, vI p3, vI (Int32.ofNat A0), vI (Int32.ofNat A1), vI z1, vR b2, vI (1 : Int32), vU, vU]) rfl _k
   refine gs ?_ fun _ _k => XS.aload X14.here hx rfl (hb hby at_79) rfl rfl _k
   refine gs ?_ fun _ _k => XS.iloadN X14.here hx rfl (hb hby at_81) rfl _k
   refine gs ?_ fun _ _k => XT.bipushV X14.here hx rfl (-2 : Int32) (hb hby at_82) (by decide) _k
   refine gs ?_ fun _ _k => XS.iand X14.here hx rfl (hb hby at_84) rfl _k
   refine gs ?_ fun _ _k => XT.iconstV X14.here hx rfl (0 : Int32) (hb hby at_85) (by decide) _k
   refine gs ?_ fun _ _k => XS.iload X14.here hx rfl (hb hby at_86) rfl _k
   refine gs ?_ fun _ _k => XT.iconstV X14.here hx rfl (0 : Int32) (hb hby at_88) (by decide) _k
   refine gs ?_ fun _ _k => XT.iconstV X14.here hx rfl (0 : Int32) (hb hby at_89) (by decide) _k
   show Go p e s _a _ _ _ T14 (mkF m 90 #[vI p0, vI p1, vI p2, vI p3, vI (Int32.ofNat A0), vI (Int32.ofNat A1), vI z1, vR b2, vI (1 : Int32), vU, vU] [(.int 0), (.int 0), (.int (Int32.ofNat A0)), (.int 0), (.int (p1 &&& (-2 : Int32))), (.ref b2)])
   have _Cf := own_extE _Af E14
   have _Nc := own_extE (own_extK _cf K10 (allS (Nat.le_trans ZN gn2) (allS (Nat.le_trans ZN _rb) all0))) E14
   have _gh := _Mc.ext E14
   have _Ld := _dh.ext E14
   have _hh := _fh.ext E14
   have _Ib : b2 ≠ _k := Nat.ne_of_lt (Nat.lt_of_lt_of_le (_W).lt _ub)
   have _Jb : b2 ≠ _o := Nat.ne_of_lt (Nat.lt_of_lt_of_le (_W).lt _vb)
   have _Kb : b2 ≠ _q := Nat.ne_of_lt (Nat.lt_of_lt_of_le (_W).lt _wb)
   have _J : _h ≠ _k := Nat.ne_of_lt (Nat.lt_of_lt_of_le (_O).lt _ub)
   have _K : _h ≠ _o := Nat.ne_of_lt (Nat.lt_of_lt_of_le (_O).lt _vb)
   have _L : _h ≠ _q := Nat.ne_of_lt (Nat.lt_of_lt_of_le (_O).lt _wb)
   have _fa : b2 ≠ _c := Nat.ne_of_lt (Nat.lt_of_lt_of_le (_W).lt _yb)
   have _D : b2 ≠ _b := Nat.ne_of_lt (Nat.lt_of_lt_of_le (_W).lt _zb)
   have _Lb : b2 ≠ _g := Nat.ne_of_lt (Nat.lt_of_lt_of_le (_W).lt _Uc)
   refine Go.callS (W := 0) (argsL := [(.ref b2), (.int (p1 &&& (-2 : Int32))), (.int 0), (.int (Int32.ofNat A0)), (.int 0), (.int 0)]) (rest := []) X14 hx hZ _E (y := mn_64) (qw hw 237 rfl) (qw hw 238 rfl) (qw hw 48 rfl) (qw hw 239 rfl) (rmST0 l Z a0 hw [] ca cl ka kb kc b2 _h _c _b _g _k _o _q _r _aa _ba _ca (Int32.ofNat (own_pop A0)) (p1 &&& (-2 : Int32)) A0 0 0 (0 : Int32) h14 n0 (Nat.le_trans Z0 _Cf.1) ZN _Nc gn2 _w _y _z _gh _Ld _hh _Ib _Jb _Kb (Ne.symm nq6) _J _K _L (Ne.symm _fa) (Ne.symm _M) (Ne.symm _B) (Ne.symm _C) (Ne.symm _D) (Ne.symm _i) (Ne.symm _d) (Ne.symm _f) (Ne.symm _D) (Ne.symm _i) (Ne.symm _d) (Ne.symm _f) (Ne.symm _Lb) _Na _Oa _Pa _Qa _Ra _Sa SH SC BX hia hib hic BK nab nac nbc hA0 (by decide) (own_s0 A0 hA0) (by decide)) e14 (by decide) (by rw [hml]; rfl) (lenOf pd37 rfl) (Nat.le_of_eq rfl) (hb hby at_90) ?_
   intro T25 v25 L25 h25 e25 X25 _Th
   obtain ⟨_j, rfl, N25, K25, _Oc, _Df, _Pc, _Qc⟩ := _Th
   have M25 := Fr.app M14 N25
   refine gs ?_ fun _ _k => XS.istore X25.here hx rfl (hb hby at_93) rfl (l' := #[vI p0, vI p1, vI p2, vI p3, vI (Int32.ofNat A0), vI (Int32.ofNat A1), vI z1, vR b2, vI (1 : Int32), vI (Int32.ofNat _j), vU]) rfl _k
   refine gs ?_ fun _ _k => XS.iload X25.here hx rfl (hb hby at_95) rfl _k
   refine gs ?_ fun _ _k => XS.ifNo X25.here hx rfl (hb hby at_97) rfl ((if0 _ _).trans (feq (by decide : ¬ ((1 : Int32) = (0 : Int32)))).1) _k
   refine gs ?_ fun _ _k => XS.aload X25.here hx rfl (hb hby at_100) rfl rfl _k
   show Go p e s _a _ _ _ T25 (mkF m 102 #[vI p0, vI p1, vI p2, vI p3, vI (Int32.ofNat A0), vI (Int32.ofNat A1), vI z1, vR b2, vI (1 : Int32), vI (Int32.ofNat _j), vU] [(.ref b2)])
   have _qd := own_extK _Cf K25 (allS sz2 (allS _Q (allS _R (allS _S all0))))
   refine Go.callV (b := b2) (W := 0) (argsL := []) (rest := []) X25 hx hZ _E (y := mn_57) (z := mn_57) (qw hw 230 rfl) (qw hw 231 rfl) (notFace_of_selects (args := #[]) (mvT hZ (qw hw 233 rfl))) (qw hw 233 rfl) (qw hw 232 rfl) (qw hw 2 rfl) (qw hw 234 rfl) (rmCMM l Z a0 hw [] false b2 _h ka kb _g _g (Int32.ofNat (own_pop A0)) (Int32.ofNat (own_pop _j + 0)) h25 n0 (Nat.le_trans Z0 _qd.1) _Oc) e25 (GrB.exa _Oc) (by decide) (by rw [hml]; rfl) (lenOf pd23 rfl) (Nat.le_of_eq rfl) (hb hby at_102) ?_
   intro T26 v26 L26 h26 e26 X26 _Uh
   obtain ⟨_qc, rfl, _Ef, N26, E26⟩ := _Uh
   have M26 := Fr.app M25 N26
   refine gs ?_ fun _ _k => XS.iload X26.here hx rfl (hb hby at_105) rfl _k
   refine gs ?_ fun _ _k => XT.bipushV X26.here hx rfl (7 : Int32) (hb hby at_107) (by decide) _k
   refine gs ?_ fun _ _k => XS.iand X26.here hx rfl (hb hby at_109) rfl _k
   refine gs ?_ fun _ _k => XS.iload X26.here hx rfl (hb hby at_110) rfl _k
   have J27 : ∀ z27 : Int32, _qc = z27 → Go p e s _a (fun v h L => v = some (.int 1) ∧ Fr n0 L) room_1.cells room_1.slots T26 (mkF m 120 #[vI p0, vI p1, vI p2, vI p3, vI (Int32.ofNat A0), vI (Int32.ofNat A1), vI z1, vR b2, vI (1 : Int32), vI (Int32.ofNat _j), vU] [(.int z27), (.int _qc)]) := by
    intro z27 _Vh
    show Go p e s _a _ _ _ T26 (mkF m 120 #[vI p0, vI p1, vI p2, vI p3, vI (Int32.ofNat A0), vI (Int32.ofNat A1), vI z1, vR b2, vI (1 : Int32), vI (Int32.ofNat _j), vU] [(.int z27), (.int _qc)])
    refine gs ?_ fun _ _k => XS.icmpNo X26.here hx rfl (hb hby at_120) rfl (teq _Vh).2 _k
    refine gs ?_ fun _ _k => XT.iconstV X26.here hx rfl (1 : Int32) (hb hby at_123) (by decide) _k
    refine gs ?_ fun _ _k => XS.goto X26.here hx rfl (pc0 := 124) (pc' := 128) rfl (hb hby at_124) (by decide) (by decide) _k
    refine gs ?_ fun _ _k => XS.istore X26.here hx rfl (hb hby at_128) rfl (l' := #[vI p0, vI p1, vI p2, vI p3, vI (Int32.ofNat A0), vI (Int32.ofNat A1), vI z1, vR b2, vI (1 : Int32), vI (Int32.ofNat _j), vU]) rfl _k
    refine gs ?_ fun _ _k => XS.iload X26.here hx rfl (hb hby at_130) rfl _k
    by_cases _za : z1 = (0 : Int32)
    · --
     refine gs ?_ fun _ _k => XS.ifYes X26.here hx rfl (pc0 := 132) (pc' := 149) rfl (hb hby at_132) rfl ((if0 _ _).trans (teq _za).1) (by decide) (by decide) _k
     show Go p e s _a _ _ _ T26 (mkF m 149 #[vI p0, vI p1, vI p2, vI p3, vI (Int32.ofNat A0), vI (Int32.ofNat A1), vI z1, vR b2, vI (1 : Int32), vI (Int32.ofNat _j), vU] [])
     subst _za
     show Go p e s _a _ _ _ T26 (mkF m 149 #[vI p0, vI p1, vI p2, vI p3, vI (Int32.ofNat A0), vI (Int32.ofNat A1), vI (0 : Int32), vR b2, vI (1 : Int32), vI (Int32.ofNat _j), vU] [])
     refine gs ?_ fun _ _k => XS.aload X26.here hx rfl (hb hby at_149) rfl rfl _k
     refine gs ?_ fun _ _k => XS.iloadN X26.here hx rfl (hb hby at_151) rfl _k
     refine gs ?_ fun _ _k => XS.iload X26.here hx rfl (hb hby at_152) rfl _k
     refine gs ?_ fun _ _k => XS.iload X26.here hx rfl (hb hby at_154) rfl _k
     refine gs ?_ fun _ _k => XS.iload X26.here hx rfl (hb hby at_156) rfl _k
     refine gs ?_ fun _ _k => XS.iload X26.here hx rfl (hb hby at_158) rfl _k
     show Go p e s _a _ _ _ T26 (mkF m 160 #[vI p0, vI p1, vI p2, vI p3, vI (Int32.ofNat A0), vI (Int32.ofNat A1), vI (0 : Int32), vR b2, vI (1 : Int32), vI (Int32.ofNat _j), vU] [(.int (Int32.ofNat _j)), (.int (Int32.ofNat A1)), (.int (Int32.ofNat A0)), (.int 0), (.int p2), (.ref b2)])
     have _rc := own_extE _qd E26
     have _Ab := own_extE (own_extK _Nc K25 (allS (Nat.le_trans ZN gn2) (allS (Nat.le_trans ZN _w) (allS (Nat.le_trans ZN _y) (allS (Nat.le_trans ZN _z) all0))))) E26
     have _ih := _Oc.ext E26
     have _Md := (_Ld.keep K25 (ninS (Ne.symm nq6) (ninS _J (ninS _K (ninS _L nin0)))) (ninS (Ne.symm _fa) (ninS (Ne.symm _M) (ninS (Ne.symm _B) (ninS (Ne.symm _C) nin0)))) (ninS (Ne.symm _D) (ninS (Ne.symm _i) (ninS (Ne.symm _d) (ninS (Ne.symm _f) nin0)))) (ninS (Ne.symm _D) (ninS (Ne.symm _i) (ninS (Ne.symm _d) (ninS (Ne.symm _f) nin0))))).ext E26
     have _jh := _Df.ext E26
     refine Go.callS (W := 0) (argsL := [(.ref b2), (.int p2), (.int 0), (.int (Int32.ofNat A0)), (.int (Int32.ofNat A1)), (.int (Int32.ofNat _j))]) (rest := []) X26 hx hZ _E (y := mn_64) (qw hw 237 rfl) (qw hw 238 rfl) (qw hw 48 rfl) (qw hw 239 rfl) (rmST0 l Z a0 hw [] ca cl ka kb kc b2 _h _c _b _g _k _o _q _r _aa _ba _ca (Int32.ofNat (own_pop A0)) p2 A0 _j (0 + 1) (Int32.ofNat A1) h26 n0 (Nat.le_trans Z0 _rc.1) ZN _Ab gn2 _w _y _z _ih _Md _jh _Ib _Jb _Kb (Ne.symm nq6) _J _K _L (Ne.symm _fa) (Ne.symm _M) (Ne.symm _B) (Ne.symm _C) (Ne.symm _D) (Ne.symm _i) (Ne.symm _d) (Ne.symm _f) (Ne.symm _D) (Ne.symm _i) (Ne.symm _d) (Ne.symm _f) (Ne.symm _Lb) _Na _Oa _Pa _Qa _Ra _Sa SH SC BX hia hib hic BK nab nac nbc hA0 _Pc _Qc (by decide)) e26 (by decide) (by rw [hml]; rfl) (lenOf pd37 rfl) (Nat.le_of_eq rfl) (hb hby at_160) ?_
     intro T29 v29 L29 h29 e29 X29 _Wh
     obtain ⟨_tc, rfl, N29, K29, _ai, _bi, _ci, _di⟩ := _Wh
     have M29 := Fr.app M26 N29
     refine gs ?_ fun _ _k => XS.istore X29.here hx rfl (hb hby at_163) rfl (l' := #[vI p0, vI p1, vI p2, vI p3, vI (Int32.ofNat A0), vI (Int32.ofNat A1), vI (0 : Int32), vR b2, vI (1 : Int32), vI (Int32.ofNat _tc), vU]) rfl _k
     refine gs ?_ fun _ _k => XS.aload X29.here hx rfl (hb hby at_165) rfl rfl _k
     refine gs ?_ fun _ _k => XS.iloadN X29.here hx rfl (hb hby at_167) rfl _k
     refine gs ?_ fun _ _k => XS.iload X29.here hx rfl (hb hby at_168) rfl _k
     refine gs ?_ fun _ _k => XS.iload X29.here hx rfl (hb hby at_170) rfl _k
     refine gs ?_ fun _ _k => XS.iload X29.here hx rfl (hb hby at_172) rfl _k
     refine gs ?_ fun _ _k => XS.iload X29.here hx rfl (hb hby at_174) rfl _k
     show Go p e s _a _ _ _ T29 (mkF m 176 #[vI p0, vI p1, vI p2, vI p3, vI (Int32.ofNat A0), vI (Int32.ofNat A1), vI (0 : Int32), vR b2, vI (1 : Int32), vI (Int32.ofNat _tc), vU] [(.int (Int32.ofNat _tc)), (.int (Int32.ofNat A1)), (.int (Int32.ofNat A0)), (.int 0), (.int p3), (.ref b2)])
     have _Ff := own_extK _rc K29 (allS sz2 (allS _Q (allS _R (allS _S all0))))
     have _kh := own_extK _Ab K29 (allS (Nat.le_trans ZN gn2) (allS (Nat.le_trans ZN _w) (allS (Nat.le_trans ZN _y) (allS (Nat.le_trans ZN _z) all0))))
     have _oh := _Md.keep K29 (ninS (Ne.symm nq6) (ninS _J (ninS _K (ninS _L nin0)))) (ninS (Ne.symm _fa) (ninS (Ne.symm _M) (ninS (Ne.symm _B) (ninS (Ne.symm _C) nin0)))) (ninS (Ne.symm _D) (ninS (Ne.symm _i) (ninS (Ne.symm _d) (ninS (Ne.symm _f) nin0)))) (ninS (Ne.symm _D) (ninS (Ne.symm _i) (ninS (Ne.symm _d) (ninS (Ne.symm _f) nin0))))
     refine Go.callS (W := 0) (argsL := [(.ref b2), (.int p3), (.int 0), (.int (Int32.ofNat A0)), (.int (Int32.ofNat A1)), (.int (Int32.ofNat _tc))]) (rest := []) X29 hx hZ _E (y := mn_64) (qw hw 237 rfl) (qw hw 238 rfl) (qw hw 48 rfl) (qw hw 239 rfl) (rmST0 l Z a0 hw [] ca cl ka kb kc b2 _h _c _b _g _k _o _q _r _aa _ba _ca (Int32.ofNat (own_pop A0)) p3 A0 _tc ((0 + 1) + 1) (Int32.ofNat A1) h29 n0 (Nat.le_trans Z0 _Ff.1) ZN _kh gn2 _w _y _z _ai _oh _bi _Ib _Jb _Kb (Ne.symm nq6) _J _K _L (Ne.symm _fa) (Ne.symm _M) (Ne.symm _B) (Ne.symm _C) (Ne.symm _D) (Ne.symm _i) (Ne.symm _d) (Ne.symm _f) (Ne.symm _D) (Ne.symm _i) (Ne.symm _d) (Ne.symm _f) (Ne.symm _Lb) _Na _Oa _Pa _Qa _Ra _Sa SH SC BX hia hib hic BK nab nac nbc hA0 _ci _di (by decide)) e29 (by decide) (by rw [hml]; rfl) (lenOf pd37 rfl) (Nat.le_of_eq rfl) (hb hby at_176) ?_
     intro T30 v30 L30 h30 e30 X30 _fi
     obtain ⟨_P, rfl, N30, K30, _Gf, _qj, _Hf, _If⟩ := _fi
     have M30 := Fr.app M29 N30
     refine gs ?_ fun _ _k => XS.istore X30.here hx rfl (hb hby at_179) rfl (l' := #[vI p0, vI p1, vI p2, vI p3, vI (Int32.ofNat A0), vI (Int32.ofNat A1), vI (0 : Int32), vR b2, vI (1 : Int32), vI (Int32.ofNat _P), vU]) rfl _k
     show Go p e s _a _ _ _ T30 (mkF m 181 #[vI p0, vI p1, vI p2, vI p3, vI (Int32.ofNat A0), vI (Int32.ofNat A1), vI (0 : Int32), vR b2, vI (1 : Int32), vI (Int32.ofNat _P), vU] [])
     refine gs ?_ fun _ _k => XS.iload X30.here hx rfl (hb hby at_181) rfl _k
     refine gs ?_ fun _ _k => XT.bipushV X30.here hx rfl (7 : Int32) (hb hby at_183) (by decide) _k
     refine gs ?_ fun _ _k => XS.iand X30.here hx rfl (hb hby at_185) rfl _k
     refine gs ?_ fun _ _k => XS.iload X30.here hx rfl (hb hby at_186) rfl _k
     have J31 : ∀ z31 : Int32, (((Int32.ofNat (own_pop _P + 0)) = (Int32.ofNat (own_pop A0)) → z31 = 1) ∧ (¬ (Int32.ofNat (own_pop _P + 0)) = (Int32.ofNat (own_pop A0)) → z31 = 0)) → Go p e s _a (fun v h L => v = some (.int 1) ∧ Fr n0 L) room_1.cells room_1.slots T30 (mkF m 213 #[vI p0, vI p1, vI p2, vI p3, vI (Int32.ofNat A0), vI (Int32.ofNat A1), vI (0 : Int32), vR b2, vI (1 : Int32), vI (Int32.ofNat _P), vU] [(.int z31)]) := by
      intro z31 _gi
      show Go p e s _a _ _ _ T30 (mkF m 213 #[vI p0, vI p1, vI p2, vI p3, vI (Int32.ofNat A0), vI (Int32.ofNat A1), vI (0 : Int32), vR b2, vI (1 : Int32), vI (Int32.ofNat _P), vU] [(.int z31)])
      refine gs ?_ fun _ _k => XS.istore X30.here hx rfl (hb hby at_213) rfl (l' := #[vI p0, vI p1, vI p2, vI p3, vI (Int32.ofNat A0), vI (Int32.ofNat A1), vI (0 : Int32), vR b2, vI (1 : Int32), vI (Int32.ofNat _P), vI z31]) rfl _k
      refine gs ?_ fun _ _k => XS.iload X30.here hx rfl (hb hby at_215) rfl _k
      refine gs ?_ fun _ _k => XS.ifNo X30.here hx rfl (hb hby at_217) rfl ((if0 _ _).trans (feq (by decide : ¬ ((1 : Int32) = (0 : Int32)))).1) _k
      refine gs ?_ fun _ _k => XS.aload X30.here hx rfl (hb hby at_220) rfl rfl _k
      show Go p e s _a _ _ _ T30 (mkF m 222 #[vI p0, vI p1, vI p2, vI p3, vI (Int32.ofNat A0), vI (Int32.ofNat A1), vI (0 : Int32), vR b2, vI (1 : Int32), vI (Int32.ofNat _P), vI z31] [(.ref b2)])
      have _hi := own_extK _Ff K30 (allS sz2 (allS _Q (allS _R (allS _S all0))))
      refine Go.callV (b := b2) (W := 0) (argsL := []) (rest := []) X30 hx hZ _E (y := mn_57) (z := mn_57) (qw hw 230 rfl) (qw hw 231 rfl) (notFace_of_selects (args := #[]) (mvT hZ (qw hw 233 rfl))) (qw hw 233 rfl) (qw hw 232 rfl) (qw hw 2 rfl) (qw hw 234 rfl) (rmCMM l Z a0 hw [] false b2 _h ka kb _g _g (Int32.ofNat (own_pop A0)) (Int32.ofNat (own_pop _P + 0)) h30 n0 (Nat.le_trans Z0 _hi.1) _Gf) e30 (GrB.exa _Gf) (by decide) (by rw [hml]; rfl) (lenOf pd23 rfl) (Nat.le_of_eq rfl) (hb hby at_222) ?_
      intro T32 v32 L32 h32 e32 X32 _ii
      obtain ⟨_rj, rfl, _ji, N32, E32⟩ := _ii
      have M32 := Fr.app M30 N32
      refine gs ?_ fun _ _k => XS.iload X32.here hx rfl (hb hby at_225) rfl _k
      refine gs ?_ fun _ _k => XS.icmpNo X32.here hx rfl (hb hby at_227) rfl (teq (own_eqz _ji _gi)).2 _k
      refine gs ?_ fun _ _k => XT.iconstV X32.here hx rfl (1 : Int32) (hb hby at_230) (by decide) _k
      refine gs ?_ fun _ _k => XS.goto X32.here hx rfl (pc0 := 231) (pc' := 235) rfl (hb hby at_231) (by decide) (by decide) _k
      show Go p e s _a _ _ _ T32 (mkF m 235 #[vI p0, vI p1, vI p2, vI p3, vI (Int32.ofNat A0), vI (Int32.ofNat A1), vI (0 : Int32), vR b2, vI (1 : Int32), vI (Int32.ofNat _P), vI z31] [(.int 1)])
      exact Go.retN X32 hx hlk _Ud (by simp) (hb hby at_235) (by decide) (by decide) ⟨rfl, M32⟩
     by_cases _Aa : ((Int32.ofNat _P) &&& (7 : Int32)) = (Int32.ofNat A0)
     · --
      refine gs ?_ fun _ _k => XS.icmpNo X30.here hx rfl (hb hby at_188) rfl (teq _Aa).2 _k
      refine gs ?_ fun _ _k => XS.iload X30.here hx rfl (hb hby at_191) rfl _k
      refine gs ?_ fun _ _k => XS.ifYes X30.here hx rfl (pc0 := 193) (pc' := 208) rfl (hb hby at_193) rfl ((if0 _ _).trans (teq rfl).1) (by decide) (by decide) _k
      refine gs ?_ fun _ _k => XT.iconstV X30.here hx rfl (1 : Int32) (hb hby at_208) (by decide) _k
      refine gs ?_ fun _ _k => XS.goto X30.here hx rfl (pc0 := 209) (pc' := 213) rfl (hb hby at_209) (by decide) (by decide) _k
      show Go p e s _a _ _ _ T30 (mkF m 213 #[vI p0, vI p1, vI p2, vI p3, vI (Int32.ofNat A0), vI (Int32.ofNat A1), vI (0 : Int32), vR b2, vI (1 : Int32), vI (Int32.ofNat _P), vU] [(.int 1)])
      exact J31 (1 : Int32) ⟨fun _ => rfl, fun q => absurd ((own_c8 _P _Hf A0 hA0 _If).mpr _Aa) q⟩
     · --
      refine gs ?_ fun _ _k => XS.icmpYes X30.here hx rfl (pc0 := 188) (pc' := 212) rfl (hb hby at_188) rfl (feq _Aa).2 (by decide) (by decide) _k
      refine gs ?_ fun _ _k => XT.iconstV X30.here hx rfl (0 : Int32) (hb hby at_212) (by decide) _k
      show Go p e s _a _ _ _ T30 (mkF m 213 #[vI p0, vI p1, vI p2, vI p3, vI (Int32.ofNat A0), vI (Int32.ofNat A1), vI (0 : Int32), vR b2, vI (1 : Int32), vI (Int32.ofNat _P), vU] [(.int 0)])
      exact J31 (0 : Int32) ⟨fun q => absurd ((own_c8 _P _Hf A0 hA0 _If).mp q) _Aa, fun _ => rfl⟩
    · --
     refine gs ?_ fun _ _k => XS.ifNo X26.here hx rfl (hb hby at_132) rfl ((if0 _ _).trans (feq _za).1) _k
     show Go p e s _a _ _ _ T26 (mkF m 135 #[vI p0, vI p1, vI p2, vI p3, vI (Int32.ofNat A0), vI (Int32.ofNat A1), vI z1, vR b2, vI (1 : Int32), vI (Int32.ofNat _j), vU] [])
     have hz1 := hj1.resolve_left _za
     subst hz1
     show Go p e s _a _ _ _ T26 (mkF m 135 #[vI p0, vI p1, vI p2, vI p3, vI (Int32.ofNat A0), vI (Int32.ofNat A1), vI (1 : Int32), vR b2, vI (1 : Int32), vI (Int32.ofNat _j), vU] [])
     refine gs ?_ fun _ _k => XS.aload X26.here hx rfl (hb hby at_135) rfl rfl _k
     refine gs ?_ fun _ _k => XT.iconstV X26.here hx rfl (1 : Int32) (hb hby at_137) (by decide) _k
     show Go p e s _a _ _ _ T26 (mkF m 138 #[vI p0, vI p1, vI p2, vI p3, vI (Int32.ofNat A0), vI (Int32.ofNat A1), vI (1 : Int32), vR b2, vI (1 : Int32), vI (Int32.ofNat _j), vU] [(.int 1), (.ref b2)])
     have _rc := own_extE _qd E26
     have _Ab := own_extE (own_extK _Nc K25 (allS (Nat.le_trans ZN gn2) (allS (Nat.le_trans ZN _w) (allS (Nat.le_trans ZN _y) (allS (Nat.le_trans ZN _z) all0))))) E26
     refine Go.callS (W := 1) (argsL := [(.int 1)]) (rest := [(.ref b2)]) X26 hx hZ _E (y := mn_27) (qw hw 39 rfl) (qw hw 40 rfl) (qw hw 41 rfl) (qw hw 42 rfl) (rmVO1 l Z a0 hw [] ca cl kb h26 n0 (Nat.le_trans Z0 _rc.1) ZN _Ab SH SC BX hib) e26 (by decide) (by rw [hml]; rfl) (lenOf pd26 rfl) (Nat.le_of_eq rfl) (hb hby at_138) ?_
     intro T34 v34 L34 h34 e34 X34 _ki
     obtain ⟨rfl, N34, K34⟩ := _ki
     have M34 := Fr.app M26 N34
     refine gs ?_ fun _ _k => XS.iload X34.here hx rfl (hb hby at_141) rfl _k
     show Go p e s _a _ _ _ T34 (mkF m 143 #[vI p0, vI p1, vI p2, vI p3, vI (Int32.ofNat A0), vI (Int32.ofNat A1), vI (1 : Int32), vR b2, vI (1 : Int32), vI (Int32.ofNat _j), vU] [(.int (Int32.ofNat A1)), (.ref kb), (.ref b2)])
     have _Jf := own_extE _rc K34
     have _Nd := own_extE _Ab K34
     refine Go.callS (W := 2) (argsL := [(.int (Int32.ofNat A1))]) (rest := [(.ref kb), (.ref b2)]) X34 hx hZ _E (y := mn_53) (qw hw 46 rfl) (qw hw 47 rfl) (qw hw 48 rfl) (qw hw 49 rfl) (rmAWM l Z a0 hw [] A1 hA1 ca cl ka kb kc SH SC BX hia hib hic BK dc _od SDC VD h34 n0 (Nat.le_trans Z0 _Jf.1) ZN _Nd) e34 (by decide) (by rw [hml]; rfl) (lenOf pd35 rfl) (Nat.le_of_eq rfl) (hb hby at_143) ?_
     intro T35 v35 L35 h35 e35 X35 _oi
     obtain ⟨_jb, rfl, N35, E35, _Rc, _qi, _ri, _ti⟩ := _oi
     have M35 := Fr.app M34 N35
     show Go p e s _a _ _ _ T35 (mkF m 146 #[vI p0, vI p1, vI p2, vI p3, vI (Int32.ofNat A0), vI (Int32.ofNat A1), vI (1 : Int32), vR b2, vI (1 : Int32), vI (Int32.ofNat _j), vU] [(.ref _jb), (.ref kb), (.ref b2)])
     have _qh := ((_Oc.ext E26).ext K34).ext E35
     obtain ⟨_ui, _vi, _ga, _Mb, _uc, _Ec, _vc, _kb, _Bb, _wi⟩ := _qh
     have _wc := own_extE _Jf E35
     have _Od := own_extE _Nd E35
     have _ia := ((((_Lc.ext E14).keep K25).ext E26).ext K34).ext E35
     have _Ba := ((((_ch.ext E14).keep K25 (ninS (Ne.symm nq6) (ninS _J (ninS _K (ninS _L nin0))))).ext E26).ext K34).ext E35
     have _Cb := ((((_Jd.ext E14).keep K25 (ninS (Ne.symm nq6) (ninS _J (ninS _K (ninS _L nin0))))).ext E26).ext K34).ext E35
     have _La := ((((_ff.ext E14).keep K25 (ninS (Ne.symm nq6) (ninS _J (ninS _K (ninS _L nin0))))).ext E26).ext K34).ext E35
     have _Ta := ((((_gf.ext E14).keep K25 (ninS (Ne.symm nq6) (ninS _J (ninS _K (ninS _L nin0))))).ext E26).ext K34).ext E35
     have _Nb := ((((_hf.ext E14).keep K25 (ninS (Ne.symm nq6) (ninS _J (ninS _K (ninS _L nin0))))).ext E26).ext K34).ext E35
     have _Ob := ((((_if.ext E14).keep K25 (ninS (Ne.symm nq6) (ninS _J (ninS _K (ninS _L nin0))))).ext E26).ext K34).ext E35
     have _Pb := ((((_jf.ext E14).keep K25 (ninS (Ne.symm nq6) (ninS _J (ninS _K (ninS _L nin0))))).ext E26).ext K34).ext E35
     have _gb := ((((_kf.ext E14).keep K25 (ninS (Ne.symm nq6) (ninS _J (ninS _K (ninS _L nin0))))).ext E26).ext K34).ext E35
     have _ua := ((((_Vc.ext E14).keep K25 (ninS (Ne.symm nq6) (ninS _J (ninS _K (ninS _L nin0))))).ext E26).ext K34).ext E35
     have _Td := (((((((((_da.ext E2).keep K3).ext K4).ext E5).keep K10).ext E14).keep K25).ext E26).ext K34).ext E35
     have _Kf : kb ≠ _h := Nat.ne_of_lt (Nat.lt_of_lt_of_le (_da.ext E2).lt _bc)
     have _yi : kb ≠ _q := Nat.ne_of_lt (Nat.lt_of_lt_of_le ((((_da.ext E2).keep K3).ext K4).ext E5).lt _wb)
     have _zi : kb ≠ _o := Nat.ne_of_lt (Nat.lt_of_lt_of_le ((((_da.ext E2).keep K3).ext K4).ext E5).lt _vb)
     have _Ai : kb ≠ _k := Nat.ne_of_lt (Nat.lt_of_lt_of_le ((((_da.ext E2).keep K3).ext K4).ext E5).lt _ub)
     have _ac := (((((((((_Ic.ext E2).keep K3 (ninS (Nat.ne_of_lt (Nat.lt_of_lt_of_le _da.lt sz2)) nin0)).ext K4).ext E5).keep K10 (ninS (Nat.ne_of_lt (Nat.lt_of_lt_of_le _da.lt sz2)) (ninS _Kf nin0))).ext E14).keep K25 (ninS (Nat.ne_of_lt (Nat.lt_of_lt_of_le _da.lt sz2)) (ninS _Ai (ninS _zi (ninS _yi nin0))))).ext E26).ext K34).ext E35
     have _F := ((((_jc.ext E14).keep K25).ext E26).ext K34).ext E35
     have _va := ((((_Wc.ext E14).keep K25 (ninS (Ne.symm _D) (ninS (Ne.symm _i) (ninS (Ne.symm _d) (ninS (Ne.symm _f) nin0))))).ext E26).ext K34).ext E35
     have _Ca := ((((_ad.ext E14).keep K25 (ninS (Ne.symm _D) (ninS (Ne.symm _i) (ninS (Ne.symm _d) (ninS (Ne.symm _f) nin0))))).ext E26).ext K34).ext E35
     have _ja := ((((_bd.ext E14).keep K25 (ninS (Ne.symm _D) (ninS (Ne.symm _i) (ninS (Ne.symm _d) (ninS (Ne.symm _f) nin0))))).ext E26).ext K34).ext E35
     have _wa := ((((_cd.ext E14).keep K25 (ninS (Ne.symm _D) (ninS (Ne.symm _i) (ninS (Ne.symm _d) (ninS (Ne.symm _f) nin0))))).ext E26).ext K34).ext E35
     have _ha := ((((_tf.ext E14).keep K25 (ninS (Ne.symm _D) (ninS (Ne.symm _i) (ninS (Ne.symm _d) (ninS (Ne.symm _f) nin0))))).ext E26).ext K34).ext E35
     have _ka := ((((_uf.ext E14).keep K25 (ninS (Ne.symm _D) (ninS (Ne.symm _i) (ninS (Ne.symm _d) (ninS (Ne.symm _f) nin0))))).ext E26).ext K34).ext E35
     have _G := ((((_ic.ext E14).keep K25 (ninS (Ne.symm _fa) (ninS (Ne.symm _M) (ninS (Ne.symm _B) (ninS (Ne.symm _C) nin0))))).ext E26).ext K34).ext E35
     have _Bi : _h ≠ _b := Nat.ne_of_lt (Nat.lt_of_lt_of_le (_O).lt _zb)
     have _Ci : _h ≠ _c := Nat.ne_of_lt (Nat.lt_of_lt_of_le (_O).lt _yb)
     have _Di : kb ≠ _b := Nat.ne_of_lt (Nat.lt_of_lt_of_le ((((_da.ext E2).keep K3).ext K4).ext E5).lt _zb)
     have _Ei : kb ≠ _c := Nat.ne_of_lt (Nat.lt_of_lt_of_le ((((_da.ext E2).keep K3).ext K4).ext E5).lt _yb)
     have _Fi : b2 ≠ _jb := Nat.ne_of_lt (Nat.lt_of_lt_of_le ((((_Id.ext E14).keep K25).ext E26).ext K34).lt _Rc)
     have _Gi : _h ≠ _jb := Nat.ne_of_lt (Nat.lt_of_lt_of_le ((((_Lc.ext E14).keep K25).ext E26).ext K34).lt _Rc)
     have _Hi : _b ≠ _jb := Nat.ne_of_lt (Nat.lt_of_lt_of_le ((((_jc.ext E14).keep K25).ext E26).ext K34).lt _Rc)
     have _Ii : _c ≠ _jb := Nat.ne_of_lt (Nat.lt_of_lt_of_le ((((_ic.ext E14).keep K25 (ninS (Ne.symm _fa) (ninS (Ne.symm _M) (ninS (Ne.symm _B) (ninS (Ne.symm _C) nin0))))).ext E26).ext K34).lt _Rc)
     refine Go.callV (b := b2) (W := 0) (argsL := [(.ref kb), (.ref _jb)]) (rest := []) X35 hx hZ _E (y := mn_54) (z := mn_54) (qw hw 74 rfl) (qw hw 75 rfl) (notFace_of_selects (args := #[]) (mvT hZ (qw hw 77 rfl))) (qw hw 77 rfl) (qw hw 76 rfl) (qw hw 2 rfl) (qw hw 78 rfl) (rmAD1 l Z a0 hw [] _ui _vi (Int32.ofNat (own_pop A0)) (Int32.ofNat (own_pop _j + 0)) (own_pop A1) el em ka _g b2 _h kb _jb _b _c _r h35 n0 (Nat.le_trans Z0 _wc.1) ZN _Od gn2 _rb _Ja _Ha _ga _Mb _uc _Ec _vc _kb _Bb _ia _Ba _Cb _La _Ta _Nb _Ob _Pb _gb _ua _Td _ac _qi _ri _F _va _Ca _ja _wa _ha _ka _G _kc _ti nq6 _D _fa _Bi _Ci (Nat.ne_of_lt (Nat.lt_of_lt_of_le _da.lt sz2)) _Kf _Di _Ei (Ne.symm _Fi) (Ne.symm _Gi) (Ne.symm _Hi) (Ne.symm _Ii) (Ne.symm _Sd) SEL SEM MM) e35 _ga (by decide) (by rw [hml]; rfl) (lenOf pd36 rfl) (Nat.le_of_eq rfl) (hb hby at_146) ?_
     intro T49 v49 L49 h49 e49 X49 _Ji
     obtain ⟨_N, _t, _u, _v, _A, _Qb, _Rb, _Sb, rfl, N49, K49, _Db, _T, _U, _V, _Eb, _rh, _th, _uh, _vh, _wh, _yh, _zh, _Ah, _jj, _Bh, _bj, _cj, _dj, _fj, _gj, _hj, _Lf, _Mf, _Nf, _Of, _Pf, _Qf, _Rf, _dd, _Sf, _Tf, _Uf, _Vf, _Wf, _ag, _bg, _cg, _dg, _fg, _gg, _hg, _ig, _fd, _gd, _hd, _ij, _id, _jd, _yc, _kd, _zc, _Ac⟩ := _Ji
     have M49 := Fr.app M35 N49
     have _Ua : h0.size ≤ _t := Nat.le_trans _wc.1 _T
     have _Va : n0 ≤ _t := Nat.le_trans Z0 _Ua
     have _Wa : h0.size ≤ _u := Nat.le_trans _wc.1 _U
     have _ab : n0 ≤ _u := Nat.le_trans Z0 _Wa
     have _bb : h0.size ≤ _v := Nat.le_trans _wc.1 _V
     have _cb : n0 ≤ _v := Nat.le_trans Z0 _bb
     show Go p e s _a _ _ _ T49 (mkF m 149 #[vI p0, vI p1, vI p2, vI p3, vI (Int32.ofNat A0), vI (Int32.ofNat A1), vI (1 : Int32), vR b2, vI (1 : Int32), vI (Int32.ofNat _j), vU] [])
     have _Sc := (((((_oa.ext E14).keep K25).ext E26).ext K34).ext E35).keep K49
     have _Pd : MapOK Z h49 true _h _c _b _A _r ka kb _g _N := ⟨_Ah, _Bh, _Lf, _Rf, _kc, _Mf, _Nf, _Of, _Pf, _Qf, (fun _ => _bg), (fun _ => _cg), (fun _ => _dg), (fun _ => _fg), (fun _ => _gg), _Sc, (fun _ => _dd)⟩
     have _Qd := _vh
     rw [← Int32.ofNat_add] at _Qd
     have _Ch : GrB Z h49 true b2 _h ka kb _g _N (Int32.ofNat (own_pop A0 + own_pop A1)) (Int32.ofNat (own_pop _j + own_pop 0)) := ⟨_, _, _rh, _th, _uh, _Qd, _wh, _yh, _zh, (LSok.to2 _wi)⟩
     have _Dh : NodB Z h49 true _N _t _u _v _Qb _Rb _Sb ka kb kc _g _N 0 (0 + 1) := ⟨0, 0, 0, .null, .null, .null, .null, .null, .null, _dd, _Sf, _Tf, _Uf, _Vf, _hg, _Wf, _ag, _ig, ⟨by decide, Or.inl ⟨rfl, rfl⟩⟩, ⟨by decide, Or.inl ⟨rfl, rfl⟩⟩, ⟨by decide, Or.inl ⟨rfl, rfl⟩⟩, by decide⟩
     have _Ki : _h ≠ _g := Nat.ne_of_lt (Nat.lt_of_lt_of_le (_O).lt _Uc)
     have _Eh := (((_Df.ext E26).ext K34).ext E35).keep K49 (ninS (Ne.symm _Lb) (ninS (Ne.symm _Ki) (ninS _zf (ninS _yf nin0)))) (ninS (Ne.symm _Ib) (ninS (Ne.symm _J) (ninS _i (ninS _M nin0)))) (ninS (Ne.symm _Jb) (ninS (Ne.symm _K) (ninS _d (ninS _B nin0)))) (ninS (Ne.symm _Kb) (ninS (Ne.symm _L) (ninS _f (ninS _C nin0))))
     have _Fh := NodB.to2 (vb := _N) _Eh
     show Go p e s _a _ _ _ T49 (mkF m 149 #[vI p0, vI p1, vI p2, vI p3, vI (Int32.ofNat A0), vI (Int32.ofNat A1), vI (1 : Int32), vR b2, vI (1 : Int32), vI (Int32.ofNat (_j + 8 * 0)), vU] [])
     refine gs ?_ fun _ _k => XS.aload X49.here hx rfl (hb hby at_149) rfl rfl _k
     refine gs ?_ fun _ _k => XS.iloadN X49.here hx rfl (hb hby at_151) rfl _k
     refine gs ?_ fun _ _k => XS.iload X49.here hx rfl (hb hby at_152) rfl _k
     refine gs ?_ fun _ _k => XS.iload X49.here hx rfl (hb hby at_154) rfl _k
     refine gs ?_ fun _ _k => XS.iload X49.here hx rfl (hb hby at_156) rfl _k
     refine gs ?_ fun _ _k => XS.iload X49.here hx rfl (hb hby at_158) rfl _k
     show Go p e s _a _ _ _ T49 (mkF m 160 #[vI p0, vI p1, vI p2, vI p3, vI (Int32.ofNat A0), vI (Int32.ofNat A1), vI (1 : Int32), vR b2, vI (1 : Int32), vI (Int32.ofNat (_j + 8 * 0)), vU] [(.int (Int32.ofNat (_j + 8 * 0))), (.int (Int32.ofNat A1)), (.int (Int32.ofNat A0)), (.int 1), (.int p2), (.ref b2)])
     have _jg := own_extK _wc K49 (allS sz2 (allS _dc (allS _Ia (allS _Ga all0))))
     have _Rd := own_extK _Od K49 (allS (Nat.le_trans ZN gn2) (allS (Nat.le_trans ZN _rb) (allS (Nat.le_trans ZN _Ja) (allS (Nat.le_trans ZN _Ha) all0))))
     have _kg : b2 ≠ _t := Nat.ne_of_lt (Nat.lt_of_lt_of_le (_ga).lt _T)
     have _og : b2 ≠ _u := Nat.ne_of_lt (Nat.lt_of_lt_of_le (_ga).lt _U)
     have _qg : b2 ≠ _v := Nat.ne_of_lt (Nat.lt_of_lt_of_le (_ga).lt _V)
     have _rd : _h ≠ _t := Nat.ne_of_lt (Nat.lt_of_lt_of_le (_ia).lt _T)
     have _td : _h ≠ _u := Nat.ne_of_lt (Nat.lt_of_lt_of_le (_ia).lt _U)
     have _ud : _h ≠ _v := Nat.ne_of_lt (Nat.lt_of_lt_of_le (_ia).lt _V)
     have _vd : _c ≠ _t := Nat.ne_of_lt (Nat.lt_of_lt_of_le (_G).lt _T)
     have _wd : _c ≠ _u := Nat.ne_of_lt (Nat.lt_of_lt_of_le (_G).lt _U)
     have _yd : _c ≠ _v := Nat.ne_of_lt (Nat.lt_of_lt_of_le (_G).lt _V)
     have _zd : _b ≠ _t := Nat.ne_of_lt (Nat.lt_of_lt_of_le (_F).lt _T)
     have _Ad : _b ≠ _u := Nat.ne_of_lt (Nat.lt_of_lt_of_le (_F).lt _U)
     have _Bd : _b ≠ _v := Nat.ne_of_lt (Nat.lt_of_lt_of_le (_F).lt _V)
     have _Cd : b2 ≠ _A := Nat.ne_of_lt (Nat.lt_of_lt_of_le (_ga).lt _Eb)
     have _Dd : _k ≠ _A := Nat.ne_of_lt (Nat.lt_of_lt_of_le (Nat.lt_of_lt_of_le (Nat.lt_of_lt_of_le (Nat.lt_of_lt_of_le (Nat.lt_of_lt_of_le (Nat.lt_of_lt_of_le _qa.lt E14.1) K25.1) E26.1) K34.1) E35.1) _Eb)
     have _Ed : _o ≠ _A := Nat.ne_of_lt (Nat.lt_of_lt_of_le (Nat.lt_of_lt_of_le (Nat.lt_of_lt_of_le (Nat.lt_of_lt_of_le (Nat.lt_of_lt_of_le (Nat.lt_of_lt_of_le _ra.lt E14.1) K25.1) E26.1) K34.1) E35.1) _Eb)
     have _Fd : _q ≠ _A := Nat.ne_of_lt (Nat.lt_of_lt_of_le (Nat.lt_of_lt_of_le (Nat.lt_of_lt_of_le (Nat.lt_of_lt_of_le (Nat.lt_of_lt_of_le (Nat.lt_of_lt_of_le _ta.lt E14.1) K25.1) E26.1) K34.1) E35.1) _Eb)
     have _rg : _g ≠ _t := Nat.ne_of_lt (Nat.lt_of_lt_of_le (((((_oa.ext E14).keep K25).ext E26).ext K34).ext E35).lt _T)
     have _tg : _g ≠ _u := Nat.ne_of_lt (Nat.lt_of_lt_of_le (((((_oa.ext E14).keep K25).ext E26).ext K34).ext E35).lt _U)
     have _ug : _g ≠ _v := Nat.ne_of_lt (Nat.lt_of_lt_of_le (((((_oa.ext E14).keep K25).ext E26).ext K34).ext E35).lt _V)
     have _vg : _k ≠ _t := Nat.ne_of_lt (Nat.lt_of_lt_of_le (Nat.lt_of_lt_of_le (Nat.lt_of_lt_of_le (Nat.lt_of_lt_of_le (Nat.lt_of_lt_of_le (Nat.lt_of_lt_of_le _qa.lt E14.1) K25.1) E26.1) K34.1) E35.1) _T)
     have _wg : _k ≠ _u := Nat.ne_of_lt (Nat.lt_of_lt_of_le (Nat.lt_of_lt_of_le (Nat.lt_of_lt_of_le (Nat.lt_of_lt_of_le (Nat.lt_of_lt_of_le (Nat.lt_of_lt_of_le _qa.lt E14.1) K25.1) E26.1) K34.1) E35.1) _U)
     have _yg : _k ≠ _v := Nat.ne_of_lt (Nat.lt_of_lt_of_le (Nat.lt_of_lt_of_le (Nat.lt_of_lt_of_le (Nat.lt_of_lt_of_le (Nat.lt_of_lt_of_le (Nat.lt_of_lt_of_le _qa.lt E14.1) K25.1) E26.1) K34.1) E35.1) _V)
     have _zg : _o ≠ _t := Nat.ne_of_lt (Nat.lt_of_lt_of_le (Nat.lt_of_lt_of_le (Nat.lt_of_lt_of_le (Nat.lt_of_lt_of_le (Nat.lt_of_lt_of_le (Nat.lt_of_lt_of_le _ra.lt E14.1) K25.1) E26.1) K34.1) E35.1) _T)
     have _Ag : _o ≠ _u := Nat.ne_of_lt (Nat.lt_of_lt_of_le (Nat.lt_of_lt_of_le (Nat.lt_of_lt_of_le (Nat.lt_of_lt_of_le (Nat.lt_of_lt_of_le (Nat.lt_of_lt_of_le _ra.lt E14.1) K25.1) E26.1) K34.1) E35.1) _U)
     have _Bg : _o ≠ _v := Nat.ne_of_lt (Nat.lt_of_lt_of_le (Nat.lt_of_lt_of_le (Nat.lt_of_lt_of_le (Nat.lt_of_lt_of_le (Nat.lt_of_lt_of_le (Nat.lt_of_lt_of_le _ra.lt E14.1) K25.1) E26.1) K34.1) E35.1) _V)
     have _Cg : _q ≠ _t := Nat.ne_of_lt (Nat.lt_of_lt_of_le (Nat.lt_of_lt_of_le (Nat.lt_of_lt_of_le (Nat.lt_of_lt_of_le (Nat.lt_of_lt_of_le (Nat.lt_of_lt_of_le _ta.lt E14.1) K25.1) E26.1) K34.1) E35.1) _T)
     have _Dg : _q ≠ _u := Nat.ne_of_lt (Nat.lt_of_lt_of_le (Nat.lt_of_lt_of_le (Nat.lt_of_lt_of_le (Nat.lt_of_lt_of_le (Nat.lt_of_lt_of_le (Nat.lt_of_lt_of_le _ta.lt E14.1) K25.1) E26.1) K34.1) E35.1) _U)
     have _Eg : _q ≠ _v := Nat.ne_of_lt (Nat.lt_of_lt_of_le (Nat.lt_of_lt_of_le (Nat.lt_of_lt_of_le (Nat.lt_of_lt_of_le (Nat.lt_of_lt_of_le (Nat.lt_of_lt_of_le _ta.lt E14.1) K25.1) E26.1) K34.1) E35.1) _V)
     have _Fg : b2 ≠ _N := Nat.ne_of_lt (Nat.lt_of_lt_of_le (_ga).lt _Db)
     have _Gg : _k ≠ _N := Nat.ne_of_lt (Nat.lt_of_lt_of_le (Nat.lt_of_lt_of_le (Nat.lt_of_lt_of_le (Nat.lt_of_lt_of_le (Nat.lt_of_lt_of_le (Nat.lt_of_lt_of_le _qa.lt E14.1) K25.1) E26.1) K34.1) E35.1) _Db)
     have _Hg : _o ≠ _N := Nat.ne_of_lt (Nat.lt_of_lt_of_le (Nat.lt_of_lt_of_le (Nat.lt_of_lt_of_le (Nat.lt_of_lt_of_le (Nat.lt_of_lt_of_le (Nat.lt_of_lt_of_le _ra.lt E14.1) K25.1) E26.1) K34.1) E35.1) _Db)
     have _Ig : _q ≠ _N := Nat.ne_of_lt (Nat.lt_of_lt_of_le (Nat.lt_of_lt_of_le (Nat.lt_of_lt_of_le (Nat.lt_of_lt_of_le (Nat.lt_of_lt_of_le (Nat.lt_of_lt_of_le _ta.lt E14.1) K25.1) E26.1) K34.1) E35.1) _Db)
     refine Go.callS (W := 0) (argsL := [(.ref b2), (.int p2), (.int 1), (.int (Int32.ofNat A0)), (.int (Int32.ofNat A1)), (.int (Int32.ofNat (_j + 8 * 0)))]) (rest := []) X49 hx hZ _E (y := mn_64) (qw hw 237 rfl) (qw hw 238 rfl) (qw hw 48 rfl) (qw hw 239 rfl) (rmST1 l Z a0 hw [] ca cl ka kb kc b2 _h _c _b _A _g _k _o _q _N _t _u _v _r _aa _ba _ca _Qb _Rb _Sb (Int32.ofNat (own_pop A0 + own_pop A1)) p2 A0 _j (0 + 1) A1 0 h49 n0 (Nat.le_trans Z0 _jg.1) ZN _Rd gn2 _w _y _z _Va _ab _cb _Ch _Pd _Fh _Dh _Ib _Jb _Kb _kg _og _qg (Ne.symm nq6) _J _K _L _rd _td _ud (Ne.symm _fa) (Ne.symm _M) (Ne.symm _B) (Ne.symm _C) _vd _wd _yd (Ne.symm _D) (Ne.symm _i) (Ne.symm _d) (Ne.symm _f) _zd _Ad _Bd (Ne.symm _Cd) (Ne.symm _Dd) (Ne.symm _Ed) (Ne.symm _Fd) (Ne.symm _yc) (Ne.symm _zc) (Ne.symm _Ac) (Ne.symm _Lb) _Na _Oa _Pa _rg _tg _ug _Qa _Ra _vg _wg _yg _Sa _zg _Ag _Bg _Cg _Dg _Eg (Ne.symm _Fg) (Ne.symm _Gg) (Ne.symm _Hg) (Ne.symm _Ig) _fd _gd _hd _id _jd _kd SH SC BX hia hib hic BK nab nac nbc hA0 _Pc _Qc (by decide) hA1 (by decide) (own_s0 A1 hA1)) e49 (by decide) (by rw [hml]; rfl) (lenOf pd37 rfl) (Nat.le_of_eq rfl) (hb hby at_160) ?_
     intro T87 v87 L87 h87 e87 X87 _Li
     obtain ⟨_Bc, _Cc, rfl, N87, K87, _Mi, _Ni, _Oi, _Pi, _Qi, _Ri, _Si⟩ := _Li
     have M87 := Fr.app M49 N87
     refine gs ?_ fun _ _k => XS.istore X87.here hx rfl (hb hby at_163) rfl (l' := #[vI p0, vI p1, vI p2, vI p3, vI (Int32.ofNat A0), vI (Int32.ofNat A1), vI (1 : Int32), vR b2, vI (1 : Int32), vI (Int32.ofNat (_Bc + 8 * _Cc)), vU]) rfl _k
     refine gs ?_ fun _ _k => XS.aload X87.here hx rfl (hb hby at_165) rfl rfl _k
     refine gs ?_ fun _ _k => XS.iloadN X87.here hx rfl (hb hby at_167) rfl _k
     refine gs ?_ fun _ _k => XS.iload X87.here hx rfl (hb hby at_168) rfl _k
     refine gs ?_ fun _ _k => XS.iload X87.here hx rfl (hb hby at_170) rfl _k
     refine gs ?_ fun _ _k => XS.iload X87.here hx rfl (hb hby at_172) rfl _k
     refine gs ?_ fun _ _k => XS.iload X87.here hx rfl (hb hby at_174) rfl _k
     show Go p e s _a _ _ _ T87 (mkF m 176 #[vI p0, vI p1, vI p2, vI p3, vI (Int32.ofNat A0), vI (Int32.ofNat A1), vI (1 : Int32), vR b2, vI (1 : Int32), vI (Int32.ofNat (_Bc + 8 * _Cc)), vU] [(.int (Int32.ofNat (_Bc + 8 * _Cc))), (.int (Int32.ofNat A1)), (.int (Int32.ofNat A0)), (.int 1), (.int p3), (.ref b2)])
     have _Jg := own_extK _jg K87 (allS sz2 (allS _Q (allS _R (allS _S (allS _Ua (allS _Wa (allS _bb all0)))))))
     have _Gh := own_extK _Rd K87 (allS (Nat.le_trans ZN gn2) (allS (Nat.le_trans ZN _w) (allS (Nat.le_trans ZN _y) (allS (Nat.le_trans ZN _z) (allS (Nat.le_trans ZN _Va) (allS (Nat.le_trans ZN _ab) (allS (Nat.le_trans ZN _cb) all0)))))))
     have _Hh := _Pd.keep K87 (ninS (Ne.symm nq6) (ninS _J (ninS _K (ninS _L (ninS _rd (ninS _td (ninS _ud nin0))))))) (ninS (Ne.symm _fa) (ninS (Ne.symm _M) (ninS (Ne.symm _B) (ninS (Ne.symm _C) (ninS _vd (ninS _wd (ninS _yd nin0))))))) (ninS (Ne.symm _D) (ninS (Ne.symm _i) (ninS (Ne.symm _d) (ninS (Ne.symm _f) (ninS _zd (ninS _Ad (ninS _Bd nin0))))))) (ninS (Ne.symm _Cd) (ninS (Ne.symm _Dd) (ninS (Ne.symm _Ed) (ninS (Ne.symm _Fd) (ninS (Ne.symm _yc) (ninS (Ne.symm _zc) (ninS (Ne.symm _Ac) nin0)))))))
     refine Go.callS (W := 0) (argsL := [(.ref b2), (.int p3), (.int 1), (.int (Int32.ofNat A0)), (.int (Int32.ofNat A1)), (.int (Int32.ofNat (_Bc + 8 * _Cc)))]) (rest := []) X87 hx hZ _E (y := mn_64) (qw hw 237 rfl) (qw hw 238 rfl) (qw hw 48 rfl) (qw hw 239 rfl) (rmST1 l Z a0 hw [] ca cl ka kb kc b2 _h _c _b _A _g _k _o _q _N _t _u _v _r _aa _ba _ca _Qb _Rb _Sb (Int32.ofNat (own_pop A0 + own_pop A1)) p3 A0 _Bc ((0 + 1) + 1) A1 _Cc h87 n0 (Nat.le_trans Z0 _Jg.1) ZN _Gh gn2 _w _y _z _Va _ab _cb _Mi _Hh _Ni _Oi _Ib _Jb _Kb _kg _og _qg (Ne.symm nq6) _J _K _L _rd _td _ud (Ne.symm _fa) (Ne.symm _M) (Ne.symm _B) (Ne.symm _C) _vd _wd _yd (Ne.symm _D) (Ne.symm _i) (Ne.symm _d) (Ne.symm _f) _zd _Ad _Bd (Ne.symm _Cd) (Ne.symm _Dd) (Ne.symm _Ed) (Ne.symm _Fd) (Ne.symm _yc) (Ne.symm _zc) (Ne.symm _Ac) (Ne.symm _Lb) _Na _Oa _Pa _rg _tg _ug _Qa _Ra _vg _wg _yg _Sa _zg _Ag _Bg _Cg _Dg _Eg (Ne.symm _Fg) (Ne.symm _Gg) (Ne.symm _Hg) (Ne.symm _Ig) _fd _gd _hd _id _jd _kd SH SC BX hia hib hic BK nab nac nbc hA0 _Pi _Qi (by decide) hA1 _Ri _Si) e87 (by decide) (by rw [hml]; rfl) (lenOf pd37 rfl) (Nat.le_of_eq rfl) (hb hby at_176) ?_
     intro T88 v88 L88 h88 e88 X88 _Ti
     obtain ⟨_H, _I, rfl, N88, K88, _Kg, _tj, _uj, _ob, _Gd, _qb, _Hd⟩ := _Ti
     have M88 := Fr.app M87 N88
     refine gs ?_ fun _ _k => XS.istore X88.here hx rfl (hb hby at_179) rfl (l' := #[vI p0, vI p1, vI p2, vI p3, vI (Int32.ofNat A0), vI (Int32.ofNat A1), vI (1 : Int32), vR b2, vI (1 : Int32), vI (Int32.ofNat (_H + 8 * _I)), vU]) rfl _k
     show Go p e s _a _ _ _ T88 (mkF m 181 #[vI p0, vI p1, vI p2, vI p3, vI (Int32.ofNat A0), vI (Int32.ofNat A1), vI (1 : Int32), vR b2, vI (1 : Int32), vI (Int32.ofNat (_H + 8 * _I)), vU] [])
     refine gs ?_ fun _ _k => XS.iload X88.here hx rfl (hb hby at_181) rfl _k
     refine gs ?_ fun _ _k => XT.bipushV X88.here hx rfl (7 : Int32) (hb hby at_183) (by decide) _k
     refine gs ?_ fun _ _k => XS.iand X88.here hx rfl (hb hby at_185) rfl _k
     refine gs ?_ fun _ _k => XS.iload X88.here hx rfl (hb hby at_186) rfl _k
     have J89 : ∀ z89 : Int32, (((Int32.ofNat (own_pop _H + own_pop _I)) = (Int32.ofNat (own_pop A0 + own_pop A1)) → z89 = 1) ∧ (¬ (Int32.ofNat (own_pop _H + own_pop _I)) = (Int32.ofNat (own_pop A0 + own_pop A1)) → z89 = 0)) → Go p e s _a (fun v h L => v = some (.int 1) ∧ Fr n0 L) room_1.cells room_1.slots T88 (mkF m 213 #[vI p0, vI p1, vI p2, vI p3, vI (Int32.ofNat A0), vI (Int32.ofNat A1), vI (1 : Int32), vR b2, vI (1 : Int32), vI (Int32.ofNat (_H + 8 * _I)), vU] [(.int z89)]) := by
      intro z89 _Ui
      show Go p e s _a _ _ _ T88 (mkF m 213 #[vI p0, vI p1, vI p2, vI p3, vI (Int32.ofNat A0), vI (Int32.ofNat A1), vI (1 : Int32), vR b2, vI (1 : Int32), vI (Int32.ofNat (_H + 8 * _I)), vU] [(.int z89)])
      refine gs ?_ fun _ _k => XS.istore X88.here hx rfl (hb hby at_213) rfl (l' := #[vI p0, vI p1, vI p2, vI p3, vI (Int32.ofNat A0), vI (Int32.ofNat A1), vI (1 : Int32), vR b2, vI (1 : Int32), vI (Int32.ofNat (_H + 8 * _I)), vI z89]) rfl _k
      refine gs ?_ fun _ _k => XS.iload X88.here hx rfl (hb hby at_215) rfl _k
      refine gs ?_ fun _ _k => XS.ifNo X88.here hx rfl (hb hby at_217) rfl ((if0 _ _).trans (feq (by decide : ¬ ((1 : Int32) = (0 : Int32)))).1) _k
      refine gs ?_ fun _ _k => XS.aload X88.here hx rfl (hb hby at_220) rfl rfl _k
      show Go p e s _a _ _ _ T88 (mkF m 222 #[vI p0, vI p1, vI p2, vI p3, vI (Int32.ofNat A0), vI (Int32.ofNat A1), vI (1 : Int32), vR b2, vI (1 : Int32), vI (Int32.ofNat (_H + 8 * _I)), vI z89] [(.ref b2)])
      have _Vi := own_extK _Jg K88 (allS sz2 (allS _Q (allS _R (allS _S (allS _Ua (allS _Wa (allS _bb all0)))))))
      refine Go.callV (b := b2) (W := 0) (argsL := []) (rest := []) X88 hx hZ _E (y := mn_57) (z := mn_57) (qw hw 230 rfl) (qw hw 231 rfl) (notFace_of_selects (args := #[]) (mvT hZ (qw hw 233 rfl))) (qw hw 233 rfl) (qw hw 232 rfl) (qw hw 2 rfl) (qw hw 234 rfl) (rmCMM l Z a0 hw [] true b2 _h ka kb _g _N (Int32.ofNat (own_pop A0 + own_pop A1)) (Int32.ofNat (own_pop _H + own_pop _I)) h88 n0 (Nat.le_trans Z0 _Vi.1) _Kg) e88 (GrB.exa _Kg) (by decide) (by rw [hml]; rfl) (lenOf pd23 rfl) (Nat.le_of_eq rfl) (hb hby at_222) ?_
      intro T90 v90 L90 h90 e90 X90 _Wi
      obtain ⟨_vj, rfl, _aj, N90, E90⟩ := _Wi
      have M90 := Fr.app M88 N90
      refine gs ?_ fun _ _k => XS.iload X90.here hx rfl (hb hby at_225) rfl _k
      refine gs ?_ fun _ _k => XS.icmpNo X90.here hx rfl (hb hby at_227) rfl (teq (own_eqz _aj _Ui)).2 _k
      refine gs ?_ fun _ _k => XT.iconstV X90.here hx rfl (1 : Int32) (hb hby at_230) (by decide) _k
      refine gs ?_ fun _ _k => XS.goto X90.here hx rfl (pc0 := 231) (pc' := 235) rfl (hb hby at_231) (by decide) (by decide) _k
      show Go p e s _a _ _ _ T90 (mkF m 235 #[vI p0, vI p1, vI p2, vI p3, vI (Int32.ofNat A0), vI (Int32.ofNat A1), vI (1 : Int32), vR b2, vI (1 : Int32), vI (Int32.ofNat (_H + 8 * _I)), vI z89] [(.int 1)])
      exact Go.retN X90 hx hlk _Ud (by simp) (hb hby at_235) (by decide) (by decide) ⟨rfl, M90⟩
     by_cases _Da : ((Int32.ofNat (_H + 8 * _I)) &&& (7 : Int32)) = (Int32.ofNat A0)
     · --
      refine gs ?_ fun _ _k => XS.icmpNo X88.here hx rfl (hb hby at_188) rfl (teq _Da).2 _k
      refine gs ?_ fun _ _k => XS.iload X88.here hx rfl (hb hby at_191) rfl _k
      refine gs ?_ fun _ _k => XS.ifNo X88.here hx rfl (hb hby at_193) rfl ((if0 _ _).trans (feq (by decide : ¬ ((1 : Int32) = (0 : Int32)))).1) _k
      refine gs ?_ fun _ _k => XS.iload X88.here hx rfl (hb hby at_196) rfl _k
      refine gs ?_ fun _ _k => XT.iconstV X88.here hx rfl (3 : Int32) (hb hby at_198) (by decide) _k
      refine gs ?_ fun _ _k => XS.iushr X88.here hx rfl (hb hby at_199) rfl _k
      refine gs ?_ fun _ _k => XT.bipushV X88.here hx rfl (7 : Int32) (hb hby at_200) (by decide) _k
      refine gs ?_ fun _ _k => XS.iand X88.here hx rfl (hb hby at_202) rfl _k
      refine gs ?_ fun _ _k => XS.iload X88.here hx rfl (hb hby at_203) rfl _k
      by_cases _Ea : ((((Int32.ofNat (_H + 8 * _I)).toUInt32 >>> ((3 : Int32) &&& 31).toUInt32).toInt32) &&& (7 : Int32)) = (Int32.ofNat A1)
      · --
       refine gs ?_ fun _ _k => XS.icmpNo X88.here hx rfl (hb hby at_205) rfl (teq _Ea).2 _k
       refine gs ?_ fun _ _k => XT.iconstV X88.here hx rfl (1 : Int32) (hb hby at_208) (by decide) _k
       refine gs ?_ fun _ _k => XS.goto X88.here hx rfl (pc0 := 209) (pc' := 213) rfl (hb hby at_209) (by decide) (by decide) _k
       show Go p e s _a _ _ _ T88 (mkF m 213 #[vI p0, vI p1, vI p2, vI p3, vI (Int32.ofNat A0), vI (Int32.ofNat A1), vI (1 : Int32), vR b2, vI (1 : Int32), vI (Int32.ofNat (_H + 8 * _I)), vU] [(.int 1)])
       exact J89 (1 : Int32) ⟨fun _ => rfl, fun q => absurd ((own_c9 _ob _qb hA0 hA1 _Gd _Hd).mpr ⟨(own_c4 _H _ob _I _qb A0 hA0).mp _Da, (own_c5 _H _ob _I _qb A1 hA1).mp _Ea⟩) q⟩
      · --
       refine gs ?_ fun _ _k => XS.icmpYes X88.here hx rfl (pc0 := 205) (pc' := 212) rfl (hb hby at_205) rfl (feq _Ea).2 (by decide) (by decide) _k
       refine gs ?_ fun _ _k => XT.iconstV X88.here hx rfl (0 : Int32) (hb hby at_212) (by decide) _k
       show Go p e s _a _ _ _ T88 (mkF m 213 #[vI p0, vI p1, vI p2, vI p3, vI (Int32.ofNat A0), vI (Int32.ofNat A1), vI (1 : Int32), vR b2, vI (1 : Int32), vI (Int32.ofNat (_H + 8 * _I)), vU] [(.int 0)])
       exact J89 (0 : Int32) ⟨fun q => absurd ((own_c5 _H _ob _I _qb A1 hA1).mpr ((own_c9 _ob _qb hA0 hA1 _Gd _Hd).mp q).2) _Ea, fun _ => rfl⟩
     · --
      refine gs ?_ fun _ _k => XS.icmpYes X88.here hx rfl (pc0 := 188) (pc' := 212) rfl (hb hby at_188) rfl (feq _Da).2 (by decide) (by decide) _k
      refine gs ?_ fun _ _k => XT.iconstV X88.here hx rfl (0 : Int32) (hb hby at_212) (by decide) _k
      show Go p e s _a _ _ _ T88 (mkF m 213 #[vI p0, vI p1, vI p2, vI p3, vI (Int32.ofNat A0), vI (Int32.ofNat A1), vI (1 : Int32), vR b2, vI (1 : Int32), vI (Int32.ofNat (_H + 8 * _I)), vU] [(.int 0)])
      exact J89 (0 : Int32) ⟨fun q => absurd ((own_c4 _H _ob _I _qb A0 hA0).mpr ((own_c9 _ob _qb hA0 hA1 _Gd _Hd).mp q).1) _Da, fun _ => rfl⟩
   by_cases _Fa : ((Int32.ofNat _j) &&& (7 : Int32)) = (Int32.ofNat A0)
   · --
    refine gs ?_ fun _ _k => XS.icmpNo X26.here hx rfl (hb hby at_112) rfl (teq _Fa).2 _k
    refine gs ?_ fun _ _k => XT.iconstV X26.here hx rfl (1 : Int32) (hb hby at_115) (by decide) _k
    refine gs ?_ fun _ _k => XS.goto X26.here hx rfl (pc0 := 116) (pc' := 120) rfl (hb hby at_116) (by decide) (by decide) _k
    show Go p e s _a _ _ _ T26 (mkF m 120 #[vI p0, vI p1, vI p2, vI p3, vI (Int32.ofNat A0), vI (Int32.ofNat A1), vI z1, vR b2, vI (1 : Int32), vI (Int32.ofNat _j), vU] [(.int 1), (.int _qc)])
    exact J27 (1 : Int32) (_Ef.1 ((own_c8 _j _Pc A0 hA0 _Qc).mpr _Fa))
   · --
    refine gs ?_ fun _ _k => XS.icmpYes X26.here hx rfl (pc0 := 112) (pc' := 119) rfl (hb hby at_112) rfl (feq _Fa).2 (by decide) (by decide) _k
    refine gs ?_ fun _ _k => XT.iconstV X26.here hx rfl (0 : Int32) (hb hby at_119) (by decide) _k
    show Go p e s _a _ _ _ T26 (mkF m 120 #[vI p0, vI p1, vI p2, vI p3, vI (Int32.ofNat A0), vI (Int32.ofNat A1), vI z1, vR b2, vI (1 : Int32), vI (Int32.ofNat _j), vU] [(.int 0), (.int _qc)])
    exact J27 (0 : Int32) (_Ef.2 (fun q => _Fa ((own_c8 _j _Pc A0 hA0 _Qc).mp q)))
  by_cases _db : (Int32.ofNat A0) = (0 : Int32)
  · --
   refine gs ?_ fun _ _k => XS.ifNo X14.here hx rfl (hb hby at_61) rfl ((if0 _ _).trans (teq _db).2) _k
   refine gs ?_ fun _ _k => XT.iconstV X14.here hx rfl (1 : Int32) (hb hby at_64) (by decide) _k
   refine gs ?_ fun _ _k => XS.goto X14.here hx rfl (pc0 := 65) (pc' := 69) rfl (hb hby at_65) (by decide) (by decide) _k
   show Go p e s _a _ _ _ T14 (mkF m 69 #[vI p0, vI p1, vI p2, vI p3, vI (Int32.ofNat A0), vI (Int32.ofNat A1), vI z1, vR b2, vU, vU, vU] [(.int 1), (.int _oc)])
   exact J15 (1 : Int32) (_Bf.1 ((own_z0 A0 hA0).mp _db))
  · --
   refine gs ?_ fun _ _k => XS.ifYes X14.here hx rfl (pc0 := 61) (pc' := 68) rfl (hb hby at_61) rfl ((if0 _ _).trans (feq _db).2) (by decide) (by decide) _k
   refine gs ?_ fun _ _k => XT.iconstV X14.here hx rfl (0 : Int32) (hb hby at_68) (by decide) _k
   show Go p e s _a _ _ _ T14 (mkF m 69 #[vI p0, vI p1, vI p2, vI p3, vI (Int32.ofNat A0), vI (Int32.ofNat A1), vI z1, vR b2, vU, vU, vU] [(.int 0), (.int _oc)])
   exact J15 (0 : Int32) (_Bf.2 (fun q => _db ((own_z0 A0 hA0).mpr q)))
 by_cases _Fc : (((p0.toUInt32 >>> ((6 : Int32) &&& 31).toUInt32).toInt32) &&& (1 : Int32)) = (0 : Int32)
 · --
  refine gs ?_ fun _ _k => XS.ifYes X0.here hx rfl (pc0 := 20) (pc' := 27) rfl (hb hby at_20) rfl ((if0 _ _).trans (teq _Fc).1) (by decide) (by decide) _k
  refine gs ?_ fun _ _k => XT.iconstV X0.here hx rfl (0 : Int32) (hb hby at_27) (by decide) _k
  show Go p e s _a _ _ _ s₁ (mkF m 28 #[vI p0, vI p1, vI p2, vI p3, vI (Int32.ofNat A0), vI (Int32.ofNat A1), vU, vU, vU, vU, vU] [(.int 0)])
  exact J1 (0 : Int32) (Or.inl rfl)
 · --
  refine gs ?_ fun _ _k => XS.ifNo X0.here hx rfl (hb hby at_20) rfl ((if0 _ _).trans (feq _Fc).1) _k
  refine gs ?_ fun _ _k => XT.iconstV X0.here hx rfl (1 : Int32) (hb hby at_23) (by decide) _k
  refine gs ?_ fun _ _k => XS.goto X0.here hx rfl (pc0 := 24) (pc' := 28) rfl (hb hby at_24) (by decide) (by decide) _k
  show Go p e s _a _ _ _ s₁ (mkF m 28 #[vI p0, vI p1, vI p2, vI p3, vI (Int32.ofNat A0), vI (Int32.ofNat A1), vU, vU, vU, vU, vU] [(.int 1)])
  exact J1 (1 : Int32) (Or.inr rfl)
theorem own_idx {Z : State} {args : Array Value} {j : Int32} (nn : ¬ j < 0) : (Term.sub (.index 0) (.int 128)).eval args Z none [j.toNatClampNeg] Z = some (.int (j - 128)) := by
  rw [show (Term.sub (.index 0) (.int 128)).eval args Z none [j.toNatClampNeg] Z = some (.int (j.toNatClampNeg.toInt32 - 128)) from rfl, (back32 nn).1]
theorem own_arv0 {Z : State} {h : Heap} {a : Addr} {c : Cell} {ty : FieldType} {d : Value} (A : Arr Z h a c ty) (h1 : c.slots.size < 2 ^ 31) (h2 : c.slots.size.toInt32 = 0) : Arv Z h a c.cls ty 0 [] d := by
  have e : c.slots.size = 0 := by
    have q := congrArg Int32.toInt h2
    rw [Int32.toInt_ofNat_small h1] at q
    simpa using q
  exact ⟨c, A, rfl, by rw [e]; rfl, by decide, fun k hk => absurd hk (by rw [e]; exact Nat.not_lt_zero k), fun k hk => absurd hk (by rw [e]; exact Nat.not_lt_zero k)⟩
theorem comes_1 {Post : Tables → Env → Array Value → State → Outcome → State → Prop} (hpost : ∀ tb e args s v u, (limb_1_1.after args s (.returned v) u = true ∧ limb_1_2.after args s (.returned v) u = true ∧ True) → FrameEnd s (.returned v) u (Jvm.fieldLocs frame_1_writes args s ++ Jvm.arrayLocs frame_1_arrays args s ++ Jvm.staticLocs frame_1_statics s) 56 320 → Post tb e args s (.returned v) u) :
    ArmFor flags0 classFile x code maxLocals ret World_1 tables_1 room_1 Calls_1 rest_1 Pre_1 Post := by
  intro l hfl _ _ p e ha hc hk s m args below hf hA hF happ hP
  obtain ⟨hcalls, hrest, hpre⟩ := hP
  obtain ⟨-, -, -, hnamed, -, -, -, hat⟩ := (Spec.applies_iff hf).mp happ
  obtain ⟨hg, hn⟩ := and_e (Cond.before_iff.mp (show (Jvm.Cond.and given_1 narrow_1).before args s = true from hpre))
  obtain ⟨hg_1, hg_1'⟩ := and_e hg
  obtain ⟨hg_2, hg_2'⟩ := and_e hg_1'
  obtain ⟨hg_3, hg_3'⟩ := and_e hg_2'
  obtain ⟨hg_4, hg_4'⟩ := and_e hg_3'
  obtain ⟨w0, w1, w2, w3, rfl⟩ : ∃ w0 w1 w2 w3 : Value, args = #[w0, w1, w2, w3] := by
    have hs : args.size = 4 := by simpa [Cond.value, given_1] using hg_1
    obtain ⟨L⟩ := args
    match L, hs with
    | [w0, w1, w2, w3], _ => exact ⟨w0, w1, w2, w3, rfl⟩
  have hw := fun d (hd : d ∈ tables_1) => atoms_spec (ws := Jvm.Cond.code x code maxLocals ret :: tables_1) hat d (List.mem_cons_of_mem _ hd)
  have hfit : Fit s := fun {y c} hc i hi => by
    obtain ⟨ha, rfl⟩ := Array.getElem?_eq_some_iff.mp hc
    have q := List.all_eq_true.mp ((Array.all_eq_true_iff_forall_mem.mp hF) _ (Array.getElem_mem ha)) i (List.mem_range.mpr hi)
    simpa [Array.getElem?_eq_getElem hi] using q
  obtain ⟨hsets, hown0⟩ := atoms_of _ (rest_1_c_eq ▸ (show rest_1_c.before _ s = true from hrest))
  obtain ⟨i0, ei0⟩ := is_v hg_2
  obtain rfl : w0 = (.int i0) := Option.some.inj ei0
  obtain ⟨i1, ei1⟩ := is_v hg_3
  obtain rfl : w1 = (.int i1) := Option.some.inj ei1
  obtain ⟨i2, ei2⟩ := is_v hg_4
  obtain rfl : w2 = (.int i2) := Option.some.inj ei2
  obtain ⟨i3, ei3⟩ := is_v hg_4'
  obtain rfl : w3 = (.int i3) := Option.some.inj ei3
  have eH := own_eqI (Cond.before_iff.mp (hsets _ (List.mem_of_getElem? (i := 3) rfl)))
  have SH : Sta s s.heap s_n "high" "I" (.int 127) := Sta.start eH (Or.inl (hsets _ (List.mem_of_getElem? (i := 1) rfl)))
  obtain ⟨ca, eC⟩ := arr_v (Cond.before_iff.mp (hsets _ (List.mem_of_getElem? (i := 4) rfl)))
  have SC : Sta s s.heap s_n "cache" "[Ljava/lang/Integer;" (.ref ca) := Sta.start eC (Or.inr ⟨(qw hw 44 rfl), (hsets _ (List.mem_of_getElem? (i := 2) rfl))⟩)
  obtain ⟨cl, AC⟩ := Arr.start eC (Cond.before_iff.mp (hsets _ (List.mem_of_getElem? (i := 4) rfl)))
  obtain ⟨hs1, hs2⟩ := Jvm.Free.IntBox.length_fwd (hsets _ (List.mem_of_getElem? (i := 6) rfl)) eC AC.1 AC.2.1 AC.2.2
  have B : Bxs s ca cl s_i "I" 256 (fun j => .int (j - 128)) := Bxs.start (fun _ => eC) AC hs1 hs2 (by decide) (Cond.before_iff.mp (hsets _ (List.mem_of_getElem? (i := 7) rfl))) (fun X j nn hj => eqv_i (own_idx nn) hj)
  have hina : ¬ ((128 : Int32) < 0 ∨ cl.slots.size ≤ (128 : Int32).toNatClampNeg) := by rw [B.2.1]; decide
  obtain ⟨ka, hia, E_ka, Ga⟩ := B.2.2.2 _ hina
  have F_ka : Fld s s.heap ka s_i "value" "I" (.int ((128 : Int32) - 128)) := Ga
  rw [show ((128 : Int32) - 128) = 0 from by decide] at F_ka
  have hinb : ¬ ((129 : Int32) < 0 ∨ cl.slots.size ≤ (129 : Int32).toNatClampNeg) := by rw [B.2.1]; decide
  obtain ⟨kb, hib, E_kb, Gb⟩ := B.2.2.2 _ hinb
  have F_kb : Fld s s.heap kb s_i "value" "I" (.int ((129 : Int32) - 128)) := Gb
  rw [show ((129 : Int32) - 128) = 1 from by decide] at F_kb
  have hinc : ¬ ((130 : Int32) < 0 ∨ cl.slots.size ≤ (130 : Int32).toNatClampNeg) := by rw [B.2.1]; decide
  obtain ⟨kc, hic, E_kc, Gc⟩ := B.2.2.2 _ hinc
  have F_kc : Fld s s.heap kc s_i "value" "I" (.int ((130 : Int32) - 128)) := Gc
  rw [show ((130 : Int32) - 128) = 2 from by decide] at F_kc
  have BK : BXK s s.heap ka kb kc := ⟨E_ka, F_ka, E_kb, F_kb, E_kc, F_kc⟩
  have nab : ¬ ka = kb := F_ka.ne F_kb (fun z => absurd (Value.int.inj z) (by decide))
  have nac : ¬ ka = kc := F_ka.ne F_kc (fun z => absurd (Value.int.inj z) (by decide))
  have nbc : ¬ kb = kc := F_kb.ne F_kc (fun z => absurd (Value.int.inj z) (by decide))
  obtain ⟨dc, eD⟩ := arr_v (Cond.before_iff.mp (hsets _ (List.mem_of_getElem? (i := 14) rfl)))
  have SDC : Sta s s.heap s_g s_v s_k (.ref dc) := Sta.start eD (Or.inr ⟨(qw hw 52 rfl), (hsets _ (List.mem_of_getElem? (i := 10) rfl))⟩)
  obtain ⟨cD, AD⟩ := Arr.start eD (Cond.before_iff.mp (hsets _ (List.mem_of_getElem? (i := 14) rfl)))
  obtain ⟨hD1, hD2⟩ := Jvm.Free.IntBox.length_fwd (hsets _ (List.mem_of_getElem? (i := 16) rfl)) eD AD.1 AD.2.1 AD.2.2
  have VD := own_arv0 (d := .null) AD hD1 hD2
  obtain ⟨el, eL⟩ := exa_v (Cond.before_iff.mp (hsets _ (List.mem_of_getElem? (i := 19) rfl)))
  have SEL : Sta s s.heap s_u "EMPTY_LIST" "Ljava/util/ImmutableCollections$ListN;" (.ref el) := Sta.start eL (Or.inl (hsets _ (List.mem_of_getElem? (i := 18) rfl)))
  obtain ⟨em, eM⟩ := exa_v (Cond.before_iff.mp (hsets _ (List.mem_of_getElem? (i := 26) rfl)))
  have SEM : Sta s s.heap s_u "EMPTY" s_l (.ref em) := Sta.start eM (Or.inl (hsets _ (List.mem_of_getElem? (i := 25) rfl)))
  obtain ⟨cM, kM, mM, m1, m2, m3, -⟩ := hcalls.1
  have MM : ∃ (c : ClassId) (kk : Class) (mi : Addr), s.vm.findClass s_k = some c ∧ s.vm.classes[c]? = some kk ∧ kk.mirror = some mi := ⟨cM, kM, mM, m1, m2, m3⟩
  obtain ⟨n, o, h1, h2, h3, _, L, rfl, ⟨rfl, N⟩, hq⟩ := rm0 l s _ hw tables_1 i0 i1 i2 i3 s.heap s.heap.size (Nat.le_refl _) (Nat.le_refl _) (own_extR _) ca cl ka kb kc SH SC B hia hib hic BK dc cD.cls SDC VD el em SEL SEM MM nab nac nbc p e ha hc hk s m _ below hf ((Spec.applies_iff_loose hf).mp happ).1 ⟨rfl, State.Warmed39.refl s, rfl⟩ trivial
  refine ⟨n, _, h1, h2, h3, hpost _ _ _ _ _ _ ⟨Cond.after_iff.mpr rfl, Cond.after_iff.mpr (eq_i res_at (Term.int_eval (1)) rfl), trivial⟩ ⟨hq.1, hq.2.1, (hq.2.2.sift fun y hy => Or.inr (N y hy)).mono (by decide) (by decide)⟩⟩
theorem main_1_1 : Claimed_1_1 := comes_1 fun _ _ _ _ _ _ h hF => ⟨h.1, hF⟩
theorem main_1_2 : Claimed_1_2 := comes_1 fun _ _ _ _ _ _ h hF => ⟨h.2.1, hF⟩
end Jvm.Pilot.@@N@@
namespace Jvm.Pilot.@@N@@
open Jvm Jvm.ClassFile Sem Op Lib Jvm.Free Jvm.Stand Jvm.Pilot.@@N@@.Jvm.D
/-! MADE BY PROGRAM (witnessworld.py) out of the Statement's table words and the real class files: 48 classes; the members and pool entries that the words name. The judged class is class 1, her method 4. -/
namespace start1
open Jvm.ClassFile
def u (s : String) : CpInfo := .utf8 (stringToUtf16 s)
/-- a pool by its gaps: so many unusable entries, then the entry; so many at the end -/
def gap : Nat → List CpInfo → List CpInfo
  | 0, r => r
  | n + 1, r => .unusable :: gap n r
def poolList (es : List (Nat × CpInfo)) (last : Nat) : List CpInfo := es.foldr (fun e r => gap e.1 (e.2 :: r)) (gap last [])
def pool (es : List (Nat × CpInfo)) (last : Nat) : Array CpInfo := ⟨poolList es last⟩
def fileOf (pool : Array CpInfo) (this : Nat) (attrs : Array Attribute := #[]) (ms : Array MethodInfo := #[]) (fl : Nat := 33) (sup : Nat := 0) (ifs : Array Nat := #[]) (fds : Array FieldInfo := #[]) : ClassFile where
  minorVersion := 0
  majorVersion := 65
  constantPool := pool
  accessFlags := fl
  thisClass := this
  superClass := sup
  interfaces := ifs
  fields := fds
  methods := ms
  attributes := attrs
def plain (name : String) (sup : Option ClassId) : Class where
  name := name
  kind := .ordinary
  loader := none
  accessFlags := 33
  super := sup
  interfaces := #[]
  cf := none
  fields := #[]
  methods := #[]
  instanceTypes := #[]
  staticTypes := #[]
  resolved := #[]
  callSites := []
  init := .initialized
  statics := none
  mirror := none

def pool0 : Array CpInfo := pool [(5, u "<init>"), (0, u "()V"), (1, .class_ 10), (1, u "java/lang/Object"), (0, u "getClass"), (0, u "()Ljava/lang/Class;"), (14, u "hashCode"), (0, u "()I"), (63, u "equals"), (0, u "(Ljava/lang/Object;)Z")] 30

def k0c0 : Code := ⟨0, 1, object_method_1_code, #[], #[]⟩
def k0m0 : Method := ⟨"<init>", "()V", ⟨[], none⟩, 1, some k0c0⟩
def k0m1 : Method := ⟨"getClass", "()Ljava/lang/Class;", ⟨[], some (.object "java/lang/Class")⟩, 273, none⟩
def k0m2 : Method := ⟨"hashCode", "()I", ⟨[], some .int⟩, 257, none⟩
def k0c3 : Code := ⟨2, 2, ⟨#[]⟩, #[], #[]⟩
def k0m3 : Method := ⟨"equals", "(Ljava/lang/Object;)Z", ⟨[(.object "java/lang/Object")], some .boolean⟩, 1, some k0c3⟩
/-- java/lang/Object -/
def k0 : Class := { plain "java/lang/Object" none with
  accessFlags := 33
  interfaces := #[]
  cf := some (fileOf pool0 8 #[] #[⟨1, 5, 6, #[]⟩, ⟨273, 11, 12, #[]⟩, ⟨257, 27, 28, #[]⟩, ⟨1, 92, 93, #[]⟩] 33 0 #[] #[])
  fields := #[]
  methods := #[k0m0, k0m1, k0m2, k0m3]
  instanceTypes := #[]
  staticTypes := #[]
  resolved := Array.replicate 124 none
  statics := none }

def pool1 : Array CpInfo := pool [(2, .class_ 4), (0, .nameAndType 5 6), (0, u "java/lang/Object"), (0, u "<init>"), (0, u "()V"), (0, .class_ 8), (0, u "java/util/ArrayList"), (0, .methodref 7 3), (0, .methodref 11 12), (0, .class_ 13), (0, .nameAndType 14 15), (0, u "java/lang/Integer"), (0, u "valueOf"), (0, u "(I)Ljava/lang/Integer;"), (0, .methodref 7 17), (0, .nameAndType 18 19), (0, u "add"), (0, u "(Ljava/lang/Object;)Z"), (0, .methodref 21 22), (0, .class_ 23), (0, .nameAndType 24 15), (0, u "com/example/covenant/covenant/StateGraphCompletePinLaw"), (0, u "target"), (0, .methodref 26 27), (0, .class_ 28), (0, .nameAndType 29 30), (0, u "com/example/covenant/covenant/StateGraph"), (0, u "take"), (0, u "(Ljava/lang/Object;ILjava/lang/Object;)Z"), (0, .methodref 26 32), (0, .nameAndType 5 33), (0, u "(I)V"), (0, .methodref 21 35), (0, .nameAndType 36 37), (0, u "allowed"), (0, u "(I)Ljava/util/ArrayList;"), (0, .methodref 26 39), (0, .nameAndType 18 40), (0, u "(Ljava/lang/Object;Ljava/util/List;)V"), (0, .methodref 26 42), (0, .nameAndType 43 44), (0, u "complete"), (0, u "()Z"), (0, .methodref 21 46), (0, .nameAndType 47 48), (0, u "step"), (0, u "(Lcom/example/covenant/covenant/StateGraph;IZIII)I"), (6, u "law"), (0, u "(IIII)Z")] 2

def k1m0 : Method := ⟨"<init>", "()V", ⟨[], none⟩, 1, none⟩
def k1c1 : Code := ⟨2, 2, method_2_code, #[], #[]⟩
def k1m1 : Method := ⟨"allowed", "(I)Ljava/util/ArrayList;", ⟨[.int], some (.object "java/util/ArrayList")⟩, 10, some k1c1⟩
def k1c2 : Code := ⟨2, 2, method_3_code, #[], #[]⟩
def k1m2 : Method := ⟨"target", "(I)Ljava/lang/Integer;", ⟨[.int], some (.object "java/lang/Integer")⟩, 10, some k1c2⟩
def k1c3 : Code := ⟨4, 8, method_4_code, #[], #[]⟩
def k1m3 : Method := ⟨"step", "(Lcom/example/covenant/covenant/StateGraph;IZIII)I", ⟨[(.object "com/example/covenant/covenant/StateGraph"), .int, .boolean, .int, .int, .int], some .int⟩, 10, some k1c3⟩
def k1c4 : Code := ⟨6, 11, code, #[], #[]⟩
def k1m4 : Method := ⟨"law", "(IIII)Z", ⟨[.int, .int, .int, .int], some .boolean⟩, 9, some k1c4⟩
/-- com/example/covenant/covenant/StateGraphCompletePinLaw -/
def k1 : Class := { plain "com/example/covenant/covenant/StateGraphCompletePinLaw" (some 0) with
  accessFlags := 49
  interfaces := #[]
  cf := some (fileOf pool1 21 #[] #[⟨1, 5, 6, #[]⟩, ⟨10, 36, 37, #[]⟩, ⟨10, 24, 15, #[]⟩, ⟨10, 47, 48, #[]⟩, ⟨9, 55, 56, #[]⟩] 49 2 #[] #[])
  fields := #[]
  methods := #[k1m0, k1m1, k1m2, k1m3, k1m4]
  instanceTypes := #[]
  staticTypes := #[]
  resolved := Array.replicate 59 none
  statics := none }

def pool2 : Array CpInfo := pool [(1, .methodref 2 3), (0, .class_ 4), (0, .nameAndType 5 6), (0, u "java/lang/Object"), (0, u "<init>"), (0, u "()V"), (0, .class_ 8), (0, u "java/util/LinkedHashMap"), (0, .methodref 7 3), (0, .fieldref 11 12), (0, .class_ 13), (0, .nameAndType 14 15), (0, u "com/example/covenant/covenant/StateGraph"), (0, u "nodes"), (0, u "Ljava/util/Map;"), (0, .fieldref 11 17), (0, .nameAndType 18 19), (0, u "stimuli"), (0, u "I"), (0, .methodref 11 21), (0, .nameAndType 22 23), (0, u "node"), (0, u "(Ljava/lang/Object;)Lcom/example/covenant/covenant/StateGraph$Node;"), (0, .class_ 25), (0, u "com/example/covenant/covenant/StateGraph$Node"), (0, .interfaceMethodref 27 28), (0, .class_ 29), (0, .nameAndType 30 31), (0, u "java/util/List"), (0, u "copyOf"), (0, u "(Ljava/util/Collection;)Ljava/util/List;"), (0, .methodref 24 33), (0, .nameAndType 5 34), (0, u "(Ljava/util/List;I)V"), (0, .interfaceMethodref 36 37), (0, .class_ 38), (0, .nameAndType 39 40), (0, u "java/util/Map"), (0, u "put"), (0, u "(Ljava/lang/Object;Ljava/lang/Object;)Ljava/lang/Object;"), (0, .fieldref 11 42), (0, .nameAndType 43 19), (0, u "arcs"), (0, .interfaceMethodref 27 45), (0, .nameAndType 46 47), (0, u "size"), (0, u "()I"), (16, u "()Z"), (2, u "next"), (6, .methodref 24 75), (0, .nameAndType 76 77), (0, u "isTaken"), (0, u "(I)Z"), (6, u "add"), (1, .methodref 24 87), (0, .nameAndType 67 88), (0, u "(I)Ljava/lang/Object;"), (0, .fieldref 24 90), (0, .nameAndType 67 91), (0, u "[Ljava/lang/Object;"), (0, .fieldref 11 93), (0, .nameAndType 94 19), (0, u "taken"), (0, .methodref 96 97), (0, .class_ 98), (0, .nameAndType 99 100), (0, u "java/util/Objects"), (0, u "equals"), (0, u "(Ljava/lang/Object;Ljava/lang/Object;)Z"), (0, .fieldref 24 102), (0, .nameAndType 103 104), (0, u "times"), (0, u "[J"), (0, .fieldref 24 106), (0, .nameAndType 107 108), (0, u "nextNodes"), (0, u "[Lcom/example/covenant/covenant/StateGraph$Node;"), (0, .interfaceMethodref 36 110), (0, .nameAndType 111 112), (0, u "get"), (0, u "(Ljava/lang/Object;)Ljava/lang/Object;"), (0, .fieldref 11 114), (0, .nameAndType 115 116), (0, u "lastState"), (0, u "Ljava/lang/Object;"), (0, .fieldref 11 118), (0, .nameAndType 119 120), (0, u "lastNode"), (0, u "Lcom/example/covenant/covenant/StateGraph$Node;"), (18, .class_ 140), (0, u "com/example/covenant/covenant/StateGraph$Arc"), (15, .class_ 157), (0, u "com/example/covenant/covenant/StateGraph$ArcFound"), (58, u "(I)V"), (5, u "(Ljava/lang/Object;Ljava/util/List;)V"), (4, u "take"), (0, u "(Ljava/lang/Object;ILjava/lang/Object;)Z"), (1, u "complete")] 21

def k2c0 : Code := ⟨3, 2, prog_31_method_1_code, #[], #[]⟩
def k2m0 : Method := ⟨"<init>", "(I)V", ⟨[.int], none⟩, 0, some k2c0⟩
def k2c1 : Code := ⟨6, 3, prog_31_method_3_code, #[], #[]⟩
def k2m1 : Method := ⟨"add", "(Ljava/lang/Object;Ljava/util/List;)V", ⟨[(.object "java/lang/Object"), (.object "java/util/List")], none⟩, 0, some k2c1⟩
def k2c2 : Code := ⟨6, 5, prog_31_method_7_code, #[], #[]⟩
def k2m2 : Method := ⟨"take", "(Ljava/lang/Object;ILjava/lang/Object;)Z", ⟨[(.object "java/lang/Object"), .int, (.object "java/lang/Object")], some .boolean⟩, 0, some k2c2⟩
def k2c3 : Code := ⟨2, 1, prog_31_method_8_code, #[], #[]⟩
def k2m3 : Method := ⟨"complete", "()Z", ⟨[], some .boolean⟩, 0, some k2c3⟩
def k2c4 : Code := ⟨2, 3, prog_31_method_15_code, #[], #[]⟩
def k2m4 : Method := ⟨"node", "(Ljava/lang/Object;)Lcom/example/covenant/covenant/StateGraph$Node;", ⟨[(.object "java/lang/Object")], some (.object "com/example/covenant/covenant/StateGraph$Node")⟩, 2, some k2c4⟩
/-- com/example/covenant/covenant/StateGraph -/
def k2 : Class := { plain "com/example/covenant/covenant/StateGraph" (some 0) with
  accessFlags := 48
  interfaces := #[]
  cf := some (fileOf pool2 11 #[.nestMembers #[156, 139, 24]] #[⟨0, 5, 216, #[]⟩, ⟨0, 84, 222, #[]⟩, ⟨0, 227, 228, #[]⟩, ⟨0, 230, 64, #[]⟩, ⟨2, 22, 23, #[]⟩] 48 2 #[] #[⟨18, 18, 19, #[]⟩, ⟨18, 14, 15, #[]⟩, ⟨2, 43, 19, #[]⟩, ⟨2, 94, 19, #[]⟩, ⟨2, 115, 116, #[]⟩, ⟨2, 119, 120, #[]⟩])
  fields := #[⟨"stimuli", .int, 18, 0, 0⟩, ⟨"nodes", (.object "java/util/Map"), 18, 1, 0⟩, ⟨"arcs", .int, 2, 2, 0⟩, ⟨"taken", .int, 2, 3, 0⟩, ⟨"lastState", (.object "java/lang/Object"), 2, 4, 0⟩, ⟨"lastNode", (.object "com/example/covenant/covenant/StateGraph$Node"), 2, 5, 0⟩]
  methods := #[k2m0, k2m1, k2m2, k2m3, k2m4]
  instanceTypes := #[.int, (.object "java/util/Map"), .int, .int, (.object "java/lang/Object"), (.object "com/example/covenant/covenant/StateGraph$Node")]
  staticTypes := #[]
  resolved := Array.replicate 252 none
  statics := none }

def pool3 : Array CpInfo := pool [(2, .class_ 4), (1, u "java/util/Map"), (0, u "get"), (0, u "(Ljava/lang/Object;)Ljava/lang/Object;"), (29, .class_ 37), (0, u "java/util/Map$Entry"), (25, u "(Ljava/lang/Object;Ljava/lang/Object;)Ljava/lang/Object;"), (5, u "put"), (23, .class_ 94), (0, u "java/lang/Object")] 168

def k3m0 : Method := ⟨"get", "(Ljava/lang/Object;)Ljava/lang/Object;", ⟨[(.object "java/lang/Object")], some (.object "java/lang/Object")⟩, 1025, none⟩
def k3m1 : Method := ⟨"put", "(Ljava/lang/Object;Ljava/lang/Object;)Ljava/lang/Object;", ⟨[(.object "java/lang/Object"), (.object "java/lang/Object")], some (.object "java/lang/Object")⟩, 1025, none⟩
/-- java/util/Map -/
def k3 : Class := { plain "java/util/Map" (some 0) with
  accessFlags := 1537
  interfaces := #[]
  cf := some (fileOf pool3 2 #[.nestMembers #[36]] #[⟨1025, 5, 6, #[]⟩, ⟨1025, 69, 63, #[]⟩] 1537 93 #[] #[])
  fields := #[]
  methods := #[k3m0, k3m1]
  instanceTypes := #[]
  staticTypes := #[]
  resolved := Array.replicate 263 none
  statics := none }

def pool4 : Array CpInfo := pool [(1, .methodref 2 3), (0, .class_ 4), (0, .nameAndType 5 6), (0, u "java/lang/Object"), (0, u "<init>"), (0, u "()V"), (1, .class_ 10), (1, u "java/util/AbstractMap"), (42, .class_ 54), (0, u "java/util/Map"), (9, u "keySet"), (0, u "Ljava/util/Set;"), (0, .class_ 67), (0, u "java/util/AbstractMap$1"), (5, u "values"), (0, u "Ljava/util/Collection;"), (0, .class_ 76), (0, u "java/util/AbstractMap$2"), (104, .class_ 182), (0, u "java/util/AbstractMap$ViewCollection"), (0, .class_ 184), (0, u "java/util/AbstractMap$SimpleImmutableEntry"), (0, .class_ 186), (0, u "java/util/AbstractMap$SimpleEntry"), (0, .class_ 188), (0, u "java/util/AbstractMap$2$1"), (0, .class_ 190), (0, u "java/util/AbstractMap$1$1")] 5

def k4c0 : Code := ⟨1, 1, jdk_71_method_1_code, #[], #[]⟩
def k4m0 : Method := ⟨"<init>", "()V", ⟨[], none⟩, 4, some k4c0⟩
/-- java/util/AbstractMap -/
def k4 : Class := { plain "java/util/AbstractMap" (some 0) with
  accessFlags := 1057
  interfaces := #[3]
  cf := some (fileOf pool4 8 #[.nestMembers #[181, 183, 185, 75, 187, 66, 189]] #[⟨4, 5, 6, #[]⟩] 1057 2 #[53] #[⟨128, 64, 65, #[]⟩, ⟨128, 73, 74, #[]⟩])
  fields := #[⟨"keySet", (.object "java/util/Set"), 128, 0, 0⟩, ⟨"values", (.object "java/util/Collection"), 128, 1, 0⟩]
  methods := #[k4m0]
  instanceTypes := #[(.object "java/util/Set"), (.object "java/util/Collection")]
  staticTypes := #[]
  resolved := Array.replicate 196 none
  statics := none }

def pool5 : Array CpInfo := pool [(1, .class_ 2), (0, u "java/lang/Cloneable"), (0, .class_ 4), (0, u "java/lang/Object")] 2

/-- java/lang/Cloneable -/
def k5 : Class := { plain "java/lang/Cloneable" (some 0) with
  accessFlags := 1537
  interfaces := #[]
  cf := some (fileOf pool5 1 #[] #[] 1537 3 #[] #[])
  fields := #[]
  methods := #[]
  instanceTypes := #[]
  staticTypes := #[]
  resolved := Array.replicate 7 none
  statics := none }

def pool6 : Array CpInfo := pool [(1, .class_ 2), (0, u "java/io/Serializable"), (0, .class_ 4), (0, u "java/lang/Object")] 2

/-- java/io/Serializable -/
def k6 : Class := { plain "java/io/Serializable" (some 0) with
  accessFlags := 1537
  interfaces := #[]
  cf := some (fileOf pool6 1 #[] #[] 1537 3 #[] #[])
  fields := #[]
  methods := #[]
  instanceTypes := #[]
  staticTypes := #[]
  resolved := Array.replicate 7 none
  statics := none }

def pool7 : Array CpInfo := pool [(1, .methodref 2 3), (0, .class_ 4), (0, .nameAndType 5 6), (0, u "java/lang/Object"), (0, u "hashCode"), (0, u "()I"), (26, u "(Ljava/lang/Object;)I"), (6, .class_ 41), (0, u "java/util/HashMap"), (1, .methodref 44 45), (0, .class_ 46), (0, .nameAndType 47 48), (0, u "java/util/AbstractMap"), (0, u "<init>"), (0, u "()V"), (32, .fieldref 40 82), (0, .nameAndType 83 84), (0, u "loadFactor"), (0, u "F"), (3, .fieldref 40 89), (0, .nameAndType 90 91), (0, u "threshold"), (0, u "I"), (0, .float 1061158912), (8, .class_ 103), (1, u "java/util/Map"), (0, u "size"), (0, .fieldref 40 106), (0, .nameAndType 107 108), (0, u "table"), (0, u "[Ljava/util/HashMap$Node;"), (8, .methodref 40 118), (0, .nameAndType 119 120), (0, u "resize"), (0, u "()[Ljava/util/HashMap$Node;"), (2, u "entrySet"), (15, u "next"), (9, .methodref 40 150), (0, .nameAndType 151 33), (0, u "hash"), (0, .methodref 40 153), (0, .nameAndType 154 155), (0, u "putVal"), (0, u "(ILjava/lang/Object;Ljava/lang/Object;ZZ)Ljava/lang/Object;"), (0, .fieldref 40 157), (0, .nameAndType 104 91), (2, u "getNode"), (0, u "(Ljava/lang/Object;)Ljava/util/HashMap$Node;"), (1, .class_ 165), (1, u "java/util/HashMap$Node"), (1, u "Ljava/lang/Object;"), (0, .fieldref 163 169), (0, .nameAndType 151 91), (0, .fieldref 163 171), (0, .nameAndType 172 167), (0, u "key"), (4, .fieldref 163 178), (0, .nameAndType 139 179), (0, u "Ljava/util/HashMap$Node;"), (0, .class_ 181), (0, u "java/util/HashMap$TreeNode"), (4, .methodref 40 187), (0, .nameAndType 188 189), (0, u "newNode"), (0, u "(ILjava/lang/Object;Ljava/lang/Object;Ljava/util/HashMap$Node;)Ljava/util/HashMap$Node;"), (12, .fieldref 40 203), (0, .nameAndType 204 91), (0, u "modCount"), (0, .methodref 40 206), (0, .nameAndType 207 208), (0, u "afterNodeInsertion"), (0, u "(Z)V"), (33, u "Ljava/util/Set;"), (0, .class_ 244), (0, u "java/util/HashMap$KeySet"), (18, .class_ 264), (0, u "java/util/HashMap$Values"), (3, .class_ 269), (0, u "java/util/HashMap$EntrySet"), (17, u "(Ljava/lang/Object;Ljava/lang/Object;)Ljava/lang/Object;"), (58, .class_ 348), (1, u "java/util/HashMap$UnsafeHolder"), (43, .class_ 393), (0, u "java/lang/Cloneable"), (0, .class_ 395), (0, u "java/io/Serializable"), (0, u "serialVersionUID"), (0, u "J"), (3, u "DEFAULT_INITIAL_CAPACITY"), (1, u "MAXIMUM_CAPACITY"), (0, u "DEFAULT_LOAD_FACTOR"), (0, u "TREEIFY_THRESHOLD"), (1, u "UNTREEIFY_THRESHOLD"), (1, u "MIN_TREEIFY_CAPACITY"), (60, u "put"), (125, .class_ 597), (0, u "java/util/HashMap$EntrySpliterator"), (0, .class_ 599), (0, u "java/util/HashMap$ValueSpliterator"), (0, .class_ 601), (0, u "java/util/HashMap$KeySpliterator"), (0, .class_ 603), (0, u "java/util/HashMap$HashMapSpliterator"), (0, .class_ 605), (0, u "java/util/HashMap$EntryIterator"), (0, .class_ 607), (0, u "java/util/HashMap$ValueIterator"), (0, .class_ 609), (0, u "java/util/HashMap$KeyIterator"), (0, .class_ 611), (0, u "java/util/HashMap$HashIterator")] 17

def k7c0 : Code := ⟨3, 2, jdk_69_method_1_code, #[], #[]⟩
def k7m0 : Method := ⟨"hash", "(Ljava/lang/Object;)I", ⟨[(.object "java/lang/Object")], some .int⟩, 24, some k7c0⟩
def k7c1 : Code := ⟨2, 1, jdk_69_method_7_code, #[], #[]⟩
def k7m1 : Method := ⟨"<init>", "()V", ⟨[], none⟩, 1, some k7c1⟩
def k7c2 : Code := ⟨4, 8, jdk_69_method_13_code, #[], #[]⟩
def k7m2 : Method := ⟨"getNode", "(Ljava/lang/Object;)Ljava/util/HashMap$Node;", ⟨[(.object "java/lang/Object")], some (.object "java/util/HashMap$Node")⟩, 16, some k7c2⟩
def k7c3 : Code := ⟨6, 3, jdk_69_method_15_code, #[], #[]⟩
def k7m3 : Method := ⟨"put", "(Ljava/lang/Object;Ljava/lang/Object;)Ljava/lang/Object;", ⟨[(.object "java/lang/Object"), (.object "java/lang/Object")], some (.object "java/lang/Object")⟩, 1, some k7c3⟩
def k7c4 : Code := ⟨7, 13, jdk_69_method_16_code, #[], #[]⟩
def k7m4 : Method := ⟨"putVal", "(ILjava/lang/Object;Ljava/lang/Object;ZZ)Ljava/lang/Object;", ⟨[.int, (.object "java/lang/Object"), (.object "java/lang/Object"), .boolean, .boolean], some (.object "java/lang/Object")⟩, 16, some k7c4⟩
def k7c5 : Code := ⟨5, 14, jdk_69_method_17_code, #[], #[]⟩
def k7m5 : Method := ⟨"resize", "()[Ljava/util/HashMap$Node;", ⟨[], some (.array (.object "java/util/HashMap$Node"))⟩, 16, some k7c5⟩
def k7c6 : Code := ⟨6, 5, ⟨#[]⟩, #[], #[]⟩
def k7m6 : Method := ⟨"newNode", "(ILjava/lang/Object;Ljava/lang/Object;Ljava/util/HashMap$Node;)Ljava/util/HashMap$Node;", ⟨[.int, (.object "java/lang/Object"), (.object "java/lang/Object"), (.object "java/util/HashMap$Node")], some (.object "java/util/HashMap$Node")⟩, 0, some k7c6⟩
def k7c7 : Code := ⟨0, 2, ⟨#[]⟩, #[], #[]⟩
def k7m7 : Method := ⟨"afterNodeInsertion", "(Z)V", ⟨[.boolean], none⟩, 0, some k7c7⟩
/-- java/util/HashMap -/
def k7 : Class := { plain "java/util/HashMap" (some 4) with
  accessFlags := 33
  interfaces := #[3, 5, 6]
  cf := some (fileOf pool7 40 #[.nestMembers #[180, 596, 598, 600, 602, 604, 606, 608, 610, 346, 268, 263, 243, 163]] #[⟨24, 151, 33, #[]⟩, ⟨1, 47, 48, #[]⟩, ⟨16, 160, 161, #[]⟩, ⟨1, 470, 287, #[]⟩, ⟨16, 154, 155, #[]⟩, ⟨16, 119, 120, #[]⟩, ⟨0, 188, 189, #[]⟩, ⟨0, 207, 208, #[]⟩] 33 44 #[101, 392, 394] #[⟨26, 396, 397, #[]⟩, ⟨24, 401, 91, #[]⟩, ⟨24, 403, 91, #[]⟩, ⟨24, 404, 84, #[]⟩, ⟨24, 405, 91, #[]⟩, ⟨24, 407, 91, #[]⟩, ⟨24, 409, 91, #[]⟩, ⟨128, 107, 108, #[]⟩, ⟨128, 123, 242, #[]⟩, ⟨128, 104, 91, #[]⟩, ⟨128, 204, 91, #[]⟩, ⟨0, 90, 91, #[]⟩, ⟨16, 83, 84, #[]⟩])
  fields := #[⟨"serialVersionUID", .long, 26, 0, 0⟩, ⟨"DEFAULT_INITIAL_CAPACITY", .int, 24, 1, 0⟩, ⟨"MAXIMUM_CAPACITY", .int, 24, 2, 0⟩, ⟨"DEFAULT_LOAD_FACTOR", .float, 24, 3, 0⟩, ⟨"TREEIFY_THRESHOLD", .int, 24, 4, 0⟩, ⟨"UNTREEIFY_THRESHOLD", .int, 24, 5, 0⟩, ⟨"MIN_TREEIFY_CAPACITY", .int, 24, 6, 0⟩, ⟨"table", (.array (.object "java/util/HashMap$Node")), 128, 2, 0⟩, ⟨"entrySet", (.object "java/util/Set"), 128, 3, 0⟩, ⟨"size", .int, 128, 4, 0⟩, ⟨"modCount", .int, 128, 5, 0⟩, ⟨"threshold", .int, 0, 6, 0⟩, ⟨"loadFactor", .float, 16, 7, 0⟩]
  methods := #[k7m0, k7m1, k7m2, k7m3, k7m4, k7m5, k7m6, k7m7]
  instanceTypes := #[(.object "java/util/Set"), (.object "java/util/Collection"), (.array (.object "java/util/HashMap$Node")), (.object "java/util/Set"), .int, .int, .int, .float]
  staticTypes := #[.long, .int, .int, .float, .int, .int, .int]
  resolved := Array.replicate 629 none
  statics := none }

def pool8 : Array CpInfo := pool [(2, .class_ 4), (1, u "java/util/SequencedMap"), (38, .class_ 44), (0, u "java/util/SequencedMap$1SeqKeySet"), (3, .class_ 49), (0, u "java/util/SequencedMap$1SeqValues"), (1, .class_ 52), (0, u "java/util/SequencedMap$1SeqEntrySet"), (1, .class_ 55), (0, u "java/lang/Object"), (0, .class_ 57), (0, u "java/util/Map")] 48

/-- java/util/SequencedMap -/
def k8 : Class := { plain "java/util/SequencedMap" (some 0) with
  accessFlags := 1537
  interfaces := #[3]
  cf := some (fileOf pool8 2 #[.nestMembers #[51, 48, 43]] #[] 1537 54 #[56] #[])
  fields := #[]
  methods := #[]
  instanceTypes := #[]
  staticTypes := #[]
  resolved := Array.replicate 106 none
  statics := none }

def pool9 : Array CpInfo := pool [(1, .fieldref 2 3), (0, .class_ 4), (0, .nameAndType 5 6), (0, u "java/util/LinkedHashMap"), (0, u "putMode"), (0, u "I"), (0, .fieldref 2 8), (0, .nameAndType 9 10), (0, u "head"), (0, u "Ljava/util/LinkedHashMap$Entry;"), (0, .fieldref 2 12), (0, .nameAndType 13 10), (0, u "tail"), (0, .fieldref 15 16), (0, .class_ 17), (0, .nameAndType 18 10), (0, u "java/util/LinkedHashMap$Entry"), (0, u "after"), (0, .fieldref 15 20), (0, .nameAndType 21 10), (0, u "before"), (1, .class_ 25), (1, u "java/util/HashMap"), (1, u "()V"), (0, .methodref 15 29), (0, .nameAndType 30 31), (0, u "<init>"), (0, u "(ILjava/lang/Object;Ljava/lang/Object;Ljava/util/HashMap$Node;)V"), (0, .methodref 2 33), (0, .nameAndType 34 35), (0, u "linkNodeAtEnd"), (0, u "(Ljava/util/LinkedHashMap$Entry;)V"), (6, u "Ljava/lang/Object;"), (1, .nameAndType 45 42), (0, u "value"), (7, .methodref 2 54), (0, .nameAndType 55 56), (0, u "removeEldestEntry"), (0, u "(Ljava/util/Map$Entry;)Z"), (7, .fieldref 2 65), (0, .nameAndType 66 67), (0, u "accessOrder"), (0, u "Z"), (19, .methodref 23 88), (0, .nameAndType 30 27), (10, .methodref 2 100), (0, .nameAndType 101 102), (0, u "getNode"), (0, u "(Ljava/lang/Object;)Ljava/util/HashMap$Node;"), (4, .fieldref 108 44), (0, .class_ 109), (0, u "java/util/HashMap$Node"), (11, .class_ 122), (0, u "java/util/LinkedHashMap$LinkedKeySet"), (20, .class_ 144), (0, u "java/util/LinkedHashMap$LinkedValues"), (9, .class_ 155), (0, u "java/util/LinkedHashMap$LinkedEntrySet"), (44, .class_ 201), (0, u "java/util/LinkedHashMap$ReversedLinkedHashMapView"), (3, .class_ 206), (0, u "java/util/SequencedMap"), (0, u "serialVersionUID"), (0, u "J"), (5, u "PUT_NORM"), (1, u "PUT_FIRST"), (1, u "PUT_LAST"), (18, u "newNode"), (0, u "(ILjava/lang/Object;Ljava/lang/Object;Ljava/util/HashMap$Node;)Ljava/util/HashMap$Node;"), (22, u "afterNodeInsertion"), (0, u "(Z)V"), (25, u "get"), (0, u "(Ljava/lang/Object;)Ljava/lang/Object;"), (72, .class_ 363), (0, u "java/util/LinkedHashMap$LinkedEntryIterator"), (0, .class_ 365), (0, u "java/util/LinkedHashMap$LinkedValueIterator"), (0, .class_ 367), (0, u "java/util/LinkedHashMap$LinkedKeyIterator"), (0, .class_ 369), (0, u "java/util/LinkedHashMap$LinkedHashIterator")] 16

def k9c0 : Code := ⟨2, 3, jdk_94_method_1_code, #[], #[]⟩
def k9m0 : Method := ⟨"linkNodeAtEnd", "(Ljava/util/LinkedHashMap$Entry;)V", ⟨[(.object "java/util/LinkedHashMap$Entry")], none⟩, 2, some k9c0⟩
def k9c1 : Code := ⟨6, 6, jdk_94_method_4_code, #[], #[]⟩
def k9m1 : Method := ⟨"newNode", "(ILjava/lang/Object;Ljava/lang/Object;Ljava/util/HashMap$Node;)Ljava/util/HashMap$Node;", ⟨[.int, (.object "java/lang/Object"), (.object "java/lang/Object"), (.object "java/util/HashMap$Node")], some (.object "java/util/HashMap$Node")⟩, 0, some k9c1⟩
def k9c2 : Code := ⟨6, 4, jdk_94_method_9_code, #[], #[]⟩
def k9m2 : Method := ⟨"afterNodeInsertion", "(Z)V", ⟨[.boolean], none⟩, 0, some k9c2⟩
def k9c3 : Code := ⟨2, 1, jdk_94_method_16_code, #[], #[]⟩
def k9m3 : Method := ⟨"<init>", "()V", ⟨[], none⟩, 1, some k9c3⟩
def k9c4 : Code := ⟨2, 3, jdk_94_method_20_code, #[], #[]⟩
def k9m4 : Method := ⟨"get", "(Ljava/lang/Object;)Ljava/lang/Object;", ⟨[(.object "java/lang/Object")], some (.object "java/lang/Object")⟩, 1, some k9c4⟩
def k9c5 : Code := ⟨1, 2, jdk_94_method_23_code, #[], #[]⟩
def k9m5 : Method := ⟨"removeEldestEntry", "(Ljava/util/Map$Entry;)Z", ⟨[(.object "java/util/Map$Entry")], some .boolean⟩, 4, some k9c5⟩
/-- java/util/LinkedHashMap -/
def k9 : Class := { plain "java/util/LinkedHashMap" (some 7) with
  accessFlags := 33
  interfaces := #[8]
  cf := some (fileOf pool9 2 #[.nestMembers #[200, 362, 364, 366, 368, 154, 143, 121, 15]] #[⟨2, 34, 35, #[]⟩, ⟨0, 237, 238, #[]⟩, ⟨0, 261, 262, #[]⟩, ⟨1, 30, 27, #[]⟩, ⟨1, 288, 289, #[]⟩, ⟨4, 55, 56, #[]⟩] 33 23 #[205] #[⟨26, 207, 208, #[]⟩, ⟨128, 9, 10, #[]⟩, ⟨128, 13, 10, #[]⟩, ⟨16, 66, 67, #[]⟩, ⟨24, 214, 6, #[]⟩, ⟨24, 216, 6, #[]⟩, ⟨24, 218, 6, #[]⟩, ⟨128, 5, 6, #[]⟩])
  fields := #[⟨"serialVersionUID", .long, 26, 0, 0⟩, ⟨"head", (.object "java/util/LinkedHashMap$Entry"), 128, 8, 0⟩, ⟨"tail", (.object "java/util/LinkedHashMap$Entry"), 128, 9, 0⟩, ⟨"accessOrder", .boolean, 16, 10, 0⟩, ⟨"PUT_NORM", .int, 24, 1, 0⟩, ⟨"PUT_FIRST", .int, 24, 2, 0⟩, ⟨"PUT_LAST", .int, 24, 3, 0⟩, ⟨"putMode", .int, 128, 11, 0⟩]
  methods := #[k9m0, k9m1, k9m2, k9m3, k9m4, k9m5]
  instanceTypes := #[(.object "java/util/Set"), (.object "java/util/Collection"), (.array (.object "java/util/HashMap$Node")), (.object "java/util/Set"), .int, .int, .int, .float, (.object "java/util/LinkedHashMap$Entry"), (.object "java/util/LinkedHashMap$Entry"), .boolean, .int]
  staticTypes := #[.long, .int, .int, .int]
  resolved := Array.replicate 386 none
  statics := none }

def pool10 : Array CpInfo := pool [(2, .class_ 4), (1, u "java/lang/Object"), (0, u "<init>"), (0, u "()V"), (1, .class_ 10), (1, u "java/lang/Number"), (2, .class_ 14), (0, u "java/io/Serializable"), (0, u "serialVersionUID"), (0, u "J")] 20

def k10m0 : Method := ⟨"<init>", "()V", ⟨[], none⟩, 1, none⟩
/-- java/lang/Number -/
def k10 : Class := { plain "java/lang/Number" (some 0) with
  accessFlags := 1057
  interfaces := #[6]
  cf := some (fileOf pool10 8 #[] #[⟨1, 5, 6, #[]⟩] 1057 2 #[13] #[⟨26, 15, 16, #[]⟩])
  fields := #[⟨"serialVersionUID", .long, 26, 0, 0⟩]
  methods := #[k10m0]
  instanceTypes := #[]
  staticTypes := #[.long]
  resolved := Array.replicate 37 none
  statics := none }

def pool11 : Array CpInfo := pool [(1, .class_ 2), (0, u "java/lang/Comparable"), (0, .class_ 4), (0, u "java/lang/Object")] 7

/-- java/lang/Comparable -/
def k11 : Class := { plain "java/lang/Comparable" (some 0) with
  accessFlags := 1537
  interfaces := #[]
  cf := some (fileOf pool11 1 #[] #[] 1537 3 #[] #[])
  fields := #[]
  methods := #[]
  instanceTypes := #[]
  staticTypes := #[]
  resolved := Array.replicate 12 none
  statics := none }

def pool12 : Array CpInfo := pool [(1, .class_ 2), (0, u "java/lang/constant/Constable"), (0, .class_ 4), (0, u "java/lang/Object")] 6

/-- java/lang/constant/Constable -/
def k12 : Class := { plain "java/lang/constant/Constable" (some 0) with
  accessFlags := 1537
  interfaces := #[]
  cf := some (fileOf pool12 1 #[] #[] 1537 3 #[] #[])
  fields := #[]
  methods := #[]
  instanceTypes := #[]
  staticTypes := #[]
  resolved := Array.replicate 11 none
  statics := none }

def pool13 : Array CpInfo := pool [(1, .class_ 2), (0, u "java/lang/constant/ConstantDesc"), (0, .class_ 4), (0, u "java/lang/Object")] 32

/-- java/lang/constant/ConstantDesc -/
def k13 : Class := { plain "java/lang/constant/ConstantDesc" (some 0) with
  accessFlags := 1537
  interfaces := #[]
  cf := some (fileOf pool13 1 #[] #[] 1537 3 #[] #[])
  fields := #[]
  methods := #[]
  instanceTypes := #[]
  staticTypes := #[]
  resolved := Array.replicate 37 none
  statics := none }

def pool14 : Array CpInfo := pool [(1, .class_ 2), (0, u "java/lang/Integer"), (16, u "digits"), (0, u "[C"), (33, u "(I)I"), (30, u "DigitOnes"), (0, u "[B"), (2, u "DigitTens"), (31, u "()I"), (65, u "valueOf"), (0, u "(I)Ljava/lang/Integer;"), (0, .class_ 190), (0, u "java/lang/Integer$IntegerCache"), (0, .fieldref 189 192), (0, .nameAndType 193 194), (0, u "high"), (0, u "I"), (0, .fieldref 189 196), (0, .nameAndType 197 198), (0, u "cache"), (0, u "[Ljava/lang/Integer;"), (4, .class_ 204), (0, u "java/lang/Number"), (0, .fieldref 1 206), (0, .nameAndType 207 194), (0, u "value"), (0, .methodref 1 209), (0, .nameAndType 210 54), (0, u "hashCode"), (0, .methodref 1 212), (0, .nameAndType 213 121), (0, u "intValue"), (88, u "TYPE"), (0, u "Ljava/lang/Class;"), (0, .class_ 305), (0, u "java/lang/Comparable"), (0, .class_ 307), (0, u "java/lang/constant/Constable"), (0, .class_ 309), (0, u "java/lang/constant/ConstantDesc"), (0, u "MIN_VALUE"), (1, u "MAX_VALUE"), (3, u "SIZE"), (1, u "BYTES"), (1, u "serialVersionUID"), (0, u "J"), (63, u "equals"), (0, u "(Ljava/lang/Object;)Z")] 66

def k14c0 : Code := ⟨3, 1, jdk_33_method_22_code, #[], #[]⟩
def k14m0 : Method := ⟨"valueOf", "(I)Ljava/lang/Integer;", ⟨[.int], some (.object "java/lang/Integer")⟩, 9, some k14c0⟩
def k14c1 : Code := ⟨1, 1, jdk_33_method_27_code, #[], #[]⟩
def k14m1 : Method := ⟨"intValue", "()I", ⟨[], some .int⟩, 1, some k14c1⟩
def k14c2 : Code := ⟨1, 1, jdk_33_method_32_code, #[], #[]⟩
def k14m2 : Method := ⟨"hashCode", "()I", ⟨[], some .int⟩, 1, some k14c2⟩
def k14c3 : Code := ⟨1, 1, jdk_33_method_33_code, #[], #[]⟩
def k14m3 : Method := ⟨"hashCode", "(I)I", ⟨[.int], some .int⟩, 9, some k14c3⟩
def k14c4 : Code := ⟨2, 2, jdk_33_method_34_code, #[], #[]⟩
def k14m4 : Method := ⟨"equals", "(Ljava/lang/Object;)Z", ⟨[(.object "java/lang/Object")], some .boolean⟩, 1, some k14c4⟩
/-- java/lang/Integer -/
def k14 : Class := { plain "java/lang/Integer" (some 10) with
  accessFlags := 49
  interfaces := #[11, 12, 13]
  cf := some (fileOf pool14 1 #[.nestMembers #[189]] #[⟨9, 187, 188, #[]⟩, ⟨1, 213, 121, #[]⟩, ⟨1, 210, 121, #[]⟩, ⟨9, 210, 54, #[]⟩, ⟨1, 385, 386, #[]⟩] 49 203 #[304, 306, 308] #[⟨25, 310, 194, #[]⟩, ⟨25, 312, 194, #[]⟩, ⟨25, 302, 303, #[]⟩, ⟨24, 19, 20, #[]⟩, ⟨24, 89, 86, #[]⟩, ⟨24, 85, 86, #[]⟩, ⟨18, 207, 194, #[]⟩, ⟨25, 316, 194, #[]⟩, ⟨25, 318, 194, #[]⟩, ⟨26, 320, 321, #[]⟩])
  fields := #[⟨"MIN_VALUE", .int, 25, 0, 0⟩, ⟨"MAX_VALUE", .int, 25, 1, 0⟩, ⟨"TYPE", (.object "java/lang/Class"), 25, 2, 0⟩, ⟨"digits", (.array .char), 24, 3, 0⟩, ⟨"DigitTens", (.array .byte), 24, 4, 0⟩, ⟨"DigitOnes", (.array .byte), 24, 5, 0⟩, ⟨"value", .int, 18, 0, 0⟩, ⟨"SIZE", .int, 25, 6, 0⟩, ⟨"BYTES", .int, 25, 7, 0⟩, ⟨"serialVersionUID", .long, 26, 8, 0⟩]
  methods := #[k14m0, k14m1, k14m2, k14m3, k14m4]
  instanceTypes := #[.int]
  staticTypes := #[.int, .int, (.object "java/lang/Class"), (.array .char), (.array .byte), (.array .byte), .int, .int, .long]
  resolved := Array.replicate 453 none
  statics := none }

def pool15 : Array CpInfo := pool [(2, .class_ 4), (1, u "java/lang/Object"), (0, u "<init>"), (0, u "()V"), (0, .class_ 8), (0, u "java/lang/Integer"), (7, .class_ 18), (1, u "java/lang/Integer$IntegerCache"), (0, u "$assertionsDisabled"), (0, u "Z"), (26, u "high"), (0, u "I"), (8, u "archivedCache"), (0, u "[Ljava/lang/Integer;"), (12, u "cache"), (0, u "low")] 27

def k15m0 : Method := ⟨"<init>", "()V", ⟨[], none⟩, 2, none⟩
/-- java/lang/Integer$IntegerCache -/
def k15 : Class := { plain "java/lang/Integer$IntegerCache" (some 0) with
  accessFlags := 48
  interfaces := #[]
  cf := some (fileOf pool15 16 #[.nestHost 7] #[⟨2, 5, 6, #[]⟩] 48 2 #[] #[⟨24, 72, 48, #[]⟩, ⟨24, 47, 48, #[]⟩, ⟨24, 71, 58, #[]⟩, ⟨8, 57, 58, #[]⟩, ⟨4120, 19, 20, #[]⟩])
  fields := #[⟨"low", .int, 24, 0, 0⟩, ⟨"high", .int, 24, 1, 0⟩, ⟨"cache", (.array (.object "java/lang/Integer")), 24, 2, 0⟩, ⟨"archivedCache", (.array (.object "java/lang/Integer")), 8, 3, 0⟩, ⟨"$assertionsDisabled", .boolean, 4120, 4, 0⟩]
  methods := #[k15m0]
  instanceTypes := #[]
  staticTypes := #[.int, .int, (.array (.object "java/lang/Integer")), (.array (.object "java/lang/Integer")), .boolean]
  resolved := Array.replicate 100 none
  statics := some 0 }

def pool16 : Array CpInfo := pool [(8, .class_ 10), (1, u "java/lang/Iterable"), (24, .class_ 36), (0, u "java/lang/Object")] 25

/-- java/lang/Iterable -/
def k16 : Class := { plain "java/lang/Iterable" (some 0) with
  accessFlags := 1537
  interfaces := #[]
  cf := some (fileOf pool16 8 #[] #[] 1537 35 #[] #[])
  fields := #[]
  methods := #[]
  instanceTypes := #[]
  staticTypes := #[]
  resolved := Array.replicate 62 none
  statics := none }

def pool17 : Array CpInfo := pool [(10, .class_ 12), (1, u "java/util/Collection"), (0, u "toArray"), (16, u "()Z"), (29, .class_ 61), (0, u "java/lang/Object"), (0, .class_ 63), (0, u "java/lang/Iterable"), (2, u "isEmpty"), (3, u "()[Ljava/lang/Object;")] 44

def k17m0 : Method := ⟨"isEmpty", "()Z", ⟨[], some .boolean⟩, 1025, none⟩
def k17m1 : Method := ⟨"toArray", "()[Ljava/lang/Object;", ⟨[], some (.array (.object "java/lang/Object"))⟩, 1025, none⟩
/-- java/util/Collection -/
def k17 : Class := { plain "java/util/Collection" (some 0) with
  accessFlags := 1537
  interfaces := #[16]
  cf := some (fileOf pool17 10 #[] #[⟨1025, 66, 30, #[]⟩, ⟨1025, 13, 70, #[]⟩] 1537 60 #[62] #[])
  fields := #[]
  methods := #[k17m0, k17m1]
  instanceTypes := #[]
  staticTypes := #[]
  resolved := Array.replicate 115 none
  statics := none }

def pool18 : Array CpInfo := pool [(1, .methodref 2 3), (0, .class_ 4), (0, .nameAndType 5 6), (0, u "java/lang/Object"), (0, u "<init>"), (0, u "()V"), (1, .class_ 10), (1, u "java/util/AbstractCollection"), (66, .class_ 78), (0, u "java/util/Collection")] 81

def k18c0 : Code := ⟨1, 1, jdk_22_method_1_code, #[], #[]⟩
def k18m0 : Method := ⟨"<init>", "()V", ⟨[], none⟩, 4, some k18c0⟩
/-- java/util/AbstractCollection -/
def k18 : Class := { plain "java/util/AbstractCollection" (some 0) with
  accessFlags := 1057
  interfaces := #[17]
  cf := some (fileOf pool18 8 #[] #[⟨4, 5, 6, #[]⟩] 1057 2 #[77] #[])
  fields := #[]
  methods := #[k18m0]
  instanceTypes := #[]
  staticTypes := #[]
  resolved := Array.replicate 160 none
  statics := none }

def pool19 : Array CpInfo := pool [(8, .class_ 10), (1, u "java/util/SequencedCollection"), (15, .class_ 27), (0, u "java/lang/Object"), (0, .class_ 29), (0, u "java/util/Collection")] 27

/-- java/util/SequencedCollection -/
def k19 : Class := { plain "java/util/SequencedCollection" (some 0) with
  accessFlags := 1537
  interfaces := #[17]
  cf := some (fileOf pool19 8 #[] #[] 1537 26 #[28] #[])
  fields := #[]
  methods := #[]
  instanceTypes := #[]
  staticTypes := #[]
  resolved := Array.replicate 57 none
  statics := none }

def pool20 : Array CpInfo := pool [(8, .class_ 10), (1, u "java/util/List"), (20, u "(Ljava/lang/Object;)V"), (16, u "<init>"), (30, u "size"), (0, u "()I"), (7, u "of"), (1, .fieldref 91 92), (0, .class_ 93), (0, .nameAndType 94 95), (0, u "java/util/ImmutableCollections"), (0, u "EMPTY_LIST"), (0, u "Ljava/util/ImmutableCollections$ListN;"), (0, .class_ 97), (0, u "java/util/ImmutableCollections$List12"), (0, .methodref 96 99), (0, .nameAndType 48 31), (0, .methodref 96 101), (0, .nameAndType 48 102), (0, u "(Ljava/lang/Object;Ljava/lang/Object;)V"), (0, .class_ 104), (0, u "java/lang/Object"), (3, u "([Ljava/lang/Object;)Ljava/util/List;"), (0, .methodref 91 110), (0, .nameAndType 111 108), (0, u "listFromArray"), (0, .methodref 91 113), (0, .nameAndType 114 115), (0, u "listCopy"), (0, u "(Ljava/util/Collection;)Ljava/util/List;"), (3, u "()Ljava/util/List;"), (0, .class_ 121), (0, u "java/util/SequencedCollection"), (112, u "copyOf")] 16

def k20m0 : Method := ⟨"size", "()I", ⟨[], some .int⟩, 1025, none⟩
def k20c1 : Code := ⟨1, 0, jdk_40_method_36_code, #[], #[]⟩
def k20m1 : Method := ⟨"of", "()Ljava/util/List;", ⟨[], some (.object "java/util/List")⟩, 9, some k20c1⟩
def k20c2 : Code := ⟨5, 2, jdk_40_method_47_code, #[], #[]⟩
def k20m2 : Method := ⟨"of", "([Ljava/lang/Object;)Ljava/util/List;", ⟨[(.array (.object "java/lang/Object"))], some (.object "java/util/List")⟩, 137, some k20c2⟩
def k20c3 : Code := ⟨1, 1, jdk_40_method_48_code, #[], #[]⟩
def k20m3 : Method := ⟨"copyOf", "(Ljava/util/Collection;)Ljava/util/List;", ⟨[(.object "java/util/Collection")], some (.object "java/util/List")⟩, 9, some k20c3⟩
/-- java/util/List -/
def k20 : Class := { plain "java/util/List" (some 0) with
  accessFlags := 1537
  interfaces := #[19]
  cf := some (fileOf pool20 8 #[] #[⟨1025, 79, 80, #[]⟩, ⟨9, 88, 119, #[]⟩, ⟨137, 88, 108, #[]⟩, ⟨9, 234, 115, #[]⟩] 1537 103 #[120] #[])
  fields := #[]
  methods := #[k20m0, k20m1, k20m2, k20m3]
  instanceTypes := #[]
  staticTypes := #[]
  resolved := Array.replicate 251 none
  statics := none }

def pool21 : Array CpInfo := pool [(1, .methodref 2 3), (0, .class_ 4), (0, .nameAndType 5 6), (0, u "java/util/AbstractCollection"), (0, u "<init>"), (0, u "()V"), (0, .fieldref 8 9), (0, .class_ 10), (0, .nameAndType 11 12), (0, u "java/util/AbstractList"), (0, u "modCount"), (0, u "I"), (64, .class_ 78), (0, u "java/util/AbstractList$Itr"), (3, .class_ 83), (0, u "java/util/AbstractList$ListItr"), (9, .class_ 94), (0, u "java/util/AbstractList$RandomAccessSubList"), (3, .class_ 99), (0, u "java/util/AbstractList$SubList"), (33, .class_ 134), (0, u "java/util/List"), (73, .class_ 209), (0, u "java/util/AbstractList$SubList$1"), (0, .class_ 211), (0, u "java/util/AbstractList$RandomAccessSpliterator")] 6

def k21c0 : Code := ⟨2, 1, jdk_39_method_1_code, #[], #[]⟩
def k21m0 : Method := ⟨"<init>", "()V", ⟨[], none⟩, 4, some k21c0⟩
/-- java/util/AbstractList -/
def k21 : Class := { plain "java/util/AbstractList" (some 18) with
  accessFlags := 1057
  interfaces := #[20]
  cf := some (fileOf pool21 8 #[.nestMembers #[93, 98, 208, 210, 82, 77]] #[⟨4, 5, 6, #[]⟩] 1057 2 #[133] #[⟨132, 11, 12, #[]⟩])
  fields := #[⟨"modCount", .int, 132, 0, 0⟩]
  methods := #[k21m0]
  instanceTypes := #[.int]
  staticTypes := #[]
  resolved := Array.replicate 218 none
  statics := none }

def pool22 : Array CpInfo := pool [(1, .class_ 2), (0, u "java/util/RandomAccess"), (0, .class_ 4), (0, u "java/lang/Object")] 2

/-- java/util/RandomAccess -/
def k22 : Class := { plain "java/util/RandomAccess" (some 0) with
  accessFlags := 1537
  interfaces := #[]
  cf := some (fileOf pool22 1 #[] #[] 1537 3 #[] #[])
  fields := #[]
  methods := #[]
  instanceTypes := #[]
  staticTypes := #[]
  resolved := Array.replicate 7 none
  statics := none }

def pool23 : Array CpInfo := pool [(1, .methodref 2 3), (0, .class_ 4), (0, .nameAndType 5 6), (0, u "java/util/AbstractList"), (0, u "<init>"), (0, u "()V"), (0, .class_ 8), (0, u "java/lang/Object"), (0, .fieldref 10 11), (0, .class_ 12), (0, .nameAndType 13 14), (0, u "java/util/ArrayList"), (0, u "elementData"), (0, u "[Ljava/lang/Object;"), (2, u "EMPTY_ELEMENTDATA"), (21, .fieldref 10 40), (0, .nameAndType 41 14), (0, u "DEFAULTCAPACITY_EMPTY_ELEMENTDATA"), (4, u "toArray"), (0, u "()[Ljava/lang/Object;"), (0, .fieldref 10 49), (0, .nameAndType 50 51), (0, u "size"), (0, u "I"), (6, .class_ 60), (1, u "java/util/Arrays"), (0, u "copyOf"), (1, .fieldref 10 64), (0, .nameAndType 65 51), (0, u "modCount"), (0, .methodref 58 67), (0, .nameAndType 61 68), (0, u "([Ljava/lang/Object;I)[Ljava/lang/Object;"), (0, .methodref 10 70), (0, .nameAndType 71 72), (0, u "grow"), (0, u "(I)[Ljava/lang/Object;"), (6, .methodref 80 81), (0, .class_ 82), (0, .nameAndType 83 84), (0, u "java/lang/Math"), (0, u "max"), (0, u "(II)I"), (11, u "(Ljava/lang/Object;)Z"), (32, .methodref 10 130), (0, .nameAndType 71 47), (0, .methodref 10 132), (0, .nameAndType 133 134), (0, u "add"), (0, u "(Ljava/lang/Object;[Ljava/lang/Object;I)V"), (13, .class_ 149), (0, u "java/util/List"), (23, u "()Z"), (12, u "()I"), (75, .class_ 263), (0, u "java/util/ArrayList$ListItr"), (3, .class_ 268), (0, u "java/util/ArrayList$Itr"), (7, .class_ 277), (0, u "java/util/ArrayList$SubList"), (12, .class_ 291), (0, u "java/util/ArrayList$ArrayListSpliterator"), (37, .class_ 330), (0, u "java/util/RandomAccess"), (0, .class_ 332), (0, u "java/lang/Cloneable"), (0, .class_ 334), (0, u "java/io/Serializable"), (0, u "serialVersionUID"), (0, u "J"), (3, u "DEFAULT_CAPACITY"), (22, u "isEmpty"), (136, .class_ 501), (0, u "java/util/ArrayList$SubList$2"), (0, .class_ 503), (0, u "java/util/ArrayList$SubList$1")] 5

def k23c0 : Code := ⟨2, 1, jdk_38_method_2_code, #[], #[]⟩
def k23m0 : Method := ⟨"<init>", "()V", ⟨[], none⟩, 1, some k23c0⟩
def k23c1 : Code := ⟨4, 4, jdk_38_method_6_code, #[], #[]⟩
def k23m1 : Method := ⟨"grow", "(I)[Ljava/lang/Object;", ⟨[.int], some (.array (.object "java/lang/Object"))⟩, 2, some k23c1⟩
def k23c2 : Code := ⟨3, 1, jdk_38_method_7_code, #[], #[]⟩
def k23m2 : Method := ⟨"grow", "()[Ljava/lang/Object;", ⟨[], some (.array (.object "java/lang/Object"))⟩, 2, some k23c2⟩
def k23c3 : Code := ⟨1, 1, jdk_38_method_8_code, #[], #[]⟩
def k23m3 : Method := ⟨"size", "()I", ⟨[], some .int⟩, 1, some k23c3⟩
def k23c4 : Code := ⟨1, 1, jdk_38_method_9_code, #[], #[]⟩
def k23m4 : Method := ⟨"isEmpty", "()Z", ⟨[], some .boolean⟩, 1, some k23c4⟩
def k23c5 : Code := ⟨2, 1, jdk_38_method_16_code, #[], #[]⟩
def k23m5 : Method := ⟨"toArray", "()[Ljava/lang/Object;", ⟨[], some (.array (.object "java/lang/Object"))⟩, 1, some k23c5⟩
def k23c6 : Code := ⟨3, 4, jdk_38_method_24_code, #[], #[]⟩
def k23m6 : Method := ⟨"add", "(Ljava/lang/Object;[Ljava/lang/Object;I)V", ⟨[(.object "java/lang/Object"), (.array (.object "java/lang/Object")), .int], none⟩, 2, some k23c6⟩
def k23c7 : Code := ⟨4, 2, jdk_38_method_25_code, #[], #[]⟩
def k23m7 : Method := ⟨"add", "(Ljava/lang/Object;)Z", ⟨[(.object "java/lang/Object")], some .boolean⟩, 1, some k23c7⟩
/-- java/util/ArrayList -/
def k23 : Class := { plain "java/util/ArrayList" (some 21) with
  accessFlags := 33
  interfaces := #[20, 22, 5, 6]
  cf := some (fileOf pool23 10 #[.nestMembers #[290, 276, 500, 502, 262, 267]] #[⟨1, 5, 6, #[]⟩, ⟨2, 71, 72, #[]⟩, ⟨2, 71, 47, #[]⟩, ⟨1, 50, 186, #[]⟩, ⟨1, 363, 173, #[]⟩, ⟨1, 46, 47, #[]⟩, ⟨2, 133, 134, #[]⟩, ⟨1, 133, 96, #[]⟩] 33 2 #[148, 329, 331, 333] #[⟨26, 335, 336, #[]⟩, ⟨26, 340, 51, #[]⟩, ⟨26, 17, 14, #[]⟩, ⟨26, 41, 14, #[]⟩, ⟨128, 13, 14, #[]⟩, ⟨2, 50, 51, #[]⟩])
  fields := #[⟨"serialVersionUID", .long, 26, 0, 0⟩, ⟨"DEFAULT_CAPACITY", .int, 26, 1, 0⟩, ⟨"EMPTY_ELEMENTDATA", (.array (.object "java/lang/Object")), 26, 2, 0⟩, ⟨"DEFAULTCAPACITY_EMPTY_ELEMENTDATA", (.array (.object "java/lang/Object")), 26, 3, 0⟩, ⟨"elementData", (.array (.object "java/lang/Object")), 128, 1, 0⟩, ⟨"size", .int, 2, 2, 0⟩]
  methods := #[k23m0, k23m1, k23m2, k23m3, k23m4, k23m5, k23m6, k23m7]
  instanceTypes := #[.int, (.array (.object "java/lang/Object")), .int]
  staticTypes := #[.long, .int, (.array (.object "java/lang/Object")), (.array (.object "java/lang/Object"))]
  resolved := Array.replicate 509 none
  statics := some 1 }

def pool24 : Array CpInfo := pool [(1, .methodref 2 3), (0, .class_ 4), (0, .nameAndType 5 6), (0, u "java/lang/Object"), (0, u "<init>"), (0, u "()V"), (0, .fieldref 8 9), (0, .class_ 10), (0, .nameAndType 11 12), (0, u "com/example/covenant/covenant/StateGraph$Node"), (0, u "allowed"), (0, u "Ljava/util/List;"), (0, .fieldref 8 14), (0, .nameAndType 15 16), (0, u "next"), (0, u "[Ljava/lang/Object;"), (0, .fieldref 8 18), (0, .nameAndType 19 20), (0, u "times"), (0, u "[J"), (0, .fieldref 8 22), (0, .nameAndType 23 24), (0, u "nextNodes"), (0, u "[Lcom/example/covenant/covenant/StateGraph$Node;"), (3, u "(Ljava/util/List;I)V"), (3, u "isTaken"), (0, u "(I)Z"), (1, u "(I)Ljava/lang/Object;"), (5, .class_ 42), (0, u "com/example/covenant/covenant/StateGraph")] 2

def k24c0 : Code := ⟨2, 3, prog_34_method_1_code, #[], #[]⟩
def k24m0 : Method := ⟨"<init>", "(Ljava/util/List;I)V", ⟨[(.object "java/util/List"), .int], none⟩, 0, some k24c0⟩
def k24c1 : Code := ⟨4, 2, prog_34_method_2_code, #[], #[]⟩
def k24m1 : Method := ⟨"isTaken", "(I)Z", ⟨[.int], some .boolean⟩, 0, some k24c1⟩
def k24c2 : Code := ⟨2, 2, prog_34_method_3_code, #[], #[]⟩
def k24m2 : Method := ⟨"next", "(I)Ljava/lang/Object;", ⟨[.int], some (.object "java/lang/Object")⟩, 0, some k24c2⟩
/-- com/example/covenant/covenant/StateGraph$Node -/
def k24 : Class := { plain "com/example/covenant/covenant/StateGraph$Node" (some 0) with
  accessFlags := 48
  interfaces := #[]
  cf := some (fileOf pool24 8 #[.nestHost 41] #[⟨0, 5, 28, #[]⟩, ⟨0, 32, 33, #[]⟩, ⟨0, 15, 35, #[]⟩] 48 2 #[] #[⟨16, 11, 12, #[]⟩, ⟨16, 15, 16, #[]⟩, ⟨16, 19, 20, #[]⟩, ⟨16, 23, 24, #[]⟩])
  fields := #[⟨"allowed", (.object "java/util/List"), 16, 0, 0⟩, ⟨"next", (.array (.object "java/lang/Object")), 16, 1, 0⟩, ⟨"times", (.array .long), 16, 2, 0⟩, ⟨"nextNodes", (.array (.object "com/example/covenant/covenant/StateGraph$Node")), 16, 3, 0⟩]
  methods := #[k24m0, k24m1, k24m2]
  instanceTypes := #[(.object "java/util/List"), (.array (.object "java/lang/Object")), (.array .long), (.array (.object "com/example/covenant/covenant/StateGraph$Node"))]
  staticTypes := #[]
  resolved := Array.replicate 45 none
  statics := none }

def pool25 : Array CpInfo := pool [(2, .class_ 4), (1, u "java/lang/Object"), (0, u "<init>"), (0, u "()V"), (3, .class_ 11), (0, u "java/util/ImmutableCollections$List12"), (0, .class_ 13), (0, u "java/util/ImmutableCollections$ListN"), (3, u "Z"), (0, .class_ 19), (0, u "java/util/List"), (0, .interfaceMethodref 21 22), (0, .class_ 23), (0, .nameAndType 24 25), (0, u "java/util/Collection"), (0, u "isEmpty"), (0, u "()Z"), (0, .interfaceMethodref 18 27), (0, .nameAndType 28 29), (0, u "of"), (0, u "()Ljava/util/List;"), (0, .interfaceMethodref 21 31), (0, .nameAndType 32 33), (0, u "toArray"), (0, u "()[Ljava/lang/Object;"), (0, .interfaceMethodref 18 35), (0, .nameAndType 28 36), (0, u "([Ljava/lang/Object;)Ljava/util/List;"), (0, .methodref 38 39), (0, .class_ 40), (0, .nameAndType 41 42), (0, u "java/util/Objects"), (0, u "requireNonNull"), (0, u "(Ljava/lang/Object;)Ljava/lang/Object;"), (0, .methodref 12 44), (0, .nameAndType 5 45), (0, u "([Ljava/lang/Object;Z)V"), (1, .class_ 49), (1, u "java/util/ImmutableCollections"), (0, u "$assertionsDisabled"), (5, u "[Ljava/lang/Object;"), (5, u "EMPTY_LIST"), (0, u "Ljava/util/ImmutableCollections$ListN;"), (8, u "EMPTY_LIST_NULLS"), (22, u "SALT32L"), (0, u "J"), (2, u "REVERSE"), (6, u "archivedObjects"), (2, u "EMPTY"), (0, u "Ljava/lang/Object;"), (0, .class_ 112), (0, u "java/util/ImmutableCollections$SetN"), (5, u "EMPTY_SET"), (0, u "Ljava/util/ImmutableCollections$SetN;"), (0, .class_ 121), (0, u "java/util/ImmutableCollections$MapN"), (3, u "EMPTY_MAP"), (0, u "Ljava/util/ImmutableCollections$MapN;"), (4, u "EXPAND_FACTOR"), (0, u "I"), (9, u "listCopy"), (0, u "(Ljava/util/Collection;)Ljava/util/List;"), (7, u "listFromArray"), (17, .class_ 170), (0, u "java/util/ImmutableCollections$MapN$MapNIterator"), (0, .class_ 172), (0, u "java/util/ImmutableCollections$MapN$1"), (0, .class_ 174), (0, u "java/util/ImmutableCollections$Map1"), (0, .class_ 176), (0, u "java/util/ImmutableCollections$AbstractImmutableMap"), (0, .class_ 178), (0, u "java/util/ImmutableCollections$SetN$SetNIterator"), (0, .class_ 180), (0, u "java/util/ImmutableCollections$Set12"), (0, .class_ 182), (0, u "java/util/ImmutableCollections$Set12$1"), (0, .class_ 184), (0, u "java/util/ImmutableCollections$AbstractImmutableSet"), (0, .class_ 186), (0, u "java/util/ImmutableCollections$SubList"), (0, .class_ 188), (0, u "java/util/ImmutableCollections$ListItr"), (0, .class_ 190), (0, u "java/util/ImmutableCollections$AbstractImmutableList"), (0, .class_ 192), (0, u "java/util/ImmutableCollections$AbstractImmutableCollection"), (0, .class_ 194), (0, u "java/util/ImmutableCollections$Access"), (0, .class_ 196), (0, u "java/util/ImmutableCollections$Access$1")] 16

def k25m0 : Method := ⟨"<init>", "()V", ⟨[], none⟩, 2, none⟩
def k25c1 : Code := ⟨1, 2, jdk_56_method_3_code, #[], #[]⟩
def k25m1 : Method := ⟨"listCopy", "(Ljava/util/Collection;)Ljava/util/List;", ⟨[(.object "java/util/Collection")], some (.object "java/util/List")⟩, 8, some k25c1⟩
def k25c2 : Code := ⟨4, 3, jdk_56_method_4_code, #[], #[]⟩
def k25m2 : Method := ⟨"listFromArray", "([Ljava/lang/Object;)Ljava/util/List;", ⟨[(.array (.object "java/lang/Object"))], some (.object "java/util/List")⟩, 136, some k25c2⟩
/-- java/util/ImmutableCollections -/
def k25 : Class := { plain "java/util/ImmutableCollections" (some 0) with
  accessFlags := 32
  interfaces := #[]
  cf := some (fileOf pool25 47 #[.nestMembers #[120, 169, 171, 173, 175, 111, 177, 179, 181, 183, 12, 10, 185, 187, 189, 191, 193, 195]] #[⟨2, 5, 6, #[]⟩, ⟨8, 142, 143, #[]⟩, ⟨136, 151, 36, #[]⟩] 32 2 #[] #[⟨26, 95, 96, #[]⟩, ⟨26, 99, 17, #[]⟩, ⟨10, 106, 56, #[]⟩, ⟨26, 109, 110, #[]⟩, ⟨24, 62, 63, #[]⟩, ⟨24, 72, 63, #[]⟩, ⟨24, 118, 119, #[]⟩, ⟨24, 125, 126, #[]⟩, ⟨24, 131, 132, #[]⟩, ⟨4120, 50, 17, #[]⟩])
  fields := #[⟨"SALT32L", .long, 26, 0, 0⟩, ⟨"REVERSE", .boolean, 26, 1, 0⟩, ⟨"archivedObjects", (.array (.object "java/lang/Object")), 10, 2, 0⟩, ⟨"EMPTY", (.object "java/lang/Object"), 26, 3, 0⟩, ⟨"EMPTY_LIST", (.object "java/util/ImmutableCollections$ListN"), 24, 4, 0⟩, ⟨"EMPTY_LIST_NULLS", (.object "java/util/ImmutableCollections$ListN"), 24, 5, 0⟩, ⟨"EMPTY_SET", (.object "java/util/ImmutableCollections$SetN"), 24, 6, 0⟩, ⟨"EMPTY_MAP", (.object "java/util/ImmutableCollections$MapN"), 24, 7, 0⟩, ⟨"EXPAND_FACTOR", .int, 24, 8, 0⟩, ⟨"$assertionsDisabled", .boolean, 4120, 9, 0⟩]
  methods := #[k25m0, k25m1, k25m2]
  instanceTypes := #[]
  staticTypes := #[.long, .boolean, (.array (.object "java/lang/Object")), (.object "java/lang/Object"), (.object "java/util/ImmutableCollections$ListN"), (.object "java/util/ImmutableCollections$ListN"), (.object "java/util/ImmutableCollections$SetN"), (.object "java/util/ImmutableCollections$MapN"), .int, .boolean]
  resolved := Array.replicate 213 none
  statics := some 2 }

def pool26 : Array CpInfo := pool [(1, .methodref 2 3), (0, .class_ 4), (0, .nameAndType 5 6), (0, u "java/util/AbstractCollection"), (0, u "<init>"), (0, u "()V"), (1, .class_ 10), (1, u "java/util/ImmutableCollections"), (2, .class_ 14), (0, u "java/util/ImmutableCollections$AbstractImmutableCollection")] 41

def k26c0 : Code := ⟨1, 1, jdk_47_method_1_code, #[], #[]⟩
def k26m0 : Method := ⟨"<init>", "()V", ⟨[], none⟩, 0, some k26c0⟩
/-- java/util/ImmutableCollections$AbstractImmutableCollection -/
def k26 : Class := { plain "java/util/ImmutableCollections$AbstractImmutableCollection" (some 18) with
  accessFlags := 1056
  interfaces := #[]
  cf := some (fileOf pool26 13 #[.nestHost 8] #[⟨0, 5, 6, #[]⟩] 1056 2 #[] #[])
  fields := #[]
  methods := #[k26m0]
  instanceTypes := #[]
  staticTypes := #[]
  resolved := Array.replicate 56 none
  statics := none }

def pool27 : Array CpInfo := pool [(1, .methodref 2 3), (0, .class_ 4), (0, .nameAndType 5 6), (0, u "java/util/ImmutableCollections$AbstractImmutableCollection"), (0, u "<init>"), (0, u "()V"), (1, .class_ 10), (1, u "java/util/ImmutableCollections"), (3, .class_ 16), (1, u "java/util/ImmutableCollections$AbstractImmutableList"), (60, .class_ 78), (0, u "java/util/List"), (45, .class_ 125), (0, u "java/util/RandomAccess")] 70

def k27c0 : Code := ⟨1, 1, jdk_46_method_1_code, #[], #[]⟩
def k27m0 : Method := ⟨"<init>", "()V", ⟨[], none⟩, 0, some k27c0⟩
/-- java/util/ImmutableCollections$AbstractImmutableList -/
def k27 : Class := { plain "java/util/ImmutableCollections$AbstractImmutableList" (some 26) with
  accessFlags := 1056
  interfaces := #[20, 22]
  cf := some (fileOf pool27 14 #[.nestHost 8] #[⟨0, 5, 6, #[]⟩] 1056 2 #[77, 124] #[])
  fields := #[]
  methods := #[k27m0]
  instanceTypes := #[]
  staticTypes := #[]
  resolved := Array.replicate 196 none
  statics := none }

def pool28 : Array CpInfo := pool [(1, .methodref 2 3), (0, .class_ 4), (0, .nameAndType 5 6), (0, u "java/util/ImmutableCollections$AbstractImmutableList"), (0, u "<init>"), (0, u "()V"), (0, .methodref 8 9), (0, .class_ 10), (0, .nameAndType 11 12), (0, u "java/util/Objects"), (0, u "requireNonNull"), (0, u "(Ljava/lang/Object;)Ljava/lang/Object;"), (0, .fieldref 14 15), (0, .class_ 16), (0, .nameAndType 17 18), (0, u "java/util/ImmutableCollections$List12"), (0, u "e0"), (0, u "Ljava/lang/Object;"), (0, .fieldref 20 21), (0, .class_ 22), (0, .nameAndType 23 18), (0, u "java/util/ImmutableCollections"), (0, u "EMPTY"), (0, .fieldref 14 25), (0, .nameAndType 26 18), (0, u "e1"), (43, .class_ 71), (0, u "java/io/Serializable"), (4, u "(Ljava/lang/Object;)V"), (8, u "(Ljava/lang/Object;Ljava/lang/Object;)V")] 39

def k28c0 : Code := ⟨2, 2, jdk_44_method_1_code, #[], #[]⟩
def k28m0 : Method := ⟨"<init>", "(Ljava/lang/Object;)V", ⟨[(.object "java/lang/Object")], none⟩, 0, some k28c0⟩
def k28c1 : Code := ⟨2, 3, jdk_44_method_2_code, #[], #[]⟩
def k28m1 : Method := ⟨"<init>", "(Ljava/lang/Object;Ljava/lang/Object;)V", ⟨[(.object "java/lang/Object"), (.object "java/lang/Object")], none⟩, 0, some k28c1⟩
/-- java/util/ImmutableCollections$List12 -/
def k28 : Class := { plain "java/util/ImmutableCollections$List12" (some 27) with
  accessFlags := 48
  interfaces := #[6]
  cf := some (fileOf pool28 14 #[.nestHost 20] #[⟨0, 5, 76, #[]⟩, ⟨0, 5, 85, #[]⟩] 48 2 #[70] #[⟨18, 17, 18, #[]⟩, ⟨18, 26, 18, #[]⟩])
  fields := #[⟨"e0", (.object "java/lang/Object"), 18, 0, 0⟩, ⟨"e1", (.object "java/lang/Object"), 18, 1, 0⟩]
  methods := #[k28m0, k28m1]
  instanceTypes := #[(.object "java/lang/Object"), (.object "java/lang/Object")]
  staticTypes := #[]
  resolved := Array.replicate 125 none
  statics := none }

def pool29 : Array CpInfo := pool [(1, .methodref 2 3), (0, .class_ 4), (0, .nameAndType 5 6), (0, u "java/util/ImmutableCollections$AbstractImmutableList"), (0, u "<init>"), (0, u "()V"), (0, .fieldref 8 9), (0, .class_ 10), (0, .nameAndType 11 12), (0, u "java/util/ImmutableCollections$ListN"), (0, u "elements"), (0, u "[Ljava/lang/Object;"), (0, .fieldref 8 14), (0, .nameAndType 15 16), (0, u "allowNulls"), (0, u "Z"), (42, .class_ 60), (0, u "java/io/Serializable"), (4, u "([Ljava/lang/Object;Z)V"), (48, .class_ 115), (0, u "java/util/ImmutableCollections")] 3

def k29c0 : Code := ⟨2, 3, jdk_45_method_1_code, #[], #[]⟩
def k29m0 : Method := ⟨"<init>", "([Ljava/lang/Object;Z)V", ⟨[(.array (.object "java/lang/Object")), .boolean], none⟩, 2, some k29c0⟩
/-- java/util/ImmutableCollections$ListN -/
def k29 : Class := { plain "java/util/ImmutableCollections$ListN" (some 27) with
  accessFlags := 48
  interfaces := #[6]
  cf := some (fileOf pool29 8 #[.nestHost 114] #[⟨2, 5, 65, #[]⟩] 48 2 #[59] #[⟨18, 11, 12, #[]⟩, ⟨18, 15, 16, #[]⟩])
  fields := #[⟨"elements", (.array (.object "java/lang/Object")), 18, 0, 0⟩, ⟨"allowNulls", .boolean, 18, 1, 0⟩]
  methods := #[k29m0]
  instanceTypes := #[(.array (.object "java/lang/Object")), .boolean]
  staticTypes := #[]
  resolved := Array.replicate 119 none
  statics := none }

def pool30 : Array CpInfo := pool [(23, .class_ 25), (1, u "java/util/Map$Entry"), (6, .class_ 34), (1, u "java/util/Map"), (34, .class_ 70), (0, u "java/lang/Object")] 107

/-- java/util/Map$Entry -/
def k30 : Class := { plain "java/util/Map$Entry" (some 0) with
  accessFlags := 1537
  interfaces := #[]
  cf := some (fileOf pool30 23 #[.nestHost 32] #[] 1537 69 #[] #[])
  fields := #[]
  methods := #[]
  instanceTypes := #[]
  staticTypes := #[]
  resolved := Array.replicate 178 none
  statics := none }

def pool31 : Array CpInfo := pool [(1, .methodref 2 3), (0, .class_ 4), (0, .nameAndType 5 6), (0, u "java/lang/Object"), (0, u "<init>"), (0, u "()V"), (0, .fieldref 8 9), (0, .class_ 10), (0, .nameAndType 11 12), (0, u "java/util/HashMap$Node"), (0, u "hash"), (0, u "I"), (0, .fieldref 8 14), (0, .nameAndType 15 16), (0, u "key"), (0, u "Ljava/lang/Object;"), (0, .fieldref 8 18), (0, .nameAndType 19 16), (0, u "value"), (0, .fieldref 8 21), (0, .nameAndType 22 23), (0, u "next"), (0, u "Ljava/util/HashMap$Node;"), (22, .class_ 47), (0, u "java/util/Map$Entry"), (15, u "(ILjava/lang/Object;Ljava/lang/Object;Ljava/util/HashMap$Node;)V"), (24, .class_ 89), (0, u "java/util/HashMap")] 5

def k31c0 : Code := ⟨2, 5, jdk_70_method_1_code, #[], #[]⟩
def k31m0 : Method := ⟨"<init>", "(ILjava/lang/Object;Ljava/lang/Object;Ljava/util/HashMap$Node;)V", ⟨[.int, (.object "java/lang/Object"), (.object "java/lang/Object"), (.object "java/util/HashMap$Node")], none⟩, 0, some k31c0⟩
/-- java/util/HashMap$Node -/
def k31 : Class := { plain "java/util/HashMap$Node" (some 0) with
  accessFlags := 32
  interfaces := #[30]
  cf := some (fileOf pool31 8 #[.nestHost 88] #[⟨0, 5, 63, #[]⟩] 32 2 #[46] #[⟨16, 11, 12, #[]⟩, ⟨16, 15, 16, #[]⟩, ⟨0, 19, 16, #[]⟩, ⟨0, 22, 23, #[]⟩])
  fields := #[⟨"hash", .int, 16, 0, 0⟩, ⟨"key", (.object "java/lang/Object"), 16, 1, 0⟩, ⟨"value", (.object "java/lang/Object"), 0, 2, 0⟩, ⟨"next", (.object "java/util/HashMap$Node"), 0, 3, 0⟩]
  methods := #[k31m0]
  instanceTypes := #[.int, (.object "java/lang/Object"), (.object "java/lang/Object"), (.object "java/util/HashMap$Node")]
  staticTypes := #[]
  resolved := Array.replicate 95 none
  statics := none }

def pool32 : Array CpInfo := pool [(1, .methodref 2 3), (0, .class_ 4), (0, .nameAndType 5 6), (0, u "java/util/HashMap$Node"), (0, u "<init>"), (0, u "(ILjava/lang/Object;Ljava/lang/Object;Ljava/util/HashMap$Node;)V"), (0, .class_ 8), (0, u "java/util/LinkedHashMap$Entry"), (0, u "before"), (0, u "Ljava/util/LinkedHashMap$Entry;"), (2, u "after"), (20, .class_ 35), (0, u "java/util/LinkedHashMap")] 5

def k32c0 : Code := ⟨5, 5, jdk_83_method_1_code, #[], #[]⟩
def k32m0 : Method := ⟨"<init>", "(ILjava/lang/Object;Ljava/lang/Object;Ljava/util/HashMap$Node;)V", ⟨[.int, (.object "java/lang/Object"), (.object "java/lang/Object"), (.object "java/util/HashMap$Node")], none⟩, 0, some k32c0⟩
/-- java/util/LinkedHashMap$Entry -/
def k32 : Class := { plain "java/util/LinkedHashMap$Entry" (some 31) with
  accessFlags := 32
  interfaces := #[]
  cf := some (fileOf pool32 7 #[.nestHost 34] #[⟨0, 5, 6, #[]⟩] 32 2 #[] #[⟨0, 9, 10, #[]⟩, ⟨0, 13, 10, #[]⟩])
  fields := #[⟨"before", (.object "java/util/LinkedHashMap$Entry"), 0, 4, 0⟩, ⟨"after", (.object "java/util/LinkedHashMap$Entry"), 0, 5, 0⟩]
  methods := #[k32m0]
  instanceTypes := #[.int, (.object "java/lang/Object"), (.object "java/lang/Object"), (.object "java/util/HashMap$Node"), (.object "java/util/LinkedHashMap$Entry"), (.object "java/util/LinkedHashMap$Entry")]
  staticTypes := #[]
  resolved := Array.replicate 41 none
  statics := none }

def pool33 : Array CpInfo := pool [(1, .class_ 2), (0, u "java/lang/Math"), (1, .class_ 6), (1, u "java/lang/Object"), (0, u "<init>"), (0, u "()V"), (89, .class_ 100), (1, u "java/lang/Math$RandomNumberGeneratorHolder"), (71, u "negativeZeroFloatBits"), (0, u "J"), (2, u "negativeZeroDoubleBits"), (21, u "max"), (2, u "min"), (43, u "$assertionsDisabled"), (0, u "Z"), (88, u "(II)I"), (2, u "twoToTheDoubleScaleDown"), (0, u "D"), (4, u "twoToTheDoubleScaleUp"), (9, u "E"), (3, u "PI"), (2, u "TAU"), (2, u "DEGREES_TO_RADIANS"), (0, u "RADIANS_TO_DEGREES")] 94

def k33m0 : Method := ⟨"<init>", "()V", ⟨[], none⟩, 2, none⟩
def k33c1 : Code := ⟨2, 2, jdk_29_method_65_code, #[], #[]⟩
def k33m1 : Method := ⟨"max", "(II)I", ⟨[.int, .int], some .int⟩, 9, some k33c1⟩
def k33c2 : Code := ⟨2, 2, jdk_29_method_69_code, #[], #[]⟩
def k33m2 : Method := ⟨"min", "(II)I", ⟨[.int, .int], some .int⟩, 9, some k33c2⟩
/-- java/lang/Math -/
def k33 : Class := { plain "java/lang/Math" (some 0) with
  accessFlags := 49
  interfaces := #[]
  cf := some (fileOf pool33 1 #[.nestMembers #[98]] #[⟨2, 7, 8, #[]⟩, ⟨9, 198, 335, #[]⟩, ⟨9, 201, 335, #[]⟩] 49 4 #[] #[⟨25, 354, 339, #[]⟩, ⟨25, 358, 339, #[]⟩, ⟨25, 361, 339, #[]⟩, ⟨26, 364, 339, #[]⟩, ⟨26, 365, 339, #[]⟩, ⟨26, 172, 173, #[]⟩, ⟨26, 176, 173, #[]⟩, ⟨8, 344, 339, #[]⟩, ⟨8, 338, 339, #[]⟩, ⟨4120, 245, 246, #[]⟩])
  fields := #[⟨"E", .double, 25, 0, 0⟩, ⟨"PI", .double, 25, 1, 0⟩, ⟨"TAU", .double, 25, 2, 0⟩, ⟨"DEGREES_TO_RADIANS", .double, 26, 3, 0⟩, ⟨"RADIANS_TO_DEGREES", .double, 26, 4, 0⟩, ⟨"negativeZeroFloatBits", .long, 26, 5, 0⟩, ⟨"negativeZeroDoubleBits", .long, 26, 6, 0⟩, ⟨"twoToTheDoubleScaleUp", .double, 8, 7, 0⟩, ⟨"twoToTheDoubleScaleDown", .double, 8, 8, 0⟩, ⟨"$assertionsDisabled", .boolean, 4120, 9, 0⟩]
  methods := #[k33m0, k33m1, k33m2]
  instanceTypes := #[]
  staticTypes := #[.double, .double, .double, .double, .double, .long, .long, .double, .double, .boolean]
  resolved := Array.replicate 460 none
  statics := none }

def pool34 : Array CpInfo := pool [(2, .class_ 4), (1, u "java/lang/Object"), (0, u "<init>"), (0, u "()V"), (7, .class_ 16), (1, u "java/util/Arrays"), (57, .class_ 76), (1, u "java/util/Arrays$NaturalOrder"), (9, .methodref 2 87), (0, .nameAndType 88 89), (0, u "getClass"), (0, u "()Ljava/lang/Class;"), (20, .class_ 111), (0, u "[Ljava/lang/Object;"), (1, .class_ 115), (1, u "java/util/Arrays$LegacyMergeSort"), (1, u "Z"), (32, .methodref 151 152), (0, .class_ 153), (0, .nameAndType 154 155), (0, u "java/lang/System"), (0, u "arraycopy"), (0, u "(Ljava/lang/Object;ILjava/lang/Object;II)V"), (144, .methodref 14 301), (0, .nameAndType 302 303), (0, u "copyOf"), (0, u "([Ljava/lang/Object;ILjava/lang/Class;)[Ljava/lang/Object;"), (0, .methodref 305 306), (0, .class_ 307), (0, .nameAndType 308 309), (0, u "java/lang/Math"), (0, u "min"), (0, u "(II)I"), (65, .class_ 376), (0, u "java/util/Arrays$ArrayList"), (68, u "$assertionsDisabled"), (269, u "MIN_ARRAY_SORT_GRAN"), (0, u "I"), (2, u "INSERTIONSORT_THRESHOLD"), (140, u "([Ljava/lang/Object;I)[Ljava/lang/Object;"), (114, .class_ 976), (0, u "java/util/Arrays$ArrayItr")] 52

def k34m0 : Method := ⟨"<init>", "()V", ⟨[], none⟩, 2, none⟩
def k34c1 : Code := ⟨3, 2, jdk_65_method_119_code, #[], #[]⟩
def k34m1 : Method := ⟨"copyOf", "([Ljava/lang/Object;I)[Ljava/lang/Object;", ⟨[(.array (.object "java/lang/Object")), .int], some (.array (.object "java/lang/Object"))⟩, 9, some k34c1⟩
def k34c2 : Code := ⟨6, 4, jdk_65_method_120_code, #[], #[]⟩
def k34m2 : Method := ⟨"copyOf", "([Ljava/lang/Object;ILjava/lang/Class;)[Ljava/lang/Object;", ⟨[(.array (.object "java/lang/Object")), .int, (.object "java/lang/Class")], some (.array (.object "java/lang/Object"))⟩, 9, some k34c2⟩
/-- java/util/Arrays -/
def k34 : Class := { plain "java/util/Arrays" (some 0) with
  accessFlags := 49
  interfaces := #[]
  cf := some (fileOf pool34 14 #[.nestMembers #[975, 375, 113, 74]] #[⟨2, 5, 6, #[]⟩, ⟨9, 302, 860, #[]⟩, ⟨9, 302, 303, #[]⟩] 49 2 #[] #[⟨26, 715, 716, #[]⟩, ⟨26, 719, 716, #[]⟩, ⟨4120, 445, 117, #[]⟩])
  fields := #[⟨"MIN_ARRAY_SORT_GRAN", .int, 26, 0, 0⟩, ⟨"INSERTIONSORT_THRESHOLD", .int, 26, 1, 0⟩, ⟨"$assertionsDisabled", .boolean, 4120, 2, 0⟩]
  methods := #[k34m0, k34m1, k34m2]
  instanceTypes := #[]
  staticTypes := #[.int, .int, .boolean]
  resolved := Array.replicate 1029 none
  statics := none }

def pool35 : Array CpInfo := pool [(2, .class_ 4), (1, u "java/lang/Object"), (0, u "<init>"), (0, u "()V"), (1, .class_ 10), (1, u "java/lang/System"), (0, u "allowSecurityManager"), (0, u "I"), (16, u "cons"), (0, u "Ljava/io/Console;"), (77, .class_ 110), (1, u "java/lang/System$CallersHolder"), (43, u "initialErrStream"), (0, u "Ljava/io/PrintStream;"), (19, u "security"), (0, u "Ljava/lang/SecurityManager;"), (31, .class_ 209), (0, u "java/lang/System$1"), (7, u "props"), (0, u "Ljava/util/Properties;"), (2, u "lineSeparator"), (0, u "Ljava/lang/String;"), (96, .class_ 321), (1, u "java/lang/System$LoggerFinder"), (5, .class_ 328), (0, u "java/lang/System$Logger"), (67, u "err"), (2, u "out"), (91, u "notSupportedJnuEncoding"), (15, u "in"), (17, u "initialIn"), (0, u "Ljava/io/InputStream;"), (35, u "bootLayer"), (0, u "Ljava/lang/ModuleLayer;"), (99, .class_ 664), (0, u "java/lang/System$2"), (9, u "NEVER"), (2, u "MAYBE"), (49, u "arraycopy"), (0, u "(Ljava/lang/Object;ILjava/lang/Object;II)V"), (72, .class_ 802), (0, u "java/lang/System$Logger$Level")] 31

def k35m0 : Method := ⟨"<init>", "()V", ⟨[], none⟩, 2, none⟩
def k35m1 : Method := ⟨"arraycopy", "(Ljava/lang/Object;ILjava/lang/Object;II)V", ⟨[(.object "java/lang/Object"), .int, (.object "java/lang/Object"), .int, .int], none⟩, 265, none⟩
/-- java/lang/System -/
def k35 : Class := { plain "java/lang/System" (some 0) with
  accessFlags := 49
  interfaces := #[]
  cf := some (fileOf pool35 8 #[.nestMembers #[319, 327, 801, 108, 663, 208]] #[⟨2, 5, 6, #[]⟩, ⟨265, 727, 728, #[]⟩] 49 2 #[] #[⟨25, 507, 526, #[]⟩, ⟨25, 399, 155, #[]⟩, ⟨25, 396, 155, #[]⟩, ⟨10, 525, 526, #[]⟩, ⟨26, 674, 12, #[]⟩, ⟨26, 677, 12, #[]⟩, ⟨10, 11, 12, #[]⟩, ⟨74, 175, 176, #[]⟩, ⟨10, 491, 222, #[]⟩, ⟨74, 29, 30, #[]⟩, ⟨74, 154, 155, #[]⟩, ⟨10, 217, 218, #[]⟩, ⟨10, 221, 222, #[]⟩, ⟨8, 562, 563, #[]⟩])
  fields := #[⟨"in", (.object "java/io/InputStream"), 25, 0, 0⟩, ⟨"out", (.object "java/io/PrintStream"), 25, 1, 0⟩, ⟨"err", (.object "java/io/PrintStream"), 25, 2, 0⟩, ⟨"initialIn", (.object "java/io/InputStream"), 10, 3, 0⟩, ⟨"NEVER", .int, 26, 4, 0⟩, ⟨"MAYBE", .int, 26, 5, 0⟩, ⟨"allowSecurityManager", .int, 10, 6, 0⟩, ⟨"security", (.object "java/lang/SecurityManager"), 74, 7, 0⟩, ⟨"notSupportedJnuEncoding", (.object "java/lang/String"), 10, 8, 0⟩, ⟨"cons", (.object "java/io/Console"), 74, 9, 0⟩, ⟨"initialErrStream", (.object "java/io/PrintStream"), 74, 10, 0⟩, ⟨"props", (.object "java/util/Properties"), 10, 11, 0⟩, ⟨"lineSeparator", (.object "java/lang/String"), 10, 12, 0⟩, ⟨"bootLayer", (.object "java/lang/ModuleLayer"), 8, 13, 0⟩]
  methods := #[k35m0, k35m1]
  instanceTypes := #[]
  staticTypes := #[(.object "java/io/InputStream"), (.object "java/io/PrintStream"), (.object "java/io/PrintStream"), (.object "java/io/InputStream"), .int, .int, .int, (.object "java/lang/SecurityManager"), (.object "java/lang/String"), (.object "java/io/Console"), (.object "java/io/PrintStream"), (.object "java/util/Properties"), (.object "java/lang/String"), (.object "java/lang/ModuleLayer")]
  resolved := Array.replicate 834 none
  statics := none }

def pool36 : Array CpInfo := pool [(2, .class_ 4), (1, u "java/lang/Object"), (0, u "<init>"), (0, u "()V"), (7, .methodref 2 15), (0, .nameAndType 16 17), (0, u "equals"), (0, u "(Ljava/lang/Object;)Z"), (5, u "(Ljava/lang/Object;Ljava/lang/Object;)Z"), (18, .class_ 44), (1, u "java/util/Objects"), (0, u "requireNonNull"), (0, u "(Ljava/lang/Object;)Ljava/lang/Object;")] 137

def k36m0 : Method := ⟨"<init>", "()V", ⟨[], none⟩, 2, none⟩
def k36c1 : Code := ⟨2, 2, jdk_31_method_2_code, #[], #[]⟩
def k36m1 : Method := ⟨"equals", "(Ljava/lang/Object;Ljava/lang/Object;)Z", ⟨[(.object "java/lang/Object"), (.object "java/lang/Object")], some .boolean⟩, 9, some k36c1⟩
def k36c2 : Code := ⟨2, 1, jdk_31_method_10_code, #[], #[]⟩
def k36m2 : Method := ⟨"requireNonNull", "(Ljava/lang/Object;)Ljava/lang/Object;", ⟨[(.object "java/lang/Object")], some (.object "java/lang/Object")⟩, 9, some k36c2⟩
/-- java/util/Objects -/
def k36 : Class := { plain "java/util/Objects" (some 0) with
  accessFlags := 49
  interfaces := #[]
  cf := some (fileOf pool36 42 #[] #[⟨2, 5, 6, #[]⟩, ⟨9, 16, 23, #[]⟩, ⟨9, 45, 46, #[]⟩] 49 2 #[] #[])
  fields := #[]
  methods := #[k36m0, k36m1, k36m2]
  instanceTypes := #[]
  staticTypes := #[]
  resolved := Array.replicate 184 none
  statics := none }

def pool37 : Array CpInfo := pool [(1, u "java/lang/Class"), (0, .class_ 1), (0, u "java/lang/Object"), (0, .class_ 3)] 0

/-- java/lang/Class -/
def k37 : Class := { plain "java/lang/Class" (some 0) with
  accessFlags := 49
  interfaces := #[]
  cf := some (fileOf pool37 2 #[] #[] 49 4 #[] #[])
  fields := #[]
  methods := #[]
  instanceTypes := #[]
  staticTypes := #[]
  resolved := Array.replicate 5 none
  statics := none }

/-- the primitive byte -/
def k38 : Class := { plain "byte" none with kind := .primitive 'B', accessFlags := 0x411 }
/-- [B -/
def k39 : Class := { plain "[B" (some 0) with kind := .array 38 .byte, interfaces := #[5, 6], accessFlags := 1041 }

/-- the primitive int -/
def k40 : Class := { plain "int" none with kind := .primitive 'I', accessFlags := 0x411 }
/-- [I -/
def k41 : Class := { plain "[I" (some 0) with kind := .array 40 .int, interfaces := #[5, 6], accessFlags := 1041 }

/-- the primitive long -/
def k42 : Class := { plain "long" none with kind := .primitive 'J', accessFlags := 0x411 }
/-- [J -/
def k43 : Class := { plain "[J" (some 0) with kind := .array 42 .long, interfaces := #[5, 6], accessFlags := 1041 }

/-- [Lcom/example/covenant/covenant/StateGraph$Node; -/
def k44 : Class := { plain "[Lcom/example/covenant/covenant/StateGraph$Node;" (some 0) with kind := .array 24 (.object "com/example/covenant/covenant/StateGraph$Node"), interfaces := #[5, 6], accessFlags := 1041 }

/-- [Ljava/lang/Integer; -/
def k45 : Class := { plain "[Ljava/lang/Integer;" (some 0) with kind := .array 14 (.object "java/lang/Integer"), interfaces := #[5, 6], accessFlags := 1041 }

/-- [Ljava/lang/Object; -/
def k46 : Class := { plain "[Ljava/lang/Object;" (some 0) with kind := .array 0 (.object "java/lang/Object"), interfaces := #[5, 6], accessFlags := 1041, mirror := some 3 }

/-- [Ljava/util/HashMap$Node; -/
def k47 : Class := { plain "[Ljava/util/HashMap$Node;" (some 0) with kind := .array 31 (.object "java/util/HashMap$Node"), interfaces := #[5, 6], accessFlags := 1041 }

def bxc (i : Int32) : Cell := { cls := 14, slots := #[.int i], vm := .none }
def heap : Heap := #[{ cls := 15, slots := #[.int 0, .int 127, .ref 4, .null, .int 0], vm := .statics 15 },
  { cls := 23, slots := #[.long 0, .int 0, .ref 263, .ref 264], vm := .statics 23 },
  { cls := 25, slots := #[.long 0, .int 0, .null, .ref 265, .ref 262, .null, .null, .null, .int 0, .int 1], vm := .statics 25 },
  { cls := 37, slots := #[], vm := .mirror 46 },
  { cls := 45, slots := #[.ref 6, .ref 7, .ref 8, .ref 9, .ref 10, .ref 11, .ref 12, .ref 13, .ref 14, .ref 15, .ref 16, .ref 17, .ref 18, .ref 19, .ref 20, .ref 21, .ref 22, .ref 23, .ref 24, .ref 25, .ref 26, .ref 27, .ref 28, .ref 29, .ref 30, .ref 31, .ref 32, .ref 33, .ref 34, .ref 35, .ref 36, .ref 37, .ref 38, .ref 39, .ref 40, .ref 41, .ref 42, .ref 43, .ref 44, .ref 45, .ref 46, .ref 47, .ref 48, .ref 49, .ref 50, .ref 51, .ref 52, .ref 53, .ref 54, .ref 55, .ref 56, .ref 57, .ref 58, .ref 59, .ref 60, .ref 61, .ref 62, .ref 63, .ref 64, .ref 65, .ref 66, .ref 67, .ref 68, .ref 69, .ref 70, .ref 71, .ref 72, .ref 73, .ref 74, .ref 75, .ref 76, .ref 77, .ref 78, .ref 79, .ref 80, .ref 81, .ref 82, .ref 83, .ref 84, .ref 85, .ref 86, .ref 87, .ref 88, .ref 89, .ref 90, .ref 91, .ref 92, .ref 93, .ref 94, .ref 95, .ref 96, .ref 97, .ref 98, .ref 99, .ref 100, .ref 101, .ref 102, .ref 103, .ref 104, .ref 105, .ref 106, .ref 107, .ref 108, .ref 109, .ref 110, .ref 111, .ref 112, .ref 113, .ref 114, .ref 115, .ref 116, .ref 117, .ref 118, .ref 119, .ref 120, .ref 121, .ref 122, .ref 123, .ref 124, .ref 125, .ref 126, .ref 127, .ref 128, .ref 129, .ref 130, .ref 131, .ref 132, .ref 133, .ref 134, .ref 135, .ref 136, .ref 137, .ref 138, .ref 139, .ref 140, .ref 141, .ref 142, .ref 143, .ref 144, .ref 145, .ref 146, .ref 147, .ref 148, .ref 149, .ref 150, .ref 151, .ref 152, .ref 153, .ref 154, .ref 155, .ref 156, .ref 157, .ref 158, .ref 159, .ref 160, .ref 161, .ref 162, .ref 163, .ref 164, .ref 165, .ref 166, .ref 167, .ref 168, .ref 169, .ref 170, .ref 171, .ref 172, .ref 173, .ref 174, .ref 175, .ref 176, .ref 177, .ref 178, .ref 179, .ref 180, .ref 181, .ref 182, .ref 183, .ref 184, .ref 185, .ref 186, .ref 187, .ref 188, .ref 189, .ref 190, .ref 191, .ref 192, .ref 193, .ref 194, .ref 195, .ref 196, .ref 197, .ref 198, .ref 199, .ref 200, .ref 201, .ref 202, .ref 203, .ref 204, .ref 205, .ref 206, .ref 207, .ref 208, .ref 209, .ref 210, .ref 211, .ref 212, .ref 213, .ref 214, .ref 215, .ref 216, .ref 217, .ref 218, .ref 219, .ref 220, .ref 221, .ref 222, .ref 223, .ref 224, .ref 225, .ref 226, .ref 227, .ref 228, .ref 229, .ref 230, .ref 231, .ref 232, .ref 233, .ref 234, .ref 235, .ref 236, .ref 237, .ref 238, .ref 239, .ref 240, .ref 241, .ref 242, .ref 243, .ref 244, .ref 245, .ref 246, .ref 247, .ref 248, .ref 249, .ref 250, .ref 251, .ref 252, .ref 253, .ref 254, .ref 255, .ref 256, .ref 257, .ref 258, .ref 259, .ref 260, .ref 261], vm := .none },
  { cls := 46, slots := #[], vm := .none },
  bxc (-128),
  bxc (-127),
  bxc (-126),
  bxc (-125),
  bxc (-124),
  bxc (-123),
  bxc (-122),
  bxc (-121),
  bxc (-120),
  bxc (-119),
  bxc (-118),
  bxc (-117),
  bxc (-116),
  bxc (-115),
  bxc (-114),
  bxc (-113),
  bxc (-112),
  bxc (-111),
  bxc (-110),
  bxc (-109),
  bxc (-108),
  bxc (-107),
  bxc (-106),
  bxc (-105),
  bxc (-104),
  bxc (-103),
  bxc (-102),
  bxc (-101),
  bxc (-100),
  bxc (-99),
  bxc (-98),
  bxc (-97),
  bxc (-96),
  bxc (-95),
  bxc (-94),
  bxc (-93),
  bxc (-92),
  bxc (-91),
  bxc (-90),
  bxc (-89),
  bxc (-88),
  bxc (-87),
  bxc (-86),
  bxc (-85),
  bxc (-84),
  bxc (-83),
  bxc (-82),
  bxc (-81),
  bxc (-80),
  bxc (-79),
  bxc (-78),
  bxc (-77),
  bxc (-76),
  bxc (-75),
  bxc (-74),
  bxc (-73),
  bxc (-72),
  bxc (-71),
  bxc (-70),
  bxc (-69),
  bxc (-68),
  bxc (-67),
  bxc (-66),
  bxc (-65),
  bxc (-64),
  bxc (-63),
  bxc (-62),
  bxc (-61),
  bxc (-60),
  bxc (-59),
  bxc (-58),
  bxc (-57),
  bxc (-56),
  bxc (-55),
  bxc (-54),
  bxc (-53),
  bxc (-52),
  bxc (-51),
  bxc (-50),
  bxc (-49),
  bxc (-48),
  bxc (-47),
  bxc (-46),
  bxc (-45),
  bxc (-44),
  bxc (-43),
  bxc (-42),
  bxc (-41),
  bxc (-40),
  bxc (-39),
  bxc (-38),
  bxc (-37),
  bxc (-36),
  bxc (-35),
  bxc (-34),
  bxc (-33),
  bxc (-32),
  bxc (-31),
  bxc (-30),
  bxc (-29),
  bxc (-28),
  bxc (-27),
  bxc (-26),
  bxc (-25),
  bxc (-24),
  bxc (-23),
  bxc (-22),
  bxc (-21),
  bxc (-20),
  bxc (-19),
  bxc (-18),
  bxc (-17),
  bxc (-16),
  bxc (-15),
  bxc (-14),
  bxc (-13),
  bxc (-12),
  bxc (-11),
  bxc (-10),
  bxc (-9),
  bxc (-8),
  bxc (-7),
  bxc (-6),
  bxc (-5),
  bxc (-4),
  bxc (-3),
  bxc (-2),
  bxc (-1),
  bxc 0,
  bxc 1,
  bxc 2,
  bxc 3,
  bxc 4,
  bxc 5,
  bxc 6,
  bxc 7,
  bxc 8,
  bxc 9,
  bxc 10,
  bxc 11,
  bxc 12,
  bxc 13,
  bxc 14,
  bxc 15,
  bxc 16,
  bxc 17,
  bxc 18,
  bxc 19,
  bxc 20,
  bxc 21,
  bxc 22,
  bxc 23,
  bxc 24,
  bxc 25,
  bxc 26,
  bxc 27,
  bxc 28,
  bxc 29,
  bxc 30,
  bxc 31,
  bxc 32,
  bxc 33,
  bxc 34,
  bxc 35,
  bxc 36,
  bxc 37,
  bxc 38,
  bxc 39,
  bxc 40,
  bxc 41,
  bxc 42,
  bxc 43,
  bxc 44,
  bxc 45,
  bxc 46,
  bxc 47,
  bxc 48,
  bxc 49,
  bxc 50,
  bxc 51,
  bxc 52,
  bxc 53,
  bxc 54,
  bxc 55,
  bxc 56,
  bxc 57,
  bxc 58,
  bxc 59,
  bxc 60,
  bxc 61,
  bxc 62,
  bxc 63,
  bxc 64,
  bxc 65,
  bxc 66,
  bxc 67,
  bxc 68,
  bxc 69,
  bxc 70,
  bxc 71,
  bxc 72,
  bxc 73,
  bxc 74,
  bxc 75,
  bxc 76,
  bxc 77,
  bxc 78,
  bxc 79,
  bxc 80,
  bxc 81,
  bxc 82,
  bxc 83,
  bxc 84,
  bxc 85,
  bxc 86,
  bxc 87,
  bxc 88,
  bxc 89,
  bxc 90,
  bxc 91,
  bxc 92,
  bxc 93,
  bxc 94,
  bxc 95,
  bxc 96,
  bxc 97,
  bxc 98,
  bxc 99,
  bxc 100,
  bxc 101,
  bxc 102,
  bxc 103,
  bxc 104,
  bxc 105,
  bxc 106,
  bxc 107,
  bxc 108,
  bxc 109,
  bxc 110,
  bxc 111,
  bxc 112,
  bxc 113,
  bxc 114,
  bxc 115,
  bxc 116,
  bxc 117,
  bxc 118,
  bxc 119,
  bxc 120,
  bxc 121,
  bxc 122,
  bxc 123,
  bxc 124,
  bxc 125,
  bxc 126,
  bxc 127,
  { cls := 29, slots := #[.ref 5, .int 0], vm := .none },
  { cls := 46, slots := #[], vm := .none },
  { cls := 46, slots := #[], vm := .none },
  { cls := 0, slots := #[], vm := .none }]
def classes : Array Class := #[k0, k1, k2, k3, k4, k5, k6, k7, k8, k9, k10, k11, k12, k13, k14, k15, k16, k17, k18, k19, k20, k21, k22, k23, k24, k25, k26, k27, k28, k29, k30, k31, k32, k33, k34, k35, k36, k37, k38, k39, k40, k41, k42, k43, k44, k45, k46, k47]
def interned : List (Array UInt16 × Addr) := []
def slotsUsed : Nat := 533
def theMethod : MethodId := ⟨1, 4⟩
def args0 : Array Value := #[.int 127, .int 6, .int 1, .int 3]
def aboutOver (below : List Frame) : State where
  vm := { classes := classes, interned := interned.toArray }
  heap := heap
  slotsUsed := slotsUsed
  threads := #[{ frames := .invoking theMethod args0 :: below }]
def below0 : List Frame := [.native { method := ⟨0, 0⟩, args := #[] }]
def about1 : State := aboutOver below0
def p0 : Program := .bare "" "" ""
def e0 : Env := launch0.env 0 0 0
theorem w_frames : about1.frames = Frame.invoking theMethod args0 :: below0 := rfl
set_option maxRecDepth 65536 in
theorem w_args : argsFit about1.vm theMethod args0 = true := by decide +kernel
set_option maxRecDepth 65536 in
theorem w_heap : heapFits about1 = true := by decide +kernel
set_option maxRecDepth 65536 in
theorem w_runnable : about1.curStatus? = some .runnable := by decide +kernel
set_option maxRecDepth 65536 in
theorem w_alone : about1.alone = true := by decide +kernel
set_option maxRecDepth 65536 in
theorem w_named : about1.methodNamed? x = some theMethod := by decide +kernel
set_option maxRecDepth 65536 in
theorem w_hears : about1.hears theMethod below0 = true := by decide +kernel
set_option maxRecDepth 65536 in
theorem w_ripe : about1.ripe theMethod args0 below0 = true := by decide +kernel
theorem w_running : about1.status = .running := rfl
set_option maxRecDepth 65536 in
theorem w_room : about1.hasRoom e0.platform room_1 = true :=
  launch0.hasRoom_least _ room_1 (by decide +kernel) (by decide +kernel) (by decide +kernel) (by decide +kernel) (by decide +kernel) (by decide +kernel)
theorem allAtoms_all (ts : List Jvm.Cond) (a : Array Jvm.Value) (st : Jvm.State) : (allAtoms ts).before a st = ts.all (fun c => c.before a st) := by
  induction ts with
  | nil => rfl
  | cons c t ih =>
    show (Jvm.Cond.and c (allAtoms t)).before a st = _
    rw [Jvm.Cond.before_and, ih, List.all_cons]
def words1 : List Jvm.Cond := Jvm.Cond.code x code maxLocals ret :: tables_1
/-- a 'code' word, met by the world's own term for the bytes: nothing is compared byte by byte -/
theorem code_word {y : MethodName} {bytes : ByteArray} {mx : Nat} {rt : Option FieldType} {a : Array Value} {s : State} {m : MethodId} {meth : Method} {c : Code} (h1 : s.methodNamed? y = some m) (h2 : s.vm.method? m = some meth) (h3 : meth.code = some c) (h4 : c.code = bytes)
    (h5 : (c.maxLocals == mx && c.exceptionTable.isEmpty && decide (c.maxStack ≤ mostOperands) && decide (meth.sig.returnType = rt) && !meth.locks && decide (parseMethodDescriptor y.desc = some meth.sig)) = true) : (Jvm.Cond.code y bytes mx rt).before a s = true := by
  simp only [Bool.and_eq_true, beq_iff_eq, Bool.not_eq_true', decide_eq_true_eq] at h5
  obtain ⟨⟨⟨⟨⟨g1, g2⟩, g3⟩, g4⟩, g5⟩, g6⟩ := h5
  simp [Cond.before, Cond.holds, Cond.value, h1, h2, h3, h4, g1, g2, g3, g4, g5, g6]
def isCode : Jvm.Cond → Bool
  | .code _ _ _ _ => true
  | _ => false
theorem all_split {L : List Jvm.Cond} {P : Jvm.Cond → Bool} (h1 : L.all (fun c => isCode c || P c) = true) (h2 : ∀ c ∈ L.filter isCode, P c = true) : L.all P = true := by
  refine List.all_eq_true.mpr fun c hc => ?_
  have h := List.all_eq_true.mp h1 c hc
  rcases Bool.eq_false_or_eq_true (isCode c) with hi | hi
  · exact h2 c (List.mem_filter.mpr ⟨hc, hi⟩)
  · simpa [hi] using h
set_option maxRecDepth 65536 in
theorem w_c0 : (Jvm.Cond.code x code maxLocals ret).before args0 about1 = true := code_word (m := ⟨1, 4⟩) (meth := k1m4) (c := k1c4) (by decide +kernel) rfl rfl rfl (by decide +kernel)
set_option maxRecDepth 65536 in
theorem w_c1 : (Jvm.Cond.code ⟨"com/example/covenant/covenant/StateGraph", "<init>", "(I)V"⟩ prog_31_method_1_code 2 none).before args0 about1 = true := code_word (m := ⟨2, 0⟩) (meth := k2m0) (c := k2c0) (by decide +kernel) rfl rfl rfl (by decide +kernel)
set_option maxRecDepth 65536 in
theorem w_c2 : (Jvm.Cond.code ⟨"java/lang/Object", "<init>", "()V"⟩ object_method_1_code 1 none).before args0 about1 = true := code_word (m := ⟨0, 0⟩) (meth := k0m0) (c := k0c0) (by decide +kernel) rfl rfl rfl (by decide +kernel)
set_option maxRecDepth 65536 in
theorem w_c3 : (Jvm.Cond.code ⟨"java/util/LinkedHashMap", "<init>", "()V"⟩ jdk_94_method_16_code 1 none).before args0 about1 = true := code_word (m := ⟨9, 3⟩) (meth := k9m3) (c := k9c3) (by decide +kernel) rfl rfl rfl (by decide +kernel)
set_option maxRecDepth 65536 in
theorem w_c4 : (Jvm.Cond.code ⟨"java/util/HashMap", "<init>", "()V"⟩ jdk_69_method_7_code 1 none).before args0 about1 = true := code_word (m := ⟨7, 1⟩) (meth := k7m1) (c := k7c1) (by decide +kernel) rfl rfl rfl (by decide +kernel)
set_option maxRecDepth 65536 in
theorem w_c5 : (Jvm.Cond.code ⟨"java/util/AbstractMap", "<init>", "()V"⟩ jdk_71_method_1_code 1 none).before args0 about1 = true := code_word (m := ⟨4, 0⟩) (meth := k4m0) (c := k4c0) (by decide +kernel) rfl rfl rfl (by decide +kernel)
set_option maxRecDepth 65536 in
theorem w_c6 : (Jvm.Cond.code ⟨"java/lang/Integer", "valueOf", "(I)Ljava/lang/Integer;"⟩ jdk_33_method_22_code 1 (Option.some (Jvm.ClassFile.FieldType.object "java/lang/Integer"))).before args0 about1 = true := code_word (m := ⟨14, 0⟩) (meth := k14m0) (c := k14c0) (by decide +kernel) rfl rfl rfl (by decide +kernel)
set_option maxRecDepth 65536 in
theorem w_c7 : (Jvm.Cond.code ⟨"com/example/covenant/covenant/StateGraphCompletePinLaw", "allowed", "(I)Ljava/util/ArrayList;"⟩ method_2_code 2 (Option.some (Jvm.ClassFile.FieldType.object "java/util/ArrayList"))).before args0 about1 = true := code_word (m := ⟨1, 1⟩) (meth := k1m1) (c := k1c1) (by decide +kernel) rfl rfl rfl (by decide +kernel)
set_option maxRecDepth 65536 in
theorem w_c8 : (Jvm.Cond.code ⟨"java/util/ArrayList", "<init>", "()V"⟩ jdk_38_method_2_code 1 none).before args0 about1 = true := code_word (m := ⟨23, 0⟩) (meth := k23m0) (c := k23c0) (by decide +kernel) rfl rfl rfl (by decide +kernel)
set_option maxRecDepth 65536 in
theorem w_c9 : (Jvm.Cond.code ⟨"java/util/AbstractList", "<init>", "()V"⟩ jdk_39_method_1_code 1 none).before args0 about1 = true := code_word (m := ⟨21, 0⟩) (meth := k21m0) (c := k21c0) (by decide +kernel) rfl rfl rfl (by decide +kernel)
set_option maxRecDepth 65536 in
theorem w_c10 : (Jvm.Cond.code ⟨"java/util/AbstractCollection", "<init>", "()V"⟩ jdk_22_method_1_code 1 none).before args0 about1 = true := code_word (m := ⟨18, 0⟩) (meth := k18m0) (c := k18c0) (by decide +kernel) rfl rfl rfl (by decide +kernel)
set_option maxRecDepth 65536 in
theorem w_c11 : (Jvm.Cond.code ⟨"com/example/covenant/covenant/StateGraph", "add", "(Ljava/lang/Object;Ljava/util/List;)V"⟩ prog_31_method_3_code 3 none).before args0 about1 = true := code_word (m := ⟨2, 1⟩) (meth := k2m1) (c := k2c1) (by decide +kernel) rfl rfl rfl (by decide +kernel)
set_option maxRecDepth 65536 in
theorem w_c12 : (Jvm.Cond.code ⟨"java/util/List", "copyOf", "(Ljava/util/Collection;)Ljava/util/List;"⟩ jdk_40_method_48_code 1 (Option.some (Jvm.ClassFile.FieldType.object "java/util/List"))).before args0 about1 = true := code_word (m := ⟨20, 3⟩) (meth := k20m3) (c := k20c3) (by decide +kernel) rfl rfl rfl (by decide +kernel)
set_option maxRecDepth 65536 in
theorem w_c13 : (Jvm.Cond.code ⟨"java/util/ImmutableCollections", "listCopy", "(Ljava/util/Collection;)Ljava/util/List;"⟩ jdk_56_method_3_code 2 (Option.some (Jvm.ClassFile.FieldType.object "java/util/List"))).before args0 about1 = true := code_word (m := ⟨25, 1⟩) (meth := k25m1) (c := k25c1) (by decide +kernel) rfl rfl rfl (by decide +kernel)
set_option maxRecDepth 65536 in
theorem w_c14 : (Jvm.Cond.code ⟨"java/util/ArrayList", "isEmpty", "()Z"⟩ jdk_38_method_9_code 1 (Option.some Jvm.ClassFile.FieldType.boolean)).before args0 about1 = true := code_word (m := ⟨23, 4⟩) (meth := k23m4) (c := k23c4) (by decide +kernel) rfl rfl rfl (by decide +kernel)
set_option maxRecDepth 65536 in
theorem w_c15 : (Jvm.Cond.code ⟨"java/util/List", "of", "()Ljava/util/List;"⟩ jdk_40_method_36_code 0 (Option.some (Jvm.ClassFile.FieldType.object "java/util/List"))).before args0 about1 = true := code_word (m := ⟨20, 1⟩) (meth := k20m1) (c := k20c1) (by decide +kernel) rfl rfl rfl (by decide +kernel)
set_option maxRecDepth 65536 in
theorem w_c16 : (Jvm.Cond.code ⟨"com/example/covenant/covenant/StateGraph$Node", "<init>", "(Ljava/util/List;I)V"⟩ prog_34_method_1_code 3 none).before args0 about1 = true := code_word (m := ⟨24, 0⟩) (meth := k24m0) (c := k24c0) (by decide +kernel) rfl rfl rfl (by decide +kernel)
set_option maxRecDepth 65536 in
theorem w_c17 : (Jvm.Cond.code ⟨"java/util/HashMap", "put", "(Ljava/lang/Object;Ljava/lang/Object;)Ljava/lang/Object;"⟩ jdk_69_method_15_code 3 (Option.some (Jvm.ClassFile.FieldType.object "java/lang/Object"))).before args0 about1 = true := code_word (m := ⟨7, 3⟩) (meth := k7m3) (c := k7c3) (by decide +kernel) rfl rfl rfl (by decide +kernel)
set_option maxRecDepth 65536 in
theorem w_c18 : (Jvm.Cond.code ⟨"java/util/HashMap", "hash", "(Ljava/lang/Object;)I"⟩ jdk_69_method_1_code 2 (Option.some Jvm.ClassFile.FieldType.int)).before args0 about1 = true := code_word (m := ⟨7, 0⟩) (meth := k7m0) (c := k7c0) (by decide +kernel) rfl rfl rfl (by decide +kernel)
set_option maxRecDepth 65536 in
theorem w_c19 : (Jvm.Cond.code ⟨"java/lang/Integer", "hashCode", "()I"⟩ jdk_33_method_32_code 1 (Option.some Jvm.ClassFile.FieldType.int)).before args0 about1 = true := code_word (m := ⟨14, 2⟩) (meth := k14m2) (c := k14c2) (by decide +kernel) rfl rfl rfl (by decide +kernel)
set_option maxRecDepth 65536 in
theorem w_c20 : (Jvm.Cond.code ⟨"java/lang/Integer", "hashCode", "(I)I"⟩ jdk_33_method_33_code 1 (Option.some Jvm.ClassFile.FieldType.int)).before args0 about1 = true := code_word (m := ⟨14, 3⟩) (meth := k14m3) (c := k14c3) (by decide +kernel) rfl rfl rfl (by decide +kernel)
set_option maxRecDepth 65536 in
theorem w_c21 : (Jvm.Cond.code ⟨"java/util/HashMap", "putVal", "(ILjava/lang/Object;Ljava/lang/Object;ZZ)Ljava/lang/Object;"⟩ jdk_69_method_16_code 13 (Option.some (Jvm.ClassFile.FieldType.object "java/lang/Object"))).before args0 about1 = true := code_word (m := ⟨7, 4⟩) (meth := k7m4) (c := k7c4) (by decide +kernel) rfl rfl rfl (by decide +kernel)
set_option maxRecDepth 65536 in
theorem w_c22 : (Jvm.Cond.code ⟨"java/util/HashMap", "resize", "()[Ljava/util/HashMap$Node;"⟩ jdk_69_method_17_code 14 (Option.some (Jvm.ClassFile.FieldType.array (Jvm.ClassFile.FieldType.object "java/util/HashMap$Node")))).before args0 about1 = true := code_word (m := ⟨7, 5⟩) (meth := k7m5) (c := k7c5) (by decide +kernel) rfl rfl rfl (by decide +kernel)
set_option maxRecDepth 65536 in
theorem w_c23 : (Jvm.Cond.code ⟨"java/util/LinkedHashMap", "newNode", "(ILjava/lang/Object;Ljava/lang/Object;Ljava/util/HashMap$Node;)Ljava/util/HashMap$Node;"⟩ jdk_94_method_4_code 6 (Option.some (Jvm.ClassFile.FieldType.object "java/util/HashMap$Node"))).before args0 about1 = true := code_word (m := ⟨9, 1⟩) (meth := k9m1) (c := k9c1) (by decide +kernel) rfl rfl rfl (by decide +kernel)
set_option maxRecDepth 65536 in
theorem w_c24 : (Jvm.Cond.code ⟨"java/util/LinkedHashMap$Entry", "<init>", "(ILjava/lang/Object;Ljava/lang/Object;Ljava/util/HashMap$Node;)V"⟩ jdk_83_method_1_code 5 none).before args0 about1 = true := code_word (m := ⟨32, 0⟩) (meth := k32m0) (c := k32c0) (by decide +kernel) rfl rfl rfl (by decide +kernel)
set_option maxRecDepth 65536 in
theorem w_c25 : (Jvm.Cond.code ⟨"java/util/HashMap$Node", "<init>", "(ILjava/lang/Object;Ljava/lang/Object;Ljava/util/HashMap$Node;)V"⟩ jdk_70_method_1_code 5 none).before args0 about1 = true := code_word (m := ⟨31, 0⟩) (meth := k31m0) (c := k31c0) (by decide +kernel) rfl rfl rfl (by decide +kernel)
set_option maxRecDepth 65536 in
theorem w_c26 : (Jvm.Cond.code ⟨"java/util/LinkedHashMap", "linkNodeAtEnd", "(Ljava/util/LinkedHashMap$Entry;)V"⟩ jdk_94_method_1_code 3 none).before args0 about1 = true := code_word (m := ⟨9, 0⟩) (meth := k9m0) (c := k9c0) (by decide +kernel) rfl rfl rfl (by decide +kernel)
set_option maxRecDepth 65536 in
theorem w_c27 : (Jvm.Cond.code ⟨"java/util/LinkedHashMap", "afterNodeInsertion", "(Z)V"⟩ jdk_94_method_9_code 4 none).before args0 about1 = true := code_word (m := ⟨9, 2⟩) (meth := k9m2) (c := k9c2) (by decide +kernel) rfl rfl rfl (by decide +kernel)
set_option maxRecDepth 65536 in
theorem w_c28 : (Jvm.Cond.code ⟨"java/util/LinkedHashMap", "removeEldestEntry", "(Ljava/util/Map$Entry;)Z"⟩ jdk_94_method_23_code 2 (Option.some Jvm.ClassFile.FieldType.boolean)).before args0 about1 = true := code_word (m := ⟨9, 5⟩) (meth := k9m5) (c := k9c5) (by decide +kernel) rfl rfl rfl (by decide +kernel)
set_option maxRecDepth 65536 in
theorem w_c29 : (Jvm.Cond.code ⟨"java/util/ArrayList", "size", "()I"⟩ jdk_38_method_8_code 1 (Option.some Jvm.ClassFile.FieldType.int)).before args0 about1 = true := code_word (m := ⟨23, 3⟩) (meth := k23m3) (c := k23c3) (by decide +kernel) rfl rfl rfl (by decide +kernel)
set_option maxRecDepth 65536 in
theorem w_c30 : (Jvm.Cond.code ⟨"com/example/covenant/covenant/StateGraph", "complete", "()Z"⟩ prog_31_method_8_code 1 (Option.some Jvm.ClassFile.FieldType.boolean)).before args0 about1 = true := code_word (m := ⟨2, 3⟩) (meth := k2m3) (c := k2c3) (by decide +kernel) rfl rfl rfl (by decide +kernel)
set_option maxRecDepth 65536 in
theorem w_c31 : (Jvm.Cond.code ⟨"com/example/covenant/covenant/StateGraphCompletePinLaw", "step", "(Lcom/example/covenant/covenant/StateGraph;IZIII)I"⟩ method_4_code 8 (Option.some Jvm.ClassFile.FieldType.int)).before args0 about1 = true := code_word (m := ⟨1, 3⟩) (meth := k1m3) (c := k1c3) (by decide +kernel) rfl rfl rfl (by decide +kernel)
set_option maxRecDepth 65536 in
theorem w_c32 : (Jvm.Cond.code ⟨"java/util/ArrayList", "add", "(Ljava/lang/Object;)Z"⟩ jdk_38_method_25_code 2 (Option.some Jvm.ClassFile.FieldType.boolean)).before args0 about1 = true := code_word (m := ⟨23, 7⟩) (meth := k23m7) (c := k23c7) (by decide +kernel) rfl rfl rfl (by decide +kernel)
set_option maxRecDepth 65536 in
theorem w_c33 : (Jvm.Cond.code ⟨"java/util/ArrayList", "add", "(Ljava/lang/Object;[Ljava/lang/Object;I)V"⟩ jdk_38_method_24_code 4 none).before args0 about1 = true := code_word (m := ⟨23, 6⟩) (meth := k23m6) (c := k23c6) (by decide +kernel) rfl rfl rfl (by decide +kernel)
set_option maxRecDepth 65536 in
theorem w_c34 : (Jvm.Cond.code ⟨"java/util/ArrayList", "grow", "()[Ljava/lang/Object;"⟩ jdk_38_method_7_code 1 (Option.some (Jvm.ClassFile.FieldType.array (Jvm.ClassFile.FieldType.object "java/lang/Object")))).before args0 about1 = true := code_word (m := ⟨23, 2⟩) (meth := k23m2) (c := k23c2) (by decide +kernel) rfl rfl rfl (by decide +kernel)
set_option maxRecDepth 65536 in
theorem w_c35 : (Jvm.Cond.code ⟨"java/util/ArrayList", "grow", "(I)[Ljava/lang/Object;"⟩ jdk_38_method_6_code 4 (Option.some (Jvm.ClassFile.FieldType.array (Jvm.ClassFile.FieldType.object "java/lang/Object")))).before args0 about1 = true := code_word (m := ⟨23, 1⟩) (meth := k23m1) (c := k23c1) (by decide +kernel) rfl rfl rfl (by decide +kernel)
set_option maxRecDepth 65536 in
theorem w_c36 : (Jvm.Cond.code ⟨"java/lang/Math", "max", "(II)I"⟩ jdk_29_method_65_code 2 (Option.some Jvm.ClassFile.FieldType.int)).before args0 about1 = true := code_word (m := ⟨33, 1⟩) (meth := k33m1) (c := k33c1) (by decide +kernel) rfl rfl rfl (by decide +kernel)
set_option maxRecDepth 65536 in
theorem w_c37 : (Jvm.Cond.code ⟨"java/util/ArrayList", "toArray", "()[Ljava/lang/Object;"⟩ jdk_38_method_16_code 1 (Option.some (Jvm.ClassFile.FieldType.array (Jvm.ClassFile.FieldType.object "java/lang/Object")))).before args0 about1 = true := code_word (m := ⟨23, 5⟩) (meth := k23m5) (c := k23c5) (by decide +kernel) rfl rfl rfl (by decide +kernel)
set_option maxRecDepth 65536 in
theorem w_c38 : (Jvm.Cond.code ⟨"java/util/Arrays", "copyOf", "([Ljava/lang/Object;I)[Ljava/lang/Object;"⟩ jdk_65_method_119_code 2 (Option.some (Jvm.ClassFile.FieldType.array (Jvm.ClassFile.FieldType.object "java/lang/Object")))).before args0 about1 = true := code_word (m := ⟨34, 1⟩) (meth := k34m1) (c := k34c1) (by decide +kernel) rfl rfl rfl (by decide +kernel)
set_option maxRecDepth 65536 in
theorem w_c39 : (Jvm.Cond.code ⟨"java/util/Arrays", "copyOf", "([Ljava/lang/Object;ILjava/lang/Class;)[Ljava/lang/Object;"⟩ jdk_65_method_120_code 4 (Option.some (Jvm.ClassFile.FieldType.array (Jvm.ClassFile.FieldType.object "java/lang/Object")))).before args0 about1 = true := code_word (m := ⟨34, 2⟩) (meth := k34m2) (c := k34c2) (by decide +kernel) rfl rfl rfl (by decide +kernel)
set_option maxRecDepth 65536 in
theorem w_c40 : (Jvm.Cond.code ⟨"java/lang/Math", "min", "(II)I"⟩ jdk_29_method_69_code 2 (Option.some Jvm.ClassFile.FieldType.int)).before args0 about1 = true := code_word (m := ⟨33, 2⟩) (meth := k33m2) (c := k33c2) (by decide +kernel) rfl rfl rfl (by decide +kernel)
set_option maxRecDepth 65536 in
theorem w_c41 : (Jvm.Cond.code ⟨"java/util/List", "of", "([Ljava/lang/Object;)Ljava/util/List;"⟩ jdk_40_method_47_code 2 (Option.some (Jvm.ClassFile.FieldType.object "java/util/List"))).before args0 about1 = true := code_word (m := ⟨20, 2⟩) (meth := k20m2) (c := k20c2) (by decide +kernel) rfl rfl rfl (by decide +kernel)
set_option maxRecDepth 65536 in
theorem w_c42 : (Jvm.Cond.code ⟨"java/util/ImmutableCollections$List12", "<init>", "(Ljava/lang/Object;)V"⟩ jdk_44_method_1_code 2 none).before args0 about1 = true := code_word (m := ⟨28, 0⟩) (meth := k28m0) (c := k28c0) (by decide +kernel) rfl rfl rfl (by decide +kernel)
set_option maxRecDepth 65536 in
theorem w_c43 : (Jvm.Cond.code ⟨"java/util/ImmutableCollections$AbstractImmutableList", "<init>", "()V"⟩ jdk_46_method_1_code 1 none).before args0 about1 = true := code_word (m := ⟨27, 0⟩) (meth := k27m0) (c := k27c0) (by decide +kernel) rfl rfl rfl (by decide +kernel)
set_option maxRecDepth 65536 in
theorem w_c44 : (Jvm.Cond.code ⟨"java/util/ImmutableCollections$AbstractImmutableCollection", "<init>", "()V"⟩ jdk_47_method_1_code 1 none).before args0 about1 = true := code_word (m := ⟨26, 0⟩) (meth := k26m0) (c := k26c0) (by decide +kernel) rfl rfl rfl (by decide +kernel)
set_option maxRecDepth 65536 in
theorem w_c45 : (Jvm.Cond.code ⟨"java/util/Objects", "requireNonNull", "(Ljava/lang/Object;)Ljava/lang/Object;"⟩ jdk_31_method_10_code 1 (Option.some (Jvm.ClassFile.FieldType.object "java/lang/Object"))).before args0 about1 = true := code_word (m := ⟨36, 2⟩) (meth := k36m2) (c := k36c2) (by decide +kernel) rfl rfl rfl (by decide +kernel)
set_option maxRecDepth 65536 in
theorem w_c46 : (Jvm.Cond.code ⟨"com/example/covenant/covenant/StateGraphCompletePinLaw", "target", "(I)Ljava/lang/Integer;"⟩ method_3_code 2 (Option.some (Jvm.ClassFile.FieldType.object "java/lang/Integer"))).before args0 about1 = true := code_word (m := ⟨1, 2⟩) (meth := k1m2) (c := k1c2) (by decide +kernel) rfl rfl rfl (by decide +kernel)
set_option maxRecDepth 65536 in
theorem w_c47 : (Jvm.Cond.code ⟨"com/example/covenant/covenant/StateGraph", "take", "(Ljava/lang/Object;ILjava/lang/Object;)Z"⟩ prog_31_method_7_code 5 (Option.some Jvm.ClassFile.FieldType.boolean)).before args0 about1 = true := code_word (m := ⟨2, 2⟩) (meth := k2m2) (c := k2c2) (by decide +kernel) rfl rfl rfl (by decide +kernel)
set_option maxRecDepth 65536 in
theorem w_c48 : (Jvm.Cond.code ⟨"com/example/covenant/covenant/StateGraph", "node", "(Ljava/lang/Object;)Lcom/example/covenant/covenant/StateGraph$Node;"⟩ prog_31_method_15_code 3 (Option.some (Jvm.ClassFile.FieldType.object "com/example/covenant/covenant/StateGraph$Node"))).before args0 about1 = true := code_word (m := ⟨2, 4⟩) (meth := k2m4) (c := k2c4) (by decide +kernel) rfl rfl rfl (by decide +kernel)
set_option maxRecDepth 65536 in
theorem w_c49 : (Jvm.Cond.code ⟨"java/util/LinkedHashMap", "get", "(Ljava/lang/Object;)Ljava/lang/Object;"⟩ jdk_94_method_20_code 3 (Option.some (Jvm.ClassFile.FieldType.object "java/lang/Object"))).before args0 about1 = true := code_word (m := ⟨9, 4⟩) (meth := k9m4) (c := k9c4) (by decide +kernel) rfl rfl rfl (by decide +kernel)
set_option maxRecDepth 65536 in
theorem w_c50 : (Jvm.Cond.code ⟨"java/util/HashMap", "getNode", "(Ljava/lang/Object;)Ljava/util/HashMap$Node;"⟩ jdk_69_method_13_code 8 (Option.some (Jvm.ClassFile.FieldType.object "java/util/HashMap$Node"))).before args0 about1 = true := code_word (m := ⟨7, 2⟩) (meth := k7m2) (c := k7c2) (by decide +kernel) rfl rfl rfl (by decide +kernel)
set_option maxRecDepth 65536 in
theorem w_c51 : (Jvm.Cond.code ⟨"com/example/covenant/covenant/StateGraph$Node", "isTaken", "(I)Z"⟩ prog_34_method_2_code 2 (Option.some Jvm.ClassFile.FieldType.boolean)).before args0 about1 = true := code_word (m := ⟨24, 1⟩) (meth := k24m1) (c := k24c1) (by decide +kernel) rfl rfl rfl (by decide +kernel)
set_option maxRecDepth 65536 in
theorem w_c52 : (Jvm.Cond.code ⟨"java/util/Objects", "equals", "(Ljava/lang/Object;Ljava/lang/Object;)Z"⟩ jdk_31_method_2_code 2 (Option.some Jvm.ClassFile.FieldType.boolean)).before args0 about1 = true := code_word (m := ⟨36, 1⟩) (meth := k36m1) (c := k36c1) (by decide +kernel) rfl rfl rfl (by decide +kernel)
set_option maxRecDepth 65536 in
theorem w_c53 : (Jvm.Cond.code ⟨"com/example/covenant/covenant/StateGraph$Node", "next", "(I)Ljava/lang/Object;"⟩ prog_34_method_3_code 2 (Option.some (Jvm.ClassFile.FieldType.object "java/lang/Object"))).before args0 about1 = true := code_word (m := ⟨24, 2⟩) (meth := k24m2) (c := k24c2) (by decide +kernel) rfl rfl rfl (by decide +kernel)
set_option maxRecDepth 65536 in
theorem w_c54 : (Jvm.Cond.code ⟨"java/util/ImmutableCollections", "listFromArray", "([Ljava/lang/Object;)Ljava/util/List;"⟩ jdk_56_method_4_code 3 (Option.some (Jvm.ClassFile.FieldType.object "java/util/List"))).before args0 about1 = true := code_word (m := ⟨25, 2⟩) (meth := k25m2) (c := k25c2) (by decide +kernel) rfl rfl rfl (by decide +kernel)
set_option maxRecDepth 65536 in
theorem w_c55 : (Jvm.Cond.code ⟨"java/util/ImmutableCollections$ListN", "<init>", "([Ljava/lang/Object;Z)V"⟩ jdk_45_method_1_code 3 none).before args0 about1 = true := code_word (m := ⟨29, 0⟩) (meth := k29m0) (c := k29c0) (by decide +kernel) rfl rfl rfl (by decide +kernel)
set_option maxRecDepth 65536 in
theorem w_c56 : (Jvm.Cond.code ⟨"java/lang/Integer", "equals", "(Ljava/lang/Object;)Z"⟩ jdk_33_method_34_code 2 (Option.some Jvm.ClassFile.FieldType.boolean)).before args0 about1 = true := code_word (m := ⟨14, 4⟩) (meth := k14m4) (c := k14c4) (by decide +kernel) rfl rfl rfl (by decide +kernel)
set_option maxRecDepth 65536 in
theorem w_c57 : (Jvm.Cond.code ⟨"java/util/ImmutableCollections$List12", "<init>", "(Ljava/lang/Object;Ljava/lang/Object;)V"⟩ jdk_44_method_2_code 3 none).before args0 about1 = true := code_word (m := ⟨28, 1⟩) (meth := k28m1) (c := k28c1) (by decide +kernel) rfl rfl rfl (by decide +kernel)
set_option maxRecDepth 65536 in
theorem w_c58 : (Jvm.Cond.code ⟨"java/lang/Integer", "intValue", "()I"⟩ jdk_33_method_27_code 1 (Option.some Jvm.ClassFile.FieldType.int)).before args0 about1 = true := code_word (m := ⟨14, 1⟩) (meth := k14m1) (c := k14c1) (by decide +kernel) rfl rfl rfl (by decide +kernel)
def codes1 : List Jvm.Cond := [Jvm.Cond.code x code maxLocals ret, Jvm.Cond.code ⟨"com/example/covenant/covenant/StateGraph", "<init>", "(I)V"⟩ prog_31_method_1_code 2 none, Jvm.Cond.code ⟨"java/lang/Object", "<init>", "()V"⟩ object_method_1_code 1 none, Jvm.Cond.code ⟨"java/util/LinkedHashMap", "<init>", "()V"⟩ jdk_94_method_16_code 1 none, Jvm.Cond.code ⟨"java/util/HashMap", "<init>", "()V"⟩ jdk_69_method_7_code 1 none, Jvm.Cond.code ⟨"java/util/AbstractMap", "<init>", "()V"⟩ jdk_71_method_1_code 1 none, Jvm.Cond.code ⟨"java/lang/Integer", "valueOf", "(I)Ljava/lang/Integer;"⟩ jdk_33_method_22_code 1 (Option.some (Jvm.ClassFile.FieldType.object "java/lang/Integer")), Jvm.Cond.code ⟨"com/example/covenant/covenant/StateGraphCompletePinLaw", "allowed", "(I)Ljava/util/ArrayList;"⟩ method_2_code 2 (Option.some (Jvm.ClassFile.FieldType.object "java/util/ArrayList")), Jvm.Cond.code ⟨"java/util/ArrayList", "<init>", "()V"⟩ jdk_38_method_2_code 1 none, Jvm.Cond.code ⟨"java/util/AbstractList", "<init>", "()V"⟩ jdk_39_method_1_code 1 none, Jvm.Cond.code ⟨"java/util/AbstractCollection", "<init>", "()V"⟩ jdk_22_method_1_code 1 none, Jvm.Cond.code ⟨"com/example/covenant/covenant/StateGraph", "add", "(Ljava/lang/Object;Ljava/util/List;)V"⟩ prog_31_method_3_code 3 none, Jvm.Cond.code ⟨"java/util/List", "copyOf", "(Ljava/util/Collection;)Ljava/util/List;"⟩ jdk_40_method_48_code 1 (Option.some (Jvm.ClassFile.FieldType.object "java/util/List")), Jvm.Cond.code ⟨"java/util/ImmutableCollections", "listCopy", "(Ljava/util/Collection;)Ljava/util/List;"⟩ jdk_56_method_3_code 2 (Option.some (Jvm.ClassFile.FieldType.object "java/util/List")), Jvm.Cond.code ⟨"java/util/ArrayList", "isEmpty", "()Z"⟩ jdk_38_method_9_code 1 (Option.some Jvm.ClassFile.FieldType.boolean), Jvm.Cond.code ⟨"java/util/List", "of", "()Ljava/util/List;"⟩ jdk_40_method_36_code 0 (Option.some (Jvm.ClassFile.FieldType.object "java/util/List")), Jvm.Cond.code ⟨"com/example/covenant/covenant/StateGraph$Node", "<init>", "(Ljava/util/List;I)V"⟩ prog_34_method_1_code 3 none, Jvm.Cond.code ⟨"java/util/HashMap", "put", "(Ljava/lang/Object;Ljava/lang/Object;)Ljava/lang/Object;"⟩ jdk_69_method_15_code 3 (Option.some (Jvm.ClassFile.FieldType.object "java/lang/Object")), Jvm.Cond.code ⟨"java/util/HashMap", "hash", "(Ljava/lang/Object;)I"⟩ jdk_69_method_1_code 2 (Option.some Jvm.ClassFile.FieldType.int), Jvm.Cond.code ⟨"java/lang/Integer", "hashCode", "()I"⟩ jdk_33_method_32_code 1 (Option.some Jvm.ClassFile.FieldType.int), Jvm.Cond.code ⟨"java/lang/Integer", "hashCode", "(I)I"⟩ jdk_33_method_33_code 1 (Option.some Jvm.ClassFile.FieldType.int), Jvm.Cond.code ⟨"java/util/HashMap", "putVal", "(ILjava/lang/Object;Ljava/lang/Object;ZZ)Ljava/lang/Object;"⟩ jdk_69_method_16_code 13 (Option.some (Jvm.ClassFile.FieldType.object "java/lang/Object")), Jvm.Cond.code ⟨"java/util/HashMap", "resize", "()[Ljava/util/HashMap$Node;"⟩ jdk_69_method_17_code 14 (Option.some (Jvm.ClassFile.FieldType.array (Jvm.ClassFile.FieldType.object "java/util/HashMap$Node"))), Jvm.Cond.code ⟨"java/util/LinkedHashMap", "newNode", "(ILjava/lang/Object;Ljava/lang/Object;Ljava/util/HashMap$Node;)Ljava/util/HashMap$Node;"⟩ jdk_94_method_4_code 6 (Option.some (Jvm.ClassFile.FieldType.object "java/util/HashMap$Node")), Jvm.Cond.code ⟨"java/util/LinkedHashMap$Entry", "<init>", "(ILjava/lang/Object;Ljava/lang/Object;Ljava/util/HashMap$Node;)V"⟩ jdk_83_method_1_code 5 none, Jvm.Cond.code ⟨"java/util/HashMap$Node", "<init>", "(ILjava/lang/Object;Ljava/lang/Object;Ljava/util/HashMap$Node;)V"⟩ jdk_70_method_1_code 5 none, Jvm.Cond.code ⟨"java/util/LinkedHashMap", "linkNodeAtEnd", "(Ljava/util/LinkedHashMap$Entry;)V"⟩ jdk_94_method_1_code 3 none, Jvm.Cond.code ⟨"java/util/LinkedHashMap", "afterNodeInsertion", "(Z)V"⟩ jdk_94_method_9_code 4 none, Jvm.Cond.code ⟨"java/util/LinkedHashMap", "removeEldestEntry", "(Ljava/util/Map$Entry;)Z"⟩ jdk_94_method_23_code 2 (Option.some Jvm.ClassFile.FieldType.boolean), Jvm.Cond.code ⟨"java/util/ArrayList", "size", "()I"⟩ jdk_38_method_8_code 1 (Option.some Jvm.ClassFile.FieldType.int), Jvm.Cond.code ⟨"com/example/covenant/covenant/StateGraph", "complete", "()Z"⟩ prog_31_method_8_code 1 (Option.some Jvm.ClassFile.FieldType.boolean), Jvm.Cond.code ⟨"com/example/covenant/covenant/StateGraphCompletePinLaw", "step", "(Lcom/example/covenant/covenant/StateGraph;IZIII)I"⟩ method_4_code 8 (Option.some Jvm.ClassFile.FieldType.int), Jvm.Cond.code ⟨"java/util/ArrayList", "add", "(Ljava/lang/Object;)Z"⟩ jdk_38_method_25_code 2 (Option.some Jvm.ClassFile.FieldType.boolean), Jvm.Cond.code ⟨"java/util/ArrayList", "add", "(Ljava/lang/Object;[Ljava/lang/Object;I)V"⟩ jdk_38_method_24_code 4 none, Jvm.Cond.code ⟨"java/util/ArrayList", "grow", "()[Ljava/lang/Object;"⟩ jdk_38_method_7_code 1 (Option.some (Jvm.ClassFile.FieldType.array (Jvm.ClassFile.FieldType.object "java/lang/Object"))), Jvm.Cond.code ⟨"java/util/ArrayList", "grow", "(I)[Ljava/lang/Object;"⟩ jdk_38_method_6_code 4 (Option.some (Jvm.ClassFile.FieldType.array (Jvm.ClassFile.FieldType.object "java/lang/Object"))), Jvm.Cond.code ⟨"java/lang/Math", "max", "(II)I"⟩ jdk_29_method_65_code 2 (Option.some Jvm.ClassFile.FieldType.int), Jvm.Cond.code ⟨"java/util/ArrayList", "toArray", "()[Ljava/lang/Object;"⟩ jdk_38_method_16_code 1 (Option.some (Jvm.ClassFile.FieldType.array (Jvm.ClassFile.FieldType.object "java/lang/Object"))), Jvm.Cond.code ⟨"java/util/Arrays", "copyOf", "([Ljava/lang/Object;I)[Ljava/lang/Object;"⟩ jdk_65_method_119_code 2 (Option.some (Jvm.ClassFile.FieldType.array (Jvm.ClassFile.FieldType.object "java/lang/Object"))), Jvm.Cond.code ⟨"java/util/Arrays", "copyOf", "([Ljava/lang/Object;ILjava/lang/Class;)[Ljava/lang/Object;"⟩ jdk_65_method_120_code 4 (Option.some (Jvm.ClassFile.FieldType.array (Jvm.ClassFile.FieldType.object "java/lang/Object"))), Jvm.Cond.code ⟨"java/lang/Math", "min", "(II)I"⟩ jdk_29_method_69_code 2 (Option.some Jvm.ClassFile.FieldType.int), Jvm.Cond.code ⟨"java/util/List", "of", "([Ljava/lang/Object;)Ljava/util/List;"⟩ jdk_40_method_47_code 2 (Option.some (Jvm.ClassFile.FieldType.object "java/util/List")), Jvm.Cond.code ⟨"java/util/ImmutableCollections$List12", "<init>", "(Ljava/lang/Object;)V"⟩ jdk_44_method_1_code 2 none, Jvm.Cond.code ⟨"java/util/ImmutableCollections$AbstractImmutableList", "<init>", "()V"⟩ jdk_46_method_1_code 1 none, Jvm.Cond.code ⟨"java/util/ImmutableCollections$AbstractImmutableCollection", "<init>", "()V"⟩ jdk_47_method_1_code 1 none, Jvm.Cond.code ⟨"java/util/Objects", "requireNonNull", "(Ljava/lang/Object;)Ljava/lang/Object;"⟩ jdk_31_method_10_code 1 (Option.some (Jvm.ClassFile.FieldType.object "java/lang/Object")), Jvm.Cond.code ⟨"com/example/covenant/covenant/StateGraphCompletePinLaw", "target", "(I)Ljava/lang/Integer;"⟩ method_3_code 2 (Option.some (Jvm.ClassFile.FieldType.object "java/lang/Integer")), Jvm.Cond.code ⟨"com/example/covenant/covenant/StateGraph", "take", "(Ljava/lang/Object;ILjava/lang/Object;)Z"⟩ prog_31_method_7_code 5 (Option.some Jvm.ClassFile.FieldType.boolean), Jvm.Cond.code ⟨"com/example/covenant/covenant/StateGraph", "node", "(Ljava/lang/Object;)Lcom/example/covenant/covenant/StateGraph$Node;"⟩ prog_31_method_15_code 3 (Option.some (Jvm.ClassFile.FieldType.object "com/example/covenant/covenant/StateGraph$Node")), Jvm.Cond.code ⟨"java/util/LinkedHashMap", "get", "(Ljava/lang/Object;)Ljava/lang/Object;"⟩ jdk_94_method_20_code 3 (Option.some (Jvm.ClassFile.FieldType.object "java/lang/Object")), Jvm.Cond.code ⟨"java/util/HashMap", "getNode", "(Ljava/lang/Object;)Ljava/util/HashMap$Node;"⟩ jdk_69_method_13_code 8 (Option.some (Jvm.ClassFile.FieldType.object "java/util/HashMap$Node")), Jvm.Cond.code ⟨"com/example/covenant/covenant/StateGraph$Node", "isTaken", "(I)Z"⟩ prog_34_method_2_code 2 (Option.some Jvm.ClassFile.FieldType.boolean), Jvm.Cond.code ⟨"java/util/Objects", "equals", "(Ljava/lang/Object;Ljava/lang/Object;)Z"⟩ jdk_31_method_2_code 2 (Option.some Jvm.ClassFile.FieldType.boolean), Jvm.Cond.code ⟨"com/example/covenant/covenant/StateGraph$Node", "next", "(I)Ljava/lang/Object;"⟩ prog_34_method_3_code 2 (Option.some (Jvm.ClassFile.FieldType.object "java/lang/Object")), Jvm.Cond.code ⟨"java/util/ImmutableCollections", "listFromArray", "([Ljava/lang/Object;)Ljava/util/List;"⟩ jdk_56_method_4_code 3 (Option.some (Jvm.ClassFile.FieldType.object "java/util/List")), Jvm.Cond.code ⟨"java/util/ImmutableCollections$ListN", "<init>", "([Ljava/lang/Object;Z)V"⟩ jdk_45_method_1_code 3 none, Jvm.Cond.code ⟨"java/lang/Integer", "equals", "(Ljava/lang/Object;)Z"⟩ jdk_33_method_34_code 2 (Option.some Jvm.ClassFile.FieldType.boolean), Jvm.Cond.code ⟨"java/util/ImmutableCollections$List12", "<init>", "(Ljava/lang/Object;Ljava/lang/Object;)V"⟩ jdk_44_method_2_code 3 none, Jvm.Cond.code ⟨"java/lang/Integer", "intValue", "()I"⟩ jdk_33_method_27_code 1 (Option.some Jvm.ClassFile.FieldType.int)]
set_option maxRecDepth 65536 in
theorem codes_eq : words1.filter isCode = codes1 := rfl
theorem w_codes : ∀ c ∈ words1.filter isCode, c.before args0 about1 = true := by
  rw [codes_eq]
  intro c hc
  simp only [codes1, List.mem_cons, List.not_mem_nil, or_false] at hc
  rcases hc with rfl | rfl | rfl | rfl | rfl | rfl | rfl | rfl | rfl | rfl | rfl | rfl | rfl | rfl | rfl | rfl | rfl | rfl | rfl | rfl | rfl | rfl | rfl | rfl | rfl | rfl | rfl | rfl | rfl | rfl | rfl | rfl | rfl | rfl | rfl | rfl | rfl | rfl | rfl | rfl | rfl | rfl | rfl | rfl | rfl | rfl | rfl | rfl | rfl | rfl | rfl | rfl | rfl | rfl | rfl | rfl | rfl | rfl | rfl
  · exact w_c0
  · exact w_c1
  · exact w_c2
  · exact w_c3
  · exact w_c4
  · exact w_c5
  · exact w_c6
  · exact w_c7
  · exact w_c8
  · exact w_c9
  · exact w_c10
  · exact w_c11
  · exact w_c12
  · exact w_c13
  · exact w_c14
  · exact w_c15
  · exact w_c16
  · exact w_c17
  · exact w_c18
  · exact w_c19
  · exact w_c20
  · exact w_c21
  · exact w_c22
  · exact w_c23
  · exact w_c24
  · exact w_c25
  · exact w_c26
  · exact w_c27
  · exact w_c28
  · exact w_c29
  · exact w_c30
  · exact w_c31
  · exact w_c32
  · exact w_c33
  · exact w_c34
  · exact w_c35
  · exact w_c36
  · exact w_c37
  · exact w_c38
  · exact w_c39
  · exact w_c40
  · exact w_c41
  · exact w_c42
  · exact w_c43
  · exact w_c44
  · exact w_c45
  · exact w_c46
  · exact w_c47
  · exact w_c48
  · exact w_c49
  · exact w_c50
  · exact w_c51
  · exact w_c52
  · exact w_c53
  · exact w_c54
  · exact w_c55
  · exact w_c56
  · exact w_c57
  · exact w_c58
set_option maxRecDepth 65536 in
theorem w_t1 : (words1.take 24).all (fun c => isCode c || c.before args0 about1) = true := by decide +kernel
set_option maxRecDepth 65536 in
theorem w_t2 : ((words1.drop 24).take 24).all (fun c => isCode c || c.before args0 about1) = true := by decide +kernel
set_option maxRecDepth 65536 in
theorem w_t3 : (((words1.drop 24).drop 24).take 24).all (fun c => isCode c || c.before args0 about1) = true := by decide +kernel
set_option maxRecDepth 65536 in
theorem w_t4 : ((((words1.drop 24).drop 24).drop 24).take 24).all (fun c => isCode c || c.before args0 about1) = true := by decide +kernel
set_option maxRecDepth 65536 in
theorem w_t5 : (((((words1.drop 24).drop 24).drop 24).drop 24).take 24).all (fun c => isCode c || c.before args0 about1) = true := by decide +kernel
set_option maxRecDepth 65536 in
theorem w_t6 : ((((((words1.drop 24).drop 24).drop 24).drop 24).drop 24).take 24).all (fun c => isCode c || c.before args0 about1) = true := by decide +kernel
set_option maxRecDepth 65536 in
theorem w_t7 : (((((((words1.drop 24).drop 24).drop 24).drop 24).drop 24).drop 24).take 24).all (fun c => isCode c || c.before args0 about1) = true := by decide +kernel
set_option maxRecDepth 65536 in
theorem w_t8 : ((((((((words1.drop 24).drop 24).drop 24).drop 24).drop 24).drop 24).drop 24).take 24).all (fun c => isCode c || c.before args0 about1) = true := by decide +kernel
set_option maxRecDepth 65536 in
theorem w_t9 : (((((((((words1.drop 24).drop 24).drop 24).drop 24).drop 24).drop 24).drop 24).drop 24).take 24).all (fun c => isCode c || c.before args0 about1) = true := by decide +kernel
set_option maxRecDepth 65536 in
theorem w_t10 : ((((((((((words1.drop 24).drop 24).drop 24).drop 24).drop 24).drop 24).drop 24).drop 24).drop 24).take 24).all (fun c => isCode c || c.before args0 about1) = true := by decide +kernel
set_option maxRecDepth 65536 in
theorem w_t11 : (((((((((((words1.drop 24).drop 24).drop 24).drop 24).drop 24).drop 24).drop 24).drop 24).drop 24).drop 24).take 24).all (fun c => isCode c || c.before args0 about1) = true := by decide +kernel
set_option maxRecDepth 65536 in
theorem w_t12 : ((((((((((((words1.drop 24).drop 24).drop 24).drop 24).drop 24).drop 24).drop 24).drop 24).drop 24).drop 24).drop 24).take 24).all (fun c => isCode c || c.before args0 about1) = true := by decide +kernel
set_option maxRecDepth 65536 in
theorem w_t13 : (((((((((((((words1.drop 24).drop 24).drop 24).drop 24).drop 24).drop 24).drop 24).drop 24).drop 24).drop 24).drop 24).drop 24).take 24).all (fun c => isCode c || c.before args0 about1) = true := by decide +kernel
set_option maxRecDepth 65536 in
theorem w_t14 : ((((((((((((((words1.drop 24).drop 24).drop 24).drop 24).drop 24).drop 24).drop 24).drop 24).drop 24).drop 24).drop 24).drop 24).drop 24).take 24).all (fun c => isCode c || c.before args0 about1) = true := by decide +kernel
set_option maxRecDepth 65536 in
theorem w_t15 : (((((((((((((((words1.drop 24).drop 24).drop 24).drop 24).drop 24).drop 24).drop 24).drop 24).drop 24).drop 24).drop 24).drop 24).drop 24).drop 24).take 24).all (fun c => isCode c || c.before args0 about1) = true := by decide +kernel
set_option maxRecDepth 65536 in
theorem w_t16 : ((((((((((((((((words1.drop 24).drop 24).drop 24).drop 24).drop 24).drop 24).drop 24).drop 24).drop 24).drop 24).drop 24).drop 24).drop 24).drop 24).drop 24).take 24).all (fun c => isCode c || c.before args0 about1) = true := by decide +kernel
set_option maxRecDepth 65536 in
theorem w_t17 : (((((((((((((((((words1.drop 24).drop 24).drop 24).drop 24).drop 24).drop 24).drop 24).drop 24).drop 24).drop 24).drop 24).drop 24).drop 24).drop 24).drop 24).drop 24).take 24).all (fun c => isCode c || c.before args0 about1) = true := by decide +kernel
set_option maxRecDepth 65536 in
theorem w_t18 : (((((((((((((((((words1.drop 24).drop 24).drop 24).drop 24).drop 24).drop 24).drop 24).drop 24).drop 24).drop 24).drop 24).drop 24).drop 24).drop 24).drop 24).drop 24).drop 24).all (fun c => isCode c || c.before args0 about1) = true := by decide +kernel
theorem w_tables : (allAtoms (Jvm.Cond.code x code maxLocals ret :: tables_1)).before args0 about1 = true := by
  rw [allAtoms_all]
  show words1.all (fun c => c.before args0 about1) = true
  refine all_split ?_ w_codes
  rw [← List.take_append_drop 24 words1, List.all_append, w_t1, ← List.take_append_drop 24 (words1.drop 24), List.all_append, w_t2, ← List.take_append_drop 24 ((words1.drop 24).drop 24), List.all_append, w_t3, ← List.take_append_drop 24 (((words1.drop 24).drop 24).drop 24), List.all_append, w_t4, ← List.take_append_drop 24 ((((words1.drop 24).drop 24).drop 24).drop 24), List.all_append, w_t5, ← List.take_append_drop 24 (((((words1.drop 24).drop 24).drop 24).drop 24).drop 24), List.all_append, w_t6, ← List.take_append_drop 24 ((((((words1.drop 24).drop 24).drop 24).drop 24).drop 24).drop 24), List.all_append, w_t7, ← List.take_append_drop 24 (((((((words1.drop 24).drop 24).drop 24).drop 24).drop 24).drop 24).drop 24), List.all_append, w_t8, ← List.take_append_drop 24 ((((((((words1.drop 24).drop 24).drop 24).drop 24).drop 24).drop 24).drop 24).drop 24), List.all_append, w_t9, ← List.take_append_drop 24 (((((((((words1.drop 24).drop 24).drop 24).drop 24).drop 24).drop 24).drop 24).drop 24).drop 24), List.all_append, w_t10, ← List.take_append_drop 24 ((((((((((words1.drop 24).drop 24).drop 24).drop 24).drop 24).drop 24).drop 24).drop 24).drop 24).drop 24), List.all_append, w_t11, ← List.take_append_drop 24 (((((((((((words1.drop 24).drop 24).drop 24).drop 24).drop 24).drop 24).drop 24).drop 24).drop 24).drop 24).drop 24), List.all_append, w_t12, ← List.take_append_drop 24 ((((((((((((words1.drop 24).drop 24).drop 24).drop 24).drop 24).drop 24).drop 24).drop 24).drop 24).drop 24).drop 24).drop 24), List.all_append, w_t13, ← List.take_append_drop 24 (((((((((((((words1.drop 24).drop 24).drop 24).drop 24).drop 24).drop 24).drop 24).drop 24).drop 24).drop 24).drop 24).drop 24).drop 24), List.all_append, w_t14, ← List.take_append_drop 24 ((((((((((((((words1.drop 24).drop 24).drop 24).drop 24).drop 24).drop 24).drop 24).drop 24).drop 24).drop 24).drop 24).drop 24).drop 24).drop 24), List.all_append, w_t15, ← List.take_append_drop 24 (((((((((((((((words1.drop 24).drop 24).drop 24).drop 24).drop 24).drop 24).drop 24).drop 24).drop 24).drop 24).drop 24).drop 24).drop 24).drop 24).drop 24), List.all_append, w_t16, ← List.take_append_drop 24 ((((((((((((((((words1.drop 24).drop 24).drop 24).drop 24).drop 24).drop 24).drop 24).drop 24).drop 24).drop 24).drop 24).drop 24).drop 24).drop 24).drop 24).drop 24), List.all_append, w_t17, w_t18]
  rfl
set_option maxRecDepth 65536 in
theorem w_rest : rest_1_c.before args0 about1 = true := by decide +kernel
set_option maxRecDepth 65536 in
theorem w_case : (Jvm.Cond.and given_1 narrow_1).before args0 about1 = true := by decide +kernel
theorem w_applies : (headSpec (Jvm.Cond.code x code maxLocals ret :: tables_1) room_1).applies x e0.platform about1 = true :=
  (Spec.applies_iff w_frames).mpr ⟨w_running, w_runnable, w_alone, w_named, w_hears, w_ripe, w_room, w_tables⟩
set_option maxRecDepth 65536 in
theorem atStart : AtStart classFile x code maxLocals ret World_1 tables_1 room_1 Calls_1 rest_1 Pre_1 launch0 p0 e0 about1 theMethod args0 below0 :=
  ⟨lists_1, trivial, launch0.admits_env _ _ _, launch0.least_env, fairChoices_fair.cas, fairChoices_fair.clock, w_frames, w_args, w_heap, w_applies, ⟨⟨46, k46, 3, by decide +kernel, rfl, rfl, _, rfl, rfl⟩, trivial⟩, w_rest, w_case⟩
end start1
theorem witness_1 : WitnessClaimed_1 := ⟨start1.p0, start1.e0, start1.about1, start1.theMethod, start1.args0, start1.below0, start1.atStart⟩
end Jvm.Pilot.@@N@@
