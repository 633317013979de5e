import JvmDerived
import JvmDerived.Pilot.@@N@@Statement
import JvmDerived.Pilot.@@N@@Code
set_option linter.unusedVariables false
set_option linter.unusedSimpArgs false
namespace Jvm.Pilot.@@N@@
open Jvm Jvm.ClassFile Sem Op Lib Jvm.Free Jvm.Stand Jvm.LawKit Jvm.RoadKit Bundle Jvm.Pilot.@@N@@.Jvm.D

section OwnKit
variable {p : Program} {l : Launch} {e : Env} {R : Room} {s : State} {m : MethodId} {args : Array Value} {below : List Frame} {meth : Method} {c : Code} {T T' : State} {locs : List Loc} {cells slots : Nat} {g g' : JFrame} {Q : Option Value → Heap → List Loc → Prop} {k n : Nat} {Z : State} {h : Heap} {a0 : Array Value}
/-- from here the run comes to the method's end, and there Q holds -/
def Go (p : Program) (e : Env) (s : State) (below : List Frame) (Q : Option Value → Heap → List Loc → Prop) (k n : Nat) (T : State) (g : JFrame) : Prop :=
  ∃ s₂ o, Steps p.tables e below (T.setTop g) s₂ ∧ s₂.status = .running ∧ Ended s₂ below o ∧ ∃ v L, o = .returned v ∧ Q v s₂.heap L ∧ FrameEnd s o s₂ L k n
theorem Go.st (st : ∀ t, Steps p.tables e below (T'.setTop g') t → Steps p.tables e below (T.setTop g) t) (G : Go p e s below Q k n T' g') : Go p e s below Q k n T g := by
  obtain ⟨t, o, h1, r⟩ := G
  exact ⟨t, o, st _ h1, r⟩
theorem Go.thru (st : Steps p.tables e below (T.setTop g) (T'.setTop g')) (G : Go p e s below Q k n T' g') : Go p e s below Q k n T g := Go.st (fun _ q => st.trans q) G
theorem Go.cast (q : g = g') (G : Go p e s below Q k n T g') : Go p e s below Q k n T g := q ▸ G
theorem Go.end_ (X : Stand p l e R s m args below meth c T locs cells slots) {v : Option Value} (hv : meth.sig.returnType = none → v = none) (hlk : meth.locks = false)
    (st : ∀ fs, (∀ (f : JFrame) (acts : List Action), f.method = m → f.locked = none → f.entered = [] → (doReturn e (T.setTop f) acts v).1 = T.setFrames fs) → Steps p.tables e below (T.setTop g) (T.setFrames fs))
    (hk : cells ≤ k) (hn : slots ≤ n) (hQ : Q v T.heap locs) : Go p e s below Q k n T g := by
  obtain ⟨fs, hr, hrun, hended, hW, hsame⟩ := X.leave (v := v) hv hlk
  exact ⟨_, _, st fs hr, hrun, hended, _, _, rfl, hQ, ⟨_, rfl⟩, hW, hsame.mono hk hn⟩
theorem own_some {t : FieldType} {v : Option Value} (h : meth.sig.returnType = some t) : meth.sig.returnType = none → v = none := fun q => by rw [h] at q; cases q
/-- ireturn of a boolean (also byte, char, short) -/
theorem Go.retN (X : Stand p l e R s m args below meth c T locs cells slots) (hx : p.tables.exec = Jvm.exec) (hlk : meth.locks = false) {t : FieldType} (hret : meth.sig.returnType = some t) (ht : t = .boolean ∨ t = .byte ∨ t = .char ∨ t = .short) {pc : Nat} {Ls : Array Slot} {z : Int32} {rest : List Value}
    (hd : decode c.code pc = .ok (.ireturn, 1)) (hk : cells ≤ k) (hn : slots ≤ n) (hQ : Q (some (.int (nar t z))) T.heap locs) : Go p e s below Q k n T (mkF m pc Ls (.int z :: rest)) :=
  Go.end_ X (own_some hret) hlk (fun _ hr => Jvm.RoadKit.retN X hx hret ht hd hr) hk hn hQ
theorem Go.retI (X : Stand p l e R s m args below meth c T locs cells slots) (hx : p.tables.exec = Jvm.exec) (hlk : meth.locks = false) (hret : meth.sig.returnType = some .int) {pc : Nat} {Ls : Array Slot} {z : Int32} {rest : List Value}
    (hd : decode c.code pc = .ok (.ireturn, 1)) (hk : cells ≤ k) (hn : slots ≤ n) (hQ : Q (some (.int z)) T.heap locs) : Go p e s below Q k n T (mkF m pc Ls (.int z :: rest)) :=
  Go.end_ X (own_some hret) hlk (fun _ hr => Jvm.RoadKit.retOut X hx hret rfl (Or.inl ⟨rfl, Or.inl rfl, _, rfl⟩) hd hr) hk hn hQ
theorem Go.retJ (X : Stand p l e R s m args below meth c T locs cells slots) (hx : p.tables.exec = Jvm.exec) (hlk : meth.locks = false) (hret : meth.sig.returnType = some .long) {pc : Nat} {Ls : Array Slot} {z : Int64} {rest : List Value}
    (hd : decode c.code pc = .ok (.lreturn, 1)) (hk : cells ≤ k) (hn : slots ≤ n) (hQ : Q (some (.long z)) T.heap locs) : Go p e s below Q k n T (mkF m pc Ls (.long z :: rest)) :=
  Go.end_ X (own_some hret) hlk (fun _ hr => Jvm.RoadKit.retOut X hx hret rfl (Or.inr (Or.inl ⟨rfl, rfl, _, rfl⟩)) hd hr) hk hn hQ
theorem own_narR {t : FieldType} {v : Value} (ht : t.isReference = true) (hv : v.isRef = true) : narrow t v = v := by
  rcases ref_cases hv with rfl | ⟨a, rfl⟩ <;> cases t <;> rfl
theorem Go.retA (X : Stand p l e R s m args below meth c T locs cells slots) (hx : p.tables.exec = Jvm.exec) (hlk : meth.locks = false) {t : FieldType} (hret : meth.sig.returnType = some t) (ht : t.isReference = true) {pc : Nat} {Ls : Array Slot} {v : Value} {rest : List Value} (hv : v.isRef = true)
    (hd : decode c.code pc = .ok (.areturn, 1)) (hk : cells ≤ k) (hn : slots ≤ n) (hQ : Q (some v) T.heap locs) : Go p e s below Q k n T (mkF m pc Ls (v :: rest)) :=
  Go.end_ X (own_some hret) hlk (fun _ hr => Jvm.RoadKit.retOut X hx hret (own_narR ht hv) (Or.inr (Or.inr (Or.inr (Or.inr ⟨rfl, ht, hv⟩)))) hd hr) hk hn hQ
theorem Go.retV (X : Stand p l e R s m args below meth c T locs cells slots) (hx : p.tables.exec = Jvm.exec) (hlk : meth.locks = false) (hret : meth.sig.returnType = none) {pc : Nat} {Ls : Array Slot}
    (hd : decode c.code pc = .ok (.return_, 1)) (hk : cells ≤ k) (hn : slots ≤ n) (hQ : Q none T.heap locs) : Go p e s below Q k n T (mkF m pc Ls []) :=
  Go.end_ X (fun _ => rfl) hlk (fun _ hr => X.returnOut hx hret hd hr) hk hn hQ
/-- a body's contract -/
def Meets (l : Launch) (Z : State) (y : MethodName) (bytes : ByteArray) (maxL : Nat) (ret : Option FieldType) (rm : Room) (ws : List Jvm.Cond) (as' : Array Value) (h : Heap) (Q : Option Value → Heap → List Loc → Prop) : Prop :=
  MetFree l y (head1 (Jvm.Cond.code y bytes maxL ret :: ws) rm) (fun a U => a = as' ∧ Z.Warmed39 U.vm ∧ U.heap = h) (fun _ _ _ _ _ => True) (fun _ U o U' => ∃ v L, o = .returned v ∧ Q v U'.heap L ∧ FrameEnd U o U' L rm.cells rm.slots)
theorem Meets.of {y : MethodName} {bytes : ByteArray} {maxL : Nat} {ret : Option FieldType} {rm : Room} {ws : List Jvm.Cond} {as' : Array Value} (hpl : plainFor y = true)
    (body : ∀ (p : Program) (e : Env) (s : State) (m : MethodId) (below : List Frame) (meth : Method) (c : Code) (s₁ : State), Stand p l e rm s m as' below meth c s₁ [] 0 0 → p.tables.exec = Jvm.exec → c.code = bytes → c.maxLocals = maxL → meth.sig.returnType = ret → meth.locks = false → meth.name = y.name → Z.Warmed39 s.vm → s.vm.findClass y.cls = some m.cls → s₁.heap = h →
      Go p e s below Q rm.cells rm.slots s₁ (entryFrame m as' maxL)) : Meets l Z y bytes maxL ret rm ws as' h Q := by
  unfold Meets
  refine MetFree.of_bodySF hpl hisR ?_
  intro p e s m args below meth c s₁ Bd hml0 hP hK
  obtain ⟨rfl, hZ, hh⟩ := hP
  exact body p e s m below meth c s₁ (Stand.of_body Bd) Bd.exec Bd.bytes hml0 Bd.returns Bd.notSynchronized (name_of_methodNamed Bd.named Bd.method).1 hZ (findClass_of_methodNamed Bd.named) (by rw [← hh, Bd.state]; rfl)
section Calls
variable {y z : MethodName} {own C : String} {index : Nat} {bytes : ByteArray} {maxL : Nat} {ret : Option FieldType} {rm : Room} {W : Nat} {Q0 : Option Value → Heap → List Loc → Prop} {b : Addr} {argsL rest : List Value} {pc : Nat} {Ls : Array Slot}
theorem Go.callS (X : Stand p l e R s m args below meth c T locs cells slots) (hx : p.tables.exec = Jvm.exec) (hZ : Z.Warmed39 s.vm) (hown : s.vm.findClass own = some m.cls)
    (w1 : (Jvm.Cond.methodLink own index y).before a0 Z = true) (w2 : (Jvm.Cond.static y).before a0 Z = true) (w3 : (Jvm.Cond.initialized y.cls).before a0 Z = true) (w4 : (Jvm.Cond.code y bytes maxL ret).before a0 Z = true)
    (hM : Meets l Z y bytes maxL ret rm [] argsL.toArray h Q0) (eT : T.heap = h) (hy : y.cls ≠ "java/lang/invoke/MethodHandle" ∧ y.cls ≠ "java/lang/invoke/VarHandle")
    (hf : rm.frames + 1 ≤ R.frames) (hl : W + (maxL + 11) + rm.locals ≤ R.locals) (hcl : cells + rm.cells ≤ R.cells) (hsl : slots + rm.slots ≤ R.slots)
    (hsize : Ls.size = c.maxLocals) (hlen : ∀ sig, parseMethodDescriptor y.desc = some sig → argsL.length = sig.parameters.length) (hW : 2 * 0 + (rest.map fun v => v.category).sum ≤ W)
    (hd : decode c.code pc = .ok (.invokestatic index, 3))
    (next : ∀ (T' : State) (v : Option Value) (L : List Loc), Stand p l e R s m args below meth c T' (locs ++ L) (cells + rm.cells) (slots + rm.slots) → Q0 v T'.heap L → Go p e s below Q k n T' (mkF m (pc + 3) Ls (v.toList ++ rest))) :
    Go p e s below Q k n T (mkF m pc Ls (argsL.reverse ++ rest)) := by
  obtain ⟨v, _, ⟨T', L', k', n'⟩, -, X', ⟨Lc, hQ, l', y', z'⟩, st⟩ := Jvm.LawKit.callS X hx (y := y) hown (mvT hZ w1) (mvT hZ w2) (mvT hZ w3) (mvT hZ w4) hy (backOf (W := W) hM hZ w4 w3 hf hl) (g := mkF m pc Ls (argsL.reverse ++ rest)) rfl hsize (argsL := argsL) (rest := rest) hlen rfl hW hd (fun _ _ => ⟨rfl, eT, hcl, hsl⟩)
  dsimp only [Pt.U, Pt.locs, Pt.cells, Pt.slots] at X' l' y' z' st hQ
  subst l' y' z'
  exact Go.st st (next T' v Lc X' hQ)
theorem Go.callV (X : Stand p l e R s m args below meth c T locs cells slots) (hx : p.tables.exec = Jvm.exec) (hZ : Z.Warmed39 s.vm) (hown : s.vm.findClass own = some m.cls)
    (w1 : (Jvm.Cond.methodLink own index y).before a0 Z = true) (w2 : (Jvm.Cond.declares y).before a0 Z = true) (hnf : NotFace s y) (w3 : (Jvm.Cond.selects C y z).before a0 Z = true) (w4 : (Jvm.Cond.instanceMethod z).before a0 Z = true) (w5 : (Jvm.Cond.initialized z.cls).before a0 Z = true) (w6 : (Jvm.Cond.code z bytes maxL ret).before a0 Z = true)
    (hM : Meets l Z z bytes maxL ret rm [] (.ref b :: argsL).toArray h Q0) (eT : T.heap = h) (E : Exa Z h b C) (hy : y.cls ≠ "java/lang/invoke/MethodHandle" ∧ y.cls ≠ "java/lang/invoke/VarHandle")
    (hf : rm.frames + 1 ≤ R.frames) (hl : W + (maxL + 11) + rm.locals ≤ R.locals) (hcl : cells + rm.cells ≤ R.cells) (hsl : slots + rm.slots ≤ R.slots)
    (hsize : Ls.size = c.maxLocals) (hlen : ∀ sig, parseMethodDescriptor y.desc = some sig → argsL.length = sig.parameters.length) (hW : 2 * 0 + (rest.map fun v => v.category).sum ≤ W)
    (hd : decode c.code pc = .ok (.invokevirtual index, 3))
    (next : ∀ (T' : State) (v : Option Value) (L : List Loc), Stand p l e R s m args below meth c T' (locs ++ L) (cells + rm.cells) (slots + rm.slots) → Q0 v T'.heap L → Go p e s below Q k n T' (mkF m (pc + 3) Ls (v.toList ++ rest))) :
    Go p e s below Q k n T (mkF m pc Ls (argsL.reverse ++ .ref b :: rest)) := by
  obtain ⟨cq, kq, qa, qb, qc⟩ := isOf hZ eT E
  obtain ⟨v, _, ⟨T', L', k', n'⟩, -, X', ⟨Lc, hQ, l', y', z'⟩, st⟩ := X.virtualBack hx (y := y) (z := z) hown (mvT hZ w1) (mvT hZ w2) hnf (mvT hZ w3) (mvT hZ w4) hy (backOf (W := W) hM hZ w6 w5 hf hl) qa qc (g := mkF m pc Ls (argsL.reverse ++ .ref b :: rest)) rfl hsize (Steps.refl _) (argsL := argsL) (rest := rest) hlen rfl hW hd (fun _ _ => ⟨rfl, eT, hcl, hsl⟩)
  dsimp only [Pt.U, Pt.locs, Pt.cells, Pt.slots] at X' l' y' z' st hQ
  subst l' y' z'
  exact Go.thru st (next T' v Lc X' hQ)
/-- an inherited method, named through the subclass -/
theorem Go.callU {owner : String} {x' : MethodName} (X : Stand p l e R s m args below meth c T locs cells slots) (hx : p.tables.exec = Jvm.exec) (hZ : Z.Warmed39 s.vm) (hown : s.vm.findClass own = some m.cls)
    (w1 : (Jvm.Cond.methodLink own index x').before a0 Z = true) (w2 : (Jvm.Cond.sameMethod x'.cls owner x'.name x'.desc).before a0 Z = true) (w3 : (Jvm.Cond.declares ⟨owner, x'.name, x'.desc⟩).before a0 Z = true) (w4 : (Jvm.Cond.selects C x' z).before a0 Z = true) (w5 : (Jvm.Cond.instanceMethod z).before a0 Z = true) (w6 : (Jvm.Cond.initialized z.cls).before a0 Z = true) (w7 : (Jvm.Cond.code z bytes maxL ret).before a0 Z = true)
    (hM : Meets l Z z bytes maxL ret rm [] (.ref b :: argsL).toArray h Q0) (eT : T.heap = h) (E : Exa Z h b C) (hy : owner ≠ "java/lang/invoke/MethodHandle" ∧ owner ≠ "java/lang/invoke/VarHandle")
    (hf : rm.frames + 1 ≤ R.frames) (hl : W + (maxL + 11) + rm.locals ≤ R.locals) (hcl : cells + rm.cells ≤ R.cells) (hsl : slots + rm.slots ≤ R.slots)
    (hsize : Ls.size = c.maxLocals) (hlen : ∀ sig, parseMethodDescriptor x'.desc = some sig → argsL.length = sig.parameters.length) (hW : 2 * 0 + (rest.map fun v => v.category).sum ≤ W)
    (hd : decode c.code pc = .ok (.invokevirtual index, 3))
    (next : ∀ (T' : State) (v : Option Value) (L : List Loc), Stand p l e R s m args below meth c T' (locs ++ L) (cells + rm.cells) (slots + rm.slots) → Q0 v T'.heap L → Go p e s below Q k n T' (mkF m (pc + 3) Ls (v.toList ++ rest))) :
    Go p e s below Q k n T (mkF m pc Ls (argsL.reverse ++ .ref b :: rest)) := by
  obtain ⟨cq, kq, qa, qb, qc⟩ := isOf hZ eT E
  obtain ⟨v, _, ⟨T', L', k', n'⟩, -, X', ⟨Lc, hQ, l', y', z'⟩, st⟩ := X.virtualBackUp hx (x := x') (y := z) hown (mvT hZ w1) (mvT hZ w2) (mvT hZ w3) hy (mvT hZ w4) (mvT hZ w5) (backOf (W := W) hM hZ w7 w6 hf hl) qa qc (g := mkF m pc Ls (argsL.reverse ++ .ref b :: rest)) rfl hsize (Steps.refl _) (argsL := argsL) (rest := rest) hlen rfl hW hd (fun _ _ => ⟨rfl, eT, hcl, hsl⟩)
  dsimp only [Pt.U, Pt.locs, Pt.cells, Pt.slots] at X' l' y' z' st hQ
  subst l' y' z'
  exact Go.thru st (next T' v Lc X' hQ)
/-- a constructor -/
theorem Go.callC (X : Stand p l e R s m args below meth c T locs cells slots) (hx : p.tables.exec = Jvm.exec) (hZ : Z.Warmed39 s.vm) (hy1 : y.name = "<init>") (hown : s.vm.findClass own = some m.cls)
    (w1 : (Jvm.Cond.methodLink own index y).before a0 Z = true) (w2 : (Jvm.Cond.instanceMethod y).before a0 Z = true) (w3 : (Jvm.Cond.initialized y.cls).before a0 Z = true) (w4 : (Jvm.Cond.code y bytes maxL none).before a0 Z = true)
    (hM : Meets l Z y bytes maxL none rm [] (.ref b :: argsL).toArray h Q0) (eT : T.heap = h) (hy : y.cls ≠ "java/lang/invoke/MethodHandle" ∧ y.cls ≠ "java/lang/invoke/VarHandle")
    (hf : rm.frames + 1 ≤ R.frames) (hl : W + (maxL + 11) + rm.locals ≤ R.locals) (hcl : cells + rm.cells ≤ R.cells) (hsl : slots + rm.slots ≤ R.slots)
    (hsize : Ls.size = c.maxLocals) (hlen : ∀ sig, parseMethodDescriptor y.desc = some sig → argsL.length = sig.parameters.length) (hW : 2 * 0 + (rest.map fun v => v.category).sum ≤ W)
    (hd : decode c.code pc = .ok (.invokespecial index, 3))
    (next : ∀ (T' : State) (v : Option Value) (L : List Loc), Stand p l e R s m args below meth c T' (locs ++ L) (cells + rm.cells) (slots + rm.slots) → Q0 v T'.heap L → Go p e s below Q k n T' (mkF m (pc + 3) Ls (v.toList ++ rest))) :
    Go p e s below Q k n T (mkF m pc Ls (argsL.reverse ++ .ref b :: rest)) := by
  obtain ⟨v, _, ⟨T', L', k', n'⟩, -, X', ⟨Lc, hQ, l', y', z'⟩, st⟩ := X.specialBack hx (y := y) hy1 hown (mvT hZ w1) (mvT hZ w2) (mvT hZ w4) hy (backOf (W := W) hM hZ w4 w3 hf hl) (g := mkF m pc Ls (argsL.reverse ++ .ref b :: rest)) rfl hsize (Steps.refl _) (a := b) (argsL := argsL) (rest := rest) hlen rfl hW hd (fun _ _ => ⟨rfl, eT, hcl, hsl⟩)
  dsimp only [Pt.U, Pt.locs, Pt.cells, Pt.slots] at X' l' y' z' st hQ
  subst l' y' z'
  exact Go.thru st (next T' v Lc X' hQ)
end Calls
end OwnKit
section OwnExt
variable {Z : State} {h h' h'' : Heap} {a : Addr} {sl : Nat} {v : Value}
theorem own_extR (h : Heap) : Ext h h := ⟨Nat.le_refl _, fun _ _ q => q⟩
theorem own_extE (E : Ext h h') (E' : Ext h' h'') : Ext h h'' := ⟨Nat.le_trans E.1 E'.1, fun x c q => E'.2 x c (E.2 x c q)⟩
theorem own_extW (E : Ext h h') (W : Wr h' h'' a sl v) (q : h.size ≤ a) : Ext h h'' := by
  refine ⟨by rw [W.size]; exact E.1, fun x c r => ?_⟩
  have hlt := (Array.getElem?_eq_some_iff.mp r).1
  obtain ⟨c', e1, -, -, -, e5, -⟩ := wr_at W (E.2 x c r)
  rw [e1, e5 (Nat.ne_of_lt (Nat.lt_of_lt_of_le hlt q))]
theorem own_extK {ws : List Addr} (E : Ext h h') (K : Keep h' h'' ws) (q : ∀ x ∈ ws, h.size ≤ x) : Ext h h'' :=
  ⟨Nat.le_trans E.1 K.1, fun x c r => K.2.1 x c (E.2 x c r) fun z => absurd (Array.getElem?_eq_some_iff.mp r).1 (Nat.not_lt.mpr (q x z))⟩
end OwnExt
section OwnS
variable {p : Program} {l : Launch} {e : Env} {R : Room} {s s0 : State} {m : MethodId} {args : Array Value} {below : List Frame} {meth : Method} {c : Code} {T T' : State} {locs : List Loc} {cells slots : Nat} {g g' : JFrame} {Q : Option Value → Heap → List Loc → Prop} {k n : Nat} {Z : State} {h h' : Heap} {a0 : Array Value} {EL : List (String × Nat)} {vm0 : Vm}
/-- from here the run comes to the method's end, and there Q holds; strings may have been interned since the start s; what is booked of EL keeps its text -/
def GoW (Z : State) (EL : List (String × Nat)) (p : Program) (e : Env) (s : State) (below : List Frame) (Q : Option Value → Heap → List Loc → Prop) (k n : Nat) (T : State) (g : JFrame) : Prop :=
  ∃ s₂ o, Steps p.tables e below (T.setTop g) s₂ ∧ s₂.status = .running ∧ Ended s₂ below o ∧ ∃ v L, o = .returned v ∧ Q v s₂.heap L ∧ CHr Z EL s.vm s.heap s₂.vm s₂.heap ∧ ReturnedEndW s o s₂ L k n
theorem GoW.st (st : ∀ t, Steps p.tables e below (T'.setTop g') t → Steps p.tables e below (T.setTop g) t) (G : GoW Z EL p e s0 below Q k n T' g') : GoW Z EL p e s0 below Q k n T g := by
  obtain ⟨t, o, h1, r⟩ := G
  exact ⟨t, o, st _ h1, r⟩
theorem GoW.thru (st : Steps p.tables e below (T.setTop g) (T'.setTop g')) (G : GoW Z EL p e s0 below Q k n T' g') : GoW Z EL p e s0 below Q k n T g := GoW.st (fun _ q => st.trans q) G
theorem GoW.cast (q : g = g') (G : GoW Z EL p e s0 below Q k n T g') : GoW Z EL p e s0 below Q k n T g := q ▸ G
theorem GoW.end_ (X : Stand p l e R (s.setVm vm0) m args below meth c T locs cells slots) {k0 : Nat} (hS : s.Since vm0 k0) (hk0 : k0 ≤ T.heap.size) (hZ : Z.Warmed39 vm0) (hEL : EW Z a0 EL) (CR : CHr Z EL s.vm s.heap vm0 T.heap) {v : Option Value} (hv : meth.sig.returnType = none → v = none) (hlk : meth.locks = false)
    (st : ∀ fs, (∀ (f : JFrame) (acts : List Action), f.method = m → f.locked = none → f.entered = [] → (doReturn e (T.setTop f) acts v).1 = T.setFrames fs) → Steps p.tables e below (T.setTop g) (T.setFrames fs))
    (hk : cells ≤ k) (hn : slots ≤ n) (hQ : Q v T.heap locs) : GoW Z EL p e s below Q k n T g := by
  obtain ⟨fs, hr, hrun, hended, hE⟩ := X.leaveW hS hk0 (v := v) hv hlk
  exact ⟨_, _, st fs hr, hrun, hended, _, _, rfl, hQ, (show CHr Z EL s.vm s.heap T.vm T.heap from CR.trans (CHv.at X hZ hEL CR.1)), hE.1, hE.2.1, hE.2.2.1, hE.2.2.2.mono hk hn⟩
theorem GoW.retN (X : Stand p l e R (s.setVm vm0) m args below meth c T locs cells slots) (hx : p.tables.exec = Jvm.exec) (hlk : meth.locks = false) {t : FieldType} (hret : meth.sig.returnType = some t) (ht : t = .boolean ∨ t = .byte ∨ t = .char ∨ t = .short) {k0 : Nat} (hS : s.Since vm0 k0) (hk0 : k0 ≤ T.heap.size) (hZ : Z.Warmed39 vm0) (hEL : EW Z a0 EL) (CR : CHr Z EL s.vm s.heap vm0 T.heap) {pc : Nat} {Ls : Array Slot} {z : Int32} {rest : List Value}
    (hd : decode c.code pc = .ok (.ireturn, 1)) (hk : cells ≤ k) (hn : slots ≤ n) (hQ : Q (some (.int (nar t z))) T.heap locs) : GoW Z EL p e s below Q k n T (mkF m pc Ls (.int z :: rest)) :=
  GoW.end_ X hS hk0 hZ hEL CR (own_some hret) hlk (fun _ hr => Jvm.RoadKit.retN X hx hret ht hd hr) hk hn hQ
theorem GoW.retV (X : Stand p l e R (s.setVm vm0) m args below meth c T locs cells slots) (hx : p.tables.exec = Jvm.exec) (hlk : meth.locks = false) (hret : meth.sig.returnType = none) {k0 : Nat} (hS : s.Since vm0 k0) (hk0 : k0 ≤ T.heap.size) (hZ : Z.Warmed39 vm0) (hEL : EW Z a0 EL) (CR : CHr Z EL s.vm s.heap vm0 T.heap) {pc : Nat} {Ls : Array Slot}
    (hd : decode c.code pc = .ok (.return_, 1)) (hk : cells ≤ k) (hn : slots ≤ n) (hQ : Q none T.heap locs) : GoW Z EL p e s below Q k n T (mkF m pc Ls []) :=
  GoW.end_ X hS hk0 hZ hEL CR (fun _ => rfl) hlk (fun _ hr => X.returnOut hx hret hd hr) hk hn hQ
/-- a body's contract, where it may intern -/
def MeetsW (l : Launch) (Z : State) (EL : List (String × Nat)) (y : MethodName) (bytes : ByteArray) (maxL : Nat) (ret : Option FieldType) (rm : Room) (ws : List Jvm.Cond) (as' : Array Value) (h : Heap) (Q : Option Value → Heap → List Loc → Prop) : Prop :=
  MetFree l y (head1 (Jvm.Cond.code y bytes maxL ret :: ws) rm) (fun a U => a = as' ∧ Z.Warmed39 U.vm ∧ U.heap = h ∧ CHv Z EL U.vm h) (fun _ _ _ _ _ => True) (fun _ U o U' => ∃ v L, o = .returned v ∧ Q v U'.heap L ∧ CHr Z EL U.vm U.heap U'.vm U'.heap ∧ ReturnedEndW U o U' L rm.cells rm.slots)
theorem MeetsW.of {y : MethodName} {bytes : ByteArray} {maxL : Nat} {ret : Option FieldType} {rm : Room} {ws : List Jvm.Cond} {as' : Array Value} (hpl : plainFor y = true)
    (body : ∀ (p : Program) (e : Env) (s : State) (m : MethodId) (below : List Frame) (meth : Method) (c : Code) (s₁ : State), Stand p l e rm (s.setVm s.vm) m as' below meth c s₁ [] 0 0 → p.tables.exec = Jvm.exec → c.code = bytes → c.maxLocals = maxL → meth.sig.returnType = ret → meth.locks = false → meth.name = y.name → Z.Warmed39 s.vm → s.vm.findClass y.cls = some m.cls → s₁.heap = h → s.heap = h → CHv Z EL s.vm h → s.Since s.vm 0 →
      GoW Z EL p e s below Q rm.cells rm.slots s₁ (entryFrame m as' maxL)) : MeetsW l Z EL y bytes maxL ret rm ws as' h Q := by
  unfold MeetsW
  refine MetFree.of_bodySF hpl hisR ?_
  intro p e s m args below meth c s₁ Bd hml0 hP hK
  obtain ⟨rfl, hZ, hh, hC⟩ := hP
  exact body p e s m below meth c s₁ (Stand.of_body Bd) Bd.exec Bd.bytes hml0 Bd.returns Bd.notSynchronized (name_of_methodNamed Bd.named Bd.method).1 hZ (findClass_of_methodNamed Bd.named) (by rw [← hh, Bd.state]; rfl) hh hC ((State.WarmedH.refl s).since 0)
/-- a String under construction, its value still null, is none of the booked cells -/
theorem own_safe {x : Addr} (hal : Z.vm.Alike vm0) (E : Exa Z h x "java/lang/String") (F : Fld Z h x "java/lang/String" "value" "[B" .null) : Safe Z EL vm0 h x := fun B => by
  obtain ⟨q0, -, u, a, -, q, -, G, rfl | rfl⟩ := B
  · obtain ⟨cS, ⟨⟨s1, s2, s3, ⟨cv, kv, iv, s4, s4'⟩, -, s6, -, s8, -⟩, -⟩, -⟩ := G
    obtain ⟨cell, cf, k, i, f, f1, f2, f3, f4, f5, f6, f7⟩ := F
    obtain ⟨k3, e3, -⟩ := State.fieldFound?_setVm (s := Z) hal f2
    have e4 := (show (Wst Z vm0 h).fieldFound? _ _ _ = _ from e3).symm.trans s4
    simp only [Option.some.injEq, Prod.mk.injEq] at e4
    have e5 : q.sC = cell := Option.some.inj ((show h[q.sa]? = some q.sC from s1).symm.trans f1)
    rw [e5, ← e4.2.2.2, f7] at s8
    cases s8
  · obtain ⟨cell, k, e1, e2, e3, -, -⟩ := E
    have e0 : q.SA = cell := Option.some.inj ((show h[q.sd]? = some q.SA from G.hd).symm.trans e1)
    obtain ⟨cS, -, -, f, -⟩ := G
    have f' : Z.vm.findClass "[B" = some cell.cls := by rw [← hal.findClass, ← e0]; exact f
    obtain ⟨k1, q1, q2⟩ := Vm.findClass_spec f'
    obtain ⟨k2, q3, q4⟩ := Vm.findClass_spec e2
    cases q1.symm.trans q3
    exact absurd (q2.symm.trans q4) (by decide)
section CallsW
variable {y z : MethodName} {own C : String} {index : Nat} {bytes : ByteArray} {maxL : Nat} {ret : Option FieldType} {rm : Room} {W : Nat} {Q0 : Option Value → Heap → List Loc → Prop} {b : Addr} {argsL rest : List Value} {pc : Nat} {Ls : Array Slot}
theorem GoW.callS (X : Stand p l e R s m args below meth c T locs cells slots) (hx : p.tables.exec = Jvm.exec) (hZ : Z.Warmed39 s.vm) (hown : s.vm.findClass own = some m.cls)
    (w1 : (Jvm.Cond.methodLink own index y).before a0 Z = true) (w2 : (Jvm.Cond.static y).before a0 Z = true) (w3 : (Jvm.Cond.initialized y.cls).before a0 Z = true) (w4 : (Jvm.Cond.code y bytes maxL ret).before a0 Z = true)
    (hM : Meets l Z y bytes maxL ret rm [] argsL.toArray h Q0) (eT : T.heap = h) (hy : y.cls ≠ "java/lang/invoke/MethodHandle" ∧ y.cls ≠ "java/lang/invoke/VarHandle")
    (hf : rm.frames + 1 ≤ R.frames) (hl : W + (maxL + 11) + rm.locals ≤ R.locals) (hcl : cells + rm.cells ≤ R.cells) (hsl : slots + rm.slots ≤ R.slots)
    (hsize : Ls.size = c.maxLocals) (hlen : ∀ sig, parseMethodDescriptor y.desc = some sig → argsL.length = sig.parameters.length) (hW : 2 * 0 + (rest.map fun v => v.category).sum ≤ W)
    (hd : decode c.code pc = .ok (.invokestatic index, 3))
    (next : ∀ (T' : State) (v : Option Value) (L : List Loc), Stand p l e R s m args below meth c T' (locs ++ L) (cells + rm.cells) (slots + rm.slots) → Q0 v T'.heap L → GoW Z EL p e s0 below Q k n T' (mkF m (pc + 3) Ls (v.toList ++ rest))) :
    GoW Z EL p e s0 below Q k n T (mkF m pc Ls (argsL.reverse ++ rest)) := by
  obtain ⟨v, _, ⟨T', L', k', n'⟩, -, X', ⟨Lc, hQ, l', y', z'⟩, st⟩ := Jvm.LawKit.callS X hx (y := y) hown (mvT hZ w1) (mvT hZ w2) (mvT hZ w3) (mvT hZ w4) hy (backOf (W := W) hM hZ w4 w3 hf hl) (g := mkF m pc Ls (argsL.reverse ++ rest)) rfl hsize (argsL := argsL) (rest := rest) hlen rfl hW hd (fun _ _ => ⟨rfl, eT, hcl, hsl⟩)
  dsimp only [Pt.U, Pt.locs, Pt.cells, Pt.slots] at X' l' y' z' st hQ
  subst l' y' z'
  exact GoW.st st (next T' v Lc X' hQ)
theorem GoW.callV (X : Stand p l e R s m args below meth c T locs cells slots) (hx : p.tables.exec = Jvm.exec) (hZ : Z.Warmed39 s.vm) (hown : s.vm.findClass own = some m.cls)
    (w1 : (Jvm.Cond.methodLink own index y).before a0 Z = true) (w2 : (Jvm.Cond.declares y).before a0 Z = true) (hnf : NotFace s y) (w3 : (Jvm.Cond.selects C y z).before a0 Z = true) (w4 : (Jvm.Cond.instanceMethod z).before a0 Z = true) (w5 : (Jvm.Cond.initialized z.cls).before a0 Z = true) (w6 : (Jvm.Cond.code z bytes maxL ret).before a0 Z = true)
    (hM : Meets l Z z bytes maxL ret rm [] (.ref b :: argsL).toArray h Q0) (eT : T.heap = h) (E : Exa Z h b C) (hy : y.cls ≠ "java/lang/invoke/MethodHandle" ∧ y.cls ≠ "java/lang/invoke/VarHandle")
    (hf : rm.frames + 1 ≤ R.frames) (hl : W + (maxL + 11) + rm.locals ≤ R.locals) (hcl : cells + rm.cells ≤ R.cells) (hsl : slots + rm.slots ≤ R.slots)
    (hsize : Ls.size = c.maxLocals) (hlen : ∀ sig, parseMethodDescriptor y.desc = some sig → argsL.length = sig.parameters.length) (hW : 2 * 0 + (rest.map fun v => v.category).sum ≤ W)
    (hd : decode c.code pc = .ok (.invokevirtual index, 3))
    (next : ∀ (T' : State) (v : Option Value) (L : List Loc), Stand p l e R s m args below meth c T' (locs ++ L) (cells + rm.cells) (slots + rm.slots) → Q0 v T'.heap L → GoW Z EL p e s0 below Q k n T' (mkF m (pc + 3) Ls (v.toList ++ rest))) :
    GoW Z EL p e s0 below Q k n T (mkF m pc Ls (argsL.reverse ++ .ref b :: rest)) := by
  obtain ⟨cq, kq, qa, qb, qc⟩ := isOf hZ eT E
  obtain ⟨v, _, ⟨T', L', k', n'⟩, -, X', ⟨Lc, hQ, l', y', z'⟩, st⟩ := X.virtualBack hx (y := y) (z := z) hown (mvT hZ w1) (mvT hZ w2) hnf (mvT hZ w3) (mvT hZ w4) hy (backOf (W := W) hM hZ w6 w5 hf hl) qa qc (g := mkF m pc Ls (argsL.reverse ++ .ref b :: rest)) rfl hsize (Steps.refl _) (argsL := argsL) (rest := rest) hlen rfl hW hd (fun _ _ => ⟨rfl, eT, hcl, hsl⟩)
  dsimp only [Pt.U, Pt.locs, Pt.cells, Pt.slots] at X' l' y' z' st hQ
  subst l' y' z'
  exact GoW.thru st (next T' v Lc X' hQ)
theorem GoW.callC (X : Stand p l e R s m args below meth c T locs cells slots) (hx : p.tables.exec = Jvm.exec) (hZ : Z.Warmed39 s.vm) (hy1 : y.name = "<init>") (hown : s.vm.findClass own = some m.cls)
    (w1 : (Jvm.Cond.methodLink own index y).before a0 Z = true) (w2 : (Jvm.Cond.instanceMethod y).before a0 Z = true) (w3 : (Jvm.Cond.initialized y.cls).before a0 Z = true) (w4 : (Jvm.Cond.code y bytes maxL none).before a0 Z = true)
    (hM : Meets l Z y bytes maxL none rm [] (.ref b :: argsL).toArray h Q0) (eT : T.heap = h) (hy : y.cls ≠ "java/lang/invoke/MethodHandle" ∧ y.cls ≠ "java/lang/invoke/VarHandle")
    (hf : rm.frames + 1 ≤ R.frames) (hl : W + (maxL + 11) + rm.locals ≤ R.locals) (hcl : cells + rm.cells ≤ R.cells) (hsl : slots + rm.slots ≤ R.slots)
    (hsize : Ls.size = c.maxLocals) (hlen : ∀ sig, parseMethodDescriptor y.desc = some sig → argsL.length = sig.parameters.length) (hW : 2 * 0 + (rest.map fun v => v.category).sum ≤ W)
    (hd : decode c.code pc = .ok (.invokespecial index, 3))
    (next : ∀ (T' : State) (v : Option Value) (L : List Loc), Stand p l e R s m args below meth c T' (locs ++ L) (cells + rm.cells) (slots + rm.slots) → Q0 v T'.heap L → GoW Z EL p e s0 below Q k n T' (mkF m (pc + 3) Ls (v.toList ++ rest))) :
    GoW Z EL p e s0 below Q k n T (mkF m pc Ls (argsL.reverse ++ .ref b :: rest)) := by
  obtain ⟨v, _, ⟨T', L', k', n'⟩, -, X', ⟨Lc, hQ, l', y', z'⟩, st⟩ := X.specialBack hx (y := y) hy1 hown (mvT hZ w1) (mvT hZ w2) (mvT hZ w4) hy (backOf (W := W) hM hZ w4 w3 hf hl) (g := mkF m pc Ls (argsL.reverse ++ .ref b :: rest)) rfl hsize (Steps.refl _) (a := b) (argsL := argsL) (rest := rest) hlen rfl hW hd (fun _ _ => ⟨rfl, eT, hcl, hsl⟩)
  dsimp only [Pt.U, Pt.locs, Pt.cells, Pt.slots] at X' l' y' z' st hQ
  subst l' y' z'
  exact GoW.thru st (next T' v Lc X' hQ)

/-- a constructor that may intern -/
theorem GoW.callX (X : Stand p l e R (s.setVm vm0) m args below meth c T locs cells slots) (hx : p.tables.exec = Jvm.exec) (hZ : Z.Warmed39 vm0) (hy1 : y.name = "<init>") (hown : vm0.findClass own = some m.cls)
    (w1 : (Jvm.Cond.methodLink own index y).before a0 Z = true) (w2 : (Jvm.Cond.instanceMethod y).before a0 Z = true) (w3 : (Jvm.Cond.initialized y.cls).before a0 Z = true) (w4 : (Jvm.Cond.code y bytes maxL none).before a0 Z = true)
    (hM : MeetsW l Z EL y bytes maxL none rm [] (.ref b :: argsL).toArray h Q0) (eT : T.heap = h) (hEL : EW Z a0 EL) (CH : CHv Z EL vm0 h) {k0 : Nat} (hS : s.Since vm0 k0) (hk0 : k0 ≤ h.size) (hy : y.cls ≠ "java/lang/invoke/MethodHandle" ∧ y.cls ≠ "java/lang/invoke/VarHandle")
    (hf : rm.frames + 1 ≤ R.frames) (hl : W + (maxL + 11) + rm.locals ≤ R.locals) (hcl : cells + rm.cells ≤ R.cells) (hsl : slots + rm.slots ≤ R.slots)
    (hsize : Ls.size = c.maxLocals) (hlen : ∀ sig, parseMethodDescriptor y.desc = some sig → argsL.length = sig.parameters.length) (hW : 2 * 0 + (rest.map fun v => v.category).sum ≤ W)
    (hd : decode c.code pc = .ok (.invokespecial index, 3))
    (next : ∀ (T' : State) (v : Option Value) (L : List Loc), Stand p l e R (s.setVm T'.vm) m args below meth c T' (locs ++ L) (cells + rm.cells) (slots + rm.slots) → Q0 v T'.heap L → s.Since T'.vm T'.heap.size → Z.Warmed39 T'.vm → T'.vm.findClass own = some m.cls → CHr Z EL vm0 h T'.vm T'.heap → GoW Z EL p e s below Q k n T' (mkF m (pc + 3) Ls (v.toList ++ rest))) :
    GoW Z EL p e s below Q k n T (mkF m pc Ls (argsL.reverse ++ .ref b :: rest)) := by
  obtain ⟨v, _, ⟨T', L', k', n'⟩, -, X', hS', hg, ⟨Lc, hQ, l', y', z', hC⟩, st⟩ := X.specialBackS hx (y := y) hy1 hown (mvT (s := s.setVm vm0) hZ w1) (mvT (s := s.setVm vm0) hZ w2) (mvT (s := s.setVm vm0) hZ w4) hy (backOfSH (s := s) (W := W) hM hZ w4 w3 hf hl hEL CH) (g := mkF m pc Ls (argsL.reverse ++ .ref b :: rest)) rfl hsize (Steps.refl _) (a := b) (argsL := argsL) (rest := rest) hlen rfl hW hd (fun _ _ => ⟨rfl, eT, hcl, hsl⟩)
  dsimp only [Pt.U, Pt.locs, Pt.cells, Pt.slots] at X' l' y' z' st hQ hS' hg hC
  subst l' y' z'
  subst eT
  exact GoW.thru st (next T' v Lc X' hQ (hS.trans hS' (Nat.le_trans hk0 hg)) (State.Warmed39.trans (t := s.setVm vm0) hZ hS'.1) (by rw [hS'.1.alike.findClass]; exact hown) hC)
end CallsW
end OwnS

theorem own_eqI {args : Array Value} {Z : State} {t : Term} {i : Int32} (h : (Jvm.Cond.eq t (.int i)).value args Z none Z [] = some true) : t.eval args Z none [] Z = some (.int i) := by
  simp only [Cond.value, Term.eval] at h
  cases ht : t.eval args Z none [] Z with
  | none => simp [ht] at h
  | some x => cases x <;> simp_all
theorem own_const {C nm d : String} {i : Int32} {args : Array Value} {Z : State} (w1 : (Jvm.Cond.exactly (.static C nm d) C).value args Z none Z [] = some true)
    (w2 : (Jvm.Cond.eq (.field (.static C nm d) "java/lang/Enum" "ordinal" "I") (.int i)).value args Z none Z [] = some true) (hi : (Jvm.Cond.initialized C).before args Z = true) (hl : (Jvm.Cond.laysStatic C nm d).before args Z = true) :
    ∃ r, (Term.static C nm d).eval args Z none [] Z = some (.ref r) ∧ Sta Z Z.heap C nm d (.ref r) ∧ Exa Z Z.heap r C ∧ Fld Z Z.heap r "java/lang/Enum" "ordinal" "I" (.int i) := by
  obtain ⟨r, er⟩ := exa_v w1
  exact ⟨r, er, Sta.start er (Or.inr ⟨hi, hl⟩), Exa.start er w1, Fld.start (by rw [← fld_at er]; exact own_eqI w2)⟩

abbrev EL0 : List (String × Nat) := [("java/lang/String", 7)]
theorem own_atoms {Z : State} {a0 : Array Value} (hw : ∀ d ∈ tables_1, d.before a0 Z = true) : ∀ a ∈ Bundle.stringAtoms, a.before a0 Z = true := by
  intro a ha
  simp only [Bundle.stringAtoms, List.mem_cons, List.not_mem_nil, or_false] at ha
  rcases ha with rfl | rfl | rfl | rfl | rfl | rfl | rfl
  · exact (hw _ (List.mem_of_getElem? (i := 7) rfl))
  · exact (hw _ (List.mem_of_getElem? (i := 6) rfl))
  · exact (hw _ (List.mem_of_getElem? (i := 23) rfl))
  · exact (hw _ (List.mem_of_getElem? (i := 33) rfl))
  · exact (hw _ (List.mem_of_getElem? (i := 31) rfl))
  · exact (hw _ (List.mem_of_getElem? (i := 35) rfl))
  · exact (hw _ (List.mem_of_getElem? (i := 36) rfl))
theorem own_EL {Z : State} {a0 : Array Value} (hw : ∀ d ∈ tables_1, d.before a0 Z = true) : EW Z a0 EL0 := EW.cons (hw _ (List.mem_of_getElem? (i := 34) rfl)) (fun c hc => by simp at hc) EW.nil
theorem own_cr {Z s T : State} {EL : List (String × Nat)} {vm vm1 : Vm} {h0 h : Heap} (a : s.heap = h0) (b : T.heap = h) (q : CHr Z EL vm h0 vm1 h) : CHr Z EL vm s.heap vm1 T.heap := by rw [a, b]; exact q
theorem own_neI {args : Array Value} {Z : State} {t : Term} {i j : Int32} (h : (Jvm.Cond.not (.eq t (.int i))).value args Z none Z [] = some true) (e : t.eval args Z none [] Z = some (.int j)) : ¬ j = i := by
  rintro rfl
  have := not_v h
  simp [Cond.value, Term.eval, e] at this
def CutC (len c0 c1 : Int32) (vs : List Value) : Prop := (len = 0 ∧ vs = []) ∨ (len = 1 ∧ vs = [.int (nar .char c0)]) ∨ (len = 2 ∧ vs = [.int (nar .char c0), .int (nar .char c1)])
def CutB (len c0 c1 : Int32) (vs : List Value) : Prop := (len = 0 ∧ vs = []) ∨ (len = 1 ∧ vs = [.int (nar .byte ((nar .char c0).toInt8.toInt32))]) ∨ (len = 2 ∧ vs = [.int (nar .byte ((nar .char c0).toInt8.toInt32)), .int (nar .byte ((nar .char c1).toInt8.toInt32))])
/-- the two texts are alike -/
def SK (len1 len2 c0 c1 d0 d1 : Int32) : Prop := len1 = len2 ∧ (¬ len1 < 1 → (nar .byte ((nar .char c0).toInt8.toInt32)) = (nar .byte ((nar .char d0).toInt8.toInt32))) ∧ (¬ len1 < 2 → (nar .byte ((nar .char c1).toInt8.toInt32)) = (nar .byte ((nar .char d1).toInt8.toInt32)))
theorem own_nar0 : nar .byte (0 : Int32) = 0 := by decide +kernel

theorem d1_0 : decode method_2_code 0 = .ok (.iload_n 0, 1) := by decide +kernel
theorem d1_1 : decode method_2_code 1 = .ok (.ifCond .ne 7, 3) := by decide +kernel
theorem d1_4 : decode method_2_code 4 = .ok (.iconst 0, 1) := by decide +kernel
theorem d1_5 : decode method_2_code 5 = .ok (.newarray .char, 2) := by decide +kernel
theorem d1_7 : decode method_2_code 7 = .ok (.areturn, 1) := by decide +kernel
theorem ef_m0 (m : MethodId) (x0 : Int32) (x1 : Int32) (x2 : Int32) : entryFrame m #[(.int x0), (.int x1), (.int x2)] 3 = mkF m 0 #[.val (.int x0), .val (.int x1), .val (.int x2)] [] := by first | (simp [entryFrame, mkF, argsToLocals, Value.category]; done) | rfl
set_option maxRecDepth 65536 in
set_option maxHeartbeats 40000000 in
theorem rmm0 (l : Launch) (Z : State) (a0 : Array Value) (hw : ∀ d ∈ tables_1, d.before a0 Z = true) (ws : List Jvm.Cond) (c0 c1 : Int32) (h0 : Heap) (n0 : Nat) (Z0 : n0 ≤ h0.size) :
    Meets l Z (⟨"com/example/covenant/covenant/ElementaryConditionEqualsPinLaw", "make", "(ICC)[C"⟩ : MethodName) method_2_code 3 (some (.array .char)) ({ frames := 0, cells := 1, slots := 2, locals := 0 } : Room) ws #[(.int (0 : Int32)), (.int c0), (.int c1)] h0 (fun v h L => ∃ x k vs, v = some (.ref x) ∧ Fr n0 L ∧ Ext h0 h ∧ h0.size ≤ x ∧ CutC (0 : Int32) c0 c1 vs ∧ Arv Z h x k .char (0 : Int32) vs (.int (0 : Int32))) := by
  refine Meets.of (plainFor_of_name (by first | (simp [plainName, overriddenIn]; done) | decide +kernel : plainName "com/example/covenant/covenant/ElementaryConditionEqualsPinLaw" = true)) ?_
  intro p e s m below meth c s₁ X0 hx hby hml hret hlk hnm hZ hown e0
  replace hown : s.vm.findClass "com/example/covenant/covenant/ElementaryConditionEqualsPinLaw" = some m.cls := hown
  have N0 := Fr.nil n0
  have Q0 := own_extR h0
  refine Go.cast (ef_m0 m (0 : Int32) c0 c1) ?_
  show Go p e s below _ _ _ s₁ (mkF m 0 #[.val (.int (0 : Int32)), .val (.int c0), .val (.int c1)] [])
  refine Go.st (fun _ kont => XS.iloadN X0.here hx rfl (hb hby d1_0) rfl kont) ?_
  show Go p e s below _ _ _ s₁ (mkF m 1 #[.val (.int (0 : Int32)), .val (.int c0), .val (.int c1)] [(.int (0 : Int32))])
  refine Go.st (fun _ kont => XS.ifNo X0.here hx rfl (hb hby d1_1) rfl ((if0 _ _).trans (teq rfl).2) kont) ?_
  show Go p e s below _ _ _ s₁ (mkF m 4 #[.val (.int (0 : Int32)), .val (.int c0), .val (.int c1)] [])
  refine Go.st (fun _ kont => XT.iconstV X0.here hx rfl (0 : Int32) (hb hby d1_4) (by decide) kont) ?_
  show Go p e s below _ _ _ s₁ (mkF m 5 #[.val (.int (0 : Int32)), .val (.int c0), .val (.int c1)] [(.int (0 : Int32))])
  obtain ⟨T1, h1, k1, X1, e1, E1, A1, Y1, st1⟩ := newPE X0 hx hZ (hw _ (List.mem_of_getElem? (i := 4) rfl)) e0 (g := (mkF m 5 #[.val (.int (0 : Int32)), .val (.int c0), .val (.int c1)] [(.int (0 : Int32))])) rfl (hb hby d1_5) rfl (by decide) (cap := 0) (by decide) (by decide) (by decide) (by decide) (ad := "[C") (by decide)
  obtain ⟨b1, g1⟩ : ∃ z, z = h0.size := ⟨_, rfl⟩
  rw [← g1] at A1 Y1 st1
  have sz1 : h0.size ≤ b1 := Nat.le_trans Q0.1 (Nat.le_of_eq g1.symm)
  have gn1 : n0 ≤ b1 := Nat.le_trans Z0 sz1
  refine Go.st st1 ?_
  have Q_1 : Ext h0 h1 := own_extE Q0 E1
  have V_b1 : Arv Z h1 b1 k1 .char (0 : Int32) [] (.int (0 : Int32)) := (Arv.new A1 (by decide))
  show Go p e s below _ _ _ T1 (mkF m 7 #[.val (.int (0 : Int32)), .val (.int c0), .val (.int c1)] [(.ref b1)])
  exact Go.retA X1 hx hlk hret rfl rfl (hb hby d1_7) (by decide) (by decide) ⟨b1, k1, _, rfl, N0, (by rw [e1]; exact Q_1), sz1, (Or.inl ⟨rfl, rfl⟩), (by rw [e1]; exact V_b1)⟩
theorem d1_8 : decode method_2_code 8 = .ok (.iload_n 0, 1) := by decide +kernel
theorem d1_9 : decode method_2_code 9 = .ok (.iconst 1, 1) := by decide +kernel
theorem d1_10 : decode method_2_code 10 = .ok (.if_icmp .ne 11, 3) := by decide +kernel
theorem d1_13 : decode method_2_code 13 = .ok (.iconst 1, 1) := by decide +kernel
theorem d1_14 : decode method_2_code 14 = .ok (.newarray .char, 2) := by decide +kernel
theorem d1_16 : decode method_2_code 16 = .ok (.dup, 1) := by decide +kernel
theorem d1_17 : decode method_2_code 17 = .ok (.iconst 0, 1) := by decide +kernel
theorem d1_18 : decode method_2_code 18 = .ok (.iload_n 1, 1) := by decide +kernel
theorem d1_19 : decode method_2_code 19 = .ok (.castore, 1) := by decide +kernel
theorem d1_20 : decode method_2_code 20 = .ok (.areturn, 1) := by decide +kernel
theorem ef_m1 (m : MethodId) (x0 : Int32) (x1 : Int32) (x2 : Int32) : entryFrame m #[(.int x0), (.int x1), (.int x2)] 3 = mkF m 0 #[.val (.int x0), .val (.int x1), .val (.int x2)] [] := by first | (simp [entryFrame, mkF, argsToLocals, Value.category]; done) | rfl
set_option maxRecDepth 65536 in
set_option maxHeartbeats 40000000 in
theorem rmm1 (l : Launch) (Z : State) (a0 : Array Value) (hw : ∀ d ∈ tables_1, d.before a0 Z = true) (ws : List Jvm.Cond) (c0 c1 : Int32) (h0 : Heap) (n0 : Nat) (Z0 : n0 ≤ h0.size) :
    Meets l Z (⟨"com/example/covenant/covenant/ElementaryConditionEqualsPinLaw", "make", "(ICC)[C"⟩ : MethodName) method_2_code 3 (some (.array .char)) ({ frames := 0, cells := 1, slots := 2, locals := 0 } : Room) ws #[(.int (1 : Int32)), (.int c0), (.int c1)] h0 (fun v h L => ∃ x k vs, v = some (.ref x) ∧ Fr n0 L ∧ Ext h0 h ∧ h0.size ≤ x ∧ CutC (1 : Int32) c0 c1 vs ∧ Arv Z h x k .char (1 : Int32) vs (.int (0 : Int32))) := by
  refine Meets.of (plainFor_of_name (by first | (simp [plainName, overriddenIn]; done) | decide +kernel : plainName "com/example/covenant/covenant/ElementaryConditionEqualsPinLaw" = true)) ?_
  intro p e s m below meth c s₁ X0 hx hby hml hret hlk hnm hZ hown e0
  replace hown : s.vm.findClass "com/example/covenant/covenant/ElementaryConditionEqualsPinLaw" = some m.cls := hown
  have N0 := Fr.nil n0
  have Q0 := own_extR h0
  refine Go.cast (ef_m1 m (1 : Int32) c0 c1) ?_
  show Go p e s below _ _ _ s₁ (mkF m 0 #[.val (.int (1 : Int32)), .val (.int c0), .val (.int c1)] [])
  refine Go.st (fun _ kont => XS.iloadN X0.here hx rfl (hb hby d1_0) rfl kont) ?_
  show Go p e s below _ _ _ s₁ (mkF m 1 #[.val (.int (1 : Int32)), .val (.int c0), .val (.int c1)] [(.int (1 : Int32))])
  refine Go.st (fun _ kont => XS.ifYes X0.here hx rfl (pc0 := 1) (pc' := 8) rfl (hb hby d1_1) rfl ((if0 _ _).trans (feq (by decide : ¬ ((1 : Int32) = (0 : Int32)))).2) (by decide) (by decide) kont) ?_
  show Go p e s below _ _ _ s₁ (mkF m 8 #[.val (.int (1 : Int32)), .val (.int c0), .val (.int c1)] [])
  refine Go.st (fun _ kont => XS.iloadN X0.here hx rfl (hb hby d1_8) rfl kont) ?_
  show Go p e s below _ _ _ s₁ (mkF m 9 #[.val (.int (1 : Int32)), .val (.int c0), .val (.int c1)] [(.int (1 : Int32))])
  refine Go.st (fun _ kont => XT.iconstV X0.here hx rfl (1 : Int32) (hb hby d1_9) (by decide) kont) ?_
  show Go p e s below _ _ _ s₁ (mkF m 10 #[.val (.int (1 : Int32)), .val (.int c0), .val (.int c1)] [(.int (1 : Int32)), (.int (1 : Int32))])
  refine Go.st (fun _ kont => XS.icmpNo X0.here hx rfl (hb hby d1_10) rfl (teq rfl).2 kont) ?_
  show Go p e s below _ _ _ s₁ (mkF m 13 #[.val (.int (1 : Int32)), .val (.int c0), .val (.int c1)] [])
  refine Go.st (fun _ kont => XT.iconstV X0.here hx rfl (1 : Int32) (hb hby d1_13) (by decide) kont) ?_
  show Go p e s below _ _ _ s₁ (mkF m 14 #[.val (.int (1 : Int32)), .val (.int c0), .val (.int c1)] [(.int (1 : Int32))])
  obtain ⟨T1, h1, k1, X1, e1, E1, A1, Y1, st1⟩ := newPE X0 hx hZ (hw _ (List.mem_of_getElem? (i := 4) rfl)) e0 (g := (mkF m 14 #[.val (.int (1 : Int32)), .val (.int c0), .val (.int c1)] [(.int (1 : Int32))])) rfl (hb hby d1_14) rfl (by decide) (cap := 1) (by decide) (by decide) (by decide) (by decide) (ad := "[C") (by decide)
  obtain ⟨b1, g1⟩ : ∃ z, z = h0.size := ⟨_, rfl⟩
  rw [← g1] at A1 Y1 st1
  have sz1 : h0.size ≤ b1 := Nat.le_trans Q0.1 (Nat.le_of_eq g1.symm)
  have gn1 : n0 ≤ b1 := Nat.le_trans Z0 sz1
  refine Go.st st1 ?_
  have Q_1 : Ext h0 h1 := own_extE Q0 E1
  have V_b1 : Arv Z h1 b1 k1 .char (1 : Int32) [(.int (0 : Int32))] (.int (0 : Int32)) := (Arv.new A1 (by decide)).pad (pad_rep [] (.int (0 : Int32)) 1)
  show Go p e s below _ _ _ T1 (mkF m 16 #[.val (.int (1 : Int32)), .val (.int c0), .val (.int c1)] [(.ref b1)])
  refine Go.st (fun _ kont => XS.dup X1.here hx rfl (hb hby d1_16) rfl rfl kont) ?_
  show Go p e s below _ _ _ T1 (mkF m 17 #[.val (.int (1 : Int32)), .val (.int c0), .val (.int c1)] [(.ref b1), (.ref b1)])
  refine Go.st (fun _ kont => XT.iconstV X1.here hx rfl (0 : Int32) (hb hby d1_17) (by decide) kont) ?_
  show Go p e s below _ _ _ T1 (mkF m 18 #[.val (.int (1 : Int32)), .val (.int c0), .val (.int c1)] [(.int (0 : Int32)), (.ref b1), (.ref b1)])
  refine Go.st (fun _ kont => XS.iloadN X1.here hx rfl (hb hby d1_18) rfl kont) ?_
  show Go p e s below _ _ _ T1 (mkF m 19 #[.val (.int (1 : Int32)), .val (.int c0), .val (.int c1)] [(.int c0), (.int (0 : Int32)), (.ref b1), (.ref b1)])
  obtain ⟨cl2, Ar2, q2, S2, M2, H2, G2⟩ := (id V_b1)
  have in2 : ¬ ((0 : Int32) < 0 ∨ cl2.slots.size ≤ ((0 : Int32)).toNatClampNeg) := inb_of S2 ⟨by decide, by decide⟩
  obtain ⟨T2, h2, X2, e2, W2, st2⟩ := stC X1 hx hZ e1 Ar2 (j := (0 : Int32)) in2 (g := (mkF m 19 #[.val (.int (1 : Int32)), .val (.int c0), .val (.int c1)] [(.int c0), (.int (0 : Int32)), (.ref b1), (.ref b1)])) rfl rfl (hb hby d1_19)
  refine Go.st st2 ?_
  have V_b1_2 : Arv Z h2 b1 k1 .char (1 : Int32) [(.int (nar .char c0))] (.int (0 : Int32)) := Arv.set Ar2 q2 S2 M2 H2 G2 (fits_nar_char _) W2 0 rfl (by simp)
  have Q_2 : Ext h0 h2 := own_extW Q_1 W2 sz1
  have E_b1_2 := Y1.wr W2
  have N2 := Fr.snoc X2 N0 gn1
  show Go p e s below _ _ _ T2 (mkF m 20 #[.val (.int (1 : Int32)), .val (.int c0), .val (.int c1)] [(.ref b1)])
  exact Go.retA X2 hx hlk hret rfl rfl (hb hby d1_20) (by decide) (by decide) ⟨b1, k1, _, rfl, N2, (by rw [e2]; exact Q_2), sz1, (Or.inr (Or.inl ⟨rfl, rfl⟩)), (by rw [e2]; exact V_b1_2)⟩
theorem d1_21 : decode method_2_code 21 = .ok (.iconst 2, 1) := by decide +kernel
theorem d1_22 : decode method_2_code 22 = .ok (.newarray .char, 2) := by decide +kernel
theorem d1_24 : decode method_2_code 24 = .ok (.dup, 1) := by decide +kernel
theorem d1_25 : decode method_2_code 25 = .ok (.iconst 0, 1) := by decide +kernel
theorem d1_26 : decode method_2_code 26 = .ok (.iload_n 1, 1) := by decide +kernel
theorem d1_27 : decode method_2_code 27 = .ok (.castore, 1) := by decide +kernel
theorem d1_28 : decode method_2_code 28 = .ok (.dup, 1) := by decide +kernel
theorem d1_29 : decode method_2_code 29 = .ok (.iconst 1, 1) := by decide +kernel
theorem d1_30 : decode method_2_code 30 = .ok (.iload_n 2, 1) := by decide +kernel
theorem d1_31 : decode method_2_code 31 = .ok (.castore, 1) := by decide +kernel
theorem d1_32 : decode method_2_code 32 = .ok (.areturn, 1) := by decide +kernel
theorem ef_m2 (m : MethodId) (x0 : Int32) (x1 : Int32) (x2 : Int32) : entryFrame m #[(.int x0), (.int x1), (.int x2)] 3 = mkF m 0 #[.val (.int x0), .val (.int x1), .val (.int x2)] [] := by first | (simp [entryFrame, mkF, argsToLocals, Value.category]; done) | rfl
set_option maxRecDepth 65536 in
set_option maxHeartbeats 40000000 in
theorem rmm2 (l : Launch) (Z : State) (a0 : Array Value) (hw : ∀ d ∈ tables_1, d.before a0 Z = true) (ws : List Jvm.Cond) (c0 c1 : Int32) (h0 : Heap) (n0 : Nat) (Z0 : n0 ≤ h0.size) :
    Meets l Z (⟨"com/example/covenant/covenant/ElementaryConditionEqualsPinLaw", "make", "(ICC)[C"⟩ : MethodName) method_2_code 3 (some (.array .char)) ({ frames := 0, cells := 1, slots := 2, locals := 0 } : Room) ws #[(.int (2 : Int32)), (.int c0), (.int c1)] h0 (fun v h L => ∃ x k vs, v = some (.ref x) ∧ Fr n0 L ∧ Ext h0 h ∧ h0.size ≤ x ∧ CutC (2 : Int32) c0 c1 vs ∧ Arv Z h x k .char (2 : Int32) vs (.int (0 : Int32))) := by
  refine Meets.of (plainFor_of_name (by first | (simp [plainName, overriddenIn]; done) | decide +kernel : plainName "com/example/covenant/covenant/ElementaryConditionEqualsPinLaw" = true)) ?_
  intro p e s m below meth c s₁ X0 hx hby hml hret hlk hnm hZ hown e0
  replace hown : s.vm.findClass "com/example/covenant/covenant/ElementaryConditionEqualsPinLaw" = some m.cls := hown
  have N0 := Fr.nil n0
  have Q0 := own_extR h0
  refine Go.cast (ef_m2 m (2 : Int32) c0 c1) ?_
  show Go p e s below _ _ _ s₁ (mkF m 0 #[.val (.int (2 : Int32)), .val (.int c0), .val (.int c1)] [])
  refine Go.st (fun _ kont => XS.iloadN X0.here hx rfl (hb hby d1_0) rfl kont) ?_
  show Go p e s below _ _ _ s₁ (mkF m 1 #[.val (.int (2 : Int32)), .val (.int c0), .val (.int c1)] [(.int (2 : Int32))])
  refine Go.st (fun _ kont => XS.ifYes X0.here hx rfl (pc0 := 1) (pc' := 8) rfl (hb hby d1_1) rfl ((if0 _ _).trans (feq (by decide : ¬ ((2 : Int32) = (0 : Int32)))).2) (by decide) (by decide) kont) ?_
  show Go p e s below _ _ _ s₁ (mkF m 8 #[.val (.int (2 : Int32)), .val (.int c0), .val (.int c1)] [])
  refine Go.st (fun _ kont => XS.iloadN X0.here hx rfl (hb hby d1_8) rfl kont) ?_
  show Go p e s below _ _ _ s₁ (mkF m 9 #[.val (.int (2 : Int32)), .val (.int c0), .val (.int c1)] [(.int (2 : Int32))])
  refine Go.st (fun _ kont => XT.iconstV X0.here hx rfl (1 : Int32) (hb hby d1_9) (by decide) kont) ?_
  show Go p e s below _ _ _ s₁ (mkF m 10 #[.val (.int (2 : Int32)), .val (.int c0), .val (.int c1)] [(.int (1 : Int32)), (.int (2 : Int32))])
  refine Go.st (fun _ kont => XS.icmpYes X0.here hx rfl (pc0 := 10) (pc' := 21) rfl (hb hby d1_10) rfl (feq (by decide : ¬ ((2 : Int32) = (1 : Int32)))).2 (by decide) (by decide) kont) ?_
  show Go p e s below _ _ _ s₁ (mkF m 21 #[.val (.int (2 : Int32)), .val (.int c0), .val (.int c1)] [])
  refine Go.st (fun _ kont => XT.iconstV X0.here hx rfl (2 : Int32) (hb hby d1_21) (by decide) kont) ?_
  show Go p e s below _ _ _ s₁ (mkF m 22 #[.val (.int (2 : Int32)), .val (.int c0), .val (.int c1)] [(.int (2 : Int32))])
  obtain ⟨T1, h1, k1, X1, e1, E1, A1, Y1, st1⟩ := newPE X0 hx hZ (hw _ (List.mem_of_getElem? (i := 4) rfl)) e0 (g := (mkF m 22 #[.val (.int (2 : Int32)), .val (.int c0), .val (.int c1)] [(.int (2 : Int32))])) rfl (hb hby d1_22) rfl (by decide) (cap := 2) (by decide) (by decide) (by decide) (by decide) (ad := "[C") (by decide)
  obtain ⟨b1, g1⟩ : ∃ z, z = h0.size := ⟨_, rfl⟩
  rw [← g1] at A1 Y1 st1
  have sz1 : h0.size ≤ b1 := Nat.le_trans Q0.1 (Nat.le_of_eq g1.symm)
  have gn1 : n0 ≤ b1 := Nat.le_trans Z0 sz1
  refine Go.st st1 ?_
  have Q_1 : Ext h0 h1 := own_extE Q0 E1
  have V_b1 : Arv Z h1 b1 k1 .char (2 : Int32) [(.int (0 : Int32)), (.int (0 : Int32))] (.int (0 : Int32)) := (Arv.new A1 (by decide)).pad (pad_rep [] (.int (0 : Int32)) 2)
  show Go p e s below _ _ _ T1 (mkF m 24 #[.val (.int (2 : Int32)), .val (.int c0), .val (.int c1)] [(.ref b1)])
  refine Go.st (fun _ kont => XS.dup X1.here hx rfl (hb hby d1_24) rfl rfl kont) ?_
  show Go p e s below _ _ _ T1 (mkF m 25 #[.val (.int (2 : Int32)), .val (.int c0), .val (.int c1)] [(.ref b1), (.ref b1)])
  refine Go.st (fun _ kont => XT.iconstV X1.here hx rfl (0 : Int32) (hb hby d1_25) (by decide) kont) ?_
  show Go p e s below _ _ _ T1 (mkF m 26 #[.val (.int (2 : Int32)), .val (.int c0), .val (.int c1)] [(.int (0 : Int32)), (.ref b1), (.ref b1)])
  refine Go.st (fun _ kont => XS.iloadN X1.here hx rfl (hb hby d1_26) rfl kont) ?_
  show Go p e s below _ _ _ T1 (mkF m 27 #[.val (.int (2 : Int32)), .val (.int c0), .val (.int c1)] [(.int c0), (.int (0 : Int32)), (.ref b1), (.ref b1)])
  obtain ⟨cl2, Ar2, q2, S2, M2, H2, G2⟩ := (id V_b1)
  have in2 : ¬ ((0 : Int32) < 0 ∨ cl2.slots.size ≤ ((0 : Int32)).toNatClampNeg) := inb_of S2 ⟨by decide, by decide⟩
  obtain ⟨T2, h2, X2, e2, W2, st2⟩ := stC X1 hx hZ e1 Ar2 (j := (0 : Int32)) in2 (g := (mkF m 27 #[.val (.int (2 : Int32)), .val (.int c0), .val (.int c1)] [(.int c0), (.int (0 : Int32)), (.ref b1), (.ref b1)])) rfl rfl (hb hby d1_27)
  refine Go.st st2 ?_
  have V_b1_2 : Arv Z h2 b1 k1 .char (2 : Int32) [(.int (nar .char c0)), (.int (0 : Int32))] (.int (0 : Int32)) := Arv.set Ar2 q2 S2 M2 H2 G2 (fits_nar_char _) W2 0 rfl (by simp)
  have Q_2 : Ext h0 h2 := own_extW Q_1 W2 sz1
  have E_b1_2 := Y1.wr W2
  have N2 := Fr.snoc X2 N0 gn1
  show Go p e s below _ _ _ T2 (mkF m 28 #[.val (.int (2 : Int32)), .val (.int c0), .val (.int c1)] [(.ref b1)])
  refine Go.st (fun _ kont => XS.dup X2.here hx rfl (hb hby d1_28) rfl rfl kont) ?_
  show Go p e s below _ _ _ T2 (mkF m 29 #[.val (.int (2 : Int32)), .val (.int c0), .val (.int c1)] [(.ref b1), (.ref b1)])
  refine Go.st (fun _ kont => XT.iconstV X2.here hx rfl (1 : Int32) (hb hby d1_29) (by decide) kont) ?_
  show Go p e s below _ _ _ T2 (mkF m 30 #[.val (.int (2 : Int32)), .val (.int c0), .val (.int c1)] [(.int (1 : Int32)), (.ref b1), (.ref b1)])
  refine Go.st (fun _ kont => XS.iloadN X2.here hx rfl (hb hby d1_30) rfl kont) ?_
  show Go p e s below _ _ _ T2 (mkF m 31 #[.val (.int (2 : Int32)), .val (.int c0), .val (.int c1)] [(.int c1), (.int (1 : Int32)), (.ref b1), (.ref b1)])
  obtain ⟨cl3, Ar3, q3, S3, M3, H3, G3⟩ := (id V_b1_2)
  have in3 : ¬ ((1 : Int32) < 0 ∨ cl3.slots.size ≤ ((1 : Int32)).toNatClampNeg) := inb_of S3 ⟨by decide, by decide⟩
  obtain ⟨T3, h3, X3, e3, W3, st3⟩ := stC X2 hx hZ e2 Ar3 (j := (1 : Int32)) in3 (g := (mkF m 31 #[.val (.int (2 : Int32)), .val (.int c0), .val (.int c1)] [(.int c1), (.int (1 : Int32)), (.ref b1), (.ref b1)])) rfl rfl (hb hby d1_31)
  refine Go.st st3 ?_
  have V_b1_3 : Arv Z h3 b1 k1 .char (2 : Int32) [(.int (nar .char c0)), (.int (nar .char c1))] (.int (0 : Int32)) := Arv.set Ar3 q3 S3 M3 H3 G3 (fits_nar_char _) W3 1 rfl (by simp)
  have Q_3 : Ext h0 h3 := own_extW Q_2 W3 sz1
  have E_b1_3 := E_b1_2.wr W3
  have N3 := Fr.snoc X3 N2 gn1
  show Go p e s below _ _ _ T3 (mkF m 32 #[.val (.int (2 : Int32)), .val (.int c0), .val (.int c1)] [(.ref b1)])
  exact Go.retA X3 hx hlk hret rfl rfl (hb hby d1_32) (by decide) (by decide) ⟨b1, k1, _, rfl, N3, (by rw [e3]; exact Q_3), sz1, (Or.inr (Or.inr ⟨rfl, rfl⟩)), (by rw [e3]; exact V_b1_3)⟩
theorem rmm (l : Launch) (Z : State) (a0 : Array Value) (hw : ∀ d ∈ tables_1, d.before a0 Z = true) (ws : List Jvm.Cond) (len c0 c1 : Int32) (hl : len = 0 ∨ len = 1 ∨ len = 2) (h0 : Heap) (n0 : Nat) (Z0 : n0 ≤ h0.size) :
    Meets l Z (⟨"com/example/covenant/covenant/ElementaryConditionEqualsPinLaw", "make", "(ICC)[C"⟩ : MethodName) method_2_code 3 (some (.array .char)) ({ frames := 0, cells := 1, slots := 2, locals := 0 } : Room) ws #[(.int len), (.int c0), (.int c1)] h0 (fun v h L => ∃ x k vs, v = some (.ref x) ∧ Fr n0 L ∧ Ext h0 h ∧ h0.size ≤ x ∧ CutC len c0 c1 vs ∧ Arv Z h x k .char len vs (.int (0 : Int32))) := by
  rcases hl with rfl | rfl | rfl
  · exact rmm0 l Z a0 hw ws c0 c1 h0 n0 Z0
  · exact rmm1 l Z a0 hw ws c0 c1 h0 n0 Z0
  · exact rmm2 l Z a0 hw ws c0 c1 h0 n0 Z0
theorem d6_0 : decode jdk_52_method_21_code 0 = .ok (.iconst 0, 1) := by decide +kernel
theorem d6_1 : decode jdk_52_method_21_code 1 = .ok (.istore 5, 2) := by decide +kernel
theorem d6_3 : decode jdk_52_method_21_code 3 = .ok (.iload 5, 2) := by decide +kernel
theorem d6_5 : decode jdk_52_method_21_code 5 = .ok (.iload 4, 2) := by decide +kernel
theorem d6_7 : decode jdk_52_method_21_code 7 = .ok (.if_icmp .ge 37, 3) := by decide +kernel
theorem d6_10 : decode jdk_52_method_21_code 10 = .ok (.aload_n 0, 1) := by decide +kernel
theorem d6_11 : decode jdk_52_method_21_code 11 = .ok (.iload_n 1, 1) := by decide +kernel
theorem d6_12 : decode jdk_52_method_21_code 12 = .ok (.caload, 1) := by decide +kernel
theorem d6_13 : decode jdk_52_method_21_code 13 = .ok (.istore 6, 2) := by decide +kernel
theorem d6_15 : decode jdk_52_method_21_code 15 = .ok (.iload 6, 2) := by decide +kernel
theorem d6_17 : decode jdk_52_method_21_code 17 = .ok (.sipush 255, 3) := by decide +kernel
theorem d6_20 : decode jdk_52_method_21_code 20 = .ok (.if_icmp .le 6, 3) := by decide +kernel
theorem d6_26 : decode jdk_52_method_21_code 26 = .ok (.aload_n 2, 1) := by decide +kernel
theorem d6_27 : decode jdk_52_method_21_code 27 = .ok (.iload_n 3, 1) := by decide +kernel
theorem d6_28 : decode jdk_52_method_21_code 28 = .ok (.iload 6, 2) := by decide +kernel
theorem d6_30 : decode jdk_52_method_21_code 30 = .ok (.i2b, 1) := by decide +kernel
theorem d6_31 : decode jdk_52_method_21_code 31 = .ok (.bastore, 1) := by decide +kernel
theorem d6_32 : decode jdk_52_method_21_code 32 = .ok (.iinc 1 1, 3) := by decide +kernel
theorem d6_35 : decode jdk_52_method_21_code 35 = .ok (.iinc 3 1, 3) := by decide +kernel
theorem d6_38 : decode jdk_52_method_21_code 38 = .ok (.iinc 5 1, 3) := by decide +kernel
theorem d6_41 : decode jdk_52_method_21_code 41 = .ok (.goto (-38), 3) := by decide +kernel
theorem d6_44 : decode jdk_52_method_21_code 44 = .ok (.iload 4, 2) := by decide +kernel
theorem d6_46 : decode jdk_52_method_21_code 46 = .ok (.ireturn, 1) := by decide +kernel
theorem ef_c1 (m : MethodId) (x0 : Addr) (x1 : Int32) (x2 : Addr) (x3 : Int32) (x4 : Int32) : entryFrame m #[(.ref x0), (.int x1), (.ref x2), (.int x3), (.int x4)] 7 = mkF m 0 #[.val (.ref x0), .val (.int x1), .val (.ref x2), .val (.int x3), .val (.int x4), .unset, .unset] [] := by first | (simp [entryFrame, mkF, argsToLocals, Value.category]; done) | rfl
set_option maxRecDepth 65536 in
set_option maxHeartbeats 40000000 in
theorem rmc1 (l : Launch) (Z : State) (a0 : Array Value) (hw : ∀ d ∈ tables_1, d.before a0 Z = true) (ws : List Jvm.Cond) (xa xb : Addr) (ka kb : ClassId) (c0 c1 : Int32) (hc0 : ¬ ((255 : Int32) < (nar .char c0))) (hc1 : ¬ ((255 : Int32) < (nar .char c1))) (h0 : Heap) (n0 : Nat) (gb : n0 ≤ xb) (hab : xa ≠ xb) (VA : Arv Z h0 xa ka .char (1 : Int32) [(.int (nar .char c0))] (.int (0 : Int32))) (VB : Arv Z h0 xb kb .byte (1 : Int32) [(.int (0 : Int32))] (.int (0 : Int32))) :
    Meets l Z (⟨"java/lang/StringUTF16", "compress", "([CI[BII)I"⟩ : MethodName) jdk_52_method_21_code 7 (some .int) ({ frames := 0, cells := 0, slots := 0, locals := 0 } : Room) ws #[(.ref xa), (.int (0 : Int32)), (.ref xb), (.int (0 : Int32)), (.int (1 : Int32))] h0 (fun v h L => v = some (.int (1 : Int32)) ∧ Fr n0 L ∧ Keep h0 h [xb] ∧ Arv Z h xb kb .byte (1 : Int32) [(.int (nar .byte ((nar .char c0).toInt8.toInt32)))] (.int (0 : Int32))) := by
  refine Meets.of (plainFor_of_name (by first | (simp [plainName, overriddenIn]; done) | decide +kernel : plainName "java/lang/StringUTF16" = true)) ?_
  intro p e s m below meth c s₁ X0 hx hby hml hret hlk hnm hZ hown e0
  replace hown : s.vm.findClass "java/lang/StringUTF16" = some m.cls := hown
  have N0 := Fr.nil n0
  have K0 := Keep.refl h0 [xb]
  refine Go.cast (ef_c1 m xa (0 : Int32) xb (0 : Int32) (1 : Int32)) ?_
  show Go p e s below _ _ _ s₁ (mkF m 0 #[.val (.ref xa), .val (.int (0 : Int32)), .val (.ref xb), .val (.int (0 : Int32)), .val (.int (1 : Int32)), .unset, .unset] [])
  refine Go.st (fun _ kont => XT.iconstV X0.here hx rfl (0 : Int32) (hb hby d6_0) (by decide) kont) ?_
  show Go p e s below _ _ _ s₁ (mkF m 1 #[.val (.ref xa), .val (.int (0 : Int32)), .val (.ref xb), .val (.int (0 : Int32)), .val (.int (1 : Int32)), .unset, .unset] [(.int (0 : Int32))])
  refine Go.st (fun _ kont => XS.istore X0.here hx rfl (hb hby d6_1) rfl (l' := #[.val (.ref xa), .val (.int (0 : Int32)), .val (.ref xb), .val (.int (0 : Int32)), .val (.int (1 : Int32)), .val (.int (0 : Int32)), .unset]) rfl kont) ?_
  show Go p e s below _ _ _ s₁ (mkF m 3 #[.val (.ref xa), .val (.int (0 : Int32)), .val (.ref xb), .val (.int (0 : Int32)), .val (.int (1 : Int32)), .val (.int (0 : Int32)), .unset] [])
  refine Go.st (fun _ kont => XS.iload X0.here hx rfl (hb hby d6_3) rfl kont) ?_
  show Go p e s below _ _ _ s₁ (mkF m 5 #[.val (.ref xa), .val (.int (0 : Int32)), .val (.ref xb), .val (.int (0 : Int32)), .val (.int (1 : Int32)), .val (.int (0 : Int32)), .unset] [(.int (0 : Int32))])
  refine Go.st (fun _ kont => XS.iload X0.here hx rfl (hb hby d6_5) rfl kont) ?_
  show Go p e s below _ _ _ s₁ (mkF m 7 #[.val (.ref xa), .val (.int (0 : Int32)), .val (.ref xb), .val (.int (0 : Int32)), .val (.int (1 : Int32)), .val (.int (0 : Int32)), .unset] [(.int (1 : Int32)), (.int (0 : Int32))])
  refine Go.st (fun _ kont => XS.icmpNo X0.here hx rfl (hb hby d6_7) rfl (tlt (by decide : (0 : Int32) < (1 : Int32))).2.1 kont) ?_
  show Go p e s below _ _ _ s₁ (mkF m 10 #[.val (.ref xa), .val (.int (0 : Int32)), .val (.ref xb), .val (.int (0 : Int32)), .val (.int (1 : Int32)), .val (.int (0 : Int32)), .unset] [])
  refine Go.st (fun _ kont => XS.aloadN X0.here hx rfl (hb hby d6_10) rfl rfl kont) ?_
  show Go p e s below _ _ _ s₁ (mkF m 11 #[.val (.ref xa), .val (.int (0 : Int32)), .val (.ref xb), .val (.int (0 : Int32)), .val (.int (1 : Int32)), .val (.int (0 : Int32)), .unset] [(.ref xa)])
  refine Go.st (fun _ kont => XS.iloadN X0.here hx rfl (hb hby d6_11) rfl kont) ?_
  show Go p e s below _ _ _ s₁ (mkF m 12 #[.val (.ref xa), .val (.int (0 : Int32)), .val (.ref xb), .val (.int (0 : Int32)), .val (.int (1 : Int32)), .val (.int (0 : Int32)), .unset] [(.int (0 : Int32)), (.ref xa)])
  obtain ⟨cl1, Ar1, q1, S1, M1, H1, G1⟩ := (id VA)
  have in1 : ¬ ((0 : Int32) < 0 ∨ cl1.slots.size ≤ ((0 : Int32)).toNatClampNeg) := inb_of S1 ⟨by decide, by decide⟩
  refine Go.st (X0.caload hx (j := (0 : Int32)) (v := (.int (nar .char c0))) (by rw [e0]; exact Ar1.1) (State.isArrayOf_alike hZ.alike Ar1.2.1) Ar1.2.2 in1 (Has.at H1 in1 rfl) (g := (mkF m 12 #[.val (.ref xa), .val (.int (0 : Int32)), .val (.ref xb), .val (.int (0 : Int32)), .val (.int (1 : Int32)), .val (.int (0 : Int32)), .unset] [(.int (0 : Int32)), (.ref xa)])) rfl rfl (hb hby d6_12)) ?_
  show Go p e s below _ _ _ s₁ (mkF m 13 #[.val (.ref xa), .val (.int (0 : Int32)), .val (.ref xb), .val (.int (0 : Int32)), .val (.int (1 : Int32)), .val (.int (0 : Int32)), .unset] [(.int (nar .char c0))])
  refine Go.st (fun _ kont => XS.istore X0.here hx rfl (hb hby d6_13) rfl (l' := #[.val (.ref xa), .val (.int (0 : Int32)), .val (.ref xb), .val (.int (0 : Int32)), .val (.int (1 : Int32)), .val (.int (0 : Int32)), .val (.int (nar .char c0))]) rfl kont) ?_
  show Go p e s below _ _ _ s₁ (mkF m 15 #[.val (.ref xa), .val (.int (0 : Int32)), .val (.ref xb), .val (.int (0 : Int32)), .val (.int (1 : Int32)), .val (.int (0 : Int32)), .val (.int (nar .char c0))] [])
  refine Go.st (fun _ kont => XS.iload X0.here hx rfl (hb hby d6_15) rfl kont) ?_
  show Go p e s below _ _ _ s₁ (mkF m 17 #[.val (.ref xa), .val (.int (0 : Int32)), .val (.ref xb), .val (.int (0 : Int32)), .val (.int (1 : Int32)), .val (.int (0 : Int32)), .val (.int (nar .char c0))] [(.int (nar .char c0))])
  refine Go.st (fun _ kont => XT.sipushV X0.here hx rfl (255 : Int32) (hb hby d6_17) (by decide) kont) ?_
  show Go p e s below _ _ _ s₁ (mkF m 20 #[.val (.ref xa), .val (.int (0 : Int32)), .val (.ref xb), .val (.int (0 : Int32)), .val (.int (1 : Int32)), .val (.int (0 : Int32)), .val (.int (nar .char c0))] [(.int (255 : Int32)), (.int (nar .char c0))])
  refine Go.st (fun _ kont => XS.icmpYes X0.here hx rfl (pc0 := 20) (pc' := 26) rfl (hb hby d6_20) rfl (flt hc0).2.2.2 (by decide) (by decide) kont) ?_
  show Go p e s below _ _ _ s₁ (mkF m 26 #[.val (.ref xa), .val (.int (0 : Int32)), .val (.ref xb), .val (.int (0 : Int32)), .val (.int (1 : Int32)), .val (.int (0 : Int32)), .val (.int (nar .char c0))] [])
  refine Go.st (fun _ kont => XS.aloadN X0.here hx rfl (hb hby d6_26) rfl rfl kont) ?_
  show Go p e s below _ _ _ s₁ (mkF m 27 #[.val (.ref xa), .val (.int (0 : Int32)), .val (.ref xb), .val (.int (0 : Int32)), .val (.int (1 : Int32)), .val (.int (0 : Int32)), .val (.int (nar .char c0))] [(.ref xb)])
  refine Go.st (fun _ kont => XS.iloadN X0.here hx rfl (hb hby d6_27) rfl kont) ?_
  show Go p e s below _ _ _ s₁ (mkF m 28 #[.val (.ref xa), .val (.int (0 : Int32)), .val (.ref xb), .val (.int (0 : Int32)), .val (.int (1 : Int32)), .val (.int (0 : Int32)), .val (.int (nar .char c0))] [(.int (0 : Int32)), (.ref xb)])
  refine Go.st (fun _ kont => XS.iload X0.here hx rfl (hb hby d6_28) rfl kont) ?_
  show Go p e s below _ _ _ s₁ (mkF m 30 #[.val (.ref xa), .val (.int (0 : Int32)), .val (.ref xb), .val (.int (0 : Int32)), .val (.int (1 : Int32)), .val (.int (0 : Int32)), .val (.int (nar .char c0))] [(.int (nar .char c0)), (.int (0 : Int32)), (.ref xb)])
  refine Go.st (fun _ kont => XS.i2b X0.here hx rfl (hb hby d6_30) rfl kont) ?_
  show Go p e s below _ _ _ s₁ (mkF m 31 #[.val (.ref xa), .val (.int (0 : Int32)), .val (.ref xb), .val (.int (0 : Int32)), .val (.int (1 : Int32)), .val (.int (0 : Int32)), .val (.int (nar .char c0))] [(.int ((nar .char c0).toInt8.toInt32)), (.int (0 : Int32)), (.ref xb)])
  obtain ⟨cl2, Ar2, q2, S2, M2, H2, G2⟩ := (id VB)
  have in2 : ¬ ((0 : Int32) < 0 ∨ cl2.slots.size ≤ ((0 : Int32)).toNatClampNeg) := inb_of S2 ⟨by decide, by decide⟩
  obtain ⟨T2, h2, X2, e2, W2, st2⟩ := stB X0 hx hZ e0 Ar2 (j := (0 : Int32)) in2 (g := (mkF m 31 #[.val (.ref xa), .val (.int (0 : Int32)), .val (.ref xb), .val (.int (0 : Int32)), .val (.int (1 : Int32)), .val (.int (0 : Int32)), .val (.int (nar .char c0))] [(.int ((nar .char c0).toInt8.toInt32)), (.int (0 : Int32)), (.ref xb)])) rfl rfl (hb hby d6_31)
  refine Go.st st2 ?_
  have V_xb_2 : Arv Z h2 xb kb .byte (1 : Int32) [(.int (nar .byte ((nar .char c0).toInt8.toInt32)))] (.int (0 : Int32)) := Arv.set Ar2 q2 S2 M2 H2 G2 (fits_nar_byte _) W2 0 rfl (by simp)
  have K_2 : Keep h0 h2 [xb] := K0.wr W2 (Or.inl (List.mem_singleton.mpr rfl))
  have V_xa_2 := VA.other W2 hab
  have N2 := Fr.snoc X2 N0 gb
  show Go p e s below _ _ _ T2 (mkF m 32 #[.val (.ref xa), .val (.int (0 : Int32)), .val (.ref xb), .val (.int (0 : Int32)), .val (.int (1 : Int32)), .val (.int (0 : Int32)), .val (.int (nar .char c0))] [])
  refine Go.st (fun _ kont => XS.iinc X2.here hx rfl (hb hby d6_32) rfl (l' := #[.val (.ref xa), .val (.int (1 : Int32)), .val (.ref xb), .val (.int (0 : Int32)), .val (.int (1 : Int32)), .val (.int (0 : Int32)), .val (.int (nar .char c0))]) rfl kont) ?_
  show Go p e s below _ _ _ T2 (mkF m 35 #[.val (.ref xa), .val (.int (1 : Int32)), .val (.ref xb), .val (.int (0 : Int32)), .val (.int (1 : Int32)), .val (.int (0 : Int32)), .val (.int (nar .char c0))] [])
  refine Go.st (fun _ kont => XS.iinc X2.here hx rfl (hb hby d6_35) rfl (l' := #[.val (.ref xa), .val (.int (1 : Int32)), .val (.ref xb), .val (.int (1 : Int32)), .val (.int (1 : Int32)), .val (.int (0 : Int32)), .val (.int (nar .char c0))]) rfl kont) ?_
  show Go p e s below _ _ _ T2 (mkF m 38 #[.val (.ref xa), .val (.int (1 : Int32)), .val (.ref xb), .val (.int (1 : Int32)), .val (.int (1 : Int32)), .val (.int (0 : Int32)), .val (.int (nar .char c0))] [])
  refine Go.st (fun _ kont => XS.iinc X2.here hx rfl (hb hby d6_38) rfl (l' := #[.val (.ref xa), .val (.int (1 : Int32)), .val (.ref xb), .val (.int (1 : Int32)), .val (.int (1 : Int32)), .val (.int (1 : Int32)), .val (.int (nar .char c0))]) rfl kont) ?_
  show Go p e s below _ _ _ T2 (mkF m 41 #[.val (.ref xa), .val (.int (1 : Int32)), .val (.ref xb), .val (.int (1 : Int32)), .val (.int (1 : Int32)), .val (.int (1 : Int32)), .val (.int (nar .char c0))] [])
  refine Go.st (fun _ kont => XS.goto X2.here hx rfl (pc0 := 41) (pc' := 3) rfl (hb hby d6_41) (by decide) (by decide) kont) ?_
  show Go p e s below _ _ _ T2 (mkF m 3 #[.val (.ref xa), .val (.int (1 : Int32)), .val (.ref xb), .val (.int (1 : Int32)), .val (.int (1 : Int32)), .val (.int (1 : Int32)), .val (.int (nar .char c0))] [])
  refine Go.st (fun _ kont => XS.iload X2.here hx rfl (hb hby d6_3) rfl kont) ?_
  show Go p e s below _ _ _ T2 (mkF m 5 #[.val (.ref xa), .val (.int (1 : Int32)), .val (.ref xb), .val (.int (1 : Int32)), .val (.int (1 : Int32)), .val (.int (1 : Int32)), .val (.int (nar .char c0))] [(.int (1 : Int32))])
  refine Go.st (fun _ kont => XS.iload X2.here hx rfl (hb hby d6_5) rfl kont) ?_
  show Go p e s below _ _ _ T2 (mkF m 7 #[.val (.ref xa), .val (.int (1 : Int32)), .val (.ref xb), .val (.int (1 : Int32)), .val (.int (1 : Int32)), .val (.int (1 : Int32)), .val (.int (nar .char c0))] [(.int (1 : Int32)), (.int (1 : Int32))])
  refine Go.st (fun _ kont => XS.icmpYes X2.here hx rfl (pc0 := 7) (pc' := 44) rfl (hb hby d6_7) rfl (flt (by decide : ¬ ((1 : Int32) < (1 : Int32)))).2.1 (by decide) (by decide) kont) ?_
  show Go p e s below _ _ _ T2 (mkF m 44 #[.val (.ref xa), .val (.int (1 : Int32)), .val (.ref xb), .val (.int (1 : Int32)), .val (.int (1 : Int32)), .val (.int (1 : Int32)), .val (.int (nar .char c0))] [])
  refine Go.st (fun _ kont => XS.iload X2.here hx rfl (hb hby d6_44) rfl kont) ?_
  show Go p e s below _ _ _ T2 (mkF m 46 #[.val (.ref xa), .val (.int (1 : Int32)), .val (.ref xb), .val (.int (1 : Int32)), .val (.int (1 : Int32)), .val (.int (1 : Int32)), .val (.int (nar .char c0))] [(.int (1 : Int32))])
  exact Go.retI X2 hx hlk hret (hb hby d6_46) (by decide) (by decide) ⟨rfl, N2, (by rw [e2]; exact K_2), (by rw [e2]; exact V_xb_2)⟩
theorem ef_c2 (m : MethodId) (x0 : Addr) (x1 : Int32) (x2 : Addr) (x3 : Int32) (x4 : Int32) : entryFrame m #[(.ref x0), (.int x1), (.ref x2), (.int x3), (.int x4)] 7 = mkF m 0 #[.val (.ref x0), .val (.int x1), .val (.ref x2), .val (.int x3), .val (.int x4), .unset, .unset] [] := by first | (simp [entryFrame, mkF, argsToLocals, Value.category]; done) | rfl
set_option maxRecDepth 65536 in
set_option maxHeartbeats 40000000 in
theorem rmc2 (l : Launch) (Z : State) (a0 : Array Value) (hw : ∀ d ∈ tables_1, d.before a0 Z = true) (ws : List Jvm.Cond) (xa xb : Addr) (ka kb : ClassId) (c0 c1 : Int32) (hc0 : ¬ ((255 : Int32) < (nar .char c0))) (hc1 : ¬ ((255 : Int32) < (nar .char c1))) (h0 : Heap) (n0 : Nat) (gb : n0 ≤ xb) (hab : xa ≠ xb) (VA : Arv Z h0 xa ka .char (2 : Int32) [(.int (nar .char c0)), (.int (nar .char c1))] (.int (0 : Int32))) (VB : Arv Z h0 xb kb .byte (2 : Int32) [(.int (0 : Int32)), (.int (0 : Int32))] (.int (0 : Int32))) :
    Meets l Z (⟨"java/lang/StringUTF16", "compress", "([CI[BII)I"⟩ : MethodName) jdk_52_method_21_code 7 (some .int) ({ frames := 0, cells := 0, slots := 0, locals := 0 } : Room) ws #[(.ref xa), (.int (0 : Int32)), (.ref xb), (.int (0 : Int32)), (.int (2 : Int32))] h0 (fun v h L => v = some (.int (2 : Int32)) ∧ Fr n0 L ∧ Keep h0 h [xb] ∧ Arv Z h xb kb .byte (2 : Int32) [(.int (nar .byte ((nar .char c0).toInt8.toInt32))), (.int (nar .byte ((nar .char c1).toInt8.toInt32)))] (.int (0 : Int32))) := by
  refine Meets.of (plainFor_of_name (by first | (simp [plainName, overriddenIn]; done) | decide +kernel : plainName "java/lang/StringUTF16" = true)) ?_
  intro p e s m below meth c s₁ X0 hx hby hml hret hlk hnm hZ hown e0
  replace hown : s.vm.findClass "java/lang/StringUTF16" = some m.cls := hown
  have N0 := Fr.nil n0
  have K0 := Keep.refl h0 [xb]
  refine Go.cast (ef_c2 m xa (0 : Int32) xb (0 : Int32) (2 : Int32)) ?_
  show Go p e s below _ _ _ s₁ (mkF m 0 #[.val (.ref xa), .val (.int (0 : Int32)), .val (.ref xb), .val (.int (0 : Int32)), .val (.int (2 : Int32)), .unset, .unset] [])
  refine Go.st (fun _ kont => XT.iconstV X0.here hx rfl (0 : Int32) (hb hby d6_0) (by decide) kont) ?_
  show Go p e s below _ _ _ s₁ (mkF m 1 #[.val (.ref xa), .val (.int (0 : Int32)), .val (.ref xb), .val (.int (0 : Int32)), .val (.int (2 : Int32)), .unset, .unset] [(.int (0 : Int32))])
  refine Go.st (fun _ kont => XS.istore X0.here hx rfl (hb hby d6_1) rfl (l' := #[.val (.ref xa), .val (.int (0 : Int32)), .val (.ref xb), .val (.int (0 : Int32)), .val (.int (2 : Int32)), .val (.int (0 : Int32)), .unset]) rfl kont) ?_
  show Go p e s below _ _ _ s₁ (mkF m 3 #[.val (.ref xa), .val (.int (0 : Int32)), .val (.ref xb), .val (.int (0 : Int32)), .val (.int (2 : Int32)), .val (.int (0 : Int32)), .unset] [])
  refine Go.st (fun _ kont => XS.iload X0.here hx rfl (hb hby d6_3) rfl kont) ?_
  show Go p e s below _ _ _ s₁ (mkF m 5 #[.val (.ref xa), .val (.int (0 : Int32)), .val (.ref xb), .val (.int (0 : Int32)), .val (.int (2 : Int32)), .val (.int (0 : Int32)), .unset] [(.int (0 : Int32))])
  refine Go.st (fun _ kont => XS.iload X0.here hx rfl (hb hby d6_5) rfl kont) ?_
  show Go p e s below _ _ _ s₁ (mkF m 7 #[.val (.ref xa), .val (.int (0 : Int32)), .val (.ref xb), .val (.int (0 : Int32)), .val (.int (2 : Int32)), .val (.int (0 : Int32)), .unset] [(.int (2 : Int32)), (.int (0 : Int32))])
  refine Go.st (fun _ kont => XS.icmpNo X0.here hx rfl (hb hby d6_7) rfl (tlt (by decide : (0 : Int32) < (2 : Int32))).2.1 kont) ?_
  show Go p e s below _ _ _ s₁ (mkF m 10 #[.val (.ref xa), .val (.int (0 : Int32)), .val (.ref xb), .val (.int (0 : Int32)), .val (.int (2 : Int32)), .val (.int (0 : Int32)), .unset] [])
  refine Go.st (fun _ kont => XS.aloadN X0.here hx rfl (hb hby d6_10) rfl rfl kont) ?_
  show Go p e s below _ _ _ s₁ (mkF m 11 #[.val (.ref xa), .val (.int (0 : Int32)), .val (.ref xb), .val (.int (0 : Int32)), .val (.int (2 : Int32)), .val (.int (0 : Int32)), .unset] [(.ref xa)])
  refine Go.st (fun _ kont => XS.iloadN X0.here hx rfl (hb hby d6_11) rfl kont) ?_
  show Go p e s below _ _ _ s₁ (mkF m 12 #[.val (.ref xa), .val (.int (0 : Int32)), .val (.ref xb), .val (.int (0 : Int32)), .val (.int (2 : Int32)), .val (.int (0 : Int32)), .unset] [(.int (0 : Int32)), (.ref xa)])
  obtain ⟨cl1, Ar1, q1, S1, M1, H1, G1⟩ := (id VA)
  have in1 : ¬ ((0 : Int32) < 0 ∨ cl1.slots.size ≤ ((0 : Int32)).toNatClampNeg) := inb_of S1 ⟨by decide, by decide⟩
  refine Go.st (X0.caload hx (j := (0 : Int32)) (v := (.int (nar .char c0))) (by rw [e0]; exact Ar1.1) (State.isArrayOf_alike hZ.alike Ar1.2.1) Ar1.2.2 in1 (Has.at H1 in1 rfl) (g := (mkF m 12 #[.val (.ref xa), .val (.int (0 : Int32)), .val (.ref xb), .val (.int (0 : Int32)), .val (.int (2 : Int32)), .val (.int (0 : Int32)), .unset] [(.int (0 : Int32)), (.ref xa)])) rfl rfl (hb hby d6_12)) ?_
  show Go p e s below _ _ _ s₁ (mkF m 13 #[.val (.ref xa), .val (.int (0 : Int32)), .val (.ref xb), .val (.int (0 : Int32)), .val (.int (2 : Int32)), .val (.int (0 : Int32)), .unset] [(.int (nar .char c0))])
  refine Go.st (fun _ kont => XS.istore X0.here hx rfl (hb hby d6_13) rfl (l' := #[.val (.ref xa), .val (.int (0 : Int32)), .val (.ref xb), .val (.int (0 : Int32)), .val (.int (2 : Int32)), .val (.int (0 : Int32)), .val (.int (nar .char c0))]) rfl kont) ?_
  show Go p e s below _ _ _ s₁ (mkF m 15 #[.val (.ref xa), .val (.int (0 : Int32)), .val (.ref xb), .val (.int (0 : Int32)), .val (.int (2 : Int32)), .val (.int (0 : Int32)), .val (.int (nar .char c0))] [])
  refine Go.st (fun _ kont => XS.iload X0.here hx rfl (hb hby d6_15) rfl kont) ?_
  show Go p e s below _ _ _ s₁ (mkF m 17 #[.val (.ref xa), .val (.int (0 : Int32)), .val (.ref xb), .val (.int (0 : Int32)), .val (.int (2 : Int32)), .val (.int (0 : Int32)), .val (.int (nar .char c0))] [(.int (nar .char c0))])
  refine Go.st (fun _ kont => XT.sipushV X0.here hx rfl (255 : Int32) (hb hby d6_17) (by decide) kont) ?_
  show Go p e s below _ _ _ s₁ (mkF m 20 #[.val (.ref xa), .val (.int (0 : Int32)), .val (.ref xb), .val (.int (0 : Int32)), .val (.int (2 : Int32)), .val (.int (0 : Int32)), .val (.int (nar .char c0))] [(.int (255 : Int32)), (.int (nar .char c0))])
  refine Go.st (fun _ kont => XS.icmpYes X0.here hx rfl (pc0 := 20) (pc' := 26) rfl (hb hby d6_20) rfl (flt hc0).2.2.2 (by decide) (by decide) kont) ?_
  show Go p e s below _ _ _ s₁ (mkF m 26 #[.val (.ref xa), .val (.int (0 : Int32)), .val (.ref xb), .val (.int (0 : Int32)), .val (.int (2 : Int32)), .val (.int (0 : Int32)), .val (.int (nar .char c0))] [])
  refine Go.st (fun _ kont => XS.aloadN X0.here hx rfl (hb hby d6_26) rfl rfl kont) ?_
  show Go p e s below _ _ _ s₁ (mkF m 27 #[.val (.ref xa), .val (.int (0 : Int32)), .val (.ref xb), .val (.int (0 : Int32)), .val (.int (2 : Int32)), .val (.int (0 : Int32)), .val (.int (nar .char c0))] [(.ref xb)])
  refine Go.st (fun _ kont => XS.iloadN X0.here hx rfl (hb hby d6_27) rfl kont) ?_
  show Go p e s below _ _ _ s₁ (mkF m 28 #[.val (.ref xa), .val (.int (0 : Int32)), .val (.ref xb), .val (.int (0 : Int32)), .val (.int (2 : Int32)), .val (.int (0 : Int32)), .val (.int (nar .char c0))] [(.int (0 : Int32)), (.ref xb)])
  refine Go.st (fun _ kont => XS.iload X0.here hx rfl (hb hby d6_28) rfl kont) ?_
  show Go p e s below _ _ _ s₁ (mkF m 30 #[.val (.ref xa), .val (.int (0 : Int32)), .val (.ref xb), .val (.int (0 : Int32)), .val (.int (2 : Int32)), .val (.int (0 : Int32)), .val (.int (nar .char c0))] [(.int (nar .char c0)), (.int (0 : Int32)), (.ref xb)])
  refine Go.st (fun _ kont => XS.i2b X0.here hx rfl (hb hby d6_30) rfl kont) ?_
  show Go p e s below _ _ _ s₁ (mkF m 31 #[.val (.ref xa), .val (.int (0 : Int32)), .val (.ref xb), .val (.int (0 : Int32)), .val (.int (2 : Int32)), .val (.int (0 : Int32)), .val (.int (nar .char c0))] [(.int ((nar .char c0).toInt8.toInt32)), (.int (0 : Int32)), (.ref xb)])
  obtain ⟨cl2, Ar2, q2, S2, M2, H2, G2⟩ := (id VB)
  have in2 : ¬ ((0 : Int32) < 0 ∨ cl2.slots.size ≤ ((0 : Int32)).toNatClampNeg) := inb_of S2 ⟨by decide, by decide⟩
  obtain ⟨T2, h2, X2, e2, W2, st2⟩ := stB X0 hx hZ e0 Ar2 (j := (0 : Int32)) in2 (g := (mkF m 31 #[.val (.ref xa), .val (.int (0 : Int32)), .val (.ref xb), .val (.int (0 : Int32)), .val (.int (2 : Int32)), .val (.int (0 : Int32)), .val (.int (nar .char c0))] [(.int ((nar .char c0).toInt8.toInt32)), (.int (0 : Int32)), (.ref xb)])) rfl rfl (hb hby d6_31)
  refine Go.st st2 ?_
  have V_xb_2 : Arv Z h2 xb kb .byte (2 : Int32) [(.int (nar .byte ((nar .char c0).toInt8.toInt32))), (.int (0 : Int32))] (.int (0 : Int32)) := Arv.set Ar2 q2 S2 M2 H2 G2 (fits_nar_byte _) W2 0 rfl (by simp)
  have K_2 : Keep h0 h2 [xb] := K0.wr W2 (Or.inl (List.mem_singleton.mpr rfl))
  have V_xa_2 := VA.other W2 hab
  have N2 := Fr.snoc X2 N0 gb
  show Go p e s below _ _ _ T2 (mkF m 32 #[.val (.ref xa), .val (.int (0 : Int32)), .val (.ref xb), .val (.int (0 : Int32)), .val (.int (2 : Int32)), .val (.int (0 : Int32)), .val (.int (nar .char c0))] [])
  refine Go.st (fun _ kont => XS.iinc X2.here hx rfl (hb hby d6_32) rfl (l' := #[.val (.ref xa), .val (.int (1 : Int32)), .val (.ref xb), .val (.int (0 : Int32)), .val (.int (2 : Int32)), .val (.int (0 : Int32)), .val (.int (nar .char c0))]) rfl kont) ?_
  show Go p e s below _ _ _ T2 (mkF m 35 #[.val (.ref xa), .val (.int (1 : Int32)), .val (.ref xb), .val (.int (0 : Int32)), .val (.int (2 : Int32)), .val (.int (0 : Int32)), .val (.int (nar .char c0))] [])
  refine Go.st (fun _ kont => XS.iinc X2.here hx rfl (hb hby d6_35) rfl (l' := #[.val (.ref xa), .val (.int (1 : Int32)), .val (.ref xb), .val (.int (1 : Int32)), .val (.int (2 : Int32)), .val (.int (0 : Int32)), .val (.int (nar .char c0))]) rfl kont) ?_
  show Go p e s below _ _ _ T2 (mkF m 38 #[.val (.ref xa), .val (.int (1 : Int32)), .val (.ref xb), .val (.int (1 : Int32)), .val (.int (2 : Int32)), .val (.int (0 : Int32)), .val (.int (nar .char c0))] [])
  refine Go.st (fun _ kont => XS.iinc X2.here hx rfl (hb hby d6_38) rfl (l' := #[.val (.ref xa), .val (.int (1 : Int32)), .val (.ref xb), .val (.int (1 : Int32)), .val (.int (2 : Int32)), .val (.int (1 : Int32)), .val (.int (nar .char c0))]) rfl kont) ?_
  show Go p e s below _ _ _ T2 (mkF m 41 #[.val (.ref xa), .val (.int (1 : Int32)), .val (.ref xb), .val (.int (1 : Int32)), .val (.int (2 : Int32)), .val (.int (1 : Int32)), .val (.int (nar .char c0))] [])
  refine Go.st (fun _ kont => XS.goto X2.here hx rfl (pc0 := 41) (pc' := 3) rfl (hb hby d6_41) (by decide) (by decide) kont) ?_
  show Go p e s below _ _ _ T2 (mkF m 3 #[.val (.ref xa), .val (.int (1 : Int32)), .val (.ref xb), .val (.int (1 : Int32)), .val (.int (2 : Int32)), .val (.int (1 : Int32)), .val (.int (nar .char c0))] [])
  refine Go.st (fun _ kont => XS.iload X2.here hx rfl (hb hby d6_3) rfl kont) ?_
  show Go p e s below _ _ _ T2 (mkF m 5 #[.val (.ref xa), .val (.int (1 : Int32)), .val (.ref xb), .val (.int (1 : Int32)), .val (.int (2 : Int32)), .val (.int (1 : Int32)), .val (.int (nar .char c0))] [(.int (1 : Int32))])
  refine Go.st (fun _ kont => XS.iload X2.here hx rfl (hb hby d6_5) rfl kont) ?_
  show Go p e s below _ _ _ T2 (mkF m 7 #[.val (.ref xa), .val (.int (1 : Int32)), .val (.ref xb), .val (.int (1 : Int32)), .val (.int (2 : Int32)), .val (.int (1 : Int32)), .val (.int (nar .char c0))] [(.int (2 : Int32)), (.int (1 : Int32))])
  refine Go.st (fun _ kont => XS.icmpNo X2.here hx rfl (hb hby d6_7) rfl (tlt (by decide : (1 : Int32) < (2 : Int32))).2.1 kont) ?_
  show Go p e s below _ _ _ T2 (mkF m 10 #[.val (.ref xa), .val (.int (1 : Int32)), .val (.ref xb), .val (.int (1 : Int32)), .val (.int (2 : Int32)), .val (.int (1 : Int32)), .val (.int (nar .char c0))] [])
  refine Go.st (fun _ kont => XS.aloadN X2.here hx rfl (hb hby d6_10) rfl rfl kont) ?_
  show Go p e s below _ _ _ T2 (mkF m 11 #[.val (.ref xa), .val (.int (1 : Int32)), .val (.ref xb), .val (.int (1 : Int32)), .val (.int (2 : Int32)), .val (.int (1 : Int32)), .val (.int (nar .char c0))] [(.ref xa)])
  refine Go.st (fun _ kont => XS.iloadN X2.here hx rfl (hb hby d6_11) rfl kont) ?_
  show Go p e s below _ _ _ T2 (mkF m 12 #[.val (.ref xa), .val (.int (1 : Int32)), .val (.ref xb), .val (.int (1 : Int32)), .val (.int (2 : Int32)), .val (.int (1 : Int32)), .val (.int (nar .char c0))] [(.int (1 : Int32)), (.ref xa)])
  obtain ⟨cl3, Ar3, q3, S3, M3, H3, G3⟩ := (id V_xa_2)
  have in3 : ¬ ((1 : Int32) < 0 ∨ cl3.slots.size ≤ ((1 : Int32)).toNatClampNeg) := inb_of S3 ⟨by decide, by decide⟩
  refine Go.st (X2.caload hx (j := (1 : Int32)) (v := (.int (nar .char c1))) (by rw [e2]; exact Ar3.1) (State.isArrayOf_alike hZ.alike Ar3.2.1) Ar3.2.2 in3 (Has.at H3 in3 rfl) (g := (mkF m 12 #[.val (.ref xa), .val (.int (1 : Int32)), .val (.ref xb), .val (.int (1 : Int32)), .val (.int (2 : Int32)), .val (.int (1 : Int32)), .val (.int (nar .char c0))] [(.int (1 : Int32)), (.ref xa)])) rfl rfl (hb hby d6_12)) ?_
  show Go p e s below _ _ _ T2 (mkF m 13 #[.val (.ref xa), .val (.int (1 : Int32)), .val (.ref xb), .val (.int (1 : Int32)), .val (.int (2 : Int32)), .val (.int (1 : Int32)), .val (.int (nar .char c0))] [(.int (nar .char c1))])
  refine Go.st (fun _ kont => XS.istore X2.here hx rfl (hb hby d6_13) rfl (l' := #[.val (.ref xa), .val (.int (1 : Int32)), .val (.ref xb), .val (.int (1 : Int32)), .val (.int (2 : Int32)), .val (.int (1 : Int32)), .val (.int (nar .char c1))]) rfl kont) ?_
  show Go p e s below _ _ _ T2 (mkF m 15 #[.val (.ref xa), .val (.int (1 : Int32)), .val (.ref xb), .val (.int (1 : Int32)), .val (.int (2 : Int32)), .val (.int (1 : Int32)), .val (.int (nar .char c1))] [])
  refine Go.st (fun _ kont => XS.iload X2.here hx rfl (hb hby d6_15) rfl kont) ?_
  show Go p e s below _ _ _ T2 (mkF m 17 #[.val (.ref xa), .val (.int (1 : Int32)), .val (.ref xb), .val (.int (1 : Int32)), .val (.int (2 : Int32)), .val (.int (1 : Int32)), .val (.int (nar .char c1))] [(.int (nar .char c1))])
  refine Go.st (fun _ kont => XT.sipushV X2.here hx rfl (255 : Int32) (hb hby d6_17) (by decide) kont) ?_
  show Go p e s below _ _ _ T2 (mkF m 20 #[.val (.ref xa), .val (.int (1 : Int32)), .val (.ref xb), .val (.int (1 : Int32)), .val (.int (2 : Int32)), .val (.int (1 : Int32)), .val (.int (nar .char c1))] [(.int (255 : Int32)), (.int (nar .char c1))])
  refine Go.st (fun _ kont => XS.icmpYes X2.here hx rfl (pc0 := 20) (pc' := 26) rfl (hb hby d6_20) rfl (flt hc1).2.2.2 (by decide) (by decide) kont) ?_
  show Go p e s below _ _ _ T2 (mkF m 26 #[.val (.ref xa), .val (.int (1 : Int32)), .val (.ref xb), .val (.int (1 : Int32)), .val (.int (2 : Int32)), .val (.int (1 : Int32)), .val (.int (nar .char c1))] [])
  refine Go.st (fun _ kont => XS.aloadN X2.here hx rfl (hb hby d6_26) rfl rfl kont) ?_
  show Go p e s below _ _ _ T2 (mkF m 27 #[.val (.ref xa), .val (.int (1 : Int32)), .val (.ref xb), .val (.int (1 : Int32)), .val (.int (2 : Int32)), .val (.int (1 : Int32)), .val (.int (nar .char c1))] [(.ref xb)])
  refine Go.st (fun _ kont => XS.iloadN X2.here hx rfl (hb hby d6_27) rfl kont) ?_
  show Go p e s below _ _ _ T2 (mkF m 28 #[.val (.ref xa), .val (.int (1 : Int32)), .val (.ref xb), .val (.int (1 : Int32)), .val (.int (2 : Int32)), .val (.int (1 : Int32)), .val (.int (nar .char c1))] [(.int (1 : Int32)), (.ref xb)])
  refine Go.st (fun _ kont => XS.iload X2.here hx rfl (hb hby d6_28) rfl kont) ?_
  show Go p e s below _ _ _ T2 (mkF m 30 #[.val (.ref xa), .val (.int (1 : Int32)), .val (.ref xb), .val (.int (1 : Int32)), .val (.int (2 : Int32)), .val (.int (1 : Int32)), .val (.int (nar .char c1))] [(.int (nar .char c1)), (.int (1 : Int32)), (.ref xb)])
  refine Go.st (fun _ kont => XS.i2b X2.here hx rfl (hb hby d6_30) rfl kont) ?_
  show Go p e s below _ _ _ T2 (mkF m 31 #[.val (.ref xa), .val (.int (1 : Int32)), .val (.ref xb), .val (.int (1 : Int32)), .val (.int (2 : Int32)), .val (.int (1 : Int32)), .val (.int (nar .char c1))] [(.int ((nar .char c1).toInt8.toInt32)), (.int (1 : Int32)), (.ref xb)])
  obtain ⟨cl4, Ar4, q4, S4, M4, H4, G4⟩ := (id V_xb_2)
  have in4 : ¬ ((1 : Int32) < 0 ∨ cl4.slots.size ≤ ((1 : Int32)).toNatClampNeg) := inb_of S4 ⟨by decide, by decide⟩
  obtain ⟨T4, h4, X4, e4, W4, st4⟩ := stB X2 hx hZ e2 Ar4 (j := (1 : Int32)) in4 (g := (mkF m 31 #[.val (.ref xa), .val (.int (1 : Int32)), .val (.ref xb), .val (.int (1 : Int32)), .val (.int (2 : Int32)), .val (.int (1 : Int32)), .val (.int (nar .char c1))] [(.int ((nar .char c1).toInt8.toInt32)), (.int (1 : Int32)), (.ref xb)])) rfl rfl (hb hby d6_31)
  refine Go.st st4 ?_
  have V_xb_4 : Arv Z h4 xb kb .byte (2 : Int32) [(.int (nar .byte ((nar .char c0).toInt8.toInt32))), (.int (nar .byte ((nar .char c1).toInt8.toInt32)))] (.int (0 : Int32)) := Arv.set Ar4 q4 S4 M4 H4 G4 (fits_nar_byte _) W4 1 rfl (by simp)
  have K_4 : Keep h0 h4 [xb] := K_2.wr W4 (Or.inl (List.mem_singleton.mpr rfl))
  have V_xa_4 := V_xa_2.other W4 hab
  have N4 := Fr.snoc X4 N2 gb
  show Go p e s below _ _ _ T4 (mkF m 32 #[.val (.ref xa), .val (.int (1 : Int32)), .val (.ref xb), .val (.int (1 : Int32)), .val (.int (2 : Int32)), .val (.int (1 : Int32)), .val (.int (nar .char c1))] [])
  refine Go.st (fun _ kont => XS.iinc X4.here hx rfl (hb hby d6_32) rfl (l' := #[.val (.ref xa), .val (.int (2 : Int32)), .val (.ref xb), .val (.int (1 : Int32)), .val (.int (2 : Int32)), .val (.int (1 : Int32)), .val (.int (nar .char c1))]) rfl kont) ?_
  show Go p e s below _ _ _ T4 (mkF m 35 #[.val (.ref xa), .val (.int (2 : Int32)), .val (.ref xb), .val (.int (1 : Int32)), .val (.int (2 : Int32)), .val (.int (1 : Int32)), .val (.int (nar .char c1))] [])
  refine Go.st (fun _ kont => XS.iinc X4.here hx rfl (hb hby d6_35) rfl (l' := #[.val (.ref xa), .val (.int (2 : Int32)), .val (.ref xb), .val (.int (2 : Int32)), .val (.int (2 : Int32)), .val (.int (1 : Int32)), .val (.int (nar .char c1))]) rfl kont) ?_
  show Go p e s below _ _ _ T4 (mkF m 38 #[.val (.ref xa), .val (.int (2 : Int32)), .val (.ref xb), .val (.int (2 : Int32)), .val (.int (2 : Int32)), .val (.int (1 : Int32)), .val (.int (nar .char c1))] [])
  refine Go.st (fun _ kont => XS.iinc X4.here hx rfl (hb hby d6_38) rfl (l' := #[.val (.ref xa), .val (.int (2 : Int32)), .val (.ref xb), .val (.int (2 : Int32)), .val (.int (2 : Int32)), .val (.int (2 : Int32)), .val (.int (nar .char c1))]) rfl kont) ?_
  show Go p e s below _ _ _ T4 (mkF m 41 #[.val (.ref xa), .val (.int (2 : Int32)), .val (.ref xb), .val (.int (2 : Int32)), .val (.int (2 : Int32)), .val (.int (2 : Int32)), .val (.int (nar .char c1))] [])
  refine Go.st (fun _ kont => XS.goto X4.here hx rfl (pc0 := 41) (pc' := 3) rfl (hb hby d6_41) (by decide) (by decide) kont) ?_
  show Go p e s below _ _ _ T4 (mkF m 3 #[.val (.ref xa), .val (.int (2 : Int32)), .val (.ref xb), .val (.int (2 : Int32)), .val (.int (2 : Int32)), .val (.int (2 : Int32)), .val (.int (nar .char c1))] [])
  refine Go.st (fun _ kont => XS.iload X4.here hx rfl (hb hby d6_3) rfl kont) ?_
  show Go p e s below _ _ _ T4 (mkF m 5 #[.val (.ref xa), .val (.int (2 : Int32)), .val (.ref xb), .val (.int (2 : Int32)), .val (.int (2 : Int32)), .val (.int (2 : Int32)), .val (.int (nar .char c1))] [(.int (2 : Int32))])
  refine Go.st (fun _ kont => XS.iload X4.here hx rfl (hb hby d6_5) rfl kont) ?_
  show Go p e s below _ _ _ T4 (mkF m 7 #[.val (.ref xa), .val (.int (2 : Int32)), .val (.ref xb), .val (.int (2 : Int32)), .val (.int (2 : Int32)), .val (.int (2 : Int32)), .val (.int (nar .char c1))] [(.int (2 : Int32)), (.int (2 : Int32))])
  refine Go.st (fun _ kont => XS.icmpYes X4.here hx rfl (pc0 := 7) (pc' := 44) rfl (hb hby d6_7) rfl (flt (by decide : ¬ ((2 : Int32) < (2 : Int32)))).2.1 (by decide) (by decide) kont) ?_
  show Go p e s below _ _ _ T4 (mkF m 44 #[.val (.ref xa), .val (.int (2 : Int32)), .val (.ref xb), .val (.int (2 : Int32)), .val (.int (2 : Int32)), .val (.int (2 : Int32)), .val (.int (nar .char c1))] [])
  refine Go.st (fun _ kont => XS.iload X4.here hx rfl (hb hby d6_44) rfl kont) ?_
  show Go p e s below _ _ _ T4 (mkF m 46 #[.val (.ref xa), .val (.int (2 : Int32)), .val (.ref xb), .val (.int (2 : Int32)), .val (.int (2 : Int32)), .val (.int (2 : Int32)), .val (.int (nar .char c1))] [(.int (2 : Int32))])
  exact Go.retI X4 hx hlk hret (hb hby d6_46) (by decide) (by decide) ⟨rfl, N4, (by rw [e4]; exact K_4), (by rw [e4]; exact V_xb_4)⟩
theorem pd___CI_BII_I : parseMethodDescriptor "([CI[BII)I" = some ⟨[(.array .char), .int, (.array .byte), .int, .int], some .int⟩ := by decide +kernel
theorem d5_0 : decode jdk_52_method_16_code 0 = .ok (.iload_n 2, 1) := by decide +kernel
theorem d5_1 : decode jdk_52_method_16_code 1 = .ok (.newarray .byte, 2) := by decide +kernel
theorem d5_3 : decode jdk_52_method_16_code 3 = .ok (.astore_n 3, 1) := by decide +kernel
theorem d5_4 : decode jdk_52_method_16_code 4 = .ok (.aload_n 0, 1) := by decide +kernel
theorem d5_5 : decode jdk_52_method_16_code 5 = .ok (.iload_n 1, 1) := by decide +kernel
theorem d5_6 : decode jdk_52_method_16_code 6 = .ok (.aload_n 3, 1) := by decide +kernel
theorem d5_7 : decode jdk_52_method_16_code 7 = .ok (.iconst 0, 1) := by decide +kernel
theorem d5_8 : decode jdk_52_method_16_code 8 = .ok (.iload_n 2, 1) := by decide +kernel
theorem d5_9 : decode jdk_52_method_16_code 9 = .ok (.invokestatic 115, 3) := by decide +kernel
theorem d5_12 : decode jdk_52_method_16_code 12 = .ok (.istore 4, 2) := by decide +kernel
theorem d5_14 : decode jdk_52_method_16_code 14 = .ok (.iload 4, 2) := by decide +kernel
theorem d5_16 : decode jdk_52_method_16_code 16 = .ok (.iload_n 2, 1) := by decide +kernel
theorem d5_17 : decode jdk_52_method_16_code 17 = .ok (.if_icmp .eq 40, 3) := by decide +kernel
theorem d5_57 : decode jdk_52_method_16_code 57 = .ok (.aload_n 3, 1) := by decide +kernel
theorem d5_58 : decode jdk_52_method_16_code 58 = .ok (.areturn, 1) := by decide +kernel
theorem ef_d1 (m : MethodId) (x0 : Addr) (x1 : Int32) (x2 : Int32) : entryFrame m #[(.ref x0), (.int x1), (.int x2)] 6 = mkF m 0 #[.val (.ref x0), .val (.int x1), .val (.int x2), .unset, .unset, .unset] [] := by first | (simp [entryFrame, mkF, argsToLocals, Value.category]; done) | rfl
set_option maxRecDepth 65536 in
set_option maxHeartbeats 40000000 in
theorem rmd1 (l : Launch) (Z : State) (a0 : Array Value) (hw : ∀ d ∈ tables_1, d.before a0 Z = true) (ws : List Jvm.Cond) (xa : Addr) (ka : ClassId) (c0 c1 : Int32) (hc0 : ¬ ((255 : Int32) < (nar .char c0))) (hc1 : ¬ ((255 : Int32) < (nar .char c1))) (h0 : Heap) (n0 : Nat) (Z0 : n0 ≤ h0.size) (VA : Arv Z h0 xa ka .char (1 : Int32) [(.int (nar .char c0))] (.int (0 : Int32))) :
    Meets l Z (⟨"java/lang/StringUTF16", "compress", "([CII)[B"⟩ : MethodName) jdk_52_method_16_code 6 (some (.array .byte)) ({ frames := 1, cells := 1, slots := 2, locals := 18 } : Room) ws #[(.ref xa), (.int (0 : Int32)), (.int (1 : Int32))] h0 (fun v h L => ∃ x k, v = some (.ref x) ∧ Fr n0 L ∧ Ext h0 h ∧ h0.size ≤ x ∧ Arv Z h x k .byte (1 : Int32) [(.int (nar .byte ((nar .char c0).toInt8.toInt32)))] (.int (0 : Int32))) := by
  refine Meets.of (plainFor_of_name (by first | (simp [plainName, overriddenIn]; done) | decide +kernel : plainName "java/lang/StringUTF16" = true)) ?_
  intro p e s m below meth c s₁ X0 hx hby hml hret hlk hnm hZ hown e0
  replace hown : s.vm.findClass "java/lang/StringUTF16" = some m.cls := hown
  have N0 := Fr.nil n0
  have Q0 := own_extR h0
  refine Go.cast (ef_d1 m xa (0 : Int32) (1 : Int32)) ?_
  show Go p e s below _ _ _ s₁ (mkF m 0 #[.val (.ref xa), .val (.int (0 : Int32)), .val (.int (1 : Int32)), .unset, .unset, .unset] [])
  refine Go.st (fun _ kont => XS.iloadN X0.here hx rfl (hb hby d5_0) rfl kont) ?_
  show Go p e s below _ _ _ s₁ (mkF m 1 #[.val (.ref xa), .val (.int (0 : Int32)), .val (.int (1 : Int32)), .unset, .unset, .unset] [(.int (1 : Int32))])
  obtain ⟨T1, h1, k1, X1, e1, E1, A1, Y1, st1⟩ := newPE X0 hx hZ (hw _ (List.mem_of_getElem? (i := 23) rfl)) e0 (g := (mkF m 1 #[.val (.ref xa), .val (.int (0 : Int32)), .val (.int (1 : Int32)), .unset, .unset, .unset] [(.int (1 : Int32))])) rfl (hb hby d5_1) rfl (by decide) (cap := 1) (by decide) (by decide) (by decide) (by decide) (ad := "[B") (by decide)
  obtain ⟨b1, g1⟩ : ∃ z, z = h0.size := ⟨_, rfl⟩
  rw [← g1] at A1 Y1 st1
  have sz1 : h0.size ≤ b1 := Nat.le_trans Q0.1 (Nat.le_of_eq g1.symm)
  have gn1 : n0 ≤ b1 := Nat.le_trans Z0 sz1
  refine Go.st st1 ?_
  have Q_1 : Ext h0 h1 := own_extE Q0 E1
  have V_xa_1 := VA.ext E1
  have V_b1 : Arv Z h1 b1 k1 .byte (1 : Int32) [(.int (0 : Int32))] (.int (0 : Int32)) := (Arv.new A1 (by decide)).pad (pad_rep [] (.int (0 : Int32)) 1)
  show Go p e s below _ _ _ T1 (mkF m 3 #[.val (.ref xa), .val (.int (0 : Int32)), .val (.int (1 : Int32)), .unset, .unset, .unset] [(.ref b1)])
  refine Go.st (fun _ kont => XS.astoreN X1.here hx rfl (hb hby d5_3) rfl rfl (l' := #[.val (.ref xa), .val (.int (0 : Int32)), .val (.int (1 : Int32)), .val (.ref b1), .unset, .unset]) rfl kont) ?_
  show Go p e s below _ _ _ T1 (mkF m 4 #[.val (.ref xa), .val (.int (0 : Int32)), .val (.int (1 : Int32)), .val (.ref b1), .unset, .unset] [])
  refine Go.st (fun _ kont => XS.aloadN X1.here hx rfl (hb hby d5_4) rfl rfl kont) ?_
  show Go p e s below _ _ _ T1 (mkF m 5 #[.val (.ref xa), .val (.int (0 : Int32)), .val (.int (1 : Int32)), .val (.ref b1), .unset, .unset] [(.ref xa)])
  refine Go.st (fun _ kont => XS.iloadN X1.here hx rfl (hb hby d5_5) rfl kont) ?_
  show Go p e s below _ _ _ T1 (mkF m 6 #[.val (.ref xa), .val (.int (0 : Int32)), .val (.int (1 : Int32)), .val (.ref b1), .unset, .unset] [(.int (0 : Int32)), (.ref xa)])
  refine Go.st (fun _ kont => XS.aloadN X1.here hx rfl (hb hby d5_6) rfl rfl kont) ?_
  show Go p e s below _ _ _ T1 (mkF m 7 #[.val (.ref xa), .val (.int (0 : Int32)), .val (.int (1 : Int32)), .val (.ref b1), .unset, .unset] [(.ref b1), (.int (0 : Int32)), (.ref xa)])
  refine Go.st (fun _ kont => XT.iconstV X1.here hx rfl (0 : Int32) (hb hby d5_7) (by decide) kont) ?_
  show Go p e s below _ _ _ T1 (mkF m 8 #[.val (.ref xa), .val (.int (0 : Int32)), .val (.int (1 : Int32)), .val (.ref b1), .unset, .unset] [(.int (0 : Int32)), (.ref b1), (.int (0 : Int32)), (.ref xa)])
  refine Go.st (fun _ kont => XS.iloadN X1.here hx rfl (hb hby d5_8) rfl kont) ?_
  show Go p e s below _ _ _ T1 (mkF m 9 #[.val (.ref xa), .val (.int (0 : Int32)), .val (.int (1 : Int32)), .val (.ref b1), .unset, .unset] [(.int (1 : Int32)), (.int (0 : Int32)), (.ref b1), (.int (0 : Int32)), (.ref xa)])
  refine Go.callS (W := 0) (argsL := [(.ref xa), (.int (0 : Int32)), (.ref b1), (.int (0 : Int32)), (.int (1 : Int32))]) (rest := []) X1 hx hZ hown (y := (⟨"java/lang/StringUTF16", "compress", "([CI[BII)I"⟩ : MethodName)) (hw _ (List.mem_of_getElem? (i := 24) rfl)) (hw _ (List.mem_of_getElem? (i := 25) rfl)) (hw _ (List.mem_of_getElem? (i := 21) rfl)) (hw _ (List.mem_of_getElem? (i := 26) rfl)) (rmc1 l Z a0 hw [] xa b1 ka k1 c0 c1 hc0 hc1 h1 n0 gn1 (Nat.ne_of_lt (Nat.lt_of_lt_of_le VA.lt sz1)) V_xa_1 V_b1) e1 (by decide) (by decide) (by decide) (by decide) (by decide) (by rw [hml]; rfl) (lenOf pd___CI_BII_I rfl) (Nat.le_of_eq rfl) (hb hby d5_9) ?_
  intro T2 v2 L2 X2 hQ2
  obtain ⟨h2, e2⟩ : ∃ z, T2.heap = z := ⟨_, rfl⟩
  rw [e2] at hQ2
  obtain ⟨rfl, N2, K2, V2⟩ := hQ2
  have M2 := Fr.app N0 N2
  have Q_2 : Ext h0 h2 := own_extK Q_1 K2 (allS sz1 all0)
  have V_xa_2 := V_xa_1.keep K2 (ninS (Nat.ne_of_lt (Nat.lt_of_lt_of_le VA.lt sz1)) nin0)
  have E_b1_2 := Y1.keep K2
  show Go p e s below _ _ _ T2 (mkF m 12 #[.val (.ref xa), .val (.int (0 : Int32)), .val (.int (1 : Int32)), .val (.ref b1), .unset, .unset] [(.int (1 : Int32))])
  refine Go.st (fun _ kont => XS.istore X2.here hx rfl (hb hby d5_12) rfl (l' := #[.val (.ref xa), .val (.int (0 : Int32)), .val (.int (1 : Int32)), .val (.ref b1), .val (.int (1 : Int32)), .unset]) rfl kont) ?_
  show Go p e s below _ _ _ T2 (mkF m 14 #[.val (.ref xa), .val (.int (0 : Int32)), .val (.int (1 : Int32)), .val (.ref b1), .val (.int (1 : Int32)), .unset] [])
  refine Go.st (fun _ kont => XS.iload X2.here hx rfl (hb hby d5_14) rfl kont) ?_
  show Go p e s below _ _ _ T2 (mkF m 16 #[.val (.ref xa), .val (.int (0 : Int32)), .val (.int (1 : Int32)), .val (.ref b1), .val (.int (1 : Int32)), .unset] [(.int (1 : Int32))])
  refine Go.st (fun _ kont => XS.iloadN X2.here hx rfl (hb hby d5_16) rfl kont) ?_
  show Go p e s below _ _ _ T2 (mkF m 17 #[.val (.ref xa), .val (.int (0 : Int32)), .val (.int (1 : Int32)), .val (.ref b1), .val (.int (1 : Int32)), .unset] [(.int (1 : Int32)), (.int (1 : Int32))])
  refine Go.st (fun _ kont => XS.icmpYes X2.here hx rfl (pc0 := 17) (pc' := 57) rfl (hb hby d5_17) rfl (teq rfl).1 (by decide) (by decide) kont) ?_
  show Go p e s below _ _ _ T2 (mkF m 57 #[.val (.ref xa), .val (.int (0 : Int32)), .val (.int (1 : Int32)), .val (.ref b1), .val (.int (1 : Int32)), .unset] [])
  refine Go.st (fun _ kont => XS.aloadN X2.here hx rfl (hb hby d5_57) rfl rfl kont) ?_
  show Go p e s below _ _ _ T2 (mkF m 58 #[.val (.ref xa), .val (.int (0 : Int32)), .val (.int (1 : Int32)), .val (.ref b1), .val (.int (1 : Int32)), .unset] [(.ref b1)])
  exact Go.retA X2 hx hlk hret rfl rfl (hb hby d5_58) (by decide) (by decide) ⟨b1, k1, rfl, M2, (by rw [e2]; exact Q_2), sz1, (by rw [e2]; exact V2)⟩
theorem ef_d2 (m : MethodId) (x0 : Addr) (x1 : Int32) (x2 : Int32) : entryFrame m #[(.ref x0), (.int x1), (.int x2)] 6 = mkF m 0 #[.val (.ref x0), .val (.int x1), .val (.int x2), .unset, .unset, .unset] [] := by first | (simp [entryFrame, mkF, argsToLocals, Value.category]; done) | rfl
set_option maxRecDepth 65536 in
set_option maxHeartbeats 40000000 in
theorem rmd2 (l : Launch) (Z : State) (a0 : Array Value) (hw : ∀ d ∈ tables_1, d.before a0 Z = true) (ws : List Jvm.Cond) (xa : Addr) (ka : ClassId) (c0 c1 : Int32) (hc0 : ¬ ((255 : Int32) < (nar .char c0))) (hc1 : ¬ ((255 : Int32) < (nar .char c1))) (h0 : Heap) (n0 : Nat) (Z0 : n0 ≤ h0.size) (VA : Arv Z h0 xa ka .char (2 : Int32) [(.int (nar .char c0)), (.int (nar .char c1))] (.int (0 : Int32))) :
    Meets l Z (⟨"java/lang/StringUTF16", "compress", "([CII)[B"⟩ : MethodName) jdk_52_method_16_code 6 (some (.array .byte)) ({ frames := 1, cells := 1, slots := 2, locals := 18 } : Room) ws #[(.ref xa), (.int (0 : Int32)), (.int (2 : Int32))] h0 (fun v h L => ∃ x k, v = some (.ref x) ∧ Fr n0 L ∧ Ext h0 h ∧ h0.size ≤ x ∧ Arv Z h x k .byte (2 : Int32) [(.int (nar .byte ((nar .char c0).toInt8.toInt32))), (.int (nar .byte ((nar .char c1).toInt8.toInt32)))] (.int (0 : Int32))) := by
  refine Meets.of (plainFor_of_name (by first | (simp [plainName, overriddenIn]; done) | decide +kernel : plainName "java/lang/StringUTF16" = true)) ?_
  intro p e s m below meth c s₁ X0 hx hby hml hret hlk hnm hZ hown e0
  replace hown : s.vm.findClass "java/lang/StringUTF16" = some m.cls := hown
  have N0 := Fr.nil n0
  have Q0 := own_extR h0
  refine Go.cast (ef_d2 m xa (0 : Int32) (2 : Int32)) ?_
  show Go p e s below _ _ _ s₁ (mkF m 0 #[.val (.ref xa), .val (.int (0 : Int32)), .val (.int (2 : Int32)), .unset, .unset, .unset] [])
  refine Go.st (fun _ kont => XS.iloadN X0.here hx rfl (hb hby d5_0) rfl kont) ?_
  show Go p e s below _ _ _ s₁ (mkF m 1 #[.val (.ref xa), .val (.int (0 : Int32)), .val (.int (2 : Int32)), .unset, .unset, .unset] [(.int (2 : Int32))])
  obtain ⟨T1, h1, k1, X1, e1, E1, A1, Y1, st1⟩ := newPE X0 hx hZ (hw _ (List.mem_of_getElem? (i := 23) rfl)) e0 (g := (mkF m 1 #[.val (.ref xa), .val (.int (0 : Int32)), .val (.int (2 : Int32)), .unset, .unset, .unset] [(.int (2 : Int32))])) rfl (hb hby d5_1) rfl (by decide) (cap := 2) (by decide) (by decide) (by decide) (by decide) (ad := "[B") (by decide)
  obtain ⟨b1, g1⟩ : ∃ z, z = h0.size := ⟨_, rfl⟩
  rw [← g1] at A1 Y1 st1
  have sz1 : h0.size ≤ b1 := Nat.le_trans Q0.1 (Nat.le_of_eq g1.symm)
  have gn1 : n0 ≤ b1 := Nat.le_trans Z0 sz1
  refine Go.st st1 ?_
  have Q_1 : Ext h0 h1 := own_extE Q0 E1
  have V_xa_1 := VA.ext E1
  have V_b1 : Arv Z h1 b1 k1 .byte (2 : Int32) [(.int (0 : Int32)), (.int (0 : Int32))] (.int (0 : Int32)) := (Arv.new A1 (by decide)).pad (pad_rep [] (.int (0 : Int32)) 2)
  show Go p e s below _ _ _ T1 (mkF m 3 #[.val (.ref xa), .val (.int (0 : Int32)), .val (.int (2 : Int32)), .unset, .unset, .unset] [(.ref b1)])
  refine Go.st (fun _ kont => XS.astoreN X1.here hx rfl (hb hby d5_3) rfl rfl (l' := #[.val (.ref xa), .val (.int (0 : Int32)), .val (.int (2 : Int32)), .val (.ref b1), .unset, .unset]) rfl kont) ?_
  show Go p e s below _ _ _ T1 (mkF m 4 #[.val (.ref xa), .val (.int (0 : Int32)), .val (.int (2 : Int32)), .val (.ref b1), .unset, .unset] [])
  refine Go.st (fun _ kont => XS.aloadN X1.here hx rfl (hb hby d5_4) rfl rfl kont) ?_
  show Go p e s below _ _ _ T1 (mkF m 5 #[.val (.ref xa), .val (.int (0 : Int32)), .val (.int (2 : Int32)), .val (.ref b1), .unset, .unset] [(.ref xa)])
  refine Go.st (fun _ kont => XS.iloadN X1.here hx rfl (hb hby d5_5) rfl kont) ?_
  show Go p e s below _ _ _ T1 (mkF m 6 #[.val (.ref xa), .val (.int (0 : Int32)), .val (.int (2 : Int32)), .val (.ref b1), .unset, .unset] [(.int (0 : Int32)), (.ref xa)])
  refine Go.st (fun _ kont => XS.aloadN X1.here hx rfl (hb hby d5_6) rfl rfl kont) ?_
  show Go p e s below _ _ _ T1 (mkF m 7 #[.val (.ref xa), .val (.int (0 : Int32)), .val (.int (2 : Int32)), .val (.ref b1), .unset, .unset] [(.ref b1), (.int (0 : Int32)), (.ref xa)])
  refine Go.st (fun _ kont => XT.iconstV X1.here hx rfl (0 : Int32) (hb hby d5_7) (by decide) kont) ?_
  show Go p e s below _ _ _ T1 (mkF m 8 #[.val (.ref xa), .val (.int (0 : Int32)), .val (.int (2 : Int32)), .val (.ref b1), .unset, .unset] [(.int (0 : Int32)), (.ref b1), (.int (0 : Int32)), (.ref xa)])
  refine Go.st (fun _ kont => XS.iloadN X1.here hx rfl (hb hby d5_8) rfl kont) ?_
  show Go p e s below _ _ _ T1 (mkF m 9 #[.val (.ref xa), .val (.int (0 : Int32)), .val (.int (2 : Int32)), .val (.ref b1), .unset, .unset] [(.int (2 : Int32)), (.int (0 : Int32)), (.ref b1), (.int (0 : Int32)), (.ref xa)])
  refine Go.callS (W := 0) (argsL := [(.ref xa), (.int (0 : Int32)), (.ref b1), (.int (0 : Int32)), (.int (2 : Int32))]) (rest := []) X1 hx hZ hown (y := (⟨"java/lang/StringUTF16", "compress", "([CI[BII)I"⟩ : MethodName)) (hw _ (List.mem_of_getElem? (i := 24) rfl)) (hw _ (List.mem_of_getElem? (i := 25) rfl)) (hw _ (List.mem_of_getElem? (i := 21) rfl)) (hw _ (List.mem_of_getElem? (i := 26) rfl)) (rmc2 l Z a0 hw [] xa b1 ka k1 c0 c1 hc0 hc1 h1 n0 gn1 (Nat.ne_of_lt (Nat.lt_of_lt_of_le VA.lt sz1)) V_xa_1 V_b1) e1 (by decide) (by decide) (by decide) (by decide) (by decide) (by rw [hml]; rfl) (lenOf pd___CI_BII_I rfl) (Nat.le_of_eq rfl) (hb hby d5_9) ?_
  intro T2 v2 L2 X2 hQ2
  obtain ⟨h2, e2⟩ : ∃ z, T2.heap = z := ⟨_, rfl⟩
  rw [e2] at hQ2
  obtain ⟨rfl, N2, K2, V2⟩ := hQ2
  have M2 := Fr.app N0 N2
  have Q_2 : Ext h0 h2 := own_extK Q_1 K2 (allS sz1 all0)
  have V_xa_2 := V_xa_1.keep K2 (ninS (Nat.ne_of_lt (Nat.lt_of_lt_of_le VA.lt sz1)) nin0)
  have E_b1_2 := Y1.keep K2
  show Go p e s below _ _ _ T2 (mkF m 12 #[.val (.ref xa), .val (.int (0 : Int32)), .val (.int (2 : Int32)), .val (.ref b1), .unset, .unset] [(.int (2 : Int32))])
  refine Go.st (fun _ kont => XS.istore X2.here hx rfl (hb hby d5_12) rfl (l' := #[.val (.ref xa), .val (.int (0 : Int32)), .val (.int (2 : Int32)), .val (.ref b1), .val (.int (2 : Int32)), .unset]) rfl kont) ?_
  show Go p e s below _ _ _ T2 (mkF m 14 #[.val (.ref xa), .val (.int (0 : Int32)), .val (.int (2 : Int32)), .val (.ref b1), .val (.int (2 : Int32)), .unset] [])
  refine Go.st (fun _ kont => XS.iload X2.here hx rfl (hb hby d5_14) rfl kont) ?_
  show Go p e s below _ _ _ T2 (mkF m 16 #[.val (.ref xa), .val (.int (0 : Int32)), .val (.int (2 : Int32)), .val (.ref b1), .val (.int (2 : Int32)), .unset] [(.int (2 : Int32))])
  refine Go.st (fun _ kont => XS.iloadN X2.here hx rfl (hb hby d5_16) rfl kont) ?_
  show Go p e s below _ _ _ T2 (mkF m 17 #[.val (.ref xa), .val (.int (0 : Int32)), .val (.int (2 : Int32)), .val (.ref b1), .val (.int (2 : Int32)), .unset] [(.int (2 : Int32)), (.int (2 : Int32))])
  refine Go.st (fun _ kont => XS.icmpYes X2.here hx rfl (pc0 := 17) (pc' := 57) rfl (hb hby d5_17) rfl (teq rfl).1 (by decide) (by decide) kont) ?_
  show Go p e s below _ _ _ T2 (mkF m 57 #[.val (.ref xa), .val (.int (0 : Int32)), .val (.int (2 : Int32)), .val (.ref b1), .val (.int (2 : Int32)), .unset] [])
  refine Go.st (fun _ kont => XS.aloadN X2.here hx rfl (hb hby d5_57) rfl rfl kont) ?_
  show Go p e s below _ _ _ T2 (mkF m 58 #[.val (.ref xa), .val (.int (0 : Int32)), .val (.int (2 : Int32)), .val (.ref b1), .val (.int (2 : Int32)), .unset] [(.ref b1)])
  exact Go.retA X2 hx hlk hret rfl rfl (hb hby d5_58) (by decide) (by decide) ⟨b1, k1, rfl, M2, (by rw [e2]; exact Q_2), sz1, (by rw [e2]; exact V2)⟩
theorem d7_0 : decode jdk_52_method_15_code 0 = .ok (.iload_n 1, 1) := by decide +kernel
theorem d7_1 : decode jdk_52_method_15_code 1 = .ok (.aload_n 0, 1) := by decide +kernel
theorem d7_2 : decode jdk_52_method_15_code 2 = .ok (.arraylength, 1) := by decide +kernel
theorem d7_3 : decode jdk_52_method_15_code 3 = .ok (.isub, 1) := by decide +kernel
theorem d7_4 : decode jdk_52_method_15_code 4 = .ok (.bipush 31, 2) := by decide +kernel
theorem d7_6 : decode jdk_52_method_15_code 6 = .ok (.iushr, 1) := by decide +kernel
theorem d7_7 : decode jdk_52_method_15_code 7 = .ok (.i2b, 1) := by decide +kernel
theorem d7_8 : decode jdk_52_method_15_code 8 = .ok (.ireturn, 1) := by decide +kernel
theorem ef_o1 (m : MethodId) (x0 : Addr) (x1 : Int32) : entryFrame m #[(.ref x0), (.int x1)] 2 = mkF m 0 #[.val (.ref x0), .val (.int x1)] [] := by first | (simp [entryFrame, mkF, argsToLocals, Value.category]; done) | rfl
set_option maxRecDepth 65536 in
set_option maxHeartbeats 40000000 in
theorem rmo1 (l : Launch) (Z : State) (a0 : Array Value) (hw : ∀ d ∈ tables_1, d.before a0 Z = true) (ws : List Jvm.Cond) (xb : Addr) (kb : ClassId) (vs : List Value) (h0 : Heap) (n0 : Nat) (VB : Arv Z h0 xb kb .byte (1 : Int32) vs (.int (0 : Int32))) :
    Meets l Z (⟨"java/lang/StringUTF16", "coderFromArrayLen", "([BI)B"⟩ : MethodName) jdk_52_method_15_code 2 (some .byte) ({ frames := 0, cells := 0, slots := 0, locals := 0 } : Room) ws #[(.ref xb), (.int (1 : Int32))] h0 (fun v h L => v = some (.int (0 : Int32)) ∧ Fr n0 L ∧ h = h0) := by
  refine Meets.of (plainFor_of_name (by first | (simp [plainName, overriddenIn]; done) | decide +kernel : plainName "java/lang/StringUTF16" = true)) ?_
  intro p e s m below meth c s₁ X0 hx hby hml hret hlk hnm hZ hown e0
  replace hown : s.vm.findClass "java/lang/StringUTF16" = some m.cls := hown
  have N0 := Fr.nil n0
  refine Go.cast (ef_o1 m xb (1 : Int32)) ?_
  show Go p e s below _ _ _ s₁ (mkF m 0 #[.val (.ref xb), .val (.int (1 : Int32))] [])
  refine Go.st (fun _ kont => XS.iloadN X0.here hx rfl (hb hby d7_0) rfl kont) ?_
  show Go p e s below _ _ _ s₁ (mkF m 1 #[.val (.ref xb), .val (.int (1 : Int32))] [(.int (1 : Int32))])
  refine Go.st (fun _ kont => XS.aloadN X0.here hx rfl (hb hby d7_1) rfl rfl kont) ?_
  show Go p e s below _ _ _ s₁ (mkF m 2 #[.val (.ref xb), .val (.int (1 : Int32))] [(.ref xb), (.int (1 : Int32))])
  obtain ⟨cl1, Ar1, q1, S1, M1, H1, G1⟩ := (id VB)
  refine Go.st (X0.arraylength hx (by rw [e0]; exact Ar1.1) (State.isArrayOf_alike hZ.alike Ar1.2.1) (g := (mkF m 2 #[.val (.ref xb), .val (.int (1 : Int32))] [(.ref xb), (.int (1 : Int32))])) rfl rfl (hb hby d7_2)) ?_
  rw [len_of S1 M1]
  show Go p e s below _ _ _ s₁ (mkF m 3 #[.val (.ref xb), .val (.int (1 : Int32))] [(.int (1 : Int32)), (.int (1 : Int32))])
  refine Go.st (fun _ kont => XS.isub X0.here hx rfl (hb hby d7_3) rfl kont) ?_
  show Go p e s below _ _ _ s₁ (mkF m 4 #[.val (.ref xb), .val (.int (1 : Int32))] [(.int ((1 : Int32) - (1 : Int32)))])
  refine Go.st (fun _ kont => XT.bipushV X0.here hx rfl (31 : Int32) (hb hby d7_4) (by decide) kont) ?_
  show Go p e s below _ _ _ s₁ (mkF m 6 #[.val (.ref xb), .val (.int (1 : Int32))] [(.int (31 : Int32)), (.int ((1 : Int32) - (1 : Int32)))])
  refine Go.st (fun _ kont => XS.iushr X0.here hx rfl (hb hby d7_6) rfl kont) ?_
  show Go p e s below _ _ _ s₁ (mkF m 7 #[.val (.ref xb), .val (.int (1 : Int32))] [(.int ((((1 : Int32) - (1 : Int32)).toUInt32 >>> ((31 : Int32) &&& 31).toUInt32).toInt32))])
  refine Go.st (fun _ kont => XS.i2b X0.here hx rfl (hb hby d7_7) rfl kont) ?_
  show Go p e s below _ _ _ s₁ (mkF m 8 #[.val (.ref xb), .val (.int (1 : Int32))] [(.int (((((1 : Int32) - (1 : Int32)).toUInt32 >>> ((31 : Int32) &&& 31).toUInt32).toInt32).toInt8.toInt32))])
  exact Go.retN X0 hx hlk hret (by simp) (hb hby d7_8) (by decide) (by decide) ⟨congrArg (fun z => some (Value.int z)) (by decide +kernel), N0, e0⟩
theorem ef_o2 (m : MethodId) (x0 : Addr) (x1 : Int32) : entryFrame m #[(.ref x0), (.int x1)] 2 = mkF m 0 #[.val (.ref x0), .val (.int x1)] [] := by first | (simp [entryFrame, mkF, argsToLocals, Value.category]; done) | rfl
set_option maxRecDepth 65536 in
set_option maxHeartbeats 40000000 in
theorem rmo2 (l : Launch) (Z : State) (a0 : Array Value) (hw : ∀ d ∈ tables_1, d.before a0 Z = true) (ws : List Jvm.Cond) (xb : Addr) (kb : ClassId) (vs : List Value) (h0 : Heap) (n0 : Nat) (VB : Arv Z h0 xb kb .byte (2 : Int32) vs (.int (0 : Int32))) :
    Meets l Z (⟨"java/lang/StringUTF16", "coderFromArrayLen", "([BI)B"⟩ : MethodName) jdk_52_method_15_code 2 (some .byte) ({ frames := 0, cells := 0, slots := 0, locals := 0 } : Room) ws #[(.ref xb), (.int (2 : Int32))] h0 (fun v h L => v = some (.int (0 : Int32)) ∧ Fr n0 L ∧ h = h0) := by
  refine Meets.of (plainFor_of_name (by first | (simp [plainName, overriddenIn]; done) | decide +kernel : plainName "java/lang/StringUTF16" = true)) ?_
  intro p e s m below meth c s₁ X0 hx hby hml hret hlk hnm hZ hown e0
  replace hown : s.vm.findClass "java/lang/StringUTF16" = some m.cls := hown
  have N0 := Fr.nil n0
  refine Go.cast (ef_o2 m xb (2 : Int32)) ?_
  show Go p e s below _ _ _ s₁ (mkF m 0 #[.val (.ref xb), .val (.int (2 : Int32))] [])
  refine Go.st (fun _ kont => XS.iloadN X0.here hx rfl (hb hby d7_0) rfl kont) ?_
  show Go p e s below _ _ _ s₁ (mkF m 1 #[.val (.ref xb), .val (.int (2 : Int32))] [(.int (2 : Int32))])
  refine Go.st (fun _ kont => XS.aloadN X0.here hx rfl (hb hby d7_1) rfl rfl kont) ?_
  show Go p e s below _ _ _ s₁ (mkF m 2 #[.val (.ref xb), .val (.int (2 : Int32))] [(.ref xb), (.int (2 : Int32))])
  obtain ⟨cl1, Ar1, q1, S1, M1, H1, G1⟩ := (id VB)
  refine Go.st (X0.arraylength hx (by rw [e0]; exact Ar1.1) (State.isArrayOf_alike hZ.alike Ar1.2.1) (g := (mkF m 2 #[.val (.ref xb), .val (.int (2 : Int32))] [(.ref xb), (.int (2 : Int32))])) rfl rfl (hb hby d7_2)) ?_
  rw [len_of S1 M1]
  show Go p e s below _ _ _ s₁ (mkF m 3 #[.val (.ref xb), .val (.int (2 : Int32))] [(.int (2 : Int32)), (.int (2 : Int32))])
  refine Go.st (fun _ kont => XS.isub X0.here hx rfl (hb hby d7_3) rfl kont) ?_
  show Go p e s below _ _ _ s₁ (mkF m 4 #[.val (.ref xb), .val (.int (2 : Int32))] [(.int ((2 : Int32) - (2 : Int32)))])
  refine Go.st (fun _ kont => XT.bipushV X0.here hx rfl (31 : Int32) (hb hby d7_4) (by decide) kont) ?_
  show Go p e s below _ _ _ s₁ (mkF m 6 #[.val (.ref xb), .val (.int (2 : Int32))] [(.int (31 : Int32)), (.int ((2 : Int32) - (2 : Int32)))])
  refine Go.st (fun _ kont => XS.iushr X0.here hx rfl (hb hby d7_6) rfl kont) ?_
  show Go p e s below _ _ _ s₁ (mkF m 7 #[.val (.ref xb), .val (.int (2 : Int32))] [(.int ((((2 : Int32) - (2 : Int32)).toUInt32 >>> ((31 : Int32) &&& 31).toUInt32).toInt32))])
  refine Go.st (fun _ kont => XS.i2b X0.here hx rfl (hb hby d7_7) rfl kont) ?_
  show Go p e s below _ _ _ s₁ (mkF m 8 #[.val (.ref xb), .val (.int (2 : Int32))] [(.int (((((2 : Int32) - (2 : Int32)).toUInt32 >>> ((31 : Int32) &&& 31).toUInt32).toInt32).toInt8.toInt32))])
  exact Go.retN X0 hx hlk hret (by simp) (hb hby d7_8) (by decide) (by decide) ⟨congrArg (fun z => some (Value.int z)) (by decide +kernel), N0, e0⟩
theorem d3_0 : decode jdk_42_method_149_code 0 = .ok (.aload_n 0, 1) := by decide +kernel
theorem d3_1 : decode jdk_42_method_149_code 1 = .ok (.invokespecial 1, 3) := by decide +kernel
theorem d3_4 : decode jdk_42_method_149_code 4 = .ok (.iload_n 3, 1) := by decide +kernel
theorem d3_5 : decode jdk_42_method_149_code 5 = .ok (.ifCond .ne 22, 3) := by decide +kernel
theorem d3_8 : decode jdk_42_method_149_code 8 = .ok (.aload_n 0, 1) := by decide +kernel
theorem d3_9 : decode jdk_42_method_149_code 9 = .ok (.ldc 7, 2) := by decide +kernel
theorem d3_11 : decode jdk_42_method_149_code 11 = .ok (.getfield 9, 3) := by decide +kernel
theorem d3_14 : decode jdk_42_method_149_code 14 = .ok (.putfield 9, 3) := by decide +kernel
theorem d3_17 : decode jdk_42_method_149_code 17 = .ok (.aload_n 0, 1) := by decide +kernel
theorem d3_18 : decode jdk_42_method_149_code 18 = .ok (.ldc 7, 2) := by decide +kernel
theorem d3_20 : decode jdk_42_method_149_code 20 = .ok (.getfield 15, 3) := by decide +kernel
theorem d3_23 : decode jdk_42_method_149_code 23 = .ok (.putfield 15, 3) := by decide +kernel
theorem d3_26 : decode jdk_42_method_149_code 26 = .ok (.return_, 1) := by decide +kernel
theorem ef_A0 (m : MethodId) (x0 : Addr) (x1 : Addr) (x2 : Int32) (x3 : Int32) : entryFrame m #[(.ref x0), (.ref x1), (.int x2), (.int x3), .null] 6 = mkF m 0 #[.val (.ref x0), .val (.ref x1), .val (.int x2), .val (.int x3), .val .null, .unset] [] := by first | (simp [entryFrame, mkF, argsToLocals, Value.category]; done) | rfl
set_option maxRecDepth 65536 in
set_option maxHeartbeats 40000000 in
theorem rmA0 (l : Launch) (Z : State) (a0 : Array Value) (hw : ∀ d ∈ tables_1, d.before a0 Z = true) (ws : List Jvm.Cond) (x xa : Addr) (ka : ClassId) (c0 c1 : Int32) (hc0 : ¬ ((255 : Int32) < (nar .char c0))) (hc1 : ¬ ((255 : Int32) < (nar .char c1))) (h0 : Heap) (n0 : Nat) (gx : n0 ≤ x) (Z0 : n0 ≤ h0.size) (E_x : Exa Z h0 x "java/lang/String") (F_value_x : Fld Z h0 x "java/lang/String" "value" "[B" .null) (F_coder_x : Fld Z h0 x "java/lang/String" "coder" "B" (.int (0 : Int32))) (cs : Int32) (hcs : ¬ cs = (0 : Int32)) (SCP : Sta Z h0 "java/lang/String" "COMPACT_STRINGS" "Z" (.int cs)) (VA : Arv Z h0 xa ka .char (0 : Int32) [] (.int (0 : Int32))) :
    MeetsW l Z EL0 (⟨"java/lang/String", "<init>", "([CIILjava/lang/Void;)V"⟩ : MethodName) jdk_42_method_149_code 6 none ({ frames := 2, cells := 4, slots := 8, locals := 35 } : Room) ws #[(.ref x), (.ref xa), (.int (0 : Int32)), (.int (0 : Int32)), .null] h0 (fun v h L => v = none ∧ Fr n0 L ∧ Keep h0 h [x] ∧ Fld Z h x "java/lang/String" "coder" "B" (.int (0 : Int32)) ∧ ∃ b kb vs, CutB (0 : Int32) c0 c1 vs ∧ Fld Z h x "java/lang/String" "value" "[B" (.ref b) ∧ Arv Z h b kb .byte (0 : Int32) vs (.int (0 : Int32))) := by
  refine MeetsW.of (plainFor_of_name (by first | (simp [plainName, overriddenIn]; done) | decide +kernel : plainName "java/lang/String" = true)) ?_
  intro p e s m below meth c s₁ X0 hx hby hml hret hlk hnm hZ hown e0 hh0 CH0 hS
  replace hown : s.vm.findClass "java/lang/String" = some m.cls := hown
  have hEL := own_EL hw
  have CR0 := CHr.refl CH0
  have Sz0 := Nat.zero_le h0.size
  have N0 := Fr.nil n0
  have K0 := Keep.refl h0 [x]
  have S_x : Safe Z EL0 s.vm h0 x := own_safe hZ.alike E_x F_value_x
  refine GoW.cast (ef_A0 m x xa (0 : Int32) (0 : Int32)) ?_
  show GoW Z EL0 p e s below _ _ _ s₁ (mkF m 0 #[.val (.ref x), .val (.ref xa), .val (.int (0 : Int32)), .val (.int (0 : Int32)), .val .null, .unset] [])
  refine GoW.st (fun _ kont => XS.aloadN X0.here hx rfl (hb hby d3_0) rfl rfl kont) ?_
  show GoW Z EL0 p e s below _ _ _ s₁ (mkF m 1 #[.val (.ref x), .val (.ref xa), .val (.int (0 : Int32)), .val (.int (0 : Int32)), .val .null, .unset] [(.ref x)])
  obtain ⟨T1, X1, e1, st1⟩ := initO X0 hx hZ hown (hw _ (List.mem_of_getElem? (i := 15) rfl)) (hw _ (List.mem_of_getElem? (i := 16) rfl)) (hw _ (List.mem_of_getElem? (i := 17) rfl)) e0 (g := (mkF m 1 #[.val (.ref x), .val (.ref xa), .val (.int (0 : Int32)), .val (.int (0 : Int32)), .val .null, .unset] [(.ref x)])) rfl (by rw [hml]; rfl) rfl (hb hby d3_1) (by decide) (W := 0) (by show 2 * 0 + _ ≤ _; exact Nat.le_of_eq rfl) (by decide)
  refine GoW.st st1 ?_
  show GoW Z EL0 p e s below _ _ _ T1 (mkF m 4 #[.val (.ref x), .val (.ref xa), .val (.int (0 : Int32)), .val (.int (0 : Int32)), .val .null, .unset] [])
  refine GoW.st (fun _ kont => XS.iloadN X1.here hx rfl (hb hby d3_4) rfl kont) ?_
  show GoW Z EL0 p e s below _ _ _ T1 (mkF m 5 #[.val (.ref x), .val (.ref xa), .val (.int (0 : Int32)), .val (.int (0 : Int32)), .val .null, .unset] [(.int (0 : Int32))])
  refine GoW.st (fun _ kont => XS.ifNo X1.here hx rfl (hb hby d3_5) rfl ((if0 _ _).trans (teq rfl).2) kont) ?_
  show GoW Z EL0 p e s below _ _ _ T1 (mkF m 8 #[.val (.ref x), .val (.ref xa), .val (.int (0 : Int32)), .val (.int (0 : Int32)), .val .null, .unset] [])
  refine GoW.st (fun _ kont => XS.aloadN X1.here hx rfl (hb hby d3_8) rfl rfl kont) ?_
  show GoW Z EL0 p e s below _ _ _ T1 (mkF m 9 #[.val (.ref x), .val (.ref xa), .val (.int (0 : Int32)), .val (.int (0 : Int32)), .val .null, .unset] [(.ref x)])
  obtain ⟨a2, T2, h2, k2, b2, kb2, X2, e2, E2, hS, Sz2, hZ, hown, Ea2, Fc2, Fv2, Av2, la2, lb2, C2, -, ne2, st2⟩ := ldcCH (s := s) X1 hx hZ hown (hw _ (List.mem_of_getElem? (i := 34) rfl)) (own_atoms hw) e1 hS Sz0 hEL (List.mem_singleton.mpr rfl) CR0.1 (vs := []) (z := 0) ⟨(fun c hc => by simp at hc), rfl⟩ (by decide) rfl (g := (mkF m 9 #[.val (.ref x), .val (.ref xa), .val (.int (0 : Int32)), .val (.int (0 : Int32)), .val .null, .unset] [(.ref x)])) rfl (hb hby d3_9) (n := 0) (by decide) (by decide) (by decide) (by decide)
  refine GoW.st st2 ?_
  have S_x_2 := C2.safe E_x.lt S_x
  have K_2 : Keep h0 h2 [x] := K0.ext E2
  have E_x_2 := E_x.ext E2
  have F_value_x_2 := F_value_x.ext E2
  have F_coder_x_2 := F_coder_x.ext E2
  have CR_2 := CR0.trans C2
  show GoW Z EL0 p e s below _ _ _ T2 (mkF m 11 #[.val (.ref x), .val (.ref xa), .val (.int (0 : Int32)), .val (.int (0 : Int32)), .val .null, .unset] [(.ref a2), (.ref x)])
  obtain ⟨T3, X3, e3, st3⟩ := getF X2 hx hZ hown (host := "") (Or.inl (hw _ (List.mem_of_getElem? (i := 32) rfl))) Via.refl e2 Fv2 (g := (mkF m 11 #[.val (.ref x), .val (.ref xa), .val (.int (0 : Int32)), .val (.int (0 : Int32)), .val .null, .unset] [(.ref a2), (.ref x)])) rfl rfl (hb hby d3_11)
  refine GoW.st st3 ?_
  show GoW Z EL0 p e s below _ _ _ T3 (mkF m 14 #[.val (.ref x), .val (.ref xa), .val (.int (0 : Int32)), .val (.int (0 : Int32)), .val .null, .unset] [(.ref b2), (.ref x)])
  obtain ⟨T4, h4, X4, e4, W4, st4⟩ := putF X3 hx hZ hown (host := "") (Or.inl (hw _ (List.mem_of_getElem? (i := 32) rfl))) Via.refl e3 F_value_x_2 E_x_2 (Or.inr ⟨(hw _ (List.mem_of_getElem? (i := 33) rfl)), rfl, hnm⟩) (hw _ (List.mem_of_getElem? (i := 6) rfl)) (ty := (.array .byte)) (by decide) rfl rfl (g := (mkF m 14 #[.val (.ref x), .val (.ref xa), .val (.int (0 : Int32)), .val (.int (0 : Int32)), .val .null, .unset] [(.ref b2), (.ref x)])) rfl rfl (hb hby d3_14)
  refine GoW.st st4 ?_
  have F_value_x_4 : Fld Z h4 x "java/lang/String" "value" "[B" (.ref b2) := F_value_x_2.same W4
  have K_4 : Keep h0 h4 [x] := K_2.wr W4 (Or.inl (List.mem_singleton.mpr rfl))
  have E_x_4 := E_x_2.wr W4
  have F_coder_x_4 := F_coder_x_2.other W4 (Or.inr (slot_ne (Or.inr (hw _ (List.mem_of_getElem? (i := 31) rfl))) (Or.inr (hw _ (List.mem_of_getElem? (i := 33) rfl))) (by decide) (t := .byte) (t' := (.array .byte)) (by decide) (by decide)))
  have CR_4 := CR_2.trans (CHr.wr W4 S_x_2 CR_2.1)
  have Sz_4 := Nat.le_trans Sz2 (Nat.le_of_eq W4.size.symm)
  have S_x_4 := Safe.wr W4 S_x_2 CR_2.1 S_x_2
  have E_a2_4 := Ea2.wr W4
  have F_coder_a2_4 := Fc2.other W4 (Or.inl (Ne.symm (ne2 _ S_x_2).1))
  have F_value_a2_4 := Fv2.other W4 (Or.inl (Ne.symm (ne2 _ S_x_2).1))
  have V_b2_4 := Av2.other W4 (Ne.symm (ne2 _ S_x_2).2)
  have N4 := Fr.snoc X4 N0 gx
  show GoW Z EL0 p e s below _ _ _ T4 (mkF m 17 #[.val (.ref x), .val (.ref xa), .val (.int (0 : Int32)), .val (.int (0 : Int32)), .val .null, .unset] [])
  refine GoW.st (fun _ kont => XS.aloadN X4.here hx rfl (hb hby d3_17) rfl rfl kont) ?_
  show GoW Z EL0 p e s below _ _ _ T4 (mkF m 18 #[.val (.ref x), .val (.ref xa), .val (.int (0 : Int32)), .val (.int (0 : Int32)), .val .null, .unset] [(.ref x)])
  obtain ⟨a5, T5, h5, k5, b5, kb5, X5, e5, E5, hS, Sz5, hZ, hown, Ea5, Fc5, Fv5, Av5, la5, lb5, C5, -, ne5, st5⟩ := ldcCH (s := s) X4 hx hZ hown (hw _ (List.mem_of_getElem? (i := 34) rfl)) (own_atoms hw) e4 hS Sz_4 hEL (List.mem_singleton.mpr rfl) CR_4.1 (vs := []) (z := 0) ⟨(fun c hc => by simp at hc), rfl⟩ (by decide) rfl (g := (mkF m 18 #[.val (.ref x), .val (.ref xa), .val (.int (0 : Int32)), .val (.int (0 : Int32)), .val .null, .unset] [(.ref x)])) rfl (hb hby d3_18) (n := 0) (by decide) (by decide) (by decide) (by decide)
  refine GoW.st st5 ?_
  have S_x_5 := C5.safe E_x_4.lt S_x_4
  have K_5 : Keep h0 h5 [x] := K_4.ext E5
  have E_x_5 := E_x_4.ext E5
  have F_value_x_5 := F_value_x_4.ext E5
  have F_coder_x_5 := F_coder_x_4.ext E5
  have E_a2_5 := E_a2_4.ext E5
  have F_coder_a2_5 := F_coder_a2_4.ext E5
  have F_value_a2_5 := F_value_a2_4.ext E5
  have V_b2_5 := V_b2_4.ext E5
  have CR_5 := CR_4.trans C5
  show GoW Z EL0 p e s below _ _ _ T5 (mkF m 20 #[.val (.ref x), .val (.ref xa), .val (.int (0 : Int32)), .val (.int (0 : Int32)), .val .null, .unset] [(.ref a5), (.ref x)])
  obtain ⟨T6, X6, e6, st6⟩ := getF X5 hx hZ hown (host := "") (Or.inl (hw _ (List.mem_of_getElem? (i := 30) rfl))) Via.refl e5 Fc5 (g := (mkF m 20 #[.val (.ref x), .val (.ref xa), .val (.int (0 : Int32)), .val (.int (0 : Int32)), .val .null, .unset] [(.ref a5), (.ref x)])) rfl rfl (hb hby d3_20)
  refine GoW.st st6 ?_
  show GoW Z EL0 p e s below _ _ _ T6 (mkF m 23 #[.val (.ref x), .val (.ref xa), .val (.int (0 : Int32)), .val (.int (0 : Int32)), .val .null, .unset] [(.int (0 : Int32)), (.ref x)])
  obtain ⟨T7, h7, X7, e7, W7, st7⟩ := putFN X6 hx hZ hown (hw _ (List.mem_of_getElem? (i := 30) rfl)) Via.refl e6 F_coder_x_5 E_x_5 (Or.inr ⟨(hw _ (List.mem_of_getElem? (i := 31) rfl)), rfl, hnm⟩) (hw _ (List.mem_of_getElem? (i := 6) rfl)) (ty := .byte) (v' := (.int (nar .byte (0 : Int32)))) (by decide) rfl (fits_nar_byte _) (g := (mkF m 23 #[.val (.ref x), .val (.ref xa), .val (.int (0 : Int32)), .val (.int (0 : Int32)), .val .null, .unset] [(.int (0 : Int32)), (.ref x)])) rfl rfl (hb hby d3_23)
  refine GoW.st st7 ?_
  have F_coder_x_7 : Fld Z h7 x "java/lang/String" "coder" "B" (.int (nar .byte (0 : Int32))) := F_coder_x_5.same W7
  have K_7 : Keep h0 h7 [x] := K_5.wr W7 (Or.inl (List.mem_singleton.mpr rfl))
  have E_x_7 := E_x_5.wr W7
  have F_value_x_7 := F_value_x_5.other W7 (Or.inr (slot_ne (Or.inr (hw _ (List.mem_of_getElem? (i := 33) rfl))) (Or.inr (hw _ (List.mem_of_getElem? (i := 31) rfl))) (by decide) (t := (.array .byte)) (t' := .byte) (by decide) (by decide)))
  have E_a2_7 := E_a2_5.wr W7
  have F_coder_a2_7 := F_coder_a2_5.other W7 (Or.inl (Ne.symm (ne2 _ S_x_2).1))
  have F_value_a2_7 := F_value_a2_5.other W7 (Or.inl (Ne.symm (ne2 _ S_x_2).1))
  have V_b2_7 := V_b2_5.other W7 (Ne.symm (ne2 _ S_x_2).2)
  have CR_7 := CR_5.trans (CHr.wr W7 S_x_5 CR_5.1)
  have Sz_7 := Nat.le_trans Sz5 (Nat.le_of_eq W7.size.symm)
  have S_x_7 := Safe.wr W7 S_x_5 CR_5.1 S_x_5
  have E_a5_7 := Ea5.wr W7
  have F_coder_a5_7 := Fc5.other W7 (Or.inl (Ne.symm (ne5 _ S_x_5).1))
  have F_value_a5_7 := Fv5.other W7 (Or.inl (Ne.symm (ne5 _ S_x_5).1))
  have V_b5_7 := Av5.other W7 (Ne.symm (ne5 _ S_x_5).2)
  have N7 := Fr.snoc X7 N4 gx
  show GoW Z EL0 p e s below _ _ _ T7 (mkF m 26 #[.val (.ref x), .val (.ref xa), .val (.int (0 : Int32)), .val (.int (0 : Int32)), .val .null, .unset] [])
  rw [own_nar0] at F_coder_x_7
  exact GoW.retV X7 hx hlk hret hS (Nat.le_trans Sz_7 (Nat.le_of_eq (congrArg Array.size (Eq.symm e7)))) hZ hEL (own_cr hh0 e7 CR_7) (hb hby d3_26) (by decide) (by decide) ⟨rfl, N7, (by rw [e7]; exact K_7), (by rw [e7]; exact F_coder_x_7), b2, kb2, _, (Or.inl ⟨rfl, rfl⟩), (by rw [e7]; exact F_value_x_7), (by rw [e7]; exact V_b2_7)⟩
theorem pd___CII__B : parseMethodDescriptor "([CII)[B" = some ⟨[(.array .char), .int, .int], some (.array .byte)⟩ := by decide +kernel
theorem pd___BI_B : parseMethodDescriptor "([BI)B" = some ⟨[(.array .byte), .int], some .byte⟩ := by decide +kernel
theorem d3_27 : decode jdk_42_method_149_code 27 = .ok (.getstatic 38, 3) := by decide +kernel
theorem d3_30 : decode jdk_42_method_149_code 30 = .ok (.ifCond .eq 28, 3) := by decide +kernel
theorem d3_33 : decode jdk_42_method_149_code 33 = .ok (.aload_n 1, 1) := by decide +kernel
theorem d3_34 : decode jdk_42_method_149_code 34 = .ok (.iload_n 2, 1) := by decide +kernel
theorem d3_35 : decode jdk_42_method_149_code 35 = .ok (.iload_n 3, 1) := by decide +kernel
theorem d3_36 : decode jdk_42_method_149_code 36 = .ok (.invokestatic 177, 3) := by decide +kernel
theorem d3_39 : decode jdk_42_method_149_code 39 = .ok (.astore 5, 2) := by decide +kernel
theorem d3_41 : decode jdk_42_method_149_code 41 = .ok (.aload_n 0, 1) := by decide +kernel
theorem d3_42 : decode jdk_42_method_149_code 42 = .ok (.aload 5, 2) := by decide +kernel
theorem d3_44 : decode jdk_42_method_149_code 44 = .ok (.iload_n 3, 1) := by decide +kernel
theorem d3_45 : decode jdk_42_method_149_code 45 = .ok (.invokestatic 47, 3) := by decide +kernel
theorem d3_48 : decode jdk_42_method_149_code 48 = .ok (.putfield 15, 3) := by decide +kernel
theorem d3_51 : decode jdk_42_method_149_code 51 = .ok (.aload_n 0, 1) := by decide +kernel
theorem d3_52 : decode jdk_42_method_149_code 52 = .ok (.aload 5, 2) := by decide +kernel
theorem d3_54 : decode jdk_42_method_149_code 54 = .ok (.putfield 9, 3) := by decide +kernel
theorem d3_57 : decode jdk_42_method_149_code 57 = .ok (.return_, 1) := by decide +kernel
theorem ef_A1 (m : MethodId) (x0 : Addr) (x1 : Addr) (x2 : Int32) (x3 : Int32) : entryFrame m #[(.ref x0), (.ref x1), (.int x2), (.int x3), .null] 6 = mkF m 0 #[.val (.ref x0), .val (.ref x1), .val (.int x2), .val (.int x3), .val .null, .unset] [] := by first | (simp [entryFrame, mkF, argsToLocals, Value.category]; done) | rfl
set_option maxRecDepth 65536 in
set_option maxHeartbeats 40000000 in
theorem rmA1 (l : Launch) (Z : State) (a0 : Array Value) (hw : ∀ d ∈ tables_1, d.before a0 Z = true) (ws : List Jvm.Cond) (x xa : Addr) (ka : ClassId) (c0 c1 : Int32) (hc0 : ¬ ((255 : Int32) < (nar .char c0))) (hc1 : ¬ ((255 : Int32) < (nar .char c1))) (h0 : Heap) (n0 : Nat) (gx : n0 ≤ x) (Z0 : n0 ≤ h0.size) (E_x : Exa Z h0 x "java/lang/String") (F_value_x : Fld Z h0 x "java/lang/String" "value" "[B" .null) (F_coder_x : Fld Z h0 x "java/lang/String" "coder" "B" (.int (0 : Int32))) (cs : Int32) (hcs : ¬ cs = (0 : Int32)) (SCP : Sta Z h0 "java/lang/String" "COMPACT_STRINGS" "Z" (.int cs)) (VA : Arv Z h0 xa ka .char (1 : Int32) [(.int (nar .char c0))] (.int (0 : Int32))) :
    MeetsW l Z EL0 (⟨"java/lang/String", "<init>", "([CIILjava/lang/Void;)V"⟩ : MethodName) jdk_42_method_149_code 6 none ({ frames := 2, cells := 4, slots := 8, locals := 35 } : Room) ws #[(.ref x), (.ref xa), (.int (0 : Int32)), (.int (1 : Int32)), .null] h0 (fun v h L => v = none ∧ Fr n0 L ∧ Keep h0 h [x] ∧ Fld Z h x "java/lang/String" "coder" "B" (.int (0 : Int32)) ∧ ∃ b kb vs, CutB (1 : Int32) c0 c1 vs ∧ Fld Z h x "java/lang/String" "value" "[B" (.ref b) ∧ Arv Z h b kb .byte (1 : Int32) vs (.int (0 : Int32))) := by
  refine MeetsW.of (plainFor_of_name (by first | (simp [plainName, overriddenIn]; done) | decide +kernel : plainName "java/lang/String" = true)) ?_
  intro p e s m below meth c s₁ X0 hx hby hml hret hlk hnm hZ hown e0 hh0 CH0 hS
  replace hown : s.vm.findClass "java/lang/String" = some m.cls := hown
  have hEL := own_EL hw
  have CR0 := CHr.refl CH0
  have Sz0 := Nat.zero_le h0.size
  have N0 := Fr.nil n0
  have K0 := Keep.refl h0 [x]
  have S_x : Safe Z EL0 s.vm h0 x := own_safe hZ.alike E_x F_value_x
  refine GoW.cast (ef_A1 m x xa (0 : Int32) (1 : Int32)) ?_
  show GoW Z EL0 p e s below _ _ _ s₁ (mkF m 0 #[.val (.ref x), .val (.ref xa), .val (.int (0 : Int32)), .val (.int (1 : Int32)), .val .null, .unset] [])
  refine GoW.st (fun _ kont => XS.aloadN X0.here hx rfl (hb hby d3_0) rfl rfl kont) ?_
  show GoW Z EL0 p e s below _ _ _ s₁ (mkF m 1 #[.val (.ref x), .val (.ref xa), .val (.int (0 : Int32)), .val (.int (1 : Int32)), .val .null, .unset] [(.ref x)])
  obtain ⟨T1, X1, e1, st1⟩ := initO X0 hx hZ hown (hw _ (List.mem_of_getElem? (i := 15) rfl)) (hw _ (List.mem_of_getElem? (i := 16) rfl)) (hw _ (List.mem_of_getElem? (i := 17) rfl)) e0 (g := (mkF m 1 #[.val (.ref x), .val (.ref xa), .val (.int (0 : Int32)), .val (.int (1 : Int32)), .val .null, .unset] [(.ref x)])) rfl (by rw [hml]; rfl) rfl (hb hby d3_1) (by decide) (W := 0) (by show 2 * 0 + _ ≤ _; exact Nat.le_of_eq rfl) (by decide)
  refine GoW.st st1 ?_
  show GoW Z EL0 p e s below _ _ _ T1 (mkF m 4 #[.val (.ref x), .val (.ref xa), .val (.int (0 : Int32)), .val (.int (1 : Int32)), .val .null, .unset] [])
  refine GoW.st (fun _ kont => XS.iloadN X1.here hx rfl (hb hby d3_4) rfl kont) ?_
  show GoW Z EL0 p e s below _ _ _ T1 (mkF m 5 #[.val (.ref x), .val (.ref xa), .val (.int (0 : Int32)), .val (.int (1 : Int32)), .val .null, .unset] [(.int (1 : Int32))])
  refine GoW.st (fun _ kont => XS.ifYes X1.here hx rfl (pc0 := 5) (pc' := 27) rfl (hb hby d3_5) rfl ((if0 _ _).trans (feq (by decide : ¬ ((1 : Int32) = (0 : Int32)))).2) (by decide) (by decide) kont) ?_
  show GoW Z EL0 p e s below _ _ _ T1 (mkF m 27 #[.val (.ref x), .val (.ref xa), .val (.int (0 : Int32)), .val (.int (1 : Int32)), .val .null, .unset] [])
  obtain ⟨T2, X2, e2, st2⟩ := getS2 X1 hx hZ hown (host := "") (Or.inl (hw _ (List.mem_of_getElem? (i := 18) rfl))) Via.refl e1 SCP (g := (mkF m 27 #[.val (.ref x), .val (.ref xa), .val (.int (0 : Int32)), .val (.int (1 : Int32)), .val .null, .unset] [])) rfl (hb hby d3_27)
  refine GoW.st st2 ?_
  show GoW Z EL0 p e s below _ _ _ T2 (mkF m 30 #[.val (.ref x), .val (.ref xa), .val (.int (0 : Int32)), .val (.int (1 : Int32)), .val .null, .unset] [(.int cs)])
  refine GoW.st (fun _ kont => XS.ifNo X2.here hx rfl (hb hby d3_30) rfl ((if0 _ _).trans (feq hcs).1) kont) ?_
  show GoW Z EL0 p e s below _ _ _ T2 (mkF m 33 #[.val (.ref x), .val (.ref xa), .val (.int (0 : Int32)), .val (.int (1 : Int32)), .val .null, .unset] [])
  refine GoW.st (fun _ kont => XS.aloadN X2.here hx rfl (hb hby d3_33) rfl rfl kont) ?_
  show GoW Z EL0 p e s below _ _ _ T2 (mkF m 34 #[.val (.ref x), .val (.ref xa), .val (.int (0 : Int32)), .val (.int (1 : Int32)), .val .null, .unset] [(.ref xa)])
  refine GoW.st (fun _ kont => XS.iloadN X2.here hx rfl (hb hby d3_34) rfl kont) ?_
  show GoW Z EL0 p e s below _ _ _ T2 (mkF m 35 #[.val (.ref x), .val (.ref xa), .val (.int (0 : Int32)), .val (.int (1 : Int32)), .val .null, .unset] [(.int (0 : Int32)), (.ref xa)])
  refine GoW.st (fun _ kont => XS.iloadN X2.here hx rfl (hb hby d3_35) rfl kont) ?_
  show GoW Z EL0 p e s below _ _ _ T2 (mkF m 36 #[.val (.ref x), .val (.ref xa), .val (.int (0 : Int32)), .val (.int (1 : Int32)), .val .null, .unset] [(.int (1 : Int32)), (.int (0 : Int32)), (.ref xa)])
  refine GoW.callS (W := 0) (argsL := [(.ref xa), (.int (0 : Int32)), (.int (1 : Int32))]) (rest := []) X2 hx hZ hown (y := (⟨"java/lang/StringUTF16", "compress", "([CII)[B"⟩ : MethodName)) (hw _ (List.mem_of_getElem? (i := 19) rfl)) (hw _ (List.mem_of_getElem? (i := 20) rfl)) (hw _ (List.mem_of_getElem? (i := 21) rfl)) (hw _ (List.mem_of_getElem? (i := 22) rfl)) (rmd1 l Z a0 hw [] xa ka c0 c1 hc0 hc1 h0 n0 Z0 VA) e2 (by decide) (by decide) (by decide) (by decide) (by decide) (by rw [hml]; rfl) (lenOf pd___CII__B rfl) (Nat.le_of_eq rfl) (hb hby d3_36) ?_
  intro T3 v3 L3 X3 hQ3
  obtain ⟨h3, e3⟩ : ∃ z, T3.heap = z := ⟨_, rfl⟩
  rw [e3] at hQ3
  obtain ⟨x3, k3, rfl, N3, E3, g3, V3⟩ := hQ3
  have M3 := Fr.app N0 N3
  have CR_3 := CR0.trans (CHr.ext E3 CR0.1)
  have Sz_3 := Nat.le_trans Sz0 E3.1
  have K_3 : Keep h0 h3 [x] := K0.ext E3
  have S_x_3 := Safe.ext E3 CR0.1 S_x
  have E_x_3 := E_x.ext E3
  have F_value_x_3 := F_value_x.ext E3
  have F_coder_x_3 := F_coder_x.ext E3
  show GoW Z EL0 p e s below _ _ _ T3 (mkF m 39 #[.val (.ref x), .val (.ref xa), .val (.int (0 : Int32)), .val (.int (1 : Int32)), .val .null, .unset] [(.ref x3)])
  refine GoW.st (fun _ kont => XS.astore X3.here hx rfl (hb hby d3_39) rfl rfl (l' := #[.val (.ref x), .val (.ref xa), .val (.int (0 : Int32)), .val (.int (1 : Int32)), .val .null, .val (.ref x3)]) rfl kont) ?_
  show GoW Z EL0 p e s below _ _ _ T3 (mkF m 41 #[.val (.ref x), .val (.ref xa), .val (.int (0 : Int32)), .val (.int (1 : Int32)), .val .null, .val (.ref x3)] [])
  refine GoW.st (fun _ kont => XS.aloadN X3.here hx rfl (hb hby d3_41) rfl rfl kont) ?_
  show GoW Z EL0 p e s below _ _ _ T3 (mkF m 42 #[.val (.ref x), .val (.ref xa), .val (.int (0 : Int32)), .val (.int (1 : Int32)), .val .null, .val (.ref x3)] [(.ref x)])
  refine GoW.st (fun _ kont => XS.aload X3.here hx rfl (hb hby d3_42) rfl rfl kont) ?_
  show GoW Z EL0 p e s below _ _ _ T3 (mkF m 44 #[.val (.ref x), .val (.ref xa), .val (.int (0 : Int32)), .val (.int (1 : Int32)), .val .null, .val (.ref x3)] [(.ref x3), (.ref x)])
  refine GoW.st (fun _ kont => XS.iloadN X3.here hx rfl (hb hby d3_44) rfl kont) ?_
  show GoW Z EL0 p e s below _ _ _ T3 (mkF m 45 #[.val (.ref x), .val (.ref xa), .val (.int (0 : Int32)), .val (.int (1 : Int32)), .val .null, .val (.ref x3)] [(.int (1 : Int32)), (.ref x3), (.ref x)])
  refine GoW.callS (W := 1) (argsL := [(.ref x3), (.int (1 : Int32))]) (rest := [(.ref x)]) X3 hx hZ hown (y := (⟨"java/lang/StringUTF16", "coderFromArrayLen", "([BI)B"⟩ : MethodName)) (hw _ (List.mem_of_getElem? (i := 27) rfl)) (hw _ (List.mem_of_getElem? (i := 28) rfl)) (hw _ (List.mem_of_getElem? (i := 21) rfl)) (hw _ (List.mem_of_getElem? (i := 29) rfl)) (rmo1 l Z a0 hw [] x3 k3 [(.int (nar .byte ((nar .char c0).toInt8.toInt32)))] h3 n0 V3) e3 (by decide) (by decide) (by decide) (by decide) (by decide) (by rw [hml]; rfl) (lenOf pd___BI_B rfl) (Nat.le_of_eq rfl) (hb hby d3_45) ?_
  intro T4 v4 L4 X4 hQ4
  obtain ⟨rfl, N4, E4⟩ := hQ4
  have M4 := Fr.app M3 N4
  show GoW Z EL0 p e s below _ _ _ T4 (mkF m 48 #[.val (.ref x), .val (.ref xa), .val (.int (0 : Int32)), .val (.int (1 : Int32)), .val .null, .val (.ref x3)] [(.int (0 : Int32)), (.ref x)])
  obtain ⟨T5, h5, X5, e5, W5, st5⟩ := putFN X4 hx hZ hown (hw _ (List.mem_of_getElem? (i := 30) rfl)) Via.refl E4 F_coder_x_3 E_x_3 (Or.inr ⟨(hw _ (List.mem_of_getElem? (i := 31) rfl)), rfl, hnm⟩) (hw _ (List.mem_of_getElem? (i := 6) rfl)) (ty := .byte) (v' := (.int (nar .byte (0 : Int32)))) (by decide) rfl (fits_nar_byte _) (g := (mkF m 48 #[.val (.ref x), .val (.ref xa), .val (.int (0 : Int32)), .val (.int (1 : Int32)), .val .null, .val (.ref x3)] [(.int (0 : Int32)), (.ref x)])) rfl rfl (hb hby d3_48)
  refine GoW.st st5 ?_
  have F_coder_x_5 : Fld Z h5 x "java/lang/String" "coder" "B" (.int (nar .byte (0 : Int32))) := F_coder_x_3.same W5
  have CR_5 := CR_3.trans (CHr.wr W5 S_x_3 CR_3.1)
  have Sz_5 := Nat.le_trans Sz_3 (Nat.le_of_eq W5.size.symm)
  have K_5 : Keep h0 h5 [x] := K_3.wr W5 (Or.inl (List.mem_singleton.mpr rfl))
  have S_x_5 := Safe.wr W5 S_x_3 CR_3.1 S_x_3
  have E_x_5 := E_x_3.wr W5
  have F_value_x_5 := F_value_x_3.other W5 (Or.inr (slot_ne (Or.inr (hw _ (List.mem_of_getElem? (i := 33) rfl))) (Or.inr (hw _ (List.mem_of_getElem? (i := 31) rfl))) (by decide) (t := (.array .byte)) (t' := .byte) (by decide) (by decide)))
  have V_x3_5 := V3.other W5 (Ne.symm (Nat.ne_of_lt (Nat.lt_of_lt_of_le E_x.lt g3)))
  have N5 := Fr.snoc X5 M4 gx
  show GoW Z EL0 p e s below _ _ _ T5 (mkF m 51 #[.val (.ref x), .val (.ref xa), .val (.int (0 : Int32)), .val (.int (1 : Int32)), .val .null, .val (.ref x3)] [])
  rw [own_nar0] at F_coder_x_5
  refine GoW.st (fun _ kont => XS.aloadN X5.here hx rfl (hb hby d3_51) rfl rfl kont) ?_
  show GoW Z EL0 p e s below _ _ _ T5 (mkF m 52 #[.val (.ref x), .val (.ref xa), .val (.int (0 : Int32)), .val (.int (1 : Int32)), .val .null, .val (.ref x3)] [(.ref x)])
  refine GoW.st (fun _ kont => XS.aload X5.here hx rfl (hb hby d3_52) rfl rfl kont) ?_
  show GoW Z EL0 p e s below _ _ _ T5 (mkF m 54 #[.val (.ref x), .val (.ref xa), .val (.int (0 : Int32)), .val (.int (1 : Int32)), .val .null, .val (.ref x3)] [(.ref x3), (.ref x)])
  obtain ⟨T6, h6, X6, e6, W6, st6⟩ := putF X5 hx hZ hown (host := "") (Or.inl (hw _ (List.mem_of_getElem? (i := 32) rfl))) Via.refl e5 F_value_x_5 E_x_5 (Or.inr ⟨(hw _ (List.mem_of_getElem? (i := 33) rfl)), rfl, hnm⟩) (hw _ (List.mem_of_getElem? (i := 6) rfl)) (ty := (.array .byte)) (by decide) rfl rfl (g := (mkF m 54 #[.val (.ref x), .val (.ref xa), .val (.int (0 : Int32)), .val (.int (1 : Int32)), .val .null, .val (.ref x3)] [(.ref x3), (.ref x)])) rfl rfl (hb hby d3_54)
  refine GoW.st st6 ?_
  have F_value_x_6 : Fld Z h6 x "java/lang/String" "value" "[B" (.ref x3) := F_value_x_5.same W6
  have CR_6 := CR_5.trans (CHr.wr W6 S_x_5 CR_5.1)
  have Sz_6 := Nat.le_trans Sz_5 (Nat.le_of_eq W6.size.symm)
  have K_6 : Keep h0 h6 [x] := K_5.wr W6 (Or.inl (List.mem_singleton.mpr rfl))
  have S_x_6 := Safe.wr W6 S_x_5 CR_5.1 S_x_5
  have E_x_6 := E_x_5.wr W6
  have F_coder_x_6 := F_coder_x_5.other W6 (Or.inr (slot_ne (Or.inr (hw _ (List.mem_of_getElem? (i := 31) rfl))) (Or.inr (hw _ (List.mem_of_getElem? (i := 33) rfl))) (by decide) (t := .byte) (t' := (.array .byte)) (by decide) (by decide)))
  have V_x3_6 := V_x3_5.other W6 (Ne.symm (Nat.ne_of_lt (Nat.lt_of_lt_of_le E_x.lt g3)))
  have N6 := Fr.snoc X6 N5 gx
  show GoW Z EL0 p e s below _ _ _ T6 (mkF m 57 #[.val (.ref x), .val (.ref xa), .val (.int (0 : Int32)), .val (.int (1 : Int32)), .val .null, .val (.ref x3)] [])
  exact GoW.retV X6 hx hlk hret hS (Nat.le_trans Sz_6 (Nat.le_of_eq (congrArg Array.size (Eq.symm e6)))) hZ hEL (own_cr hh0 e6 CR_6) (hb hby d3_57) (by decide) (by decide) ⟨rfl, N6, (by rw [e6]; exact K_6), (by rw [e6]; exact F_coder_x_6), x3, k3, _, (Or.inr (Or.inl ⟨rfl, rfl⟩)), (by rw [e6]; exact F_value_x_6), (by rw [e6]; exact V_x3_6)⟩
theorem ef_A2 (m : MethodId) (x0 : Addr) (x1 : Addr) (x2 : Int32) (x3 : Int32) : entryFrame m #[(.ref x0), (.ref x1), (.int x2), (.int x3), .null] 6 = mkF m 0 #[.val (.ref x0), .val (.ref x1), .val (.int x2), .val (.int x3), .val .null, .unset] [] := by first | (simp [entryFrame, mkF, argsToLocals, Value.category]; done) | rfl
set_option maxRecDepth 65536 in
set_option maxHeartbeats 40000000 in
theorem rmA2 (l : Launch) (Z : State) (a0 : Array Value) (hw : ∀ d ∈ tables_1, d.before a0 Z = true) (ws : List Jvm.Cond) (x xa : Addr) (ka : ClassId) (c0 c1 : Int32) (hc0 : ¬ ((255 : Int32) < (nar .char c0))) (hc1 : ¬ ((255 : Int32) < (nar .char c1))) (h0 : Heap) (n0 : Nat) (gx : n0 ≤ x) (Z0 : n0 ≤ h0.size) (E_x : Exa Z h0 x "java/lang/String") (F_value_x : Fld Z h0 x "java/lang/String" "value" "[B" .null) (F_coder_x : Fld Z h0 x "java/lang/String" "coder" "B" (.int (0 : Int32))) (cs : Int32) (hcs : ¬ cs = (0 : Int32)) (SCP : Sta Z h0 "java/lang/String" "COMPACT_STRINGS" "Z" (.int cs)) (VA : Arv Z h0 xa ka .char (2 : Int32) [(.int (nar .char c0)), (.int (nar .char c1))] (.int (0 : Int32))) :
    MeetsW l Z EL0 (⟨"java/lang/String", "<init>", "([CIILjava/lang/Void;)V"⟩ : MethodName) jdk_42_method_149_code 6 none ({ frames := 2, cells := 4, slots := 8, locals := 35 } : Room) ws #[(.ref x), (.ref xa), (.int (0 : Int32)), (.int (2 : Int32)), .null] h0 (fun v h L => v = none ∧ Fr n0 L ∧ Keep h0 h [x] ∧ Fld Z h x "java/lang/String" "coder" "B" (.int (0 : Int32)) ∧ ∃ b kb vs, CutB (2 : Int32) c0 c1 vs ∧ Fld Z h x "java/lang/String" "value" "[B" (.ref b) ∧ Arv Z h b kb .byte (2 : Int32) vs (.int (0 : Int32))) := by
  refine MeetsW.of (plainFor_of_name (by first | (simp [plainName, overriddenIn]; done) | decide +kernel : plainName "java/lang/String" = true)) ?_
  intro p e s m below meth c s₁ X0 hx hby hml hret hlk hnm hZ hown e0 hh0 CH0 hS
  replace hown : s.vm.findClass "java/lang/String" = some m.cls := hown
  have hEL := own_EL hw
  have CR0 := CHr.refl CH0
  have Sz0 := Nat.zero_le h0.size
  have N0 := Fr.nil n0
  have K0 := Keep.refl h0 [x]
  have S_x : Safe Z EL0 s.vm h0 x := own_safe hZ.alike E_x F_value_x
  refine GoW.cast (ef_A2 m x xa (0 : Int32) (2 : Int32)) ?_
  show GoW Z EL0 p e s below _ _ _ s₁ (mkF m 0 #[.val (.ref x), .val (.ref xa), .val (.int (0 : Int32)), .val (.int (2 : Int32)), .val .null, .unset] [])
  refine GoW.st (fun _ kont => XS.aloadN X0.here hx rfl (hb hby d3_0) rfl rfl kont) ?_
  show GoW Z EL0 p e s below _ _ _ s₁ (mkF m 1 #[.val (.ref x), .val (.ref xa), .val (.int (0 : Int32)), .val (.int (2 : Int32)), .val .null, .unset] [(.ref x)])
  obtain ⟨T1, X1, e1, st1⟩ := initO X0 hx hZ hown (hw _ (List.mem_of_getElem? (i := 15) rfl)) (hw _ (List.mem_of_getElem? (i := 16) rfl)) (hw _ (List.mem_of_getElem? (i := 17) rfl)) e0 (g := (mkF m 1 #[.val (.ref x), .val (.ref xa), .val (.int (0 : Int32)), .val (.int (2 : Int32)), .val .null, .unset] [(.ref x)])) rfl (by rw [hml]; rfl) rfl (hb hby d3_1) (by decide) (W := 0) (by show 2 * 0 + _ ≤ _; exact Nat.le_of_eq rfl) (by decide)
  refine GoW.st st1 ?_
  show GoW Z EL0 p e s below _ _ _ T1 (mkF m 4 #[.val (.ref x), .val (.ref xa), .val (.int (0 : Int32)), .val (.int (2 : Int32)), .val .null, .unset] [])
  refine GoW.st (fun _ kont => XS.iloadN X1.here hx rfl (hb hby d3_4) rfl kont) ?_
  show GoW Z EL0 p e s below _ _ _ T1 (mkF m 5 #[.val (.ref x), .val (.ref xa), .val (.int (0 : Int32)), .val (.int (2 : Int32)), .val .null, .unset] [(.int (2 : Int32))])
  refine GoW.st (fun _ kont => XS.ifYes X1.here hx rfl (pc0 := 5) (pc' := 27) rfl (hb hby d3_5) rfl ((if0 _ _).trans (feq (by decide : ¬ ((2 : Int32) = (0 : Int32)))).2) (by decide) (by decide) kont) ?_
  show GoW Z EL0 p e s below _ _ _ T1 (mkF m 27 #[.val (.ref x), .val (.ref xa), .val (.int (0 : Int32)), .val (.int (2 : Int32)), .val .null, .unset] [])
  obtain ⟨T2, X2, e2, st2⟩ := getS2 X1 hx hZ hown (host := "") (Or.inl (hw _ (List.mem_of_getElem? (i := 18) rfl))) Via.refl e1 SCP (g := (mkF m 27 #[.val (.ref x), .val (.ref xa), .val (.int (0 : Int32)), .val (.int (2 : Int32)), .val .null, .unset] [])) rfl (hb hby d3_27)
  refine GoW.st st2 ?_
  show GoW Z EL0 p e s below _ _ _ T2 (mkF m 30 #[.val (.ref x), .val (.ref xa), .val (.int (0 : Int32)), .val (.int (2 : Int32)), .val .null, .unset] [(.int cs)])
  refine GoW.st (fun _ kont => XS.ifNo X2.here hx rfl (hb hby d3_30) rfl ((if0 _ _).trans (feq hcs).1) kont) ?_
  show GoW Z EL0 p e s below _ _ _ T2 (mkF m 33 #[.val (.ref x), .val (.ref xa), .val (.int (0 : Int32)), .val (.int (2 : Int32)), .val .null, .unset] [])
  refine GoW.st (fun _ kont => XS.aloadN X2.here hx rfl (hb hby d3_33) rfl rfl kont) ?_
  show GoW Z EL0 p e s below _ _ _ T2 (mkF m 34 #[.val (.ref x), .val (.ref xa), .val (.int (0 : Int32)), .val (.int (2 : Int32)), .val .null, .unset] [(.ref xa)])
  refine GoW.st (fun _ kont => XS.iloadN X2.here hx rfl (hb hby d3_34) rfl kont) ?_
  show GoW Z EL0 p e s below _ _ _ T2 (mkF m 35 #[.val (.ref x), .val (.ref xa), .val (.int (0 : Int32)), .val (.int (2 : Int32)), .val .null, .unset] [(.int (0 : Int32)), (.ref xa)])
  refine GoW.st (fun _ kont => XS.iloadN X2.here hx rfl (hb hby d3_35) rfl kont) ?_
  show GoW Z EL0 p e s below _ _ _ T2 (mkF m 36 #[.val (.ref x), .val (.ref xa), .val (.int (0 : Int32)), .val (.int (2 : Int32)), .val .null, .unset] [(.int (2 : Int32)), (.int (0 : Int32)), (.ref xa)])
  refine GoW.callS (W := 0) (argsL := [(.ref xa), (.int (0 : Int32)), (.int (2 : Int32))]) (rest := []) X2 hx hZ hown (y := (⟨"java/lang/StringUTF16", "compress", "([CII)[B"⟩ : MethodName)) (hw _ (List.mem_of_getElem? (i := 19) rfl)) (hw _ (List.mem_of_getElem? (i := 20) rfl)) (hw _ (List.mem_of_getElem? (i := 21) rfl)) (hw _ (List.mem_of_getElem? (i := 22) rfl)) (rmd2 l Z a0 hw [] xa ka c0 c1 hc0 hc1 h0 n0 Z0 VA) e2 (by decide) (by decide) (by decide) (by decide) (by decide) (by rw [hml]; rfl) (lenOf pd___CII__B rfl) (Nat.le_of_eq rfl) (hb hby d3_36) ?_
  intro T3 v3 L3 X3 hQ3
  obtain ⟨h3, e3⟩ : ∃ z, T3.heap = z := ⟨_, rfl⟩
  rw [e3] at hQ3
  obtain ⟨x3, k3, rfl, N3, E3, g3, V3⟩ := hQ3
  have M3 := Fr.app N0 N3
  have CR_3 := CR0.trans (CHr.ext E3 CR0.1)
  have Sz_3 := Nat.le_trans Sz0 E3.1
  have K_3 : Keep h0 h3 [x] := K0.ext E3
  have S_x_3 := Safe.ext E3 CR0.1 S_x
  have E_x_3 := E_x.ext E3
  have F_value_x_3 := F_value_x.ext E3
  have F_coder_x_3 := F_coder_x.ext E3
  show GoW Z EL0 p e s below _ _ _ T3 (mkF m 39 #[.val (.ref x), .val (.ref xa), .val (.int (0 : Int32)), .val (.int (2 : Int32)), .val .null, .unset] [(.ref x3)])
  refine GoW.st (fun _ kont => XS.astore X3.here hx rfl (hb hby d3_39) rfl rfl (l' := #[.val (.ref x), .val (.ref xa), .val (.int (0 : Int32)), .val (.int (2 : Int32)), .val .null, .val (.ref x3)]) rfl kont) ?_
  show GoW Z EL0 p e s below _ _ _ T3 (mkF m 41 #[.val (.ref x), .val (.ref xa), .val (.int (0 : Int32)), .val (.int (2 : Int32)), .val .null, .val (.ref x3)] [])
  refine GoW.st (fun _ kont => XS.aloadN X3.here hx rfl (hb hby d3_41) rfl rfl kont) ?_
  show GoW Z EL0 p e s below _ _ _ T3 (mkF m 42 #[.val (.ref x), .val (.ref xa), .val (.int (0 : Int32)), .val (.int (2 : Int32)), .val .null, .val (.ref x3)] [(.ref x)])
  refine GoW.st (fun _ kont => XS.aload X3.here hx rfl (hb hby d3_42) rfl rfl kont) ?_
  show GoW Z EL0 p e s below _ _ _ T3 (mkF m 44 #[.val (.ref x), .val (.ref xa), .val (.int (0 : Int32)), .val (.int (2 : Int32)), .val .null, .val (.ref x3)] [(.ref x3), (.ref x)])
  refine GoW.st (fun _ kont => XS.iloadN X3.here hx rfl (hb hby d3_44) rfl kont) ?_
  show GoW Z EL0 p e s below _ _ _ T3 (mkF m 45 #[.val (.ref x), .val (.ref xa), .val (.int (0 : Int32)), .val (.int (2 : Int32)), .val .null, .val (.ref x3)] [(.int (2 : Int32)), (.ref x3), (.ref x)])
  refine GoW.callS (W := 1) (argsL := [(.ref x3), (.int (2 : Int32))]) (rest := [(.ref x)]) X3 hx hZ hown (y := (⟨"java/lang/StringUTF16", "coderFromArrayLen", "([BI)B"⟩ : MethodName)) (hw _ (List.mem_of_getElem? (i := 27) rfl)) (hw _ (List.mem_of_getElem? (i := 28) rfl)) (hw _ (List.mem_of_getElem? (i := 21) rfl)) (hw _ (List.mem_of_getElem? (i := 29) rfl)) (rmo2 l Z a0 hw [] x3 k3 [(.int (nar .byte ((nar .char c0).toInt8.toInt32))), (.int (nar .byte ((nar .char c1).toInt8.toInt32)))] h3 n0 V3) e3 (by decide) (by decide) (by decide) (by decide) (by decide) (by rw [hml]; rfl) (lenOf pd___BI_B rfl) (Nat.le_of_eq rfl) (hb hby d3_45) ?_
  intro T4 v4 L4 X4 hQ4
  obtain ⟨rfl, N4, E4⟩ := hQ4
  have M4 := Fr.app M3 N4
  show GoW Z EL0 p e s below _ _ _ T4 (mkF m 48 #[.val (.ref x), .val (.ref xa), .val (.int (0 : Int32)), .val (.int (2 : Int32)), .val .null, .val (.ref x3)] [(.int (0 : Int32)), (.ref x)])
  obtain ⟨T5, h5, X5, e5, W5, st5⟩ := putFN X4 hx hZ hown (hw _ (List.mem_of_getElem? (i := 30) rfl)) Via.refl E4 F_coder_x_3 E_x_3 (Or.inr ⟨(hw _ (List.mem_of_getElem? (i := 31) rfl)), rfl, hnm⟩) (hw _ (List.mem_of_getElem? (i := 6) rfl)) (ty := .byte) (v' := (.int (nar .byte (0 : Int32)))) (by decide) rfl (fits_nar_byte _) (g := (mkF m 48 #[.val (.ref x), .val (.ref xa), .val (.int (0 : Int32)), .val (.int (2 : Int32)), .val .null, .val (.ref x3)] [(.int (0 : Int32)), (.ref x)])) rfl rfl (hb hby d3_48)
  refine GoW.st st5 ?_
  have F_coder_x_5 : Fld Z h5 x "java/lang/String" "coder" "B" (.int (nar .byte (0 : Int32))) := F_coder_x_3.same W5
  have CR_5 := CR_3.trans (CHr.wr W5 S_x_3 CR_3.1)
  have Sz_5 := Nat.le_trans Sz_3 (Nat.le_of_eq W5.size.symm)
  have K_5 : Keep h0 h5 [x] := K_3.wr W5 (Or.inl (List.mem_singleton.mpr rfl))
  have S_x_5 := Safe.wr W5 S_x_3 CR_3.1 S_x_3
  have E_x_5 := E_x_3.wr W5
  have F_value_x_5 := F_value_x_3.other W5 (Or.inr (slot_ne (Or.inr (hw _ (List.mem_of_getElem? (i := 33) rfl))) (Or.inr (hw _ (List.mem_of_getElem? (i := 31) rfl))) (by decide) (t := (.array .byte)) (t' := .byte) (by decide) (by decide)))
  have V_x3_5 := V3.other W5 (Ne.symm (Nat.ne_of_lt (Nat.lt_of_lt_of_le E_x.lt g3)))
  have N5 := Fr.snoc X5 M4 gx
  show GoW Z EL0 p e s below _ _ _ T5 (mkF m 51 #[.val (.ref x), .val (.ref xa), .val (.int (0 : Int32)), .val (.int (2 : Int32)), .val .null, .val (.ref x3)] [])
  rw [own_nar0] at F_coder_x_5
  refine GoW.st (fun _ kont => XS.aloadN X5.here hx rfl (hb hby d3_51) rfl rfl kont) ?_
  show GoW Z EL0 p e s below _ _ _ T5 (mkF m 52 #[.val (.ref x), .val (.ref xa), .val (.int (0 : Int32)), .val (.int (2 : Int32)), .val .null, .val (.ref x3)] [(.ref x)])
  refine GoW.st (fun _ kont => XS.aload X5.here hx rfl (hb hby d3_52) rfl rfl kont) ?_
  show GoW Z EL0 p e s below _ _ _ T5 (mkF m 54 #[.val (.ref x), .val (.ref xa), .val (.int (0 : Int32)), .val (.int (2 : Int32)), .val .null, .val (.ref x3)] [(.ref x3), (.ref x)])
  obtain ⟨T6, h6, X6, e6, W6, st6⟩ := putF X5 hx hZ hown (host := "") (Or.inl (hw _ (List.mem_of_getElem? (i := 32) rfl))) Via.refl e5 F_value_x_5 E_x_5 (Or.inr ⟨(hw _ (List.mem_of_getElem? (i := 33) rfl)), rfl, hnm⟩) (hw _ (List.mem_of_getElem? (i := 6) rfl)) (ty := (.array .byte)) (by decide) rfl rfl (g := (mkF m 54 #[.val (.ref x), .val (.ref xa), .val (.int (0 : Int32)), .val (.int (2 : Int32)), .val .null, .val (.ref x3)] [(.ref x3), (.ref x)])) rfl rfl (hb hby d3_54)
  refine GoW.st st6 ?_
  have F_value_x_6 : Fld Z h6 x "java/lang/String" "value" "[B" (.ref x3) := F_value_x_5.same W6
  have CR_6 := CR_5.trans (CHr.wr W6 S_x_5 CR_5.1)
  have Sz_6 := Nat.le_trans Sz_5 (Nat.le_of_eq W6.size.symm)
  have K_6 : Keep h0 h6 [x] := K_5.wr W6 (Or.inl (List.mem_singleton.mpr rfl))
  have S_x_6 := Safe.wr W6 S_x_5 CR_5.1 S_x_5
  have E_x_6 := E_x_5.wr W6
  have F_coder_x_6 := F_coder_x_5.other W6 (Or.inr (slot_ne (Or.inr (hw _ (List.mem_of_getElem? (i := 31) rfl))) (Or.inr (hw _ (List.mem_of_getElem? (i := 33) rfl))) (by decide) (t := .byte) (t' := (.array .byte)) (by decide) (by decide)))
  have V_x3_6 := V_x3_5.other W6 (Ne.symm (Nat.ne_of_lt (Nat.lt_of_lt_of_le E_x.lt g3)))
  have N6 := Fr.snoc X6 N5 gx
  show GoW Z EL0 p e s below _ _ _ T6 (mkF m 57 #[.val (.ref x), .val (.ref xa), .val (.int (0 : Int32)), .val (.int (2 : Int32)), .val .null, .val (.ref x3)] [])
  exact GoW.retV X6 hx hlk hret hS (Nat.le_trans Sz_6 (Nat.le_of_eq (congrArg Array.size (Eq.symm e6)))) hZ hEL (own_cr hh0 e6 CR_6) (hb hby d3_57) (by decide) (by decide) ⟨rfl, N6, (by rw [e6]; exact K_6), (by rw [e6]; exact F_coder_x_6), x3, k3, _, (Or.inr (Or.inr ⟨rfl, rfl⟩)), (by rw [e6]; exact F_value_x_6), (by rw [e6]; exact V_x3_6)⟩
theorem rmA (l : Launch) (Z : State) (a0 : Array Value) (hw : ∀ d ∈ tables_1, d.before a0 Z = true) (ws : List Jvm.Cond) (x xa : Addr) (ka : ClassId) (len c0 c1 : Int32) (vs : List Value) (hC : CutC len c0 c1 vs) (hc0 : ¬ ((255 : Int32) < (nar .char c0))) (hc1 : ¬ ((255 : Int32) < (nar .char c1))) (h0 : Heap) (n0 : Nat) (gx : n0 ≤ x) (Z0 : n0 ≤ h0.size) (E_x : Exa Z h0 x "java/lang/String") (F_value_x : Fld Z h0 x "java/lang/String" "value" "[B" .null) (F_coder_x : Fld Z h0 x "java/lang/String" "coder" "B" (.int (0 : Int32))) (cs : Int32) (hcs : ¬ cs = (0 : Int32)) (SCP : Sta Z h0 "java/lang/String" "COMPACT_STRINGS" "Z" (.int cs)) (VA : Arv Z h0 xa ka .char len vs (.int (0 : Int32))) :
    MeetsW l Z EL0 (⟨"java/lang/String", "<init>", "([CIILjava/lang/Void;)V"⟩ : MethodName) jdk_42_method_149_code 6 none ({ frames := 2, cells := 4, slots := 8, locals := 35 } : Room) ws #[(.ref x), (.ref xa), (.int (0 : Int32)), (.int len), .null] h0 (fun v h L => v = none ∧ Fr n0 L ∧ Keep h0 h [x] ∧ Fld Z h x "java/lang/String" "coder" "B" (.int (0 : Int32)) ∧ ∃ b kb vs, CutB len c0 c1 vs ∧ Fld Z h x "java/lang/String" "value" "[B" (.ref b) ∧ Arv Z h b kb .byte len vs (.int (0 : Int32))) := by
  rcases hC with ⟨rfl, rfl⟩ | ⟨rfl, rfl⟩ | ⟨rfl, rfl⟩
  · exact rmA0 l Z a0 hw ws x xa ka c0 c1 hc0 hc1 h0 n0 gx Z0 E_x F_value_x F_coder_x cs hcs SCP VA
  · exact rmA1 l Z a0 hw ws x xa ka c0 c1 hc0 hc1 h0 n0 gx Z0 E_x F_value_x F_coder_x cs hcs SCP VA
  · exact rmA2 l Z a0 hw ws x xa ka c0 c1 hc0 hc1 h0 n0 gx Z0 E_x F_value_x F_coder_x cs hcs SCP VA
theorem pd___CIILjava_lang_Void__V : parseMethodDescriptor "([CIILjava/lang/Void;)V" = some ⟨[(.array .char), .int, .int, (.object "java/lang/Void")], none⟩ := by decide +kernel
theorem d2_0 : decode jdk_42_method_3_code 0 = .ok (.aload_n 0, 1) := by decide +kernel
theorem d2_1 : decode jdk_42_method_3_code 1 = .ok (.aload_n 1, 1) := by decide +kernel
theorem d2_2 : decode jdk_42_method_3_code 2 = .ok (.iconst 0, 1) := by decide +kernel
theorem d2_3 : decode jdk_42_method_3_code 3 = .ok (.aload_n 1, 1) := by decide +kernel
theorem d2_4 : decode jdk_42_method_3_code 4 = .ok (.arraylength, 1) := by decide +kernel
theorem d2_5 : decode jdk_42_method_3_code 5 = .ok (.aconst_null, 1) := by decide +kernel
theorem d2_6 : decode jdk_42_method_3_code 6 = .ok (.invokespecial 27, 3) := by decide +kernel
theorem d2_9 : decode jdk_42_method_3_code 9 = .ok (.return_, 1) := by decide +kernel
theorem ef_B (m : MethodId) (x0 : Addr) (x1 : Addr) : entryFrame m #[(.ref x0), (.ref x1)] 2 = mkF m 0 #[.val (.ref x0), .val (.ref x1)] [] := by first | (simp [entryFrame, mkF, argsToLocals, Value.category]; done) | rfl
set_option maxRecDepth 65536 in
set_option maxHeartbeats 40000000 in
theorem rmB (l : Launch) (Z : State) (a0 : Array Value) (hw : ∀ d ∈ tables_1, d.before a0 Z = true) (ws : List Jvm.Cond) (x xa : Addr) (ka : ClassId) (len c0 c1 : Int32) (vs : List Value) (hC : CutC len c0 c1 vs) (hc0 : ¬ ((255 : Int32) < (nar .char c0))) (hc1 : ¬ ((255 : Int32) < (nar .char c1))) (h0 : Heap) (n0 : Nat) (gx : n0 ≤ x) (Z0 : n0 ≤ h0.size) (E_x : Exa Z h0 x "java/lang/String") (F_value_x : Fld Z h0 x "java/lang/String" "value" "[B" .null) (F_coder_x : Fld Z h0 x "java/lang/String" "coder" "B" (.int (0 : Int32))) (cs : Int32) (hcs : ¬ cs = (0 : Int32)) (SCP : Sta Z h0 "java/lang/String" "COMPACT_STRINGS" "Z" (.int cs)) (VA : Arv Z h0 xa ka .char len vs (.int (0 : Int32))) :
    MeetsW l Z EL0 (⟨"java/lang/String", "<init>", "([C)V"⟩ : MethodName) jdk_42_method_3_code 2 none ({ frames := 3, cells := 4, slots := 8, locals := 52 } : Room) ws #[(.ref x), (.ref xa)] h0 (fun v h L => v = none ∧ Fr n0 L ∧ Keep h0 h [x] ∧ Fld Z h x "java/lang/String" "coder" "B" (.int (0 : Int32)) ∧ ∃ b kb vs, CutB len c0 c1 vs ∧ Fld Z h x "java/lang/String" "value" "[B" (.ref b) ∧ Arv Z h b kb .byte len vs (.int (0 : Int32))) := by
  refine MeetsW.of (plainFor_of_name (by first | (simp [plainName, overriddenIn]; done) | decide +kernel : plainName "java/lang/String" = true)) ?_
  intro p e s m below meth c s₁ X0 hx hby hml hret hlk hnm hZ hown e0 hh0 CH0 hS
  replace hown : s.vm.findClass "java/lang/String" = some m.cls := hown
  have hEL := own_EL hw
  have CR0 := CHr.refl CH0
  have Sz0 := Nat.zero_le h0.size
  have N0 := Fr.nil n0
  refine GoW.cast (ef_B m x xa) ?_
  show GoW Z EL0 p e s below _ _ _ s₁ (mkF m 0 #[.val (.ref x), .val (.ref xa)] [])
  refine GoW.st (fun _ kont => XS.aloadN X0.here hx rfl (hb hby d2_0) rfl rfl kont) ?_
  show GoW Z EL0 p e s below _ _ _ s₁ (mkF m 1 #[.val (.ref x), .val (.ref xa)] [(.ref x)])
  refine GoW.st (fun _ kont => XS.aloadN X0.here hx rfl (hb hby d2_1) rfl rfl kont) ?_
  show GoW Z EL0 p e s below _ _ _ s₁ (mkF m 2 #[.val (.ref x), .val (.ref xa)] [(.ref xa), (.ref x)])
  refine GoW.st (fun _ kont => XT.iconstV X0.here hx rfl (0 : Int32) (hb hby d2_2) (by decide) kont) ?_
  show GoW Z EL0 p e s below _ _ _ s₁ (mkF m 3 #[.val (.ref x), .val (.ref xa)] [(.int (0 : Int32)), (.ref xa), (.ref x)])
  refine GoW.st (fun _ kont => XS.aloadN X0.here hx rfl (hb hby d2_3) rfl rfl kont) ?_
  show GoW Z EL0 p e s below _ _ _ s₁ (mkF m 4 #[.val (.ref x), .val (.ref xa)] [(.ref xa), (.int (0 : Int32)), (.ref xa), (.ref x)])
  obtain ⟨cl1, Ar1, q1, S1, M1, H1, G1⟩ := (id VA)
  refine GoW.st (X0.arraylength hx (by rw [e0]; exact Ar1.1) (State.isArrayOf_alike hZ.alike Ar1.2.1) (g := (mkF m 4 #[.val (.ref x), .val (.ref xa)] [(.ref xa), (.int (0 : Int32)), (.ref xa), (.ref x)])) rfl rfl (hb hby d2_4)) ?_
  rw [len_of S1 M1]
  show GoW Z EL0 p e s below _ _ _ s₁ (mkF m 5 #[.val (.ref x), .val (.ref xa)] [(.int len), (.int (0 : Int32)), (.ref xa), (.ref x)])
  refine GoW.st (fun _ kont => XS.aconstNull X0.here hx rfl (hb hby d2_5) kont) ?_
  show GoW Z EL0 p e s below _ _ _ s₁ (mkF m 6 #[.val (.ref x), .val (.ref xa)] [.null, (.int len), (.int (0 : Int32)), (.ref xa), (.ref x)])
  refine GoW.callX (b := x) (W := 0) (argsL := [(.ref xa), (.int (0 : Int32)), (.int len), .null]) (rest := []) X0 hx hZ (y := (⟨"java/lang/String", "<init>", "([CIILjava/lang/Void;)V"⟩ : MethodName)) rfl hown (hw _ (List.mem_of_getElem? (i := 11) rfl)) (hw _ (List.mem_of_getElem? (i := 12) rfl)) (hw _ (List.mem_of_getElem? (i := 7) rfl)) (hw _ (List.mem_of_getElem? (i := 14) rfl)) (rmA l Z a0 hw [] x xa ka len c0 c1 vs hC hc0 hc1 h0 n0 gx Z0 E_x F_value_x F_coder_x cs hcs SCP VA) e0 hEL CR0.1 hS Sz0 (by decide) (by decide) (by decide) (by decide) (by decide) (by rw [hml]; rfl) (lenOf pd___CIILjava_lang_Void__V rfl) (Nat.le_of_eq rfl) (hb hby d2_6) ?_
  intro T2 v2 L2 X2 hQ2 hS hZ hown C2
  obtain ⟨h2, e2⟩ : ∃ z, T2.heap = z := ⟨_, rfl⟩
  rw [e2] at hQ2 C2
  have CR_2 := CR0.trans C2
  have Sz_2 := Nat.le_of_eq (congrArg Array.size e2)
  obtain ⟨rfl, N2, Q2⟩ := hQ2
  have M2 := Fr.app N0 N2
  show GoW Z EL0 p e s below _ _ _ T2 (mkF m 9 #[.val (.ref x), .val (.ref xa)] [])
  exact GoW.retV X2 hx hlk hret hS (Nat.le_trans Sz_2 (Nat.le_of_eq (congrArg Array.size (Eq.symm e2)))) hZ hEL (own_cr hh0 e2 CR_2) (hb hby d2_9) (by decide) (by decide) ⟨rfl, M2, (by rw [e2]; exact Q2)⟩
theorem d12_0 : decode jdk_43_method_13_code 0 = .ok (.aload_n 0, 1) := by decide +kernel
theorem d12_1 : decode jdk_43_method_13_code 1 = .ok (.arraylength, 1) := by decide +kernel
theorem d12_2 : decode jdk_43_method_13_code 2 = .ok (.aload_n 1, 1) := by decide +kernel
theorem d12_3 : decode jdk_43_method_13_code 3 = .ok (.arraylength, 1) := by decide +kernel
theorem d12_4 : decode jdk_43_method_13_code 4 = .ok (.if_icmp .ne 30, 3) := by decide +kernel
theorem d12_34 : decode jdk_43_method_13_code 34 = .ok (.iconst 0, 1) := by decide +kernel
theorem d12_35 : decode jdk_43_method_13_code 35 = .ok (.ireturn, 1) := by decide +kernel
theorem ef_Ln (m : MethodId) (x0 : Addr) (x1 : Addr) : entryFrame m #[(.ref x0), (.ref x1)] 3 = mkF m 0 #[.val (.ref x0), .val (.ref x1), .unset] [] := by first | (simp [entryFrame, mkF, argsToLocals, Value.category]; done) | rfl
set_option maxRecDepth 65536 in
set_option maxHeartbeats 40000000 in
theorem rmLn (l : Launch) (Z : State) (a0 : Array Value) (hw : ∀ d ∈ tables_1, d.before a0 Z = true) (ws : List Jvm.Cond) (b1 b2 : Addr) (k1 k2 : ClassId) (c0 c1 d0 d1 : Int32) (h0 : Heap) (n0 : Nat) (len1 len2 : Int32) (vs1 vs2 : List Value) (V1 : Arv Z h0 b1 k1 .byte len1 vs1 (.int (0 : Int32))) (V2 : Arv Z h0 b2 k2 .byte len2 vs2 (.int (0 : Int32))) (v0 : Int32) (hv : (SK len1 len2 c0 c1 d0 d1 → v0 = 1) ∧ (¬ SK len1 len2 c0 c1 d0 d1 → v0 = 0)) (hne : ¬ len1 = len2) :
    Meets l Z (⟨"java/lang/StringLatin1", "equals", "([B[B)Z"⟩ : MethodName) jdk_43_method_13_code 3 (some .boolean) ({ frames := 0, cells := 0, slots := 0, locals := 0 } : Room) ws #[(.ref b1), (.ref b2)] h0 (fun v h L => v = some (.int v0) ∧ Fr n0 L ∧ h = h0) := by
  refine Meets.of (plainFor_of_name (by first | (simp [plainName, overriddenIn]; done) | decide +kernel : plainName "java/lang/StringLatin1" = true)) ?_
  intro p e s m below meth c s₁ X0 hx hby hml hret hlk hnm hZ hown e0
  replace hown : s.vm.findClass "java/lang/StringLatin1" = some m.cls := hown
  have N0 := Fr.nil n0
  refine Go.cast (ef_Ln m b1 b2) ?_
  show Go p e s below _ _ _ s₁ (mkF m 0 #[.val (.ref b1), .val (.ref b2), .unset] [])
  refine Go.st (fun _ kont => XS.aloadN X0.here hx rfl (hb hby d12_0) rfl rfl kont) ?_
  show Go p e s below _ _ _ s₁ (mkF m 1 #[.val (.ref b1), .val (.ref b2), .unset] [(.ref b1)])
  obtain ⟨cl1, Ar1, q1, S1, M1, H1, G1⟩ := (id V1)
  refine Go.st (X0.arraylength hx (by rw [e0]; exact Ar1.1) (State.isArrayOf_alike hZ.alike Ar1.2.1) (g := (mkF m 1 #[.val (.ref b1), .val (.ref b2), .unset] [(.ref b1)])) rfl rfl (hb hby d12_1)) ?_
  rw [len_of S1 M1]
  show Go p e s below _ _ _ s₁ (mkF m 2 #[.val (.ref b1), .val (.ref b2), .unset] [(.int len1)])
  refine Go.st (fun _ kont => XS.aloadN X0.here hx rfl (hb hby d12_2) rfl rfl kont) ?_
  show Go p e s below _ _ _ s₁ (mkF m 3 #[.val (.ref b1), .val (.ref b2), .unset] [(.ref b2), (.int len1)])
  obtain ⟨cl2, Ar2, q2, S2, M2, H2, G2⟩ := (id V2)
  refine Go.st (X0.arraylength hx (by rw [e0]; exact Ar2.1) (State.isArrayOf_alike hZ.alike Ar2.2.1) (g := (mkF m 3 #[.val (.ref b1), .val (.ref b2), .unset] [(.ref b2), (.int len1)])) rfl rfl (hb hby d12_3)) ?_
  rw [len_of S2 M2]
  show Go p e s below _ _ _ s₁ (mkF m 4 #[.val (.ref b1), .val (.ref b2), .unset] [(.int len2), (.int len1)])
  refine Go.st (fun _ kont => XS.icmpYes X0.here hx rfl (pc0 := 4) (pc' := 34) rfl (hb hby d12_4) rfl (feq hne).2 (by decide) (by decide) kont) ?_
  show Go p e s below _ _ _ s₁ (mkF m 34 #[.val (.ref b1), .val (.ref b2), .unset] [])
  refine Go.st (fun _ kont => XT.iconstV X0.here hx rfl (0 : Int32) (hb hby d12_34) (by decide) kont) ?_
  show Go p e s below _ _ _ s₁ (mkF m 35 #[.val (.ref b1), .val (.ref b2), .unset] [(.int (0 : Int32))])
  exact Go.retN X0 hx hlk hret (by simp) (hb hby d12_35) (by decide) (by decide) ⟨by rw [hv.2 (fun q => hne q.1)]; rfl, N0, e0⟩
theorem d12_7 : decode jdk_43_method_13_code 7 = .ok (.iconst 0, 1) := by decide +kernel
theorem d12_8 : decode jdk_43_method_13_code 8 = .ok (.istore_n 2, 1) := by decide +kernel
theorem d12_9 : decode jdk_43_method_13_code 9 = .ok (.iload_n 2, 1) := by decide +kernel
theorem d12_10 : decode jdk_43_method_13_code 10 = .ok (.aload_n 0, 1) := by decide +kernel
theorem d12_11 : decode jdk_43_method_13_code 11 = .ok (.arraylength, 1) := by decide +kernel
theorem d12_12 : decode jdk_43_method_13_code 12 = .ok (.if_icmp .ge 20, 3) := by decide +kernel
theorem d12_32 : decode jdk_43_method_13_code 32 = .ok (.iconst 1, 1) := by decide +kernel
theorem d12_33 : decode jdk_43_method_13_code 33 = .ok (.ireturn, 1) := by decide +kernel
theorem ef_L0 (m : MethodId) (x0 : Addr) (x1 : Addr) : entryFrame m #[(.ref x0), (.ref x1)] 3 = mkF m 0 #[.val (.ref x0), .val (.ref x1), .unset] [] := by first | (simp [entryFrame, mkF, argsToLocals, Value.category]; done) | rfl
set_option maxRecDepth 65536 in
set_option maxHeartbeats 40000000 in
theorem rmL0 (l : Launch) (Z : State) (a0 : Array Value) (hw : ∀ d ∈ tables_1, d.before a0 Z = true) (ws : List Jvm.Cond) (b1 b2 : Addr) (k1 k2 : ClassId) (c0 c1 d0 d1 : Int32) (h0 : Heap) (n0 : Nat) (V1 : Arv Z h0 b1 k1 .byte (0 : Int32) [] (.int (0 : Int32))) (V2 : Arv Z h0 b2 k2 .byte (0 : Int32) [] (.int (0 : Int32))) (v0 : Int32) (hv : (SK (0 : Int32) (0 : Int32) c0 c1 d0 d1 → v0 = 1) ∧ (¬ SK (0 : Int32) (0 : Int32) c0 c1 d0 d1 → v0 = 0)) :
    Meets l Z (⟨"java/lang/StringLatin1", "equals", "([B[B)Z"⟩ : MethodName) jdk_43_method_13_code 3 (some .boolean) ({ frames := 0, cells := 0, slots := 0, locals := 0 } : Room) ws #[(.ref b1), (.ref b2)] h0 (fun v h L => v = some (.int v0) ∧ Fr n0 L ∧ h = h0) := by
  refine Meets.of (plainFor_of_name (by first | (simp [plainName, overriddenIn]; done) | decide +kernel : plainName "java/lang/StringLatin1" = true)) ?_
  intro p e s m below meth c s₁ X0 hx hby hml hret hlk hnm hZ hown e0
  replace hown : s.vm.findClass "java/lang/StringLatin1" = some m.cls := hown
  have N0 := Fr.nil n0
  refine Go.cast (ef_L0 m b1 b2) ?_
  show Go p e s below _ _ _ s₁ (mkF m 0 #[.val (.ref b1), .val (.ref b2), .unset] [])
  refine Go.st (fun _ kont => XS.aloadN X0.here hx rfl (hb hby d12_0) rfl rfl kont) ?_
  show Go p e s below _ _ _ s₁ (mkF m 1 #[.val (.ref b1), .val (.ref b2), .unset] [(.ref b1)])
  obtain ⟨cl1, Ar1, q1, S1, M1, H1, G1⟩ := (id V1)
  refine Go.st (X0.arraylength hx (by rw [e0]; exact Ar1.1) (State.isArrayOf_alike hZ.alike Ar1.2.1) (g := (mkF m 1 #[.val (.ref b1), .val (.ref b2), .unset] [(.ref b1)])) rfl rfl (hb hby d12_1)) ?_
  rw [len_of S1 M1]
  show Go p e s below _ _ _ s₁ (mkF m 2 #[.val (.ref b1), .val (.ref b2), .unset] [(.int (0 : Int32))])
  refine Go.st (fun _ kont => XS.aloadN X0.here hx rfl (hb hby d12_2) rfl rfl kont) ?_
  show Go p e s below _ _ _ s₁ (mkF m 3 #[.val (.ref b1), .val (.ref b2), .unset] [(.ref b2), (.int (0 : Int32))])
  obtain ⟨cl2, Ar2, q2, S2, M2, H2, G2⟩ := (id V2)
  refine Go.st (X0.arraylength hx (by rw [e0]; exact Ar2.1) (State.isArrayOf_alike hZ.alike Ar2.2.1) (g := (mkF m 3 #[.val (.ref b1), .val (.ref b2), .unset] [(.ref b2), (.int (0 : Int32))])) rfl rfl (hb hby d12_3)) ?_
  rw [len_of S2 M2]
  show Go p e s below _ _ _ s₁ (mkF m 4 #[.val (.ref b1), .val (.ref b2), .unset] [(.int (0 : Int32)), (.int (0 : Int32))])
  refine Go.st (fun _ kont => XS.icmpNo X0.here hx rfl (hb hby d12_4) rfl (teq rfl).2 kont) ?_
  show Go p e s below _ _ _ s₁ (mkF m 7 #[.val (.ref b1), .val (.ref b2), .unset] [])
  refine Go.st (fun _ kont => XT.iconstV X0.here hx rfl (0 : Int32) (hb hby d12_7) (by decide) kont) ?_
  show Go p e s below _ _ _ s₁ (mkF m 8 #[.val (.ref b1), .val (.ref b2), .unset] [(.int (0 : Int32))])
  refine Go.st (fun _ kont => XS.istoreN X0.here hx rfl (hb hby d12_8) rfl (l' := #[.val (.ref b1), .val (.ref b2), .val (.int (0 : Int32))]) rfl kont) ?_
  show Go p e s below _ _ _ s₁ (mkF m 9 #[.val (.ref b1), .val (.ref b2), .val (.int (0 : Int32))] [])
  refine Go.st (fun _ kont => XS.iloadN X0.here hx rfl (hb hby d12_9) rfl kont) ?_
  show Go p e s below _ _ _ s₁ (mkF m 10 #[.val (.ref b1), .val (.ref b2), .val (.int (0 : Int32))] [(.int (0 : Int32))])
  refine Go.st (fun _ kont => XS.aloadN X0.here hx rfl (hb hby d12_10) rfl rfl kont) ?_
  show Go p e s below _ _ _ s₁ (mkF m 11 #[.val (.ref b1), .val (.ref b2), .val (.int (0 : Int32))] [(.ref b1), (.int (0 : Int32))])
  obtain ⟨cl3, Ar3, q3, S3, M3, H3, G3⟩ := (id V1)
  refine Go.st (X0.arraylength hx (by rw [e0]; exact Ar3.1) (State.isArrayOf_alike hZ.alike Ar3.2.1) (g := (mkF m 11 #[.val (.ref b1), .val (.ref b2), .val (.int (0 : Int32))] [(.ref b1), (.int (0 : Int32))])) rfl rfl (hb hby d12_11)) ?_
  rw [len_of S3 M3]
  show Go p e s below _ _ _ s₁ (mkF m 12 #[.val (.ref b1), .val (.ref b2), .val (.int (0 : Int32))] [(.int (0 : Int32)), (.int (0 : Int32))])
  refine Go.st (fun _ kont => XS.icmpYes X0.here hx rfl (pc0 := 12) (pc' := 32) rfl (hb hby d12_12) rfl (flt (by decide : ¬ ((0 : Int32) < (0 : Int32)))).2.1 (by decide) (by decide) kont) ?_
  show Go p e s below _ _ _ s₁ (mkF m 32 #[.val (.ref b1), .val (.ref b2), .val (.int (0 : Int32))] [])
  refine Go.st (fun _ kont => XT.iconstV X0.here hx rfl (1 : Int32) (hb hby d12_32) (by decide) kont) ?_
  show Go p e s below _ _ _ s₁ (mkF m 33 #[.val (.ref b1), .val (.ref b2), .val (.int (0 : Int32))] [(.int (1 : Int32))])
  exact Go.retN X0 hx hlk hret (by simp) (hb hby d12_33) (by decide) (by decide) ⟨by rw [hv.1 ⟨rfl, fun q => absurd (by decide) q, fun q => absurd (by decide) q⟩]; rfl, N0, e0⟩
theorem d12_15 : decode jdk_43_method_13_code 15 = .ok (.aload_n 0, 1) := by decide +kernel
theorem d12_16 : decode jdk_43_method_13_code 16 = .ok (.iload_n 2, 1) := by decide +kernel
theorem d12_17 : decode jdk_43_method_13_code 17 = .ok (.baload, 1) := by decide +kernel
theorem d12_18 : decode jdk_43_method_13_code 18 = .ok (.aload_n 1, 1) := by decide +kernel
theorem d12_19 : decode jdk_43_method_13_code 19 = .ok (.iload_n 2, 1) := by decide +kernel
theorem d12_20 : decode jdk_43_method_13_code 20 = .ok (.baload, 1) := by decide +kernel
theorem d12_21 : decode jdk_43_method_13_code 21 = .ok (.if_icmp .eq 5, 3) := by decide +kernel
theorem d12_24 : decode jdk_43_method_13_code 24 = .ok (.iconst 0, 1) := by decide +kernel
theorem d12_25 : decode jdk_43_method_13_code 25 = .ok (.ireturn, 1) := by decide +kernel
theorem d12_26 : decode jdk_43_method_13_code 26 = .ok (.iinc 2 1, 3) := by decide +kernel
theorem d12_29 : decode jdk_43_method_13_code 29 = .ok (.goto (-20), 3) := by decide +kernel
theorem ef_L1 (m : MethodId) (x0 : Addr) (x1 : Addr) : entryFrame m #[(.ref x0), (.ref x1)] 3 = mkF m 0 #[.val (.ref x0), .val (.ref x1), .unset] [] := by first | (simp [entryFrame, mkF, argsToLocals, Value.category]; done) | rfl
set_option maxRecDepth 65536 in
set_option maxHeartbeats 40000000 in
theorem rmL1 (l : Launch) (Z : State) (a0 : Array Value) (hw : ∀ d ∈ tables_1, d.before a0 Z = true) (ws : List Jvm.Cond) (b1 b2 : Addr) (k1 k2 : ClassId) (c0 c1 d0 d1 : Int32) (h0 : Heap) (n0 : Nat) (V1 : Arv Z h0 b1 k1 .byte (1 : Int32) [(.int (nar .byte ((nar .char c0).toInt8.toInt32)))] (.int (0 : Int32))) (V2 : Arv Z h0 b2 k2 .byte (1 : Int32) [(.int (nar .byte ((nar .char d0).toInt8.toInt32)))] (.int (0 : Int32))) (v0 : Int32) (hv : (SK (1 : Int32) (1 : Int32) c0 c1 d0 d1 → v0 = 1) ∧ (¬ SK (1 : Int32) (1 : Int32) c0 c1 d0 d1 → v0 = 0)) :
    Meets l Z (⟨"java/lang/StringLatin1", "equals", "([B[B)Z"⟩ : MethodName) jdk_43_method_13_code 3 (some .boolean) ({ frames := 0, cells := 0, slots := 0, locals := 0 } : Room) ws #[(.ref b1), (.ref b2)] h0 (fun v h L => v = some (.int v0) ∧ Fr n0 L ∧ h = h0) := by
  refine Meets.of (plainFor_of_name (by first | (simp [plainName, overriddenIn]; done) | decide +kernel : plainName "java/lang/StringLatin1" = true)) ?_
  intro p e s m below meth c s₁ X0 hx hby hml hret hlk hnm hZ hown e0
  replace hown : s.vm.findClass "java/lang/StringLatin1" = some m.cls := hown
  have N0 := Fr.nil n0
  refine Go.cast (ef_L1 m b1 b2) ?_
  show Go p e s below _ _ _ s₁ (mkF m 0 #[.val (.ref b1), .val (.ref b2), .unset] [])
  refine Go.st (fun _ kont => XS.aloadN X0.here hx rfl (hb hby d12_0) rfl rfl kont) ?_
  show Go p e s below _ _ _ s₁ (mkF m 1 #[.val (.ref b1), .val (.ref b2), .unset] [(.ref b1)])
  obtain ⟨cl1, Ar1, q1, S1, M1, H1, G1⟩ := (id V1)
  refine Go.st (X0.arraylength hx (by rw [e0]; exact Ar1.1) (State.isArrayOf_alike hZ.alike Ar1.2.1) (g := (mkF m 1 #[.val (.ref b1), .val (.ref b2), .unset] [(.ref b1)])) rfl rfl (hb hby d12_1)) ?_
  rw [len_of S1 M1]
  show Go p e s below _ _ _ s₁ (mkF m 2 #[.val (.ref b1), .val (.ref b2), .unset] [(.int (1 : Int32))])
  refine Go.st (fun _ kont => XS.aloadN X0.here hx rfl (hb hby d12_2) rfl rfl kont) ?_
  show Go p e s below _ _ _ s₁ (mkF m 3 #[.val (.ref b1), .val (.ref b2), .unset] [(.ref b2), (.int (1 : Int32))])
  obtain ⟨cl2, Ar2, q2, S2, M2, H2, G2⟩ := (id V2)
  refine Go.st (X0.arraylength hx (by rw [e0]; exact Ar2.1) (State.isArrayOf_alike hZ.alike Ar2.2.1) (g := (mkF m 3 #[.val (.ref b1), .val (.ref b2), .unset] [(.ref b2), (.int (1 : Int32))])) rfl rfl (hb hby d12_3)) ?_
  rw [len_of S2 M2]
  show Go p e s below _ _ _ s₁ (mkF m 4 #[.val (.ref b1), .val (.ref b2), .unset] [(.int (1 : Int32)), (.int (1 : Int32))])
  refine Go.st (fun _ kont => XS.icmpNo X0.here hx rfl (hb hby d12_4) rfl (teq rfl).2 kont) ?_
  show Go p e s below _ _ _ s₁ (mkF m 7 #[.val (.ref b1), .val (.ref b2), .unset] [])
  refine Go.st (fun _ kont => XT.iconstV X0.here hx rfl (0 : Int32) (hb hby d12_7) (by decide) kont) ?_
  show Go p e s below _ _ _ s₁ (mkF m 8 #[.val (.ref b1), .val (.ref b2), .unset] [(.int (0 : Int32))])
  refine Go.st (fun _ kont => XS.istoreN X0.here hx rfl (hb hby d12_8) rfl (l' := #[.val (.ref b1), .val (.ref b2), .val (.int (0 : Int32))]) rfl kont) ?_
  show Go p e s below _ _ _ s₁ (mkF m 9 #[.val (.ref b1), .val (.ref b2), .val (.int (0 : Int32))] [])
  refine Go.st (fun _ kont => XS.iloadN X0.here hx rfl (hb hby d12_9) rfl kont) ?_
  show Go p e s below _ _ _ s₁ (mkF m 10 #[.val (.ref b1), .val (.ref b2), .val (.int (0 : Int32))] [(.int (0 : Int32))])
  refine Go.st (fun _ kont => XS.aloadN X0.here hx rfl (hb hby d12_10) rfl rfl kont) ?_
  show Go p e s below _ _ _ s₁ (mkF m 11 #[.val (.ref b1), .val (.ref b2), .val (.int (0 : Int32))] [(.ref b1), (.int (0 : Int32))])
  obtain ⟨cl3, Ar3, q3, S3, M3, H3, G3⟩ := (id V1)
  refine Go.st (X0.arraylength hx (by rw [e0]; exact Ar3.1) (State.isArrayOf_alike hZ.alike Ar3.2.1) (g := (mkF m 11 #[.val (.ref b1), .val (.ref b2), .val (.int (0 : Int32))] [(.ref b1), (.int (0 : Int32))])) rfl rfl (hb hby d12_11)) ?_
  rw [len_of S3 M3]
  show Go p e s below _ _ _ s₁ (mkF m 12 #[.val (.ref b1), .val (.ref b2), .val (.int (0 : Int32))] [(.int (1 : Int32)), (.int (0 : Int32))])
  refine Go.st (fun _ kont => XS.icmpNo X0.here hx rfl (hb hby d12_12) rfl (tlt (by decide : (0 : Int32) < (1 : Int32))).2.1 kont) ?_
  show Go p e s below _ _ _ s₁ (mkF m 15 #[.val (.ref b1), .val (.ref b2), .val (.int (0 : Int32))] [])
  refine Go.st (fun _ kont => XS.aloadN X0.here hx rfl (hb hby d12_15) rfl rfl kont) ?_
  show Go p e s below _ _ _ s₁ (mkF m 16 #[.val (.ref b1), .val (.ref b2), .val (.int (0 : Int32))] [(.ref b1)])
  refine Go.st (fun _ kont => XS.iloadN X0.here hx rfl (hb hby d12_16) rfl kont) ?_
  show Go p e s below _ _ _ s₁ (mkF m 17 #[.val (.ref b1), .val (.ref b2), .val (.int (0 : Int32))] [(.int (0 : Int32)), (.ref b1)])
  obtain ⟨cl4, Ar4, q4, S4, M4, H4, G4⟩ := (id V1)
  have in4 : ¬ ((0 : Int32) < 0 ∨ cl4.slots.size ≤ ((0 : Int32)).toNatClampNeg) := inb_of S4 ⟨by decide, by decide⟩
  refine Go.st (X0.baloadBytes hx (j := (0 : Int32)) (v := (.int (nar .byte ((nar .char c0).toInt8.toInt32)))) (by rw [e0]; exact Ar4.1) (State.isArrayOf_alike hZ.alike Ar4.2.1) Ar4.2.2 in4 (Has.at H4 in4 rfl) (g := (mkF m 17 #[.val (.ref b1), .val (.ref b2), .val (.int (0 : Int32))] [(.int (0 : Int32)), (.ref b1)])) rfl rfl (hb hby d12_17)) ?_
  show Go p e s below _ _ _ s₁ (mkF m 18 #[.val (.ref b1), .val (.ref b2), .val (.int (0 : Int32))] [(.int (nar .byte ((nar .char c0).toInt8.toInt32)))])
  refine Go.st (fun _ kont => XS.aloadN X0.here hx rfl (hb hby d12_18) rfl rfl kont) ?_
  show Go p e s below _ _ _ s₁ (mkF m 19 #[.val (.ref b1), .val (.ref b2), .val (.int (0 : Int32))] [(.ref b2), (.int (nar .byte ((nar .char c0).toInt8.toInt32)))])
  refine Go.st (fun _ kont => XS.iloadN X0.here hx rfl (hb hby d12_19) rfl kont) ?_
  show Go p e s below _ _ _ s₁ (mkF m 20 #[.val (.ref b1), .val (.ref b2), .val (.int (0 : Int32))] [(.int (0 : Int32)), (.ref b2), (.int (nar .byte ((nar .char c0).toInt8.toInt32)))])
  obtain ⟨cl5, Ar5, q5, S5, M5, H5, G5⟩ := (id V2)
  have in5 : ¬ ((0 : Int32) < 0 ∨ cl5.slots.size ≤ ((0 : Int32)).toNatClampNeg) := inb_of S5 ⟨by decide, by decide⟩
  refine Go.st (X0.baloadBytes hx (j := (0 : Int32)) (v := (.int (nar .byte ((nar .char d0).toInt8.toInt32)))) (by rw [e0]; exact Ar5.1) (State.isArrayOf_alike hZ.alike Ar5.2.1) Ar5.2.2 in5 (Has.at H5 in5 rfl) (g := (mkF m 20 #[.val (.ref b1), .val (.ref b2), .val (.int (0 : Int32))] [(.int (0 : Int32)), (.ref b2), (.int (nar .byte ((nar .char c0).toInt8.toInt32)))])) rfl rfl (hb hby d12_20)) ?_
  show Go p e s below _ _ _ s₁ (mkF m 21 #[.val (.ref b1), .val (.ref b2), .val (.int (0 : Int32))] [(.int (nar .byte ((nar .char d0).toInt8.toInt32))), (.int (nar .byte ((nar .char c0).toInt8.toInt32)))])
  by_cases hc21_6 : (nar .byte ((nar .char c0).toInt8.toInt32)) = (nar .byte ((nar .char d0).toInt8.toInt32))
  · --
    refine Go.st (fun _ kont => XS.icmpYes X0.here hx rfl (pc0 := 21) (pc' := 26) rfl (hb hby d12_21) rfl (teq hc21_6).1 (by decide) (by decide) kont) ?_
    show Go p e s below _ _ _ s₁ (mkF m 26 #[.val (.ref b1), .val (.ref b2), .val (.int (0 : Int32))] [])
    refine Go.st (fun _ kont => XS.iinc X0.here hx rfl (hb hby d12_26) rfl (l' := #[.val (.ref b1), .val (.ref b2), .val (.int (1 : Int32))]) rfl kont) ?_
    show Go p e s below _ _ _ s₁ (mkF m 29 #[.val (.ref b1), .val (.ref b2), .val (.int (1 : Int32))] [])
    refine Go.st (fun _ kont => XS.goto X0.here hx rfl (pc0 := 29) (pc' := 9) rfl (hb hby d12_29) (by decide) (by decide) kont) ?_
    show Go p e s below _ _ _ s₁ (mkF m 9 #[.val (.ref b1), .val (.ref b2), .val (.int (1 : Int32))] [])
    refine Go.st (fun _ kont => XS.iloadN X0.here hx rfl (hb hby d12_9) rfl kont) ?_
    show Go p e s below _ _ _ s₁ (mkF m 10 #[.val (.ref b1), .val (.ref b2), .val (.int (1 : Int32))] [(.int (1 : Int32))])
    refine Go.st (fun _ kont => XS.aloadN X0.here hx rfl (hb hby d12_10) rfl rfl kont) ?_
    show Go p e s below _ _ _ s₁ (mkF m 11 #[.val (.ref b1), .val (.ref b2), .val (.int (1 : Int32))] [(.ref b1), (.int (1 : Int32))])
    obtain ⟨cl7, Ar7, q7, S7, M7, H7, G7⟩ := (id V1)
    refine Go.st (X0.arraylength hx (by rw [e0]; exact Ar7.1) (State.isArrayOf_alike hZ.alike Ar7.2.1) (g := (mkF m 11 #[.val (.ref b1), .val (.ref b2), .val (.int (1 : Int32))] [(.ref b1), (.int (1 : Int32))])) rfl rfl (hb hby d12_11)) ?_
    rw [len_of S7 M7]
    show Go p e s below _ _ _ s₁ (mkF m 12 #[.val (.ref b1), .val (.ref b2), .val (.int (1 : Int32))] [(.int (1 : Int32)), (.int (1 : Int32))])
    refine Go.st (fun _ kont => XS.icmpYes X0.here hx rfl (pc0 := 12) (pc' := 32) rfl (hb hby d12_12) rfl (flt (by decide : ¬ ((1 : Int32) < (1 : Int32)))).2.1 (by decide) (by decide) kont) ?_
    show Go p e s below _ _ _ s₁ (mkF m 32 #[.val (.ref b1), .val (.ref b2), .val (.int (1 : Int32))] [])
    refine Go.st (fun _ kont => XT.iconstV X0.here hx rfl (1 : Int32) (hb hby d12_32) (by decide) kont) ?_
    show Go p e s below _ _ _ s₁ (mkF m 33 #[.val (.ref b1), .val (.ref b2), .val (.int (1 : Int32))] [(.int (1 : Int32))])
    exact Go.retN X0 hx hlk hret (by simp) (hb hby d12_33) (by decide) (by decide) ⟨by rw [hv.1 ⟨rfl, fun _ => hc21_6, fun q => absurd (by decide) q⟩]; rfl, N0, e0⟩
  · --
    refine Go.st (fun _ kont => XS.icmpNo X0.here hx rfl (hb hby d12_21) rfl (feq hc21_6).1 kont) ?_
    show Go p e s below _ _ _ s₁ (mkF m 24 #[.val (.ref b1), .val (.ref b2), .val (.int (0 : Int32))] [])
    refine Go.st (fun _ kont => XT.iconstV X0.here hx rfl (0 : Int32) (hb hby d12_24) (by decide) kont) ?_
    show Go p e s below _ _ _ s₁ (mkF m 25 #[.val (.ref b1), .val (.ref b2), .val (.int (0 : Int32))] [(.int (0 : Int32))])
    exact Go.retN X0 hx hlk hret (by simp) (hb hby d12_25) (by decide) (by decide) ⟨by rw [hv.2 (fun q => hc21_6 (q.2.1 (by decide)))]; rfl, N0, e0⟩
theorem ef_L2 (m : MethodId) (x0 : Addr) (x1 : Addr) : entryFrame m #[(.ref x0), (.ref x1)] 3 = mkF m 0 #[.val (.ref x0), .val (.ref x1), .unset] [] := by first | (simp [entryFrame, mkF, argsToLocals, Value.category]; done) | rfl
set_option maxRecDepth 65536 in
set_option maxHeartbeats 40000000 in
theorem rmL2 (l : Launch) (Z : State) (a0 : Array Value) (hw : ∀ d ∈ tables_1, d.before a0 Z = true) (ws : List Jvm.Cond) (b1 b2 : Addr) (k1 k2 : ClassId) (c0 c1 d0 d1 : Int32) (h0 : Heap) (n0 : Nat) (V1 : Arv Z h0 b1 k1 .byte (2 : Int32) [(.int (nar .byte ((nar .char c0).toInt8.toInt32))), (.int (nar .byte ((nar .char c1).toInt8.toInt32)))] (.int (0 : Int32))) (V2 : Arv Z h0 b2 k2 .byte (2 : Int32) [(.int (nar .byte ((nar .char d0).toInt8.toInt32))), (.int (nar .byte ((nar .char d1).toInt8.toInt32)))] (.int (0 : Int32))) (v0 : Int32) (hv : (SK (2 : Int32) (2 : Int32) c0 c1 d0 d1 → v0 = 1) ∧ (¬ SK (2 : Int32) (2 : Int32) c0 c1 d0 d1 → v0 = 0)) :
    Meets l Z (⟨"java/lang/StringLatin1", "equals", "([B[B)Z"⟩ : MethodName) jdk_43_method_13_code 3 (some .boolean) ({ frames := 0, cells := 0, slots := 0, locals := 0 } : Room) ws #[(.ref b1), (.ref b2)] h0 (fun v h L => v = some (.int v0) ∧ Fr n0 L ∧ h = h0) := by
  refine Meets.of (plainFor_of_name (by first | (simp [plainName, overriddenIn]; done) | decide +kernel : plainName "java/lang/StringLatin1" = true)) ?_
  intro p e s m below meth c s₁ X0 hx hby hml hret hlk hnm hZ hown e0
  replace hown : s.vm.findClass "java/lang/StringLatin1" = some m.cls := hown
  have N0 := Fr.nil n0
  refine Go.cast (ef_L2 m b1 b2) ?_
  show Go p e s below _ _ _ s₁ (mkF m 0 #[.val (.ref b1), .val (.ref b2), .unset] [])
  refine Go.st (fun _ kont => XS.aloadN X0.here hx rfl (hb hby d12_0) rfl rfl kont) ?_
  show Go p e s below _ _ _ s₁ (mkF m 1 #[.val (.ref b1), .val (.ref b2), .unset] [(.ref b1)])
  obtain ⟨cl1, Ar1, q1, S1, M1, H1, G1⟩ := (id V1)
  refine Go.st (X0.arraylength hx (by rw [e0]; exact Ar1.1) (State.isArrayOf_alike hZ.alike Ar1.2.1) (g := (mkF m 1 #[.val (.ref b1), .val (.ref b2), .unset] [(.ref b1)])) rfl rfl (hb hby d12_1)) ?_
  rw [len_of S1 M1]
  show Go p e s below _ _ _ s₁ (mkF m 2 #[.val (.ref b1), .val (.ref b2), .unset] [(.int (2 : Int32))])
  refine Go.st (fun _ kont => XS.aloadN X0.here hx rfl (hb hby d12_2) rfl rfl kont) ?_
  show Go p e s below _ _ _ s₁ (mkF m 3 #[.val (.ref b1), .val (.ref b2), .unset] [(.ref b2), (.int (2 : Int32))])
  obtain ⟨cl2, Ar2, q2, S2, M2, H2, G2⟩ := (id V2)
  refine Go.st (X0.arraylength hx (by rw [e0]; exact Ar2.1) (State.isArrayOf_alike hZ.alike Ar2.2.1) (g := (mkF m 3 #[.val (.ref b1), .val (.ref b2), .unset] [(.ref b2), (.int (2 : Int32))])) rfl rfl (hb hby d12_3)) ?_
  rw [len_of S2 M2]
  show Go p e s below _ _ _ s₁ (mkF m 4 #[.val (.ref b1), .val (.ref b2), .unset] [(.int (2 : Int32)), (.int (2 : Int32))])
  refine Go.st (fun _ kont => XS.icmpNo X0.here hx rfl (hb hby d12_4) rfl (teq rfl).2 kont) ?_
  show Go p e s below _ _ _ s₁ (mkF m 7 #[.val (.ref b1), .val (.ref b2), .unset] [])
  refine Go.st (fun _ kont => XT.iconstV X0.here hx rfl (0 : Int32) (hb hby d12_7) (by decide) kont) ?_
  show Go p e s below _ _ _ s₁ (mkF m 8 #[.val (.ref b1), .val (.ref b2), .unset] [(.int (0 : Int32))])
  refine Go.st (fun _ kont => XS.istoreN X0.here hx rfl (hb hby d12_8) rfl (l' := #[.val (.ref b1), .val (.ref b2), .val (.int (0 : Int32))]) rfl kont) ?_
  show Go p e s below _ _ _ s₁ (mkF m 9 #[.val (.ref b1), .val (.ref b2), .val (.int (0 : Int32))] [])
  refine Go.st (fun _ kont => XS.iloadN X0.here hx rfl (hb hby d12_9) rfl kont) ?_
  show Go p e s below _ _ _ s₁ (mkF m 10 #[.val (.ref b1), .val (.ref b2), .val (.int (0 : Int32))] [(.int (0 : Int32))])
  refine Go.st (fun _ kont => XS.aloadN X0.here hx rfl (hb hby d12_10) rfl rfl kont) ?_
  show Go p e s below _ _ _ s₁ (mkF m 11 #[.val (.ref b1), .val (.ref b2), .val (.int (0 : Int32))] [(.ref b1), (.int (0 : Int32))])
  obtain ⟨cl3, Ar3, q3, S3, M3, H3, G3⟩ := (id V1)
  refine Go.st (X0.arraylength hx (by rw [e0]; exact Ar3.1) (State.isArrayOf_alike hZ.alike Ar3.2.1) (g := (mkF m 11 #[.val (.ref b1), .val (.ref b2), .val (.int (0 : Int32))] [(.ref b1), (.int (0 : Int32))])) rfl rfl (hb hby d12_11)) ?_
  rw [len_of S3 M3]
  show Go p e s below _ _ _ s₁ (mkF m 12 #[.val (.ref b1), .val (.ref b2), .val (.int (0 : Int32))] [(.int (2 : Int32)), (.int (0 : Int32))])
  refine Go.st (fun _ kont => XS.icmpNo X0.here hx rfl (hb hby d12_12) rfl (tlt (by decide : (0 : Int32) < (2 : Int32))).2.1 kont) ?_
  show Go p e s below _ _ _ s₁ (mkF m 15 #[.val (.ref b1), .val (.ref b2), .val (.int (0 : Int32))] [])
  refine Go.st (fun _ kont => XS.aloadN X0.here hx rfl (hb hby d12_15) rfl rfl kont) ?_
  show Go p e s below _ _ _ s₁ (mkF m 16 #[.val (.ref b1), .val (.ref b2), .val (.int (0 : Int32))] [(.ref b1)])
  refine Go.st (fun _ kont => XS.iloadN X0.here hx rfl (hb hby d12_16) rfl kont) ?_
  show Go p e s below _ _ _ s₁ (mkF m 17 #[.val (.ref b1), .val (.ref b2), .val (.int (0 : Int32))] [(.int (0 : Int32)), (.ref b1)])
  obtain ⟨cl4, Ar4, q4, S4, M4, H4, G4⟩ := (id V1)
  have in4 : ¬ ((0 : Int32) < 0 ∨ cl4.slots.size ≤ ((0 : Int32)).toNatClampNeg) := inb_of S4 ⟨by decide, by decide⟩
  refine Go.st (X0.baloadBytes hx (j := (0 : Int32)) (v := (.int (nar .byte ((nar .char c0).toInt8.toInt32)))) (by rw [e0]; exact Ar4.1) (State.isArrayOf_alike hZ.alike Ar4.2.1) Ar4.2.2 in4 (Has.at H4 in4 rfl) (g := (mkF m 17 #[.val (.ref b1), .val (.ref b2), .val (.int (0 : Int32))] [(.int (0 : Int32)), (.ref b1)])) rfl rfl (hb hby d12_17)) ?_
  show Go p e s below _ _ _ s₁ (mkF m 18 #[.val (.ref b1), .val (.ref b2), .val (.int (0 : Int32))] [(.int (nar .byte ((nar .char c0).toInt8.toInt32)))])
  refine Go.st (fun _ kont => XS.aloadN X0.here hx rfl (hb hby d12_18) rfl rfl kont) ?_
  show Go p e s below _ _ _ s₁ (mkF m 19 #[.val (.ref b1), .val (.ref b2), .val (.int (0 : Int32))] [(.ref b2), (.int (nar .byte ((nar .char c0).toInt8.toInt32)))])
  refine Go.st (fun _ kont => XS.iloadN X0.here hx rfl (hb hby d12_19) rfl kont) ?_
  show Go p e s below _ _ _ s₁ (mkF m 20 #[.val (.ref b1), .val (.ref b2), .val (.int (0 : Int32))] [(.int (0 : Int32)), (.ref b2), (.int (nar .byte ((nar .char c0).toInt8.toInt32)))])
  obtain ⟨cl5, Ar5, q5, S5, M5, H5, G5⟩ := (id V2)
  have in5 : ¬ ((0 : Int32) < 0 ∨ cl5.slots.size ≤ ((0 : Int32)).toNatClampNeg) := inb_of S5 ⟨by decide, by decide⟩
  refine Go.st (X0.baloadBytes hx (j := (0 : Int32)) (v := (.int (nar .byte ((nar .char d0).toInt8.toInt32)))) (by rw [e0]; exact Ar5.1) (State.isArrayOf_alike hZ.alike Ar5.2.1) Ar5.2.2 in5 (Has.at H5 in5 rfl) (g := (mkF m 20 #[.val (.ref b1), .val (.ref b2), .val (.int (0 : Int32))] [(.int (0 : Int32)), (.ref b2), (.int (nar .byte ((nar .char c0).toInt8.toInt32)))])) rfl rfl (hb hby d12_20)) ?_
  show Go p e s below _ _ _ s₁ (mkF m 21 #[.val (.ref b1), .val (.ref b2), .val (.int (0 : Int32))] [(.int (nar .byte ((nar .char d0).toInt8.toInt32))), (.int (nar .byte ((nar .char c0).toInt8.toInt32)))])
  by_cases hc21_6 : (nar .byte ((nar .char c0).toInt8.toInt32)) = (nar .byte ((nar .char d0).toInt8.toInt32))
  · --
    refine Go.st (fun _ kont => XS.icmpYes X0.here hx rfl (pc0 := 21) (pc' := 26) rfl (hb hby d12_21) rfl (teq hc21_6).1 (by decide) (by decide) kont) ?_
    show Go p e s below _ _ _ s₁ (mkF m 26 #[.val (.ref b1), .val (.ref b2), .val (.int (0 : Int32))] [])
    refine Go.st (fun _ kont => XS.iinc X0.here hx rfl (hb hby d12_26) rfl (l' := #[.val (.ref b1), .val (.ref b2), .val (.int (1 : Int32))]) rfl kont) ?_
    show Go p e s below _ _ _ s₁ (mkF m 29 #[.val (.ref b1), .val (.ref b2), .val (.int (1 : Int32))] [])
    refine Go.st (fun _ kont => XS.goto X0.here hx rfl (pc0 := 29) (pc' := 9) rfl (hb hby d12_29) (by decide) (by decide) kont) ?_
    show Go p e s below _ _ _ s₁ (mkF m 9 #[.val (.ref b1), .val (.ref b2), .val (.int (1 : Int32))] [])
    refine Go.st (fun _ kont => XS.iloadN X0.here hx rfl (hb hby d12_9) rfl kont) ?_
    show Go p e s below _ _ _ s₁ (mkF m 10 #[.val (.ref b1), .val (.ref b2), .val (.int (1 : Int32))] [(.int (1 : Int32))])
    refine Go.st (fun _ kont => XS.aloadN X0.here hx rfl (hb hby d12_10) rfl rfl kont) ?_
    show Go p e s below _ _ _ s₁ (mkF m 11 #[.val (.ref b1), .val (.ref b2), .val (.int (1 : Int32))] [(.ref b1), (.int (1 : Int32))])
    obtain ⟨cl7, Ar7, q7, S7, M7, H7, G7⟩ := (id V1)
    refine Go.st (X0.arraylength hx (by rw [e0]; exact Ar7.1) (State.isArrayOf_alike hZ.alike Ar7.2.1) (g := (mkF m 11 #[.val (.ref b1), .val (.ref b2), .val (.int (1 : Int32))] [(.ref b1), (.int (1 : Int32))])) rfl rfl (hb hby d12_11)) ?_
    rw [len_of S7 M7]
    show Go p e s below _ _ _ s₁ (mkF m 12 #[.val (.ref b1), .val (.ref b2), .val (.int (1 : Int32))] [(.int (2 : Int32)), (.int (1 : Int32))])
    refine Go.st (fun _ kont => XS.icmpNo X0.here hx rfl (hb hby d12_12) rfl (tlt (by decide : (1 : Int32) < (2 : Int32))).2.1 kont) ?_
    show Go p e s below _ _ _ s₁ (mkF m 15 #[.val (.ref b1), .val (.ref b2), .val (.int (1 : Int32))] [])
    refine Go.st (fun _ kont => XS.aloadN X0.here hx rfl (hb hby d12_15) rfl rfl kont) ?_
    show Go p e s below _ _ _ s₁ (mkF m 16 #[.val (.ref b1), .val (.ref b2), .val (.int (1 : Int32))] [(.ref b1)])
    refine Go.st (fun _ kont => XS.iloadN X0.here hx rfl (hb hby d12_16) rfl kont) ?_
    show Go p e s below _ _ _ s₁ (mkF m 17 #[.val (.ref b1), .val (.ref b2), .val (.int (1 : Int32))] [(.int (1 : Int32)), (.ref b1)])
    obtain ⟨cl8, Ar8, q8, S8, M8, H8, G8⟩ := (id V1)
    have in8 : ¬ ((1 : Int32) < 0 ∨ cl8.slots.size ≤ ((1 : Int32)).toNatClampNeg) := inb_of S8 ⟨by decide, by decide⟩
    refine Go.st (X0.baloadBytes hx (j := (1 : Int32)) (v := (.int (nar .byte ((nar .char c1).toInt8.toInt32)))) (by rw [e0]; exact Ar8.1) (State.isArrayOf_alike hZ.alike Ar8.2.1) Ar8.2.2 in8 (Has.at H8 in8 rfl) (g := (mkF m 17 #[.val (.ref b1), .val (.ref b2), .val (.int (1 : Int32))] [(.int (1 : Int32)), (.ref b1)])) rfl rfl (hb hby d12_17)) ?_
    show Go p e s below _ _ _ s₁ (mkF m 18 #[.val (.ref b1), .val (.ref b2), .val (.int (1 : Int32))] [(.int (nar .byte ((nar .char c1).toInt8.toInt32)))])
    refine Go.st (fun _ kont => XS.aloadN X0.here hx rfl (hb hby d12_18) rfl rfl kont) ?_
    show Go p e s below _ _ _ s₁ (mkF m 19 #[.val (.ref b1), .val (.ref b2), .val (.int (1 : Int32))] [(.ref b2), (.int (nar .byte ((nar .char c1).toInt8.toInt32)))])
    refine Go.st (fun _ kont => XS.iloadN X0.here hx rfl (hb hby d12_19) rfl kont) ?_
    show Go p e s below _ _ _ s₁ (mkF m 20 #[.val (.ref b1), .val (.ref b2), .val (.int (1 : Int32))] [(.int (1 : Int32)), (.ref b2), (.int (nar .byte ((nar .char c1).toInt8.toInt32)))])
    obtain ⟨cl9, Ar9, q9, S9, M9, H9, G9⟩ := (id V2)
    have in9 : ¬ ((1 : Int32) < 0 ∨ cl9.slots.size ≤ ((1 : Int32)).toNatClampNeg) := inb_of S9 ⟨by decide, by decide⟩
    refine Go.st (X0.baloadBytes hx (j := (1 : Int32)) (v := (.int (nar .byte ((nar .char d1).toInt8.toInt32)))) (by rw [e0]; exact Ar9.1) (State.isArrayOf_alike hZ.alike Ar9.2.1) Ar9.2.2 in9 (Has.at H9 in9 rfl) (g := (mkF m 20 #[.val (.ref b1), .val (.ref b2), .val (.int (1 : Int32))] [(.int (1 : Int32)), (.ref b2), (.int (nar .byte ((nar .char c1).toInt8.toInt32)))])) rfl rfl (hb hby d12_20)) ?_
    show Go p e s below _ _ _ s₁ (mkF m 21 #[.val (.ref b1), .val (.ref b2), .val (.int (1 : Int32))] [(.int (nar .byte ((nar .char d1).toInt8.toInt32))), (.int (nar .byte ((nar .char c1).toInt8.toInt32)))])
    by_cases hc21_10 : (nar .byte ((nar .char c1).toInt8.toInt32)) = (nar .byte ((nar .char d1).toInt8.toInt32))
    · --
      refine Go.st (fun _ kont => XS.icmpYes X0.here hx rfl (pc0 := 21) (pc' := 26) rfl (hb hby d12_21) rfl (teq hc21_10).1 (by decide) (by decide) kont) ?_
      show Go p e s below _ _ _ s₁ (mkF m 26 #[.val (.ref b1), .val (.ref b2), .val (.int (1 : Int32))] [])
      refine Go.st (fun _ kont => XS.iinc X0.here hx rfl (hb hby d12_26) rfl (l' := #[.val (.ref b1), .val (.ref b2), .val (.int (2 : Int32))]) rfl kont) ?_
      show Go p e s below _ _ _ s₁ (mkF m 29 #[.val (.ref b1), .val (.ref b2), .val (.int (2 : Int32))] [])
      refine Go.st (fun _ kont => XS.goto X0.here hx rfl (pc0 := 29) (pc' := 9) rfl (hb hby d12_29) (by decide) (by decide) kont) ?_
      show Go p e s below _ _ _ s₁ (mkF m 9 #[.val (.ref b1), .val (.ref b2), .val (.int (2 : Int32))] [])
      refine Go.st (fun _ kont => XS.iloadN X0.here hx rfl (hb hby d12_9) rfl kont) ?_
      show Go p e s below _ _ _ s₁ (mkF m 10 #[.val (.ref b1), .val (.ref b2), .val (.int (2 : Int32))] [(.int (2 : Int32))])
      refine Go.st (fun _ kont => XS.aloadN X0.here hx rfl (hb hby d12_10) rfl rfl kont) ?_
      show Go p e s below _ _ _ s₁ (mkF m 11 #[.val (.ref b1), .val (.ref b2), .val (.int (2 : Int32))] [(.ref b1), (.int (2 : Int32))])
      obtain ⟨cl11, Ar11, q11, S11, M11, H11, G11⟩ := (id V1)
      refine Go.st (X0.arraylength hx (by rw [e0]; exact Ar11.1) (State.isArrayOf_alike hZ.alike Ar11.2.1) (g := (mkF m 11 #[.val (.ref b1), .val (.ref b2), .val (.int (2 : Int32))] [(.ref b1), (.int (2 : Int32))])) rfl rfl (hb hby d12_11)) ?_
      rw [len_of S11 M11]
      show Go p e s below _ _ _ s₁ (mkF m 12 #[.val (.ref b1), .val (.ref b2), .val (.int (2 : Int32))] [(.int (2 : Int32)), (.int (2 : Int32))])
      refine Go.st (fun _ kont => XS.icmpYes X0.here hx rfl (pc0 := 12) (pc' := 32) rfl (hb hby d12_12) rfl (flt (by decide : ¬ ((2 : Int32) < (2 : Int32)))).2.1 (by decide) (by decide) kont) ?_
      show Go p e s below _ _ _ s₁ (mkF m 32 #[.val (.ref b1), .val (.ref b2), .val (.int (2 : Int32))] [])
      refine Go.st (fun _ kont => XT.iconstV X0.here hx rfl (1 : Int32) (hb hby d12_32) (by decide) kont) ?_
      show Go p e s below _ _ _ s₁ (mkF m 33 #[.val (.ref b1), .val (.ref b2), .val (.int (2 : Int32))] [(.int (1 : Int32))])
      exact Go.retN X0 hx hlk hret (by simp) (hb hby d12_33) (by decide) (by decide) ⟨by rw [hv.1 ⟨rfl, fun _ => hc21_6, fun _ => hc21_10⟩]; rfl, N0, e0⟩
    · --
      refine Go.st (fun _ kont => XS.icmpNo X0.here hx rfl (hb hby d12_21) rfl (feq hc21_10).1 kont) ?_
      show Go p e s below _ _ _ s₁ (mkF m 24 #[.val (.ref b1), .val (.ref b2), .val (.int (1 : Int32))] [])
      refine Go.st (fun _ kont => XT.iconstV X0.here hx rfl (0 : Int32) (hb hby d12_24) (by decide) kont) ?_
      show Go p e s below _ _ _ s₁ (mkF m 25 #[.val (.ref b1), .val (.ref b2), .val (.int (1 : Int32))] [(.int (0 : Int32))])
      exact Go.retN X0 hx hlk hret (by simp) (hb hby d12_25) (by decide) (by decide) ⟨by rw [hv.2 (fun q => hc21_10 (q.2.2 (by decide)))]; rfl, N0, e0⟩
  · --
    refine Go.st (fun _ kont => XS.icmpNo X0.here hx rfl (hb hby d12_21) rfl (feq hc21_6).1 kont) ?_
    show Go p e s below _ _ _ s₁ (mkF m 24 #[.val (.ref b1), .val (.ref b2), .val (.int (0 : Int32))] [])
    refine Go.st (fun _ kont => XT.iconstV X0.here hx rfl (0 : Int32) (hb hby d12_24) (by decide) kont) ?_
    show Go p e s below _ _ _ s₁ (mkF m 25 #[.val (.ref b1), .val (.ref b2), .val (.int (0 : Int32))] [(.int (0 : Int32))])
    exact Go.retN X0 hx hlk hret (by simp) (hb hby d12_25) (by decide) (by decide) ⟨by rw [hv.2 (fun q => hc21_6 (q.2.1 (by decide)))]; rfl, N0, e0⟩
theorem rmL (l : Launch) (Z : State) (a0 : Array Value) (hw : ∀ d ∈ tables_1, d.before a0 Z = true) (ws : List Jvm.Cond) (b1 b2 : Addr) (k1 k2 : ClassId) (c0 c1 d0 d1 : Int32) (h0 : Heap) (n0 : Nat) (len1 len2 : Int32) (vs1 vs2 : List Value) (C1 : CutB len1 c0 c1 vs1) (C2 : CutB len2 d0 d1 vs2) (V1 : Arv Z h0 b1 k1 .byte len1 vs1 (.int (0 : Int32))) (V2 : Arv Z h0 b2 k2 .byte len2 vs2 (.int (0 : Int32))) (v0 : Int32) (hv : (SK len1 len2 c0 c1 d0 d1 → v0 = 1) ∧ (¬ SK len1 len2 c0 c1 d0 d1 → v0 = 0)) :
    Meets l Z (⟨"java/lang/StringLatin1", "equals", "([B[B)Z"⟩ : MethodName) jdk_43_method_13_code 3 (some .boolean) ({ frames := 0, cells := 0, slots := 0, locals := 0 } : Room) ws #[.ref b1, .ref b2] h0 (fun v h L => v = some (.int v0) ∧ Fr n0 L ∧ h = h0) := by
  by_cases hne : len1 = len2
  · subst hne
    rcases C1 with ⟨rfl, rfl⟩ | ⟨rfl, rfl⟩ | ⟨rfl, rfl⟩ <;> rcases C2 with ⟨e2, rfl⟩ | ⟨e2, rfl⟩ | ⟨e2, rfl⟩
    · exact rmL0 l Z a0 hw ws b1 b2 k1 k2 c0 c1 d0 d1 h0 n0 V1 V2 v0 hv
    · exact absurd e2 (by decide)
    · exact absurd e2 (by decide)
    · exact absurd e2 (by decide)
    · exact rmL1 l Z a0 hw ws b1 b2 k1 k2 c0 c1 d0 d1 h0 n0 V1 V2 v0 hv
    · exact absurd e2 (by decide)
    · exact absurd e2 (by decide)
    · exact absurd e2 (by decide)
    · exact rmL2 l Z a0 hw ws b1 b2 k1 k2 c0 c1 d0 d1 h0 n0 V1 V2 v0 hv
  · exact rmLn l Z a0 hw ws b1 b2 k1 k2 c0 c1 d0 d1 h0 n0 len1 len2 vs1 vs2 V1 V2 v0 hv hne
theorem pd___B_B_Z : parseMethodDescriptor "([B[B)Z" = some ⟨[(.array .byte), (.array .byte)], some .boolean⟩ := by decide +kernel
theorem d11_0 : decode jdk_42_method_66_code 0 = .ok (.aload_n 0, 1) := by decide +kernel
theorem d11_1 : decode jdk_42_method_66_code 1 = .ok (.aload_n 1, 1) := by decide +kernel
theorem d11_2 : decode jdk_42_method_66_code 2 = .ok (.if_acmp .ne 5, 3) := by decide +kernel
theorem d11_7 : decode jdk_42_method_66_code 7 = .ok (.aload_n 1, 1) := by decide +kernel
theorem d11_8 : decode jdk_42_method_66_code 8 = .ok (.instanceof 10, 3) := by decide +kernel
theorem d11_11 : decode jdk_42_method_66_code 11 = .ok (.ifCond .eq 43, 3) := by decide +kernel
theorem d11_14 : decode jdk_42_method_66_code 14 = .ok (.aload_n 1, 1) := by decide +kernel
theorem d11_15 : decode jdk_42_method_66_code 15 = .ok (.checkcast 10, 3) := by decide +kernel
theorem d11_18 : decode jdk_42_method_66_code 18 = .ok (.astore_n 2, 1) := by decide +kernel
theorem d11_19 : decode jdk_42_method_66_code 19 = .ok (.getstatic 38, 3) := by decide +kernel
theorem d11_22 : decode jdk_42_method_66_code 22 = .ok (.ifCond .eq 14, 3) := by decide +kernel
theorem d11_25 : decode jdk_42_method_66_code 25 = .ok (.aload_n 0, 1) := by decide +kernel
theorem d11_26 : decode jdk_42_method_66_code 26 = .ok (.getfield 15, 3) := by decide +kernel
theorem d11_29 : decode jdk_42_method_66_code 29 = .ok (.aload_n 2, 1) := by decide +kernel
theorem d11_30 : decode jdk_42_method_66_code 30 = .ok (.getfield 15, 3) := by decide +kernel
theorem d11_33 : decode jdk_42_method_66_code 33 = .ok (.if_icmp .ne 21, 3) := by decide +kernel
theorem d11_36 : decode jdk_42_method_66_code 36 = .ok (.aload_n 0, 1) := by decide +kernel
theorem d11_37 : decode jdk_42_method_66_code 37 = .ok (.getfield 9, 3) := by decide +kernel
theorem d11_40 : decode jdk_42_method_66_code 40 = .ok (.aload_n 2, 1) := by decide +kernel
theorem d11_41 : decode jdk_42_method_66_code 41 = .ok (.getfield 9, 3) := by decide +kernel
theorem d11_44 : decode jdk_42_method_66_code 44 = .ok (.invokestatic 541, 3) := by decide +kernel
theorem d11_47 : decode jdk_42_method_66_code 47 = .ok (.ifCond .eq 7, 3) := by decide +kernel
theorem d11_50 : decode jdk_42_method_66_code 50 = .ok (.iconst 1, 1) := by decide +kernel
theorem d11_51 : decode jdk_42_method_66_code 51 = .ok (.goto 4, 3) := by decide +kernel
theorem d11_54 : decode jdk_42_method_66_code 54 = .ok (.iconst 0, 1) := by decide +kernel
theorem d11_55 : decode jdk_42_method_66_code 55 = .ok (.ireturn, 1) := by decide +kernel
theorem ef_S (m : MethodId) (x0 : Addr) (x1 : Addr) : entryFrame m #[(.ref x0), (.ref x1)] 3 = mkF m 0 #[.val (.ref x0), .val (.ref x1), .unset] [] := by first | (simp [entryFrame, mkF, argsToLocals, Value.category]; done) | rfl
set_option maxRecDepth 65536 in
set_option maxHeartbeats 40000000 in
theorem rmS (l : Launch) (Z : State) (a0 : Array Value) (hw : ∀ d ∈ tables_1, d.before a0 Z = true) (ws : List Jvm.Cond) (y1 y2 b1 b2 : Addr) (k1 k2 : ClassId) (c0 c1 d0 d1 : Int32) (h0 : Heap) (n0 : Nat) (len1 len2 : Int32) (vs1 vs2 : List Value) (C1 : CutB len1 c0 c1 vs1) (C2 : CutB len2 d0 d1 vs2) (hxy : ¬ y1 = y2) (E_y1 : Exa Z h0 y1 "java/lang/String") (Fc_y1 : Fld Z h0 y1 "java/lang/String" "coder" "B" (.int (0 : Int32))) (Fv_y1 : Fld Z h0 y1 "java/lang/String" "value" "[B" (.ref b1)) (V_b1 : Arv Z h0 b1 k1 .byte len1 vs1 (.int (0 : Int32))) (E_y2 : Exa Z h0 y2 "java/lang/String") (Fc_y2 : Fld Z h0 y2 "java/lang/String" "coder" "B" (.int (0 : Int32))) (Fv_y2 : Fld Z h0 y2 "java/lang/String" "value" "[B" (.ref b2)) (V_b2 : Arv Z h0 b2 k2 .byte len2 vs2 (.int (0 : Int32))) (v0 : Int32) (hv : (SK len1 len2 c0 c1 d0 d1 → v0 = 1) ∧ (¬ SK len1 len2 c0 c1 d0 d1 → v0 = 0)) (cs : Int32) (hcs : ¬ cs = (0 : Int32)) (SCP : Sta Z h0 "java/lang/String" "COMPACT_STRINGS" "Z" (.int cs)) :
    Meets l Z (⟨"java/lang/String", "equals", "(Ljava/lang/Object;)Z"⟩ : MethodName) jdk_42_method_66_code 3 (some .boolean) ({ frames := 1, cells := 0, slots := 0, locals := 14 } : Room) ws #[(.ref y1), (.ref y2)] h0 (fun v h L => v = some (.int v0) ∧ Fr n0 L ∧ h = h0) := by
  refine Meets.of (plainFor_of_name (by first | (simp [plainName, overriddenIn]; done) | decide +kernel : plainName "java/lang/String" = true)) ?_
  intro p e s m below meth c s₁ X0 hx hby hml hret hlk hnm hZ hown e0
  replace hown : s.vm.findClass "java/lang/String" = some m.cls := hown
  have N0 := Fr.nil n0
  have h01 : ¬ v0 = 0 → v0 = 1 := fun q => by
    by_cases z : SK len1 len2 c0 c1 d0 d1
    · exact hv.1 z
    · exact absurd (hv.2 z) q
  refine Go.cast (ef_S m y1 y2) ?_
  show Go p e s below _ _ _ s₁ (mkF m 0 #[.val (.ref y1), .val (.ref y2), .unset] [])
  refine Go.st (fun _ kont => XS.aloadN X0.here hx rfl (hb hby d11_0) rfl rfl kont) ?_
  show Go p e s below _ _ _ s₁ (mkF m 1 #[.val (.ref y1), .val (.ref y2), .unset] [(.ref y1)])
  refine Go.st (fun _ kont => XS.aloadN X0.here hx rfl (hb hby d11_1) rfl rfl kont) ?_
  show Go p e s below _ _ _ s₁ (mkF m 2 #[.val (.ref y1), .val (.ref y2), .unset] [(.ref y2), (.ref y1)])
  refine Go.st (fun _ kont => Jvm.RoadKit.acmp (g := (mkF m 2 #[.val (.ref y1), .val (.ref y2), .unset] [(.ref y2), (.ref y1)])) X0 hx rfl rfl rfl (pc0 := 2) (pc' := 7) (same := false) rfl (hb hby d11_2) rfl (decide_eq_false fun q => hxy (Value.ref.inj q)) (by decide) (by decide) kont) ?_
  show Go p e s below _ _ _ s₁ (mkF m 7 #[.val (.ref y1), .val (.ref y2), .unset] [])
  refine Go.st (fun _ kont => XS.aloadN X0.here hx rfl (hb hby d11_7) rfl rfl kont) ?_
  show Go p e s below _ _ _ s₁ (mkF m 8 #[.val (.ref y1), .val (.ref y2), .unset] [(.ref y2)])
  obtain ⟨T1, X1, e1, st1⟩ := instY X0 hx hZ hown (hw _ (List.mem_of_getElem? (i := 65) rfl)) e0 (Ins.of_exa E_y2 (hw _ (List.mem_of_getElem? (i := 13) rfl))) (g := (mkF m 8 #[.val (.ref y1), .val (.ref y2), .unset] [(.ref y2)])) rfl rfl (hb hby d11_8)
  refine Go.st st1 ?_
  show Go p e s below _ _ _ T1 (mkF m 11 #[.val (.ref y1), .val (.ref y2), .unset] [(.int (1 : Int32))])
  refine Go.st (fun _ kont => XS.ifNo X1.here hx rfl (hb hby d11_11) rfl ((if0 _ _).trans (feq (by decide : ¬ ((1 : Int32) = (0 : Int32)))).1) kont) ?_
  show Go p e s below _ _ _ T1 (mkF m 14 #[.val (.ref y1), .val (.ref y2), .unset] [])
  refine Go.st (fun _ kont => XS.aloadN X1.here hx rfl (hb hby d11_14) rfl rfl kont) ?_
  show Go p e s below _ _ _ T1 (mkF m 15 #[.val (.ref y1), .val (.ref y2), .unset] [(.ref y2)])
  obtain ⟨T2, X2, e2, st2⟩ := castY X1 hx hZ hown (hw _ (List.mem_of_getElem? (i := 65) rfl)) e1 (Ins.of_exa E_y2 (hw _ (List.mem_of_getElem? (i := 13) rfl))) (g := (mkF m 15 #[.val (.ref y1), .val (.ref y2), .unset] [(.ref y2)])) rfl rfl (hb hby d11_15)
  refine Go.st st2 ?_
  show Go p e s below _ _ _ T2 (mkF m 18 #[.val (.ref y1), .val (.ref y2), .unset] [(.ref y2)])
  refine Go.st (fun _ kont => XS.astoreN X2.here hx rfl (hb hby d11_18) rfl rfl (l' := #[.val (.ref y1), .val (.ref y2), .val (.ref y2)]) rfl kont) ?_
  show Go p e s below _ _ _ T2 (mkF m 19 #[.val (.ref y1), .val (.ref y2), .val (.ref y2)] [])
  obtain ⟨T3, X3, e3, st3⟩ := getS2 X2 hx hZ hown (host := "") (Or.inl (hw _ (List.mem_of_getElem? (i := 18) rfl))) Via.refl e2 SCP (g := (mkF m 19 #[.val (.ref y1), .val (.ref y2), .val (.ref y2)] [])) rfl (hb hby d11_19)
  refine Go.st st3 ?_
  show Go p e s below _ _ _ T3 (mkF m 22 #[.val (.ref y1), .val (.ref y2), .val (.ref y2)] [(.int cs)])
  refine Go.st (fun _ kont => XS.ifNo X3.here hx rfl (hb hby d11_22) rfl ((if0 _ _).trans (feq hcs).1) kont) ?_
  show Go p e s below _ _ _ T3 (mkF m 25 #[.val (.ref y1), .val (.ref y2), .val (.ref y2)] [])
  refine Go.st (fun _ kont => XS.aloadN X3.here hx rfl (hb hby d11_25) rfl rfl kont) ?_
  show Go p e s below _ _ _ T3 (mkF m 26 #[.val (.ref y1), .val (.ref y2), .val (.ref y2)] [(.ref y1)])
  obtain ⟨T4, X4, e4, st4⟩ := getF X3 hx hZ hown (host := "") (Or.inl (hw _ (List.mem_of_getElem? (i := 30) rfl))) Via.refl e3 Fc_y1 (g := (mkF m 26 #[.val (.ref y1), .val (.ref y2), .val (.ref y2)] [(.ref y1)])) rfl rfl (hb hby d11_26)
  refine Go.st st4 ?_
  show Go p e s below _ _ _ T4 (mkF m 29 #[.val (.ref y1), .val (.ref y2), .val (.ref y2)] [(.int (0 : Int32))])
  refine Go.st (fun _ kont => XS.aloadN X4.here hx rfl (hb hby d11_29) rfl rfl kont) ?_
  show Go p e s below _ _ _ T4 (mkF m 30 #[.val (.ref y1), .val (.ref y2), .val (.ref y2)] [(.ref y2), (.int (0 : Int32))])
  obtain ⟨T5, X5, e5, st5⟩ := getF X4 hx hZ hown (host := "") (Or.inl (hw _ (List.mem_of_getElem? (i := 30) rfl))) Via.refl e4 Fc_y2 (g := (mkF m 30 #[.val (.ref y1), .val (.ref y2), .val (.ref y2)] [(.ref y2), (.int (0 : Int32))])) rfl rfl (hb hby d11_30)
  refine Go.st st5 ?_
  show Go p e s below _ _ _ T5 (mkF m 33 #[.val (.ref y1), .val (.ref y2), .val (.ref y2)] [(.int (0 : Int32)), (.int (0 : Int32))])
  refine Go.st (fun _ kont => XS.icmpNo X5.here hx rfl (hb hby d11_33) rfl (teq rfl).2 kont) ?_
  show Go p e s below _ _ _ T5 (mkF m 36 #[.val (.ref y1), .val (.ref y2), .val (.ref y2)] [])
  refine Go.st (fun _ kont => XS.aloadN X5.here hx rfl (hb hby d11_36) rfl rfl kont) ?_
  show Go p e s below _ _ _ T5 (mkF m 37 #[.val (.ref y1), .val (.ref y2), .val (.ref y2)] [(.ref y1)])
  obtain ⟨T6, X6, e6, st6⟩ := getF X5 hx hZ hown (host := "") (Or.inl (hw _ (List.mem_of_getElem? (i := 32) rfl))) Via.refl e5 Fv_y1 (g := (mkF m 37 #[.val (.ref y1), .val (.ref y2), .val (.ref y2)] [(.ref y1)])) rfl rfl (hb hby d11_37)
  refine Go.st st6 ?_
  show Go p e s below _ _ _ T6 (mkF m 40 #[.val (.ref y1), .val (.ref y2), .val (.ref y2)] [(.ref b1)])
  refine Go.st (fun _ kont => XS.aloadN X6.here hx rfl (hb hby d11_40) rfl rfl kont) ?_
  show Go p e s below _ _ _ T6 (mkF m 41 #[.val (.ref y1), .val (.ref y2), .val (.ref y2)] [(.ref y2), (.ref b1)])
  obtain ⟨T7, X7, e7, st7⟩ := getF X6 hx hZ hown (host := "") (Or.inl (hw _ (List.mem_of_getElem? (i := 32) rfl))) Via.refl e6 Fv_y2 (g := (mkF m 41 #[.val (.ref y1), .val (.ref y2), .val (.ref y2)] [(.ref y2), (.ref b1)])) rfl rfl (hb hby d11_41)
  refine Go.st st7 ?_
  show Go p e s below _ _ _ T7 (mkF m 44 #[.val (.ref y1), .val (.ref y2), .val (.ref y2)] [(.ref b2), (.ref b1)])
  refine Go.callS (W := 0) (argsL := [(.ref b1), (.ref b2)]) (rest := []) X7 hx hZ hown (y := (⟨"java/lang/StringLatin1", "equals", "([B[B)Z"⟩ : MethodName)) (hw _ (List.mem_of_getElem? (i := 66) rfl)) (hw _ (List.mem_of_getElem? (i := 67) rfl)) (hw _ (List.mem_of_getElem? (i := 68) rfl)) (hw _ (List.mem_of_getElem? (i := 69) rfl)) (rmL l Z a0 hw [] b1 b2 k1 k2 c0 c1 d0 d1 h0 n0 len1 len2 vs1 vs2 C1 C2 V_b1 V_b2 v0 hv) e7 (by decide) (by decide) (by decide) (by decide) (by decide) (by rw [hml]; rfl) (lenOf pd___B_B_Z rfl) (Nat.le_of_eq rfl) (hb hby d11_44) ?_
  intro T8 v8 L8 X8 hQ8
  obtain ⟨rfl, N8, E8⟩ := hQ8
  have M8 := Fr.app N0 N8
  show Go p e s below _ _ _ T8 (mkF m 47 #[.val (.ref y1), .val (.ref y2), .val (.ref y2)] [(.int v0)])
  by_cases hc47_9 : v0 = (0 : Int32)
  · --
    refine Go.st (fun _ kont => XS.ifYes X8.here hx rfl (pc0 := 47) (pc' := 54) rfl (hb hby d11_47) rfl ((if0 _ _).trans (teq hc47_9).1) (by decide) (by decide) kont) ?_
    show Go p e s below _ _ _ T8 (mkF m 54 #[.val (.ref y1), .val (.ref y2), .val (.ref y2)] [])
    refine Go.st (fun _ kont => XT.iconstV X8.here hx rfl (0 : Int32) (hb hby d11_54) (by decide) kont) ?_
    show Go p e s below _ _ _ T8 (mkF m 55 #[.val (.ref y1), .val (.ref y2), .val (.ref y2)] [(.int (0 : Int32))])
    exact Go.retN X8 hx hlk hret (by simp) (hb hby d11_55) (by decide) (by decide) ⟨by rw [hc47_9]; rfl, M8, E8⟩
  · --
    refine Go.st (fun _ kont => XS.ifNo X8.here hx rfl (hb hby d11_47) rfl ((if0 _ _).trans (feq hc47_9).1) kont) ?_
    show Go p e s below _ _ _ T8 (mkF m 50 #[.val (.ref y1), .val (.ref y2), .val (.ref y2)] [])
    refine Go.st (fun _ kont => XT.iconstV X8.here hx rfl (1 : Int32) (hb hby d11_50) (by decide) kont) ?_
    show Go p e s below _ _ _ T8 (mkF m 51 #[.val (.ref y1), .val (.ref y2), .val (.ref y2)] [(.int (1 : Int32))])
    refine Go.st (fun _ kont => XS.goto X8.here hx rfl (pc0 := 51) (pc' := 55) rfl (hb hby d11_51) (by decide) (by decide) kont) ?_
    show Go p e s below _ _ _ T8 (mkF m 55 #[.val (.ref y1), .val (.ref y2), .val (.ref y2)] [(.int (1 : Int32))])
    exact Go.retN X8 hx hlk hret (by simp) (hb hby d11_55) (by decide) (by decide) ⟨by rw [h01 hc47_9]; rfl, M8, E8⟩
theorem pd__Ljava_lang_Object__Z : parseMethodDescriptor "(Ljava/lang/Object;)Z" = some ⟨[(.object "java/lang/Object")], some .boolean⟩ := by decide +kernel
theorem d10_0 : decode prog_5_method_2_code 0 = .ok (.aload_n 1, 1) := by decide +kernel
theorem d10_1 : decode prog_5_method_2_code 1 = .ok (.instanceof 8, 3) := by decide +kernel
theorem d10_4 : decode prog_5_method_2_code 4 = .ok (.ifCond .eq 26, 3) := by decide +kernel
theorem d10_7 : decode prog_5_method_2_code 7 = .ok (.aload_n 1, 1) := by decide +kernel
theorem d10_8 : decode prog_5_method_2_code 8 = .ok (.checkcast 8, 3) := by decide +kernel
theorem d10_11 : decode prog_5_method_2_code 11 = .ok (.astore_n 2, 1) := by decide +kernel
theorem d10_12 : decode prog_5_method_2_code 12 = .ok (.aload_n 0, 1) := by decide +kernel
theorem d10_13 : decode prog_5_method_2_code 13 = .ok (.getfield 7, 3) := by decide +kernel
theorem d10_16 : decode prog_5_method_2_code 16 = .ok (.aload_n 2, 1) := by decide +kernel
theorem d10_17 : decode prog_5_method_2_code 17 = .ok (.getfield 7, 3) := by decide +kernel
theorem d10_20 : decode prog_5_method_2_code 20 = .ok (.invokevirtual 16, 3) := by decide +kernel
theorem d10_23 : decode prog_5_method_2_code 23 = .ok (.ifCond .eq 7, 3) := by decide +kernel
theorem d10_26 : decode prog_5_method_2_code 26 = .ok (.iconst 1, 1) := by decide +kernel
theorem d10_27 : decode prog_5_method_2_code 27 = .ok (.goto 4, 3) := by decide +kernel
theorem d10_30 : decode prog_5_method_2_code 30 = .ok (.iconst 0, 1) := by decide +kernel
theorem d10_31 : decode prog_5_method_2_code 31 = .ok (.ireturn, 1) := by decide +kernel
theorem ef_E (m : MethodId) (x0 : Addr) (x1 : Addr) : entryFrame m #[(.ref x0), (.ref x1)] 3 = mkF m 0 #[.val (.ref x0), .val (.ref x1), .unset] [] := by first | (simp [entryFrame, mkF, argsToLocals, Value.category]; done) | rfl
set_option maxRecDepth 65536 in
set_option maxHeartbeats 40000000 in
theorem rmE (l : Launch) (Z : State) (a0 : Array Value) (hw : ∀ d ∈ tables_1, d.before a0 Z = true) (ws : List Jvm.Cond) (x1 x2 : Addr) (y1 y2 b1 b2 : Addr) (k1 k2 : ClassId) (c0 c1 d0 d1 : Int32) (h0 : Heap) (n0 : Nat) (len1 len2 : Int32) (vs1 vs2 : List Value) (C1 : CutB len1 c0 c1 vs1) (C2 : CutB len2 d0 d1 vs2) (hxy : ¬ y1 = y2) (E_y1 : Exa Z h0 y1 "java/lang/String") (Fc_y1 : Fld Z h0 y1 "java/lang/String" "coder" "B" (.int (0 : Int32))) (Fv_y1 : Fld Z h0 y1 "java/lang/String" "value" "[B" (.ref b1)) (V_b1 : Arv Z h0 b1 k1 .byte len1 vs1 (.int (0 : Int32))) (E_y2 : Exa Z h0 y2 "java/lang/String") (Fc_y2 : Fld Z h0 y2 "java/lang/String" "coder" "B" (.int (0 : Int32))) (Fv_y2 : Fld Z h0 y2 "java/lang/String" "value" "[B" (.ref b2)) (V_b2 : Arv Z h0 b2 k2 .byte len2 vs2 (.int (0 : Int32))) (v0 : Int32) (hv : (SK len1 len2 c0 c1 d0 d1 → v0 = 1) ∧ (¬ SK len1 len2 c0 c1 d0 d1 → v0 = 0)) (cs : Int32) (hcs : ¬ cs = (0 : Int32)) (SCP : Sta Z h0 "java/lang/String" "COMPACT_STRINGS" "Z" (.int cs)) (Ex1 : Exa Z h0 x1 "com/example/covenant/covenant/ElementaryCondition") (Fk1 : Fld Z h0 x1 "com/example/covenant/covenant/ElementaryCondition" "key" "Ljava/lang/String;" (.ref y1)) (Ex2 : Exa Z h0 x2 "com/example/covenant/covenant/ElementaryCondition") (Fk2 : Fld Z h0 x2 "com/example/covenant/covenant/ElementaryCondition" "key" "Ljava/lang/String;" (.ref y2)) :
    Meets l Z (⟨"com/example/covenant/covenant/ElementaryCondition", "equals", "(Ljava/lang/Object;)Z"⟩ : MethodName) prog_5_method_2_code 3 (some .boolean) ({ frames := 2, cells := 0, slots := 0, locals := 28 } : Room) ws #[(.ref x1), (.ref x2)] h0 (fun v h L => v = some (.int v0) ∧ Fr n0 L ∧ h = h0) := by
  refine Meets.of (plainFor_of_name (by first | (simp [plainName, overriddenIn]; done) | decide +kernel : plainName "com/example/covenant/covenant/ElementaryCondition" = true)) ?_
  intro p e s m below meth c s₁ X0 hx hby hml hret hlk hnm hZ hown e0
  replace hown : s.vm.findClass "com/example/covenant/covenant/ElementaryCondition" = some m.cls := hown
  have N0 := Fr.nil n0
  have h01 : ¬ v0 = 0 → v0 = 1 := fun q => by
    by_cases z : SK len1 len2 c0 c1 d0 d1
    · exact hv.1 z
    · exact absurd (hv.2 z) q
  refine Go.cast (ef_E m x1 x2) ?_
  show Go p e s below _ _ _ s₁ (mkF m 0 #[.val (.ref x1), .val (.ref x2), .unset] [])
  refine Go.st (fun _ kont => XS.aloadN X0.here hx rfl (hb hby d10_0) rfl rfl kont) ?_
  show Go p e s below _ _ _ s₁ (mkF m 1 #[.val (.ref x1), .val (.ref x2), .unset] [(.ref x2)])
  obtain ⟨T1, X1, e1, st1⟩ := instY X0 hx hZ hown (hw _ (List.mem_of_getElem? (i := 58) rfl)) e0 (Ins.of_exa Ex2 (hw _ (List.mem_of_getElem? (i := 59) rfl))) (g := (mkF m 1 #[.val (.ref x1), .val (.ref x2), .unset] [(.ref x2)])) rfl rfl (hb hby d10_1)
  refine Go.st st1 ?_
  show Go p e s below _ _ _ T1 (mkF m 4 #[.val (.ref x1), .val (.ref x2), .unset] [(.int (1 : Int32))])
  refine Go.st (fun _ kont => XS.ifNo X1.here hx rfl (hb hby d10_4) rfl ((if0 _ _).trans (feq (by decide : ¬ ((1 : Int32) = (0 : Int32)))).1) kont) ?_
  show Go p e s below _ _ _ T1 (mkF m 7 #[.val (.ref x1), .val (.ref x2), .unset] [])
  refine Go.st (fun _ kont => XS.aloadN X1.here hx rfl (hb hby d10_7) rfl rfl kont) ?_
  show Go p e s below _ _ _ T1 (mkF m 8 #[.val (.ref x1), .val (.ref x2), .unset] [(.ref x2)])
  obtain ⟨T2, X2, e2, st2⟩ := castY X1 hx hZ hown (hw _ (List.mem_of_getElem? (i := 58) rfl)) e1 (Ins.of_exa Ex2 (hw _ (List.mem_of_getElem? (i := 59) rfl))) (g := (mkF m 8 #[.val (.ref x1), .val (.ref x2), .unset] [(.ref x2)])) rfl rfl (hb hby d10_8)
  refine Go.st st2 ?_
  show Go p e s below _ _ _ T2 (mkF m 11 #[.val (.ref x1), .val (.ref x2), .unset] [(.ref x2)])
  refine Go.st (fun _ kont => XS.astoreN X2.here hx rfl (hb hby d10_11) rfl rfl (l' := #[.val (.ref x1), .val (.ref x2), .val (.ref x2)]) rfl kont) ?_
  show Go p e s below _ _ _ T2 (mkF m 12 #[.val (.ref x1), .val (.ref x2), .val (.ref x2)] [])
  refine Go.st (fun _ kont => XS.aloadN X2.here hx rfl (hb hby d10_12) rfl rfl kont) ?_
  show Go p e s below _ _ _ T2 (mkF m 13 #[.val (.ref x1), .val (.ref x2), .val (.ref x2)] [(.ref x1)])
  obtain ⟨T3, X3, e3, st3⟩ := getF X2 hx hZ hown (host := "") (Or.inl (hw _ (List.mem_of_getElem? (i := 49) rfl))) Via.refl e2 Fk1 (g := (mkF m 13 #[.val (.ref x1), .val (.ref x2), .val (.ref x2)] [(.ref x1)])) rfl rfl (hb hby d10_13)
  refine Go.st st3 ?_
  show Go p e s below _ _ _ T3 (mkF m 16 #[.val (.ref x1), .val (.ref x2), .val (.ref x2)] [(.ref y1)])
  refine Go.st (fun _ kont => XS.aloadN X3.here hx rfl (hb hby d10_16) rfl rfl kont) ?_
  show Go p e s below _ _ _ T3 (mkF m 17 #[.val (.ref x1), .val (.ref x2), .val (.ref x2)] [(.ref x2), (.ref y1)])
  obtain ⟨T4, X4, e4, st4⟩ := getF X3 hx hZ hown (host := "") (Or.inl (hw _ (List.mem_of_getElem? (i := 49) rfl))) Via.refl e3 Fk2 (g := (mkF m 17 #[.val (.ref x1), .val (.ref x2), .val (.ref x2)] [(.ref x2), (.ref y1)])) rfl rfl (hb hby d10_17)
  refine Go.st st4 ?_
  show Go p e s below _ _ _ T4 (mkF m 20 #[.val (.ref x1), .val (.ref x2), .val (.ref x2)] [(.ref y2), (.ref y1)])
  refine Go.callV (b := y1) (W := 0) (argsL := [(.ref y2)]) (rest := []) X4 hx hZ hown (y := (⟨"java/lang/String", "equals", "(Ljava/lang/Object;)Z"⟩ : MethodName)) (z := (⟨"java/lang/String", "equals", "(Ljava/lang/Object;)Z"⟩ : MethodName)) (hw _ (List.mem_of_getElem? (i := 60) rfl)) (hw _ (List.mem_of_getElem? (i := 61) rfl)) (notFace_of_selects (args := #[]) (mvT hZ (hw _ (List.mem_of_getElem? (i := 63) rfl)))) (hw _ (List.mem_of_getElem? (i := 63) rfl)) (hw _ (List.mem_of_getElem? (i := 62) rfl)) (hw _ (List.mem_of_getElem? (i := 7) rfl)) (hw _ (List.mem_of_getElem? (i := 64) rfl)) (rmS l Z a0 hw [] y1 y2 b1 b2 k1 k2 c0 c1 d0 d1 h0 n0 len1 len2 vs1 vs2 C1 C2 hxy E_y1 Fc_y1 Fv_y1 V_b1 E_y2 Fc_y2 Fv_y2 V_b2 v0 hv cs hcs SCP) e4 E_y1 (by decide) (by decide) (by decide) (by decide) (by decide) (by rw [hml]; rfl) (lenOf pd__Ljava_lang_Object__Z rfl) (Nat.le_of_eq rfl) (hb hby d10_20) ?_
  intro T5 v5 L5 X5 hQ5
  obtain ⟨rfl, N5, E5⟩ := hQ5
  have M5 := Fr.app N0 N5
  show Go p e s below _ _ _ T5 (mkF m 23 #[.val (.ref x1), .val (.ref x2), .val (.ref x2)] [(.int v0)])
  by_cases hc23_6 : v0 = (0 : Int32)
  · --
    refine Go.st (fun _ kont => XS.ifYes X5.here hx rfl (pc0 := 23) (pc' := 30) rfl (hb hby d10_23) rfl ((if0 _ _).trans (teq hc23_6).1) (by decide) (by decide) kont) ?_
    show Go p e s below _ _ _ T5 (mkF m 30 #[.val (.ref x1), .val (.ref x2), .val (.ref x2)] [])
    refine Go.st (fun _ kont => XT.iconstV X5.here hx rfl (0 : Int32) (hb hby d10_30) (by decide) kont) ?_
    show Go p e s below _ _ _ T5 (mkF m 31 #[.val (.ref x1), .val (.ref x2), .val (.ref x2)] [(.int (0 : Int32))])
    exact Go.retN X5 hx hlk hret (by simp) (hb hby d10_31) (by decide) (by decide) ⟨by rw [hc23_6]; rfl, M5, E5⟩
  · --
    refine Go.st (fun _ kont => XS.ifNo X5.here hx rfl (hb hby d10_23) rfl ((if0 _ _).trans (feq hc23_6).1) kont) ?_
    show Go p e s below _ _ _ T5 (mkF m 26 #[.val (.ref x1), .val (.ref x2), .val (.ref x2)] [])
    refine Go.st (fun _ kont => XT.iconstV X5.here hx rfl (1 : Int32) (hb hby d10_26) (by decide) kont) ?_
    show Go p e s below _ _ _ T5 (mkF m 27 #[.val (.ref x1), .val (.ref x2), .val (.ref x2)] [(.int (1 : Int32))])
    refine Go.st (fun _ kont => XS.goto X5.here hx rfl (pc0 := 27) (pc' := 31) rfl (hb hby d10_27) (by decide) (by decide) kont) ?_
    show Go p e s below _ _ _ T5 (mkF m 31 #[.val (.ref x1), .val (.ref x2), .val (.ref x2)] [(.int (1 : Int32))])
    exact Go.retN X5 hx hlk hret (by simp) (hb hby d10_31) (by decide) (by decide) ⟨by rw [h01 hc23_6]; rfl, M5, E5⟩
theorem own_nsRoot {Z : State} {a0 : Array Value} {O K : String} {n : Nat} (w : (Jvm.Cond.noSuperclass O).before a0 Z = true) (wk : (Jvm.Cond.instantiable K n).before a0 Z = true) (hn : O ≠ K) : NS Z O K := by
  obtain ⟨c, k, h1, h2, h3, -, -⟩ := Cond.noSuperclass_spec w
  obtain ⟨t, kt, g1, -⟩ := Cond.instantiable_spec wk
  have ne := ids_ne h1 g1 hn
  refine ⟨c, t, h1, g1, fun fuel => ?_⟩
  cases fuel with
  | zero => rfl
  | succ f => simp [Vm.isSubclassAux, ne, h2, h3]
theorem own_nsNo {Z : State} {a0 : Array Value} {C S K : String} {n : Nat} (w : (Jvm.Cond.superclass C S).before a0 Z = true) (wk : (Jvm.Cond.instantiable K n).before a0 Z = true) (ns : NS Z C K) (hn : C ≠ K) : ∃ c t, Z.vm.findClass C = some c ∧ Z.vm.findClass K = some t ∧ Z.vm.assignable c t = false := by
  obtain ⟨c, t, h0, g0, n3⟩ := ns
  obtain ⟨p, k, kp, h1, h2, h3, h4, h5, -, h7⟩ := Cond.superclass_spec h0 w
  obtain ⟨t', kt, g1, g2, g3, g4, -⟩ := Cond.instantiable_spec wk
  cases g0.symm.trans g1
  have g5 : kt.isInterface = false := by simp only [Bool.or_eq_false_iff] at g4; exact g4.1
  have ne := ids_ne h0 g0 hn
  refine ⟨c, t, h0, g0, ?_⟩
  show Z.vm.assignableAux (255 + 1) c t = false
  simp [Vm.assignableAux, ne, h2, g2, h5, g3, g5, Vm.isSubclass, n3]

theorem ef_E2 (m : MethodId) (x0 : Addr) (x1 : Addr) : entryFrame m #[(.ref x0), (.ref x1)] 3 = mkF m 0 #[.val (.ref x0), .val (.ref x1), .unset] [] := by first | (simp [entryFrame, mkF, argsToLocals, Value.category]; done) | rfl
set_option maxRecDepth 65536 in
set_option maxHeartbeats 40000000 in
theorem rmE2 (l : Launch) (Z : State) (a0 : Array Value) (hw : ∀ d ∈ tables_1, d.before a0 Z = true) (ws : List Jvm.Cond) (x1 y2 : Addr) (h0 : Heap) (n0 : Nat) (E_y2 : Exa Z h0 y2 "java/lang/String") :
    Meets l Z (⟨"com/example/covenant/covenant/ElementaryCondition", "equals", "(Ljava/lang/Object;)Z"⟩ : MethodName) prog_5_method_2_code 3 (some .boolean) ({ frames := 2, cells := 0, slots := 0, locals := 28 } : Room) ws #[(.ref x1), (.ref y2)] h0 (fun v h L => v = some (.int (0 : Int32)) ∧ Fr n0 L ∧ h = h0) := by
  refine Meets.of (plainFor_of_name (by first | (simp [plainName, overriddenIn]; done) | decide +kernel : plainName "com/example/covenant/covenant/ElementaryCondition" = true)) ?_
  intro p e s m below meth c s₁ X0 hx hby hml hret hlk hnm hZ hown e0
  replace hown : s.vm.findClass "com/example/covenant/covenant/ElementaryCondition" = some m.cls := hown
  have N0 := Fr.nil n0
  refine Go.cast (ef_E2 m x1 y2) ?_
  show Go p e s below _ _ _ s₁ (mkF m 0 #[.val (.ref x1), .val (.ref y2), .unset] [])
  refine Go.st (fun _ kont => XS.aloadN X0.here hx rfl (hb hby d10_0) rfl rfl kont) ?_
  show Go p e s below _ _ _ s₁ (mkF m 1 #[.val (.ref x1), .val (.ref y2), .unset] [(.ref y2)])
  obtain ⟨T1, X1, e1, st1⟩ := instNo X0 hx hZ hown (hw _ (List.mem_of_getElem? (i := 58) rfl)) e0 E_y2 (own_nsNo (hw _ (List.mem_of_getElem? (i := 70) rfl)) (hw _ (List.mem_of_getElem? (i := 38) rfl)) (NS.step (hw _ (List.mem_of_getElem? (i := 70) rfl)) (own_nsRoot (hw _ (List.mem_of_getElem? (i := 71) rfl)) (hw _ (List.mem_of_getElem? (i := 38) rfl)) (by decide)) (by decide)) (by decide)) (g := (mkF m 1 #[.val (.ref x1), .val (.ref y2), .unset] [(.ref y2)])) rfl rfl (hb hby d10_1)
  refine Go.st st1 ?_
  show Go p e s below _ _ _ T1 (mkF m 4 #[.val (.ref x1), .val (.ref y2), .unset] [(.int (0 : Int32))])
  refine Go.st (fun _ kont => XS.ifYes X1.here hx rfl (pc0 := 4) (pc' := 30) rfl (hb hby d10_4) rfl ((if0 _ _).trans (teq rfl).1) (by decide) (by decide) kont) ?_
  show Go p e s below _ _ _ T1 (mkF m 30 #[.val (.ref x1), .val (.ref y2), .unset] [])
  refine Go.st (fun _ kont => XT.iconstV X1.here hx rfl (0 : Int32) (hb hby d10_30) (by decide) kont) ?_
  show Go p e s below _ _ _ T1 (mkF m 31 #[.val (.ref x1), .val (.ref y2), .unset] [(.int (0 : Int32))])
  exact Go.retN X1 hx hlk hret (by simp) (hb hby d10_31) (by decide) (by decide) ⟨rfl, N0, e1⟩
theorem ef_E3 (m : MethodId) (x0 : Addr) : entryFrame m #[(.ref x0), .null] 3 = mkF m 0 #[.val (.ref x0), .val .null, .unset] [] := by first | (simp [entryFrame, mkF, argsToLocals, Value.category]; done) | rfl
set_option maxRecDepth 65536 in
set_option maxHeartbeats 40000000 in
theorem rmE3 (l : Launch) (Z : State) (a0 : Array Value) (hw : ∀ d ∈ tables_1, d.before a0 Z = true) (ws : List Jvm.Cond) (x1 : Addr) (h0 : Heap) (n0 : Nat) :
    Meets l Z (⟨"com/example/covenant/covenant/ElementaryCondition", "equals", "(Ljava/lang/Object;)Z"⟩ : MethodName) prog_5_method_2_code 3 (some .boolean) ({ frames := 2, cells := 0, slots := 0, locals := 28 } : Room) ws #[(.ref x1), .null] h0 (fun v h L => v = some (.int (0 : Int32)) ∧ Fr n0 L ∧ h = h0) := by
  refine Meets.of (plainFor_of_name (by first | (simp [plainName, overriddenIn]; done) | decide +kernel : plainName "com/example/covenant/covenant/ElementaryCondition" = true)) ?_
  intro p e s m below meth c s₁ X0 hx hby hml hret hlk hnm hZ hown e0
  replace hown : s.vm.findClass "com/example/covenant/covenant/ElementaryCondition" = some m.cls := hown
  have N0 := Fr.nil n0
  refine Go.cast (ef_E3 m x1) ?_
  show Go p e s below _ _ _ s₁ (mkF m 0 #[.val (.ref x1), .val .null, .unset] [])
  refine Go.st (fun _ kont => XS.aloadN X0.here hx rfl (hb hby d10_0) rfl rfl kont) ?_
  show Go p e s below _ _ _ s₁ (mkF m 1 #[.val (.ref x1), .val .null, .unset] [.null])
  refine Go.st (X0.instanceofNull hx (g := (mkF m 1 #[.val (.ref x1), .val .null, .unset] [.null])) rfl rfl (hb hby d10_1)) ?_
  show Go p e s below _ _ _ s₁ (mkF m 4 #[.val (.ref x1), .val .null, .unset] [(.int (0 : Int32))])
  refine Go.st (fun _ kont => XS.ifYes X0.here hx rfl (pc0 := 4) (pc' := 30) rfl (hb hby d10_4) rfl ((if0 _ _).trans (teq rfl).1) (by decide) (by decide) kont) ?_
  show Go p e s below _ _ _ s₁ (mkF m 30 #[.val (.ref x1), .val .null, .unset] [])
  refine Go.st (fun _ kont => XT.iconstV X0.here hx rfl (0 : Int32) (hb hby d10_30) (by decide) kont) ?_
  show Go p e s below _ _ _ s₁ (mkF m 31 #[.val (.ref x1), .val .null, .unset] [(.int (0 : Int32))])
  exact Go.retN X0 hx hlk hret (by simp) (hb hby d10_31) (by decide) (by decide) ⟨rfl, N0, e0⟩
theorem d9_0 : decode jdk_30_method_1_code 0 = .ok (.aload_n 0, 1) := by decide +kernel
theorem d9_1 : decode jdk_30_method_1_code 1 = .ok (.invokespecial 1, 3) := by decide +kernel
theorem d9_4 : decode jdk_30_method_1_code 4 = .ok (.return_, 1) := by decide +kernel
theorem ef_R (m : MethodId) (x0 : Addr) : entryFrame m #[(.ref x0)] 1 = mkF m 0 #[.val (.ref x0)] [] := by first | (simp [entryFrame, mkF, argsToLocals, Value.category]; done) | rfl
set_option maxRecDepth 65536 in
set_option maxHeartbeats 40000000 in
theorem rmR (l : Launch) (Z : State) (a0 : Array Value) (hw : ∀ d ∈ tables_1, d.before a0 Z = true) (ws : List Jvm.Cond) (b : Addr) (h0 : Heap) (n0 : Nat) :
    Meets l Z (⟨"java/lang/Record", "<init>", "()V"⟩ : MethodName) jdk_30_method_1_code 1 none ({ frames := 1, cells := 0, slots := 0, locals := 12 } : Room) ws #[(.ref b)] h0 (fun v h L => v = none ∧ Fr n0 L ∧ h = h0) := by
  refine Meets.of (plainFor_of_name (by first | (simp [plainName, overriddenIn]; done) | decide +kernel : plainName "java/lang/Record" = true)) ?_
  intro p e s m below meth c s₁ X0 hx hby hml hret hlk hnm hZ hown e0
  replace hown : s.vm.findClass "java/lang/Record" = some m.cls := hown
  have N0 := Fr.nil n0
  refine Go.cast (ef_R m b) ?_
  show Go p e s below _ _ _ s₁ (mkF m 0 #[.val (.ref b)] [])
  refine Go.st (fun _ kont => XS.aloadN X0.here hx rfl (hb hby d9_0) rfl rfl kont) ?_
  show Go p e s below _ _ _ s₁ (mkF m 1 #[.val (.ref b)] [(.ref b)])
  obtain ⟨T1, X1, e1, st1⟩ := initO X0 hx hZ hown (hw _ (List.mem_of_getElem? (i := 48) rfl)) (hw _ (List.mem_of_getElem? (i := 16) rfl)) (hw _ (List.mem_of_getElem? (i := 17) rfl)) e0 (g := (mkF m 1 #[.val (.ref b)] [(.ref b)])) rfl (by rw [hml]; rfl) rfl (hb hby d9_1) (by decide) (W := 0) (by show 2 * 0 + _ ≤ _; exact Nat.le_of_eq rfl) (by decide)
  refine Go.st st1 ?_
  show Go p e s below _ _ _ T1 (mkF m 4 #[.val (.ref b)] [])
  exact Go.retV X1 hx hlk hret (hb hby d9_4) (by decide) (by decide) ⟨rfl, N0, e1⟩
theorem pd___V : parseMethodDescriptor "()V" = some ⟨[], none⟩ := by decide +kernel
theorem d8_0 : decode prog_5_method_1_code 0 = .ok (.aload_n 0, 1) := by decide +kernel
theorem d8_1 : decode prog_5_method_1_code 1 = .ok (.invokespecial 1, 3) := by decide +kernel
theorem d8_4 : decode prog_5_method_1_code 4 = .ok (.aload_n 0, 1) := by decide +kernel
theorem d8_5 : decode prog_5_method_1_code 5 = .ok (.aload_n 1, 1) := by decide +kernel
theorem d8_6 : decode prog_5_method_1_code 6 = .ok (.putfield 7, 3) := by decide +kernel
theorem d8_9 : decode prog_5_method_1_code 9 = .ok (.aload_n 0, 1) := by decide +kernel
theorem d8_10 : decode prog_5_method_1_code 10 = .ok (.aload_n 2, 1) := by decide +kernel
theorem d8_11 : decode prog_5_method_1_code 11 = .ok (.putfield 13, 3) := by decide +kernel
theorem d8_14 : decode prog_5_method_1_code 14 = .ok (.return_, 1) := by decide +kernel
theorem ef_I (m : MethodId) (x0 : Addr) (x1 : Addr) (x2 : Addr) : entryFrame m #[(.ref x0), (.ref x1), (.ref x2)] 3 = mkF m 0 #[.val (.ref x0), .val (.ref x1), .val (.ref x2)] [] := by first | (simp [entryFrame, mkF, argsToLocals, Value.category]; done) | rfl
set_option maxRecDepth 65536 in
set_option maxHeartbeats 40000000 in
theorem rmI (l : Launch) (Z : State) (a0 : Array Value) (hw : ∀ d ∈ tables_1, d.before a0 Z = true) (ws : List Jvm.Cond) (b : Addr) (ya yb : Addr) (h0 : Heap) (n0 : Nat) (gb : n0 ≤ b) (E_b : Exa Z h0 b "com/example/covenant/covenant/ElementaryCondition") (F_key_b : Fld Z h0 b "com/example/covenant/covenant/ElementaryCondition" "key" "Ljava/lang/String;" .null) (F_text_b : Fld Z h0 b "com/example/covenant/covenant/ElementaryCondition" "text" "Ljava/lang/String;" .null)  :
    Meets l Z (⟨"com/example/covenant/covenant/ElementaryCondition", "<init>", "(Ljava/lang/String;Ljava/lang/String;)V"⟩ : MethodName) prog_5_method_1_code 3 none ({ frames := 2, cells := 0, slots := 0, locals := 24 } : Room) ws #[(.ref b), (.ref ya), (.ref yb)] h0 (fun v h L => v = none ∧ Fr n0 L ∧ Keep h0 h [b] ∧ Fld Z h b "com/example/covenant/covenant/ElementaryCondition" "key" "Ljava/lang/String;" (.ref ya) ∧ Fld Z h b "com/example/covenant/covenant/ElementaryCondition" "text" "Ljava/lang/String;" (.ref yb)) := by
  refine Meets.of (plainFor_of_name (by first | (simp [plainName, overriddenIn]; done) | decide +kernel : plainName "com/example/covenant/covenant/ElementaryCondition" = true)) ?_
  intro p e s m below meth c s₁ X0 hx hby hml hret hlk hnm hZ hown e0
  replace hown : s.vm.findClass "com/example/covenant/covenant/ElementaryCondition" = some m.cls := hown
  have N0 := Fr.nil n0
  have K0 := Keep.refl h0 [b]
  refine Go.cast (ef_I m b ya yb) ?_
  show Go p e s below _ _ _ s₁ (mkF m 0 #[.val (.ref b), .val (.ref ya), .val (.ref yb)] [])
  refine Go.st (fun _ kont => XS.aloadN X0.here hx rfl (hb hby d8_0) rfl rfl kont) ?_
  show Go p e s below _ _ _ s₁ (mkF m 1 #[.val (.ref b), .val (.ref ya), .val (.ref yb)] [(.ref b)])
  refine Go.callC (b := b) (W := 0) (argsL := []) (rest := []) X0 hx hZ (y := (⟨"java/lang/Record", "<init>", "()V"⟩ : MethodName)) rfl hown (hw _ (List.mem_of_getElem? (i := 43) rfl)) (hw _ (List.mem_of_getElem? (i := 44) rfl)) (hw _ (List.mem_of_getElem? (i := 46) rfl)) (hw _ (List.mem_of_getElem? (i := 47) rfl)) (rmR l Z a0 hw [] b h0 n0) e0 (by decide) (by decide) (by decide) (by decide) (by decide) (by rw [hml]; rfl) (lenOf pd___V rfl) (Nat.le_of_eq rfl) (hb hby d8_1) ?_
  intro T1 v1 L1 X1 hQ1
  obtain ⟨rfl, N1, E1⟩ := hQ1
  have M1 := Fr.app N0 N1
  show Go p e s below _ _ _ T1 (mkF m 4 #[.val (.ref b), .val (.ref ya), .val (.ref yb)] [])
  refine Go.st (fun _ kont => XS.aloadN X1.here hx rfl (hb hby d8_4) rfl rfl kont) ?_
  show Go p e s below _ _ _ T1 (mkF m 5 #[.val (.ref b), .val (.ref ya), .val (.ref yb)] [(.ref b)])
  refine Go.st (fun _ kont => XS.aloadN X1.here hx rfl (hb hby d8_5) rfl rfl kont) ?_
  show Go p e s below _ _ _ T1 (mkF m 6 #[.val (.ref b), .val (.ref ya), .val (.ref yb)] [(.ref ya), (.ref b)])
  obtain ⟨T2, h2, X2, e2, W2, st2⟩ := putF X1 hx hZ hown (host := "") (Or.inl (hw _ (List.mem_of_getElem? (i := 49) rfl))) Via.refl E1 F_key_b E_b (Or.inr ⟨(hw _ (List.mem_of_getElem? (i := 50) rfl)), rfl, hnm⟩) (hw _ (List.mem_of_getElem? (i := 38) rfl)) (ty := (.object "java/lang/String")) (by decide) rfl rfl (g := (mkF m 6 #[.val (.ref b), .val (.ref ya), .val (.ref yb)] [(.ref ya), (.ref b)])) rfl rfl (hb hby d8_6)
  refine Go.st st2 ?_
  have F_key_b_2 : Fld Z h2 b "com/example/covenant/covenant/ElementaryCondition" "key" "Ljava/lang/String;" (.ref ya) := F_key_b.same W2
  have K_2 : Keep h0 h2 [b] := K0.wr W2 (Or.inl (List.mem_singleton.mpr rfl))
  have E_b_2 := E_b.wr W2
  have F_text_b_2 := F_text_b.other W2 (Or.inr (slot_ne (Or.inr (hw _ (List.mem_of_getElem? (i := 52) rfl))) (Or.inr (hw _ (List.mem_of_getElem? (i := 50) rfl))) (by decide) (t := (.object "java/lang/String")) (t' := (.object "java/lang/String")) (by decide) (by decide)))
  have N2 := Fr.snoc X2 M1 gb
  show Go p e s below _ _ _ T2 (mkF m 9 #[.val (.ref b), .val (.ref ya), .val (.ref yb)] [])
  refine Go.st (fun _ kont => XS.aloadN X2.here hx rfl (hb hby d8_9) rfl rfl kont) ?_
  show Go p e s below _ _ _ T2 (mkF m 10 #[.val (.ref b), .val (.ref ya), .val (.ref yb)] [(.ref b)])
  refine Go.st (fun _ kont => XS.aloadN X2.here hx rfl (hb hby d8_10) rfl rfl kont) ?_
  show Go p e s below _ _ _ T2 (mkF m 11 #[.val (.ref b), .val (.ref ya), .val (.ref yb)] [(.ref yb), (.ref b)])
  obtain ⟨T3, h3, X3, e3, W3, st3⟩ := putF X2 hx hZ hown (host := "") (Or.inl (hw _ (List.mem_of_getElem? (i := 51) rfl))) Via.refl e2 F_text_b_2 E_b_2 (Or.inr ⟨(hw _ (List.mem_of_getElem? (i := 52) rfl)), rfl, hnm⟩) (hw _ (List.mem_of_getElem? (i := 38) rfl)) (ty := (.object "java/lang/String")) (by decide) rfl rfl (g := (mkF m 11 #[.val (.ref b), .val (.ref ya), .val (.ref yb)] [(.ref yb), (.ref b)])) rfl rfl (hb hby d8_11)
  refine Go.st st3 ?_
  have F_text_b_3 : Fld Z h3 b "com/example/covenant/covenant/ElementaryCondition" "text" "Ljava/lang/String;" (.ref yb) := F_text_b_2.same W3
  have K_3 : Keep h0 h3 [b] := K_2.wr W3 (Or.inl (List.mem_singleton.mpr rfl))
  have E_b_3 := E_b_2.wr W3
  have F_key_b_3 := F_key_b_2.other W3 (Or.inr (slot_ne (Or.inr (hw _ (List.mem_of_getElem? (i := 50) rfl))) (Or.inr (hw _ (List.mem_of_getElem? (i := 52) rfl))) (by decide) (t := (.object "java/lang/String")) (t' := (.object "java/lang/String")) (by decide) (by decide)))
  have N3 := Fr.snoc X3 N2 gb
  show Go p e s below _ _ _ T3 (mkF m 14 #[.val (.ref b), .val (.ref ya), .val (.ref yb)] [])
  exact Go.retV X3 hx hlk hret (hb hby d8_14) (by decide) (by decide) ⟨rfl, N3, (by rw [e3]; exact K_3), (by rw [e3]; exact F_key_b_3), (by rw [e3]; exact F_text_b_3)⟩
theorem own_m3 (y : Int32) : ((y &&& (3 : Int32)) % (3 : Int32)) = 0 ∨ ((y &&& (3 : Int32)) % (3 : Int32)) = 1 ∨ ((y &&& (3 : Int32)) % (3 : Int32)) = 2 := by
  have h1 : (y &&& (3 : Int32)).toInt = y.toInt % (2 ^ 2 : Nat) := c_mask y 3 2 (by decide) (by decide)
  have h3 : (2 ^ 2 : Nat) = 4 := by decide
  rw [h3] at h1
  have h2 := (c_irem (y &&& (3 : Int32)) 3 3 rfl).1 (by omega)
  have h4 : ((y &&& (3 : Int32)) % (3 : Int32)).toInt = 0 ∨ ((y &&& (3 : Int32)) % (3 : Int32)).toInt = 1 ∨ ((y &&& (3 : Int32)) % (3 : Int32)).toInt = 2 := by omega
  rcases h4 with h | h | h
  · exact Or.inl (Int32.toInt_inj.mp (by rw [h]; rfl))
  · exact Or.inr (Or.inl (Int32.toInt_inj.mp (by rw [h]; rfl)))
  · exact Or.inr (Or.inr (Int32.toInt_inj.mp (by rw [h]; rfl)))
def Lat (c : Int32) : Prop := ¬ ((255 : Int32) < (nar .char c)) ∧ 0 ≤ c.toInt ∧ c.toInt ≤ 255 ∧ nar .char c = c
theorem own_lat (x : Int32) : Lat ((x &&& (255 : Int32)).toUInt32.toUInt16.toUInt32.toInt32) := by
  rw [i2c_mask]
  have h1 : (x &&& (255 : Int32)).toInt = x.toInt % (2 ^ 8 : Nat) := c_mask x 255 8 (by decide) (by decide)
  have h2 : nar .char (x &&& 255) = x &&& 255 := i2c_mask x
  have h3 : (2 ^ 8 : Nat) = 256 := by decide
  rw [h3] at h1
  refine ⟨?_, by omega, by omega, h2⟩
  have h4 : (255 : Int32).toInt = 255 := rfl
  rw [h2, Int32.lt_iff_toInt_lt]; omega
theorem own_byt {c d : Int32} (h : c = d) : (nar .byte ((nar .char c).toInt8.toInt32)) = (nar .byte ((nar .char d).toInt8.toInt32)) := by rw [h]
theorem own_bytI {c d : Int32} (hc : Lat c) (hd : Lat d) (h : (nar .byte ((nar .char c).toInt8.toInt32)) = (nar .byte ((nar .char d).toInt8.toInt32))) : c = d := by
  rw [hc.2.2.2, hd.2.2.2] at h
  have a1 := c_i2b c
  have a2 := c_i2b c.toInt8.toInt32
  have b1 := c_i2b d
  have b2 := c_i2b d.toInt8.toInt32
  have h' : c.toInt8.toInt32.toInt8.toInt32.toInt = d.toInt8.toInt32.toInt8.toInt32.toInt := congrArg Int32.toInt h
  obtain ⟨-, c1, c2, -⟩ := hc
  obtain ⟨-, d1, d2, -⟩ := hd
  exact Int32.toInt_inj.mp (by omega)
theorem own_skS {l1 l2 c0 c1 d0 d1 : Int32} (h : SK l1 l2 c0 c1 d0 d1) : SK l2 l1 d0 d1 c0 c1 := by
  obtain ⟨e, a, b⟩ := h
  subst e
  exact ⟨rfl, fun q => (a q).symm, fun q => (b q).symm⟩
theorem own_swap {l1 l2 c0 c1 d0 d1 v : Int32} (h : (SK l1 l2 c0 c1 d0 d1 → v = 1) ∧ (¬ SK l1 l2 c0 c1 d0 d1 → v = 0)) : (SK l2 l1 d0 d1 c0 c1 → v = 1) ∧ (¬ SK l2 l1 d0 d1 c0 c1 → v = 0) := ⟨fun q => h.1 (own_skS q), fun q => h.2 fun z => q (own_skS z)⟩

theorem pd__ICC__C : parseMethodDescriptor "(ICC)[C" = some ⟨[.int, .char, .char], some (.array .char)⟩ := by decide +kernel
theorem pd___C_V : parseMethodDescriptor "([C)V" = some ⟨[(.array .char)], none⟩ := by decide +kernel
theorem pd__Ljava_lang_String_Ljava_lang_String__V : parseMethodDescriptor "(Ljava/lang/String;Ljava/lang/String;)V" = some ⟨[(.object "java/lang/String"), (.object "java/lang/String")], none⟩ := by decide +kernel
theorem ef_0 (m : MethodId) (x0 : Int32) (x1 : Int32) (x2 : Int32) (x3 : Int32) : entryFrame m #[(.int x0), (.int x1), (.int x2), (.int x3)] maxLocals = mkF m 0 #[.val (.int x0), .val (.int x1), .val (.int x2), .val (.int x3), .unset, .unset, .unset, .unset, .unset, .unset, .unset, .unset, .unset, .unset, .unset, .unset, .unset, .unset, .unset, .unset, .unset, .unset, .unset, .unset, .unset, .unset, .unset, .unset, .unset, .unset] [] := by first | (simp [entryFrame, mkF, argsToLocals, Value.category, maxLocals]; done) | rfl
set_option maxRecDepth 65536 in
set_option maxHeartbeats 40000000 in
theorem rm0 (l : Launch) (Z : State) (a0 : Array Value) (hw : ∀ d ∈ tables_1, d.before a0 Z = true) (ws : List Jvm.Cond) (p0 p1 p2 p3 : Int32) (h0 : Heap) (n0 : Nat) (Z0 : n0 ≤ h0.size) (cs : Int32) (hcs : ¬ cs = (0 : Int32)) (SCP : Sta Z h0 "java/lang/String" "COMPACT_STRINGS" "Z" (.int cs)) :
    MeetsW l Z EL0 x code maxLocals ret room_1 ws #[(.int p0), (.int p1), (.int p2), (.int p3)] h0 (fun v h L => v = some (.int 1) ∧ Fr n0 L) := by
  refine MeetsW.of (plainFor_of_name (by first | (simp [plainName, overriddenIn]; done) | decide +kernel : plainName "com/example/covenant/covenant/ElementaryConditionEqualsPinLaw" = true)) ?_
  intro p e s m below meth c s₁ X0 hx hby hml hret hlk hnm hZ hown e0 hh0 CH0 hS
  replace hown : s.vm.findClass "com/example/covenant/covenant/ElementaryConditionEqualsPinLaw" = some m.cls := hown
  have hEL := own_EL hw
  have CR0 := CHr.refl CH0
  have Sz0 := Nat.zero_le h0.size
  have N0 := Fr.nil n0
  have Q0 := own_extR h0
  refine GoW.cast (ef_0 m p0 p1 p2 p3) ?_
  show GoW Z EL0 p e s below _ _ _ s₁ (mkF m 0 #[.val (.int p0), .val (.int p1), .val (.int p2), .val (.int p3), .unset, .unset, .unset, .unset, .unset, .unset, .unset, .unset, .unset, .unset, .unset, .unset, .unset, .unset, .unset, .unset, .unset, .unset, .unset, .unset, .unset, .unset, .unset, .unset, .unset, .unset] [])
  refine GoW.st (fun _ kont => XS.iloadN X0.here hx rfl (hb hby at_0) rfl kont) ?_
  show GoW Z EL0 p e s below _ _ _ s₁ (mkF m 1 #[.val (.int p0), .val (.int p1), .val (.int p2), .val (.int p3), .unset, .unset, .unset, .unset, .unset, .unset, .unset, .unset, .unset, .unset, .unset, .unset, .unset, .unset, .unset, .unset, .unset, .unset, .unset, .unset, .unset, .unset, .unset, .unset, .unset, .unset] [(.int p3)])
  refine GoW.st (fun _ kont => XT.iconstV X0.here hx rfl (3 : Int32) (hb hby at_1) (by decide) kont) ?_
  show GoW Z EL0 p e s below _ _ _ s₁ (mkF m 2 #[.val (.int p0), .val (.int p1), .val (.int p2), .val (.int p3), .unset, .unset, .unset, .unset, .unset, .unset, .unset, .unset, .unset, .unset, .unset, .unset, .unset, .unset, .unset, .unset, .unset, .unset, .unset, .unset, .unset, .unset, .unset, .unset, .unset, .unset] [(.int (3 : Int32)), (.int p3)])
  refine GoW.st (fun _ kont => XS.iand X0.here hx rfl (hb hby at_2) rfl kont) ?_
  show GoW Z EL0 p e s below _ _ _ s₁ (mkF m 3 #[.val (.int p0), .val (.int p1), .val (.int p2), .val (.int p3), .unset, .unset, .unset, .unset, .unset, .unset, .unset, .unset, .unset, .unset, .unset, .unset, .unset, .unset, .unset, .unset, .unset, .unset, .unset, .unset, .unset, .unset, .unset, .unset, .unset, .unset] [(.int (p3 &&& (3 : Int32)))])
  refine GoW.st (fun _ kont => XT.iconstV X0.here hx rfl (3 : Int32) (hb hby at_3) (by decide) kont) ?_
  show GoW Z EL0 p e s below _ _ _ s₁ (mkF m 4 #[.val (.int p0), .val (.int p1), .val (.int p2), .val (.int p3), .unset, .unset, .unset, .unset, .unset, .unset, .unset, .unset, .unset, .unset, .unset, .unset, .unset, .unset, .unset, .unset, .unset, .unset, .unset, .unset, .unset, .unset, .unset, .unset, .unset, .unset] [(.int (3 : Int32)), (.int (p3 &&& (3 : Int32)))])
  refine GoW.st (fun _ kont => iremM X0 hx rfl (hb hby at_4) rfl (by decide) kont) ?_
  show GoW Z EL0 p e s below _ _ _ s₁ (mkF m 5 #[.val (.int p0), .val (.int p1), .val (.int p2), .val (.int p3), .unset, .unset, .unset, .unset, .unset, .unset, .unset, .unset, .unset, .unset, .unset, .unset, .unset, .unset, .unset, .unset, .unset, .unset, .unset, .unset, .unset, .unset, .unset, .unset, .unset, .unset] [(.int ((p3 &&& (3 : Int32)) % (3 : Int32)))])
  refine GoW.st (fun _ kont => XS.istore X0.here hx rfl (hb hby at_5) rfl (l' := #[.val (.int p0), .val (.int p1), .val (.int p2), .val (.int p3), .val (.int ((p3 &&& (3 : Int32)) % (3 : Int32))), .unset, .unset, .unset, .unset, .unset, .unset, .unset, .unset, .unset, .unset, .unset, .unset, .unset, .unset, .unset, .unset, .unset, .unset, .unset, .unset, .unset, .unset, .unset, .unset, .unset]) rfl kont) ?_
  show GoW Z EL0 p e s below _ _ _ s₁ (mkF m 7 #[.val (.int p0), .val (.int p1), .val (.int p2), .val (.int p3), .val (.int ((p3 &&& (3 : Int32)) % (3 : Int32))), .unset, .unset, .unset, .unset, .unset, .unset, .unset, .unset, .unset, .unset, .unset, .unset, .unset, .unset, .unset, .unset, .unset, .unset, .unset, .unset, .unset, .unset, .unset, .unset, .unset] [])
  have pq4 : ((p3 &&& (3 : Int32)) % (3 : Int32)) = 0 ∨ ((p3 &&& (3 : Int32)) % (3 : Int32)) = 1 ∨ ((p3 &&& (3 : Int32)) % (3 : Int32)) = 2 := own_m3 _
  obtain ⟨q4, hq4⟩ : ∃ z : Int32, z = ((p3 &&& (3 : Int32)) % (3 : Int32)) := ⟨_, rfl⟩
  rw [← hq4] at pq4 ⊢
  show GoW Z EL0 p e s below _ _ _ s₁ (mkF m 7 #[.val (.int p0), .val (.int p1), .val (.int p2), .val (.int p3), .val (.int q4), .unset, .unset, .unset, .unset, .unset, .unset, .unset, .unset, .unset, .unset, .unset, .unset, .unset, .unset, .unset, .unset, .unset, .unset, .unset, .unset, .unset, .unset, .unset, .unset, .unset] [])
  refine GoW.st (fun _ kont => XS.iloadN X0.here hx rfl (hb hby at_7) rfl kont) ?_
  show GoW Z EL0 p e s below _ _ _ s₁ (mkF m 8 #[.val (.int p0), .val (.int p1), .val (.int p2), .val (.int p3), .val (.int q4), .unset, .unset, .unset, .unset, .unset, .unset, .unset, .unset, .unset, .unset, .unset, .unset, .unset, .unset, .unset, .unset, .unset, .unset, .unset, .unset, .unset, .unset, .unset, .unset, .unset] [(.int p3)])
  refine GoW.st (fun _ kont => XT.iconstV X0.here hx rfl (2 : Int32) (hb hby at_8) (by decide) kont) ?_
  show GoW Z EL0 p e s below _ _ _ s₁ (mkF m 9 #[.val (.int p0), .val (.int p1), .val (.int p2), .val (.int p3), .val (.int q4), .unset, .unset, .unset, .unset, .unset, .unset, .unset, .unset, .unset, .unset, .unset, .unset, .unset, .unset, .unset, .unset, .unset, .unset, .unset, .unset, .unset, .unset, .unset, .unset, .unset] [(.int (2 : Int32)), (.int p3)])
  refine GoW.st (fun _ kont => XS.iushr X0.here hx rfl (hb hby at_9) rfl kont) ?_
  show GoW Z EL0 p e s below _ _ _ s₁ (mkF m 10 #[.val (.int p0), .val (.int p1), .val (.int p2), .val (.int p3), .val (.int q4), .unset, .unset, .unset, .unset, .unset, .unset, .unset, .unset, .unset, .unset, .unset, .unset, .unset, .unset, .unset, .unset, .unset, .unset, .unset, .unset, .unset, .unset, .unset, .unset, .unset] [(.int ((p3.toUInt32 >>> ((2 : Int32) &&& 31).toUInt32).toInt32))])
  refine GoW.st (fun _ kont => XT.iconstV X0.here hx rfl (1 : Int32) (hb hby at_10) (by decide) kont) ?_
  show GoW Z EL0 p e s below _ _ _ s₁ (mkF m 11 #[.val (.int p0), .val (.int p1), .val (.int p2), .val (.int p3), .val (.int q4), .unset, .unset, .unset, .unset, .unset, .unset, .unset, .unset, .unset, .unset, .unset, .unset, .unset, .unset, .unset, .unset, .unset, .unset, .unset, .unset, .unset, .unset, .unset, .unset, .unset] [(.int (1 : Int32)), (.int ((p3.toUInt32 >>> ((2 : Int32) &&& 31).toUInt32).toInt32))])
  refine GoW.st (fun _ kont => XS.iand X0.here hx rfl (hb hby at_11) rfl kont) ?_
  show GoW Z EL0 p e s below _ _ _ s₁ (mkF m 12 #[.val (.int p0), .val (.int p1), .val (.int p2), .val (.int p3), .val (.int q4), .unset, .unset, .unset, .unset, .unset, .unset, .unset, .unset, .unset, .unset, .unset, .unset, .unset, .unset, .unset, .unset, .unset, .unset, .unset, .unset, .unset, .unset, .unset, .unset, .unset] [(.int (((p3.toUInt32 >>> ((2 : Int32) &&& 31).toUInt32).toInt32) &&& (1 : Int32)))])
  have J1 : ∀ z1 : Int32, (z1 = 0 ∨ z1 = 1 ∨ z1 = 2) → GoW Z EL0 p e s below (fun v h L => v = some (.int 1) ∧ Fr n0 L) room_1.cells room_1.slots s₁ (mkF m 27 #[.val (.int p0), .val (.int p1), .val (.int p2), .val (.int p3), .val (.int q4), .unset, .unset, .unset, .unset, .unset, .unset, .unset, .unset, .unset, .unset, .unset, .unset, .unset, .unset, .unset, .unset, .unset, .unset, .unset, .unset, .unset, .unset, .unset, .unset, .unset] [(.int z1)]) := by
    intro z1 hj1
    show GoW Z EL0 p e s below _ _ _ s₁ (mkF m 27 #[.val (.int p0), .val (.int p1), .val (.int p2), .val (.int p3), .val (.int q4), .unset, .unset, .unset, .unset, .unset, .unset, .unset, .unset, .unset, .unset, .unset, .unset, .unset, .unset, .unset, .unset, .unset, .unset, .unset, .unset, .unset, .unset, .unset, .unset, .unset] [(.int z1)])
    refine GoW.st (fun _ kont => XS.istore X0.here hx rfl (hb hby at_27) rfl (l' := #[.val (.int p0), .val (.int p1), .val (.int p2), .val (.int p3), .val (.int q4), .val (.int z1), .unset, .unset, .unset, .unset, .unset, .unset, .unset, .unset, .unset, .unset, .unset, .unset, .unset, .unset, .unset, .unset, .unset, .unset, .unset, .unset, .unset, .unset, .unset, .unset]) rfl kont) ?_
    show GoW Z EL0 p e s below _ _ _ s₁ (mkF m 29 #[.val (.int p0), .val (.int p1), .val (.int p2), .val (.int p3), .val (.int q4), .val (.int z1), .unset, .unset, .unset, .unset, .unset, .unset, .unset, .unset, .unset, .unset, .unset, .unset, .unset, .unset, .unset, .unset, .unset, .unset, .unset, .unset, .unset, .unset, .unset, .unset] [])
    refine GoW.st (fun _ kont => XS.iloadN X0.here hx rfl (hb hby at_29) rfl kont) ?_
    show GoW Z EL0 p e s below _ _ _ s₁ (mkF m 30 #[.val (.int p0), .val (.int p1), .val (.int p2), .val (.int p3), .val (.int q4), .val (.int z1), .unset, .unset, .unset, .unset, .unset, .unset, .unset, .unset, .unset, .unset, .unset, .unset, .unset, .unset, .unset, .unset, .unset, .unset, .unset, .unset, .unset, .unset, .unset, .unset] [(.int p0)])
    refine GoW.st (fun _ kont => XT.sipushV X0.here hx rfl (255 : Int32) (hb hby at_30) (by decide) kont) ?_
    show GoW Z EL0 p e s below _ _ _ s₁ (mkF m 33 #[.val (.int p0), .val (.int p1), .val (.int p2), .val (.int p3), .val (.int q4), .val (.int z1), .unset, .unset, .unset, .unset, .unset, .unset, .unset, .unset, .unset, .unset, .unset, .unset, .unset, .unset, .unset, .unset, .unset, .unset, .unset, .unset, .unset, .unset, .unset, .unset] [(.int (255 : Int32)), (.int p0)])
    refine GoW.st (fun _ kont => XS.iand X0.here hx rfl (hb hby at_33) rfl kont) ?_
    show GoW Z EL0 p e s below _ _ _ s₁ (mkF m 34 #[.val (.int p0), .val (.int p1), .val (.int p2), .val (.int p3), .val (.int q4), .val (.int z1), .unset, .unset, .unset, .unset, .unset, .unset, .unset, .unset, .unset, .unset, .unset, .unset, .unset, .unset, .unset, .unset, .unset, .unset, .unset, .unset, .unset, .unset, .unset, .unset] [(.int (p0 &&& (255 : Int32)))])
    refine GoW.st (fun _ kont => XS.i2c X0.here hx rfl (hb hby at_34) rfl kont) ?_
    show GoW Z EL0 p e s below _ _ _ s₁ (mkF m 35 #[.val (.int p0), .val (.int p1), .val (.int p2), .val (.int p3), .val (.int q4), .val (.int z1), .unset, .unset, .unset, .unset, .unset, .unset, .unset, .unset, .unset, .unset, .unset, .unset, .unset, .unset, .unset, .unset, .unset, .unset, .unset, .unset, .unset, .unset, .unset, .unset] [(.int ((p0 &&& (255 : Int32)).toUInt32.toUInt16.toUInt32.toInt32))])
    refine GoW.st (fun _ kont => XS.istore X0.here hx rfl (hb hby at_35) rfl (l' := #[.val (.int p0), .val (.int p1), .val (.int p2), .val (.int p3), .val (.int q4), .val (.int z1), .val (.int ((p0 &&& (255 : Int32)).toUInt32.toUInt16.toUInt32.toInt32)), .unset, .unset, .unset, .unset, .unset, .unset, .unset, .unset, .unset, .unset, .unset, .unset, .unset, .unset, .unset, .unset, .unset, .unset, .unset, .unset, .unset, .unset, .unset]) rfl kont) ?_
    show GoW Z EL0 p e s below _ _ _ s₁ (mkF m 37 #[.val (.int p0), .val (.int p1), .val (.int p2), .val (.int p3), .val (.int q4), .val (.int z1), .val (.int ((p0 &&& (255 : Int32)).toUInt32.toUInt16.toUInt32.toInt32)), .unset, .unset, .unset, .unset, .unset, .unset, .unset, .unset, .unset, .unset, .unset, .unset, .unset, .unset, .unset, .unset, .unset, .unset, .unset, .unset, .unset, .unset, .unset] [])
    have pq6 : Lat ((p0 &&& (255 : Int32)).toUInt32.toUInt16.toUInt32.toInt32) := own_lat _
    obtain ⟨q6, hq6⟩ : ∃ z : Int32, z = ((p0 &&& (255 : Int32)).toUInt32.toUInt16.toUInt32.toInt32) := ⟨_, rfl⟩
    rw [← hq6] at pq6 ⊢
    show GoW Z EL0 p e s below _ _ _ s₁ (mkF m 37 #[.val (.int p0), .val (.int p1), .val (.int p2), .val (.int p3), .val (.int q4), .val (.int z1), .val (.int q6), .unset, .unset, .unset, .unset, .unset, .unset, .unset, .unset, .unset, .unset, .unset, .unset, .unset, .unset, .unset, .unset, .unset, .unset, .unset, .unset, .unset, .unset, .unset] [])
    refine GoW.st (fun _ kont => XS.iloadN X0.here hx rfl (hb hby at_37) rfl kont) ?_
    show GoW Z EL0 p e s below _ _ _ s₁ (mkF m 38 #[.val (.int p0), .val (.int p1), .val (.int p2), .val (.int p3), .val (.int q4), .val (.int z1), .val (.int q6), .unset, .unset, .unset, .unset, .unset, .unset, .unset, .unset, .unset, .unset, .unset, .unset, .unset, .unset, .unset, .unset, .unset, .unset, .unset, .unset, .unset, .unset, .unset] [(.int p0)])
    refine GoW.st (fun _ kont => XT.bipushV X0.here hx rfl (8 : Int32) (hb hby at_38) (by decide) kont) ?_
    show GoW Z EL0 p e s below _ _ _ s₁ (mkF m 40 #[.val (.int p0), .val (.int p1), .val (.int p2), .val (.int p3), .val (.int q4), .val (.int z1), .val (.int q6), .unset, .unset, .unset, .unset, .unset, .unset, .unset, .unset, .unset, .unset, .unset, .unset, .unset, .unset, .unset, .unset, .unset, .unset, .unset, .unset, .unset, .unset, .unset] [(.int (8 : Int32)), (.int p0)])
    refine GoW.st (fun _ kont => XS.iushr X0.here hx rfl (hb hby at_40) rfl kont) ?_
    show GoW Z EL0 p e s below _ _ _ s₁ (mkF m 41 #[.val (.int p0), .val (.int p1), .val (.int p2), .val (.int p3), .val (.int q4), .val (.int z1), .val (.int q6), .unset, .unset, .unset, .unset, .unset, .unset, .unset, .unset, .unset, .unset, .unset, .unset, .unset, .unset, .unset, .unset, .unset, .unset, .unset, .unset, .unset, .unset, .unset] [(.int ((p0.toUInt32 >>> ((8 : Int32) &&& 31).toUInt32).toInt32))])
    refine GoW.st (fun _ kont => XT.sipushV X0.here hx rfl (255 : Int32) (hb hby at_41) (by decide) kont) ?_
    show GoW Z EL0 p e s below _ _ _ s₁ (mkF m 44 #[.val (.int p0), .val (.int p1), .val (.int p2), .val (.int p3), .val (.int q4), .val (.int z1), .val (.int q6), .unset, .unset, .unset, .unset, .unset, .unset, .unset, .unset, .unset, .unset, .unset, .unset, .unset, .unset, .unset, .unset, .unset, .unset, .unset, .unset, .unset, .unset, .unset] [(.int (255 : Int32)), (.int ((p0.toUInt32 >>> ((8 : Int32) &&& 31).toUInt32).toInt32))])
    refine GoW.st (fun _ kont => XS.iand X0.here hx rfl (hb hby at_44) rfl kont) ?_
    show GoW Z EL0 p e s below _ _ _ s₁ (mkF m 45 #[.val (.int p0), .val (.int p1), .val (.int p2), .val (.int p3), .val (.int q4), .val (.int z1), .val (.int q6), .unset, .unset, .unset, .unset, .unset, .unset, .unset, .unset, .unset, .unset, .unset, .unset, .unset, .unset, .unset, .unset, .unset, .unset, .unset, .unset, .unset, .unset, .unset] [(.int (((p0.toUInt32 >>> ((8 : Int32) &&& 31).toUInt32).toInt32) &&& (255 : Int32)))])
    refine GoW.st (fun _ kont => XS.i2c X0.here hx rfl (hb hby at_45) rfl kont) ?_
    show GoW Z EL0 p e s below _ _ _ s₁ (mkF m 46 #[.val (.int p0), .val (.int p1), .val (.int p2), .val (.int p3), .val (.int q4), .val (.int z1), .val (.int q6), .unset, .unset, .unset, .unset, .unset, .unset, .unset, .unset, .unset, .unset, .unset, .unset, .unset, .unset, .unset, .unset, .unset, .unset, .unset, .unset, .unset, .unset, .unset] [(.int ((((p0.toUInt32 >>> ((8 : Int32) &&& 31).toUInt32).toInt32) &&& (255 : Int32)).toUInt32.toUInt16.toUInt32.toInt32))])
    refine GoW.st (fun _ kont => XS.istore X0.here hx rfl (hb hby at_46) rfl (l' := #[.val (.int p0), .val (.int p1), .val (.int p2), .val (.int p3), .val (.int q4), .val (.int z1), .val (.int q6), .val (.int ((((p0.toUInt32 >>> ((8 : Int32) &&& 31).toUInt32).toInt32) &&& (255 : Int32)).toUInt32.toUInt16.toUInt32.toInt32)), .unset, .unset, .unset, .unset, .unset, .unset, .unset, .unset, .unset, .unset, .unset, .unset, .unset, .unset, .unset, .unset, .unset, .unset, .unset, .unset, .unset, .unset]) rfl kont) ?_
    show GoW Z EL0 p e s below _ _ _ s₁ (mkF m 48 #[.val (.int p0), .val (.int p1), .val (.int p2), .val (.int p3), .val (.int q4), .val (.int z1), .val (.int q6), .val (.int ((((p0.toUInt32 >>> ((8 : Int32) &&& 31).toUInt32).toInt32) &&& (255 : Int32)).toUInt32.toUInt16.toUInt32.toInt32)), .unset, .unset, .unset, .unset, .unset, .unset, .unset, .unset, .unset, .unset, .unset, .unset, .unset, .unset, .unset, .unset, .unset, .unset, .unset, .unset, .unset, .unset] [])
    have pq7 : Lat ((((p0.toUInt32 >>> ((8 : Int32) &&& 31).toUInt32).toInt32) &&& (255 : Int32)).toUInt32.toUInt16.toUInt32.toInt32) := own_lat _
    obtain ⟨q7, hq7⟩ : ∃ z : Int32, z = ((((p0.toUInt32 >>> ((8 : Int32) &&& 31).toUInt32).toInt32) &&& (255 : Int32)).toUInt32.toUInt16.toUInt32.toInt32) := ⟨_, rfl⟩
    rw [← hq7] at pq7 ⊢
    show GoW Z EL0 p e s below _ _ _ s₁ (mkF m 48 #[.val (.int p0), .val (.int p1), .val (.int p2), .val (.int p3), .val (.int q4), .val (.int z1), .val (.int q6), .val (.int q7), .unset, .unset, .unset, .unset, .unset, .unset, .unset, .unset, .unset, .unset, .unset, .unset, .unset, .unset, .unset, .unset, .unset, .unset, .unset, .unset, .unset, .unset] [])
    refine GoW.st (fun _ kont => XS.iloadN X0.here hx rfl (hb hby at_48) rfl kont) ?_
    show GoW Z EL0 p e s below _ _ _ s₁ (mkF m 49 #[.val (.int p0), .val (.int p1), .val (.int p2), .val (.int p3), .val (.int q4), .val (.int z1), .val (.int q6), .val (.int q7), .unset, .unset, .unset, .unset, .unset, .unset, .unset, .unset, .unset, .unset, .unset, .unset, .unset, .unset, .unset, .unset, .unset, .unset, .unset, .unset, .unset, .unset] [(.int p3)])
    refine GoW.st (fun _ kont => XT.iconstV X0.here hx rfl (5 : Int32) (hb hby at_49) (by decide) kont) ?_
    show GoW Z EL0 p e s below _ _ _ s₁ (mkF m 50 #[.val (.int p0), .val (.int p1), .val (.int p2), .val (.int p3), .val (.int q4), .val (.int z1), .val (.int q6), .val (.int q7), .unset, .unset, .unset, .unset, .unset, .unset, .unset, .unset, .unset, .unset, .unset, .unset, .unset, .unset, .unset, .unset, .unset, .unset, .unset, .unset, .unset, .unset] [(.int (5 : Int32)), (.int p3)])
    refine GoW.st (fun _ kont => XS.iushr X0.here hx rfl (hb hby at_50) rfl kont) ?_
    show GoW Z EL0 p e s below _ _ _ s₁ (mkF m 51 #[.val (.int p0), .val (.int p1), .val (.int p2), .val (.int p3), .val (.int q4), .val (.int z1), .val (.int q6), .val (.int q7), .unset, .unset, .unset, .unset, .unset, .unset, .unset, .unset, .unset, .unset, .unset, .unset, .unset, .unset, .unset, .unset, .unset, .unset, .unset, .unset, .unset, .unset] [(.int ((p3.toUInt32 >>> ((5 : Int32) &&& 31).toUInt32).toInt32))])
    refine GoW.st (fun _ kont => XT.iconstV X0.here hx rfl (1 : Int32) (hb hby at_51) (by decide) kont) ?_
    show GoW Z EL0 p e s below _ _ _ s₁ (mkF m 52 #[.val (.int p0), .val (.int p1), .val (.int p2), .val (.int p3), .val (.int q4), .val (.int z1), .val (.int q6), .val (.int q7), .unset, .unset, .unset, .unset, .unset, .unset, .unset, .unset, .unset, .unset, .unset, .unset, .unset, .unset, .unset, .unset, .unset, .unset, .unset, .unset, .unset, .unset] [(.int (1 : Int32)), (.int ((p3.toUInt32 >>> ((5 : Int32) &&& 31).toUInt32).toInt32))])
    refine GoW.st (fun _ kont => XS.iand X0.here hx rfl (hb hby at_52) rfl kont) ?_
    show GoW Z EL0 p e s below _ _ _ s₁ (mkF m 53 #[.val (.int p0), .val (.int p1), .val (.int p2), .val (.int p3), .val (.int q4), .val (.int z1), .val (.int q6), .val (.int q7), .unset, .unset, .unset, .unset, .unset, .unset, .unset, .unset, .unset, .unset, .unset, .unset, .unset, .unset, .unset, .unset, .unset, .unset, .unset, .unset, .unset, .unset] [(.int (((p3.toUInt32 >>> ((5 : Int32) &&& 31).toUInt32).toInt32) &&& (1 : Int32)))])
    have J2 : ∀ z2 : Int32, Lat z2 → GoW Z EL0 p e s below (fun v h L => v = some (.int 1) ∧ Fr n0 L) room_1.cells room_1.slots s₁ (mkF m 67 #[.val (.int p0), .val (.int p1), .val (.int p2), .val (.int p3), .val (.int q4), .val (.int z1), .val (.int q6), .val (.int q7), .unset, .unset, .unset, .unset, .unset, .unset, .unset, .unset, .unset, .unset, .unset, .unset, .unset, .unset, .unset, .unset, .unset, .unset, .unset, .unset, .unset, .unset] [(.int z2)]) := by
      intro z2 hj2
      show GoW Z EL0 p e s below _ _ _ s₁ (mkF m 67 #[.val (.int p0), .val (.int p1), .val (.int p2), .val (.int p3), .val (.int q4), .val (.int z1), .val (.int q6), .val (.int q7), .unset, .unset, .unset, .unset, .unset, .unset, .unset, .unset, .unset, .unset, .unset, .unset, .unset, .unset, .unset, .unset, .unset, .unset, .unset, .unset, .unset, .unset] [(.int z2)])
      refine GoW.st (fun _ kont => XS.istore X0.here hx rfl (hb hby at_67) rfl (l' := #[.val (.int p0), .val (.int p1), .val (.int p2), .val (.int p3), .val (.int q4), .val (.int z1), .val (.int q6), .val (.int q7), .val (.int z2), .unset, .unset, .unset, .unset, .unset, .unset, .unset, .unset, .unset, .unset, .unset, .unset, .unset, .unset, .unset, .unset, .unset, .unset, .unset, .unset, .unset]) rfl kont) ?_
      show GoW Z EL0 p e s below _ _ _ s₁ (mkF m 69 #[.val (.int p0), .val (.int p1), .val (.int p2), .val (.int p3), .val (.int q4), .val (.int z1), .val (.int q6), .val (.int q7), .val (.int z2), .unset, .unset, .unset, .unset, .unset, .unset, .unset, .unset, .unset, .unset, .unset, .unset, .unset, .unset, .unset, .unset, .unset, .unset, .unset, .unset, .unset] [])
      refine GoW.st (fun _ kont => XS.iloadN X0.here hx rfl (hb hby at_69) rfl kont) ?_
      show GoW Z EL0 p e s below _ _ _ s₁ (mkF m 70 #[.val (.int p0), .val (.int p1), .val (.int p2), .val (.int p3), .val (.int q4), .val (.int z1), .val (.int q6), .val (.int q7), .val (.int z2), .unset, .unset, .unset, .unset, .unset, .unset, .unset, .unset, .unset, .unset, .unset, .unset, .unset, .unset, .unset, .unset, .unset, .unset, .unset, .unset, .unset] [(.int p3)])
      refine GoW.st (fun _ kont => XT.bipushV X0.here hx rfl (6 : Int32) (hb hby at_70) (by decide) kont) ?_
      show GoW Z EL0 p e s below _ _ _ s₁ (mkF m 72 #[.val (.int p0), .val (.int p1), .val (.int p2), .val (.int p3), .val (.int q4), .val (.int z1), .val (.int q6), .val (.int q7), .val (.int z2), .unset, .unset, .unset, .unset, .unset, .unset, .unset, .unset, .unset, .unset, .unset, .unset, .unset, .unset, .unset, .unset, .unset, .unset, .unset, .unset, .unset] [(.int (6 : Int32)), (.int p3)])
      refine GoW.st (fun _ kont => XS.iushr X0.here hx rfl (hb hby at_72) rfl kont) ?_
      show GoW Z EL0 p e s below _ _ _ s₁ (mkF m 73 #[.val (.int p0), .val (.int p1), .val (.int p2), .val (.int p3), .val (.int q4), .val (.int z1), .val (.int q6), .val (.int q7), .val (.int z2), .unset, .unset, .unset, .unset, .unset, .unset, .unset, .unset, .unset, .unset, .unset, .unset, .unset, .unset, .unset, .unset, .unset, .unset, .unset, .unset, .unset] [(.int ((p3.toUInt32 >>> ((6 : Int32) &&& 31).toUInt32).toInt32))])
      refine GoW.st (fun _ kont => XT.iconstV X0.here hx rfl (1 : Int32) (hb hby at_73) (by decide) kont) ?_
      show GoW Z EL0 p e s below _ _ _ s₁ (mkF m 74 #[.val (.int p0), .val (.int p1), .val (.int p2), .val (.int p3), .val (.int q4), .val (.int z1), .val (.int q6), .val (.int q7), .val (.int z2), .unset, .unset, .unset, .unset, .unset, .unset, .unset, .unset, .unset, .unset, .unset, .unset, .unset, .unset, .unset, .unset, .unset, .unset, .unset, .unset, .unset] [(.int (1 : Int32)), (.int ((p3.toUInt32 >>> ((6 : Int32) &&& 31).toUInt32).toInt32))])
      refine GoW.st (fun _ kont => XS.iand X0.here hx rfl (hb hby at_74) rfl kont) ?_
      show GoW Z EL0 p e s below _ _ _ s₁ (mkF m 75 #[.val (.int p0), .val (.int p1), .val (.int p2), .val (.int p3), .val (.int q4), .val (.int z1), .val (.int q6), .val (.int q7), .val (.int z2), .unset, .unset, .unset, .unset, .unset, .unset, .unset, .unset, .unset, .unset, .unset, .unset, .unset, .unset, .unset, .unset, .unset, .unset, .unset, .unset, .unset] [(.int (((p3.toUInt32 >>> ((6 : Int32) &&& 31).toUInt32).toInt32) &&& (1 : Int32)))])
      have J3 : ∀ z3 : Int32, Lat z3 → GoW Z EL0 p e s below (fun v h L => v = some (.int 1) ∧ Fr n0 L) room_1.cells room_1.slots s₁ (mkF m 92 #[.val (.int p0), .val (.int p1), .val (.int p2), .val (.int p3), .val (.int q4), .val (.int z1), .val (.int q6), .val (.int q7), .val (.int z2), .unset, .unset, .unset, .unset, .unset, .unset, .unset, .unset, .unset, .unset, .unset, .unset, .unset, .unset, .unset, .unset, .unset, .unset, .unset, .unset, .unset] [(.int z3)]) := by
        intro z3 hj3
        show GoW Z EL0 p e s below _ _ _ s₁ (mkF m 92 #[.val (.int p0), .val (.int p1), .val (.int p2), .val (.int p3), .val (.int q4), .val (.int z1), .val (.int q6), .val (.int q7), .val (.int z2), .unset, .unset, .unset, .unset, .unset, .unset, .unset, .unset, .unset, .unset, .unset, .unset, .unset, .unset, .unset, .unset, .unset, .unset, .unset, .unset, .unset] [(.int z3)])
        refine GoW.st (fun _ kont => XS.istore X0.here hx rfl (hb hby at_92) rfl (l' := #[.val (.int p0), .val (.int p1), .val (.int p2), .val (.int p3), .val (.int q4), .val (.int z1), .val (.int q6), .val (.int q7), .val (.int z2), .val (.int z3), .unset, .unset, .unset, .unset, .unset, .unset, .unset, .unset, .unset, .unset, .unset, .unset, .unset, .unset, .unset, .unset, .unset, .unset, .unset, .unset]) rfl kont) ?_
        show GoW Z EL0 p e s below _ _ _ s₁ (mkF m 94 #[.val (.int p0), .val (.int p1), .val (.int p2), .val (.int p3), .val (.int q4), .val (.int z1), .val (.int q6), .val (.int q7), .val (.int z2), .val (.int z3), .unset, .unset, .unset, .unset, .unset, .unset, .unset, .unset, .unset, .unset, .unset, .unset, .unset, .unset, .unset, .unset, .unset, .unset, .unset, .unset] [])
        refine GoW.st (fun _ kont => XS.iload X0.here hx rfl (hb hby at_94) rfl kont) ?_
        show GoW Z EL0 p e s below _ _ _ s₁ (mkF m 96 #[.val (.int p0), .val (.int p1), .val (.int p2), .val (.int p3), .val (.int q4), .val (.int z1), .val (.int q6), .val (.int q7), .val (.int z2), .val (.int z3), .unset, .unset, .unset, .unset, .unset, .unset, .unset, .unset, .unset, .unset, .unset, .unset, .unset, .unset, .unset, .unset, .unset, .unset, .unset, .unset] [(.int q4)])
        refine GoW.st (fun _ kont => XS.iload X0.here hx rfl (hb hby at_96) rfl kont) ?_
        show GoW Z EL0 p e s below _ _ _ s₁ (mkF m 98 #[.val (.int p0), .val (.int p1), .val (.int p2), .val (.int p3), .val (.int q4), .val (.int z1), .val (.int q6), .val (.int q7), .val (.int z2), .val (.int z3), .unset, .unset, .unset, .unset, .unset, .unset, .unset, .unset, .unset, .unset, .unset, .unset, .unset, .unset, .unset, .unset, .unset, .unset, .unset, .unset] [(.int q6), (.int q4)])
        refine GoW.st (fun _ kont => XS.iload X0.here hx rfl (hb hby at_98) rfl kont) ?_
        show GoW Z EL0 p e s below _ _ _ s₁ (mkF m 100 #[.val (.int p0), .val (.int p1), .val (.int p2), .val (.int p3), .val (.int q4), .val (.int z1), .val (.int q6), .val (.int q7), .val (.int z2), .val (.int z3), .unset, .unset, .unset, .unset, .unset, .unset, .unset, .unset, .unset, .unset, .unset, .unset, .unset, .unset, .unset, .unset, .unset, .unset, .unset, .unset] [(.int q7), (.int q6), (.int q4)])
        refine GoW.callS (W := 0) (argsL := [(.int q4), (.int q6), (.int q7)]) (rest := []) X0 hx hZ hown (y := (⟨"com/example/covenant/covenant/ElementaryConditionEqualsPinLaw", "make", "(ICC)[C"⟩ : MethodName)) (hw _ (List.mem_of_getElem? (i := 0) rfl)) (hw _ (List.mem_of_getElem? (i := 1) rfl)) (hw _ (List.mem_of_getElem? (i := 2) rfl)) (hw _ (List.mem_of_getElem? (i := 3) rfl)) (rmm l Z a0 hw [] q4 q6 q7 pq4 h0 n0 (Nat.le_trans Z0 Q0.1)) e0 (by decide) (by decide) (by decide) (by decide) (by decide) (by rw [hml]; rfl) (lenOf pd__ICC__C rfl) (Nat.le_of_eq rfl) (hb hby at_100) ?_
        intro T4 v4 L4 X4 hQ4
        obtain ⟨h4, e4⟩ : ∃ z, T4.heap = z := ⟨_, rfl⟩
        rw [e4] at hQ4
        obtain ⟨x4, k4, vs4, rfl, N4, E4, g4, C4, V4⟩ := hQ4
        have M4 := Fr.app N0 N4
        have sz4 : h0.size ≤ x4 := Nat.le_trans Q0.1 g4
        have CR_4 := CR0.trans (CHr.ext E4 CR0.1)
        have Sz_4 := Nat.le_trans Sz0 E4.1
        have Q_4 : Ext h0 h4 := own_extE Q0 E4
        show GoW Z EL0 p e s below _ _ _ T4 (mkF m 103 #[.val (.int p0), .val (.int p1), .val (.int p2), .val (.int p3), .val (.int q4), .val (.int z1), .val (.int q6), .val (.int q7), .val (.int z2), .val (.int z3), .unset, .unset, .unset, .unset, .unset, .unset, .unset, .unset, .unset, .unset, .unset, .unset, .unset, .unset, .unset, .unset, .unset, .unset, .unset, .unset] [(.ref x4)])
        refine GoW.st (fun _ kont => XS.astore X4.here hx rfl (hb hby at_103) rfl rfl (l' := #[.val (.int p0), .val (.int p1), .val (.int p2), .val (.int p3), .val (.int q4), .val (.int z1), .val (.int q6), .val (.int q7), .val (.int z2), .val (.int z3), .val (.ref x4), .unset, .unset, .unset, .unset, .unset, .unset, .unset, .unset, .unset, .unset, .unset, .unset, .unset, .unset, .unset, .unset, .unset, .unset, .unset]) rfl kont) ?_
        show GoW Z EL0 p e s below _ _ _ T4 (mkF m 105 #[.val (.int p0), .val (.int p1), .val (.int p2), .val (.int p3), .val (.int q4), .val (.int z1), .val (.int q6), .val (.int q7), .val (.int z2), .val (.int z3), .val (.ref x4), .unset, .unset, .unset, .unset, .unset, .unset, .unset, .unset, .unset, .unset, .unset, .unset, .unset, .unset, .unset, .unset, .unset, .unset, .unset] [])
        refine GoW.st (fun _ kont => XS.iload X4.here hx rfl (hb hby at_105) rfl kont) ?_
        show GoW Z EL0 p e s below _ _ _ T4 (mkF m 107 #[.val (.int p0), .val (.int p1), .val (.int p2), .val (.int p3), .val (.int q4), .val (.int z1), .val (.int q6), .val (.int q7), .val (.int z2), .val (.int z3), .val (.ref x4), .unset, .unset, .unset, .unset, .unset, .unset, .unset, .unset, .unset, .unset, .unset, .unset, .unset, .unset, .unset, .unset, .unset, .unset, .unset] [(.int z1)])
        refine GoW.st (fun _ kont => XS.iload X4.here hx rfl (hb hby at_107) rfl kont) ?_
        show GoW Z EL0 p e s below _ _ _ T4 (mkF m 109 #[.val (.int p0), .val (.int p1), .val (.int p2), .val (.int p3), .val (.int q4), .val (.int z1), .val (.int q6), .val (.int q7), .val (.int z2), .val (.int z3), .val (.ref x4), .unset, .unset, .unset, .unset, .unset, .unset, .unset, .unset, .unset, .unset, .unset, .unset, .unset, .unset, .unset, .unset, .unset, .unset, .unset] [(.int z2), (.int z1)])
        refine GoW.st (fun _ kont => XS.iload X4.here hx rfl (hb hby at_109) rfl kont) ?_
        show GoW Z EL0 p e s below _ _ _ T4 (mkF m 111 #[.val (.int p0), .val (.int p1), .val (.int p2), .val (.int p3), .val (.int q4), .val (.int z1), .val (.int q6), .val (.int q7), .val (.int z2), .val (.int z3), .val (.ref x4), .unset, .unset, .unset, .unset, .unset, .unset, .unset, .unset, .unset, .unset, .unset, .unset, .unset, .unset, .unset, .unset, .unset, .unset, .unset] [(.int z3), (.int z2), (.int z1)])
        refine GoW.callS (W := 0) (argsL := [(.int z1), (.int z2), (.int z3)]) (rest := []) X4 hx hZ hown (y := (⟨"com/example/covenant/covenant/ElementaryConditionEqualsPinLaw", "make", "(ICC)[C"⟩ : MethodName)) (hw _ (List.mem_of_getElem? (i := 0) rfl)) (hw _ (List.mem_of_getElem? (i := 1) rfl)) (hw _ (List.mem_of_getElem? (i := 2) rfl)) (hw _ (List.mem_of_getElem? (i := 3) rfl)) (rmm l Z a0 hw [] z1 z2 z3 hj1 h4 n0 (Nat.le_trans Z0 Q_4.1)) e4 (by decide) (by decide) (by decide) (by decide) (by decide) (by rw [hml]; rfl) (lenOf pd__ICC__C rfl) (Nat.le_of_eq rfl) (hb hby at_111) ?_
        intro T5 v5 L5 X5 hQ5
        obtain ⟨h5, e5⟩ : ∃ z, T5.heap = z := ⟨_, rfl⟩
        rw [e5] at hQ5
        obtain ⟨x5, k5, vs5, rfl, N5, E5, g5, C5, V5⟩ := hQ5
        have M5 := Fr.app M4 N5
        have sz5 : h0.size ≤ x5 := Nat.le_trans Q_4.1 g5
        have CR_5 := CR_4.trans (CHr.ext E5 CR_4.1)
        have Sz_5 := Nat.le_trans Sz_4 E5.1
        have Q_5 : Ext h0 h5 := own_extE Q_4 E5
        have V_x4_5 := V4.ext E5
        show GoW Z EL0 p e s below _ _ _ T5 (mkF m 114 #[.val (.int p0), .val (.int p1), .val (.int p2), .val (.int p3), .val (.int q4), .val (.int z1), .val (.int q6), .val (.int q7), .val (.int z2), .val (.int z3), .val (.ref x4), .unset, .unset, .unset, .unset, .unset, .unset, .unset, .unset, .unset, .unset, .unset, .unset, .unset, .unset, .unset, .unset, .unset, .unset, .unset] [(.ref x5)])
        refine GoW.st (fun _ kont => XS.astore X5.here hx rfl (hb hby at_114) rfl rfl (l' := #[.val (.int p0), .val (.int p1), .val (.int p2), .val (.int p3), .val (.int q4), .val (.int z1), .val (.int q6), .val (.int q7), .val (.int z2), .val (.int z3), .val (.ref x4), .val (.ref x5), .unset, .unset, .unset, .unset, .unset, .unset, .unset, .unset, .unset, .unset, .unset, .unset, .unset, .unset, .unset, .unset, .unset, .unset]) rfl kont) ?_
        show GoW Z EL0 p e s below _ _ _ T5 (mkF m 116 #[.val (.int p0), .val (.int p1), .val (.int p2), .val (.int p3), .val (.int q4), .val (.int z1), .val (.int q6), .val (.int q7), .val (.int z2), .val (.int z3), .val (.ref x4), .val (.ref x5), .unset, .unset, .unset, .unset, .unset, .unset, .unset, .unset, .unset, .unset, .unset, .unset, .unset, .unset, .unset, .unset, .unset, .unset] [])
        refine GoW.st (fun _ kont => XS.iloadN X5.here hx rfl (hb hby at_116) rfl kont) ?_
        show GoW Z EL0 p e s below _ _ _ T5 (mkF m 117 #[.val (.int p0), .val (.int p1), .val (.int p2), .val (.int p3), .val (.int q4), .val (.int z1), .val (.int q6), .val (.int q7), .val (.int z2), .val (.int z3), .val (.ref x4), .val (.ref x5), .unset, .unset, .unset, .unset, .unset, .unset, .unset, .unset, .unset, .unset, .unset, .unset, .unset, .unset, .unset, .unset, .unset, .unset] [(.int p2)])
        refine GoW.st (fun _ kont => XT.iconstV X5.here hx rfl (3 : Int32) (hb hby at_117) (by decide) kont) ?_
        show GoW Z EL0 p e s below _ _ _ T5 (mkF m 118 #[.val (.int p0), .val (.int p1), .val (.int p2), .val (.int p3), .val (.int q4), .val (.int z1), .val (.int q6), .val (.int q7), .val (.int z2), .val (.int z3), .val (.ref x4), .val (.ref x5), .unset, .unset, .unset, .unset, .unset, .unset, .unset, .unset, .unset, .unset, .unset, .unset, .unset, .unset, .unset, .unset, .unset, .unset] [(.int (3 : Int32)), (.int p2)])
        refine GoW.st (fun _ kont => XS.iand X5.here hx rfl (hb hby at_118) rfl kont) ?_
        show GoW Z EL0 p e s below _ _ _ T5 (mkF m 119 #[.val (.int p0), .val (.int p1), .val (.int p2), .val (.int p3), .val (.int q4), .val (.int z1), .val (.int q6), .val (.int q7), .val (.int z2), .val (.int z3), .val (.ref x4), .val (.ref x5), .unset, .unset, .unset, .unset, .unset, .unset, .unset, .unset, .unset, .unset, .unset, .unset, .unset, .unset, .unset, .unset, .unset, .unset] [(.int (p2 &&& (3 : Int32)))])
        refine GoW.st (fun _ kont => XT.iconstV X5.here hx rfl (3 : Int32) (hb hby at_119) (by decide) kont) ?_
        show GoW Z EL0 p e s below _ _ _ T5 (mkF m 120 #[.val (.int p0), .val (.int p1), .val (.int p2), .val (.int p3), .val (.int q4), .val (.int z1), .val (.int q6), .val (.int q7), .val (.int z2), .val (.int z3), .val (.ref x4), .val (.ref x5), .unset, .unset, .unset, .unset, .unset, .unset, .unset, .unset, .unset, .unset, .unset, .unset, .unset, .unset, .unset, .unset, .unset, .unset] [(.int (3 : Int32)), (.int (p2 &&& (3 : Int32)))])
        refine GoW.st (fun _ kont => iremM X5 hx rfl (hb hby at_120) rfl (by decide) kont) ?_
        show GoW Z EL0 p e s below _ _ _ T5 (mkF m 121 #[.val (.int p0), .val (.int p1), .val (.int p2), .val (.int p3), .val (.int q4), .val (.int z1), .val (.int q6), .val (.int q7), .val (.int z2), .val (.int z3), .val (.ref x4), .val (.ref x5), .unset, .unset, .unset, .unset, .unset, .unset, .unset, .unset, .unset, .unset, .unset, .unset, .unset, .unset, .unset, .unset, .unset, .unset] [(.int ((p2 &&& (3 : Int32)) % (3 : Int32)))])
        refine GoW.st (fun _ kont => XS.istore X5.here hx rfl (hb hby at_121) rfl (l' := #[.val (.int p0), .val (.int p1), .val (.int p2), .val (.int p3), .val (.int q4), .val (.int z1), .val (.int q6), .val (.int q7), .val (.int z2), .val (.int z3), .val (.ref x4), .val (.ref x5), .val (.int ((p2 &&& (3 : Int32)) % (3 : Int32))), .unset, .unset, .unset, .unset, .unset, .unset, .unset, .unset, .unset, .unset, .unset, .unset, .unset, .unset, .unset, .unset, .unset]) rfl kont) ?_
        show GoW Z EL0 p e s below _ _ _ T5 (mkF m 123 #[.val (.int p0), .val (.int p1), .val (.int p2), .val (.int p3), .val (.int q4), .val (.int z1), .val (.int q6), .val (.int q7), .val (.int z2), .val (.int z3), .val (.ref x4), .val (.ref x5), .val (.int ((p2 &&& (3 : Int32)) % (3 : Int32))), .unset, .unset, .unset, .unset, .unset, .unset, .unset, .unset, .unset, .unset, .unset, .unset, .unset, .unset, .unset, .unset, .unset] [])
        have pq12 : ((p2 &&& (3 : Int32)) % (3 : Int32)) = 0 ∨ ((p2 &&& (3 : Int32)) % (3 : Int32)) = 1 ∨ ((p2 &&& (3 : Int32)) % (3 : Int32)) = 2 := own_m3 _
        obtain ⟨q12, hq12⟩ : ∃ z : Int32, z = ((p2 &&& (3 : Int32)) % (3 : Int32)) := ⟨_, rfl⟩
        rw [← hq12] at pq12 ⊢
        show GoW Z EL0 p e s below _ _ _ T5 (mkF m 123 #[.val (.int p0), .val (.int p1), .val (.int p2), .val (.int p3), .val (.int q4), .val (.int z1), .val (.int q6), .val (.int q7), .val (.int z2), .val (.int z3), .val (.ref x4), .val (.ref x5), .val (.int q12), .unset, .unset, .unset, .unset, .unset, .unset, .unset, .unset, .unset, .unset, .unset, .unset, .unset, .unset, .unset, .unset, .unset] [])
        refine GoW.st (fun _ kont => XS.iloadN X5.here hx rfl (hb hby at_123) rfl kont) ?_
        show GoW Z EL0 p e s below _ _ _ T5 (mkF m 124 #[.val (.int p0), .val (.int p1), .val (.int p2), .val (.int p3), .val (.int q4), .val (.int z1), .val (.int q6), .val (.int q7), .val (.int z2), .val (.int z3), .val (.ref x4), .val (.ref x5), .val (.int q12), .unset, .unset, .unset, .unset, .unset, .unset, .unset, .unset, .unset, .unset, .unset, .unset, .unset, .unset, .unset, .unset, .unset] [(.int p3)])
        refine GoW.st (fun _ kont => XT.bipushV X5.here hx rfl (7 : Int32) (hb hby at_124) (by decide) kont) ?_
        show GoW Z EL0 p e s below _ _ _ T5 (mkF m 126 #[.val (.int p0), .val (.int p1), .val (.int p2), .val (.int p3), .val (.int q4), .val (.int z1), .val (.int q6), .val (.int q7), .val (.int z2), .val (.int z3), .val (.ref x4), .val (.ref x5), .val (.int q12), .unset, .unset, .unset, .unset, .unset, .unset, .unset, .unset, .unset, .unset, .unset, .unset, .unset, .unset, .unset, .unset, .unset] [(.int (7 : Int32)), (.int p3)])
        refine GoW.st (fun _ kont => XS.iushr X5.here hx rfl (hb hby at_126) rfl kont) ?_
        show GoW Z EL0 p e s below _ _ _ T5 (mkF m 127 #[.val (.int p0), .val (.int p1), .val (.int p2), .val (.int p3), .val (.int q4), .val (.int z1), .val (.int q6), .val (.int q7), .val (.int z2), .val (.int z3), .val (.ref x4), .val (.ref x5), .val (.int q12), .unset, .unset, .unset, .unset, .unset, .unset, .unset, .unset, .unset, .unset, .unset, .unset, .unset, .unset, .unset, .unset, .unset] [(.int ((p3.toUInt32 >>> ((7 : Int32) &&& 31).toUInt32).toInt32))])
        refine GoW.st (fun _ kont => XT.iconstV X5.here hx rfl (1 : Int32) (hb hby at_127) (by decide) kont) ?_
        show GoW Z EL0 p e s below _ _ _ T5 (mkF m 128 #[.val (.int p0), .val (.int p1), .val (.int p2), .val (.int p3), .val (.int q4), .val (.int z1), .val (.int q6), .val (.int q7), .val (.int z2), .val (.int z3), .val (.ref x4), .val (.ref x5), .val (.int q12), .unset, .unset, .unset, .unset, .unset, .unset, .unset, .unset, .unset, .unset, .unset, .unset, .unset, .unset, .unset, .unset, .unset] [(.int (1 : Int32)), (.int ((p3.toUInt32 >>> ((7 : Int32) &&& 31).toUInt32).toInt32))])
        refine GoW.st (fun _ kont => XS.iand X5.here hx rfl (hb hby at_128) rfl kont) ?_
        show GoW Z EL0 p e s below _ _ _ T5 (mkF m 129 #[.val (.int p0), .val (.int p1), .val (.int p2), .val (.int p3), .val (.int q4), .val (.int z1), .val (.int q6), .val (.int q7), .val (.int z2), .val (.int z3), .val (.ref x4), .val (.ref x5), .val (.int q12), .unset, .unset, .unset, .unset, .unset, .unset, .unset, .unset, .unset, .unset, .unset, .unset, .unset, .unset, .unset, .unset, .unset] [(.int (((p3.toUInt32 >>> ((7 : Int32) &&& 31).toUInt32).toInt32) &&& (1 : Int32)))])
        have J6 : ∀ z6 : Int32, (z6 = 0 ∨ z6 = 1 ∨ z6 = 2) → GoW Z EL0 p e s below (fun v h L => v = some (.int 1) ∧ Fr n0 L) room_1.cells room_1.slots T5 (mkF m 144 #[.val (.int p0), .val (.int p1), .val (.int p2), .val (.int p3), .val (.int q4), .val (.int z1), .val (.int q6), .val (.int q7), .val (.int z2), .val (.int z3), .val (.ref x4), .val (.ref x5), .val (.int q12), .unset, .unset, .unset, .unset, .unset, .unset, .unset, .unset, .unset, .unset, .unset, .unset, .unset, .unset, .unset, .unset, .unset] [(.int z6)]) := by
          intro z6 hj6
          show GoW Z EL0 p e s below _ _ _ T5 (mkF m 144 #[.val (.int p0), .val (.int p1), .val (.int p2), .val (.int p3), .val (.int q4), .val (.int z1), .val (.int q6), .val (.int q7), .val (.int z2), .val (.int z3), .val (.ref x4), .val (.ref x5), .val (.int q12), .unset, .unset, .unset, .unset, .unset, .unset, .unset, .unset, .unset, .unset, .unset, .unset, .unset, .unset, .unset, .unset, .unset] [(.int z6)])
          refine GoW.st (fun _ kont => XS.istore X5.here hx rfl (hb hby at_144) rfl (l' := #[.val (.int p0), .val (.int p1), .val (.int p2), .val (.int p3), .val (.int q4), .val (.int z1), .val (.int q6), .val (.int q7), .val (.int z2), .val (.int z3), .val (.ref x4), .val (.ref x5), .val (.int q12), .val (.int z6), .unset, .unset, .unset, .unset, .unset, .unset, .unset, .unset, .unset, .unset, .unset, .unset, .unset, .unset, .unset, .unset]) rfl kont) ?_
          show GoW Z EL0 p e s below _ _ _ T5 (mkF m 146 #[.val (.int p0), .val (.int p1), .val (.int p2), .val (.int p3), .val (.int q4), .val (.int z1), .val (.int q6), .val (.int q7), .val (.int z2), .val (.int z3), .val (.ref x4), .val (.ref x5), .val (.int q12), .val (.int z6), .unset, .unset, .unset, .unset, .unset, .unset, .unset, .unset, .unset, .unset, .unset, .unset, .unset, .unset, .unset, .unset] [])
          refine GoW.st (fun _ kont => XS.iloadN X5.here hx rfl (hb hby at_146) rfl kont) ?_
          show GoW Z EL0 p e s below _ _ _ T5 (mkF m 147 #[.val (.int p0), .val (.int p1), .val (.int p2), .val (.int p3), .val (.int q4), .val (.int z1), .val (.int q6), .val (.int q7), .val (.int z2), .val (.int z3), .val (.ref x4), .val (.ref x5), .val (.int q12), .val (.int z6), .unset, .unset, .unset, .unset, .unset, .unset, .unset, .unset, .unset, .unset, .unset, .unset, .unset, .unset, .unset, .unset] [(.int p2)])
          refine GoW.st (fun _ kont => XT.bipushV X5.here hx rfl (8 : Int32) (hb hby at_147) (by decide) kont) ?_
          show GoW Z EL0 p e s below _ _ _ T5 (mkF m 149 #[.val (.int p0), .val (.int p1), .val (.int p2), .val (.int p3), .val (.int q4), .val (.int z1), .val (.int q6), .val (.int q7), .val (.int z2), .val (.int z3), .val (.ref x4), .val (.ref x5), .val (.int q12), .val (.int z6), .unset, .unset, .unset, .unset, .unset, .unset, .unset, .unset, .unset, .unset, .unset, .unset, .unset, .unset, .unset, .unset] [(.int (8 : Int32)), (.int p2)])
          refine GoW.st (fun _ kont => XS.iushr X5.here hx rfl (hb hby at_149) rfl kont) ?_
          show GoW Z EL0 p e s below _ _ _ T5 (mkF m 150 #[.val (.int p0), .val (.int p1), .val (.int p2), .val (.int p3), .val (.int q4), .val (.int z1), .val (.int q6), .val (.int q7), .val (.int z2), .val (.int z3), .val (.ref x4), .val (.ref x5), .val (.int q12), .val (.int z6), .unset, .unset, .unset, .unset, .unset, .unset, .unset, .unset, .unset, .unset, .unset, .unset, .unset, .unset, .unset, .unset] [(.int ((p2.toUInt32 >>> ((8 : Int32) &&& 31).toUInt32).toInt32))])
          refine GoW.st (fun _ kont => XT.sipushV X5.here hx rfl (255 : Int32) (hb hby at_150) (by decide) kont) ?_
          show GoW Z EL0 p e s below _ _ _ T5 (mkF m 153 #[.val (.int p0), .val (.int p1), .val (.int p2), .val (.int p3), .val (.int q4), .val (.int z1), .val (.int q6), .val (.int q7), .val (.int z2), .val (.int z3), .val (.ref x4), .val (.ref x5), .val (.int q12), .val (.int z6), .unset, .unset, .unset, .unset, .unset, .unset, .unset, .unset, .unset, .unset, .unset, .unset, .unset, .unset, .unset, .unset] [(.int (255 : Int32)), (.int ((p2.toUInt32 >>> ((8 : Int32) &&& 31).toUInt32).toInt32))])
          refine GoW.st (fun _ kont => XS.iand X5.here hx rfl (hb hby at_153) rfl kont) ?_
          show GoW Z EL0 p e s below _ _ _ T5 (mkF m 154 #[.val (.int p0), .val (.int p1), .val (.int p2), .val (.int p3), .val (.int q4), .val (.int z1), .val (.int q6), .val (.int q7), .val (.int z2), .val (.int z3), .val (.ref x4), .val (.ref x5), .val (.int q12), .val (.int z6), .unset, .unset, .unset, .unset, .unset, .unset, .unset, .unset, .unset, .unset, .unset, .unset, .unset, .unset, .unset, .unset] [(.int (((p2.toUInt32 >>> ((8 : Int32) &&& 31).toUInt32).toInt32) &&& (255 : Int32)))])
          refine GoW.st (fun _ kont => XS.i2c X5.here hx rfl (hb hby at_154) rfl kont) ?_
          show GoW Z EL0 p e s below _ _ _ T5 (mkF m 155 #[.val (.int p0), .val (.int p1), .val (.int p2), .val (.int p3), .val (.int q4), .val (.int z1), .val (.int q6), .val (.int q7), .val (.int z2), .val (.int z3), .val (.ref x4), .val (.ref x5), .val (.int q12), .val (.int z6), .unset, .unset, .unset, .unset, .unset, .unset, .unset, .unset, .unset, .unset, .unset, .unset, .unset, .unset, .unset, .unset] [(.int ((((p2.toUInt32 >>> ((8 : Int32) &&& 31).toUInt32).toInt32) &&& (255 : Int32)).toUInt32.toUInt16.toUInt32.toInt32))])
          refine GoW.st (fun _ kont => XS.istore X5.here hx rfl (hb hby at_155) rfl (l' := #[.val (.int p0), .val (.int p1), .val (.int p2), .val (.int p3), .val (.int q4), .val (.int z1), .val (.int q6), .val (.int q7), .val (.int z2), .val (.int z3), .val (.ref x4), .val (.ref x5), .val (.int q12), .val (.int z6), .val (.int ((((p2.toUInt32 >>> ((8 : Int32) &&& 31).toUInt32).toInt32) &&& (255 : Int32)).toUInt32.toUInt16.toUInt32.toInt32)), .unset, .unset, .unset, .unset, .unset, .unset, .unset, .unset, .unset, .unset, .unset, .unset, .unset, .unset, .unset]) rfl kont) ?_
          show GoW Z EL0 p e s below _ _ _ T5 (mkF m 157 #[.val (.int p0), .val (.int p1), .val (.int p2), .val (.int p3), .val (.int q4), .val (.int z1), .val (.int q6), .val (.int q7), .val (.int z2), .val (.int z3), .val (.ref x4), .val (.ref x5), .val (.int q12), .val (.int z6), .val (.int ((((p2.toUInt32 >>> ((8 : Int32) &&& 31).toUInt32).toInt32) &&& (255 : Int32)).toUInt32.toUInt16.toUInt32.toInt32)), .unset, .unset, .unset, .unset, .unset, .unset, .unset, .unset, .unset, .unset, .unset, .unset, .unset, .unset, .unset] [])
          have pq14 : Lat ((((p2.toUInt32 >>> ((8 : Int32) &&& 31).toUInt32).toInt32) &&& (255 : Int32)).toUInt32.toUInt16.toUInt32.toInt32) := own_lat _
          obtain ⟨q14, hq14⟩ : ∃ z : Int32, z = ((((p2.toUInt32 >>> ((8 : Int32) &&& 31).toUInt32).toInt32) &&& (255 : Int32)).toUInt32.toUInt16.toUInt32.toInt32) := ⟨_, rfl⟩
          rw [← hq14] at pq14 ⊢
          show GoW Z EL0 p e s below _ _ _ T5 (mkF m 157 #[.val (.int p0), .val (.int p1), .val (.int p2), .val (.int p3), .val (.int q4), .val (.int z1), .val (.int q6), .val (.int q7), .val (.int z2), .val (.int z3), .val (.ref x4), .val (.ref x5), .val (.int q12), .val (.int z6), .val (.int q14), .unset, .unset, .unset, .unset, .unset, .unset, .unset, .unset, .unset, .unset, .unset, .unset, .unset, .unset, .unset] [])
          refine GoW.st (fun _ kont => XS.iloadN X5.here hx rfl (hb hby at_157) rfl kont) ?_
          show GoW Z EL0 p e s below _ _ _ T5 (mkF m 158 #[.val (.int p0), .val (.int p1), .val (.int p2), .val (.int p3), .val (.int q4), .val (.int z1), .val (.int q6), .val (.int q7), .val (.int z2), .val (.int z3), .val (.ref x4), .val (.ref x5), .val (.int q12), .val (.int z6), .val (.int q14), .unset, .unset, .unset, .unset, .unset, .unset, .unset, .unset, .unset, .unset, .unset, .unset, .unset, .unset, .unset] [(.int p2)])
          refine GoW.st (fun _ kont => XT.bipushV X5.here hx rfl (16 : Int32) (hb hby at_158) (by decide) kont) ?_
          show GoW Z EL0 p e s below _ _ _ T5 (mkF m 160 #[.val (.int p0), .val (.int p1), .val (.int p2), .val (.int p3), .val (.int q4), .val (.int z1), .val (.int q6), .val (.int q7), .val (.int z2), .val (.int z3), .val (.ref x4), .val (.ref x5), .val (.int q12), .val (.int z6), .val (.int q14), .unset, .unset, .unset, .unset, .unset, .unset, .unset, .unset, .unset, .unset, .unset, .unset, .unset, .unset, .unset] [(.int (16 : Int32)), (.int p2)])
          refine GoW.st (fun _ kont => XS.iushr X5.here hx rfl (hb hby at_160) rfl kont) ?_
          show GoW Z EL0 p e s below _ _ _ T5 (mkF m 161 #[.val (.int p0), .val (.int p1), .val (.int p2), .val (.int p3), .val (.int q4), .val (.int z1), .val (.int q6), .val (.int q7), .val (.int z2), .val (.int z3), .val (.ref x4), .val (.ref x5), .val (.int q12), .val (.int z6), .val (.int q14), .unset, .unset, .unset, .unset, .unset, .unset, .unset, .unset, .unset, .unset, .unset, .unset, .unset, .unset, .unset] [(.int ((p2.toUInt32 >>> ((16 : Int32) &&& 31).toUInt32).toInt32))])
          refine GoW.st (fun _ kont => XT.sipushV X5.here hx rfl (255 : Int32) (hb hby at_161) (by decide) kont) ?_
          show GoW Z EL0 p e s below _ _ _ T5 (mkF m 164 #[.val (.int p0), .val (.int p1), .val (.int p2), .val (.int p3), .val (.int q4), .val (.int z1), .val (.int q6), .val (.int q7), .val (.int z2), .val (.int z3), .val (.ref x4), .val (.ref x5), .val (.int q12), .val (.int z6), .val (.int q14), .unset, .unset, .unset, .unset, .unset, .unset, .unset, .unset, .unset, .unset, .unset, .unset, .unset, .unset, .unset] [(.int (255 : Int32)), (.int ((p2.toUInt32 >>> ((16 : Int32) &&& 31).toUInt32).toInt32))])
          refine GoW.st (fun _ kont => XS.iand X5.here hx rfl (hb hby at_164) rfl kont) ?_
          show GoW Z EL0 p e s below _ _ _ T5 (mkF m 165 #[.val (.int p0), .val (.int p1), .val (.int p2), .val (.int p3), .val (.int q4), .val (.int z1), .val (.int q6), .val (.int q7), .val (.int z2), .val (.int z3), .val (.ref x4), .val (.ref x5), .val (.int q12), .val (.int z6), .val (.int q14), .unset, .unset, .unset, .unset, .unset, .unset, .unset, .unset, .unset, .unset, .unset, .unset, .unset, .unset, .unset] [(.int (((p2.toUInt32 >>> ((16 : Int32) &&& 31).toUInt32).toInt32) &&& (255 : Int32)))])
          refine GoW.st (fun _ kont => XS.i2c X5.here hx rfl (hb hby at_165) rfl kont) ?_
          show GoW Z EL0 p e s below _ _ _ T5 (mkF m 166 #[.val (.int p0), .val (.int p1), .val (.int p2), .val (.int p3), .val (.int q4), .val (.int z1), .val (.int q6), .val (.int q7), .val (.int z2), .val (.int z3), .val (.ref x4), .val (.ref x5), .val (.int q12), .val (.int z6), .val (.int q14), .unset, .unset, .unset, .unset, .unset, .unset, .unset, .unset, .unset, .unset, .unset, .unset, .unset, .unset, .unset] [(.int ((((p2.toUInt32 >>> ((16 : Int32) &&& 31).toUInt32).toInt32) &&& (255 : Int32)).toUInt32.toUInt16.toUInt32.toInt32))])
          refine GoW.st (fun _ kont => XS.istore X5.here hx rfl (hb hby at_166) rfl (l' := #[.val (.int p0), .val (.int p1), .val (.int p2), .val (.int p3), .val (.int q4), .val (.int z1), .val (.int q6), .val (.int q7), .val (.int z2), .val (.int z3), .val (.ref x4), .val (.ref x5), .val (.int q12), .val (.int z6), .val (.int q14), .val (.int ((((p2.toUInt32 >>> ((16 : Int32) &&& 31).toUInt32).toInt32) &&& (255 : Int32)).toUInt32.toUInt16.toUInt32.toInt32)), .unset, .unset, .unset, .unset, .unset, .unset, .unset, .unset, .unset, .unset, .unset, .unset, .unset, .unset]) rfl kont) ?_
          show GoW Z EL0 p e s below _ _ _ T5 (mkF m 168 #[.val (.int p0), .val (.int p1), .val (.int p2), .val (.int p3), .val (.int q4), .val (.int z1), .val (.int q6), .val (.int q7), .val (.int z2), .val (.int z3), .val (.ref x4), .val (.ref x5), .val (.int q12), .val (.int z6), .val (.int q14), .val (.int ((((p2.toUInt32 >>> ((16 : Int32) &&& 31).toUInt32).toInt32) &&& (255 : Int32)).toUInt32.toUInt16.toUInt32.toInt32)), .unset, .unset, .unset, .unset, .unset, .unset, .unset, .unset, .unset, .unset, .unset, .unset, .unset, .unset] [])
          have pq15 : Lat ((((p2.toUInt32 >>> ((16 : Int32) &&& 31).toUInt32).toInt32) &&& (255 : Int32)).toUInt32.toUInt16.toUInt32.toInt32) := own_lat _
          obtain ⟨q15, hq15⟩ : ∃ z : Int32, z = ((((p2.toUInt32 >>> ((16 : Int32) &&& 31).toUInt32).toInt32) &&& (255 : Int32)).toUInt32.toUInt16.toUInt32.toInt32) := ⟨_, rfl⟩
          rw [← hq15] at pq15 ⊢
          show GoW Z EL0 p e s below _ _ _ T5 (mkF m 168 #[.val (.int p0), .val (.int p1), .val (.int p2), .val (.int p3), .val (.int q4), .val (.int z1), .val (.int q6), .val (.int q7), .val (.int z2), .val (.int z3), .val (.ref x4), .val (.ref x5), .val (.int q12), .val (.int z6), .val (.int q14), .val (.int q15), .unset, .unset, .unset, .unset, .unset, .unset, .unset, .unset, .unset, .unset, .unset, .unset, .unset, .unset] [])
          refine GoW.st (fun _ kont => XS.iloadN X5.here hx rfl (hb hby at_168) rfl kont) ?_
          show GoW Z EL0 p e s below _ _ _ T5 (mkF m 169 #[.val (.int p0), .val (.int p1), .val (.int p2), .val (.int p3), .val (.int q4), .val (.int z1), .val (.int q6), .val (.int q7), .val (.int z2), .val (.int z3), .val (.ref x4), .val (.ref x5), .val (.int q12), .val (.int z6), .val (.int q14), .val (.int q15), .unset, .unset, .unset, .unset, .unset, .unset, .unset, .unset, .unset, .unset, .unset, .unset, .unset, .unset] [(.int p3)])
          refine GoW.st (fun _ kont => XT.bipushV X5.here hx rfl (8 : Int32) (hb hby at_169) (by decide) kont) ?_
          show GoW Z EL0 p e s below _ _ _ T5 (mkF m 171 #[.val (.int p0), .val (.int p1), .val (.int p2), .val (.int p3), .val (.int q4), .val (.int z1), .val (.int q6), .val (.int q7), .val (.int z2), .val (.int z3), .val (.ref x4), .val (.ref x5), .val (.int q12), .val (.int z6), .val (.int q14), .val (.int q15), .unset, .unset, .unset, .unset, .unset, .unset, .unset, .unset, .unset, .unset, .unset, .unset, .unset, .unset] [(.int (8 : Int32)), (.int p3)])
          refine GoW.st (fun _ kont => XS.iushr X5.here hx rfl (hb hby at_171) rfl kont) ?_
          show GoW Z EL0 p e s below _ _ _ T5 (mkF m 172 #[.val (.int p0), .val (.int p1), .val (.int p2), .val (.int p3), .val (.int q4), .val (.int z1), .val (.int q6), .val (.int q7), .val (.int z2), .val (.int z3), .val (.ref x4), .val (.ref x5), .val (.int q12), .val (.int z6), .val (.int q14), .val (.int q15), .unset, .unset, .unset, .unset, .unset, .unset, .unset, .unset, .unset, .unset, .unset, .unset, .unset, .unset] [(.int ((p3.toUInt32 >>> ((8 : Int32) &&& 31).toUInt32).toInt32))])
          refine GoW.st (fun _ kont => XT.iconstV X5.here hx rfl (1 : Int32) (hb hby at_172) (by decide) kont) ?_
          show GoW Z EL0 p e s below _ _ _ T5 (mkF m 173 #[.val (.int p0), .val (.int p1), .val (.int p2), .val (.int p3), .val (.int q4), .val (.int z1), .val (.int q6), .val (.int q7), .val (.int z2), .val (.int z3), .val (.ref x4), .val (.ref x5), .val (.int q12), .val (.int z6), .val (.int q14), .val (.int q15), .unset, .unset, .unset, .unset, .unset, .unset, .unset, .unset, .unset, .unset, .unset, .unset, .unset, .unset] [(.int (1 : Int32)), (.int ((p3.toUInt32 >>> ((8 : Int32) &&& 31).toUInt32).toInt32))])
          refine GoW.st (fun _ kont => XS.iand X5.here hx rfl (hb hby at_173) rfl kont) ?_
          show GoW Z EL0 p e s below _ _ _ T5 (mkF m 174 #[.val (.int p0), .val (.int p1), .val (.int p2), .val (.int p3), .val (.int q4), .val (.int z1), .val (.int q6), .val (.int q7), .val (.int z2), .val (.int z3), .val (.ref x4), .val (.ref x5), .val (.int q12), .val (.int z6), .val (.int q14), .val (.int q15), .unset, .unset, .unset, .unset, .unset, .unset, .unset, .unset, .unset, .unset, .unset, .unset, .unset, .unset] [(.int (((p3.toUInt32 >>> ((8 : Int32) &&& 31).toUInt32).toInt32) &&& (1 : Int32)))])
          have J7 : ∀ z7 : Int32, Lat z7 → GoW Z EL0 p e s below (fun v h L => v = some (.int 1) ∧ Fr n0 L) room_1.cells room_1.slots T5 (mkF m 191 #[.val (.int p0), .val (.int p1), .val (.int p2), .val (.int p3), .val (.int q4), .val (.int z1), .val (.int q6), .val (.int q7), .val (.int z2), .val (.int z3), .val (.ref x4), .val (.ref x5), .val (.int q12), .val (.int z6), .val (.int q14), .val (.int q15), .unset, .unset, .unset, .unset, .unset, .unset, .unset, .unset, .unset, .unset, .unset, .unset, .unset, .unset] [(.int z7)]) := by
            intro z7 hj7
            show GoW Z EL0 p e s below _ _ _ T5 (mkF m 191 #[.val (.int p0), .val (.int p1), .val (.int p2), .val (.int p3), .val (.int q4), .val (.int z1), .val (.int q6), .val (.int q7), .val (.int z2), .val (.int z3), .val (.ref x4), .val (.ref x5), .val (.int q12), .val (.int z6), .val (.int q14), .val (.int q15), .unset, .unset, .unset, .unset, .unset, .unset, .unset, .unset, .unset, .unset, .unset, .unset, .unset, .unset] [(.int z7)])
            refine GoW.st (fun _ kont => XS.istore X5.here hx rfl (hb hby at_191) rfl (l' := #[.val (.int p0), .val (.int p1), .val (.int p2), .val (.int p3), .val (.int q4), .val (.int z1), .val (.int q6), .val (.int q7), .val (.int z2), .val (.int z3), .val (.ref x4), .val (.ref x5), .val (.int q12), .val (.int z6), .val (.int q14), .val (.int q15), .val (.int z7), .unset, .unset, .unset, .unset, .unset, .unset, .unset, .unset, .unset, .unset, .unset, .unset, .unset]) rfl kont) ?_
            show GoW Z EL0 p e s below _ _ _ T5 (mkF m 193 #[.val (.int p0), .val (.int p1), .val (.int p2), .val (.int p3), .val (.int q4), .val (.int z1), .val (.int q6), .val (.int q7), .val (.int z2), .val (.int z3), .val (.ref x4), .val (.ref x5), .val (.int q12), .val (.int z6), .val (.int q14), .val (.int q15), .val (.int z7), .unset, .unset, .unset, .unset, .unset, .unset, .unset, .unset, .unset, .unset, .unset, .unset, .unset] [])
            refine GoW.st (fun _ kont => XS.iloadN X5.here hx rfl (hb hby at_193) rfl kont) ?_
            show GoW Z EL0 p e s below _ _ _ T5 (mkF m 194 #[.val (.int p0), .val (.int p1), .val (.int p2), .val (.int p3), .val (.int q4), .val (.int z1), .val (.int q6), .val (.int q7), .val (.int z2), .val (.int z3), .val (.ref x4), .val (.ref x5), .val (.int q12), .val (.int z6), .val (.int q14), .val (.int q15), .val (.int z7), .unset, .unset, .unset, .unset, .unset, .unset, .unset, .unset, .unset, .unset, .unset, .unset, .unset] [(.int p3)])
            refine GoW.st (fun _ kont => XT.bipushV X5.here hx rfl (8 : Int32) (hb hby at_194) (by decide) kont) ?_
            show GoW Z EL0 p e s below _ _ _ T5 (mkF m 196 #[.val (.int p0), .val (.int p1), .val (.int p2), .val (.int p3), .val (.int q4), .val (.int z1), .val (.int q6), .val (.int q7), .val (.int z2), .val (.int z3), .val (.ref x4), .val (.ref x5), .val (.int q12), .val (.int z6), .val (.int q14), .val (.int q15), .val (.int z7), .unset, .unset, .unset, .unset, .unset, .unset, .unset, .unset, .unset, .unset, .unset, .unset, .unset] [(.int (8 : Int32)), (.int p3)])
            refine GoW.st (fun _ kont => XS.iushr X5.here hx rfl (hb hby at_196) rfl kont) ?_
            show GoW Z EL0 p e s below _ _ _ T5 (mkF m 197 #[.val (.int p0), .val (.int p1), .val (.int p2), .val (.int p3), .val (.int q4), .val (.int z1), .val (.int q6), .val (.int q7), .val (.int z2), .val (.int z3), .val (.ref x4), .val (.ref x5), .val (.int q12), .val (.int z6), .val (.int q14), .val (.int q15), .val (.int z7), .unset, .unset, .unset, .unset, .unset, .unset, .unset, .unset, .unset, .unset, .unset, .unset, .unset] [(.int ((p3.toUInt32 >>> ((8 : Int32) &&& 31).toUInt32).toInt32))])
            refine GoW.st (fun _ kont => XT.iconstV X5.here hx rfl (1 : Int32) (hb hby at_197) (by decide) kont) ?_
            show GoW Z EL0 p e s below _ _ _ T5 (mkF m 198 #[.val (.int p0), .val (.int p1), .val (.int p2), .val (.int p3), .val (.int q4), .val (.int z1), .val (.int q6), .val (.int q7), .val (.int z2), .val (.int z3), .val (.ref x4), .val (.ref x5), .val (.int q12), .val (.int z6), .val (.int q14), .val (.int q15), .val (.int z7), .unset, .unset, .unset, .unset, .unset, .unset, .unset, .unset, .unset, .unset, .unset, .unset, .unset] [(.int (1 : Int32)), (.int ((p3.toUInt32 >>> ((8 : Int32) &&& 31).toUInt32).toInt32))])
            refine GoW.st (fun _ kont => XS.iand X5.here hx rfl (hb hby at_198) rfl kont) ?_
            show GoW Z EL0 p e s below _ _ _ T5 (mkF m 199 #[.val (.int p0), .val (.int p1), .val (.int p2), .val (.int p3), .val (.int q4), .val (.int z1), .val (.int q6), .val (.int q7), .val (.int z2), .val (.int z3), .val (.ref x4), .val (.ref x5), .val (.int q12), .val (.int z6), .val (.int q14), .val (.int q15), .val (.int z7), .unset, .unset, .unset, .unset, .unset, .unset, .unset, .unset, .unset, .unset, .unset, .unset, .unset] [(.int (((p3.toUInt32 >>> ((8 : Int32) &&& 31).toUInt32).toInt32) &&& (1 : Int32)))])
            have J8 : ∀ z8 : Int32, Lat z8 → GoW Z EL0 p e s below (fun v h L => v = some (.int 1) ∧ Fr n0 L) room_1.cells room_1.slots T5 (mkF m 216 #[.val (.int p0), .val (.int p1), .val (.int p2), .val (.int p3), .val (.int q4), .val (.int z1), .val (.int q6), .val (.int q7), .val (.int z2), .val (.int z3), .val (.ref x4), .val (.ref x5), .val (.int q12), .val (.int z6), .val (.int q14), .val (.int q15), .val (.int z7), .unset, .unset, .unset, .unset, .unset, .unset, .unset, .unset, .unset, .unset, .unset, .unset, .unset] [(.int z8)]) := by
              intro z8 hj8
              show GoW Z EL0 p e s below _ _ _ T5 (mkF m 216 #[.val (.int p0), .val (.int p1), .val (.int p2), .val (.int p3), .val (.int q4), .val (.int z1), .val (.int q6), .val (.int q7), .val (.int z2), .val (.int z3), .val (.ref x4), .val (.ref x5), .val (.int q12), .val (.int z6), .val (.int q14), .val (.int q15), .val (.int z7), .unset, .unset, .unset, .unset, .unset, .unset, .unset, .unset, .unset, .unset, .unset, .unset, .unset] [(.int z8)])
              refine GoW.st (fun _ kont => XS.istore X5.here hx rfl (hb hby at_216) rfl (l' := #[.val (.int p0), .val (.int p1), .val (.int p2), .val (.int p3), .val (.int q4), .val (.int z1), .val (.int q6), .val (.int q7), .val (.int z2), .val (.int z3), .val (.ref x4), .val (.ref x5), .val (.int q12), .val (.int z6), .val (.int q14), .val (.int q15), .val (.int z7), .val (.int z8), .unset, .unset, .unset, .unset, .unset, .unset, .unset, .unset, .unset, .unset, .unset, .unset]) rfl kont) ?_
              show GoW Z EL0 p e s below _ _ _ T5 (mkF m 218 #[.val (.int p0), .val (.int p1), .val (.int p2), .val (.int p3), .val (.int q4), .val (.int z1), .val (.int q6), .val (.int q7), .val (.int z2), .val (.int z3), .val (.ref x4), .val (.ref x5), .val (.int q12), .val (.int z6), .val (.int q14), .val (.int q15), .val (.int z7), .val (.int z8), .unset, .unset, .unset, .unset, .unset, .unset, .unset, .unset, .unset, .unset, .unset, .unset] [])
              refine GoW.st (fun _ kont => XS.iload X5.here hx rfl (hb hby at_218) rfl kont) ?_
              show GoW Z EL0 p e s below _ _ _ T5 (mkF m 220 #[.val (.int p0), .val (.int p1), .val (.int p2), .val (.int p3), .val (.int q4), .val (.int z1), .val (.int q6), .val (.int q7), .val (.int z2), .val (.int z3), .val (.ref x4), .val (.ref x5), .val (.int q12), .val (.int z6), .val (.int q14), .val (.int q15), .val (.int z7), .val (.int z8), .unset, .unset, .unset, .unset, .unset, .unset, .unset, .unset, .unset, .unset, .unset, .unset] [(.int q12)])
              refine GoW.st (fun _ kont => XS.iload X5.here hx rfl (hb hby at_220) rfl kont) ?_
              show GoW Z EL0 p e s below _ _ _ T5 (mkF m 222 #[.val (.int p0), .val (.int p1), .val (.int p2), .val (.int p3), .val (.int q4), .val (.int z1), .val (.int q6), .val (.int q7), .val (.int z2), .val (.int z3), .val (.ref x4), .val (.ref x5), .val (.int q12), .val (.int z6), .val (.int q14), .val (.int q15), .val (.int z7), .val (.int z8), .unset, .unset, .unset, .unset, .unset, .unset, .unset, .unset, .unset, .unset, .unset, .unset] [(.int q14), (.int q12)])
              refine GoW.st (fun _ kont => XS.iload X5.here hx rfl (hb hby at_222) rfl kont) ?_
              show GoW Z EL0 p e s below _ _ _ T5 (mkF m 224 #[.val (.int p0), .val (.int p1), .val (.int p2), .val (.int p3), .val (.int q4), .val (.int z1), .val (.int q6), .val (.int q7), .val (.int z2), .val (.int z3), .val (.ref x4), .val (.ref x5), .val (.int q12), .val (.int z6), .val (.int q14), .val (.int q15), .val (.int z7), .val (.int z8), .unset, .unset, .unset, .unset, .unset, .unset, .unset, .unset, .unset, .unset, .unset, .unset] [(.int q15), (.int q14), (.int q12)])
              refine GoW.callS (W := 0) (argsL := [(.int q12), (.int q14), (.int q15)]) (rest := []) X5 hx hZ hown (y := (⟨"com/example/covenant/covenant/ElementaryConditionEqualsPinLaw", "make", "(ICC)[C"⟩ : MethodName)) (hw _ (List.mem_of_getElem? (i := 0) rfl)) (hw _ (List.mem_of_getElem? (i := 1) rfl)) (hw _ (List.mem_of_getElem? (i := 2) rfl)) (hw _ (List.mem_of_getElem? (i := 3) rfl)) (rmm l Z a0 hw [] q12 q14 q15 pq12 h5 n0 (Nat.le_trans Z0 Q_5.1)) e5 (by decide) (by decide) (by decide) (by decide) (by decide) (by rw [hml]; rfl) (lenOf pd__ICC__C rfl) (Nat.le_of_eq rfl) (hb hby at_224) ?_
              intro T9 v9 L9 X9 hQ9
              obtain ⟨h9, e9⟩ : ∃ z, T9.heap = z := ⟨_, rfl⟩
              rw [e9] at hQ9
              obtain ⟨x9, k9, vs9, rfl, N9, E9, g9, C9, V9⟩ := hQ9
              have M9 := Fr.app M5 N9
              have sz9 : h0.size ≤ x9 := Nat.le_trans Q_5.1 g9
              have CR_9 := CR_5.trans (CHr.ext E9 CR_5.1)
              have Sz_9 := Nat.le_trans Sz_5 E9.1
              have Q_9 : Ext h0 h9 := own_extE Q_5 E9
              have V_x4_9 := V_x4_5.ext E9
              have V_x5_9 := V5.ext E9
              show GoW Z EL0 p e s below _ _ _ T9 (mkF m 227 #[.val (.int p0), .val (.int p1), .val (.int p2), .val (.int p3), .val (.int q4), .val (.int z1), .val (.int q6), .val (.int q7), .val (.int z2), .val (.int z3), .val (.ref x4), .val (.ref x5), .val (.int q12), .val (.int z6), .val (.int q14), .val (.int q15), .val (.int z7), .val (.int z8), .unset, .unset, .unset, .unset, .unset, .unset, .unset, .unset, .unset, .unset, .unset, .unset] [(.ref x9)])
              refine GoW.st (fun _ kont => XS.astore X9.here hx rfl (hb hby at_227) rfl rfl (l' := #[.val (.int p0), .val (.int p1), .val (.int p2), .val (.int p3), .val (.int q4), .val (.int z1), .val (.int q6), .val (.int q7), .val (.int z2), .val (.int z3), .val (.ref x4), .val (.ref x5), .val (.int q12), .val (.int z6), .val (.int q14), .val (.int q15), .val (.int z7), .val (.int z8), .val (.ref x9), .unset, .unset, .unset, .unset, .unset, .unset, .unset, .unset, .unset, .unset, .unset]) rfl kont) ?_
              show GoW Z EL0 p e s below _ _ _ T9 (mkF m 229 #[.val (.int p0), .val (.int p1), .val (.int p2), .val (.int p3), .val (.int q4), .val (.int z1), .val (.int q6), .val (.int q7), .val (.int z2), .val (.int z3), .val (.ref x4), .val (.ref x5), .val (.int q12), .val (.int z6), .val (.int q14), .val (.int q15), .val (.int z7), .val (.int z8), .val (.ref x9), .unset, .unset, .unset, .unset, .unset, .unset, .unset, .unset, .unset, .unset, .unset] [])
              refine GoW.st (fun _ kont => XS.iload X9.here hx rfl (hb hby at_229) rfl kont) ?_
              show GoW Z EL0 p e s below _ _ _ T9 (mkF m 231 #[.val (.int p0), .val (.int p1), .val (.int p2), .val (.int p3), .val (.int q4), .val (.int z1), .val (.int q6), .val (.int q7), .val (.int z2), .val (.int z3), .val (.ref x4), .val (.ref x5), .val (.int q12), .val (.int z6), .val (.int q14), .val (.int q15), .val (.int z7), .val (.int z8), .val (.ref x9), .unset, .unset, .unset, .unset, .unset, .unset, .unset, .unset, .unset, .unset, .unset] [(.int z6)])
              refine GoW.st (fun _ kont => XS.iload X9.here hx rfl (hb hby at_231) rfl kont) ?_
              show GoW Z EL0 p e s below _ _ _ T9 (mkF m 233 #[.val (.int p0), .val (.int p1), .val (.int p2), .val (.int p3), .val (.int q4), .val (.int z1), .val (.int q6), .val (.int q7), .val (.int z2), .val (.int z3), .val (.ref x4), .val (.ref x5), .val (.int q12), .val (.int z6), .val (.int q14), .val (.int q15), .val (.int z7), .val (.int z8), .val (.ref x9), .unset, .unset, .unset, .unset, .unset, .unset, .unset, .unset, .unset, .unset, .unset] [(.int z7), (.int z6)])
              refine GoW.st (fun _ kont => XS.iload X9.here hx rfl (hb hby at_233) rfl kont) ?_
              show GoW Z EL0 p e s below _ _ _ T9 (mkF m 235 #[.val (.int p0), .val (.int p1), .val (.int p2), .val (.int p3), .val (.int q4), .val (.int z1), .val (.int q6), .val (.int q7), .val (.int z2), .val (.int z3), .val (.ref x4), .val (.ref x5), .val (.int q12), .val (.int z6), .val (.int q14), .val (.int q15), .val (.int z7), .val (.int z8), .val (.ref x9), .unset, .unset, .unset, .unset, .unset, .unset, .unset, .unset, .unset, .unset, .unset] [(.int z8), (.int z7), (.int z6)])
              refine GoW.callS (W := 0) (argsL := [(.int z6), (.int z7), (.int z8)]) (rest := []) X9 hx hZ hown (y := (⟨"com/example/covenant/covenant/ElementaryConditionEqualsPinLaw", "make", "(ICC)[C"⟩ : MethodName)) (hw _ (List.mem_of_getElem? (i := 0) rfl)) (hw _ (List.mem_of_getElem? (i := 1) rfl)) (hw _ (List.mem_of_getElem? (i := 2) rfl)) (hw _ (List.mem_of_getElem? (i := 3) rfl)) (rmm l Z a0 hw [] z6 z7 z8 hj6 h9 n0 (Nat.le_trans Z0 Q_9.1)) e9 (by decide) (by decide) (by decide) (by decide) (by decide) (by rw [hml]; rfl) (lenOf pd__ICC__C rfl) (Nat.le_of_eq rfl) (hb hby at_235) ?_
              intro T10 v10 L10 X10 hQ10
              obtain ⟨h10, e10⟩ : ∃ z, T10.heap = z := ⟨_, rfl⟩
              rw [e10] at hQ10
              obtain ⟨x10, k10, vs10, rfl, N10, E10, g10, C10, V10⟩ := hQ10
              have M10 := Fr.app M9 N10
              have sz10 : h0.size ≤ x10 := Nat.le_trans Q_9.1 g10
              have CR_10 := CR_9.trans (CHr.ext E10 CR_9.1)
              have Sz_10 := Nat.le_trans Sz_9 E10.1
              have Q_10 : Ext h0 h10 := own_extE Q_9 E10
              have V_x4_10 := V_x4_9.ext E10
              have V_x5_10 := V_x5_9.ext E10
              have V_x9_10 := V9.ext E10
              show GoW Z EL0 p e s below _ _ _ T10 (mkF m 238 #[.val (.int p0), .val (.int p1), .val (.int p2), .val (.int p3), .val (.int q4), .val (.int z1), .val (.int q6), .val (.int q7), .val (.int z2), .val (.int z3), .val (.ref x4), .val (.ref x5), .val (.int q12), .val (.int z6), .val (.int q14), .val (.int q15), .val (.int z7), .val (.int z8), .val (.ref x9), .unset, .unset, .unset, .unset, .unset, .unset, .unset, .unset, .unset, .unset, .unset] [(.ref x10)])
              refine GoW.st (fun _ kont => XS.astore X10.here hx rfl (hb hby at_238) rfl rfl (l' := #[.val (.int p0), .val (.int p1), .val (.int p2), .val (.int p3), .val (.int q4), .val (.int z1), .val (.int q6), .val (.int q7), .val (.int z2), .val (.int z3), .val (.ref x4), .val (.ref x5), .val (.int q12), .val (.int z6), .val (.int q14), .val (.int q15), .val (.int z7), .val (.int z8), .val (.ref x9), .val (.ref x10), .unset, .unset, .unset, .unset, .unset, .unset, .unset, .unset, .unset, .unset]) rfl kont) ?_
              show GoW Z EL0 p e s below _ _ _ T10 (mkF m 240 #[.val (.int p0), .val (.int p1), .val (.int p2), .val (.int p3), .val (.int q4), .val (.int z1), .val (.int q6), .val (.int q7), .val (.int z2), .val (.int z3), .val (.ref x4), .val (.ref x5), .val (.int q12), .val (.int z6), .val (.int q14), .val (.int q15), .val (.int z7), .val (.int z8), .val (.ref x9), .val (.ref x10), .unset, .unset, .unset, .unset, .unset, .unset, .unset, .unset, .unset, .unset] [])
              obtain ⟨T11, h11, X11, e11, E11, A11, D11, -, st11⟩ := newO X10 hx hZ hown (hw _ (List.mem_of_getElem? (i := 5) rfl)) (hw _ (List.mem_of_getElem? (i := 6) rfl)) (hw _ (List.mem_of_getElem? (i := 7) rfl)) e10 (g := (mkF m 240 #[.val (.int p0), .val (.int p1), .val (.int p2), .val (.int p3), .val (.int q4), .val (.int z1), .val (.int q6), .val (.int q7), .val (.int z2), .val (.int z3), .val (.ref x4), .val (.ref x5), .val (.int q12), .val (.int z6), .val (.int q14), .val (.int q15), .val (.int z7), .val (.int z8), .val (.ref x9), .val (.ref x10), .unset, .unset, .unset, .unset, .unset, .unset, .unset, .unset, .unset, .unset] [])) rfl (hb hby at_240) (by decide) (by decide)
              obtain ⟨b11, g11⟩ : ∃ z, z = h10.size := ⟨_, rfl⟩
              rw [← g11] at A11 D11 st11
              have sz11 : h0.size ≤ b11 := Nat.le_trans Q_10.1 (Nat.le_of_eq g11.symm)
              have gn11 : n0 ≤ b11 := Nat.le_trans Z0 sz11
              refine GoW.st st11 ?_
              have CR_11 := CR_10.trans (CHr.ext E11 CR_10.1)
              have Sz_11 := Nat.le_trans Sz_10 E11.1
              have Q_11 : Ext h0 h11 := own_extE Q_10 E11
              have V_x4_11 := V_x4_10.ext E11
              have V_x5_11 := V_x5_10.ext E11
              have V_x9_11 := V_x9_10.ext E11
              have V_x10_11 := V10.ext E11
              have F_coder_b11 : Fld Z h11 b11 "java/lang/String" "coder" "B" (.int (0 : Int32)) := D11 (Or.inr (hw _ (List.mem_of_getElem? (i := 31) rfl))) (ty := .byte) (by decide)
              have F_value_b11 : Fld Z h11 b11 "java/lang/String" "value" "[B" .null := D11 (Or.inr (hw _ (List.mem_of_getElem? (i := 33) rfl))) (ty := (.array .byte)) (by decide)
              show GoW Z EL0 p e s below _ _ _ T11 (mkF m 243 #[.val (.int p0), .val (.int p1), .val (.int p2), .val (.int p3), .val (.int q4), .val (.int z1), .val (.int q6), .val (.int q7), .val (.int z2), .val (.int z3), .val (.ref x4), .val (.ref x5), .val (.int q12), .val (.int z6), .val (.int q14), .val (.int q15), .val (.int z7), .val (.int z8), .val (.ref x9), .val (.ref x10), .unset, .unset, .unset, .unset, .unset, .unset, .unset, .unset, .unset, .unset] [(.ref b11)])
              refine GoW.st (fun _ kont => XS.dup X11.here hx rfl (hb hby at_243) rfl rfl kont) ?_
              show GoW Z EL0 p e s below _ _ _ T11 (mkF m 244 #[.val (.int p0), .val (.int p1), .val (.int p2), .val (.int p3), .val (.int q4), .val (.int z1), .val (.int q6), .val (.int q7), .val (.int z2), .val (.int z3), .val (.ref x4), .val (.ref x5), .val (.int q12), .val (.int z6), .val (.int q14), .val (.int q15), .val (.int z7), .val (.int z8), .val (.ref x9), .val (.ref x10), .unset, .unset, .unset, .unset, .unset, .unset, .unset, .unset, .unset, .unset] [(.ref b11), (.ref b11)])
              refine GoW.st (fun _ kont => XS.aload X11.here hx rfl (hb hby at_244) rfl rfl kont) ?_
              show GoW Z EL0 p e s below _ _ _ T11 (mkF m 246 #[.val (.int p0), .val (.int p1), .val (.int p2), .val (.int p3), .val (.int q4), .val (.int z1), .val (.int q6), .val (.int q7), .val (.int z2), .val (.int z3), .val (.ref x4), .val (.ref x5), .val (.int q12), .val (.int z6), .val (.int q14), .val (.int q15), .val (.int z7), .val (.int z8), .val (.ref x9), .val (.ref x10), .unset, .unset, .unset, .unset, .unset, .unset, .unset, .unset, .unset, .unset] [(.ref x4), (.ref b11), (.ref b11)])
              refine GoW.callX (b := b11) (W := 1) (argsL := [(.ref x4)]) (rest := [(.ref b11)]) X11 hx hZ (y := (⟨"java/lang/String", "<init>", "([C)V"⟩ : MethodName)) rfl hown (hw _ (List.mem_of_getElem? (i := 8) rfl)) (hw _ (List.mem_of_getElem? (i := 9) rfl)) (hw _ (List.mem_of_getElem? (i := 7) rfl)) (hw _ (List.mem_of_getElem? (i := 10) rfl)) (rmB l Z a0 hw [] b11 x4 k4 q4 q6 q7 vs4 C4 pq6.1 pq7.1 h11 n0 gn11 (Nat.le_trans Z0 Q_11.1) A11 F_value_b11 F_coder_b11 cs hcs (SCP.ext Q_11) V_x4_11) e11 hEL CR_11.1 hS Sz_11 (by decide) (by decide) (by decide) (by decide) (by decide) (by rw [hml]; rfl) (lenOf pd___C_V rfl) (Nat.le_of_eq rfl) (hb hby at_246) ?_
              intro T12 v12 L12 X12 hQ12 hS hZ hown C12
              obtain ⟨h12, e12⟩ : ∃ z, T12.heap = z := ⟨_, rfl⟩
              rw [e12] at hQ12 C12
              have CR_12 := CR_11.trans C12
              have Sz_12 := Nat.le_of_eq (congrArg Array.size e12)
              obtain ⟨rfl, N12, K12, Fc12, b12, kb12, vs12, C_12, Fv12, V12⟩ := hQ12
              have M12 := Fr.app M10 N12
              have Q_12 : Ext h0 h12 := own_extK Q_11 K12 (allS sz11 all0)
              have V_x4_12 := V_x4_11.keep K12 (ninS (Nat.ne_of_lt (Nat.lt_of_lt_of_le V_x4_10.lt (Nat.le_of_eq g11.symm))) nin0)
              have V_x5_12 := V_x5_11.keep K12 (ninS (Nat.ne_of_lt (Nat.lt_of_lt_of_le V_x5_10.lt (Nat.le_of_eq g11.symm))) nin0)
              have V_x9_12 := V_x9_11.keep K12 (ninS (Nat.ne_of_lt (Nat.lt_of_lt_of_le V_x9_10.lt (Nat.le_of_eq g11.symm))) nin0)
              have V_x10_12 := V_x10_11.keep K12 (ninS (Nat.ne_of_lt (Nat.lt_of_lt_of_le V10.lt (Nat.le_of_eq g11.symm))) nin0)
              have E_b11_12 := A11.keep K12
              show GoW Z EL0 p e s below _ _ _ T12 (mkF m 249 #[.val (.int p0), .val (.int p1), .val (.int p2), .val (.int p3), .val (.int q4), .val (.int z1), .val (.int q6), .val (.int q7), .val (.int z2), .val (.int z3), .val (.ref x4), .val (.ref x5), .val (.int q12), .val (.int z6), .val (.int q14), .val (.int q15), .val (.int z7), .val (.int z8), .val (.ref x9), .val (.ref x10), .unset, .unset, .unset, .unset, .unset, .unset, .unset, .unset, .unset, .unset] [(.ref b11)])
              refine GoW.st (fun _ kont => XS.astore X12.here hx rfl (hb hby at_249) rfl rfl (l' := #[.val (.int p0), .val (.int p1), .val (.int p2), .val (.int p3), .val (.int q4), .val (.int z1), .val (.int q6), .val (.int q7), .val (.int z2), .val (.int z3), .val (.ref x4), .val (.ref x5), .val (.int q12), .val (.int z6), .val (.int q14), .val (.int q15), .val (.int z7), .val (.int z8), .val (.ref x9), .val (.ref x10), .val (.ref b11), .unset, .unset, .unset, .unset, .unset, .unset, .unset, .unset, .unset]) rfl kont) ?_
              show GoW Z EL0 p e s below _ _ _ T12 (mkF m 251 #[.val (.int p0), .val (.int p1), .val (.int p2), .val (.int p3), .val (.int q4), .val (.int z1), .val (.int q6), .val (.int q7), .val (.int z2), .val (.int z3), .val (.ref x4), .val (.ref x5), .val (.int q12), .val (.int z6), .val (.int q14), .val (.int q15), .val (.int z7), .val (.int z8), .val (.ref x9), .val (.ref x10), .val (.ref b11), .unset, .unset, .unset, .unset, .unset, .unset, .unset, .unset, .unset] [])
              obtain ⟨T13, h13, X13, e13, E13, A13, D13, -, st13⟩ := newO X12 hx hZ hown (hw _ (List.mem_of_getElem? (i := 5) rfl)) (hw _ (List.mem_of_getElem? (i := 6) rfl)) (hw _ (List.mem_of_getElem? (i := 7) rfl)) e12 (g := (mkF m 251 #[.val (.int p0), .val (.int p1), .val (.int p2), .val (.int p3), .val (.int q4), .val (.int z1), .val (.int q6), .val (.int q7), .val (.int z2), .val (.int z3), .val (.ref x4), .val (.ref x5), .val (.int q12), .val (.int z6), .val (.int q14), .val (.int q15), .val (.int z7), .val (.int z8), .val (.ref x9), .val (.ref x10), .val (.ref b11), .unset, .unset, .unset, .unset, .unset, .unset, .unset, .unset, .unset] [])) rfl (hb hby at_251) (by decide) (by decide)
              obtain ⟨b13, g13⟩ : ∃ z, z = h12.size := ⟨_, rfl⟩
              rw [← g13] at A13 D13 st13
              have sz13 : h0.size ≤ b13 := Nat.le_trans Q_12.1 (Nat.le_of_eq g13.symm)
              have gn13 : n0 ≤ b13 := Nat.le_trans Z0 sz13
              refine GoW.st st13 ?_
              have CR_13 := CR_12.trans (CHr.ext E13 CR_12.1)
              have Sz_13 := Nat.le_trans Sz_12 E13.1
              have Q_13 : Ext h0 h13 := own_extE Q_12 E13
              have V_x4_13 := V_x4_12.ext E13
              have V_x5_13 := V_x5_12.ext E13
              have V_x9_13 := V_x9_12.ext E13
              have V_x10_13 := V_x10_12.ext E13
              have E_b11_13 := E_b11_12.ext E13
              have F_coder_b11_13 := Fc12.ext E13
              have F_value_b11_13 := Fv12.ext E13
              have V_b12_13 := V12.ext E13
              have F_coder_b13 : Fld Z h13 b13 "java/lang/String" "coder" "B" (.int (0 : Int32)) := D13 (Or.inr (hw _ (List.mem_of_getElem? (i := 31) rfl))) (ty := .byte) (by decide)
              have F_value_b13 : Fld Z h13 b13 "java/lang/String" "value" "[B" .null := D13 (Or.inr (hw _ (List.mem_of_getElem? (i := 33) rfl))) (ty := (.array .byte)) (by decide)
              show GoW Z EL0 p e s below _ _ _ T13 (mkF m 254 #[.val (.int p0), .val (.int p1), .val (.int p2), .val (.int p3), .val (.int q4), .val (.int z1), .val (.int q6), .val (.int q7), .val (.int z2), .val (.int z3), .val (.ref x4), .val (.ref x5), .val (.int q12), .val (.int z6), .val (.int q14), .val (.int q15), .val (.int z7), .val (.int z8), .val (.ref x9), .val (.ref x10), .val (.ref b11), .unset, .unset, .unset, .unset, .unset, .unset, .unset, .unset, .unset] [(.ref b13)])
              refine GoW.st (fun _ kont => XS.dup X13.here hx rfl (hb hby at_254) rfl rfl kont) ?_
              show GoW Z EL0 p e s below _ _ _ T13 (mkF m 255 #[.val (.int p0), .val (.int p1), .val (.int p2), .val (.int p3), .val (.int q4), .val (.int z1), .val (.int q6), .val (.int q7), .val (.int z2), .val (.int z3), .val (.ref x4), .val (.ref x5), .val (.int q12), .val (.int z6), .val (.int q14), .val (.int q15), .val (.int z7), .val (.int z8), .val (.ref x9), .val (.ref x10), .val (.ref b11), .unset, .unset, .unset, .unset, .unset, .unset, .unset, .unset, .unset] [(.ref b13), (.ref b13)])
              refine GoW.st (fun _ kont => XS.aload X13.here hx rfl (hb hby at_255) rfl rfl kont) ?_
              show GoW Z EL0 p e s below _ _ _ T13 (mkF m 257 #[.val (.int p0), .val (.int p1), .val (.int p2), .val (.int p3), .val (.int q4), .val (.int z1), .val (.int q6), .val (.int q7), .val (.int z2), .val (.int z3), .val (.ref x4), .val (.ref x5), .val (.int q12), .val (.int z6), .val (.int q14), .val (.int q15), .val (.int z7), .val (.int z8), .val (.ref x9), .val (.ref x10), .val (.ref b11), .unset, .unset, .unset, .unset, .unset, .unset, .unset, .unset, .unset] [(.ref x5), (.ref b13), (.ref b13)])
              refine GoW.callX (b := b13) (W := 1) (argsL := [(.ref x5)]) (rest := [(.ref b13)]) X13 hx hZ (y := (⟨"java/lang/String", "<init>", "([C)V"⟩ : MethodName)) rfl hown (hw _ (List.mem_of_getElem? (i := 8) rfl)) (hw _ (List.mem_of_getElem? (i := 9) rfl)) (hw _ (List.mem_of_getElem? (i := 7) rfl)) (hw _ (List.mem_of_getElem? (i := 10) rfl)) (rmB l Z a0 hw [] b13 x5 k5 z1 z2 z3 vs5 C5 hj2.1 hj3.1 h13 n0 gn13 (Nat.le_trans Z0 Q_13.1) A13 F_value_b13 F_coder_b13 cs hcs (SCP.ext Q_13) V_x5_13) e13 hEL CR_13.1 hS Sz_13 (by decide) (by decide) (by decide) (by decide) (by decide) (by rw [hml]; rfl) (lenOf pd___C_V rfl) (Nat.le_of_eq rfl) (hb hby at_257) ?_
              intro T14 v14 L14 X14 hQ14 hS hZ hown C14
              obtain ⟨h14, e14⟩ : ∃ z, T14.heap = z := ⟨_, rfl⟩
              rw [e14] at hQ14 C14
              have CR_14 := CR_13.trans C14
              have Sz_14 := Nat.le_of_eq (congrArg Array.size e14)
              obtain ⟨rfl, N14, K14, Fc14, b14, kb14, vs14, C_14, Fv14, V14⟩ := hQ14
              have M14 := Fr.app M12 N14
              have Q_14 : Ext h0 h14 := own_extK Q_13 K14 (allS sz13 all0)
              have V_x4_14 := V_x4_13.keep K14 (ninS (Nat.ne_of_lt (Nat.lt_of_lt_of_le V_x4_12.lt (Nat.le_of_eq g13.symm))) nin0)
              have V_x5_14 := V_x5_13.keep K14 (ninS (Nat.ne_of_lt (Nat.lt_of_lt_of_le V_x5_12.lt (Nat.le_of_eq g13.symm))) nin0)
              have V_x9_14 := V_x9_13.keep K14 (ninS (Nat.ne_of_lt (Nat.lt_of_lt_of_le V_x9_12.lt (Nat.le_of_eq g13.symm))) nin0)
              have V_x10_14 := V_x10_13.keep K14 (ninS (Nat.ne_of_lt (Nat.lt_of_lt_of_le V_x10_12.lt (Nat.le_of_eq g13.symm))) nin0)
              have E_b11_14 := E_b11_13.keep K14
              have F_coder_b11_14 := F_coder_b11_13.keep K14 (ninS (Nat.ne_of_lt (Nat.lt_of_lt_of_le E_b11_12.lt (Nat.le_of_eq g13.symm))) nin0)
              have F_value_b11_14 := F_value_b11_13.keep K14 (ninS (Nat.ne_of_lt (Nat.lt_of_lt_of_le E_b11_12.lt (Nat.le_of_eq g13.symm))) nin0)
              have V_b12_14 := V_b12_13.keep K14 (ninS (Nat.ne_of_lt (Nat.lt_of_lt_of_le V12.lt (Nat.le_of_eq g13.symm))) nin0)
              have E_b13_14 := A13.keep K14
              show GoW Z EL0 p e s below _ _ _ T14 (mkF m 260 #[.val (.int p0), .val (.int p1), .val (.int p2), .val (.int p3), .val (.int q4), .val (.int z1), .val (.int q6), .val (.int q7), .val (.int z2), .val (.int z3), .val (.ref x4), .val (.ref x5), .val (.int q12), .val (.int z6), .val (.int q14), .val (.int q15), .val (.int z7), .val (.int z8), .val (.ref x9), .val (.ref x10), .val (.ref b11), .unset, .unset, .unset, .unset, .unset, .unset, .unset, .unset, .unset] [(.ref b13)])
              refine GoW.st (fun _ kont => XS.astore X14.here hx rfl (hb hby at_260) rfl rfl (l' := #[.val (.int p0), .val (.int p1), .val (.int p2), .val (.int p3), .val (.int q4), .val (.int z1), .val (.int q6), .val (.int q7), .val (.int z2), .val (.int z3), .val (.ref x4), .val (.ref x5), .val (.int q12), .val (.int z6), .val (.int q14), .val (.int q15), .val (.int z7), .val (.int z8), .val (.ref x9), .val (.ref x10), .val (.ref b11), .val (.ref b13), .unset, .unset, .unset, .unset, .unset, .unset, .unset, .unset]) rfl kont) ?_
              show GoW Z EL0 p e s below _ _ _ T14 (mkF m 262 #[.val (.int p0), .val (.int p1), .val (.int p2), .val (.int p3), .val (.int q4), .val (.int z1), .val (.int q6), .val (.int q7), .val (.int z2), .val (.int z3), .val (.ref x4), .val (.ref x5), .val (.int q12), .val (.int z6), .val (.int q14), .val (.int q15), .val (.int z7), .val (.int z8), .val (.ref x9), .val (.ref x10), .val (.ref b11), .val (.ref b13), .unset, .unset, .unset, .unset, .unset, .unset, .unset, .unset] [])
              obtain ⟨T15, h15, X15, e15, E15, A15, D15, -, st15⟩ := newO X14 hx hZ hown (hw _ (List.mem_of_getElem? (i := 5) rfl)) (hw _ (List.mem_of_getElem? (i := 6) rfl)) (hw _ (List.mem_of_getElem? (i := 7) rfl)) e14 (g := (mkF m 262 #[.val (.int p0), .val (.int p1), .val (.int p2), .val (.int p3), .val (.int q4), .val (.int z1), .val (.int q6), .val (.int q7), .val (.int z2), .val (.int z3), .val (.ref x4), .val (.ref x5), .val (.int q12), .val (.int z6), .val (.int q14), .val (.int q15), .val (.int z7), .val (.int z8), .val (.ref x9), .val (.ref x10), .val (.ref b11), .val (.ref b13), .unset, .unset, .unset, .unset, .unset, .unset, .unset, .unset] [])) rfl (hb hby at_262) (by decide) (by decide)
              obtain ⟨b15, g15⟩ : ∃ z, z = h14.size := ⟨_, rfl⟩
              rw [← g15] at A15 D15 st15
              have sz15 : h0.size ≤ b15 := Nat.le_trans Q_14.1 (Nat.le_of_eq g15.symm)
              have gn15 : n0 ≤ b15 := Nat.le_trans Z0 sz15
              refine GoW.st st15 ?_
              have CR_15 := CR_14.trans (CHr.ext E15 CR_14.1)
              have Sz_15 := Nat.le_trans Sz_14 E15.1
              have Q_15 : Ext h0 h15 := own_extE Q_14 E15
              have V_x4_15 := V_x4_14.ext E15
              have V_x5_15 := V_x5_14.ext E15
              have V_x9_15 := V_x9_14.ext E15
              have V_x10_15 := V_x10_14.ext E15
              have E_b11_15 := E_b11_14.ext E15
              have F_coder_b11_15 := F_coder_b11_14.ext E15
              have F_value_b11_15 := F_value_b11_14.ext E15
              have V_b12_15 := V_b12_14.ext E15
              have E_b13_15 := E_b13_14.ext E15
              have F_coder_b13_15 := Fc14.ext E15
              have F_value_b13_15 := Fv14.ext E15
              have V_b14_15 := V14.ext E15
              have F_coder_b15 : Fld Z h15 b15 "java/lang/String" "coder" "B" (.int (0 : Int32)) := D15 (Or.inr (hw _ (List.mem_of_getElem? (i := 31) rfl))) (ty := .byte) (by decide)
              have F_value_b15 : Fld Z h15 b15 "java/lang/String" "value" "[B" .null := D15 (Or.inr (hw _ (List.mem_of_getElem? (i := 33) rfl))) (ty := (.array .byte)) (by decide)
              show GoW Z EL0 p e s below _ _ _ T15 (mkF m 265 #[.val (.int p0), .val (.int p1), .val (.int p2), .val (.int p3), .val (.int q4), .val (.int z1), .val (.int q6), .val (.int q7), .val (.int z2), .val (.int z3), .val (.ref x4), .val (.ref x5), .val (.int q12), .val (.int z6), .val (.int q14), .val (.int q15), .val (.int z7), .val (.int z8), .val (.ref x9), .val (.ref x10), .val (.ref b11), .val (.ref b13), .unset, .unset, .unset, .unset, .unset, .unset, .unset, .unset] [(.ref b15)])
              refine GoW.st (fun _ kont => XS.dup X15.here hx rfl (hb hby at_265) rfl rfl kont) ?_
              show GoW Z EL0 p e s below _ _ _ T15 (mkF m 266 #[.val (.int p0), .val (.int p1), .val (.int p2), .val (.int p3), .val (.int q4), .val (.int z1), .val (.int q6), .val (.int q7), .val (.int z2), .val (.int z3), .val (.ref x4), .val (.ref x5), .val (.int q12), .val (.int z6), .val (.int q14), .val (.int q15), .val (.int z7), .val (.int z8), .val (.ref x9), .val (.ref x10), .val (.ref b11), .val (.ref b13), .unset, .unset, .unset, .unset, .unset, .unset, .unset, .unset] [(.ref b15), (.ref b15)])
              refine GoW.st (fun _ kont => XS.aload X15.here hx rfl (hb hby at_266) rfl rfl kont) ?_
              show GoW Z EL0 p e s below _ _ _ T15 (mkF m 268 #[.val (.int p0), .val (.int p1), .val (.int p2), .val (.int p3), .val (.int q4), .val (.int z1), .val (.int q6), .val (.int q7), .val (.int z2), .val (.int z3), .val (.ref x4), .val (.ref x5), .val (.int q12), .val (.int z6), .val (.int q14), .val (.int q15), .val (.int z7), .val (.int z8), .val (.ref x9), .val (.ref x10), .val (.ref b11), .val (.ref b13), .unset, .unset, .unset, .unset, .unset, .unset, .unset, .unset] [(.ref x9), (.ref b15), (.ref b15)])
              refine GoW.callX (b := b15) (W := 1) (argsL := [(.ref x9)]) (rest := [(.ref b15)]) X15 hx hZ (y := (⟨"java/lang/String", "<init>", "([C)V"⟩ : MethodName)) rfl hown (hw _ (List.mem_of_getElem? (i := 8) rfl)) (hw _ (List.mem_of_getElem? (i := 9) rfl)) (hw _ (List.mem_of_getElem? (i := 7) rfl)) (hw _ (List.mem_of_getElem? (i := 10) rfl)) (rmB l Z a0 hw [] b15 x9 k9 q12 q14 q15 vs9 C9 pq14.1 pq15.1 h15 n0 gn15 (Nat.le_trans Z0 Q_15.1) A15 F_value_b15 F_coder_b15 cs hcs (SCP.ext Q_15) V_x9_15) e15 hEL CR_15.1 hS Sz_15 (by decide) (by decide) (by decide) (by decide) (by decide) (by rw [hml]; rfl) (lenOf pd___C_V rfl) (Nat.le_of_eq rfl) (hb hby at_268) ?_
              intro T16 v16 L16 X16 hQ16 hS hZ hown C16
              obtain ⟨h16, e16⟩ : ∃ z, T16.heap = z := ⟨_, rfl⟩
              rw [e16] at hQ16 C16
              have CR_16 := CR_15.trans C16
              have Sz_16 := Nat.le_of_eq (congrArg Array.size e16)
              obtain ⟨rfl, N16, K16, Fc16, b16, kb16, vs16, C_16, Fv16, V16⟩ := hQ16
              have M16 := Fr.app M14 N16
              have Q_16 : Ext h0 h16 := own_extK Q_15 K16 (allS sz15 all0)
              have V_x4_16 := V_x4_15.keep K16 (ninS (Nat.ne_of_lt (Nat.lt_of_lt_of_le V_x4_14.lt (Nat.le_of_eq g15.symm))) nin0)
              have V_x5_16 := V_x5_15.keep K16 (ninS (Nat.ne_of_lt (Nat.lt_of_lt_of_le V_x5_14.lt (Nat.le_of_eq g15.symm))) nin0)
              have V_x9_16 := V_x9_15.keep K16 (ninS (Nat.ne_of_lt (Nat.lt_of_lt_of_le V_x9_14.lt (Nat.le_of_eq g15.symm))) nin0)
              have V_x10_16 := V_x10_15.keep K16 (ninS (Nat.ne_of_lt (Nat.lt_of_lt_of_le V_x10_14.lt (Nat.le_of_eq g15.symm))) nin0)
              have E_b11_16 := E_b11_15.keep K16
              have F_coder_b11_16 := F_coder_b11_15.keep K16 (ninS (Nat.ne_of_lt (Nat.lt_of_lt_of_le E_b11_14.lt (Nat.le_of_eq g15.symm))) nin0)
              have F_value_b11_16 := F_value_b11_15.keep K16 (ninS (Nat.ne_of_lt (Nat.lt_of_lt_of_le E_b11_14.lt (Nat.le_of_eq g15.symm))) nin0)
              have V_b12_16 := V_b12_15.keep K16 (ninS (Nat.ne_of_lt (Nat.lt_of_lt_of_le V_b12_14.lt (Nat.le_of_eq g15.symm))) nin0)
              have E_b13_16 := E_b13_15.keep K16
              have F_coder_b13_16 := F_coder_b13_15.keep K16 (ninS (Nat.ne_of_lt (Nat.lt_of_lt_of_le E_b13_14.lt (Nat.le_of_eq g15.symm))) nin0)
              have F_value_b13_16 := F_value_b13_15.keep K16 (ninS (Nat.ne_of_lt (Nat.lt_of_lt_of_le E_b13_14.lt (Nat.le_of_eq g15.symm))) nin0)
              have V_b14_16 := V_b14_15.keep K16 (ninS (Nat.ne_of_lt (Nat.lt_of_lt_of_le V14.lt (Nat.le_of_eq g15.symm))) nin0)
              have E_b15_16 := A15.keep K16
              show GoW Z EL0 p e s below _ _ _ T16 (mkF m 271 #[.val (.int p0), .val (.int p1), .val (.int p2), .val (.int p3), .val (.int q4), .val (.int z1), .val (.int q6), .val (.int q7), .val (.int z2), .val (.int z3), .val (.ref x4), .val (.ref x5), .val (.int q12), .val (.int z6), .val (.int q14), .val (.int q15), .val (.int z7), .val (.int z8), .val (.ref x9), .val (.ref x10), .val (.ref b11), .val (.ref b13), .unset, .unset, .unset, .unset, .unset, .unset, .unset, .unset] [(.ref b15)])
              refine GoW.st (fun _ kont => XS.astore X16.here hx rfl (hb hby at_271) rfl rfl (l' := #[.val (.int p0), .val (.int p1), .val (.int p2), .val (.int p3), .val (.int q4), .val (.int z1), .val (.int q6), .val (.int q7), .val (.int z2), .val (.int z3), .val (.ref x4), .val (.ref x5), .val (.int q12), .val (.int z6), .val (.int q14), .val (.int q15), .val (.int z7), .val (.int z8), .val (.ref x9), .val (.ref x10), .val (.ref b11), .val (.ref b13), .val (.ref b15), .unset, .unset, .unset, .unset, .unset, .unset, .unset]) rfl kont) ?_
              show GoW Z EL0 p e s below _ _ _ T16 (mkF m 273 #[.val (.int p0), .val (.int p1), .val (.int p2), .val (.int p3), .val (.int q4), .val (.int z1), .val (.int q6), .val (.int q7), .val (.int z2), .val (.int z3), .val (.ref x4), .val (.ref x5), .val (.int q12), .val (.int z6), .val (.int q14), .val (.int q15), .val (.int z7), .val (.int z8), .val (.ref x9), .val (.ref x10), .val (.ref b11), .val (.ref b13), .val (.ref b15), .unset, .unset, .unset, .unset, .unset, .unset, .unset] [])
              obtain ⟨T17, h17, X17, e17, E17, A17, D17, -, st17⟩ := newO X16 hx hZ hown (hw _ (List.mem_of_getElem? (i := 5) rfl)) (hw _ (List.mem_of_getElem? (i := 6) rfl)) (hw _ (List.mem_of_getElem? (i := 7) rfl)) e16 (g := (mkF m 273 #[.val (.int p0), .val (.int p1), .val (.int p2), .val (.int p3), .val (.int q4), .val (.int z1), .val (.int q6), .val (.int q7), .val (.int z2), .val (.int z3), .val (.ref x4), .val (.ref x5), .val (.int q12), .val (.int z6), .val (.int q14), .val (.int q15), .val (.int z7), .val (.int z8), .val (.ref x9), .val (.ref x10), .val (.ref b11), .val (.ref b13), .val (.ref b15), .unset, .unset, .unset, .unset, .unset, .unset, .unset] [])) rfl (hb hby at_273) (by decide) (by decide)
              obtain ⟨b17, g17⟩ : ∃ z, z = h16.size := ⟨_, rfl⟩
              rw [← g17] at A17 D17 st17
              have sz17 : h0.size ≤ b17 := Nat.le_trans Q_16.1 (Nat.le_of_eq g17.symm)
              have gn17 : n0 ≤ b17 := Nat.le_trans Z0 sz17
              refine GoW.st st17 ?_
              have CR_17 := CR_16.trans (CHr.ext E17 CR_16.1)
              have Sz_17 := Nat.le_trans Sz_16 E17.1
              have Q_17 : Ext h0 h17 := own_extE Q_16 E17
              have V_x4_17 := V_x4_16.ext E17
              have V_x5_17 := V_x5_16.ext E17
              have V_x9_17 := V_x9_16.ext E17
              have V_x10_17 := V_x10_16.ext E17
              have E_b11_17 := E_b11_16.ext E17
              have F_coder_b11_17 := F_coder_b11_16.ext E17
              have F_value_b11_17 := F_value_b11_16.ext E17
              have V_b12_17 := V_b12_16.ext E17
              have E_b13_17 := E_b13_16.ext E17
              have F_coder_b13_17 := F_coder_b13_16.ext E17
              have F_value_b13_17 := F_value_b13_16.ext E17
              have V_b14_17 := V_b14_16.ext E17
              have E_b15_17 := E_b15_16.ext E17
              have F_coder_b15_17 := Fc16.ext E17
              have F_value_b15_17 := Fv16.ext E17
              have V_b16_17 := V16.ext E17
              have F_coder_b17 : Fld Z h17 b17 "java/lang/String" "coder" "B" (.int (0 : Int32)) := D17 (Or.inr (hw _ (List.mem_of_getElem? (i := 31) rfl))) (ty := .byte) (by decide)
              have F_value_b17 : Fld Z h17 b17 "java/lang/String" "value" "[B" .null := D17 (Or.inr (hw _ (List.mem_of_getElem? (i := 33) rfl))) (ty := (.array .byte)) (by decide)
              show GoW Z EL0 p e s below _ _ _ T17 (mkF m 276 #[.val (.int p0), .val (.int p1), .val (.int p2), .val (.int p3), .val (.int q4), .val (.int z1), .val (.int q6), .val (.int q7), .val (.int z2), .val (.int z3), .val (.ref x4), .val (.ref x5), .val (.int q12), .val (.int z6), .val (.int q14), .val (.int q15), .val (.int z7), .val (.int z8), .val (.ref x9), .val (.ref x10), .val (.ref b11), .val (.ref b13), .val (.ref b15), .unset, .unset, .unset, .unset, .unset, .unset, .unset] [(.ref b17)])
              refine GoW.st (fun _ kont => XS.dup X17.here hx rfl (hb hby at_276) rfl rfl kont) ?_
              show GoW Z EL0 p e s below _ _ _ T17 (mkF m 277 #[.val (.int p0), .val (.int p1), .val (.int p2), .val (.int p3), .val (.int q4), .val (.int z1), .val (.int q6), .val (.int q7), .val (.int z2), .val (.int z3), .val (.ref x4), .val (.ref x5), .val (.int q12), .val (.int z6), .val (.int q14), .val (.int q15), .val (.int z7), .val (.int z8), .val (.ref x9), .val (.ref x10), .val (.ref b11), .val (.ref b13), .val (.ref b15), .unset, .unset, .unset, .unset, .unset, .unset, .unset] [(.ref b17), (.ref b17)])
              refine GoW.st (fun _ kont => XS.aload X17.here hx rfl (hb hby at_277) rfl rfl kont) ?_
              show GoW Z EL0 p e s below _ _ _ T17 (mkF m 279 #[.val (.int p0), .val (.int p1), .val (.int p2), .val (.int p3), .val (.int q4), .val (.int z1), .val (.int q6), .val (.int q7), .val (.int z2), .val (.int z3), .val (.ref x4), .val (.ref x5), .val (.int q12), .val (.int z6), .val (.int q14), .val (.int q15), .val (.int z7), .val (.int z8), .val (.ref x9), .val (.ref x10), .val (.ref b11), .val (.ref b13), .val (.ref b15), .unset, .unset, .unset, .unset, .unset, .unset, .unset] [(.ref x10), (.ref b17), (.ref b17)])
              refine GoW.callX (b := b17) (W := 1) (argsL := [(.ref x10)]) (rest := [(.ref b17)]) X17 hx hZ (y := (⟨"java/lang/String", "<init>", "([C)V"⟩ : MethodName)) rfl hown (hw _ (List.mem_of_getElem? (i := 8) rfl)) (hw _ (List.mem_of_getElem? (i := 9) rfl)) (hw _ (List.mem_of_getElem? (i := 7) rfl)) (hw _ (List.mem_of_getElem? (i := 10) rfl)) (rmB l Z a0 hw [] b17 x10 k10 z6 z7 z8 vs10 C10 hj7.1 hj8.1 h17 n0 gn17 (Nat.le_trans Z0 Q_17.1) A17 F_value_b17 F_coder_b17 cs hcs (SCP.ext Q_17) V_x10_17) e17 hEL CR_17.1 hS Sz_17 (by decide) (by decide) (by decide) (by decide) (by decide) (by rw [hml]; rfl) (lenOf pd___C_V rfl) (Nat.le_of_eq rfl) (hb hby at_279) ?_
              intro T18 v18 L18 X18 hQ18 hS hZ hown C18
              obtain ⟨h18, e18⟩ : ∃ z, T18.heap = z := ⟨_, rfl⟩
              rw [e18] at hQ18 C18
              have CR_18 := CR_17.trans C18
              have Sz_18 := Nat.le_of_eq (congrArg Array.size e18)
              obtain ⟨rfl, N18, K18, Fc18, b18, kb18, vs18, C_18, Fv18, V18⟩ := hQ18
              have M18 := Fr.app M16 N18
              have Q_18 : Ext h0 h18 := own_extK Q_17 K18 (allS sz17 all0)
              have V_x4_18 := V_x4_17.keep K18 (ninS (Nat.ne_of_lt (Nat.lt_of_lt_of_le V_x4_16.lt (Nat.le_of_eq g17.symm))) nin0)
              have V_x5_18 := V_x5_17.keep K18 (ninS (Nat.ne_of_lt (Nat.lt_of_lt_of_le V_x5_16.lt (Nat.le_of_eq g17.symm))) nin0)
              have V_x9_18 := V_x9_17.keep K18 (ninS (Nat.ne_of_lt (Nat.lt_of_lt_of_le V_x9_16.lt (Nat.le_of_eq g17.symm))) nin0)
              have V_x10_18 := V_x10_17.keep K18 (ninS (Nat.ne_of_lt (Nat.lt_of_lt_of_le V_x10_16.lt (Nat.le_of_eq g17.symm))) nin0)
              have E_b11_18 := E_b11_17.keep K18
              have F_coder_b11_18 := F_coder_b11_17.keep K18 (ninS (Nat.ne_of_lt (Nat.lt_of_lt_of_le E_b11_16.lt (Nat.le_of_eq g17.symm))) nin0)
              have F_value_b11_18 := F_value_b11_17.keep K18 (ninS (Nat.ne_of_lt (Nat.lt_of_lt_of_le E_b11_16.lt (Nat.le_of_eq g17.symm))) nin0)
              have V_b12_18 := V_b12_17.keep K18 (ninS (Nat.ne_of_lt (Nat.lt_of_lt_of_le V_b12_16.lt (Nat.le_of_eq g17.symm))) nin0)
              have E_b13_18 := E_b13_17.keep K18
              have F_coder_b13_18 := F_coder_b13_17.keep K18 (ninS (Nat.ne_of_lt (Nat.lt_of_lt_of_le E_b13_16.lt (Nat.le_of_eq g17.symm))) nin0)
              have F_value_b13_18 := F_value_b13_17.keep K18 (ninS (Nat.ne_of_lt (Nat.lt_of_lt_of_le E_b13_16.lt (Nat.le_of_eq g17.symm))) nin0)
              have V_b14_18 := V_b14_17.keep K18 (ninS (Nat.ne_of_lt (Nat.lt_of_lt_of_le V_b14_16.lt (Nat.le_of_eq g17.symm))) nin0)
              have E_b15_18 := E_b15_17.keep K18
              have F_coder_b15_18 := F_coder_b15_17.keep K18 (ninS (Nat.ne_of_lt (Nat.lt_of_lt_of_le E_b15_16.lt (Nat.le_of_eq g17.symm))) nin0)
              have F_value_b15_18 := F_value_b15_17.keep K18 (ninS (Nat.ne_of_lt (Nat.lt_of_lt_of_le E_b15_16.lt (Nat.le_of_eq g17.symm))) nin0)
              have V_b16_18 := V_b16_17.keep K18 (ninS (Nat.ne_of_lt (Nat.lt_of_lt_of_le V16.lt (Nat.le_of_eq g17.symm))) nin0)
              have E_b17_18 := A17.keep K18
              show GoW Z EL0 p e s below _ _ _ T18 (mkF m 282 #[.val (.int p0), .val (.int p1), .val (.int p2), .val (.int p3), .val (.int q4), .val (.int z1), .val (.int q6), .val (.int q7), .val (.int z2), .val (.int z3), .val (.ref x4), .val (.ref x5), .val (.int q12), .val (.int z6), .val (.int q14), .val (.int q15), .val (.int z7), .val (.int z8), .val (.ref x9), .val (.ref x10), .val (.ref b11), .val (.ref b13), .val (.ref b15), .unset, .unset, .unset, .unset, .unset, .unset, .unset] [(.ref b17)])
              refine GoW.st (fun _ kont => XS.astore X18.here hx rfl (hb hby at_282) rfl rfl (l' := #[.val (.int p0), .val (.int p1), .val (.int p2), .val (.int p3), .val (.int q4), .val (.int z1), .val (.int q6), .val (.int q7), .val (.int z2), .val (.int z3), .val (.ref x4), .val (.ref x5), .val (.int q12), .val (.int z6), .val (.int q14), .val (.int q15), .val (.int z7), .val (.int z8), .val (.ref x9), .val (.ref x10), .val (.ref b11), .val (.ref b13), .val (.ref b15), .val (.ref b17), .unset, .unset, .unset, .unset, .unset, .unset]) rfl kont) ?_
              show GoW Z EL0 p e s below _ _ _ T18 (mkF m 284 #[.val (.int p0), .val (.int p1), .val (.int p2), .val (.int p3), .val (.int q4), .val (.int z1), .val (.int q6), .val (.int q7), .val (.int z2), .val (.int z3), .val (.ref x4), .val (.ref x5), .val (.int q12), .val (.int z6), .val (.int q14), .val (.int q15), .val (.int z7), .val (.int z8), .val (.ref x9), .val (.ref x10), .val (.ref b11), .val (.ref b13), .val (.ref b15), .val (.ref b17), .unset, .unset, .unset, .unset, .unset, .unset] [])
              refine GoW.st (fun _ kont => XS.iload X18.here hx rfl (hb hby at_284) rfl kont) ?_
              show GoW Z EL0 p e s below _ _ _ T18 (mkF m 286 #[.val (.int p0), .val (.int p1), .val (.int p2), .val (.int p3), .val (.int q4), .val (.int z1), .val (.int q6), .val (.int q7), .val (.int z2), .val (.int z3), .val (.ref x4), .val (.ref x5), .val (.int q12), .val (.int z6), .val (.int q14), .val (.int q15), .val (.int z7), .val (.int z8), .val (.ref x9), .val (.ref x10), .val (.ref b11), .val (.ref b13), .val (.ref b15), .val (.ref b17), .unset, .unset, .unset, .unset, .unset, .unset] [(.int q4)])
              refine GoW.st (fun _ kont => XS.iload X18.here hx rfl (hb hby at_286) rfl kont) ?_
              show GoW Z EL0 p e s below _ _ _ T18 (mkF m 288 #[.val (.int p0), .val (.int p1), .val (.int p2), .val (.int p3), .val (.int q4), .val (.int z1), .val (.int q6), .val (.int q7), .val (.int z2), .val (.int z3), .val (.ref x4), .val (.ref x5), .val (.int q12), .val (.int z6), .val (.int q14), .val (.int q15), .val (.int z7), .val (.int z8), .val (.ref x9), .val (.ref x10), .val (.ref b11), .val (.ref b13), .val (.ref b15), .val (.ref b17), .unset, .unset, .unset, .unset, .unset, .unset] [(.int z1), (.int q4)])
              have J19 : ∀ z19 : Int32, (SK q4 z1 q6 q7 z2 z3 → z19 = 1) ∧ (¬ SK q4 z1 q6 q7 z2 z3 → z19 = 0) → GoW Z EL0 p e s below (fun v h L => v = some (.int 1) ∧ Fr n0 L) room_1.cells room_1.slots T18 (mkF m 322 #[.val (.int p0), .val (.int p1), .val (.int p2), .val (.int p3), .val (.int q4), .val (.int z1), .val (.int q6), .val (.int q7), .val (.int z2), .val (.int z3), .val (.ref x4), .val (.ref x5), .val (.int q12), .val (.int z6), .val (.int q14), .val (.int q15), .val (.int z7), .val (.int z8), .val (.ref x9), .val (.ref x10), .val (.ref b11), .val (.ref b13), .val (.ref b15), .val (.ref b17), .unset, .unset, .unset, .unset, .unset, .unset] [(.int z19)]) := by
                intro z19 hj19
                show GoW Z EL0 p e s below _ _ _ T18 (mkF m 322 #[.val (.int p0), .val (.int p1), .val (.int p2), .val (.int p3), .val (.int q4), .val (.int z1), .val (.int q6), .val (.int q7), .val (.int z2), .val (.int z3), .val (.ref x4), .val (.ref x5), .val (.int q12), .val (.int z6), .val (.int q14), .val (.int q15), .val (.int z7), .val (.int z8), .val (.ref x9), .val (.ref x10), .val (.ref b11), .val (.ref b13), .val (.ref b15), .val (.ref b17), .unset, .unset, .unset, .unset, .unset, .unset] [(.int z19)])
                refine GoW.st (fun _ kont => XS.istore X18.here hx rfl (hb hby at_322) rfl (l' := #[.val (.int p0), .val (.int p1), .val (.int p2), .val (.int p3), .val (.int q4), .val (.int z1), .val (.int q6), .val (.int q7), .val (.int z2), .val (.int z3), .val (.ref x4), .val (.ref x5), .val (.int q12), .val (.int z6), .val (.int q14), .val (.int q15), .val (.int z7), .val (.int z8), .val (.ref x9), .val (.ref x10), .val (.ref b11), .val (.ref b13), .val (.ref b15), .val (.ref b17), .val (.int z19), .unset, .unset, .unset, .unset, .unset]) rfl kont) ?_
                show GoW Z EL0 p e s below _ _ _ T18 (mkF m 324 #[.val (.int p0), .val (.int p1), .val (.int p2), .val (.int p3), .val (.int q4), .val (.int z1), .val (.int q6), .val (.int q7), .val (.int z2), .val (.int z3), .val (.ref x4), .val (.ref x5), .val (.int q12), .val (.int z6), .val (.int q14), .val (.int q15), .val (.int z7), .val (.int z8), .val (.ref x9), .val (.ref x10), .val (.ref b11), .val (.ref b13), .val (.ref b15), .val (.ref b17), .val (.int z19), .unset, .unset, .unset, .unset, .unset] [])
                obtain ⟨T20, h20, X20, e20, E20, A20, D20, -, st20⟩ := newO X18 hx hZ hown (hw _ (List.mem_of_getElem? (i := 37) rfl)) (hw _ (List.mem_of_getElem? (i := 38) rfl)) (hw _ (List.mem_of_getElem? (i := 39) rfl)) e18 (g := (mkF m 324 #[.val (.int p0), .val (.int p1), .val (.int p2), .val (.int p3), .val (.int q4), .val (.int z1), .val (.int q6), .val (.int q7), .val (.int z2), .val (.int z3), .val (.ref x4), .val (.ref x5), .val (.int q12), .val (.int z6), .val (.int q14), .val (.int q15), .val (.int z7), .val (.int z8), .val (.ref x9), .val (.ref x10), .val (.ref b11), .val (.ref b13), .val (.ref b15), .val (.ref b17), .val (.int z19), .unset, .unset, .unset, .unset, .unset] [])) rfl (hb hby at_324) (by decide) (by decide)
                obtain ⟨b20, g20⟩ : ∃ z, z = h18.size := ⟨_, rfl⟩
                rw [← g20] at A20 D20 st20
                have sz20 : h0.size ≤ b20 := Nat.le_trans Q_18.1 (Nat.le_of_eq g20.symm)
                have gn20 : n0 ≤ b20 := Nat.le_trans Z0 sz20
                refine GoW.st st20 ?_
                have CR_20 := CR_18.trans (CHr.ext E20 CR_18.1)
                have Sz_20 := Nat.le_trans Sz_18 E20.1
                have Q_20 : Ext h0 h20 := own_extE Q_18 E20
                have V_x4_20 := V_x4_18.ext E20
                have V_x5_20 := V_x5_18.ext E20
                have V_x9_20 := V_x9_18.ext E20
                have V_x10_20 := V_x10_18.ext E20
                have E_b11_20 := E_b11_18.ext E20
                have F_coder_b11_20 := F_coder_b11_18.ext E20
                have F_value_b11_20 := F_value_b11_18.ext E20
                have V_b12_20 := V_b12_18.ext E20
                have E_b13_20 := E_b13_18.ext E20
                have F_coder_b13_20 := F_coder_b13_18.ext E20
                have F_value_b13_20 := F_value_b13_18.ext E20
                have V_b14_20 := V_b14_18.ext E20
                have E_b15_20 := E_b15_18.ext E20
                have F_coder_b15_20 := F_coder_b15_18.ext E20
                have F_value_b15_20 := F_value_b15_18.ext E20
                have V_b16_20 := V_b16_18.ext E20
                have E_b17_20 := E_b17_18.ext E20
                have F_coder_b17_20 := Fc18.ext E20
                have F_value_b17_20 := Fv18.ext E20
                have V_b18_20 := V18.ext E20
                have F_key_b20 : Fld Z h20 b20 "com/example/covenant/covenant/ElementaryCondition" "key" "Ljava/lang/String;" .null := D20 (Or.inr (hw _ (List.mem_of_getElem? (i := 50) rfl))) (ty := (.object "java/lang/String")) (by decide)
                have F_text_b20 : Fld Z h20 b20 "com/example/covenant/covenant/ElementaryCondition" "text" "Ljava/lang/String;" .null := D20 (Or.inr (hw _ (List.mem_of_getElem? (i := 52) rfl))) (ty := (.object "java/lang/String")) (by decide)
                show GoW Z EL0 p e s below _ _ _ T20 (mkF m 327 #[.val (.int p0), .val (.int p1), .val (.int p2), .val (.int p3), .val (.int q4), .val (.int z1), .val (.int q6), .val (.int q7), .val (.int z2), .val (.int z3), .val (.ref x4), .val (.ref x5), .val (.int q12), .val (.int z6), .val (.int q14), .val (.int q15), .val (.int z7), .val (.int z8), .val (.ref x9), .val (.ref x10), .val (.ref b11), .val (.ref b13), .val (.ref b15), .val (.ref b17), .val (.int z19), .unset, .unset, .unset, .unset, .unset] [(.ref b20)])
                refine GoW.st (fun _ kont => XS.dup X20.here hx rfl (hb hby at_327) rfl rfl kont) ?_
                show GoW Z EL0 p e s below _ _ _ T20 (mkF m 328 #[.val (.int p0), .val (.int p1), .val (.int p2), .val (.int p3), .val (.int q4), .val (.int z1), .val (.int q6), .val (.int q7), .val (.int z2), .val (.int z3), .val (.ref x4), .val (.ref x5), .val (.int q12), .val (.int z6), .val (.int q14), .val (.int q15), .val (.int z7), .val (.int z8), .val (.ref x9), .val (.ref x10), .val (.ref b11), .val (.ref b13), .val (.ref b15), .val (.ref b17), .val (.int z19), .unset, .unset, .unset, .unset, .unset] [(.ref b20), (.ref b20)])
                refine GoW.st (fun _ kont => XS.aload X20.here hx rfl (hb hby at_328) rfl rfl kont) ?_
                show GoW Z EL0 p e s below _ _ _ T20 (mkF m 330 #[.val (.int p0), .val (.int p1), .val (.int p2), .val (.int p3), .val (.int q4), .val (.int z1), .val (.int q6), .val (.int q7), .val (.int z2), .val (.int z3), .val (.ref x4), .val (.ref x5), .val (.int q12), .val (.int z6), .val (.int q14), .val (.int q15), .val (.int z7), .val (.int z8), .val (.ref x9), .val (.ref x10), .val (.ref b11), .val (.ref b13), .val (.ref b15), .val (.ref b17), .val (.int z19), .unset, .unset, .unset, .unset, .unset] [(.ref b11), (.ref b20), (.ref b20)])
                refine GoW.st (fun _ kont => XS.aload X20.here hx rfl (hb hby at_330) rfl rfl kont) ?_
                show GoW Z EL0 p e s below _ _ _ T20 (mkF m 332 #[.val (.int p0), .val (.int p1), .val (.int p2), .val (.int p3), .val (.int q4), .val (.int z1), .val (.int q6), .val (.int q7), .val (.int z2), .val (.int z3), .val (.ref x4), .val (.ref x5), .val (.int q12), .val (.int z6), .val (.int q14), .val (.int q15), .val (.int z7), .val (.int z8), .val (.ref x9), .val (.ref x10), .val (.ref b11), .val (.ref b13), .val (.ref b15), .val (.ref b17), .val (.int z19), .unset, .unset, .unset, .unset, .unset] [(.ref b15), (.ref b11), (.ref b20), (.ref b20)])
                refine GoW.callC (b := b20) (W := 1) (argsL := [(.ref b11), (.ref b15)]) (rest := [(.ref b20)]) X20 hx hZ (y := (⟨"com/example/covenant/covenant/ElementaryCondition", "<init>", "(Ljava/lang/String;Ljava/lang/String;)V"⟩ : MethodName)) rfl hown (hw _ (List.mem_of_getElem? (i := 40) rfl)) (hw _ (List.mem_of_getElem? (i := 41) rfl)) (hw _ (List.mem_of_getElem? (i := 39) rfl)) (hw _ (List.mem_of_getElem? (i := 42) rfl)) (rmI l Z a0 hw [] b20 b11 b15 h20 n0 gn20 A20 F_key_b20 F_text_b20) e20 (by decide) (by decide) (by decide) (by decide) (by decide) (by rw [hml]; rfl) (lenOf pd__Ljava_lang_String_Ljava_lang_String__V rfl) (Nat.le_of_eq rfl) (hb hby at_332) ?_
                intro T21 v21 L21 X21 hQ21
                obtain ⟨h21, e21⟩ : ∃ z, T21.heap = z := ⟨_, rfl⟩
                rw [e21] at hQ21
                obtain ⟨rfl, N21, K21, F_key_b20_21, F_text_b20_21⟩ := hQ21
                have M21 := Fr.app M18 N21
                have CR_21 := CR_20.trans (CHr.keep K21 (allS (Safe.exa hZ.alike A20 (by decide) (by decide)) all0) CR_20.1)
                have Sz_21 := Nat.le_trans Sz_20 K21.1
                have Q_21 : Ext h0 h21 := own_extK Q_20 K21 (allS sz20 all0)
                have V_x4_21 := V_x4_20.keep K21 (ninS (Nat.ne_of_lt (Nat.lt_of_lt_of_le V_x4_18.lt (Nat.le_of_eq g20.symm))) nin0)
                have V_x5_21 := V_x5_20.keep K21 (ninS (Nat.ne_of_lt (Nat.lt_of_lt_of_le V_x5_18.lt (Nat.le_of_eq g20.symm))) nin0)
                have V_x9_21 := V_x9_20.keep K21 (ninS (Nat.ne_of_lt (Nat.lt_of_lt_of_le V_x9_18.lt (Nat.le_of_eq g20.symm))) nin0)
                have V_x10_21 := V_x10_20.keep K21 (ninS (Nat.ne_of_lt (Nat.lt_of_lt_of_le V_x10_18.lt (Nat.le_of_eq g20.symm))) nin0)
                have E_b11_21 := E_b11_20.keep K21
                have F_coder_b11_21 := F_coder_b11_20.keep K21 (ninS (Nat.ne_of_lt (Nat.lt_of_lt_of_le E_b11_18.lt (Nat.le_of_eq g20.symm))) nin0)
                have F_value_b11_21 := F_value_b11_20.keep K21 (ninS (Nat.ne_of_lt (Nat.lt_of_lt_of_le E_b11_18.lt (Nat.le_of_eq g20.symm))) nin0)
                have V_b12_21 := V_b12_20.keep K21 (ninS (Nat.ne_of_lt (Nat.lt_of_lt_of_le V_b12_18.lt (Nat.le_of_eq g20.symm))) nin0)
                have E_b13_21 := E_b13_20.keep K21
                have F_coder_b13_21 := F_coder_b13_20.keep K21 (ninS (Nat.ne_of_lt (Nat.lt_of_lt_of_le E_b13_18.lt (Nat.le_of_eq g20.symm))) nin0)
                have F_value_b13_21 := F_value_b13_20.keep K21 (ninS (Nat.ne_of_lt (Nat.lt_of_lt_of_le E_b13_18.lt (Nat.le_of_eq g20.symm))) nin0)
                have V_b14_21 := V_b14_20.keep K21 (ninS (Nat.ne_of_lt (Nat.lt_of_lt_of_le V_b14_18.lt (Nat.le_of_eq g20.symm))) nin0)
                have E_b15_21 := E_b15_20.keep K21
                have F_coder_b15_21 := F_coder_b15_20.keep K21 (ninS (Nat.ne_of_lt (Nat.lt_of_lt_of_le E_b15_18.lt (Nat.le_of_eq g20.symm))) nin0)
                have F_value_b15_21 := F_value_b15_20.keep K21 (ninS (Nat.ne_of_lt (Nat.lt_of_lt_of_le E_b15_18.lt (Nat.le_of_eq g20.symm))) nin0)
                have V_b16_21 := V_b16_20.keep K21 (ninS (Nat.ne_of_lt (Nat.lt_of_lt_of_le V_b16_18.lt (Nat.le_of_eq g20.symm))) nin0)
                have E_b17_21 := E_b17_20.keep K21
                have F_coder_b17_21 := F_coder_b17_20.keep K21 (ninS (Nat.ne_of_lt (Nat.lt_of_lt_of_le E_b17_18.lt (Nat.le_of_eq g20.symm))) nin0)
                have F_value_b17_21 := F_value_b17_20.keep K21 (ninS (Nat.ne_of_lt (Nat.lt_of_lt_of_le E_b17_18.lt (Nat.le_of_eq g20.symm))) nin0)
                have V_b18_21 := V_b18_20.keep K21 (ninS (Nat.ne_of_lt (Nat.lt_of_lt_of_le V18.lt (Nat.le_of_eq g20.symm))) nin0)
                have E_b20_21 := A20.keep K21
                show GoW Z EL0 p e s below _ _ _ T21 (mkF m 335 #[.val (.int p0), .val (.int p1), .val (.int p2), .val (.int p3), .val (.int q4), .val (.int z1), .val (.int q6), .val (.int q7), .val (.int z2), .val (.int z3), .val (.ref x4), .val (.ref x5), .val (.int q12), .val (.int z6), .val (.int q14), .val (.int q15), .val (.int z7), .val (.int z8), .val (.ref x9), .val (.ref x10), .val (.ref b11), .val (.ref b13), .val (.ref b15), .val (.ref b17), .val (.int z19), .unset, .unset, .unset, .unset, .unset] [(.ref b20)])
                refine GoW.st (fun _ kont => XS.astore X21.here hx rfl (hb hby at_335) rfl rfl (l' := #[.val (.int p0), .val (.int p1), .val (.int p2), .val (.int p3), .val (.int q4), .val (.int z1), .val (.int q6), .val (.int q7), .val (.int z2), .val (.int z3), .val (.ref x4), .val (.ref x5), .val (.int q12), .val (.int z6), .val (.int q14), .val (.int q15), .val (.int z7), .val (.int z8), .val (.ref x9), .val (.ref x10), .val (.ref b11), .val (.ref b13), .val (.ref b15), .val (.ref b17), .val (.int z19), .val (.ref b20), .unset, .unset, .unset, .unset]) rfl kont) ?_
                show GoW Z EL0 p e s below _ _ _ T21 (mkF m 337 #[.val (.int p0), .val (.int p1), .val (.int p2), .val (.int p3), .val (.int q4), .val (.int z1), .val (.int q6), .val (.int q7), .val (.int z2), .val (.int z3), .val (.ref x4), .val (.ref x5), .val (.int q12), .val (.int z6), .val (.int q14), .val (.int q15), .val (.int z7), .val (.int z8), .val (.ref x9), .val (.ref x10), .val (.ref b11), .val (.ref b13), .val (.ref b15), .val (.ref b17), .val (.int z19), .val (.ref b20), .unset, .unset, .unset, .unset] [])
                refine GoW.st (fun _ kont => XS.iloadN X21.here hx rfl (hb hby at_337) rfl kont) ?_
                show GoW Z EL0 p e s below _ _ _ T21 (mkF m 338 #[.val (.int p0), .val (.int p1), .val (.int p2), .val (.int p3), .val (.int q4), .val (.int z1), .val (.int q6), .val (.int q7), .val (.int z2), .val (.int z3), .val (.ref x4), .val (.ref x5), .val (.int q12), .val (.int z6), .val (.int q14), .val (.int q15), .val (.int z7), .val (.int z8), .val (.ref x9), .val (.ref x10), .val (.ref b11), .val (.ref b13), .val (.ref b15), .val (.ref b17), .val (.int z19), .val (.ref b20), .unset, .unset, .unset, .unset] [(.int p3)])
                refine GoW.st (fun _ kont => XT.bipushV X21.here hx rfl (9 : Int32) (hb hby at_338) (by decide) kont) ?_
                show GoW Z EL0 p e s below _ _ _ T21 (mkF m 340 #[.val (.int p0), .val (.int p1), .val (.int p2), .val (.int p3), .val (.int q4), .val (.int z1), .val (.int q6), .val (.int q7), .val (.int z2), .val (.int z3), .val (.ref x4), .val (.ref x5), .val (.int q12), .val (.int z6), .val (.int q14), .val (.int q15), .val (.int z7), .val (.int z8), .val (.ref x9), .val (.ref x10), .val (.ref b11), .val (.ref b13), .val (.ref b15), .val (.ref b17), .val (.int z19), .val (.ref b20), .unset, .unset, .unset, .unset] [(.int (9 : Int32)), (.int p3)])
                refine GoW.st (fun _ kont => XS.iushr X21.here hx rfl (hb hby at_340) rfl kont) ?_
                show GoW Z EL0 p e s below _ _ _ T21 (mkF m 341 #[.val (.int p0), .val (.int p1), .val (.int p2), .val (.int p3), .val (.int q4), .val (.int z1), .val (.int q6), .val (.int q7), .val (.int z2), .val (.int z3), .val (.ref x4), .val (.ref x5), .val (.int q12), .val (.int z6), .val (.int q14), .val (.int q15), .val (.int z7), .val (.int z8), .val (.ref x9), .val (.ref x10), .val (.ref b11), .val (.ref b13), .val (.ref b15), .val (.ref b17), .val (.int z19), .val (.ref b20), .unset, .unset, .unset, .unset] [(.int ((p3.toUInt32 >>> ((9 : Int32) &&& 31).toUInt32).toInt32))])
                refine GoW.st (fun _ kont => XT.iconstV X21.here hx rfl (3 : Int32) (hb hby at_341) (by decide) kont) ?_
                show GoW Z EL0 p e s below _ _ _ T21 (mkF m 342 #[.val (.int p0), .val (.int p1), .val (.int p2), .val (.int p3), .val (.int q4), .val (.int z1), .val (.int q6), .val (.int q7), .val (.int z2), .val (.int z3), .val (.ref x4), .val (.ref x5), .val (.int q12), .val (.int z6), .val (.int q14), .val (.int q15), .val (.int z7), .val (.int z8), .val (.ref x9), .val (.ref x10), .val (.ref b11), .val (.ref b13), .val (.ref b15), .val (.ref b17), .val (.int z19), .val (.ref b20), .unset, .unset, .unset, .unset] [(.int (3 : Int32)), (.int ((p3.toUInt32 >>> ((9 : Int32) &&& 31).toUInt32).toInt32))])
                refine GoW.st (fun _ kont => XS.iand X21.here hx rfl (hb hby at_342) rfl kont) ?_
                show GoW Z EL0 p e s below _ _ _ T21 (mkF m 343 #[.val (.int p0), .val (.int p1), .val (.int p2), .val (.int p3), .val (.int q4), .val (.int z1), .val (.int q6), .val (.int q7), .val (.int z2), .val (.int z3), .val (.ref x4), .val (.ref x5), .val (.int q12), .val (.int z6), .val (.int q14), .val (.int q15), .val (.int z7), .val (.int z8), .val (.ref x9), .val (.ref x10), .val (.ref b11), .val (.ref b13), .val (.ref b15), .val (.ref b17), .val (.int z19), .val (.ref b20), .unset, .unset, .unset, .unset] [(.int (((p3.toUInt32 >>> ((9 : Int32) &&& 31).toUInt32).toInt32) &&& (3 : Int32)))])
                refine GoW.st (fun _ kont => XT.iconstV X21.here hx rfl (3 : Int32) (hb hby at_343) (by decide) kont) ?_
                show GoW Z EL0 p e s below _ _ _ T21 (mkF m 344 #[.val (.int p0), .val (.int p1), .val (.int p2), .val (.int p3), .val (.int q4), .val (.int z1), .val (.int q6), .val (.int q7), .val (.int z2), .val (.int z3), .val (.ref x4), .val (.ref x5), .val (.int q12), .val (.int z6), .val (.int q14), .val (.int q15), .val (.int z7), .val (.int z8), .val (.ref x9), .val (.ref x10), .val (.ref b11), .val (.ref b13), .val (.ref b15), .val (.ref b17), .val (.int z19), .val (.ref b20), .unset, .unset, .unset, .unset] [(.int (3 : Int32)), (.int (((p3.toUInt32 >>> ((9 : Int32) &&& 31).toUInt32).toInt32) &&& (3 : Int32)))])
                refine GoW.st (fun _ kont => iremM X21 hx rfl (hb hby at_344) rfl (by decide) kont) ?_
                show GoW Z EL0 p e s below _ _ _ T21 (mkF m 345 #[.val (.int p0), .val (.int p1), .val (.int p2), .val (.int p3), .val (.int q4), .val (.int z1), .val (.int q6), .val (.int q7), .val (.int z2), .val (.int z3), .val (.ref x4), .val (.ref x5), .val (.int q12), .val (.int z6), .val (.int q14), .val (.int q15), .val (.int z7), .val (.int z8), .val (.ref x9), .val (.ref x10), .val (.ref b11), .val (.ref b13), .val (.ref b15), .val (.ref b17), .val (.int z19), .val (.ref b20), .unset, .unset, .unset, .unset] [(.int ((((p3.toUInt32 >>> ((9 : Int32) &&& 31).toUInt32).toInt32) &&& (3 : Int32)) % (3 : Int32)))])
                refine GoW.st (fun _ kont => XS.istore X21.here hx rfl (hb hby at_345) rfl (l' := #[.val (.int p0), .val (.int p1), .val (.int p2), .val (.int p3), .val (.int q4), .val (.int z1), .val (.int q6), .val (.int q7), .val (.int z2), .val (.int z3), .val (.ref x4), .val (.ref x5), .val (.int q12), .val (.int z6), .val (.int q14), .val (.int q15), .val (.int z7), .val (.int z8), .val (.ref x9), .val (.ref x10), .val (.ref b11), .val (.ref b13), .val (.ref b15), .val (.ref b17), .val (.int z19), .val (.ref b20), .val (.int ((((p3.toUInt32 >>> ((9 : Int32) &&& 31).toUInt32).toInt32) &&& (3 : Int32)) % (3 : Int32))), .unset, .unset, .unset]) rfl kont) ?_
                show GoW Z EL0 p e s below _ _ _ T21 (mkF m 347 #[.val (.int p0), .val (.int p1), .val (.int p2), .val (.int p3), .val (.int q4), .val (.int z1), .val (.int q6), .val (.int q7), .val (.int z2), .val (.int z3), .val (.ref x4), .val (.ref x5), .val (.int q12), .val (.int z6), .val (.int q14), .val (.int q15), .val (.int z7), .val (.int z8), .val (.ref x9), .val (.ref x10), .val (.ref b11), .val (.ref b13), .val (.ref b15), .val (.ref b17), .val (.int z19), .val (.ref b20), .val (.int ((((p3.toUInt32 >>> ((9 : Int32) &&& 31).toUInt32).toInt32) &&& (3 : Int32)) % (3 : Int32))), .unset, .unset, .unset] [])
                refine GoW.st (fun _ kont => XS.iload X21.here hx rfl (hb hby at_347) rfl kont) ?_
                show GoW Z EL0 p e s below _ _ _ T21 (mkF m 349 #[.val (.int p0), .val (.int p1), .val (.int p2), .val (.int p3), .val (.int q4), .val (.int z1), .val (.int q6), .val (.int q7), .val (.int z2), .val (.int z3), .val (.ref x4), .val (.ref x5), .val (.int q12), .val (.int z6), .val (.int q14), .val (.int q15), .val (.int z7), .val (.int z8), .val (.ref x9), .val (.ref x10), .val (.ref b11), .val (.ref b13), .val (.ref b15), .val (.ref b17), .val (.int z19), .val (.ref b20), .val (.int ((((p3.toUInt32 >>> ((9 : Int32) &&& 31).toUInt32).toInt32) &&& (3 : Int32)) % (3 : Int32))), .unset, .unset, .unset] [(.int ((((p3.toUInt32 >>> ((9 : Int32) &&& 31).toUInt32).toInt32) &&& (3 : Int32)) % (3 : Int32)))])
                by_cases hc349_22 : ((((p3.toUInt32 >>> ((9 : Int32) &&& 31).toUInt32).toInt32) &&& (3 : Int32)) % (3 : Int32)) = (0 : Int32)
                · --
                  refine GoW.st (fun _ kont => XS.ifNo X21.here hx rfl (hb hby at_349) rfl ((if0 _ _).trans (teq hc349_22).2) kont) ?_
                  show GoW Z EL0 p e s below _ _ _ T21 (mkF m 352 #[.val (.int p0), .val (.int p1), .val (.int p2), .val (.int p3), .val (.int q4), .val (.int z1), .val (.int q6), .val (.int q7), .val (.int z2), .val (.int z3), .val (.ref x4), .val (.ref x5), .val (.int q12), .val (.int z6), .val (.int q14), .val (.int q15), .val (.int z7), .val (.int z8), .val (.ref x9), .val (.ref x10), .val (.ref b11), .val (.ref b13), .val (.ref b15), .val (.ref b17), .val (.int z19), .val (.ref b20), .val (.int ((((p3.toUInt32 >>> ((9 : Int32) &&& 31).toUInt32).toInt32) &&& (3 : Int32)) % (3 : Int32))), .unset, .unset, .unset] [])
                  obtain ⟨T23, h23, X23, e23, E23, A23, D23, -, st23⟩ := newO X21 hx hZ hown (hw _ (List.mem_of_getElem? (i := 37) rfl)) (hw _ (List.mem_of_getElem? (i := 38) rfl)) (hw _ (List.mem_of_getElem? (i := 39) rfl)) e21 (g := (mkF m 352 #[.val (.int p0), .val (.int p1), .val (.int p2), .val (.int p3), .val (.int q4), .val (.int z1), .val (.int q6), .val (.int q7), .val (.int z2), .val (.int z3), .val (.ref x4), .val (.ref x5), .val (.int q12), .val (.int z6), .val (.int q14), .val (.int q15), .val (.int z7), .val (.int z8), .val (.ref x9), .val (.ref x10), .val (.ref b11), .val (.ref b13), .val (.ref b15), .val (.ref b17), .val (.int z19), .val (.ref b20), .val (.int ((((p3.toUInt32 >>> ((9 : Int32) &&& 31).toUInt32).toInt32) &&& (3 : Int32)) % (3 : Int32))), .unset, .unset, .unset] [])) rfl (hb hby at_352) (by decide) (by decide)
                  obtain ⟨b23, g23⟩ : ∃ z, z = h21.size := ⟨_, rfl⟩
                  rw [← g23] at A23 D23 st23
                  have sz23 : h0.size ≤ b23 := Nat.le_trans Q_21.1 (Nat.le_of_eq g23.symm)
                  have gn23 : n0 ≤ b23 := Nat.le_trans Z0 sz23
                  refine GoW.st st23 ?_
                  have CR_23 := CR_21.trans (CHr.ext E23 CR_21.1)
                  have Sz_23 := Nat.le_trans Sz_21 E23.1
                  have Q_23 : Ext h0 h23 := own_extE Q_21 E23
                  have V_x4_23 := V_x4_21.ext E23
                  have V_x5_23 := V_x5_21.ext E23
                  have V_x9_23 := V_x9_21.ext E23
                  have V_x10_23 := V_x10_21.ext E23
                  have E_b11_23 := E_b11_21.ext E23
                  have F_coder_b11_23 := F_coder_b11_21.ext E23
                  have F_value_b11_23 := F_value_b11_21.ext E23
                  have V_b12_23 := V_b12_21.ext E23
                  have E_b13_23 := E_b13_21.ext E23
                  have F_coder_b13_23 := F_coder_b13_21.ext E23
                  have F_value_b13_23 := F_value_b13_21.ext E23
                  have V_b14_23 := V_b14_21.ext E23
                  have E_b15_23 := E_b15_21.ext E23
                  have F_coder_b15_23 := F_coder_b15_21.ext E23
                  have F_value_b15_23 := F_value_b15_21.ext E23
                  have V_b16_23 := V_b16_21.ext E23
                  have E_b17_23 := E_b17_21.ext E23
                  have F_coder_b17_23 := F_coder_b17_21.ext E23
                  have F_value_b17_23 := F_value_b17_21.ext E23
                  have V_b18_23 := V_b18_21.ext E23
                  have E_b20_23 := E_b20_21.ext E23
                  have F_key_b20_23 := F_key_b20_21.ext E23
                  have F_text_b20_23 := F_text_b20_21.ext E23
                  have F_key_b23 : Fld Z h23 b23 "com/example/covenant/covenant/ElementaryCondition" "key" "Ljava/lang/String;" .null := D23 (Or.inr (hw _ (List.mem_of_getElem? (i := 50) rfl))) (ty := (.object "java/lang/String")) (by decide)
                  have F_text_b23 : Fld Z h23 b23 "com/example/covenant/covenant/ElementaryCondition" "text" "Ljava/lang/String;" .null := D23 (Or.inr (hw _ (List.mem_of_getElem? (i := 52) rfl))) (ty := (.object "java/lang/String")) (by decide)
                  show GoW Z EL0 p e s below _ _ _ T23 (mkF m 355 #[.val (.int p0), .val (.int p1), .val (.int p2), .val (.int p3), .val (.int q4), .val (.int z1), .val (.int q6), .val (.int q7), .val (.int z2), .val (.int z3), .val (.ref x4), .val (.ref x5), .val (.int q12), .val (.int z6), .val (.int q14), .val (.int q15), .val (.int z7), .val (.int z8), .val (.ref x9), .val (.ref x10), .val (.ref b11), .val (.ref b13), .val (.ref b15), .val (.ref b17), .val (.int z19), .val (.ref b20), .val (.int ((((p3.toUInt32 >>> ((9 : Int32) &&& 31).toUInt32).toInt32) &&& (3 : Int32)) % (3 : Int32))), .unset, .unset, .unset] [(.ref b23)])
                  refine GoW.st (fun _ kont => XS.dup X23.here hx rfl (hb hby at_355) rfl rfl kont) ?_
                  show GoW Z EL0 p e s below _ _ _ T23 (mkF m 356 #[.val (.int p0), .val (.int p1), .val (.int p2), .val (.int p3), .val (.int q4), .val (.int z1), .val (.int q6), .val (.int q7), .val (.int z2), .val (.int z3), .val (.ref x4), .val (.ref x5), .val (.int q12), .val (.int z6), .val (.int q14), .val (.int q15), .val (.int z7), .val (.int z8), .val (.ref x9), .val (.ref x10), .val (.ref b11), .val (.ref b13), .val (.ref b15), .val (.ref b17), .val (.int z19), .val (.ref b20), .val (.int ((((p3.toUInt32 >>> ((9 : Int32) &&& 31).toUInt32).toInt32) &&& (3 : Int32)) % (3 : Int32))), .unset, .unset, .unset] [(.ref b23), (.ref b23)])
                  refine GoW.st (fun _ kont => XS.aload X23.here hx rfl (hb hby at_356) rfl rfl kont) ?_
                  show GoW Z EL0 p e s below _ _ _ T23 (mkF m 358 #[.val (.int p0), .val (.int p1), .val (.int p2), .val (.int p3), .val (.int q4), .val (.int z1), .val (.int q6), .val (.int q7), .val (.int z2), .val (.int z3), .val (.ref x4), .val (.ref x5), .val (.int q12), .val (.int z6), .val (.int q14), .val (.int q15), .val (.int z7), .val (.int z8), .val (.ref x9), .val (.ref x10), .val (.ref b11), .val (.ref b13), .val (.ref b15), .val (.ref b17), .val (.int z19), .val (.ref b20), .val (.int ((((p3.toUInt32 >>> ((9 : Int32) &&& 31).toUInt32).toInt32) &&& (3 : Int32)) % (3 : Int32))), .unset, .unset, .unset] [(.ref b13), (.ref b23), (.ref b23)])
                  refine GoW.st (fun _ kont => XS.aload X23.here hx rfl (hb hby at_358) rfl rfl kont) ?_
                  show GoW Z EL0 p e s below _ _ _ T23 (mkF m 360 #[.val (.int p0), .val (.int p1), .val (.int p2), .val (.int p3), .val (.int q4), .val (.int z1), .val (.int q6), .val (.int q7), .val (.int z2), .val (.int z3), .val (.ref x4), .val (.ref x5), .val (.int q12), .val (.int z6), .val (.int q14), .val (.int q15), .val (.int z7), .val (.int z8), .val (.ref x9), .val (.ref x10), .val (.ref b11), .val (.ref b13), .val (.ref b15), .val (.ref b17), .val (.int z19), .val (.ref b20), .val (.int ((((p3.toUInt32 >>> ((9 : Int32) &&& 31).toUInt32).toInt32) &&& (3 : Int32)) % (3 : Int32))), .unset, .unset, .unset] [(.ref b17), (.ref b13), (.ref b23), (.ref b23)])
                  refine GoW.callC (b := b23) (W := 1) (argsL := [(.ref b13), (.ref b17)]) (rest := [(.ref b23)]) X23 hx hZ (y := (⟨"com/example/covenant/covenant/ElementaryCondition", "<init>", "(Ljava/lang/String;Ljava/lang/String;)V"⟩ : MethodName)) rfl hown (hw _ (List.mem_of_getElem? (i := 40) rfl)) (hw _ (List.mem_of_getElem? (i := 41) rfl)) (hw _ (List.mem_of_getElem? (i := 39) rfl)) (hw _ (List.mem_of_getElem? (i := 42) rfl)) (rmI l Z a0 hw [] b23 b13 b17 h23 n0 gn23 A23 F_key_b23 F_text_b23) e23 (by decide) (by decide) (by decide) (by decide) (by decide) (by rw [hml]; rfl) (lenOf pd__Ljava_lang_String_Ljava_lang_String__V rfl) (Nat.le_of_eq rfl) (hb hby at_360) ?_
                  intro T24 v24 L24 X24 hQ24
                  obtain ⟨h24, e24⟩ : ∃ z, T24.heap = z := ⟨_, rfl⟩
                  rw [e24] at hQ24
                  obtain ⟨rfl, N24, K24, F_key_b23_24, F_text_b23_24⟩ := hQ24
                  have M24 := Fr.app M21 N24
                  have CR_24 := CR_23.trans (CHr.keep K24 (allS (Safe.exa hZ.alike A23 (by decide) (by decide)) all0) CR_23.1)
                  have Sz_24 := Nat.le_trans Sz_23 K24.1
                  have Q_24 : Ext h0 h24 := own_extK Q_23 K24 (allS sz23 all0)
                  have V_x4_24 := V_x4_23.keep K24 (ninS (Nat.ne_of_lt (Nat.lt_of_lt_of_le V_x4_21.lt (Nat.le_of_eq g23.symm))) nin0)
                  have V_x5_24 := V_x5_23.keep K24 (ninS (Nat.ne_of_lt (Nat.lt_of_lt_of_le V_x5_21.lt (Nat.le_of_eq g23.symm))) nin0)
                  have V_x9_24 := V_x9_23.keep K24 (ninS (Nat.ne_of_lt (Nat.lt_of_lt_of_le V_x9_21.lt (Nat.le_of_eq g23.symm))) nin0)
                  have V_x10_24 := V_x10_23.keep K24 (ninS (Nat.ne_of_lt (Nat.lt_of_lt_of_le V_x10_21.lt (Nat.le_of_eq g23.symm))) nin0)
                  have E_b11_24 := E_b11_23.keep K24
                  have F_coder_b11_24 := F_coder_b11_23.keep K24 (ninS (Nat.ne_of_lt (Nat.lt_of_lt_of_le E_b11_21.lt (Nat.le_of_eq g23.symm))) nin0)
                  have F_value_b11_24 := F_value_b11_23.keep K24 (ninS (Nat.ne_of_lt (Nat.lt_of_lt_of_le E_b11_21.lt (Nat.le_of_eq g23.symm))) nin0)
                  have V_b12_24 := V_b12_23.keep K24 (ninS (Nat.ne_of_lt (Nat.lt_of_lt_of_le V_b12_21.lt (Nat.le_of_eq g23.symm))) nin0)
                  have E_b13_24 := E_b13_23.keep K24
                  have F_coder_b13_24 := F_coder_b13_23.keep K24 (ninS (Nat.ne_of_lt (Nat.lt_of_lt_of_le E_b13_21.lt (Nat.le_of_eq g23.symm))) nin0)
                  have F_value_b13_24 := F_value_b13_23.keep K24 (ninS (Nat.ne_of_lt (Nat.lt_of_lt_of_le E_b13_21.lt (Nat.le_of_eq g23.symm))) nin0)
                  have V_b14_24 := V_b14_23.keep K24 (ninS (Nat.ne_of_lt (Nat.lt_of_lt_of_le V_b14_21.lt (Nat.le_of_eq g23.symm))) nin0)
                  have E_b15_24 := E_b15_23.keep K24
                  have F_coder_b15_24 := F_coder_b15_23.keep K24 (ninS (Nat.ne_of_lt (Nat.lt_of_lt_of_le E_b15_21.lt (Nat.le_of_eq g23.symm))) nin0)
                  have F_value_b15_24 := F_value_b15_23.keep K24 (ninS (Nat.ne_of_lt (Nat.lt_of_lt_of_le E_b15_21.lt (Nat.le_of_eq g23.symm))) nin0)
                  have V_b16_24 := V_b16_23.keep K24 (ninS (Nat.ne_of_lt (Nat.lt_of_lt_of_le V_b16_21.lt (Nat.le_of_eq g23.symm))) nin0)
                  have E_b17_24 := E_b17_23.keep K24
                  have F_coder_b17_24 := F_coder_b17_23.keep K24 (ninS (Nat.ne_of_lt (Nat.lt_of_lt_of_le E_b17_21.lt (Nat.le_of_eq g23.symm))) nin0)
                  have F_value_b17_24 := F_value_b17_23.keep K24 (ninS (Nat.ne_of_lt (Nat.lt_of_lt_of_le E_b17_21.lt (Nat.le_of_eq g23.symm))) nin0)
                  have V_b18_24 := V_b18_23.keep K24 (ninS (Nat.ne_of_lt (Nat.lt_of_lt_of_le V_b18_21.lt (Nat.le_of_eq g23.symm))) nin0)
                  have E_b20_24 := E_b20_23.keep K24
                  have F_key_b20_24 := F_key_b20_23.keep K24 (ninS (Nat.ne_of_lt (Nat.lt_of_lt_of_le E_b20_21.lt (Nat.le_of_eq g23.symm))) nin0)
                  have F_text_b20_24 := F_text_b20_23.keep K24 (ninS (Nat.ne_of_lt (Nat.lt_of_lt_of_le E_b20_21.lt (Nat.le_of_eq g23.symm))) nin0)
                  have E_b23_24 := A23.keep K24
                  show GoW Z EL0 p e s below _ _ _ T24 (mkF m 363 #[.val (.int p0), .val (.int p1), .val (.int p2), .val (.int p3), .val (.int q4), .val (.int z1), .val (.int q6), .val (.int q7), .val (.int z2), .val (.int z3), .val (.ref x4), .val (.ref x5), .val (.int q12), .val (.int z6), .val (.int q14), .val (.int q15), .val (.int z7), .val (.int z8), .val (.ref x9), .val (.ref x10), .val (.ref b11), .val (.ref b13), .val (.ref b15), .val (.ref b17), .val (.int z19), .val (.ref b20), .val (.int ((((p3.toUInt32 >>> ((9 : Int32) &&& 31).toUInt32).toInt32) &&& (3 : Int32)) % (3 : Int32))), .unset, .unset, .unset] [(.ref b23)])
                  refine GoW.st (fun _ kont => XS.astore X24.here hx rfl (hb hby at_363) rfl rfl (l' := #[.val (.int p0), .val (.int p1), .val (.int p2), .val (.int p3), .val (.int q4), .val (.int z1), .val (.int q6), .val (.int q7), .val (.int z2), .val (.int z3), .val (.ref x4), .val (.ref x5), .val (.int q12), .val (.int z6), .val (.int q14), .val (.int q15), .val (.int z7), .val (.int z8), .val (.ref x9), .val (.ref x10), .val (.ref b11), .val (.ref b13), .val (.ref b15), .val (.ref b17), .val (.int z19), .val (.ref b20), .val (.int ((((p3.toUInt32 >>> ((9 : Int32) &&& 31).toUInt32).toInt32) &&& (3 : Int32)) % (3 : Int32))), .val (.ref b23), .unset, .unset]) rfl kont) ?_
                  show GoW Z EL0 p e s below _ _ _ T24 (mkF m 365 #[.val (.int p0), .val (.int p1), .val (.int p2), .val (.int p3), .val (.int q4), .val (.int z1), .val (.int q6), .val (.int q7), .val (.int z2), .val (.int z3), .val (.ref x4), .val (.ref x5), .val (.int q12), .val (.int z6), .val (.int q14), .val (.int q15), .val (.int z7), .val (.int z8), .val (.ref x9), .val (.ref x10), .val (.ref b11), .val (.ref b13), .val (.ref b15), .val (.ref b17), .val (.int z19), .val (.ref b20), .val (.int ((((p3.toUInt32 >>> ((9 : Int32) &&& 31).toUInt32).toInt32) &&& (3 : Int32)) % (3 : Int32))), .val (.ref b23), .unset, .unset] [])
                  refine GoW.st (fun _ kont => XS.aload X24.here hx rfl (hb hby at_365) rfl rfl kont) ?_
                  show GoW Z EL0 p e s below _ _ _ T24 (mkF m 367 #[.val (.int p0), .val (.int p1), .val (.int p2), .val (.int p3), .val (.int q4), .val (.int z1), .val (.int q6), .val (.int q7), .val (.int z2), .val (.int z3), .val (.ref x4), .val (.ref x5), .val (.int q12), .val (.int z6), .val (.int q14), .val (.int q15), .val (.int z7), .val (.int z8), .val (.ref x9), .val (.ref x10), .val (.ref b11), .val (.ref b13), .val (.ref b15), .val (.ref b17), .val (.int z19), .val (.ref b20), .val (.int ((((p3.toUInt32 >>> ((9 : Int32) &&& 31).toUInt32).toInt32) &&& (3 : Int32)) % (3 : Int32))), .val (.ref b23), .unset, .unset] [(.ref b20)])
                  refine GoW.st (fun _ kont => XS.aload X24.here hx rfl (hb hby at_367) rfl rfl kont) ?_
                  show GoW Z EL0 p e s below _ _ _ T24 (mkF m 369 #[.val (.int p0), .val (.int p1), .val (.int p2), .val (.int p3), .val (.int q4), .val (.int z1), .val (.int q6), .val (.int q7), .val (.int z2), .val (.int z3), .val (.ref x4), .val (.ref x5), .val (.int q12), .val (.int z6), .val (.int q14), .val (.int q15), .val (.int z7), .val (.int z8), .val (.ref x9), .val (.ref x10), .val (.ref b11), .val (.ref b13), .val (.ref b15), .val (.ref b17), .val (.int z19), .val (.ref b20), .val (.int ((((p3.toUInt32 >>> ((9 : Int32) &&& 31).toUInt32).toInt32) &&& (3 : Int32)) % (3 : Int32))), .val (.ref b23), .unset, .unset] [(.ref b23), (.ref b20)])
                  refine GoW.callV (b := b20) (W := 0) (argsL := [(.ref b23)]) (rest := []) X24 hx hZ hown (y := (⟨"com/example/covenant/covenant/ElementaryCondition", "equals", "(Ljava/lang/Object;)Z"⟩ : MethodName)) (z := (⟨"com/example/covenant/covenant/ElementaryCondition", "equals", "(Ljava/lang/Object;)Z"⟩ : MethodName)) (hw _ (List.mem_of_getElem? (i := 53) rfl)) (hw _ (List.mem_of_getElem? (i := 54) rfl)) (notFace_of_selects (args := #[]) (mvT hZ (hw _ (List.mem_of_getElem? (i := 56) rfl)))) (hw _ (List.mem_of_getElem? (i := 56) rfl)) (hw _ (List.mem_of_getElem? (i := 55) rfl)) (hw _ (List.mem_of_getElem? (i := 39) rfl)) (hw _ (List.mem_of_getElem? (i := 57) rfl)) (rmE l Z a0 hw [] b20 b23 b11 b13 b12 b14 kb12 kb14 q6 q7 z2 z3 h24 n0 q4 z1 vs12 vs14 C_12 C_14 (Nat.ne_of_lt (Nat.lt_of_lt_of_le E_b11_12.lt (Nat.le_of_eq g13.symm))) E_b11_24 F_coder_b11_24 F_value_b11_24 V_b12_24 E_b13_24 F_coder_b13_24 F_value_b13_24 V_b14_24 z19 hj19 cs hcs (SCP.ext Q_24) E_b20_24 F_key_b20_24 E_b23_24 F_key_b23_24) e24 E_b20_24 (by decide) (by decide) (by decide) (by decide) (by decide) (by rw [hml]; rfl) (lenOf pd__Ljava_lang_Object__Z rfl) (Nat.le_of_eq rfl) (hb hby at_369) ?_
                  intro T25 v25 L25 X25 hQ25
                  obtain ⟨rfl, N25, E25⟩ := hQ25
                  have M25 := Fr.app M24 N25
                  show GoW Z EL0 p e s below _ _ _ T25 (mkF m 372 #[.val (.int p0), .val (.int p1), .val (.int p2), .val (.int p3), .val (.int q4), .val (.int z1), .val (.int q6), .val (.int q7), .val (.int z2), .val (.int z3), .val (.ref x4), .val (.ref x5), .val (.int q12), .val (.int z6), .val (.int q14), .val (.int q15), .val (.int z7), .val (.int z8), .val (.ref x9), .val (.ref x10), .val (.ref b11), .val (.ref b13), .val (.ref b15), .val (.ref b17), .val (.int z19), .val (.ref b20), .val (.int ((((p3.toUInt32 >>> ((9 : Int32) &&& 31).toUInt32).toInt32) &&& (3 : Int32)) % (3 : Int32))), .val (.ref b23), .unset, .unset] [(.int z19)])
                  refine GoW.st (fun _ kont => XS.istore X25.here hx rfl (hb hby at_372) rfl (l' := #[.val (.int p0), .val (.int p1), .val (.int p2), .val (.int p3), .val (.int q4), .val (.int z1), .val (.int q6), .val (.int q7), .val (.int z2), .val (.int z3), .val (.ref x4), .val (.ref x5), .val (.int q12), .val (.int z6), .val (.int q14), .val (.int q15), .val (.int z7), .val (.int z8), .val (.ref x9), .val (.ref x10), .val (.ref b11), .val (.ref b13), .val (.ref b15), .val (.ref b17), .val (.int z19), .val (.ref b20), .val (.int ((((p3.toUInt32 >>> ((9 : Int32) &&& 31).toUInt32).toInt32) &&& (3 : Int32)) % (3 : Int32))), .val (.ref b23), .val (.int z19), .unset]) rfl kont) ?_
                  show GoW Z EL0 p e s below _ _ _ T25 (mkF m 374 #[.val (.int p0), .val (.int p1), .val (.int p2), .val (.int p3), .val (.int q4), .val (.int z1), .val (.int q6), .val (.int q7), .val (.int z2), .val (.int z3), .val (.ref x4), .val (.ref x5), .val (.int q12), .val (.int z6), .val (.int q14), .val (.int q15), .val (.int z7), .val (.int z8), .val (.ref x9), .val (.ref x10), .val (.ref b11), .val (.ref b13), .val (.ref b15), .val (.ref b17), .val (.int z19), .val (.ref b20), .val (.int ((((p3.toUInt32 >>> ((9 : Int32) &&& 31).toUInt32).toInt32) &&& (3 : Int32)) % (3 : Int32))), .val (.ref b23), .val (.int z19), .unset] [])
                  refine GoW.st (fun _ kont => XS.aload X25.here hx rfl (hb hby at_374) rfl rfl kont) ?_
                  show GoW Z EL0 p e s below _ _ _ T25 (mkF m 376 #[.val (.int p0), .val (.int p1), .val (.int p2), .val (.int p3), .val (.int q4), .val (.int z1), .val (.int q6), .val (.int q7), .val (.int z2), .val (.int z3), .val (.ref x4), .val (.ref x5), .val (.int q12), .val (.int z6), .val (.int q14), .val (.int q15), .val (.int z7), .val (.int z8), .val (.ref x9), .val (.ref x10), .val (.ref b11), .val (.ref b13), .val (.ref b15), .val (.ref b17), .val (.int z19), .val (.ref b20), .val (.int ((((p3.toUInt32 >>> ((9 : Int32) &&& 31).toUInt32).toInt32) &&& (3 : Int32)) % (3 : Int32))), .val (.ref b23), .val (.int z19), .unset] [(.ref b23)])
                  refine GoW.st (fun _ kont => XS.aload X25.here hx rfl (hb hby at_376) rfl rfl kont) ?_
                  show GoW Z EL0 p e s below _ _ _ T25 (mkF m 378 #[.val (.int p0), .val (.int p1), .val (.int p2), .val (.int p3), .val (.int q4), .val (.int z1), .val (.int q6), .val (.int q7), .val (.int z2), .val (.int z3), .val (.ref x4), .val (.ref x5), .val (.int q12), .val (.int z6), .val (.int q14), .val (.int q15), .val (.int z7), .val (.int z8), .val (.ref x9), .val (.ref x10), .val (.ref b11), .val (.ref b13), .val (.ref b15), .val (.ref b17), .val (.int z19), .val (.ref b20), .val (.int ((((p3.toUInt32 >>> ((9 : Int32) &&& 31).toUInt32).toInt32) &&& (3 : Int32)) % (3 : Int32))), .val (.ref b23), .val (.int z19), .unset] [(.ref b20), (.ref b23)])
                  refine GoW.callV (b := b23) (W := 0) (argsL := [(.ref b20)]) (rest := []) X25 hx hZ hown (y := (⟨"com/example/covenant/covenant/ElementaryCondition", "equals", "(Ljava/lang/Object;)Z"⟩ : MethodName)) (z := (⟨"com/example/covenant/covenant/ElementaryCondition", "equals", "(Ljava/lang/Object;)Z"⟩ : MethodName)) (hw _ (List.mem_of_getElem? (i := 53) rfl)) (hw _ (List.mem_of_getElem? (i := 54) rfl)) (notFace_of_selects (args := #[]) (mvT hZ (hw _ (List.mem_of_getElem? (i := 56) rfl)))) (hw _ (List.mem_of_getElem? (i := 56) rfl)) (hw _ (List.mem_of_getElem? (i := 55) rfl)) (hw _ (List.mem_of_getElem? (i := 39) rfl)) (hw _ (List.mem_of_getElem? (i := 57) rfl)) (rmE l Z a0 hw [] b23 b20 b13 b11 b14 b12 kb14 kb12 z2 z3 q6 q7 h24 n0 z1 q4 vs14 vs12 C_14 C_12 (Ne.symm (Nat.ne_of_lt (Nat.lt_of_lt_of_le E_b11_12.lt (Nat.le_of_eq g13.symm)))) E_b13_24 F_coder_b13_24 F_value_b13_24 V_b14_24 E_b11_24 F_coder_b11_24 F_value_b11_24 V_b12_24 z19 (own_swap hj19) cs hcs (SCP.ext Q_24) E_b23_24 F_key_b23_24 E_b20_24 F_key_b20_24) E25 E_b23_24 (by decide) (by decide) (by decide) (by decide) (by decide) (by rw [hml]; rfl) (lenOf pd__Ljava_lang_Object__Z rfl) (Nat.le_of_eq rfl) (hb hby at_378) ?_
                  intro T26 v26 L26 X26 hQ26
                  obtain ⟨rfl, N26, E26⟩ := hQ26
                  have M26 := Fr.app M25 N26
                  show GoW Z EL0 p e s below _ _ _ T26 (mkF m 381 #[.val (.int p0), .val (.int p1), .val (.int p2), .val (.int p3), .val (.int q4), .val (.int z1), .val (.int q6), .val (.int q7), .val (.int z2), .val (.int z3), .val (.ref x4), .val (.ref x5), .val (.int q12), .val (.int z6), .val (.int q14), .val (.int q15), .val (.int z7), .val (.int z8), .val (.ref x9), .val (.ref x10), .val (.ref b11), .val (.ref b13), .val (.ref b15), .val (.ref b17), .val (.int z19), .val (.ref b20), .val (.int ((((p3.toUInt32 >>> ((9 : Int32) &&& 31).toUInt32).toInt32) &&& (3 : Int32)) % (3 : Int32))), .val (.ref b23), .val (.int z19), .unset] [(.int z19)])
                  refine GoW.st (fun _ kont => XS.istore X26.here hx rfl (hb hby at_381) rfl (l' := #[.val (.int p0), .val (.int p1), .val (.int p2), .val (.int p3), .val (.int q4), .val (.int z1), .val (.int q6), .val (.int q7), .val (.int z2), .val (.int z3), .val (.ref x4), .val (.ref x5), .val (.int q12), .val (.int z6), .val (.int q14), .val (.int q15), .val (.int z7), .val (.int z8), .val (.ref x9), .val (.ref x10), .val (.ref b11), .val (.ref b13), .val (.ref b15), .val (.ref b17), .val (.int z19), .val (.ref b20), .val (.int ((((p3.toUInt32 >>> ((9 : Int32) &&& 31).toUInt32).toInt32) &&& (3 : Int32)) % (3 : Int32))), .val (.ref b23), .val (.int z19), .val (.int z19)]) rfl kont) ?_
                  show GoW Z EL0 p e s below _ _ _ T26 (mkF m 383 #[.val (.int p0), .val (.int p1), .val (.int p2), .val (.int p3), .val (.int q4), .val (.int z1), .val (.int q6), .val (.int q7), .val (.int z2), .val (.int z3), .val (.ref x4), .val (.ref x5), .val (.int q12), .val (.int z6), .val (.int q14), .val (.int q15), .val (.int z7), .val (.int z8), .val (.ref x9), .val (.ref x10), .val (.ref b11), .val (.ref b13), .val (.ref b15), .val (.ref b17), .val (.int z19), .val (.ref b20), .val (.int ((((p3.toUInt32 >>> ((9 : Int32) &&& 31).toUInt32).toInt32) &&& (3 : Int32)) % (3 : Int32))), .val (.ref b23), .val (.int z19), .val (.int z19)] [])
                  refine GoW.st (fun _ kont => XS.iload X26.here hx rfl (hb hby at_383) rfl kont) ?_
                  show GoW Z EL0 p e s below _ _ _ T26 (mkF m 385 #[.val (.int p0), .val (.int p1), .val (.int p2), .val (.int p3), .val (.int q4), .val (.int z1), .val (.int q6), .val (.int q7), .val (.int z2), .val (.int z3), .val (.ref x4), .val (.ref x5), .val (.int q12), .val (.int z6), .val (.int q14), .val (.int q15), .val (.int z7), .val (.int z8), .val (.ref x9), .val (.ref x10), .val (.ref b11), .val (.ref b13), .val (.ref b15), .val (.ref b17), .val (.int z19), .val (.ref b20), .val (.int ((((p3.toUInt32 >>> ((9 : Int32) &&& 31).toUInt32).toInt32) &&& (3 : Int32)) % (3 : Int32))), .val (.ref b23), .val (.int z19), .val (.int z19)] [(.int z19)])
                  refine GoW.st (fun _ kont => XS.iload X26.here hx rfl (hb hby at_385) rfl kont) ?_
                  show GoW Z EL0 p e s below _ _ _ T26 (mkF m 387 #[.val (.int p0), .val (.int p1), .val (.int p2), .val (.int p3), .val (.int q4), .val (.int z1), .val (.int q6), .val (.int q7), .val (.int z2), .val (.int z3), .val (.ref x4), .val (.ref x5), .val (.int q12), .val (.int z6), .val (.int q14), .val (.int q15), .val (.int z7), .val (.int z8), .val (.ref x9), .val (.ref x10), .val (.ref b11), .val (.ref b13), .val (.ref b15), .val (.ref b17), .val (.int z19), .val (.ref b20), .val (.int ((((p3.toUInt32 >>> ((9 : Int32) &&& 31).toUInt32).toInt32) &&& (3 : Int32)) % (3 : Int32))), .val (.ref b23), .val (.int z19), .val (.int z19)] [(.int z19), (.int z19)])
                  refine GoW.st (fun _ kont => XS.icmpNo X26.here hx rfl (hb hby at_387) rfl (teq rfl).2 kont) ?_
                  show GoW Z EL0 p e s below _ _ _ T26 (mkF m 390 #[.val (.int p0), .val (.int p1), .val (.int p2), .val (.int p3), .val (.int q4), .val (.int z1), .val (.int q6), .val (.int q7), .val (.int z2), .val (.int z3), .val (.ref x4), .val (.ref x5), .val (.int q12), .val (.int z6), .val (.int q14), .val (.int q15), .val (.int z7), .val (.int z8), .val (.ref x9), .val (.ref x10), .val (.ref b11), .val (.ref b13), .val (.ref b15), .val (.ref b17), .val (.int z19), .val (.ref b20), .val (.int ((((p3.toUInt32 >>> ((9 : Int32) &&& 31).toUInt32).toInt32) &&& (3 : Int32)) % (3 : Int32))), .val (.ref b23), .val (.int z19), .val (.int z19)] [])
                  refine GoW.st (fun _ kont => XS.iload X26.here hx rfl (hb hby at_390) rfl kont) ?_
                  show GoW Z EL0 p e s below _ _ _ T26 (mkF m 392 #[.val (.int p0), .val (.int p1), .val (.int p2), .val (.int p3), .val (.int q4), .val (.int z1), .val (.int q6), .val (.int q7), .val (.int z2), .val (.int z3), .val (.ref x4), .val (.ref x5), .val (.int q12), .val (.int z6), .val (.int q14), .val (.int q15), .val (.int z7), .val (.int z8), .val (.ref x9), .val (.ref x10), .val (.ref b11), .val (.ref b13), .val (.ref b15), .val (.ref b17), .val (.int z19), .val (.ref b20), .val (.int ((((p3.toUInt32 >>> ((9 : Int32) &&& 31).toUInt32).toInt32) &&& (3 : Int32)) % (3 : Int32))), .val (.ref b23), .val (.int z19), .val (.int z19)] [(.int z19)])
                  refine GoW.st (fun _ kont => XS.iload X26.here hx rfl (hb hby at_392) rfl kont) ?_
                  show GoW Z EL0 p e s below _ _ _ T26 (mkF m 394 #[.val (.int p0), .val (.int p1), .val (.int p2), .val (.int p3), .val (.int q4), .val (.int z1), .val (.int q6), .val (.int q7), .val (.int z2), .val (.int z3), .val (.ref x4), .val (.ref x5), .val (.int q12), .val (.int z6), .val (.int q14), .val (.int q15), .val (.int z7), .val (.int z8), .val (.ref x9), .val (.ref x10), .val (.ref b11), .val (.ref b13), .val (.ref b15), .val (.ref b17), .val (.int z19), .val (.ref b20), .val (.int ((((p3.toUInt32 >>> ((9 : Int32) &&& 31).toUInt32).toInt32) &&& (3 : Int32)) % (3 : Int32))), .val (.ref b23), .val (.int z19), .val (.int z19)] [(.int z19), (.int z19)])
                  refine GoW.st (fun _ kont => XS.icmpNo X26.here hx rfl (hb hby at_394) rfl (teq rfl).2 kont) ?_
                  show GoW Z EL0 p e s below _ _ _ T26 (mkF m 397 #[.val (.int p0), .val (.int p1), .val (.int p2), .val (.int p3), .val (.int q4), .val (.int z1), .val (.int q6), .val (.int q7), .val (.int z2), .val (.int z3), .val (.ref x4), .val (.ref x5), .val (.int q12), .val (.int z6), .val (.int q14), .val (.int q15), .val (.int z7), .val (.int z8), .val (.ref x9), .val (.ref x10), .val (.ref b11), .val (.ref b13), .val (.ref b15), .val (.ref b17), .val (.int z19), .val (.ref b20), .val (.int ((((p3.toUInt32 >>> ((9 : Int32) &&& 31).toUInt32).toInt32) &&& (3 : Int32)) % (3 : Int32))), .val (.ref b23), .val (.int z19), .val (.int z19)] [])
                  refine GoW.st (fun _ kont => XT.iconstV X26.here hx rfl (1 : Int32) (hb hby at_397) (by decide) kont) ?_
                  show GoW Z EL0 p e s below _ _ _ T26 (mkF m 398 #[.val (.int p0), .val (.int p1), .val (.int p2), .val (.int p3), .val (.int q4), .val (.int z1), .val (.int q6), .val (.int q7), .val (.int z2), .val (.int z3), .val (.ref x4), .val (.ref x5), .val (.int q12), .val (.int z6), .val (.int q14), .val (.int q15), .val (.int z7), .val (.int z8), .val (.ref x9), .val (.ref x10), .val (.ref b11), .val (.ref b13), .val (.ref b15), .val (.ref b17), .val (.int z19), .val (.ref b20), .val (.int ((((p3.toUInt32 >>> ((9 : Int32) &&& 31).toUInt32).toInt32) &&& (3 : Int32)) % (3 : Int32))), .val (.ref b23), .val (.int z19), .val (.int z19)] [(.int (1 : Int32))])
                  refine GoW.st (fun _ kont => XS.goto X26.here hx rfl (pc0 := 398) (pc' := 402) rfl (hb hby at_398) (by decide) (by decide) kont) ?_
                  show GoW Z EL0 p e s below _ _ _ T26 (mkF m 402 #[.val (.int p0), .val (.int p1), .val (.int p2), .val (.int p3), .val (.int q4), .val (.int z1), .val (.int q6), .val (.int q7), .val (.int z2), .val (.int z3), .val (.ref x4), .val (.ref x5), .val (.int q12), .val (.int z6), .val (.int q14), .val (.int q15), .val (.int z7), .val (.int z8), .val (.ref x9), .val (.ref x10), .val (.ref b11), .val (.ref b13), .val (.ref b15), .val (.ref b17), .val (.int z19), .val (.ref b20), .val (.int ((((p3.toUInt32 >>> ((9 : Int32) &&& 31).toUInt32).toInt32) &&& (3 : Int32)) % (3 : Int32))), .val (.ref b23), .val (.int z19), .val (.int z19)] [(.int (1 : Int32))])
                  exact GoW.retN X26 hx hlk hret (by simp) hS (Nat.le_trans Sz_24 (Nat.le_of_eq (congrArg Array.size (Eq.symm E26)))) hZ hEL (own_cr hh0 E26 CR_24) (hb hby at_402) (by decide) (by decide) ⟨rfl, M26⟩
                · --
                  refine GoW.st (fun _ kont => XS.ifYes X21.here hx rfl (pc0 := 349) (pc' := 403) rfl (hb hby at_349) rfl ((if0 _ _).trans (feq hc349_22).2) (by decide) (by decide) kont) ?_
                  show GoW Z EL0 p e s below _ _ _ T21 (mkF m 403 #[.val (.int p0), .val (.int p1), .val (.int p2), .val (.int p3), .val (.int q4), .val (.int z1), .val (.int q6), .val (.int q7), .val (.int z2), .val (.int z3), .val (.ref x4), .val (.ref x5), .val (.int q12), .val (.int z6), .val (.int q14), .val (.int q15), .val (.int z7), .val (.int z8), .val (.ref x9), .val (.ref x10), .val (.ref b11), .val (.ref b13), .val (.ref b15), .val (.ref b17), .val (.int z19), .val (.ref b20), .val (.int ((((p3.toUInt32 >>> ((9 : Int32) &&& 31).toUInt32).toInt32) &&& (3 : Int32)) % (3 : Int32))), .unset, .unset, .unset] [])
                  refine GoW.st (fun _ kont => XS.iload X21.here hx rfl (hb hby at_403) rfl kont) ?_
                  show GoW Z EL0 p e s below _ _ _ T21 (mkF m 405 #[.val (.int p0), .val (.int p1), .val (.int p2), .val (.int p3), .val (.int q4), .val (.int z1), .val (.int q6), .val (.int q7), .val (.int z2), .val (.int z3), .val (.ref x4), .val (.ref x5), .val (.int q12), .val (.int z6), .val (.int q14), .val (.int q15), .val (.int z7), .val (.int z8), .val (.ref x9), .val (.ref x10), .val (.ref b11), .val (.ref b13), .val (.ref b15), .val (.ref b17), .val (.int z19), .val (.ref b20), .val (.int ((((p3.toUInt32 >>> ((9 : Int32) &&& 31).toUInt32).toInt32) &&& (3 : Int32)) % (3 : Int32))), .unset, .unset, .unset] [(.int ((((p3.toUInt32 >>> ((9 : Int32) &&& 31).toUInt32).toInt32) &&& (3 : Int32)) % (3 : Int32)))])
                  refine GoW.st (fun _ kont => XT.iconstV X21.here hx rfl (1 : Int32) (hb hby at_405) (by decide) kont) ?_
                  show GoW Z EL0 p e s below _ _ _ T21 (mkF m 406 #[.val (.int p0), .val (.int p1), .val (.int p2), .val (.int p3), .val (.int q4), .val (.int z1), .val (.int q6), .val (.int q7), .val (.int z2), .val (.int z3), .val (.ref x4), .val (.ref x5), .val (.int q12), .val (.int z6), .val (.int q14), .val (.int q15), .val (.int z7), .val (.int z8), .val (.ref x9), .val (.ref x10), .val (.ref b11), .val (.ref b13), .val (.ref b15), .val (.ref b17), .val (.int z19), .val (.ref b20), .val (.int ((((p3.toUInt32 >>> ((9 : Int32) &&& 31).toUInt32).toInt32) &&& (3 : Int32)) % (3 : Int32))), .unset, .unset, .unset] [(.int (1 : Int32)), (.int ((((p3.toUInt32 >>> ((9 : Int32) &&& 31).toUInt32).toInt32) &&& (3 : Int32)) % (3 : Int32)))])
                  by_cases hc406_27 : ((((p3.toUInt32 >>> ((9 : Int32) &&& 31).toUInt32).toInt32) &&& (3 : Int32)) % (3 : Int32)) = (1 : Int32)
                  · --
                    refine GoW.st (fun _ kont => XS.icmpNo X21.here hx rfl (hb hby at_406) rfl (teq hc406_27).2 kont) ?_
                    show GoW Z EL0 p e s below _ _ _ T21 (mkF m 409 #[.val (.int p0), .val (.int p1), .val (.int p2), .val (.int p3), .val (.int q4), .val (.int z1), .val (.int q6), .val (.int q7), .val (.int z2), .val (.int z3), .val (.ref x4), .val (.ref x5), .val (.int q12), .val (.int z6), .val (.int q14), .val (.int q15), .val (.int z7), .val (.int z8), .val (.ref x9), .val (.ref x10), .val (.ref b11), .val (.ref b13), .val (.ref b15), .val (.ref b17), .val (.int z19), .val (.ref b20), .val (.int ((((p3.toUInt32 >>> ((9 : Int32) &&& 31).toUInt32).toInt32) &&& (3 : Int32)) % (3 : Int32))), .unset, .unset, .unset] [])
                    refine GoW.st (fun _ kont => XS.aload X21.here hx rfl (hb hby at_409) rfl rfl kont) ?_
                    show GoW Z EL0 p e s below _ _ _ T21 (mkF m 411 #[.val (.int p0), .val (.int p1), .val (.int p2), .val (.int p3), .val (.int q4), .val (.int z1), .val (.int q6), .val (.int q7), .val (.int z2), .val (.int z3), .val (.ref x4), .val (.ref x5), .val (.int q12), .val (.int z6), .val (.int q14), .val (.int q15), .val (.int z7), .val (.int z8), .val (.ref x9), .val (.ref x10), .val (.ref b11), .val (.ref b13), .val (.ref b15), .val (.ref b17), .val (.int z19), .val (.ref b20), .val (.int ((((p3.toUInt32 >>> ((9 : Int32) &&& 31).toUInt32).toInt32) &&& (3 : Int32)) % (3 : Int32))), .unset, .unset, .unset] [(.ref b20)])
                    refine GoW.st (fun _ kont => XS.aload X21.here hx rfl (hb hby at_411) rfl rfl kont) ?_
                    show GoW Z EL0 p e s below _ _ _ T21 (mkF m 413 #[.val (.int p0), .val (.int p1), .val (.int p2), .val (.int p3), .val (.int q4), .val (.int z1), .val (.int q6), .val (.int q7), .val (.int z2), .val (.int z3), .val (.ref x4), .val (.ref x5), .val (.int q12), .val (.int z6), .val (.int q14), .val (.int q15), .val (.int z7), .val (.int z8), .val (.ref x9), .val (.ref x10), .val (.ref b11), .val (.ref b13), .val (.ref b15), .val (.ref b17), .val (.int z19), .val (.ref b20), .val (.int ((((p3.toUInt32 >>> ((9 : Int32) &&& 31).toUInt32).toInt32) &&& (3 : Int32)) % (3 : Int32))), .unset, .unset, .unset] [(.ref b13), (.ref b20)])
                    refine GoW.callV (b := b20) (W := 0) (argsL := [(.ref b13)]) (rest := []) X21 hx hZ hown (y := (⟨"com/example/covenant/covenant/ElementaryCondition", "equals", "(Ljava/lang/Object;)Z"⟩ : MethodName)) (z := (⟨"com/example/covenant/covenant/ElementaryCondition", "equals", "(Ljava/lang/Object;)Z"⟩ : MethodName)) (hw _ (List.mem_of_getElem? (i := 53) rfl)) (hw _ (List.mem_of_getElem? (i := 54) rfl)) (notFace_of_selects (args := #[]) (mvT hZ (hw _ (List.mem_of_getElem? (i := 56) rfl)))) (hw _ (List.mem_of_getElem? (i := 56) rfl)) (hw _ (List.mem_of_getElem? (i := 55) rfl)) (hw _ (List.mem_of_getElem? (i := 39) rfl)) (hw _ (List.mem_of_getElem? (i := 57) rfl)) (rmE2 l Z a0 hw [] b20 b13 h21 n0 E_b13_21) e21 E_b20_21 (by decide) (by decide) (by decide) (by decide) (by decide) (by rw [hml]; rfl) (lenOf pd__Ljava_lang_Object__Z rfl) (Nat.le_of_eq rfl) (hb hby at_413) ?_
                    intro T28 v28 L28 X28 hQ28
                    obtain ⟨rfl, N28, E28⟩ := hQ28
                    have M28 := Fr.app M21 N28
                    show GoW Z EL0 p e s below _ _ _ T28 (mkF m 416 #[.val (.int p0), .val (.int p1), .val (.int p2), .val (.int p3), .val (.int q4), .val (.int z1), .val (.int q6), .val (.int q7), .val (.int z2), .val (.int z3), .val (.ref x4), .val (.ref x5), .val (.int q12), .val (.int z6), .val (.int q14), .val (.int q15), .val (.int z7), .val (.int z8), .val (.ref x9), .val (.ref x10), .val (.ref b11), .val (.ref b13), .val (.ref b15), .val (.ref b17), .val (.int z19), .val (.ref b20), .val (.int ((((p3.toUInt32 >>> ((9 : Int32) &&& 31).toUInt32).toInt32) &&& (3 : Int32)) % (3 : Int32))), .unset, .unset, .unset] [(.int (0 : Int32))])
                    refine GoW.st (fun _ kont => XS.ifNo X28.here hx rfl (hb hby at_416) rfl ((if0 _ _).trans (teq rfl).2) kont) ?_
                    show GoW Z EL0 p e s below _ _ _ T28 (mkF m 419 #[.val (.int p0), .val (.int p1), .val (.int p2), .val (.int p3), .val (.int q4), .val (.int z1), .val (.int q6), .val (.int q7), .val (.int z2), .val (.int z3), .val (.ref x4), .val (.ref x5), .val (.int q12), .val (.int z6), .val (.int q14), .val (.int q15), .val (.int z7), .val (.int z8), .val (.ref x9), .val (.ref x10), .val (.ref b11), .val (.ref b13), .val (.ref b15), .val (.ref b17), .val (.int z19), .val (.ref b20), .val (.int ((((p3.toUInt32 >>> ((9 : Int32) &&& 31).toUInt32).toInt32) &&& (3 : Int32)) % (3 : Int32))), .unset, .unset, .unset] [])
                    refine GoW.st (fun _ kont => XT.iconstV X28.here hx rfl (1 : Int32) (hb hby at_419) (by decide) kont) ?_
                    show GoW Z EL0 p e s below _ _ _ T28 (mkF m 420 #[.val (.int p0), .val (.int p1), .val (.int p2), .val (.int p3), .val (.int q4), .val (.int z1), .val (.int q6), .val (.int q7), .val (.int z2), .val (.int z3), .val (.ref x4), .val (.ref x5), .val (.int q12), .val (.int z6), .val (.int q14), .val (.int q15), .val (.int z7), .val (.int z8), .val (.ref x9), .val (.ref x10), .val (.ref b11), .val (.ref b13), .val (.ref b15), .val (.ref b17), .val (.int z19), .val (.ref b20), .val (.int ((((p3.toUInt32 >>> ((9 : Int32) &&& 31).toUInt32).toInt32) &&& (3 : Int32)) % (3 : Int32))), .unset, .unset, .unset] [(.int (1 : Int32))])
                    refine GoW.st (fun _ kont => XS.goto X28.here hx rfl (pc0 := 420) (pc' := 424) rfl (hb hby at_420) (by decide) (by decide) kont) ?_
                    show GoW Z EL0 p e s below _ _ _ T28 (mkF m 424 #[.val (.int p0), .val (.int p1), .val (.int p2), .val (.int p3), .val (.int q4), .val (.int z1), .val (.int q6), .val (.int q7), .val (.int z2), .val (.int z3), .val (.ref x4), .val (.ref x5), .val (.int q12), .val (.int z6), .val (.int q14), .val (.int q15), .val (.int z7), .val (.int z8), .val (.ref x9), .val (.ref x10), .val (.ref b11), .val (.ref b13), .val (.ref b15), .val (.ref b17), .val (.int z19), .val (.ref b20), .val (.int ((((p3.toUInt32 >>> ((9 : Int32) &&& 31).toUInt32).toInt32) &&& (3 : Int32)) % (3 : Int32))), .unset, .unset, .unset] [(.int (1 : Int32))])
                    exact GoW.retN X28 hx hlk hret (by simp) hS (Nat.le_trans Sz_21 (Nat.le_of_eq (congrArg Array.size (Eq.symm E28)))) hZ hEL (own_cr hh0 E28 CR_21) (hb hby at_424) (by decide) (by decide) ⟨rfl, M28⟩
                  · --
                    refine GoW.st (fun _ kont => XS.icmpYes X21.here hx rfl (pc0 := 406) (pc' := 425) rfl (hb hby at_406) rfl (feq hc406_27).2 (by decide) (by decide) kont) ?_
                    show GoW Z EL0 p e s below _ _ _ T21 (mkF m 425 #[.val (.int p0), .val (.int p1), .val (.int p2), .val (.int p3), .val (.int q4), .val (.int z1), .val (.int q6), .val (.int q7), .val (.int z2), .val (.int z3), .val (.ref x4), .val (.ref x5), .val (.int q12), .val (.int z6), .val (.int q14), .val (.int q15), .val (.int z7), .val (.int z8), .val (.ref x9), .val (.ref x10), .val (.ref b11), .val (.ref b13), .val (.ref b15), .val (.ref b17), .val (.int z19), .val (.ref b20), .val (.int ((((p3.toUInt32 >>> ((9 : Int32) &&& 31).toUInt32).toInt32) &&& (3 : Int32)) % (3 : Int32))), .unset, .unset, .unset] [])
                    refine GoW.st (fun _ kont => XS.aload X21.here hx rfl (hb hby at_425) rfl rfl kont) ?_
                    show GoW Z EL0 p e s below _ _ _ T21 (mkF m 427 #[.val (.int p0), .val (.int p1), .val (.int p2), .val (.int p3), .val (.int q4), .val (.int z1), .val (.int q6), .val (.int q7), .val (.int z2), .val (.int z3), .val (.ref x4), .val (.ref x5), .val (.int q12), .val (.int z6), .val (.int q14), .val (.int q15), .val (.int z7), .val (.int z8), .val (.ref x9), .val (.ref x10), .val (.ref b11), .val (.ref b13), .val (.ref b15), .val (.ref b17), .val (.int z19), .val (.ref b20), .val (.int ((((p3.toUInt32 >>> ((9 : Int32) &&& 31).toUInt32).toInt32) &&& (3 : Int32)) % (3 : Int32))), .unset, .unset, .unset] [(.ref b20)])
                    refine GoW.st (fun _ kont => XS.aconstNull X21.here hx rfl (hb hby at_427) kont) ?_
                    show GoW Z EL0 p e s below _ _ _ T21 (mkF m 428 #[.val (.int p0), .val (.int p1), .val (.int p2), .val (.int p3), .val (.int q4), .val (.int z1), .val (.int q6), .val (.int q7), .val (.int z2), .val (.int z3), .val (.ref x4), .val (.ref x5), .val (.int q12), .val (.int z6), .val (.int q14), .val (.int q15), .val (.int z7), .val (.int z8), .val (.ref x9), .val (.ref x10), .val (.ref b11), .val (.ref b13), .val (.ref b15), .val (.ref b17), .val (.int z19), .val (.ref b20), .val (.int ((((p3.toUInt32 >>> ((9 : Int32) &&& 31).toUInt32).toInt32) &&& (3 : Int32)) % (3 : Int32))), .unset, .unset, .unset] [.null, (.ref b20)])
                    refine GoW.callV (b := b20) (W := 0) (argsL := [.null]) (rest := []) X21 hx hZ hown (y := (⟨"com/example/covenant/covenant/ElementaryCondition", "equals", "(Ljava/lang/Object;)Z"⟩ : MethodName)) (z := (⟨"com/example/covenant/covenant/ElementaryCondition", "equals", "(Ljava/lang/Object;)Z"⟩ : MethodName)) (hw _ (List.mem_of_getElem? (i := 53) rfl)) (hw _ (List.mem_of_getElem? (i := 54) rfl)) (notFace_of_selects (args := #[]) (mvT hZ (hw _ (List.mem_of_getElem? (i := 56) rfl)))) (hw _ (List.mem_of_getElem? (i := 56) rfl)) (hw _ (List.mem_of_getElem? (i := 55) rfl)) (hw _ (List.mem_of_getElem? (i := 39) rfl)) (hw _ (List.mem_of_getElem? (i := 57) rfl)) (rmE3 l Z a0 hw [] b20 h21 n0) e21 E_b20_21 (by decide) (by decide) (by decide) (by decide) (by decide) (by rw [hml]; rfl) (lenOf pd__Ljava_lang_Object__Z rfl) (Nat.le_of_eq rfl) (hb hby at_428) ?_
                    intro T29 v29 L29 X29 hQ29
                    obtain ⟨rfl, N29, E29⟩ := hQ29
                    have M29 := Fr.app M21 N29
                    show GoW Z EL0 p e s below _ _ _ T29 (mkF m 431 #[.val (.int p0), .val (.int p1), .val (.int p2), .val (.int p3), .val (.int q4), .val (.int z1), .val (.int q6), .val (.int q7), .val (.int z2), .val (.int z3), .val (.ref x4), .val (.ref x5), .val (.int q12), .val (.int z6), .val (.int q14), .val (.int q15), .val (.int z7), .val (.int z8), .val (.ref x9), .val (.ref x10), .val (.ref b11), .val (.ref b13), .val (.ref b15), .val (.ref b17), .val (.int z19), .val (.ref b20), .val (.int ((((p3.toUInt32 >>> ((9 : Int32) &&& 31).toUInt32).toInt32) &&& (3 : Int32)) % (3 : Int32))), .unset, .unset, .unset] [(.int (0 : Int32))])
                    refine GoW.st (fun _ kont => XS.ifNo X29.here hx rfl (hb hby at_431) rfl ((if0 _ _).trans (teq rfl).2) kont) ?_
                    show GoW Z EL0 p e s below _ _ _ T29 (mkF m 434 #[.val (.int p0), .val (.int p1), .val (.int p2), .val (.int p3), .val (.int q4), .val (.int z1), .val (.int q6), .val (.int q7), .val (.int z2), .val (.int z3), .val (.ref x4), .val (.ref x5), .val (.int q12), .val (.int z6), .val (.int q14), .val (.int q15), .val (.int z7), .val (.int z8), .val (.ref x9), .val (.ref x10), .val (.ref b11), .val (.ref b13), .val (.ref b15), .val (.ref b17), .val (.int z19), .val (.ref b20), .val (.int ((((p3.toUInt32 >>> ((9 : Int32) &&& 31).toUInt32).toInt32) &&& (3 : Int32)) % (3 : Int32))), .unset, .unset, .unset] [])
                    refine GoW.st (fun _ kont => XT.iconstV X29.here hx rfl (1 : Int32) (hb hby at_434) (by decide) kont) ?_
                    show GoW Z EL0 p e s below _ _ _ T29 (mkF m 435 #[.val (.int p0), .val (.int p1), .val (.int p2), .val (.int p3), .val (.int q4), .val (.int z1), .val (.int q6), .val (.int q7), .val (.int z2), .val (.int z3), .val (.ref x4), .val (.ref x5), .val (.int q12), .val (.int z6), .val (.int q14), .val (.int q15), .val (.int z7), .val (.int z8), .val (.ref x9), .val (.ref x10), .val (.ref b11), .val (.ref b13), .val (.ref b15), .val (.ref b17), .val (.int z19), .val (.ref b20), .val (.int ((((p3.toUInt32 >>> ((9 : Int32) &&& 31).toUInt32).toInt32) &&& (3 : Int32)) % (3 : Int32))), .unset, .unset, .unset] [(.int (1 : Int32))])
                    refine GoW.st (fun _ kont => XS.goto X29.here hx rfl (pc0 := 435) (pc' := 439) rfl (hb hby at_435) (by decide) (by decide) kont) ?_
                    show GoW Z EL0 p e s below _ _ _ T29 (mkF m 439 #[.val (.int p0), .val (.int p1), .val (.int p2), .val (.int p3), .val (.int q4), .val (.int z1), .val (.int q6), .val (.int q7), .val (.int z2), .val (.int z3), .val (.ref x4), .val (.ref x5), .val (.int q12), .val (.int z6), .val (.int q14), .val (.int q15), .val (.int z7), .val (.int z8), .val (.ref x9), .val (.ref x10), .val (.ref b11), .val (.ref b13), .val (.ref b15), .val (.ref b17), .val (.int z19), .val (.ref b20), .val (.int ((((p3.toUInt32 >>> ((9 : Int32) &&& 31).toUInt32).toInt32) &&& (3 : Int32)) % (3 : Int32))), .unset, .unset, .unset] [(.int (1 : Int32))])
                    exact GoW.retN X29 hx hlk hret (by simp) hS (Nat.le_trans Sz_21 (Nat.le_of_eq (congrArg Array.size (Eq.symm E29)))) hZ hEL (own_cr hh0 E29 CR_21) (hb hby at_439) (by decide) (by decide) ⟨rfl, M29⟩
              by_cases hc288_30 : q4 = z1
              · --
                refine GoW.st (fun _ kont => XS.icmpNo X18.here hx rfl (hb hby at_288) rfl (teq hc288_30).2 kont) ?_
                show GoW Z EL0 p e s below _ _ _ T18 (mkF m 291 #[.val (.int p0), .val (.int p1), .val (.int p2), .val (.int p3), .val (.int q4), .val (.int z1), .val (.int q6), .val (.int q7), .val (.int z2), .val (.int z3), .val (.ref x4), .val (.ref x5), .val (.int q12), .val (.int z6), .val (.int q14), .val (.int q15), .val (.int z7), .val (.int z8), .val (.ref x9), .val (.ref x10), .val (.ref b11), .val (.ref b13), .val (.ref b15), .val (.ref b17), .unset, .unset, .unset, .unset, .unset, .unset] [])
                refine GoW.st (fun _ kont => XS.iload X18.here hx rfl (hb hby at_291) rfl kont) ?_
                show GoW Z EL0 p e s below _ _ _ T18 (mkF m 293 #[.val (.int p0), .val (.int p1), .val (.int p2), .val (.int p3), .val (.int q4), .val (.int z1), .val (.int q6), .val (.int q7), .val (.int z2), .val (.int z3), .val (.ref x4), .val (.ref x5), .val (.int q12), .val (.int z6), .val (.int q14), .val (.int q15), .val (.int z7), .val (.int z8), .val (.ref x9), .val (.ref x10), .val (.ref b11), .val (.ref b13), .val (.ref b15), .val (.ref b17), .unset, .unset, .unset, .unset, .unset, .unset] [(.int q4)])
                refine GoW.st (fun _ kont => XT.iconstV X18.here hx rfl (1 : Int32) (hb hby at_293) (by decide) kont) ?_
                show GoW Z EL0 p e s below _ _ _ T18 (mkF m 294 #[.val (.int p0), .val (.int p1), .val (.int p2), .val (.int p3), .val (.int q4), .val (.int z1), .val (.int q6), .val (.int q7), .val (.int z2), .val (.int z3), .val (.ref x4), .val (.ref x5), .val (.int q12), .val (.int z6), .val (.int q14), .val (.int q15), .val (.int z7), .val (.int z8), .val (.ref x9), .val (.ref x10), .val (.ref b11), .val (.ref b13), .val (.ref b15), .val (.ref b17), .unset, .unset, .unset, .unset, .unset, .unset] [(.int (1 : Int32)), (.int q4)])
                by_cases hc294_31 : q4 < (1 : Int32)
                · --
                  refine GoW.st (fun _ kont => XS.icmpYes X18.here hx rfl (pc0 := 294) (pc' := 304) rfl (hb hby at_294) rfl (tlt hc294_31).1 (by decide) (by decide) kont) ?_
                  show GoW Z EL0 p e s below _ _ _ T18 (mkF m 304 #[.val (.int p0), .val (.int p1), .val (.int p2), .val (.int p3), .val (.int q4), .val (.int z1), .val (.int q6), .val (.int q7), .val (.int z2), .val (.int z3), .val (.ref x4), .val (.ref x5), .val (.int q12), .val (.int z6), .val (.int q14), .val (.int q15), .val (.int z7), .val (.int z8), .val (.ref x9), .val (.ref x10), .val (.ref b11), .val (.ref b13), .val (.ref b15), .val (.ref b17), .unset, .unset, .unset, .unset, .unset, .unset] [])
                  refine GoW.st (fun _ kont => XS.iload X18.here hx rfl (hb hby at_304) rfl kont) ?_
                  show GoW Z EL0 p e s below _ _ _ T18 (mkF m 306 #[.val (.int p0), .val (.int p1), .val (.int p2), .val (.int p3), .val (.int q4), .val (.int z1), .val (.int q6), .val (.int q7), .val (.int z2), .val (.int z3), .val (.ref x4), .val (.ref x5), .val (.int q12), .val (.int z6), .val (.int q14), .val (.int q15), .val (.int z7), .val (.int z8), .val (.ref x9), .val (.ref x10), .val (.ref b11), .val (.ref b13), .val (.ref b15), .val (.ref b17), .unset, .unset, .unset, .unset, .unset, .unset] [(.int q4)])
                  refine GoW.st (fun _ kont => XT.iconstV X18.here hx rfl (2 : Int32) (hb hby at_306) (by decide) kont) ?_
                  show GoW Z EL0 p e s below _ _ _ T18 (mkF m 307 #[.val (.int p0), .val (.int p1), .val (.int p2), .val (.int p3), .val (.int q4), .val (.int z1), .val (.int q6), .val (.int q7), .val (.int z2), .val (.int z3), .val (.ref x4), .val (.ref x5), .val (.int q12), .val (.int z6), .val (.int q14), .val (.int q15), .val (.int z7), .val (.int z8), .val (.ref x9), .val (.ref x10), .val (.ref b11), .val (.ref b13), .val (.ref b15), .val (.ref b17), .unset, .unset, .unset, .unset, .unset, .unset] [(.int (2 : Int32)), (.int q4)])
                  by_cases hc307_32 : q4 < (2 : Int32)
                  · --
                    refine GoW.st (fun _ kont => XS.icmpYes X18.here hx rfl (pc0 := 307) (pc' := 317) rfl (hb hby at_307) rfl (tlt hc307_32).1 (by decide) (by decide) kont) ?_
                    show GoW Z EL0 p e s below _ _ _ T18 (mkF m 317 #[.val (.int p0), .val (.int p1), .val (.int p2), .val (.int p3), .val (.int q4), .val (.int z1), .val (.int q6), .val (.int q7), .val (.int z2), .val (.int z3), .val (.ref x4), .val (.ref x5), .val (.int q12), .val (.int z6), .val (.int q14), .val (.int q15), .val (.int z7), .val (.int z8), .val (.ref x9), .val (.ref x10), .val (.ref b11), .val (.ref b13), .val (.ref b15), .val (.ref b17), .unset, .unset, .unset, .unset, .unset, .unset] [])
                    refine GoW.st (fun _ kont => XT.iconstV X18.here hx rfl (1 : Int32) (hb hby at_317) (by decide) kont) ?_
                    show GoW Z EL0 p e s below _ _ _ T18 (mkF m 318 #[.val (.int p0), .val (.int p1), .val (.int p2), .val (.int p3), .val (.int q4), .val (.int z1), .val (.int q6), .val (.int q7), .val (.int z2), .val (.int z3), .val (.ref x4), .val (.ref x5), .val (.int q12), .val (.int z6), .val (.int q14), .val (.int q15), .val (.int z7), .val (.int z8), .val (.ref x9), .val (.ref x10), .val (.ref b11), .val (.ref b13), .val (.ref b15), .val (.ref b17), .unset, .unset, .unset, .unset, .unset, .unset] [(.int (1 : Int32))])
                    refine GoW.st (fun _ kont => XS.goto X18.here hx rfl (pc0 := 318) (pc' := 322) rfl (hb hby at_318) (by decide) (by decide) kont) ?_
                    show GoW Z EL0 p e s below _ _ _ T18 (mkF m 322 #[.val (.int p0), .val (.int p1), .val (.int p2), .val (.int p3), .val (.int q4), .val (.int z1), .val (.int q6), .val (.int q7), .val (.int z2), .val (.int z3), .val (.ref x4), .val (.ref x5), .val (.int q12), .val (.int z6), .val (.int q14), .val (.int q15), .val (.int z7), .val (.int z8), .val (.ref x9), .val (.ref x10), .val (.ref b11), .val (.ref b13), .val (.ref b15), .val (.ref b17), .unset, .unset, .unset, .unset, .unset, .unset] [(.int (1 : Int32))])
                    exact J19 (1 : Int32) ⟨fun _ => rfl, fun q => absurd ⟨hc288_30, (fun hq => absurd hc294_31 hq), (fun hq => absurd hc307_32 hq)⟩ q⟩
                  · --
                    refine GoW.st (fun _ kont => XS.icmpNo X18.here hx rfl (hb hby at_307) rfl (flt hc307_32).1 kont) ?_
                    show GoW Z EL0 p e s below _ _ _ T18 (mkF m 310 #[.val (.int p0), .val (.int p1), .val (.int p2), .val (.int p3), .val (.int q4), .val (.int z1), .val (.int q6), .val (.int q7), .val (.int z2), .val (.int z3), .val (.ref x4), .val (.ref x5), .val (.int q12), .val (.int z6), .val (.int q14), .val (.int q15), .val (.int z7), .val (.int z8), .val (.ref x9), .val (.ref x10), .val (.ref b11), .val (.ref b13), .val (.ref b15), .val (.ref b17), .unset, .unset, .unset, .unset, .unset, .unset] [])
                    refine GoW.st (fun _ kont => XS.iload X18.here hx rfl (hb hby at_310) rfl kont) ?_
                    show GoW Z EL0 p e s below _ _ _ T18 (mkF m 312 #[.val (.int p0), .val (.int p1), .val (.int p2), .val (.int p3), .val (.int q4), .val (.int z1), .val (.int q6), .val (.int q7), .val (.int z2), .val (.int z3), .val (.ref x4), .val (.ref x5), .val (.int q12), .val (.int z6), .val (.int q14), .val (.int q15), .val (.int z7), .val (.int z8), .val (.ref x9), .val (.ref x10), .val (.ref b11), .val (.ref b13), .val (.ref b15), .val (.ref b17), .unset, .unset, .unset, .unset, .unset, .unset] [(.int q7)])
                    refine GoW.st (fun _ kont => XS.iload X18.here hx rfl (hb hby at_312) rfl kont) ?_
                    show GoW Z EL0 p e s below _ _ _ T18 (mkF m 314 #[.val (.int p0), .val (.int p1), .val (.int p2), .val (.int p3), .val (.int q4), .val (.int z1), .val (.int q6), .val (.int q7), .val (.int z2), .val (.int z3), .val (.ref x4), .val (.ref x5), .val (.int q12), .val (.int z6), .val (.int q14), .val (.int q15), .val (.int z7), .val (.int z8), .val (.ref x9), .val (.ref x10), .val (.ref b11), .val (.ref b13), .val (.ref b15), .val (.ref b17), .unset, .unset, .unset, .unset, .unset, .unset] [(.int z3), (.int q7)])
                    by_cases hc314_33 : q7 = z3
                    · --
                      refine GoW.st (fun _ kont => XS.icmpNo X18.here hx rfl (hb hby at_314) rfl (teq hc314_33).2 kont) ?_
                      show GoW Z EL0 p e s below _ _ _ T18 (mkF m 317 #[.val (.int p0), .val (.int p1), .val (.int p2), .val (.int p3), .val (.int q4), .val (.int z1), .val (.int q6), .val (.int q7), .val (.int z2), .val (.int z3), .val (.ref x4), .val (.ref x5), .val (.int q12), .val (.int z6), .val (.int q14), .val (.int q15), .val (.int z7), .val (.int z8), .val (.ref x9), .val (.ref x10), .val (.ref b11), .val (.ref b13), .val (.ref b15), .val (.ref b17), .unset, .unset, .unset, .unset, .unset, .unset] [])
                      refine GoW.st (fun _ kont => XT.iconstV X18.here hx rfl (1 : Int32) (hb hby at_317) (by decide) kont) ?_
                      show GoW Z EL0 p e s below _ _ _ T18 (mkF m 318 #[.val (.int p0), .val (.int p1), .val (.int p2), .val (.int p3), .val (.int q4), .val (.int z1), .val (.int q6), .val (.int q7), .val (.int z2), .val (.int z3), .val (.ref x4), .val (.ref x5), .val (.int q12), .val (.int z6), .val (.int q14), .val (.int q15), .val (.int z7), .val (.int z8), .val (.ref x9), .val (.ref x10), .val (.ref b11), .val (.ref b13), .val (.ref b15), .val (.ref b17), .unset, .unset, .unset, .unset, .unset, .unset] [(.int (1 : Int32))])
                      refine GoW.st (fun _ kont => XS.goto X18.here hx rfl (pc0 := 318) (pc' := 322) rfl (hb hby at_318) (by decide) (by decide) kont) ?_
                      show GoW Z EL0 p e s below _ _ _ T18 (mkF m 322 #[.val (.int p0), .val (.int p1), .val (.int p2), .val (.int p3), .val (.int q4), .val (.int z1), .val (.int q6), .val (.int q7), .val (.int z2), .val (.int z3), .val (.ref x4), .val (.ref x5), .val (.int q12), .val (.int z6), .val (.int q14), .val (.int q15), .val (.int z7), .val (.int z8), .val (.ref x9), .val (.ref x10), .val (.ref b11), .val (.ref b13), .val (.ref b15), .val (.ref b17), .unset, .unset, .unset, .unset, .unset, .unset] [(.int (1 : Int32))])
                      exact J19 (1 : Int32) ⟨fun _ => rfl, fun q => absurd ⟨hc288_30, (fun hq => absurd hc294_31 hq), (fun _ => own_byt hc314_33)⟩ q⟩
                    · --
                      refine GoW.st (fun _ kont => XS.icmpYes X18.here hx rfl (pc0 := 314) (pc' := 321) rfl (hb hby at_314) rfl (feq hc314_33).2 (by decide) (by decide) kont) ?_
                      show GoW Z EL0 p e s below _ _ _ T18 (mkF m 321 #[.val (.int p0), .val (.int p1), .val (.int p2), .val (.int p3), .val (.int q4), .val (.int z1), .val (.int q6), .val (.int q7), .val (.int z2), .val (.int z3), .val (.ref x4), .val (.ref x5), .val (.int q12), .val (.int z6), .val (.int q14), .val (.int q15), .val (.int z7), .val (.int z8), .val (.ref x9), .val (.ref x10), .val (.ref b11), .val (.ref b13), .val (.ref b15), .val (.ref b17), .unset, .unset, .unset, .unset, .unset, .unset] [])
                      refine GoW.st (fun _ kont => XT.iconstV X18.here hx rfl (0 : Int32) (hb hby at_321) (by decide) kont) ?_
                      show GoW Z EL0 p e s below _ _ _ T18 (mkF m 322 #[.val (.int p0), .val (.int p1), .val (.int p2), .val (.int p3), .val (.int q4), .val (.int z1), .val (.int q6), .val (.int q7), .val (.int z2), .val (.int z3), .val (.ref x4), .val (.ref x5), .val (.int q12), .val (.int z6), .val (.int q14), .val (.int q15), .val (.int z7), .val (.int z8), .val (.ref x9), .val (.ref x10), .val (.ref b11), .val (.ref b13), .val (.ref b15), .val (.ref b17), .unset, .unset, .unset, .unset, .unset, .unset] [(.int (0 : Int32))])
                      exact J19 (0 : Int32) ⟨fun q => absurd (own_bytI pq7 hj3 (q.2.2 hc307_32)) hc314_33, fun _ => rfl⟩
                · --
                  refine GoW.st (fun _ kont => XS.icmpNo X18.here hx rfl (hb hby at_294) rfl (flt hc294_31).1 kont) ?_
                  show GoW Z EL0 p e s below _ _ _ T18 (mkF m 297 #[.val (.int p0), .val (.int p1), .val (.int p2), .val (.int p3), .val (.int q4), .val (.int z1), .val (.int q6), .val (.int q7), .val (.int z2), .val (.int z3), .val (.ref x4), .val (.ref x5), .val (.int q12), .val (.int z6), .val (.int q14), .val (.int q15), .val (.int z7), .val (.int z8), .val (.ref x9), .val (.ref x10), .val (.ref b11), .val (.ref b13), .val (.ref b15), .val (.ref b17), .unset, .unset, .unset, .unset, .unset, .unset] [])
                  refine GoW.st (fun _ kont => XS.iload X18.here hx rfl (hb hby at_297) rfl kont) ?_
                  show GoW Z EL0 p e s below _ _ _ T18 (mkF m 299 #[.val (.int p0), .val (.int p1), .val (.int p2), .val (.int p3), .val (.int q4), .val (.int z1), .val (.int q6), .val (.int q7), .val (.int z2), .val (.int z3), .val (.ref x4), .val (.ref x5), .val (.int q12), .val (.int z6), .val (.int q14), .val (.int q15), .val (.int z7), .val (.int z8), .val (.ref x9), .val (.ref x10), .val (.ref b11), .val (.ref b13), .val (.ref b15), .val (.ref b17), .unset, .unset, .unset, .unset, .unset, .unset] [(.int q6)])
                  refine GoW.st (fun _ kont => XS.iload X18.here hx rfl (hb hby at_299) rfl kont) ?_
                  show GoW Z EL0 p e s below _ _ _ T18 (mkF m 301 #[.val (.int p0), .val (.int p1), .val (.int p2), .val (.int p3), .val (.int q4), .val (.int z1), .val (.int q6), .val (.int q7), .val (.int z2), .val (.int z3), .val (.ref x4), .val (.ref x5), .val (.int q12), .val (.int z6), .val (.int q14), .val (.int q15), .val (.int z7), .val (.int z8), .val (.ref x9), .val (.ref x10), .val (.ref b11), .val (.ref b13), .val (.ref b15), .val (.ref b17), .unset, .unset, .unset, .unset, .unset, .unset] [(.int z2), (.int q6)])
                  by_cases hc301_34 : q6 = z2
                  · --
                    refine GoW.st (fun _ kont => XS.icmpNo X18.here hx rfl (hb hby at_301) rfl (teq hc301_34).2 kont) ?_
                    show GoW Z EL0 p e s below _ _ _ T18 (mkF m 304 #[.val (.int p0), .val (.int p1), .val (.int p2), .val (.int p3), .val (.int q4), .val (.int z1), .val (.int q6), .val (.int q7), .val (.int z2), .val (.int z3), .val (.ref x4), .val (.ref x5), .val (.int q12), .val (.int z6), .val (.int q14), .val (.int q15), .val (.int z7), .val (.int z8), .val (.ref x9), .val (.ref x10), .val (.ref b11), .val (.ref b13), .val (.ref b15), .val (.ref b17), .unset, .unset, .unset, .unset, .unset, .unset] [])
                    refine GoW.st (fun _ kont => XS.iload X18.here hx rfl (hb hby at_304) rfl kont) ?_
                    show GoW Z EL0 p e s below _ _ _ T18 (mkF m 306 #[.val (.int p0), .val (.int p1), .val (.int p2), .val (.int p3), .val (.int q4), .val (.int z1), .val (.int q6), .val (.int q7), .val (.int z2), .val (.int z3), .val (.ref x4), .val (.ref x5), .val (.int q12), .val (.int z6), .val (.int q14), .val (.int q15), .val (.int z7), .val (.int z8), .val (.ref x9), .val (.ref x10), .val (.ref b11), .val (.ref b13), .val (.ref b15), .val (.ref b17), .unset, .unset, .unset, .unset, .unset, .unset] [(.int q4)])
                    refine GoW.st (fun _ kont => XT.iconstV X18.here hx rfl (2 : Int32) (hb hby at_306) (by decide) kont) ?_
                    show GoW Z EL0 p e s below _ _ _ T18 (mkF m 307 #[.val (.int p0), .val (.int p1), .val (.int p2), .val (.int p3), .val (.int q4), .val (.int z1), .val (.int q6), .val (.int q7), .val (.int z2), .val (.int z3), .val (.ref x4), .val (.ref x5), .val (.int q12), .val (.int z6), .val (.int q14), .val (.int q15), .val (.int z7), .val (.int z8), .val (.ref x9), .val (.ref x10), .val (.ref b11), .val (.ref b13), .val (.ref b15), .val (.ref b17), .unset, .unset, .unset, .unset, .unset, .unset] [(.int (2 : Int32)), (.int q4)])
                    by_cases hc307_35 : q4 < (2 : Int32)
                    · --
                      refine GoW.st (fun _ kont => XS.icmpYes X18.here hx rfl (pc0 := 307) (pc' := 317) rfl (hb hby at_307) rfl (tlt hc307_35).1 (by decide) (by decide) kont) ?_
                      show GoW Z EL0 p e s below _ _ _ T18 (mkF m 317 #[.val (.int p0), .val (.int p1), .val (.int p2), .val (.int p3), .val (.int q4), .val (.int z1), .val (.int q6), .val (.int q7), .val (.int z2), .val (.int z3), .val (.ref x4), .val (.ref x5), .val (.int q12), .val (.int z6), .val (.int q14), .val (.int q15), .val (.int z7), .val (.int z8), .val (.ref x9), .val (.ref x10), .val (.ref b11), .val (.ref b13), .val (.ref b15), .val (.ref b17), .unset, .unset, .unset, .unset, .unset, .unset] [])
                      refine GoW.st (fun _ kont => XT.iconstV X18.here hx rfl (1 : Int32) (hb hby at_317) (by decide) kont) ?_
                      show GoW Z EL0 p e s below _ _ _ T18 (mkF m 318 #[.val (.int p0), .val (.int p1), .val (.int p2), .val (.int p3), .val (.int q4), .val (.int z1), .val (.int q6), .val (.int q7), .val (.int z2), .val (.int z3), .val (.ref x4), .val (.ref x5), .val (.int q12), .val (.int z6), .val (.int q14), .val (.int q15), .val (.int z7), .val (.int z8), .val (.ref x9), .val (.ref x10), .val (.ref b11), .val (.ref b13), .val (.ref b15), .val (.ref b17), .unset, .unset, .unset, .unset, .unset, .unset] [(.int (1 : Int32))])
                      refine GoW.st (fun _ kont => XS.goto X18.here hx rfl (pc0 := 318) (pc' := 322) rfl (hb hby at_318) (by decide) (by decide) kont) ?_
                      show GoW Z EL0 p e s below _ _ _ T18 (mkF m 322 #[.val (.int p0), .val (.int p1), .val (.int p2), .val (.int p3), .val (.int q4), .val (.int z1), .val (.int q6), .val (.int q7), .val (.int z2), .val (.int z3), .val (.ref x4), .val (.ref x5), .val (.int q12), .val (.int z6), .val (.int q14), .val (.int q15), .val (.int z7), .val (.int z8), .val (.ref x9), .val (.ref x10), .val (.ref b11), .val (.ref b13), .val (.ref b15), .val (.ref b17), .unset, .unset, .unset, .unset, .unset, .unset] [(.int (1 : Int32))])
                      exact J19 (1 : Int32) ⟨fun _ => rfl, fun q => absurd ⟨hc288_30, (fun _ => own_byt hc301_34), (fun hq => absurd hc307_35 hq)⟩ q⟩
                    · --
                      refine GoW.st (fun _ kont => XS.icmpNo X18.here hx rfl (hb hby at_307) rfl (flt hc307_35).1 kont) ?_
                      show GoW Z EL0 p e s below _ _ _ T18 (mkF m 310 #[.val (.int p0), .val (.int p1), .val (.int p2), .val (.int p3), .val (.int q4), .val (.int z1), .val (.int q6), .val (.int q7), .val (.int z2), .val (.int z3), .val (.ref x4), .val (.ref x5), .val (.int q12), .val (.int z6), .val (.int q14), .val (.int q15), .val (.int z7), .val (.int z8), .val (.ref x9), .val (.ref x10), .val (.ref b11), .val (.ref b13), .val (.ref b15), .val (.ref b17), .unset, .unset, .unset, .unset, .unset, .unset] [])
                      refine GoW.st (fun _ kont => XS.iload X18.here hx rfl (hb hby at_310) rfl kont) ?_
                      show GoW Z EL0 p e s below _ _ _ T18 (mkF m 312 #[.val (.int p0), .val (.int p1), .val (.int p2), .val (.int p3), .val (.int q4), .val (.int z1), .val (.int q6), .val (.int q7), .val (.int z2), .val (.int z3), .val (.ref x4), .val (.ref x5), .val (.int q12), .val (.int z6), .val (.int q14), .val (.int q15), .val (.int z7), .val (.int z8), .val (.ref x9), .val (.ref x10), .val (.ref b11), .val (.ref b13), .val (.ref b15), .val (.ref b17), .unset, .unset, .unset, .unset, .unset, .unset] [(.int q7)])
                      refine GoW.st (fun _ kont => XS.iload X18.here hx rfl (hb hby at_312) rfl kont) ?_
                      show GoW Z EL0 p e s below _ _ _ T18 (mkF m 314 #[.val (.int p0), .val (.int p1), .val (.int p2), .val (.int p3), .val (.int q4), .val (.int z1), .val (.int q6), .val (.int q7), .val (.int z2), .val (.int z3), .val (.ref x4), .val (.ref x5), .val (.int q12), .val (.int z6), .val (.int q14), .val (.int q15), .val (.int z7), .val (.int z8), .val (.ref x9), .val (.ref x10), .val (.ref b11), .val (.ref b13), .val (.ref b15), .val (.ref b17), .unset, .unset, .unset, .unset, .unset, .unset] [(.int z3), (.int q7)])
                      by_cases hc314_36 : q7 = z3
                      · --
                        refine GoW.st (fun _ kont => XS.icmpNo X18.here hx rfl (hb hby at_314) rfl (teq hc314_36).2 kont) ?_
                        show GoW Z EL0 p e s below _ _ _ T18 (mkF m 317 #[.val (.int p0), .val (.int p1), .val (.int p2), .val (.int p3), .val (.int q4), .val (.int z1), .val (.int q6), .val (.int q7), .val (.int z2), .val (.int z3), .val (.ref x4), .val (.ref x5), .val (.int q12), .val (.int z6), .val (.int q14), .val (.int q15), .val (.int z7), .val (.int z8), .val (.ref x9), .val (.ref x10), .val (.ref b11), .val (.ref b13), .val (.ref b15), .val (.ref b17), .unset, .unset, .unset, .unset, .unset, .unset] [])
                        refine GoW.st (fun _ kont => XT.iconstV X18.here hx rfl (1 : Int32) (hb hby at_317) (by decide) kont) ?_
                        show GoW Z EL0 p e s below _ _ _ T18 (mkF m 318 #[.val (.int p0), .val (.int p1), .val (.int p2), .val (.int p3), .val (.int q4), .val (.int z1), .val (.int q6), .val (.int q7), .val (.int z2), .val (.int z3), .val (.ref x4), .val (.ref x5), .val (.int q12), .val (.int z6), .val (.int q14), .val (.int q15), .val (.int z7), .val (.int z8), .val (.ref x9), .val (.ref x10), .val (.ref b11), .val (.ref b13), .val (.ref b15), .val (.ref b17), .unset, .unset, .unset, .unset, .unset, .unset] [(.int (1 : Int32))])
                        refine GoW.st (fun _ kont => XS.goto X18.here hx rfl (pc0 := 318) (pc' := 322) rfl (hb hby at_318) (by decide) (by decide) kont) ?_
                        show GoW Z EL0 p e s below _ _ _ T18 (mkF m 322 #[.val (.int p0), .val (.int p1), .val (.int p2), .val (.int p3), .val (.int q4), .val (.int z1), .val (.int q6), .val (.int q7), .val (.int z2), .val (.int z3), .val (.ref x4), .val (.ref x5), .val (.int q12), .val (.int z6), .val (.int q14), .val (.int q15), .val (.int z7), .val (.int z8), .val (.ref x9), .val (.ref x10), .val (.ref b11), .val (.ref b13), .val (.ref b15), .val (.ref b17), .unset, .unset, .unset, .unset, .unset, .unset] [(.int (1 : Int32))])
                        exact J19 (1 : Int32) ⟨fun _ => rfl, fun q => absurd ⟨hc288_30, (fun _ => own_byt hc301_34), (fun _ => own_byt hc314_36)⟩ q⟩
                      · --
                        refine GoW.st (fun _ kont => XS.icmpYes X18.here hx rfl (pc0 := 314) (pc' := 321) rfl (hb hby at_314) rfl (feq hc314_36).2 (by decide) (by decide) kont) ?_
                        show GoW Z EL0 p e s below _ _ _ T18 (mkF m 321 #[.val (.int p0), .val (.int p1), .val (.int p2), .val (.int p3), .val (.int q4), .val (.int z1), .val (.int q6), .val (.int q7), .val (.int z2), .val (.int z3), .val (.ref x4), .val (.ref x5), .val (.int q12), .val (.int z6), .val (.int q14), .val (.int q15), .val (.int z7), .val (.int z8), .val (.ref x9), .val (.ref x10), .val (.ref b11), .val (.ref b13), .val (.ref b15), .val (.ref b17), .unset, .unset, .unset, .unset, .unset, .unset] [])
                        refine GoW.st (fun _ kont => XT.iconstV X18.here hx rfl (0 : Int32) (hb hby at_321) (by decide) kont) ?_
                        show GoW Z EL0 p e s below _ _ _ T18 (mkF m 322 #[.val (.int p0), .val (.int p1), .val (.int p2), .val (.int p3), .val (.int q4), .val (.int z1), .val (.int q6), .val (.int q7), .val (.int z2), .val (.int z3), .val (.ref x4), .val (.ref x5), .val (.int q12), .val (.int z6), .val (.int q14), .val (.int q15), .val (.int z7), .val (.int z8), .val (.ref x9), .val (.ref x10), .val (.ref b11), .val (.ref b13), .val (.ref b15), .val (.ref b17), .unset, .unset, .unset, .unset, .unset, .unset] [(.int (0 : Int32))])
                        exact J19 (0 : Int32) ⟨fun q => absurd (own_bytI pq7 hj3 (q.2.2 hc307_35)) hc314_36, fun _ => rfl⟩
                  · --
                    refine GoW.st (fun _ kont => XS.icmpYes X18.here hx rfl (pc0 := 301) (pc' := 321) rfl (hb hby at_301) rfl (feq hc301_34).2 (by decide) (by decide) kont) ?_
                    show GoW Z EL0 p e s below _ _ _ T18 (mkF m 321 #[.val (.int p0), .val (.int p1), .val (.int p2), .val (.int p3), .val (.int q4), .val (.int z1), .val (.int q6), .val (.int q7), .val (.int z2), .val (.int z3), .val (.ref x4), .val (.ref x5), .val (.int q12), .val (.int z6), .val (.int q14), .val (.int q15), .val (.int z7), .val (.int z8), .val (.ref x9), .val (.ref x10), .val (.ref b11), .val (.ref b13), .val (.ref b15), .val (.ref b17), .unset, .unset, .unset, .unset, .unset, .unset] [])
                    refine GoW.st (fun _ kont => XT.iconstV X18.here hx rfl (0 : Int32) (hb hby at_321) (by decide) kont) ?_
                    show GoW Z EL0 p e s below _ _ _ T18 (mkF m 322 #[.val (.int p0), .val (.int p1), .val (.int p2), .val (.int p3), .val (.int q4), .val (.int z1), .val (.int q6), .val (.int q7), .val (.int z2), .val (.int z3), .val (.ref x4), .val (.ref x5), .val (.int q12), .val (.int z6), .val (.int q14), .val (.int q15), .val (.int z7), .val (.int z8), .val (.ref x9), .val (.ref x10), .val (.ref b11), .val (.ref b13), .val (.ref b15), .val (.ref b17), .unset, .unset, .unset, .unset, .unset, .unset] [(.int (0 : Int32))])
                    exact J19 (0 : Int32) ⟨fun q => absurd (own_bytI pq6 hj2 (q.2.1 hc294_31)) hc301_34, fun _ => rfl⟩
              · --
                refine GoW.st (fun _ kont => XS.icmpYes X18.here hx rfl (pc0 := 288) (pc' := 321) rfl (hb hby at_288) rfl (feq hc288_30).2 (by decide) (by decide) kont) ?_
                show GoW Z EL0 p e s below _ _ _ T18 (mkF m 321 #[.val (.int p0), .val (.int p1), .val (.int p2), .val (.int p3), .val (.int q4), .val (.int z1), .val (.int q6), .val (.int q7), .val (.int z2), .val (.int z3), .val (.ref x4), .val (.ref x5), .val (.int q12), .val (.int z6), .val (.int q14), .val (.int q15), .val (.int z7), .val (.int z8), .val (.ref x9), .val (.ref x10), .val (.ref b11), .val (.ref b13), .val (.ref b15), .val (.ref b17), .unset, .unset, .unset, .unset, .unset, .unset] [])
                refine GoW.st (fun _ kont => XT.iconstV X18.here hx rfl (0 : Int32) (hb hby at_321) (by decide) kont) ?_
                show GoW Z EL0 p e s below _ _ _ T18 (mkF m 322 #[.val (.int p0), .val (.int p1), .val (.int p2), .val (.int p3), .val (.int q4), .val (.int z1), .val (.int q6), .val (.int q7), .val (.int z2), .val (.int z3), .val (.ref x4), .val (.ref x5), .val (.int q12), .val (.int z6), .val (.int q14), .val (.int q15), .val (.int z7), .val (.int z8), .val (.ref x9), .val (.ref x10), .val (.ref b11), .val (.ref b13), .val (.ref b15), .val (.ref b17), .unset, .unset, .unset, .unset, .unset, .unset] [(.int (0 : Int32))])
                exact J19 (0 : Int32) ⟨fun q => absurd q.1 hc288_30, fun _ => rfl⟩
            by_cases hc199_37 : (((p3.toUInt32 >>> ((8 : Int32) &&& 31).toUInt32).toInt32) &&& (1 : Int32)) = (0 : Int32)
            · --
              refine GoW.st (fun _ kont => XS.ifYes X5.here hx rfl (pc0 := 199) (pc' := 207) rfl (hb hby at_199) rfl ((if0 _ _).trans (teq hc199_37).1) (by decide) (by decide) kont) ?_
              show GoW Z EL0 p e s below _ _ _ T5 (mkF m 207 #[.val (.int p0), .val (.int p1), .val (.int p2), .val (.int p3), .val (.int q4), .val (.int z1), .val (.int q6), .val (.int q7), .val (.int z2), .val (.int z3), .val (.ref x4), .val (.ref x5), .val (.int q12), .val (.int z6), .val (.int q14), .val (.int q15), .val (.int z7), .unset, .unset, .unset, .unset, .unset, .unset, .unset, .unset, .unset, .unset, .unset, .unset, .unset] [])
              refine GoW.st (fun _ kont => XS.iloadN X5.here hx rfl (hb hby at_207) rfl kont) ?_
              show GoW Z EL0 p e s below _ _ _ T5 (mkF m 208 #[.val (.int p0), .val (.int p1), .val (.int p2), .val (.int p3), .val (.int q4), .val (.int z1), .val (.int q6), .val (.int q7), .val (.int z2), .val (.int z3), .val (.ref x4), .val (.ref x5), .val (.int q12), .val (.int z6), .val (.int q14), .val (.int q15), .val (.int z7), .unset, .unset, .unset, .unset, .unset, .unset, .unset, .unset, .unset, .unset, .unset, .unset, .unset] [(.int p1)])
              refine GoW.st (fun _ kont => XT.bipushV X5.here hx rfl (16 : Int32) (hb hby at_208) (by decide) kont) ?_
              show GoW Z EL0 p e s below _ _ _ T5 (mkF m 210 #[.val (.int p0), .val (.int p1), .val (.int p2), .val (.int p3), .val (.int q4), .val (.int z1), .val (.int q6), .val (.int q7), .val (.int z2), .val (.int z3), .val (.ref x4), .val (.ref x5), .val (.int q12), .val (.int z6), .val (.int q14), .val (.int q15), .val (.int z7), .unset, .unset, .unset, .unset, .unset, .unset, .unset, .unset, .unset, .unset, .unset, .unset, .unset] [(.int (16 : Int32)), (.int p1)])
              refine GoW.st (fun _ kont => XS.iushr X5.here hx rfl (hb hby at_210) rfl kont) ?_
              show GoW Z EL0 p e s below _ _ _ T5 (mkF m 211 #[.val (.int p0), .val (.int p1), .val (.int p2), .val (.int p3), .val (.int q4), .val (.int z1), .val (.int q6), .val (.int q7), .val (.int z2), .val (.int z3), .val (.ref x4), .val (.ref x5), .val (.int q12), .val (.int z6), .val (.int q14), .val (.int q15), .val (.int z7), .unset, .unset, .unset, .unset, .unset, .unset, .unset, .unset, .unset, .unset, .unset, .unset, .unset] [(.int ((p1.toUInt32 >>> ((16 : Int32) &&& 31).toUInt32).toInt32))])
              refine GoW.st (fun _ kont => XT.sipushV X5.here hx rfl (255 : Int32) (hb hby at_211) (by decide) kont) ?_
              show GoW Z EL0 p e s below _ _ _ T5 (mkF m 214 #[.val (.int p0), .val (.int p1), .val (.int p2), .val (.int p3), .val (.int q4), .val (.int z1), .val (.int q6), .val (.int q7), .val (.int z2), .val (.int z3), .val (.ref x4), .val (.ref x5), .val (.int q12), .val (.int z6), .val (.int q14), .val (.int q15), .val (.int z7), .unset, .unset, .unset, .unset, .unset, .unset, .unset, .unset, .unset, .unset, .unset, .unset, .unset] [(.int (255 : Int32)), (.int ((p1.toUInt32 >>> ((16 : Int32) &&& 31).toUInt32).toInt32))])
              refine GoW.st (fun _ kont => XS.iand X5.here hx rfl (hb hby at_214) rfl kont) ?_
              show GoW Z EL0 p e s below _ _ _ T5 (mkF m 215 #[.val (.int p0), .val (.int p1), .val (.int p2), .val (.int p3), .val (.int q4), .val (.int z1), .val (.int q6), .val (.int q7), .val (.int z2), .val (.int z3), .val (.ref x4), .val (.ref x5), .val (.int q12), .val (.int z6), .val (.int q14), .val (.int q15), .val (.int z7), .unset, .unset, .unset, .unset, .unset, .unset, .unset, .unset, .unset, .unset, .unset, .unset, .unset] [(.int (((p1.toUInt32 >>> ((16 : Int32) &&& 31).toUInt32).toInt32) &&& (255 : Int32)))])
              refine GoW.st (fun _ kont => XS.i2c X5.here hx rfl (hb hby at_215) rfl kont) ?_
              show GoW Z EL0 p e s below _ _ _ T5 (mkF m 216 #[.val (.int p0), .val (.int p1), .val (.int p2), .val (.int p3), .val (.int q4), .val (.int z1), .val (.int q6), .val (.int q7), .val (.int z2), .val (.int z3), .val (.ref x4), .val (.ref x5), .val (.int q12), .val (.int z6), .val (.int q14), .val (.int q15), .val (.int z7), .unset, .unset, .unset, .unset, .unset, .unset, .unset, .unset, .unset, .unset, .unset, .unset, .unset] [(.int ((((p1.toUInt32 >>> ((16 : Int32) &&& 31).toUInt32).toInt32) &&& (255 : Int32)).toUInt32.toUInt16.toUInt32.toInt32))])
              exact J8 ((((p1.toUInt32 >>> ((16 : Int32) &&& 31).toUInt32).toInt32) &&& (255 : Int32)).toUInt32.toUInt16.toUInt32.toInt32) (own_lat _)
            · --
              refine GoW.st (fun _ kont => XS.ifNo X5.here hx rfl (hb hby at_199) rfl ((if0 _ _).trans (feq hc199_37).1) kont) ?_
              show GoW Z EL0 p e s below _ _ _ T5 (mkF m 202 #[.val (.int p0), .val (.int p1), .val (.int p2), .val (.int p3), .val (.int q4), .val (.int z1), .val (.int q6), .val (.int q7), .val (.int z2), .val (.int z3), .val (.ref x4), .val (.ref x5), .val (.int q12), .val (.int z6), .val (.int q14), .val (.int q15), .val (.int z7), .unset, .unset, .unset, .unset, .unset, .unset, .unset, .unset, .unset, .unset, .unset, .unset, .unset] [])
              refine GoW.st (fun _ kont => XS.iload X5.here hx rfl (hb hby at_202) rfl kont) ?_
              show GoW Z EL0 p e s below _ _ _ T5 (mkF m 204 #[.val (.int p0), .val (.int p1), .val (.int p2), .val (.int p3), .val (.int q4), .val (.int z1), .val (.int q6), .val (.int q7), .val (.int z2), .val (.int z3), .val (.ref x4), .val (.ref x5), .val (.int q12), .val (.int z6), .val (.int q14), .val (.int q15), .val (.int z7), .unset, .unset, .unset, .unset, .unset, .unset, .unset, .unset, .unset, .unset, .unset, .unset, .unset] [(.int q15)])
              refine GoW.st (fun _ kont => XS.goto X5.here hx rfl (pc0 := 204) (pc' := 216) rfl (hb hby at_204) (by decide) (by decide) kont) ?_
              show GoW Z EL0 p e s below _ _ _ T5 (mkF m 216 #[.val (.int p0), .val (.int p1), .val (.int p2), .val (.int p3), .val (.int q4), .val (.int z1), .val (.int q6), .val (.int q7), .val (.int z2), .val (.int z3), .val (.ref x4), .val (.ref x5), .val (.int q12), .val (.int z6), .val (.int q14), .val (.int q15), .val (.int z7), .unset, .unset, .unset, .unset, .unset, .unset, .unset, .unset, .unset, .unset, .unset, .unset, .unset] [(.int q15)])
              exact J8 q15 pq15
          by_cases hc174_38 : (((p3.toUInt32 >>> ((8 : Int32) &&& 31).toUInt32).toInt32) &&& (1 : Int32)) = (0 : Int32)
          · --
            refine GoW.st (fun _ kont => XS.ifYes X5.here hx rfl (pc0 := 174) (pc' := 182) rfl (hb hby at_174) rfl ((if0 _ _).trans (teq hc174_38).1) (by decide) (by decide) kont) ?_
            show GoW Z EL0 p e s below _ _ _ T5 (mkF m 182 #[.val (.int p0), .val (.int p1), .val (.int p2), .val (.int p3), .val (.int q4), .val (.int z1), .val (.int q6), .val (.int q7), .val (.int z2), .val (.int z3), .val (.ref x4), .val (.ref x5), .val (.int q12), .val (.int z6), .val (.int q14), .val (.int q15), .unset, .unset, .unset, .unset, .unset, .unset, .unset, .unset, .unset, .unset, .unset, .unset, .unset, .unset] [])
            refine GoW.st (fun _ kont => XS.iloadN X5.here hx rfl (hb hby at_182) rfl kont) ?_
            show GoW Z EL0 p e s below _ _ _ T5 (mkF m 183 #[.val (.int p0), .val (.int p1), .val (.int p2), .val (.int p3), .val (.int q4), .val (.int z1), .val (.int q6), .val (.int q7), .val (.int z2), .val (.int z3), .val (.ref x4), .val (.ref x5), .val (.int q12), .val (.int z6), .val (.int q14), .val (.int q15), .unset, .unset, .unset, .unset, .unset, .unset, .unset, .unset, .unset, .unset, .unset, .unset, .unset, .unset] [(.int p2)])
            refine GoW.st (fun _ kont => XT.bipushV X5.here hx rfl (24 : Int32) (hb hby at_183) (by decide) kont) ?_
            show GoW Z EL0 p e s below _ _ _ T5 (mkF m 185 #[.val (.int p0), .val (.int p1), .val (.int p2), .val (.int p3), .val (.int q4), .val (.int z1), .val (.int q6), .val (.int q7), .val (.int z2), .val (.int z3), .val (.ref x4), .val (.ref x5), .val (.int q12), .val (.int z6), .val (.int q14), .val (.int q15), .unset, .unset, .unset, .unset, .unset, .unset, .unset, .unset, .unset, .unset, .unset, .unset, .unset, .unset] [(.int (24 : Int32)), (.int p2)])
            refine GoW.st (fun _ kont => XS.iushr X5.here hx rfl (hb hby at_185) rfl kont) ?_
            show GoW Z EL0 p e s below _ _ _ T5 (mkF m 186 #[.val (.int p0), .val (.int p1), .val (.int p2), .val (.int p3), .val (.int q4), .val (.int z1), .val (.int q6), .val (.int q7), .val (.int z2), .val (.int z3), .val (.ref x4), .val (.ref x5), .val (.int q12), .val (.int z6), .val (.int q14), .val (.int q15), .unset, .unset, .unset, .unset, .unset, .unset, .unset, .unset, .unset, .unset, .unset, .unset, .unset, .unset] [(.int ((p2.toUInt32 >>> ((24 : Int32) &&& 31).toUInt32).toInt32))])
            refine GoW.st (fun _ kont => XT.sipushV X5.here hx rfl (255 : Int32) (hb hby at_186) (by decide) kont) ?_
            show GoW Z EL0 p e s below _ _ _ T5 (mkF m 189 #[.val (.int p0), .val (.int p1), .val (.int p2), .val (.int p3), .val (.int q4), .val (.int z1), .val (.int q6), .val (.int q7), .val (.int z2), .val (.int z3), .val (.ref x4), .val (.ref x5), .val (.int q12), .val (.int z6), .val (.int q14), .val (.int q15), .unset, .unset, .unset, .unset, .unset, .unset, .unset, .unset, .unset, .unset, .unset, .unset, .unset, .unset] [(.int (255 : Int32)), (.int ((p2.toUInt32 >>> ((24 : Int32) &&& 31).toUInt32).toInt32))])
            refine GoW.st (fun _ kont => XS.iand X5.here hx rfl (hb hby at_189) rfl kont) ?_
            show GoW Z EL0 p e s below _ _ _ T5 (mkF m 190 #[.val (.int p0), .val (.int p1), .val (.int p2), .val (.int p3), .val (.int q4), .val (.int z1), .val (.int q6), .val (.int q7), .val (.int z2), .val (.int z3), .val (.ref x4), .val (.ref x5), .val (.int q12), .val (.int z6), .val (.int q14), .val (.int q15), .unset, .unset, .unset, .unset, .unset, .unset, .unset, .unset, .unset, .unset, .unset, .unset, .unset, .unset] [(.int (((p2.toUInt32 >>> ((24 : Int32) &&& 31).toUInt32).toInt32) &&& (255 : Int32)))])
            refine GoW.st (fun _ kont => XS.i2c X5.here hx rfl (hb hby at_190) rfl kont) ?_
            show GoW Z EL0 p e s below _ _ _ T5 (mkF m 191 #[.val (.int p0), .val (.int p1), .val (.int p2), .val (.int p3), .val (.int q4), .val (.int z1), .val (.int q6), .val (.int q7), .val (.int z2), .val (.int z3), .val (.ref x4), .val (.ref x5), .val (.int q12), .val (.int z6), .val (.int q14), .val (.int q15), .unset, .unset, .unset, .unset, .unset, .unset, .unset, .unset, .unset, .unset, .unset, .unset, .unset, .unset] [(.int ((((p2.toUInt32 >>> ((24 : Int32) &&& 31).toUInt32).toInt32) &&& (255 : Int32)).toUInt32.toUInt16.toUInt32.toInt32))])
            exact J7 ((((p2.toUInt32 >>> ((24 : Int32) &&& 31).toUInt32).toInt32) &&& (255 : Int32)).toUInt32.toUInt16.toUInt32.toInt32) (own_lat _)
          · --
            refine GoW.st (fun _ kont => XS.ifNo X5.here hx rfl (hb hby at_174) rfl ((if0 _ _).trans (feq hc174_38).1) kont) ?_
            show GoW Z EL0 p e s below _ _ _ T5 (mkF m 177 #[.val (.int p0), .val (.int p1), .val (.int p2), .val (.int p3), .val (.int q4), .val (.int z1), .val (.int q6), .val (.int q7), .val (.int z2), .val (.int z3), .val (.ref x4), .val (.ref x5), .val (.int q12), .val (.int z6), .val (.int q14), .val (.int q15), .unset, .unset, .unset, .unset, .unset, .unset, .unset, .unset, .unset, .unset, .unset, .unset, .unset, .unset] [])
            refine GoW.st (fun _ kont => XS.iload X5.here hx rfl (hb hby at_177) rfl kont) ?_
            show GoW Z EL0 p e s below _ _ _ T5 (mkF m 179 #[.val (.int p0), .val (.int p1), .val (.int p2), .val (.int p3), .val (.int q4), .val (.int z1), .val (.int q6), .val (.int q7), .val (.int z2), .val (.int z3), .val (.ref x4), .val (.ref x5), .val (.int q12), .val (.int z6), .val (.int q14), .val (.int q15), .unset, .unset, .unset, .unset, .unset, .unset, .unset, .unset, .unset, .unset, .unset, .unset, .unset, .unset] [(.int q14)])
            refine GoW.st (fun _ kont => XS.goto X5.here hx rfl (pc0 := 179) (pc' := 191) rfl (hb hby at_179) (by decide) (by decide) kont) ?_
            show GoW Z EL0 p e s below _ _ _ T5 (mkF m 191 #[.val (.int p0), .val (.int p1), .val (.int p2), .val (.int p3), .val (.int q4), .val (.int z1), .val (.int q6), .val (.int q7), .val (.int z2), .val (.int z3), .val (.ref x4), .val (.ref x5), .val (.int q12), .val (.int z6), .val (.int q14), .val (.int q15), .unset, .unset, .unset, .unset, .unset, .unset, .unset, .unset, .unset, .unset, .unset, .unset, .unset, .unset] [(.int q14)])
            exact J7 q14 pq14
        by_cases hc129_39 : (((p3.toUInt32 >>> ((7 : Int32) &&& 31).toUInt32).toInt32) &&& (1 : Int32)) = (0 : Int32)
        · --
          refine GoW.st (fun _ kont => XS.ifYes X5.here hx rfl (pc0 := 129) (pc' := 137) rfl (hb hby at_129) rfl ((if0 _ _).trans (teq hc129_39).1) (by decide) (by decide) kont) ?_
          show GoW Z EL0 p e s below _ _ _ T5 (mkF m 137 #[.val (.int p0), .val (.int p1), .val (.int p2), .val (.int p3), .val (.int q4), .val (.int z1), .val (.int q6), .val (.int q7), .val (.int z2), .val (.int z3), .val (.ref x4), .val (.ref x5), .val (.int q12), .unset, .unset, .unset, .unset, .unset, .unset, .unset, .unset, .unset, .unset, .unset, .unset, .unset, .unset, .unset, .unset, .unset] [])
          refine GoW.st (fun _ kont => XS.iloadN X5.here hx rfl (hb hby at_137) rfl kont) ?_
          show GoW Z EL0 p e s below _ _ _ T5 (mkF m 138 #[.val (.int p0), .val (.int p1), .val (.int p2), .val (.int p3), .val (.int q4), .val (.int z1), .val (.int q6), .val (.int q7), .val (.int z2), .val (.int z3), .val (.ref x4), .val (.ref x5), .val (.int q12), .unset, .unset, .unset, .unset, .unset, .unset, .unset, .unset, .unset, .unset, .unset, .unset, .unset, .unset, .unset, .unset, .unset] [(.int p2)])
          refine GoW.st (fun _ kont => XT.iconstV X5.here hx rfl (2 : Int32) (hb hby at_138) (by decide) kont) ?_
          show GoW Z EL0 p e s below _ _ _ T5 (mkF m 139 #[.val (.int p0), .val (.int p1), .val (.int p2), .val (.int p3), .val (.int q4), .val (.int z1), .val (.int q6), .val (.int q7), .val (.int z2), .val (.int z3), .val (.ref x4), .val (.ref x5), .val (.int q12), .unset, .unset, .unset, .unset, .unset, .unset, .unset, .unset, .unset, .unset, .unset, .unset, .unset, .unset, .unset, .unset, .unset] [(.int (2 : Int32)), (.int p2)])
          refine GoW.st (fun _ kont => XS.iushr X5.here hx rfl (hb hby at_139) rfl kont) ?_
          show GoW Z EL0 p e s below _ _ _ T5 (mkF m 140 #[.val (.int p0), .val (.int p1), .val (.int p2), .val (.int p3), .val (.int q4), .val (.int z1), .val (.int q6), .val (.int q7), .val (.int z2), .val (.int z3), .val (.ref x4), .val (.ref x5), .val (.int q12), .unset, .unset, .unset, .unset, .unset, .unset, .unset, .unset, .unset, .unset, .unset, .unset, .unset, .unset, .unset, .unset, .unset] [(.int ((p2.toUInt32 >>> ((2 : Int32) &&& 31).toUInt32).toInt32))])
          refine GoW.st (fun _ kont => XT.iconstV X5.here hx rfl (3 : Int32) (hb hby at_140) (by decide) kont) ?_
          show GoW Z EL0 p e s below _ _ _ T5 (mkF m 141 #[.val (.int p0), .val (.int p1), .val (.int p2), .val (.int p3), .val (.int q4), .val (.int z1), .val (.int q6), .val (.int q7), .val (.int z2), .val (.int z3), .val (.ref x4), .val (.ref x5), .val (.int q12), .unset, .unset, .unset, .unset, .unset, .unset, .unset, .unset, .unset, .unset, .unset, .unset, .unset, .unset, .unset, .unset, .unset] [(.int (3 : Int32)), (.int ((p2.toUInt32 >>> ((2 : Int32) &&& 31).toUInt32).toInt32))])
          refine GoW.st (fun _ kont => XS.iand X5.here hx rfl (hb hby at_141) rfl kont) ?_
          show GoW Z EL0 p e s below _ _ _ T5 (mkF m 142 #[.val (.int p0), .val (.int p1), .val (.int p2), .val (.int p3), .val (.int q4), .val (.int z1), .val (.int q6), .val (.int q7), .val (.int z2), .val (.int z3), .val (.ref x4), .val (.ref x5), .val (.int q12), .unset, .unset, .unset, .unset, .unset, .unset, .unset, .unset, .unset, .unset, .unset, .unset, .unset, .unset, .unset, .unset, .unset] [(.int (((p2.toUInt32 >>> ((2 : Int32) &&& 31).toUInt32).toInt32) &&& (3 : Int32)))])
          refine GoW.st (fun _ kont => XT.iconstV X5.here hx rfl (3 : Int32) (hb hby at_142) (by decide) kont) ?_
          show GoW Z EL0 p e s below _ _ _ T5 (mkF m 143 #[.val (.int p0), .val (.int p1), .val (.int p2), .val (.int p3), .val (.int q4), .val (.int z1), .val (.int q6), .val (.int q7), .val (.int z2), .val (.int z3), .val (.ref x4), .val (.ref x5), .val (.int q12), .unset, .unset, .unset, .unset, .unset, .unset, .unset, .unset, .unset, .unset, .unset, .unset, .unset, .unset, .unset, .unset, .unset] [(.int (3 : Int32)), (.int (((p2.toUInt32 >>> ((2 : Int32) &&& 31).toUInt32).toInt32) &&& (3 : Int32)))])
          refine GoW.st (fun _ kont => iremM X5 hx rfl (hb hby at_143) rfl (by decide) kont) ?_
          show GoW Z EL0 p e s below _ _ _ T5 (mkF m 144 #[.val (.int p0), .val (.int p1), .val (.int p2), .val (.int p3), .val (.int q4), .val (.int z1), .val (.int q6), .val (.int q7), .val (.int z2), .val (.int z3), .val (.ref x4), .val (.ref x5), .val (.int q12), .unset, .unset, .unset, .unset, .unset, .unset, .unset, .unset, .unset, .unset, .unset, .unset, .unset, .unset, .unset, .unset, .unset] [(.int ((((p2.toUInt32 >>> ((2 : Int32) &&& 31).toUInt32).toInt32) &&& (3 : Int32)) % (3 : Int32)))])
          exact J6 ((((p2.toUInt32 >>> ((2 : Int32) &&& 31).toUInt32).toInt32) &&& (3 : Int32)) % (3 : Int32)) (own_m3 _)
        · --
          refine GoW.st (fun _ kont => XS.ifNo X5.here hx rfl (hb hby at_129) rfl ((if0 _ _).trans (feq hc129_39).1) kont) ?_
          show GoW Z EL0 p e s below _ _ _ T5 (mkF m 132 #[.val (.int p0), .val (.int p1), .val (.int p2), .val (.int p3), .val (.int q4), .val (.int z1), .val (.int q6), .val (.int q7), .val (.int z2), .val (.int z3), .val (.ref x4), .val (.ref x5), .val (.int q12), .unset, .unset, .unset, .unset, .unset, .unset, .unset, .unset, .unset, .unset, .unset, .unset, .unset, .unset, .unset, .unset, .unset] [])
          refine GoW.st (fun _ kont => XS.iload X5.here hx rfl (hb hby at_132) rfl kont) ?_
          show GoW Z EL0 p e s below _ _ _ T5 (mkF m 134 #[.val (.int p0), .val (.int p1), .val (.int p2), .val (.int p3), .val (.int q4), .val (.int z1), .val (.int q6), .val (.int q7), .val (.int z2), .val (.int z3), .val (.ref x4), .val (.ref x5), .val (.int q12), .unset, .unset, .unset, .unset, .unset, .unset, .unset, .unset, .unset, .unset, .unset, .unset, .unset, .unset, .unset, .unset, .unset] [(.int q12)])
          refine GoW.st (fun _ kont => XS.goto X5.here hx rfl (pc0 := 134) (pc' := 144) rfl (hb hby at_134) (by decide) (by decide) kont) ?_
          show GoW Z EL0 p e s below _ _ _ T5 (mkF m 144 #[.val (.int p0), .val (.int p1), .val (.int p2), .val (.int p3), .val (.int q4), .val (.int z1), .val (.int q6), .val (.int q7), .val (.int z2), .val (.int z3), .val (.ref x4), .val (.ref x5), .val (.int q12), .unset, .unset, .unset, .unset, .unset, .unset, .unset, .unset, .unset, .unset, .unset, .unset, .unset, .unset, .unset, .unset, .unset] [(.int q12)])
          exact J6 q12 pq12
      by_cases hc75_40 : (((p3.toUInt32 >>> ((6 : Int32) &&& 31).toUInt32).toInt32) &&& (1 : Int32)) = (0 : Int32)
      · --
        refine GoW.st (fun _ kont => XS.ifYes X0.here hx rfl (pc0 := 75) (pc' := 83) rfl (hb hby at_75) rfl ((if0 _ _).trans (teq hc75_40).1) (by decide) (by decide) kont) ?_
        show GoW Z EL0 p e s below _ _ _ s₁ (mkF m 83 #[.val (.int p0), .val (.int p1), .val (.int p2), .val (.int p3), .val (.int q4), .val (.int z1), .val (.int q6), .val (.int q7), .val (.int z2), .unset, .unset, .unset, .unset, .unset, .unset, .unset, .unset, .unset, .unset, .unset, .unset, .unset, .unset, .unset, .unset, .unset, .unset, .unset, .unset, .unset] [])
        refine GoW.st (fun _ kont => XS.iloadN X0.here hx rfl (hb hby at_83) rfl kont) ?_
        show GoW Z EL0 p e s below _ _ _ s₁ (mkF m 84 #[.val (.int p0), .val (.int p1), .val (.int p2), .val (.int p3), .val (.int q4), .val (.int z1), .val (.int q6), .val (.int q7), .val (.int z2), .unset, .unset, .unset, .unset, .unset, .unset, .unset, .unset, .unset, .unset, .unset, .unset, .unset, .unset, .unset, .unset, .unset, .unset, .unset, .unset, .unset] [(.int p1)])
        refine GoW.st (fun _ kont => XT.bipushV X0.here hx rfl (8 : Int32) (hb hby at_84) (by decide) kont) ?_
        show GoW Z EL0 p e s below _ _ _ s₁ (mkF m 86 #[.val (.int p0), .val (.int p1), .val (.int p2), .val (.int p3), .val (.int q4), .val (.int z1), .val (.int q6), .val (.int q7), .val (.int z2), .unset, .unset, .unset, .unset, .unset, .unset, .unset, .unset, .unset, .unset, .unset, .unset, .unset, .unset, .unset, .unset, .unset, .unset, .unset, .unset, .unset] [(.int (8 : Int32)), (.int p1)])
        refine GoW.st (fun _ kont => XS.iushr X0.here hx rfl (hb hby at_86) rfl kont) ?_
        show GoW Z EL0 p e s below _ _ _ s₁ (mkF m 87 #[.val (.int p0), .val (.int p1), .val (.int p2), .val (.int p3), .val (.int q4), .val (.int z1), .val (.int q6), .val (.int q7), .val (.int z2), .unset, .unset, .unset, .unset, .unset, .unset, .unset, .unset, .unset, .unset, .unset, .unset, .unset, .unset, .unset, .unset, .unset, .unset, .unset, .unset, .unset] [(.int ((p1.toUInt32 >>> ((8 : Int32) &&& 31).toUInt32).toInt32))])
        refine GoW.st (fun _ kont => XT.sipushV X0.here hx rfl (255 : Int32) (hb hby at_87) (by decide) kont) ?_
        show GoW Z EL0 p e s below _ _ _ s₁ (mkF m 90 #[.val (.int p0), .val (.int p1), .val (.int p2), .val (.int p3), .val (.int q4), .val (.int z1), .val (.int q6), .val (.int q7), .val (.int z2), .unset, .unset, .unset, .unset, .unset, .unset, .unset, .unset, .unset, .unset, .unset, .unset, .unset, .unset, .unset, .unset, .unset, .unset, .unset, .unset, .unset] [(.int (255 : Int32)), (.int ((p1.toUInt32 >>> ((8 : Int32) &&& 31).toUInt32).toInt32))])
        refine GoW.st (fun _ kont => XS.iand X0.here hx rfl (hb hby at_90) rfl kont) ?_
        show GoW Z EL0 p e s below _ _ _ s₁ (mkF m 91 #[.val (.int p0), .val (.int p1), .val (.int p2), .val (.int p3), .val (.int q4), .val (.int z1), .val (.int q6), .val (.int q7), .val (.int z2), .unset, .unset, .unset, .unset, .unset, .unset, .unset, .unset, .unset, .unset, .unset, .unset, .unset, .unset, .unset, .unset, .unset, .unset, .unset, .unset, .unset] [(.int (((p1.toUInt32 >>> ((8 : Int32) &&& 31).toUInt32).toInt32) &&& (255 : Int32)))])
        refine GoW.st (fun _ kont => XS.i2c X0.here hx rfl (hb hby at_91) rfl kont) ?_
        show GoW Z EL0 p e s below _ _ _ s₁ (mkF m 92 #[.val (.int p0), .val (.int p1), .val (.int p2), .val (.int p3), .val (.int q4), .val (.int z1), .val (.int q6), .val (.int q7), .val (.int z2), .unset, .unset, .unset, .unset, .unset, .unset, .unset, .unset, .unset, .unset, .unset, .unset, .unset, .unset, .unset, .unset, .unset, .unset, .unset, .unset, .unset] [(.int ((((p1.toUInt32 >>> ((8 : Int32) &&& 31).toUInt32).toInt32) &&& (255 : Int32)).toUInt32.toUInt16.toUInt32.toInt32))])
        exact J3 ((((p1.toUInt32 >>> ((8 : Int32) &&& 31).toUInt32).toInt32) &&& (255 : Int32)).toUInt32.toUInt16.toUInt32.toInt32) (own_lat _)
      · --
        refine GoW.st (fun _ kont => XS.ifNo X0.here hx rfl (hb hby at_75) rfl ((if0 _ _).trans (feq hc75_40).1) kont) ?_
        show GoW Z EL0 p e s below _ _ _ s₁ (mkF m 78 #[.val (.int p0), .val (.int p1), .val (.int p2), .val (.int p3), .val (.int q4), .val (.int z1), .val (.int q6), .val (.int q7), .val (.int z2), .unset, .unset, .unset, .unset, .unset, .unset, .unset, .unset, .unset, .unset, .unset, .unset, .unset, .unset, .unset, .unset, .unset, .unset, .unset, .unset, .unset] [])
        refine GoW.st (fun _ kont => XS.iload X0.here hx rfl (hb hby at_78) rfl kont) ?_
        show GoW Z EL0 p e s below _ _ _ s₁ (mkF m 80 #[.val (.int p0), .val (.int p1), .val (.int p2), .val (.int p3), .val (.int q4), .val (.int z1), .val (.int q6), .val (.int q7), .val (.int z2), .unset, .unset, .unset, .unset, .unset, .unset, .unset, .unset, .unset, .unset, .unset, .unset, .unset, .unset, .unset, .unset, .unset, .unset, .unset, .unset, .unset] [(.int q7)])
        refine GoW.st (fun _ kont => XS.goto X0.here hx rfl (pc0 := 80) (pc' := 92) rfl (hb hby at_80) (by decide) (by decide) kont) ?_
        show GoW Z EL0 p e s below _ _ _ s₁ (mkF m 92 #[.val (.int p0), .val (.int p1), .val (.int p2), .val (.int p3), .val (.int q4), .val (.int z1), .val (.int q6), .val (.int q7), .val (.int z2), .unset, .unset, .unset, .unset, .unset, .unset, .unset, .unset, .unset, .unset, .unset, .unset, .unset, .unset, .unset, .unset, .unset, .unset, .unset, .unset, .unset] [(.int q7)])
        exact J3 q7 pq7
    by_cases hc53_41 : (((p3.toUInt32 >>> ((5 : Int32) &&& 31).toUInt32).toInt32) &&& (1 : Int32)) = (0 : Int32)
    · --
      refine GoW.st (fun _ kont => XS.ifYes X0.here hx rfl (pc0 := 53) (pc' := 61) rfl (hb hby at_53) rfl ((if0 _ _).trans (teq hc53_41).1) (by decide) (by decide) kont) ?_
      show GoW Z EL0 p e s below _ _ _ s₁ (mkF m 61 #[.val (.int p0), .val (.int p1), .val (.int p2), .val (.int p3), .val (.int q4), .val (.int z1), .val (.int q6), .val (.int q7), .unset, .unset, .unset, .unset, .unset, .unset, .unset, .unset, .unset, .unset, .unset, .unset, .unset, .unset, .unset, .unset, .unset, .unset, .unset, .unset, .unset, .unset] [])
      refine GoW.st (fun _ kont => XS.iloadN X0.here hx rfl (hb hby at_61) rfl kont) ?_
      show GoW Z EL0 p e s below _ _ _ s₁ (mkF m 62 #[.val (.int p0), .val (.int p1), .val (.int p2), .val (.int p3), .val (.int q4), .val (.int z1), .val (.int q6), .val (.int q7), .unset, .unset, .unset, .unset, .unset, .unset, .unset, .unset, .unset, .unset, .unset, .unset, .unset, .unset, .unset, .unset, .unset, .unset, .unset, .unset, .unset, .unset] [(.int p1)])
      refine GoW.st (fun _ kont => XT.sipushV X0.here hx rfl (255 : Int32) (hb hby at_62) (by decide) kont) ?_
      show GoW Z EL0 p e s below _ _ _ s₁ (mkF m 65 #[.val (.int p0), .val (.int p1), .val (.int p2), .val (.int p3), .val (.int q4), .val (.int z1), .val (.int q6), .val (.int q7), .unset, .unset, .unset, .unset, .unset, .unset, .unset, .unset, .unset, .unset, .unset, .unset, .unset, .unset, .unset, .unset, .unset, .unset, .unset, .unset, .unset, .unset] [(.int (255 : Int32)), (.int p1)])
      refine GoW.st (fun _ kont => XS.iand X0.here hx rfl (hb hby at_65) rfl kont) ?_
      show GoW Z EL0 p e s below _ _ _ s₁ (mkF m 66 #[.val (.int p0), .val (.int p1), .val (.int p2), .val (.int p3), .val (.int q4), .val (.int z1), .val (.int q6), .val (.int q7), .unset, .unset, .unset, .unset, .unset, .unset, .unset, .unset, .unset, .unset, .unset, .unset, .unset, .unset, .unset, .unset, .unset, .unset, .unset, .unset, .unset, .unset] [(.int (p1 &&& (255 : Int32)))])
      refine GoW.st (fun _ kont => XS.i2c X0.here hx rfl (hb hby at_66) rfl kont) ?_
      show GoW Z EL0 p e s below _ _ _ s₁ (mkF m 67 #[.val (.int p0), .val (.int p1), .val (.int p2), .val (.int p3), .val (.int q4), .val (.int z1), .val (.int q6), .val (.int q7), .unset, .unset, .unset, .unset, .unset, .unset, .unset, .unset, .unset, .unset, .unset, .unset, .unset, .unset, .unset, .unset, .unset, .unset, .unset, .unset, .unset, .unset] [(.int ((p1 &&& (255 : Int32)).toUInt32.toUInt16.toUInt32.toInt32))])
      exact J2 ((p1 &&& (255 : Int32)).toUInt32.toUInt16.toUInt32.toInt32) (own_lat _)
    · --
      refine GoW.st (fun _ kont => XS.ifNo X0.here hx rfl (hb hby at_53) rfl ((if0 _ _).trans (feq hc53_41).1) kont) ?_
      show GoW Z EL0 p e s below _ _ _ s₁ (mkF m 56 #[.val (.int p0), .val (.int p1), .val (.int p2), .val (.int p3), .val (.int q4), .val (.int z1), .val (.int q6), .val (.int q7), .unset, .unset, .unset, .unset, .unset, .unset, .unset, .unset, .unset, .unset, .unset, .unset, .unset, .unset, .unset, .unset, .unset, .unset, .unset, .unset, .unset, .unset] [])
      refine GoW.st (fun _ kont => XS.iload X0.here hx rfl (hb hby at_56) rfl kont) ?_
      show GoW Z EL0 p e s below _ _ _ s₁ (mkF m 58 #[.val (.int p0), .val (.int p1), .val (.int p2), .val (.int p3), .val (.int q4), .val (.int z1), .val (.int q6), .val (.int q7), .unset, .unset, .unset, .unset, .unset, .unset, .unset, .unset, .unset, .unset, .unset, .unset, .unset, .unset, .unset, .unset, .unset, .unset, .unset, .unset, .unset, .unset] [(.int q6)])
      refine GoW.st (fun _ kont => XS.goto X0.here hx rfl (pc0 := 58) (pc' := 67) rfl (hb hby at_58) (by decide) (by decide) kont) ?_
      show GoW Z EL0 p e s below _ _ _ s₁ (mkF m 67 #[.val (.int p0), .val (.int p1), .val (.int p2), .val (.int p3), .val (.int q4), .val (.int z1), .val (.int q6), .val (.int q7), .unset, .unset, .unset, .unset, .unset, .unset, .unset, .unset, .unset, .unset, .unset, .unset, .unset, .unset, .unset, .unset, .unset, .unset, .unset, .unset, .unset, .unset] [(.int q6)])
      exact J2 q6 pq6
  by_cases hc12_42 : (((p3.toUInt32 >>> ((2 : Int32) &&& 31).toUInt32).toInt32) &&& (1 : Int32)) = (0 : Int32)
  · --
    refine GoW.st (fun _ kont => XS.ifYes X0.here hx rfl (pc0 := 12) (pc' := 20) rfl (hb hby at_12) rfl ((if0 _ _).trans (teq hc12_42).1) (by decide) (by decide) kont) ?_
    show GoW Z EL0 p e s below _ _ _ s₁ (mkF m 20 #[.val (.int p0), .val (.int p1), .val (.int p2), .val (.int p3), .val (.int q4), .unset, .unset, .unset, .unset, .unset, .unset, .unset, .unset, .unset, .unset, .unset, .unset, .unset, .unset, .unset, .unset, .unset, .unset, .unset, .unset, .unset, .unset, .unset, .unset, .unset] [])
    refine GoW.st (fun _ kont => XS.iloadN X0.here hx rfl (hb hby at_20) rfl kont) ?_
    show GoW Z EL0 p e s below _ _ _ s₁ (mkF m 21 #[.val (.int p0), .val (.int p1), .val (.int p2), .val (.int p3), .val (.int q4), .unset, .unset, .unset, .unset, .unset, .unset, .unset, .unset, .unset, .unset, .unset, .unset, .unset, .unset, .unset, .unset, .unset, .unset, .unset, .unset, .unset, .unset, .unset, .unset, .unset] [(.int p3)])
    refine GoW.st (fun _ kont => XT.iconstV X0.here hx rfl (3 : Int32) (hb hby at_21) (by decide) kont) ?_
    show GoW Z EL0 p e s below _ _ _ s₁ (mkF m 22 #[.val (.int p0), .val (.int p1), .val (.int p2), .val (.int p3), .val (.int q4), .unset, .unset, .unset, .unset, .unset, .unset, .unset, .unset, .unset, .unset, .unset, .unset, .unset, .unset, .unset, .unset, .unset, .unset, .unset, .unset, .unset, .unset, .unset, .unset, .unset] [(.int (3 : Int32)), (.int p3)])
    refine GoW.st (fun _ kont => XS.iushr X0.here hx rfl (hb hby at_22) rfl kont) ?_
    show GoW Z EL0 p e s below _ _ _ s₁ (mkF m 23 #[.val (.int p0), .val (.int p1), .val (.int p2), .val (.int p3), .val (.int q4), .unset, .unset, .unset, .unset, .unset, .unset, .unset, .unset, .unset, .unset, .unset, .unset, .unset, .unset, .unset, .unset, .unset, .unset, .unset, .unset, .unset, .unset, .unset, .unset, .unset] [(.int ((p3.toUInt32 >>> ((3 : Int32) &&& 31).toUInt32).toInt32))])
    refine GoW.st (fun _ kont => XT.iconstV X0.here hx rfl (3 : Int32) (hb hby at_23) (by decide) kont) ?_
    show GoW Z EL0 p e s below _ _ _ s₁ (mkF m 24 #[.val (.int p0), .val (.int p1), .val (.int p2), .val (.int p3), .val (.int q4), .unset, .unset, .unset, .unset, .unset, .unset, .unset, .unset, .unset, .unset, .unset, .unset, .unset, .unset, .unset, .unset, .unset, .unset, .unset, .unset, .unset, .unset, .unset, .unset, .unset] [(.int (3 : Int32)), (.int ((p3.toUInt32 >>> ((3 : Int32) &&& 31).toUInt32).toInt32))])
    refine GoW.st (fun _ kont => XS.iand X0.here hx rfl (hb hby at_24) rfl kont) ?_
    show GoW Z EL0 p e s below _ _ _ s₁ (mkF m 25 #[.val (.int p0), .val (.int p1), .val (.int p2), .val (.int p3), .val (.int q4), .unset, .unset, .unset, .unset, .unset, .unset, .unset, .unset, .unset, .unset, .unset, .unset, .unset, .unset, .unset, .unset, .unset, .unset, .unset, .unset, .unset, .unset, .unset, .unset, .unset] [(.int (((p3.toUInt32 >>> ((3 : Int32) &&& 31).toUInt32).toInt32) &&& (3 : Int32)))])
    refine GoW.st (fun _ kont => XT.iconstV X0.here hx rfl (3 : Int32) (hb hby at_25) (by decide) kont) ?_
    show GoW Z EL0 p e s below _ _ _ s₁ (mkF m 26 #[.val (.int p0), .val (.int p1), .val (.int p2), .val (.int p3), .val (.int q4), .unset, .unset, .unset, .unset, .unset, .unset, .unset, .unset, .unset, .unset, .unset, .unset, .unset, .unset, .unset, .unset, .unset, .unset, .unset, .unset, .unset, .unset, .unset, .unset, .unset] [(.int (3 : Int32)), (.int (((p3.toUInt32 >>> ((3 : Int32) &&& 31).toUInt32).toInt32) &&& (3 : Int32)))])
    refine GoW.st (fun _ kont => iremM X0 hx rfl (hb hby at_26) rfl (by decide) kont) ?_
    show GoW Z EL0 p e s below _ _ _ s₁ (mkF m 27 #[.val (.int p0), .val (.int p1), .val (.int p2), .val (.int p3), .val (.int q4), .unset, .unset, .unset, .unset, .unset, .unset, .unset, .unset, .unset, .unset, .unset, .unset, .unset, .unset, .unset, .unset, .unset, .unset, .unset, .unset, .unset, .unset, .unset, .unset, .unset] [(.int ((((p3.toUInt32 >>> ((3 : Int32) &&& 31).toUInt32).toInt32) &&& (3 : Int32)) % (3 : Int32)))])
    exact J1 ((((p3.toUInt32 >>> ((3 : Int32) &&& 31).toUInt32).toInt32) &&& (3 : Int32)) % (3 : Int32)) (own_m3 _)
  · --
    refine GoW.st (fun _ kont => XS.ifNo X0.here hx rfl (hb hby at_12) rfl ((if0 _ _).trans (feq hc12_42).1) kont) ?_
    show GoW Z EL0 p e s below _ _ _ s₁ (mkF m 15 #[.val (.int p0), .val (.int p1), .val (.int p2), .val (.int p3), .val (.int q4), .unset, .unset, .unset, .unset, .unset, .unset, .unset, .unset, .unset, .unset, .unset, .unset, .unset, .unset, .unset, .unset, .unset, .unset, .unset, .unset, .unset, .unset, .unset, .unset, .unset] [])
    refine GoW.st (fun _ kont => XS.iload X0.here hx rfl (hb hby at_15) rfl kont) ?_
    show GoW Z EL0 p e s below _ _ _ s₁ (mkF m 17 #[.val (.int p0), .val (.int p1), .val (.int p2), .val (.int p3), .val (.int q4), .unset, .unset, .unset, .unset, .unset, .unset, .unset, .unset, .unset, .unset, .unset, .unset, .unset, .unset, .unset, .unset, .unset, .unset, .unset, .unset, .unset, .unset, .unset, .unset, .unset] [(.int q4)])
    refine GoW.st (fun _ kont => XS.goto X0.here hx rfl (pc0 := 17) (pc' := 27) rfl (hb hby at_17) (by decide) (by decide) kont) ?_
    show GoW Z EL0 p e s below _ _ _ s₁ (mkF m 27 #[.val (.int p0), .val (.int p1), .val (.int p2), .val (.int p3), .val (.int q4), .unset, .unset, .unset, .unset, .unset, .unset, .unset, .unset, .unset, .unset, .unset, .unset, .unset, .unset, .unset, .unset, .unset, .unset, .unset, .unset, .unset, .unset, .unset, .unset, .unset] [(.int q4)])
    exact J1 q4 pq4
set_option maxRecDepth 65536 in
set_option maxHeartbeats 40000000 in
theorem comes_1 {Post : Tables → Env → Array Value → State → Outcome → State → Prop} (hpost : ∀ tb e args s v u, (limb_1_1.after args s (.returned v) u = true ∧ limb_1_2.after args s (.returned v) u = true ∧ True) → ReturnedEndW s (.returned v) u (Jvm.fieldLocs frame_1_writes args s ++ Jvm.arrayLocs frame_1_arrays args s ++ Jvm.staticLocs frame_1_statics s) 40 1216 → Post tb e args s (.returned v) u) :
    ArmFor flags0 classFile x code maxLocals ret World_1 tables_1 room_1 Calls_1 rest_1 Pre_1 Post := by
  intro l hfl _ _ p e ha hc hk s m args below hf hA hF happ hP
  obtain ⟨hcalls, hrest, hpre⟩ := hP
  obtain ⟨-, -, -, hnamed, -, -, -, hat⟩ := (Spec.applies_iff hf).mp happ
  obtain ⟨hg, hn⟩ := and_e (Cond.before_iff.mp (show (Jvm.Cond.and given_1 narrow_1).before args s = true from hpre))
  obtain ⟨hg_1, hg_1'⟩ := and_e hg
  obtain ⟨hg_2, hg_2'⟩ := and_e hg_1'
  obtain ⟨hg_3, hg_3'⟩ := and_e hg_2'
  obtain ⟨hg_4, hg_4'⟩ := and_e hg_3'
  obtain ⟨w0, w1, w2, w3, rfl⟩ : ∃ w0 w1 w2 w3 : Value, args = #[w0, w1, w2, w3] := by
    have hs : args.size = 4 := by simpa [Cond.value, given_1] using hg_1
    obtain ⟨L⟩ := args
    match L, hs with
    | [w0, w1, w2, w3], _ => exact ⟨w0, w1, w2, w3, rfl⟩
  have hw := fun d (hd : d ∈ tables_1) => atoms_spec (ws := Jvm.Cond.code x code maxLocals ret :: tables_1) hat d (List.mem_cons_of_mem _ hd)
  have hfit : Fit s := fun {y c} hc i hi => by
    obtain ⟨ha, rfl⟩ := Array.getElem?_eq_some_iff.mp hc
    have q := List.all_eq_true.mp ((Array.all_eq_true_iff_forall_mem.mp hF) _ (Array.getElem_mem ha)) i (List.mem_range.mpr hi)
    simpa [Array.getElem?_eq_getElem hi] using q
  obtain ⟨hsets, hown0⟩ := atoms_of _ (rest_1_c_eq ▸ (show rest_1_c.before _ s = true from hrest))
  obtain ⟨i0, ei0⟩ := is_v hg_2
  obtain rfl : w0 = (.int i0) := Option.some.inj ei0
  obtain ⟨i1, ei1⟩ := is_v hg_3
  obtain rfl : w1 = (.int i1) := Option.some.inj ei1
  obtain ⟨i2, ei2⟩ := is_v hg_4
  obtain rfl : w2 = (.int i2) := Option.some.inj ei2
  obtain ⟨i3, ei3⟩ := is_v hg_4'
  obtain rfl : w3 = (.int i3) := Option.some.inj ei3
  obtain ⟨cs, ecs⟩ := is_v (Cond.before_iff.mp (hsets _ (List.mem_of_getElem? (i := 1) rfl)))
  have hcs := own_neI (Cond.before_iff.mp (hsets _ (List.mem_of_getElem? (i := 2) rfl))) ecs
  have SCP : Sta s s.heap "java/lang/String" "COMPACT_STRINGS" "Z" (.int cs) := Sta.start ecs (Or.inl (hsets _ (List.mem_of_getElem? (i := 0) rfl)))
  have CH0 : CHv s EL0 s.vm s.heap := CHv.start (own_EL hw) (fun q hq => hcalls.1 q hq) (show Jvm.Lit.compactW.before _ s = true from (hsets _ (List.mem_of_getElem? (i := 2) rfl))) (hw _ (List.mem_of_getElem? (i := 23) rfl)) (hw _ (List.mem_of_getElem? (i := 6) rfl))
  obtain ⟨n, o, h1, h2, h3, _, L, rfl, ⟨rfl, N⟩, -, hq⟩ := rm0 l s _ hw tables_1 i0 i1 i2 i3 s.heap s.heap.size (Nat.le_refl _) cs hcs SCP p e ha hc hk s m _ below hf ((Spec.applies_iff_loose hf).mp happ).1 ⟨rfl, State.Warmed39.refl s, rfl, CH0⟩ trivial
  refine ⟨n, _, h1, h2, h3, hpost _ _ _ _ _ _ ⟨Cond.after_iff.mpr rfl, Cond.after_iff.mpr (eq_i res_at (Term.int_eval (1)) rfl), trivial⟩ ⟨hq.1, hq.2.1, hq.2.2.1, (hq.2.2.2.sift fun y hy => Or.inr (N y hy)).mono (by decide) (by decide)⟩⟩
theorem main_1_1 : Claimed_1_1 := comes_1 fun _ _ _ _ _ _ h hF => ⟨h.1, hF⟩
theorem main_1_2 : Claimed_1_2 := comes_1 fun _ _ _ _ _ _ h hF => ⟨h.2.1, hF⟩
end Jvm.Pilot.@@N@@
namespace Jvm.Pilot.@@N@@
open Jvm Jvm.ClassFile Sem Op Lib Jvm.Free Jvm.Stand Jvm.Pilot.@@N@@.Jvm.D
/-! MADE BY PROGRAM (witnessworld.py) out of the Statement's table words and the real class files: 21 classes; the members and pool entries that the words name. The judged class is class 1, her method 2. -/
namespace start1
open Jvm.ClassFile
def u (s : String) : CpInfo := .utf8 (stringToUtf16 s)
/-- a pool by its gaps: so many unusable entries, then the entry; so many at the end -/
def gap : Nat → List CpInfo → List CpInfo
  | 0, r => r
  | n + 1, r => .unusable :: gap n r
def poolList (es : List (Nat × CpInfo)) (last : Nat) : List CpInfo := es.foldr (fun e r => gap e.1 (e.2 :: r)) (gap last [])
def pool (es : List (Nat × CpInfo)) (last : Nat) : Array CpInfo := ⟨poolList es last⟩
def fileOf (pool : Array CpInfo) (this : Nat) (attrs : Array Attribute := #[]) (ms : Array MethodInfo := #[]) (fl : Nat := 33) (sup : Nat := 0) (ifs : Array Nat := #[]) (fds : Array FieldInfo := #[]) : ClassFile where
  minorVersion := 0
  majorVersion := 65
  constantPool := pool
  accessFlags := fl
  thisClass := this
  superClass := sup
  interfaces := ifs
  fields := fds
  methods := ms
  attributes := attrs
def plain (name : String) (sup : Option ClassId) : Class where
  name := name
  kind := .ordinary
  loader := none
  accessFlags := 33
  super := sup
  interfaces := #[]
  cf := none
  fields := #[]
  methods := #[]
  instanceTypes := #[]
  staticTypes := #[]
  resolved := #[]
  callSites := []
  init := .initialized
  statics := none
  mirror := none

def pool0 : Array CpInfo := pool [(5, u "<init>"), (0, u "()V"), (1, .class_ 10), (1, u "java/lang/Object")] 113

def k0c0 : Code := { maxStack := 0, maxLocals := 1, code := object_method_1_code, exceptionTable := #[], attributes := #[] }
def k0m0 : Method := { name := "<init>", desc := "()V", sig := { parameters := [], returnType := none }, accessFlags := 1, code := some k0c0 }
/-- java/lang/Object -/
def k0 : Class := { plain "java/lang/Object" none with
  accessFlags := 33
  interfaces := #[]
  cf := some (fileOf pool0 8 #[] #[{ accessFlags := 1, nameIndex := 5, descriptorIndex := 6, attributes := #[] }] 33 0 #[] #[])
  fields := #[]
  methods := #[k0m0]
  instanceTypes := #[]
  staticTypes := #[]
  resolved := Array.replicate 124 none
  statics := none }

def pool1 : Array CpInfo := pool [(2, .class_ 4), (1, u "java/lang/Object"), (0, u "<init>"), (0, u "()V"), (0, .methodref 8 9), (0, .class_ 10), (0, .nameAndType 11 12), (0, u "com/example/covenant/covenant/ElementaryConditionEqualsPinLaw"), (0, u "make"), (0, u "(ICC)[C"), (0, .class_ 14), (0, u "java/lang/String"), (0, .methodref 13 16), (0, .nameAndType 5 17), (0, u "([C)V"), (0, .class_ 19), (0, u "com/example/covenant/covenant/ElementaryCondition"), (0, .methodref 18 21), (0, .nameAndType 5 22), (0, u "(Ljava/lang/String;Ljava/lang/String;)V"), (0, .methodref 18 24), (0, .nameAndType 25 26), (0, u "equals"), (0, u "(Ljava/lang/Object;)Z"), (3, u "law"), (0, u "(IIII)Z")] 4

def k1m0 : Method := { name := "<init>", desc := "()V", sig := { parameters := [], returnType := none }, accessFlags := 1, code := none }
def k1c1 : Code := { maxStack := 4, maxLocals := 3, code := method_2_code, exceptionTable := #[], attributes := #[] }
def k1m1 : Method := { name := "make", desc := "(ICC)[C", sig := { parameters := [.int, .char, .char], returnType := some (.array .char) }, accessFlags := 10, code := some k1c1 }
def k1c2 : Code := { maxStack := 4, maxLocals := 30, code := code, exceptionTable := #[], attributes := #[] }
def k1m2 : Method := { name := "law", desc := "(IIII)Z", sig := { parameters := [.int, .int, .int, .int], returnType := some .boolean }, accessFlags := 9, code := some k1c2 }
/-- com/example/covenant/covenant/ElementaryConditionEqualsPinLaw -/
def k1 : Class := { plain "com/example/covenant/covenant/ElementaryConditionEqualsPinLaw" (some 0) with
  accessFlags := 49
  interfaces := #[]
  cf := some (fileOf pool1 8 #[] #[{ accessFlags := 1, nameIndex := 5, descriptorIndex := 6, attributes := #[] }, { accessFlags := 10, nameIndex := 11, descriptorIndex := 12, attributes := #[] }, { accessFlags := 9, nameIndex := 30, descriptorIndex := 31, attributes := #[] }] 49 2 #[] #[])
  fields := #[]
  methods := #[k1m0, k1m1, k1m2]
  instanceTypes := #[]
  staticTypes := #[]
  resolved := Array.replicate 36 none
  statics := none }

def pool2 : Array CpInfo := pool [(1, .class_ 2), (0, u "java/io/Serializable"), (0, .class_ 4), (0, u "java/lang/Object")] 2

/-- java/io/Serializable -/
def k2 : Class := { plain "java/io/Serializable" (some 0) with
  accessFlags := 1537
  interfaces := #[]
  cf := some (fileOf pool2 1 #[] #[] 1537 3 #[] #[])
  fields := #[]
  methods := #[]
  instanceTypes := #[]
  staticTypes := #[]
  resolved := Array.replicate 7 none
  statics := none }

def pool3 : Array CpInfo := pool [(1, .class_ 2), (0, u "java/lang/Comparable"), (0, .class_ 4), (0, u "java/lang/Object")] 7

/-- java/lang/Comparable -/
def k3 : Class := { plain "java/lang/Comparable" (some 0) with
  accessFlags := 1537
  interfaces := #[]
  cf := some (fileOf pool3 1 #[] #[] 1537 3 #[] #[])
  fields := #[]
  methods := #[]
  instanceTypes := #[]
  staticTypes := #[]
  resolved := Array.replicate 12 none
  statics := none }

def pool4 : Array CpInfo := pool [(2, .class_ 4), (1, u "java/lang/CharSequence"), (42, .class_ 48), (0, u "java/lang/CharSequence$1CodePointIterator"), (10, .class_ 60), (0, u "java/lang/CharSequence$1CharIterator"), (5, .class_ 67), (0, u "java/lang/Object")] 63

/-- java/lang/CharSequence -/
def k4 : Class := { plain "java/lang/CharSequence" (some 0) with
  accessFlags := 1537
  interfaces := #[]
  cf := some (fileOf pool4 2 #[.nestMembers #[47, 59]] #[] 1537 66 #[] #[])
  fields := #[]
  methods := #[]
  instanceTypes := #[]
  staticTypes := #[]
  resolved := Array.replicate 131 none
  statics := none }

def pool5 : Array CpInfo := pool [(1, .class_ 2), (0, u "java/lang/constant/Constable"), (0, .class_ 4), (0, u "java/lang/Object")] 6

/-- java/lang/constant/Constable -/
def k5 : Class := { plain "java/lang/constant/Constable" (some 0) with
  accessFlags := 1537
  interfaces := #[]
  cf := some (fileOf pool5 1 #[] #[] 1537 3 #[] #[])
  fields := #[]
  methods := #[]
  instanceTypes := #[]
  staticTypes := #[]
  resolved := Array.replicate 11 none
  statics := none }

def pool6 : Array CpInfo := pool [(1, .class_ 2), (0, u "java/lang/constant/ConstantDesc"), (0, .class_ 4), (0, u "java/lang/Object")] 32

/-- java/lang/constant/ConstantDesc -/
def k6 : Class := { plain "java/lang/constant/ConstantDesc" (some 0) with
  accessFlags := 1537
  interfaces := #[]
  cf := some (fileOf pool6 1 #[] #[] 1537 3 #[] #[])
  fields := #[]
  methods := #[]
  instanceTypes := #[]
  staticTypes := #[]
  resolved := Array.replicate 37 none
  statics := none }

def pool7 : Array CpInfo := pool [(1, .methodref 2 3), (0, .class_ 4), (0, .nameAndType 5 6), (0, u "java/lang/Object"), (0, u "<init>"), (0, u "()V"), (0, .string 8), (0, u ""), (0, .fieldref 10 11), (0, .class_ 12), (0, .nameAndType 13 14), (0, u "java/lang/String"), (0, u "value"), (0, u "[B"), (0, .fieldref 10 16), (0, .nameAndType 17 18), (0, u "coder"), (0, u "B"), (2, u "hash"), (0, u "I"), (2, u "hashIsZero"), (0, u "Z"), (0, .methodref 10 28), (0, .nameAndType 5 29), (0, u "([CIILjava/lang/Void;)V"), (8, .fieldref 10 39), (0, .nameAndType 40 26), (0, u "COMPACT_STRINGS"), (1, .class_ 44), (1, u "java/lang/StringUTF16"), (0, u "compress"), (1, .methodref 42 48), (0, .nameAndType 49 50), (0, u "coderFromArrayLen"), (0, u "([BI)B"), (56, .class_ 109), (1, u "java/lang/StringLatin1"), (67, .methodref 42 178), (0, .nameAndType 45 179), (0, u "([CII)[B"), (361, .methodref 107 542), (0, .nameAndType 543 544), (0, u "equals"), (0, u "([B[B)Z"), (28, u "(Ljava/lang/Object;)Z"), (1, .class_ 576), (0, u "java/lang/CharSequence"), (22, u "CASE_INSENSITIVE_ORDER"), (0, u "Ljava/util/Comparator;"), (409, u "([C)V"), (90, u "serialPersistentFields"), (0, u "[Ljava/io/ObjectStreamField;"), (0, .class_ 1104), (0, u "java/lang/String$CaseInsensitiveComparator"), (1, .class_ 1107), (0, u "java/io/Serializable"), (0, .class_ 1109), (0, u "java/lang/Comparable"), (0, .class_ 1111), (0, u "java/lang/constant/Constable"), (0, .class_ 1113), (0, u "java/lang/constant/ConstantDesc"), (2, u "serialVersionUID"), (0, u "J"), (3, u "REPL"), (0, u "C"), (2, u "LATIN1"), (1, u "UTF16")] 323

def k7m0 : Method := { name := "<init>", desc := "()V", sig := { parameters := [], returnType := none }, accessFlags := 1, code := none }
def k7c1 : Code := { maxStack := 5, maxLocals := 2, code := jdk_42_method_3_code, exceptionTable := #[], attributes := #[] }
def k7m1 : Method := { name := "<init>", desc := "([C)V", sig := { parameters := [(.array .char)], returnType := none }, accessFlags := 1, code := some k7c1 }
def k7c2 : Code := { maxStack := 2, maxLocals := 3, code := jdk_42_method_66_code, exceptionTable := #[], attributes := #[] }
def k7m2 : Method := { name := "equals", desc := "(Ljava/lang/Object;)Z", sig := { parameters := [(.object "java/lang/Object")], returnType := some .boolean }, accessFlags := 1, code := some k7c2 }
def k7c3 : Code := { maxStack := 4, maxLocals := 6, code := jdk_42_method_149_code, exceptionTable := #[], attributes := #[] }
def k7m3 : Method := { name := "<init>", desc := "([CIILjava/lang/Void;)V", sig := { parameters := [(.array .char), .int, .int, (.object "java/lang/Void")], returnType := none }, accessFlags := 2, code := some k7c3 }
/-- java/lang/String -/
def k7 : Class := { plain "java/lang/String" (some 0) with
  accessFlags := 49
  interfaces := #[2, 3, 4, 5, 6]
  cf := some (fileOf pool7 10 #[.nestMembers #[1103]] #[{ accessFlags := 1, nameIndex := 5, descriptorIndex := 6, attributes := #[] }, { accessFlags := 1, nameIndex := 5, descriptorIndex := 1010, attributes := #[] }, { accessFlags := 1, nameIndex := 543, descriptorIndex := 573, attributes := #[] }, { accessFlags := 2, nameIndex := 5, descriptorIndex := 29, attributes := #[] }] 49 2 #[1106, 1108, 575, 1110, 1112] #[{ accessFlags := 18, nameIndex := 13, descriptorIndex := 14, attributes := #[] }, { accessFlags := 18, nameIndex := 17, descriptorIndex := 18, attributes := #[] }, { accessFlags := 2, nameIndex := 21, descriptorIndex := 22, attributes := #[] }, { accessFlags := 2, nameIndex := 25, descriptorIndex := 26, attributes := #[] }, { accessFlags := 26, nameIndex := 1116, descriptorIndex := 1117, attributes := #[] }, { accessFlags := 24, nameIndex := 40, descriptorIndex := 26, attributes := #[] }, { accessFlags := 26, nameIndex := 1101, descriptorIndex := 1102, attributes := #[] }, { accessFlags := 26, nameIndex := 1121, descriptorIndex := 1122, attributes := #[] }, { accessFlags := 25, nameIndex := 599, descriptorIndex := 600, attributes := #[] }, { accessFlags := 24, nameIndex := 1125, descriptorIndex := 18, attributes := #[] }, { accessFlags := 24, nameIndex := 1127, descriptorIndex := 18, attributes := #[] }])
  fields := #[{ name := "value", type := (.array .byte), accessFlags := 18, slot := 0, constantValue := 0 }, { name := "coder", type := .byte, accessFlags := 18, slot := 1, constantValue := 0 }, { name := "hash", type := .int, accessFlags := 2, slot := 2, constantValue := 0 }, { name := "hashIsZero", type := .boolean, accessFlags := 2, slot := 3, constantValue := 0 }, { name := "serialVersionUID", type := .long, accessFlags := 26, slot := 0, constantValue := 0 }, { name := "COMPACT_STRINGS", type := .boolean, accessFlags := 24, slot := 1, constantValue := 0 }, { name := "serialPersistentFields", type := (.array (.object "java/io/ObjectStreamField")), accessFlags := 26, slot := 2, constantValue := 0 }, { name := "REPL", type := .char, accessFlags := 26, slot := 3, constantValue := 0 }, { name := "CASE_INSENSITIVE_ORDER", type := (.object "java/util/Comparator"), accessFlags := 25, slot := 4, constantValue := 0 }, { name := "LATIN1", type := .byte, accessFlags := 24, slot := 5, constantValue := 0 }, { name := "UTF16", type := .byte, accessFlags := 24, slot := 6, constantValue := 0 }]
  methods := #[k7m0, k7m1, k7m2, k7m3]
  instanceTypes := #[(.array .byte), .byte, .int, .boolean]
  staticTypes := #[.long, .boolean, (.array (.object "java/io/ObjectStreamField")), .char, (.object "java/util/Comparator"), .byte, .byte]
  resolved := Array.replicate 1451 none
  statics := some 0 }

def pool8 : Array CpInfo := pool [(6, .class_ 8), (1, u "java/lang/Object"), (0, u "<init>"), (0, u "()V"), (1, .class_ 14), (1, u "java/lang/StringUTF16"), (31, u "$assertionsDisabled"), (0, u "Z"), (13, u "HI_BYTE_SHIFT"), (0, u "I"), (2, u "LO_BYTE_SHIFT"), (49, .methodref 12 116), (0, .nameAndType 117 118), (0, u "compress"), (0, u "([CI[BII)I"), (3, u "([CII)[B"), (138, u "coderFromArrayLen"), (0, u "([BI)B"), (106, .class_ 371), (1, u "java/lang/StringUTF16$LinesSpliterator"), (58, u "MAX_LENGTH"), (196, .class_ 628), (0, u "java/lang/StringUTF16$CodePointsSpliterator"), (0, .class_ 630), (0, u "java/lang/StringUTF16$CharsSpliterator")] 4

def k8m0 : Method := { name := "<init>", desc := "()V", sig := { parameters := [], returnType := none }, accessFlags := 0, code := none }
def k8c1 : Code := { maxStack := 2, maxLocals := 2, code := jdk_52_method_15_code, exceptionTable := #[], attributes := #[] }
def k8m1 : Method := { name := "coderFromArrayLen", desc := "([BI)B", sig := { parameters := [(.array .byte), .int], returnType := some .byte }, accessFlags := 8, code := some k8c1 }
def k8c2 : Code := { maxStack := 5, maxLocals := 6, code := jdk_52_method_16_code, exceptionTable := #[], attributes := #[] }
def k8m2 : Method := { name := "compress", desc := "([CII)[B", sig := { parameters := [(.array .char), .int, .int], returnType := some (.array .byte) }, accessFlags := 9, code := some k8c2 }
def k8c3 : Code := { maxStack := 3, maxLocals := 7, code := jdk_52_method_21_code, exceptionTable := #[], attributes := #[] }
def k8m3 : Method := { name := "compress", desc := "([CI[BII)I", sig := { parameters := [(.array .char), .int, (.array .byte), .int, .int], returnType := some .int }, accessFlags := 9, code := some k8c3 }
/-- java/lang/StringUTF16 -/
def k8 : Class := { plain "java/lang/StringUTF16" (some 0) with
  accessFlags := 48
  interfaces := #[]
  cf := some (fileOf pool8 12 #[.nestMembers #[627, 629, 369]] #[{ accessFlags := 0, nameIndex := 9, descriptorIndex := 10, attributes := #[] }, { accessFlags := 8, nameIndex := 261, descriptorIndex := 262, attributes := #[] }, { accessFlags := 9, nameIndex := 117, descriptorIndex := 122, attributes := #[] }, { accessFlags := 9, nameIndex := 117, descriptorIndex := 118, attributes := #[] }] 48 6 #[] #[{ accessFlags := 26, nameIndex := 61, descriptorIndex := 62, attributes := #[] }, { accessFlags := 26, nameIndex := 65, descriptorIndex := 62, attributes := #[] }, { accessFlags := 24, nameIndex := 430, descriptorIndex := 62, attributes := #[] }, { accessFlags := 4120, nameIndex := 46, descriptorIndex := 47, attributes := #[] }])
  fields := #[{ name := "HI_BYTE_SHIFT", type := .int, accessFlags := 26, slot := 0, constantValue := 0 }, { name := "LO_BYTE_SHIFT", type := .int, accessFlags := 26, slot := 1, constantValue := 0 }, { name := "MAX_LENGTH", type := .int, accessFlags := 24, slot := 2, constantValue := 0 }, { name := "$assertionsDisabled", type := .boolean, accessFlags := 4120, slot := 3, constantValue := 0 }]
  methods := #[k8m0, k8m1, k8m2, k8m3]
  instanceTypes := #[]
  staticTypes := #[.int, .int, .int, .boolean]
  resolved := Array.replicate 635 none
  statics := none }

def pool9 : Array CpInfo := pool [(1, .methodref 2 3), (0, .class_ 4), (0, .nameAndType 5 6), (0, u "java/lang/Object"), (0, u "<init>"), (0, u "()V"), (0, .class_ 8), (0, u "java/lang/Record")] 13

def k9c0 : Code := { maxStack := 1, maxLocals := 1, code := jdk_30_method_1_code, exceptionTable := #[], attributes := #[] }
def k9m0 : Method := { name := "<init>", desc := "()V", sig := { parameters := [], returnType := none }, accessFlags := 4, code := some k9c0 }
/-- java/lang/Record -/
def k9 : Class := { plain "java/lang/Record" (some 0) with
  accessFlags := 1057
  interfaces := #[]
  cf := some (fileOf pool9 7 #[] #[{ accessFlags := 4, nameIndex := 5, descriptorIndex := 6, attributes := #[] }] 1057 2 #[] #[])
  fields := #[]
  methods := #[k9m0]
  instanceTypes := #[]
  staticTypes := #[]
  resolved := Array.replicate 22 none
  statics := none }

def pool10 : Array CpInfo := pool [(1, .methodref 2 3), (0, .class_ 4), (0, .nameAndType 5 6), (0, u "java/lang/Record"), (0, u "<init>"), (0, u "()V"), (0, .fieldref 8 9), (0, .class_ 10), (0, .nameAndType 11 12), (0, u "com/example/covenant/covenant/ElementaryCondition"), (0, u "key"), (0, u "Ljava/lang/String;"), (0, .fieldref 8 14), (0, .nameAndType 15 12), (0, u "text"), (0, .methodref 17 18), (0, .class_ 19), (0, .nameAndType 20 21), (0, u "java/lang/String"), (0, u "equals"), (0, u "(Ljava/lang/Object;)Z"), (4, u "(Ljava/lang/String;Ljava/lang/String;)V")] 9

def k10c0 : Code := { maxStack := 2, maxLocals := 3, code := prog_5_method_1_code, exceptionTable := #[], attributes := #[] }
def k10m0 : Method := { name := "<init>", desc := "(Ljava/lang/String;Ljava/lang/String;)V", sig := { parameters := [(.object "java/lang/String"), (.object "java/lang/String")], returnType := none }, accessFlags := 0, code := some k10c0 }
def k10c1 : Code := { maxStack := 2, maxLocals := 3, code := prog_5_method_2_code, exceptionTable := #[], attributes := #[] }
def k10m1 : Method := { name := "equals", desc := "(Ljava/lang/Object;)Z", sig := { parameters := [(.object "java/lang/Object")], returnType := some .boolean }, accessFlags := 1, code := some k10c1 }
/-- com/example/covenant/covenant/ElementaryCondition -/
def k10 : Class := { plain "com/example/covenant/covenant/ElementaryCondition" (some 9) with
  accessFlags := 48
  interfaces := #[]
  cf := some (fileOf pool10 8 #[] #[{ accessFlags := 0, nameIndex := 5, descriptorIndex := 26, attributes := #[] }, { accessFlags := 1, nameIndex := 20, descriptorIndex := 21, attributes := #[] }] 48 2 #[] #[{ accessFlags := 18, nameIndex := 11, descriptorIndex := 12, attributes := #[] }, { accessFlags := 18, nameIndex := 15, descriptorIndex := 12, attributes := #[] }])
  fields := #[{ name := "key", type := (.object "java/lang/String"), accessFlags := 18, slot := 0, constantValue := 0 }, { name := "text", type := (.object "java/lang/String"), accessFlags := 18, slot := 1, constantValue := 0 }]
  methods := #[k10m0, k10m1]
  instanceTypes := #[(.object "java/lang/String"), (.object "java/lang/String")]
  staticTypes := #[]
  resolved := Array.replicate 36 none
  statics := none }

def pool11 : Array CpInfo := pool [(4, .class_ 6), (1, u "java/lang/Object"), (0, u "<init>"), (0, u "()V"), (5, .class_ 16), (1, u "java/lang/StringLatin1"), (104, u "$assertionsDisabled"), (0, u "Z"), (98, .class_ 223), (1, u "java/lang/StringLatin1$LinesSpliterator"), (57, u "equals"), (0, u "([B[B)Z"), (107, .class_ 391), (0, u "java/lang/StringLatin1$CharsSpliterator")] 3

def k11m0 : Method := { name := "<init>", desc := "()V", sig := { parameters := [], returnType := none }, accessFlags := 0, code := none }
def k11c1 : Code := { maxStack := 3, maxLocals := 3, code := jdk_43_method_13_code, exceptionTable := #[], attributes := #[] }
def k11m1 : Method := { name := "equals", desc := "([B[B)Z", sig := { parameters := [(.array .byte), (.array .byte)], returnType := some .boolean }, accessFlags := 9, code := some k11c1 }
/-- java/lang/StringLatin1 -/
def k11 : Class := { plain "java/lang/StringLatin1" (some 0) with
  accessFlags := 48
  interfaces := #[]
  cf := some (fileOf pool11 14 #[.nestMembers #[390, 221]] #[{ accessFlags := 0, nameIndex := 7, descriptorIndex := 8, attributes := #[] }, { accessFlags := 9, nameIndex := 281, descriptorIndex := 282, attributes := #[] }] 48 4 #[] #[{ accessFlags := 4120, nameIndex := 121, descriptorIndex := 122, attributes := #[] }])
  fields := #[{ name := "$assertionsDisabled", type := .boolean, accessFlags := 4120, slot := 0, constantValue := 0 }]
  methods := #[k11m0, k11m1]
  instanceTypes := #[]
  staticTypes := #[.boolean]
  resolved := Array.replicate 395 none
  statics := none }

def pool12 : Array CpInfo := pool [(2, .class_ 4), (1, u "java/lang/Object"), (0, u "<init>"), (0, u "()V"), (17, .class_ 26), (1, u "jdk/internal/util/Preconditions"), (28, .class_ 56), (0, u "jdk/internal/util/Preconditions$4"), (57, .class_ 115), (0, u "jdk/internal/util/Preconditions$1"), (7, u "SIOOBE_FORMATTER"), (0, u "Ljava/util/function/BiFunction;"), (0, .class_ 126), (0, u "jdk/internal/util/Preconditions$2"), (3, u "AIOOBE_FORMATTER"), (0, .class_ 132), (0, u "jdk/internal/util/Preconditions$3"), (3, u "IOOBE_FORMATTER")] 57

def k12m0 : Method := { name := "<init>", desc := "()V", sig := { parameters := [], returnType := none }, accessFlags := 1, code := none }
/-- jdk/internal/util/Preconditions -/
def k12 : Class := { plain "jdk/internal/util/Preconditions" (some 0) with
  accessFlags := 33
  interfaces := #[]
  cf := some (fileOf pool12 24 #[.nestMembers #[55, 131, 125, 114]] #[{ accessFlags := 1, nameIndex := 5, descriptorIndex := 6, attributes := #[] }] 33 2 #[] #[{ accessFlags := 25, nameIndex := 123, descriptorIndex := 124, attributes := #[] }, { accessFlags := 25, nameIndex := 130, descriptorIndex := 124, attributes := #[] }, { accessFlags := 25, nameIndex := 136, descriptorIndex := 124, attributes := #[] }])
  fields := #[{ name := "SIOOBE_FORMATTER", type := (.object "java/util/function/BiFunction"), accessFlags := 25, slot := 0, constantValue := 0 }, { name := "AIOOBE_FORMATTER", type := (.object "java/util/function/BiFunction"), accessFlags := 25, slot := 1, constantValue := 0 }, { name := "IOOBE_FORMATTER", type := (.object "java/util/function/BiFunction"), accessFlags := 25, slot := 2, constantValue := 0 }]
  methods := #[k12m0]
  instanceTypes := #[]
  staticTypes := #[(.object "java/util/function/BiFunction"), (.object "java/util/function/BiFunction"), (.object "java/util/function/BiFunction")]
  resolved := Array.replicate 194 none
  statics := some 1 }

def pool13 : Array CpInfo := pool [(9, u "<init>"), (6, .class_ 18), (1, u "java/lang/Object"), (0, u "()V"), (1, .class_ 23), (1, u "jdk/internal/util/ArraysSupport"), (0, u "LOG2_ARRAY_LONG_INDEX_SCALE"), (0, u "I"), (2, u "U"), (0, u "Ljdk/internal/misc/Unsafe;"), (8, u "BIG_ENDIAN"), (0, u "Z"), (8, u "LOG2_BYTE_BIT_SIZE"), (4, u "LOG2_ARRAY_INT_INDEX_SCALE"), (54, u "JLA"), (0, u "Ljdk/internal/access/JavaLangAccess;"), (11, u "LOG2_ARRAY_BOOLEAN_INDEX_SCALE"), (9, u "LOG2_ARRAY_BYTE_INDEX_SCALE"), (5, u "LOG2_ARRAY_CHAR_INDEX_SCALE"), (5, u "LOG2_ARRAY_SHORT_INDEX_SCALE"), (18, u "LOG2_ARRAY_FLOAT_INDEX_SCALE"), (24, u "LOG2_ARRAY_DOUBLE_INDEX_SCALE"), (89, u "T_BOOLEAN"), (2, u "T_CHAR"), (1, u "T_FLOAT"), (1, u "T_DOUBLE"), (1, u "T_BYTE"), (1, u "T_SHORT"), (1, u "T_INT"), (1, u "T_LONG"), (1, u "SOFT_MAX_ARRAY_LENGTH")] 83

def k13m0 : Method := { name := "<init>", desc := "()V", sig := { parameters := [], returnType := none }, accessFlags := 2, code := none }
/-- jdk/internal/util/ArraysSupport -/
def k13 : Class := { plain "jdk/internal/util/ArraysSupport" (some 0) with
  accessFlags := 33
  interfaces := #[]
  cf := some (fileOf pool13 21 #[] #[{ accessFlags := 2, nameIndex := 9, descriptorIndex := 19, attributes := #[] }] 33 16 #[] #[{ accessFlags := 24, nameIndex := 28, descriptorIndex := 29, attributes := #[] }, { accessFlags := 26, nameIndex := 38, descriptorIndex := 39, attributes := #[] }, { accessFlags := 25, nameIndex := 121, descriptorIndex := 25, attributes := #[] }, { accessFlags := 25, nameIndex := 131, descriptorIndex := 25, attributes := #[] }, { accessFlags := 25, nameIndex := 137, descriptorIndex := 25, attributes := #[] }, { accessFlags := 25, nameIndex := 143, descriptorIndex := 25, attributes := #[] }, { accessFlags := 25, nameIndex := 53, descriptorIndex := 25, attributes := #[] }, { accessFlags := 25, nameIndex := 24, descriptorIndex := 25, attributes := #[] }, { accessFlags := 25, nameIndex := 162, descriptorIndex := 25, attributes := #[] }, { accessFlags := 25, nameIndex := 187, descriptorIndex := 25, attributes := #[] }, { accessFlags := 26, nameIndex := 48, descriptorIndex := 25, attributes := #[] }, { accessFlags := 25, nameIndex := 277, descriptorIndex := 25, attributes := #[] }, { accessFlags := 25, nameIndex := 280, descriptorIndex := 25, attributes := #[] }, { accessFlags := 25, nameIndex := 282, descriptorIndex := 25, attributes := #[] }, { accessFlags := 25, nameIndex := 284, descriptorIndex := 25, attributes := #[] }, { accessFlags := 25, nameIndex := 286, descriptorIndex := 25, attributes := #[] }, { accessFlags := 25, nameIndex := 288, descriptorIndex := 25, attributes := #[] }, { accessFlags := 25, nameIndex := 290, descriptorIndex := 25, attributes := #[] }, { accessFlags := 25, nameIndex := 292, descriptorIndex := 25, attributes := #[] }, { accessFlags := 26, nameIndex := 108, descriptorIndex := 109, attributes := #[] }, { accessFlags := 25, nameIndex := 294, descriptorIndex := 25, attributes := #[] }])
  fields := #[{ name := "U", type := (.object "jdk/internal/misc/Unsafe"), accessFlags := 24, slot := 0, constantValue := 0 }, { name := "BIG_ENDIAN", type := .boolean, accessFlags := 26, slot := 1, constantValue := 0 }, { name := "LOG2_ARRAY_BOOLEAN_INDEX_SCALE", type := .int, accessFlags := 25, slot := 2, constantValue := 0 }, { name := "LOG2_ARRAY_BYTE_INDEX_SCALE", type := .int, accessFlags := 25, slot := 3, constantValue := 0 }, { name := "LOG2_ARRAY_CHAR_INDEX_SCALE", type := .int, accessFlags := 25, slot := 4, constantValue := 0 }, { name := "LOG2_ARRAY_SHORT_INDEX_SCALE", type := .int, accessFlags := 25, slot := 5, constantValue := 0 }, { name := "LOG2_ARRAY_INT_INDEX_SCALE", type := .int, accessFlags := 25, slot := 6, constantValue := 0 }, { name := "LOG2_ARRAY_LONG_INDEX_SCALE", type := .int, accessFlags := 25, slot := 7, constantValue := 0 }, { name := "LOG2_ARRAY_FLOAT_INDEX_SCALE", type := .int, accessFlags := 25, slot := 8, constantValue := 0 }, { name := "LOG2_ARRAY_DOUBLE_INDEX_SCALE", type := .int, accessFlags := 25, slot := 9, constantValue := 0 }, { name := "LOG2_BYTE_BIT_SIZE", type := .int, accessFlags := 26, slot := 10, constantValue := 0 }, { name := "T_BOOLEAN", type := .int, accessFlags := 25, slot := 11, constantValue := 0 }, { name := "T_CHAR", type := .int, accessFlags := 25, slot := 12, constantValue := 0 }, { name := "T_FLOAT", type := .int, accessFlags := 25, slot := 13, constantValue := 0 }, { name := "T_DOUBLE", type := .int, accessFlags := 25, slot := 14, constantValue := 0 }, { name := "T_BYTE", type := .int, accessFlags := 25, slot := 15, constantValue := 0 }, { name := "T_SHORT", type := .int, accessFlags := 25, slot := 16, constantValue := 0 }, { name := "T_INT", type := .int, accessFlags := 25, slot := 17, constantValue := 0 }, { name := "T_LONG", type := .int, accessFlags := 25, slot := 18, constantValue := 0 }, { name := "JLA", type := (.object "jdk/internal/access/JavaLangAccess"), accessFlags := 26, slot := 19, constantValue := 0 }, { name := "SOFT_MAX_ARRAY_LENGTH", type := .int, accessFlags := 25, slot := 20, constantValue := 0 }]
  methods := #[k13m0]
  instanceTypes := #[]
  staticTypes := #[(.object "jdk/internal/misc/Unsafe"), .boolean, .int, .int, .int, .int, .int, .int, .int, .int, .int, .int, .int, .int, .int, .int, .int, .int, .int, (.object "jdk/internal/access/JavaLangAccess"), .int]
  resolved := Array.replicate 378 none
  statics := none }

def pool14 : Array CpInfo := pool [(1, u "java/lang/Cloneable"), (0, .class_ 1), (0, u "java/lang/Object"), (0, .class_ 3)] 3

/-- java/lang/Cloneable -/
def k14 : Class := { plain "java/lang/Cloneable" (some 0) with
  accessFlags := 1537
  interfaces := #[]
  cf := some (fileOf pool14 2 #[] #[] 1537 4 #[] #[])
  fields := #[]
  methods := #[]
  instanceTypes := #[]
  staticTypes := #[]
  resolved := Array.replicate 8 none
  statics := none }

/-- the primitive byte -/
def k15 : Class := { plain "byte" none with kind := .primitive 'B', accessFlags := 0x411 }
/-- [B -/
def k16 : Class := { plain "[B" (some 0) with kind := .array 15 .byte, interfaces := #[14, 2], accessFlags := 1041 }

/-- the primitive char -/
def k17 : Class := { plain "char" none with kind := .primitive 'C', accessFlags := 0x411 }
/-- [C -/
def k18 : Class := { plain "[C" (some 0) with kind := .array 17 .char, interfaces := #[14, 2], accessFlags := 1041 }

/-- the primitive int -/
def k19 : Class := { plain "int" none with kind := .primitive 'I', accessFlags := 0x411 }
/-- [I -/
def k20 : Class := { plain "[I" (some 0) with kind := .array 19 .int, interfaces := #[14, 2], accessFlags := 1041 }

def heap : Heap := #[{ cls := 7, slots := #[.long 0, .int 1, .null, .int 0, .null, .int 0, .int 0], vm := .statics 7 },
  { cls := 12, slots := #[.null, .null, .null], vm := .statics 12 }]
def classes : Array Class := #[k0, k1, k2, k3, k4, k5, k6, k7, k8, k9, k10, k11, k12, k13, k14, k15, k16, k17, k18, k19, k20]
def interned : List (Array UInt16 × Addr) := []
def slotsUsed : Nat := 10
def theMethod : MethodId := ⟨1, 2⟩
def args0 : Array Value := #[.int 5, .int 7, .int 9, .int 3]
def aboutOver (below : List Frame) : State where
  vm := { classes := classes, interned := interned.toArray }
  heap := heap
  slotsUsed := slotsUsed
  threads := #[{ frames := .invoking theMethod args0 :: below }]
def below0 : List Frame := [.native { method := ⟨0, 0⟩, args := #[] }]
def about1 : State := aboutOver below0
def p0 : Program := .bare "" "" ""
def e0 : Env := launch0.env 0 0 0
theorem w_frames : about1.frames = Frame.invoking theMethod args0 :: below0 := rfl
set_option maxRecDepth 65536 in
theorem w_args : argsFit about1.vm theMethod args0 = true := by decide +kernel
set_option maxRecDepth 65536 in
theorem w_heap : heapFits about1 = true := by decide +kernel
set_option maxRecDepth 65536 in
theorem w_runnable : about1.curStatus? = some .runnable := by decide +kernel
set_option maxRecDepth 65536 in
theorem w_alone : about1.alone = true := by decide +kernel
set_option maxRecDepth 65536 in
theorem w_named : about1.methodNamed? x = some theMethod := by decide +kernel
set_option maxRecDepth 65536 in
theorem w_hears : about1.hears theMethod below0 = true := by decide +kernel
set_option maxRecDepth 65536 in
theorem w_ripe : about1.ripe theMethod args0 below0 = true := by decide +kernel
theorem w_running : about1.status = .running := rfl
set_option maxRecDepth 65536 in
theorem w_room : about1.hasRoom e0.platform room_1 = true :=
  launch0.hasRoom_least _ room_1 (by decide +kernel) (by decide +kernel) (by decide +kernel) (by decide +kernel) (by decide +kernel) (by decide +kernel)
theorem allAtoms_all (ts : List Jvm.Cond) (a : Array Jvm.Value) (st : Jvm.State) : (allAtoms ts).before a st = ts.all (fun c => c.before a st) := by
  induction ts with
  | nil => rfl
  | cons c t ih =>
    show (Jvm.Cond.and c (allAtoms t)).before a st = _
    rw [Jvm.Cond.before_and, ih, List.all_cons]
def words1 : List Jvm.Cond := Jvm.Cond.code x code maxLocals ret :: tables_1
/-- a 'code' word, met by the world's own term for the bytes: nothing is compared byte by byte -/
theorem code_word {y : MethodName} {bytes : ByteArray} {mx : Nat} {rt : Option FieldType} {a : Array Value} {s : State} {m : MethodId} {meth : Method} {c : Code} (h1 : s.methodNamed? y = some m) (h2 : s.vm.method? m = some meth) (h3 : meth.code = some c) (h4 : c.code = bytes)
    (h5 : (c.maxLocals == mx && c.exceptionTable.isEmpty && decide (c.maxStack ≤ mostOperands) && decide (meth.sig.returnType = rt) && !meth.locks && decide (parseMethodDescriptor y.desc = some meth.sig)) = true) : (Jvm.Cond.code y bytes mx rt).before a s = true := by
  simp only [Bool.and_eq_true, beq_iff_eq, Bool.not_eq_true', decide_eq_true_eq] at h5
  obtain ⟨⟨⟨⟨⟨g1, g2⟩, g3⟩, g4⟩, g5⟩, g6⟩ := h5
  simp [Cond.before, Cond.holds, Cond.value, h1, h2, h3, h4, g1, g2, g3, g4, g5, g6]
def isCode : Jvm.Cond → Bool
  | .code _ _ _ _ => true
  | _ => false
theorem all_split {L : List Jvm.Cond} {P : Jvm.Cond → Bool} (h1 : L.all (fun c => isCode c || P c) = true) (h2 : ∀ c ∈ L.filter isCode, P c = true) : L.all P = true := by
  refine List.all_eq_true.mpr fun c hc => ?_
  have h := List.all_eq_true.mp h1 c hc
  rcases Bool.eq_false_or_eq_true (isCode c) with hi | hi
  · exact h2 c (List.mem_filter.mpr ⟨hc, hi⟩)
  · simpa [hi] using h
set_option maxRecDepth 65536 in
theorem w_c0 : (Jvm.Cond.code x code maxLocals ret).before args0 about1 = true := code_word (m := ⟨1, 2⟩) (meth := k1m2) (c := k1c2) (by decide +kernel) rfl rfl rfl (by decide +kernel)
set_option maxRecDepth 65536 in
theorem w_c1 : (Jvm.Cond.code ({ cls := "com/example/covenant/covenant/ElementaryConditionEqualsPinLaw", name := "make", desc := "(ICC)[C" } : Jvm.MethodName) method_2_code (3 : Nat) (Option.some (Jvm.ClassFile.FieldType.array Jvm.ClassFile.FieldType.char))).before args0 about1 = true := code_word (m := ⟨1, 1⟩) (meth := k1m1) (c := k1c1) (by decide +kernel) rfl rfl rfl (by decide +kernel)
set_option maxRecDepth 65536 in
theorem w_c2 : (Jvm.Cond.code ({ cls := "java/lang/String", name := "<init>", desc := "([C)V" } : Jvm.MethodName) jdk_42_method_3_code (2 : Nat) (Option.none : Option Jvm.ClassFile.FieldType)).before args0 about1 = true := code_word (m := ⟨7, 1⟩) (meth := k7m1) (c := k7c1) (by decide +kernel) rfl rfl rfl (by decide +kernel)
set_option maxRecDepth 65536 in
theorem w_c3 : (Jvm.Cond.code ({ cls := "java/lang/String", name := "<init>", desc := "([CIILjava/lang/Void;)V" } : Jvm.MethodName) jdk_42_method_149_code (6 : Nat) (Option.none : Option Jvm.ClassFile.FieldType)).before args0 about1 = true := code_word (m := ⟨7, 3⟩) (meth := k7m3) (c := k7c3) (by decide +kernel) rfl rfl rfl (by decide +kernel)
set_option maxRecDepth 65536 in
theorem w_c4 : (Jvm.Cond.code ({ cls := "java/lang/Object", name := "<init>", desc := "()V" } : Jvm.MethodName) object_method_1_code (1 : Nat) (Option.none : Option Jvm.ClassFile.FieldType)).before args0 about1 = true := code_word (m := ⟨0, 0⟩) (meth := k0m0) (c := k0c0) (by decide +kernel) rfl rfl rfl (by decide +kernel)
set_option maxRecDepth 65536 in
theorem w_c5 : (Jvm.Cond.code ({ cls := "java/lang/StringUTF16", name := "compress", desc := "([CII)[B" } : Jvm.MethodName) jdk_52_method_16_code (6 : Nat) (Option.some (Jvm.ClassFile.FieldType.array Jvm.ClassFile.FieldType.byte))).before args0 about1 = true := code_word (m := ⟨8, 2⟩) (meth := k8m2) (c := k8c2) (by decide +kernel) rfl rfl rfl (by decide +kernel)
set_option maxRecDepth 65536 in
theorem w_c6 : (Jvm.Cond.code ({ cls := "java/lang/StringUTF16", name := "compress", desc := "([CI[BII)I" } : Jvm.MethodName) jdk_52_method_21_code (7 : Nat) (Option.some Jvm.ClassFile.FieldType.int)).before args0 about1 = true := code_word (m := ⟨8, 3⟩) (meth := k8m3) (c := k8c3) (by decide +kernel) rfl rfl rfl (by decide +kernel)
set_option maxRecDepth 65536 in
theorem w_c7 : (Jvm.Cond.code ({ cls := "java/lang/StringUTF16", name := "coderFromArrayLen", desc := "([BI)B" } : Jvm.MethodName) jdk_52_method_15_code (2 : Nat) (Option.some Jvm.ClassFile.FieldType.byte)).before args0 about1 = true := code_word (m := ⟨8, 1⟩) (meth := k8m1) (c := k8c1) (by decide +kernel) rfl rfl rfl (by decide +kernel)
set_option maxRecDepth 65536 in
theorem w_c8 : (Jvm.Cond.code ({ cls := "com/example/covenant/covenant/ElementaryCondition", name := "<init>", desc := "(Ljava/lang/String;Ljava/lang/String;)V" } : Jvm.MethodName) prog_5_method_1_code (3 : Nat) (Option.none : Option Jvm.ClassFile.FieldType)).before args0 about1 = true := code_word (m := ⟨10, 0⟩) (meth := k10m0) (c := k10c0) (by decide +kernel) rfl rfl rfl (by decide +kernel)
set_option maxRecDepth 65536 in
theorem w_c9 : (Jvm.Cond.code ({ cls := "java/lang/Record", name := "<init>", desc := "()V" } : Jvm.MethodName) jdk_30_method_1_code (1 : Nat) (Option.none : Option Jvm.ClassFile.FieldType)).before args0 about1 = true := code_word (m := ⟨9, 0⟩) (meth := k9m0) (c := k9c0) (by decide +kernel) rfl rfl rfl (by decide +kernel)
set_option maxRecDepth 65536 in
theorem w_c10 : (Jvm.Cond.code ({ cls := "com/example/covenant/covenant/ElementaryCondition", name := "equals", desc := "(Ljava/lang/Object;)Z" } : Jvm.MethodName) prog_5_method_2_code (3 : Nat) (Option.some Jvm.ClassFile.FieldType.boolean)).before args0 about1 = true := code_word (m := ⟨10, 1⟩) (meth := k10m1) (c := k10c1) (by decide +kernel) rfl rfl rfl (by decide +kernel)
set_option maxRecDepth 65536 in
theorem w_c11 : (Jvm.Cond.code ({ cls := "java/lang/String", name := "equals", desc := "(Ljava/lang/Object;)Z" } : Jvm.MethodName) jdk_42_method_66_code (3 : Nat) (Option.some Jvm.ClassFile.FieldType.boolean)).before args0 about1 = true := code_word (m := ⟨7, 2⟩) (meth := k7m2) (c := k7c2) (by decide +kernel) rfl rfl rfl (by decide +kernel)
set_option maxRecDepth 65536 in
theorem w_c12 : (Jvm.Cond.code ({ cls := "java/lang/StringLatin1", name := "equals", desc := "([B[B)Z" } : Jvm.MethodName) jdk_43_method_13_code (3 : Nat) (Option.some Jvm.ClassFile.FieldType.boolean)).before args0 about1 = true := code_word (m := ⟨11, 1⟩) (meth := k11m1) (c := k11c1) (by decide +kernel) rfl rfl rfl (by decide +kernel)
def codes1 : List Jvm.Cond := [Jvm.Cond.code x code maxLocals ret, Jvm.Cond.code ({ cls := "com/example/covenant/covenant/ElementaryConditionEqualsPinLaw", name := "make", desc := "(ICC)[C" } : Jvm.MethodName) method_2_code (3 : Nat) (Option.some (Jvm.ClassFile.FieldType.array Jvm.ClassFile.FieldType.char)), Jvm.Cond.code ({ cls := "java/lang/String", name := "<init>", desc := "([C)V" } : Jvm.MethodName) jdk_42_method_3_code (2 : Nat) (Option.none : Option Jvm.ClassFile.FieldType), Jvm.Cond.code ({ cls := "java/lang/String", name := "<init>", desc := "([CIILjava/lang/Void;)V" } : Jvm.MethodName) jdk_42_method_149_code (6 : Nat) (Option.none : Option Jvm.ClassFile.FieldType), Jvm.Cond.code ({ cls := "java/lang/Object", name := "<init>", desc := "()V" } : Jvm.MethodName) object_method_1_code (1 : Nat) (Option.none : Option Jvm.ClassFile.FieldType), Jvm.Cond.code ({ cls := "java/lang/StringUTF16", name := "compress", desc := "([CII)[B" } : Jvm.MethodName) jdk_52_method_16_code (6 : Nat) (Option.some (Jvm.ClassFile.FieldType.array Jvm.ClassFile.FieldType.byte)), Jvm.Cond.code ({ cls := "java/lang/StringUTF16", name := "compress", desc := "([CI[BII)I" } : Jvm.MethodName) jdk_52_method_21_code (7 : Nat) (Option.some Jvm.ClassFile.FieldType.int), Jvm.Cond.code ({ cls := "java/lang/StringUTF16", name := "coderFromArrayLen", desc := "([BI)B" } : Jvm.MethodName) jdk_52_method_15_code (2 : Nat) (Option.some Jvm.ClassFile.FieldType.byte), Jvm.Cond.code ({ cls := "com/example/covenant/covenant/ElementaryCondition", name := "<init>", desc := "(Ljava/lang/String;Ljava/lang/String;)V" } : Jvm.MethodName) prog_5_method_1_code (3 : Nat) (Option.none : Option Jvm.ClassFile.FieldType), Jvm.Cond.code ({ cls := "java/lang/Record", name := "<init>", desc := "()V" } : Jvm.MethodName) jdk_30_method_1_code (1 : Nat) (Option.none : Option Jvm.ClassFile.FieldType), Jvm.Cond.code ({ cls := "com/example/covenant/covenant/ElementaryCondition", name := "equals", desc := "(Ljava/lang/Object;)Z" } : Jvm.MethodName) prog_5_method_2_code (3 : Nat) (Option.some Jvm.ClassFile.FieldType.boolean), Jvm.Cond.code ({ cls := "java/lang/String", name := "equals", desc := "(Ljava/lang/Object;)Z" } : Jvm.MethodName) jdk_42_method_66_code (3 : Nat) (Option.some Jvm.ClassFile.FieldType.boolean), Jvm.Cond.code ({ cls := "java/lang/StringLatin1", name := "equals", desc := "([B[B)Z" } : Jvm.MethodName) jdk_43_method_13_code (3 : Nat) (Option.some Jvm.ClassFile.FieldType.boolean)]
set_option maxRecDepth 65536 in
theorem codes_eq : words1.filter isCode = codes1 := rfl
theorem w_codes : ∀ c ∈ words1.filter isCode, c.before args0 about1 = true := by
  rw [codes_eq]
  intro c hc
  simp only [codes1, List.mem_cons, List.not_mem_nil, or_false] at hc
  rcases hc with rfl | rfl | rfl | rfl | rfl | rfl | rfl | rfl | rfl | rfl | rfl | rfl | rfl
  · exact w_c0
  · exact w_c1
  · exact w_c2
  · exact w_c3
  · exact w_c4
  · exact w_c5
  · exact w_c6
  · exact w_c7
  · exact w_c8
  · exact w_c9
  · exact w_c10
  · exact w_c11
  · exact w_c12
set_option maxRecDepth 65536 in
theorem w_t1 : (words1.take 24).all (fun c => isCode c || c.before args0 about1) = true := by decide +kernel
set_option maxRecDepth 65536 in
theorem w_t2 : ((words1.drop 24).take 24).all (fun c => isCode c || c.before args0 about1) = true := by decide +kernel
set_option maxRecDepth 65536 in
theorem w_t3 : (((words1.drop 24).drop 24).take 24).all (fun c => isCode c || c.before args0 about1) = true := by decide +kernel
set_option maxRecDepth 65536 in
theorem w_t4 : (((words1.drop 24).drop 24).drop 24).all (fun c => isCode c || c.before args0 about1) = true := by decide +kernel
theorem w_tables : (allAtoms (Jvm.Cond.code x code maxLocals ret :: tables_1)).before args0 about1 = true := by
  rw [allAtoms_all]
  show words1.all (fun c => c.before args0 about1) = true
  refine all_split ?_ w_codes
  rw [← List.take_append_drop 24 words1, List.all_append, w_t1, ← List.take_append_drop 24 (words1.drop 24), List.all_append, w_t2, ← List.take_append_drop 24 ((words1.drop 24).drop 24), List.all_append, w_t3, w_t4]
  rfl
set_option maxRecDepth 65536 in
theorem w_rest : rest_1_c.before args0 about1 = true := by decide +kernel
set_option maxRecDepth 65536 in
theorem w_case : (Jvm.Cond.and given_1 narrow_1).before args0 about1 = true := by decide +kernel
set_option maxRecDepth 65536 in
theorem w_consts : constsHeld consts_1 about1 := Jvm.Lit.constsHeldB_iff.mp (by decide +kernel)
theorem w_applies : (headSpec (Jvm.Cond.code x code maxLocals ret :: tables_1) room_1).applies x e0.platform about1 = true :=
  (Spec.applies_iff w_frames).mpr ⟨w_running, w_runnable, w_alone, w_named, w_hears, w_ripe, w_room, w_tables⟩
theorem atStart : AtStart classFile x code maxLocals ret World_1 tables_1 room_1 Calls_1 rest_1 Pre_1 launch0 p0 e0 about1 theMethod args0 below0 :=
  ⟨lists_1, trivial, launch0.admits_env _ _ _, launch0.least_env, fairChoices_fair.cas, fairChoices_fair.clock, w_frames, w_args, w_heap, w_applies, ⟨w_consts, trivial⟩, w_rest, w_case⟩
end start1
theorem witness_1 : WitnessClaimed_1 := ⟨start1.p0, start1.e0, start1.about1, start1.theMethod, start1.args0, start1.below0, start1.atStart⟩
end Jvm.Pilot.@@N@@
