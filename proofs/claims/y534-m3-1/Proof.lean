import JvmDerived
import JvmDerived.Pilot.@@N@@Statement
import JvmDerived.Pilot.@@N@@Code
set_option linter.unusedVariables false
set_option linter.unusedSimpArgs false
namespace Jvm.Pilot.@@N@@
open Jvm Jvm.ClassFile Sem Op Lib Jvm.Free Jvm.Stand Jvm.LawKit Jvm.RoadKit Bundle Jvm.Pilot.@@N@@.Jvm.D

section OwnKit
variable {p : Program} {l : Launch} {e : Env} {R : Room} {s : State} {m : MethodId} {args : Array Value} {below : List Frame} {meth : Method} {c : Code} {T T' : State} {locs : List Loc} {cells slots : Nat} {g g' : JFrame} {Q : Option Value → Heap → List Loc → Prop} {k n : Nat} {Z : State} {h : Heap} {a0 : Array Value}
/-- from here the run comes to the method's end, and there Q holds -/
def Go (p : Program) (e : Env) (s : State) (below : List Frame) (Q : Option Value → Heap → List Loc → Prop) (k n : Nat) (T : State) (g : JFrame) : Prop :=
  ∃ s₂ o, Steps p.tables e below (T.setTop g) s₂ ∧ s₂.status = .running ∧ Ended s₂ below o ∧ ∃ v L, o = .returned v ∧ Q v s₂.heap L ∧ FrameEnd s o s₂ L k n
theorem Go.st (st : ∀ t, Steps p.tables e below (T'.setTop g') t → Steps p.tables e below (T.setTop g) t) (G : Go p e s below Q k n T' g') : Go p e s below Q k n T g := by
  obtain ⟨t, o, h1, r⟩ := G
  exact ⟨t, o, st _ h1, r⟩
theorem Go.thru (st : Steps p.tables e below (T.setTop g) (T'.setTop g')) (G : Go p e s below Q k n T' g') : Go p e s below Q k n T g := Go.st (fun _ q => st.trans q) G
theorem Go.cast (q : g = g') (G : Go p e s below Q k n T g') : Go p e s below Q k n T g := q ▸ G
theorem Go.end_ (X : Stand p l e R s m args below meth c T locs cells slots) {v : Option Value} (hv : meth.sig.returnType = none → v = none) (hlk : meth.locks = false)
    (st : ∀ fs, (∀ (f : JFrame) (acts : List Action), f.method = m → f.locked = none → f.entered = [] → (doReturn e (T.setTop f) acts v).1 = T.setFrames fs) → Steps p.tables e below (T.setTop g) (T.setFrames fs))
    (hk : cells ≤ k) (hn : slots ≤ n) (hQ : Q v T.heap locs) : Go p e s below Q k n T g := by
  obtain ⟨fs, hr, hrun, hended, hW, hsame⟩ := X.leave (v := v) hv hlk
  exact ⟨_, _, st fs hr, hrun, hended, _, _, rfl, hQ, ⟨_, rfl⟩, hW, hsame.mono hk hn⟩
theorem own_some {t : FieldType} {v : Option Value} (h : meth.sig.returnType = some t) : meth.sig.returnType = none → v = none := fun q => by rw [h] at q; cases q
/-- ireturn of a boolean (also byte, char, short) -/
theorem Go.retN (X : Stand p l e R s m args below meth c T locs cells slots) (hx : p.tables.exec = Jvm.exec) (hlk : meth.locks = false) {t : FieldType} (hret : meth.sig.returnType = some t) (ht : t = .boolean ∨ t = .byte ∨ t = .char ∨ t = .short) {pc : Nat} {Ls : Array Slot} {z : Int32} {rest : List Value}
    (hd : decode c.code pc = .ok (.ireturn, 1)) (hk : cells ≤ k) (hn : slots ≤ n) (hQ : Q (some (.int (nar t z))) T.heap locs) : Go p e s below Q k n T (mkF m pc Ls (.int z :: rest)) :=
  Go.end_ X (own_some hret) hlk (fun _ hr => Jvm.RoadKit.retN X hx hret ht hd hr) hk hn hQ
theorem Go.retI (X : Stand p l e R s m args below meth c T locs cells slots) (hx : p.tables.exec = Jvm.exec) (hlk : meth.locks = false) (hret : meth.sig.returnType = some .int) {pc : Nat} {Ls : Array Slot} {z : Int32} {rest : List Value}
    (hd : decode c.code pc = .ok (.ireturn, 1)) (hk : cells ≤ k) (hn : slots ≤ n) (hQ : Q (some (.int z)) T.heap locs) : Go p e s below Q k n T (mkF m pc Ls (.int z :: rest)) :=
  Go.end_ X (own_some hret) hlk (fun _ hr => Jvm.RoadKit.retOut X hx hret rfl (Or.inl ⟨rfl, Or.inl rfl, _, rfl⟩) hd hr) hk hn hQ
theorem Go.retJ (X : Stand p l e R s m args below meth c T locs cells slots) (hx : p.tables.exec = Jvm.exec) (hlk : meth.locks = false) (hret : meth.sig.returnType = some .long) {pc : Nat} {Ls : Array Slot} {z : Int64} {rest : List Value}
    (hd : decode c.code pc = .ok (.lreturn, 1)) (hk : cells ≤ k) (hn : slots ≤ n) (hQ : Q (some (.long z)) T.heap locs) : Go p e s below Q k n T (mkF m pc Ls (.long z :: rest)) :=
  Go.end_ X (own_some hret) hlk (fun _ hr => Jvm.RoadKit.retOut X hx hret rfl (Or.inr (Or.inl ⟨rfl, rfl, _, rfl⟩)) hd hr) hk hn hQ
theorem own_narR {t : FieldType} {v : Value} (ht : t.isReference = true) (hv : v.isRef = true) : narrow t v = v := by
  rcases ref_cases hv with rfl | ⟨a, rfl⟩ <;> cases t <;> rfl
theorem Go.retA (X : Stand p l e R s m args below meth c T locs cells slots) (hx : p.tables.exec = Jvm.exec) (hlk : meth.locks = false) {t : FieldType} (hret : meth.sig.returnType = some t) (ht : t.isReference = true) {pc : Nat} {Ls : Array Slot} {v : Value} {rest : List Value} (hv : v.isRef = true)
    (hd : decode c.code pc = .ok (.areturn, 1)) (hk : cells ≤ k) (hn : slots ≤ n) (hQ : Q (some v) T.heap locs) : Go p e s below Q k n T (mkF m pc Ls (v :: rest)) :=
  Go.end_ X (own_some hret) hlk (fun _ hr => Jvm.RoadKit.retOut X hx hret (own_narR ht hv) (Or.inr (Or.inr (Or.inr (Or.inr ⟨rfl, ht, hv⟩)))) hd hr) hk hn hQ
theorem Go.retV (X : Stand p l e R s m args below meth c T locs cells slots) (hx : p.tables.exec = Jvm.exec) (hlk : meth.locks = false) (hret : meth.sig.returnType = none) {pc : Nat} {Ls : Array Slot}
    (hd : decode c.code pc = .ok (.return_, 1)) (hk : cells ≤ k) (hn : slots ≤ n) (hQ : Q none T.heap locs) : Go p e s below Q k n T (mkF m pc Ls []) :=
  Go.end_ X (fun _ => rfl) hlk (fun _ hr => X.returnOut hx hret hd hr) hk hn hQ
/-- a body's contract -/
def Meets (l : Launch) (Z : State) (y : MethodName) (bytes : ByteArray) (maxL : Nat) (ret : Option FieldType) (rm : Room) (ws : List Jvm.Cond) (as' : Array Value) (h : Heap) (Q : Option Value → Heap → List Loc → Prop) : Prop :=
  MetFree l y (head1 (Jvm.Cond.code y bytes maxL ret :: ws) rm) (fun a U => a = as' ∧ Z.Warmed39 U.vm ∧ U.heap = h) (fun _ _ _ _ _ => True) (fun _ U o U' => ∃ v L, o = .returned v ∧ Q v U'.heap L ∧ FrameEnd U o U' L rm.cells rm.slots)
theorem Meets.of {y : MethodName} {bytes : ByteArray} {maxL : Nat} {ret : Option FieldType} {rm : Room} {ws : List Jvm.Cond} {as' : Array Value} (hpl : plainFor y = true)
    (body : ∀ (p : Program) (e : Env) (s : State) (m : MethodId) (below : List Frame) (meth : Method) (c : Code) (s₁ : State), Stand p l e rm s m as' below meth c s₁ [] 0 0 → p.tables.exec = Jvm.exec → c.code = bytes → c.maxLocals = maxL → meth.sig.returnType = ret → meth.locks = false → meth.name = y.name → Z.Warmed39 s.vm → s.vm.findClass y.cls = some m.cls → s₁.heap = h →
      Go p e s below Q rm.cells rm.slots s₁ (entryFrame m as' maxL)) : Meets l Z y bytes maxL ret rm ws as' h Q := by
  unfold Meets
  refine MetFree.of_bodySF hpl hisR ?_
  intro p e s m args below meth c s₁ Bd hml0 hP hK
  obtain ⟨rfl, hZ, hh⟩ := hP
  exact body p e s m below meth c s₁ (Stand.of_body Bd) Bd.exec Bd.bytes hml0 Bd.returns Bd.notSynchronized (name_of_methodNamed Bd.named Bd.method).1 hZ (findClass_of_methodNamed Bd.named) (by rw [← hh, Bd.state]; rfl)
section Calls
variable {y z : MethodName} {own C : String} {index : Nat} {bytes : ByteArray} {maxL : Nat} {ret : Option FieldType} {rm : Room} {W : Nat} {Q0 : Option Value → Heap → List Loc → Prop} {b : Addr} {argsL rest : List Value} {pc : Nat} {Ls : Array Slot}
theorem Go.callS (X : Stand p l e R s m args below meth c T locs cells slots) (hx : p.tables.exec = Jvm.exec) (hZ : Z.Warmed39 s.vm) (hown : s.vm.findClass own = some m.cls)
    (w1 : (Jvm.Cond.methodLink own index y).before a0 Z = true) (w2 : (Jvm.Cond.static y).before a0 Z = true) (w3 : (Jvm.Cond.initialized y.cls).before a0 Z = true) (w4 : (Jvm.Cond.code y bytes maxL ret).before a0 Z = true)
    (hM : Meets l Z y bytes maxL ret rm [] argsL.toArray h Q0) (eT : T.heap = h) (hy : y.cls ≠ "java/lang/invoke/MethodHandle" ∧ y.cls ≠ "java/lang/invoke/VarHandle")
    (hf : rm.frames + 1 ≤ R.frames) (hl : W + (maxL + 11) + rm.locals ≤ R.locals) (hcl : cells + rm.cells ≤ R.cells) (hsl : slots + rm.slots ≤ R.slots)
    (hsize : Ls.size = c.maxLocals) (hlen : ∀ sig, parseMethodDescriptor y.desc = some sig → argsL.length = sig.parameters.length) (hW : 2 * 0 + (rest.map fun v => v.category).sum ≤ W)
    (hd : decode c.code pc = .ok (.invokestatic index, 3))
    (next : ∀ (T' : State) (v : Option Value) (L : List Loc), Stand p l e R s m args below meth c T' (locs ++ L) (cells + rm.cells) (slots + rm.slots) → Q0 v T'.heap L → Go p e s below Q k n T' (mkF m (pc + 3) Ls (v.toList ++ rest))) :
    Go p e s below Q k n T (mkF m pc Ls (argsL.reverse ++ rest)) := by
  obtain ⟨v, _, ⟨T', L', k', n'⟩, -, X', ⟨Lc, hQ, l', y', z'⟩, st⟩ := Jvm.LawKit.callS X hx (y := y) hown (mvT hZ w1) (mvT hZ w2) (mvT hZ w3) (mvT hZ w4) hy (backOf (W := W) hM hZ w4 w3 hf hl) (g := mkF m pc Ls (argsL.reverse ++ rest)) rfl hsize (argsL := argsL) (rest := rest) hlen rfl hW hd (fun _ _ => ⟨rfl, eT, hcl, hsl⟩)
  dsimp only [Pt.U, Pt.locs, Pt.cells, Pt.slots] at X' l' y' z' st hQ
  subst l' y' z'
  exact Go.st st (next T' v Lc X' hQ)
theorem Go.callV (X : Stand p l e R s m args below meth c T locs cells slots) (hx : p.tables.exec = Jvm.exec) (hZ : Z.Warmed39 s.vm) (hown : s.vm.findClass own = some m.cls)
    (w1 : (Jvm.Cond.methodLink own index y).before a0 Z = true) (w2 : (Jvm.Cond.declares y).before a0 Z = true) (hnf : NotFace s y) (w3 : (Jvm.Cond.selects C y z).before a0 Z = true) (w4 : (Jvm.Cond.instanceMethod z).before a0 Z = true) (w5 : (Jvm.Cond.initialized z.cls).before a0 Z = true) (w6 : (Jvm.Cond.code z bytes maxL ret).before a0 Z = true)
    (hM : Meets l Z z bytes maxL ret rm [] (.ref b :: argsL).toArray h Q0) (eT : T.heap = h) (E : Exa Z h b C) (hy : y.cls ≠ "java/lang/invoke/MethodHandle" ∧ y.cls ≠ "java/lang/invoke/VarHandle")
    (hf : rm.frames + 1 ≤ R.frames) (hl : W + (maxL + 11) + rm.locals ≤ R.locals) (hcl : cells + rm.cells ≤ R.cells) (hsl : slots + rm.slots ≤ R.slots)
    (hsize : Ls.size = c.maxLocals) (hlen : ∀ sig, parseMethodDescriptor y.desc = some sig → argsL.length = sig.parameters.length) (hW : 2 * 0 + (rest.map fun v => v.category).sum ≤ W)
    (hd : decode c.code pc = .ok (.invokevirtual index, 3))
    (next : ∀ (T' : State) (v : Option Value) (L : List Loc), Stand p l e R s m args below meth c T' (locs ++ L) (cells + rm.cells) (slots + rm.slots) → Q0 v T'.heap L → Go p e s below Q k n T' (mkF m (pc + 3) Ls (v.toList ++ rest))) :
    Go p e s below Q k n T (mkF m pc Ls (argsL.reverse ++ .ref b :: rest)) := by
  obtain ⟨cq, kq, qa, qb, qc⟩ := isOf hZ eT E
  obtain ⟨v, _, ⟨T', L', k', n'⟩, -, X', ⟨Lc, hQ, l', y', z'⟩, st⟩ := X.virtualBack hx (y := y) (z := z) hown (mvT hZ w1) (mvT hZ w2) hnf (mvT hZ w3) (mvT hZ w4) hy (backOf (W := W) hM hZ w6 w5 hf hl) qa qc (g := mkF m pc Ls (argsL.reverse ++ .ref b :: rest)) rfl hsize (Steps.refl _) (argsL := argsL) (rest := rest) hlen rfl hW hd (fun _ _ => ⟨rfl, eT, hcl, hsl⟩)
  dsimp only [Pt.U, Pt.locs, Pt.cells, Pt.slots] at X' l' y' z' st hQ
  subst l' y' z'
  exact Go.thru st (next T' v Lc X' hQ)
/-- an inherited method, named through the subclass -/
theorem Go.callU {owner : String} {x' : MethodName} (X : Stand p l e R s m args below meth c T locs cells slots) (hx : p.tables.exec = Jvm.exec) (hZ : Z.Warmed39 s.vm) (hown : s.vm.findClass own = some m.cls)
    (w1 : (Jvm.Cond.methodLink own index x').before a0 Z = true) (w2 : (Jvm.Cond.sameMethod x'.cls owner x'.name x'.desc).before a0 Z = true) (w3 : (Jvm.Cond.declares ⟨owner, x'.name, x'.desc⟩).before a0 Z = true) (w4 : (Jvm.Cond.selects C x' z).before a0 Z = true) (w5 : (Jvm.Cond.instanceMethod z).before a0 Z = true) (w6 : (Jvm.Cond.initialized z.cls).before a0 Z = true) (w7 : (Jvm.Cond.code z bytes maxL ret).before a0 Z = true)
    (hM : Meets l Z z bytes maxL ret rm [] (.ref b :: argsL).toArray h Q0) (eT : T.heap = h) (E : Exa Z h b C) (hy : owner ≠ "java/lang/invoke/MethodHandle" ∧ owner ≠ "java/lang/invoke/VarHandle")
    (hf : rm.frames + 1 ≤ R.frames) (hl : W + (maxL + 11) + rm.locals ≤ R.locals) (hcl : cells + rm.cells ≤ R.cells) (hsl : slots + rm.slots ≤ R.slots)
    (hsize : Ls.size = c.maxLocals) (hlen : ∀ sig, parseMethodDescriptor x'.desc = some sig → argsL.length = sig.parameters.length) (hW : 2 * 0 + (rest.map fun v => v.category).sum ≤ W)
    (hd : decode c.code pc = .ok (.invokevirtual index, 3))
    (next : ∀ (T' : State) (v : Option Value) (L : List Loc), Stand p l e R s m args below meth c T' (locs ++ L) (cells + rm.cells) (slots + rm.slots) → Q0 v T'.heap L → Go p e s below Q k n T' (mkF m (pc + 3) Ls (v.toList ++ rest))) :
    Go p e s below Q k n T (mkF m pc Ls (argsL.reverse ++ .ref b :: rest)) := by
  obtain ⟨cq, kq, qa, qb, qc⟩ := isOf hZ eT E
  obtain ⟨v, _, ⟨T', L', k', n'⟩, -, X', ⟨Lc, hQ, l', y', z'⟩, st⟩ := X.virtualBackUp hx (x := x') (y := z) hown (mvT hZ w1) (mvT hZ w2) (mvT hZ w3) hy (mvT hZ w4) (mvT hZ w5) (backOf (W := W) hM hZ w7 w6 hf hl) qa qc (g := mkF m pc Ls (argsL.reverse ++ .ref b :: rest)) rfl hsize (Steps.refl _) (argsL := argsL) (rest := rest) hlen rfl hW hd (fun _ _ => ⟨rfl, eT, hcl, hsl⟩)
  dsimp only [Pt.U, Pt.locs, Pt.cells, Pt.slots] at X' l' y' z' st hQ
  subst l' y' z'
  exact Go.thru st (next T' v Lc X' hQ)
/-- a constructor -/
theorem Go.callC (X : Stand p l e R s m args below meth c T locs cells slots) (hx : p.tables.exec = Jvm.exec) (hZ : Z.Warmed39 s.vm) (hy1 : y.name = "<init>") (hown : s.vm.findClass own = some m.cls)
    (w1 : (Jvm.Cond.methodLink own index y).before a0 Z = true) (w2 : (Jvm.Cond.instanceMethod y).before a0 Z = true) (w3 : (Jvm.Cond.initialized y.cls).before a0 Z = true) (w4 : (Jvm.Cond.code y bytes maxL none).before a0 Z = true)
    (hM : Meets l Z y bytes maxL none rm [] (.ref b :: argsL).toArray h Q0) (eT : T.heap = h) (hy : y.cls ≠ "java/lang/invoke/MethodHandle" ∧ y.cls ≠ "java/lang/invoke/VarHandle")
    (hf : rm.frames + 1 ≤ R.frames) (hl : W + (maxL + 11) + rm.locals ≤ R.locals) (hcl : cells + rm.cells ≤ R.cells) (hsl : slots + rm.slots ≤ R.slots)
    (hsize : Ls.size = c.maxLocals) (hlen : ∀ sig, parseMethodDescriptor y.desc = some sig → argsL.length = sig.parameters.length) (hW : 2 * 0 + (rest.map fun v => v.category).sum ≤ W)
    (hd : decode c.code pc = .ok (.invokespecial index, 3))
    (next : ∀ (T' : State) (v : Option Value) (L : List Loc), Stand p l e R s m args below meth c T' (locs ++ L) (cells + rm.cells) (slots + rm.slots) → Q0 v T'.heap L → Go p e s below Q k n T' (mkF m (pc + 3) Ls (v.toList ++ rest))) :
    Go p e s below Q k n T (mkF m pc Ls (argsL.reverse ++ .ref b :: rest)) := by
  obtain ⟨v, _, ⟨T', L', k', n'⟩, -, X', ⟨Lc, hQ, l', y', z'⟩, st⟩ := X.specialBack hx (y := y) hy1 hown (mvT hZ w1) (mvT hZ w2) (mvT hZ w4) hy (backOf (W := W) hM hZ w4 w3 hf hl) (g := mkF m pc Ls (argsL.reverse ++ .ref b :: rest)) rfl hsize (Steps.refl _) (a := b) (argsL := argsL) (rest := rest) hlen rfl hW hd (fun _ _ => ⟨rfl, eT, hcl, hsl⟩)
  dsimp only [Pt.U, Pt.locs, Pt.cells, Pt.slots] at X' l' y' z' st hQ
  subst l' y' z'
  exact Go.thru st (next T' v Lc X' hQ)
end Calls
end OwnKit
section OwnExt
variable {Z : State} {h h' h'' : Heap} {a : Addr} {sl : Nat} {v : Value}
theorem own_extR (h : Heap) : Ext h h := ⟨Nat.le_refl _, fun _ _ q => q⟩
theorem own_extE (E : Ext h h') (E' : Ext h' h'') : Ext h h'' := ⟨Nat.le_trans E.1 E'.1, fun x c q => E'.2 x c (E.2 x c q)⟩
theorem own_extW (E : Ext h h') (W : Wr h' h'' a sl v) (q : h.size ≤ a) : Ext h h'' := by
  refine ⟨by rw [W.size]; exact E.1, fun x c r => ?_⟩
  have hlt := (Array.getElem?_eq_some_iff.mp r).1
  obtain ⟨c', e1, -, -, -, e5, -⟩ := wr_at W (E.2 x c r)
  rw [e1, e5 (Nat.ne_of_lt (Nat.lt_of_lt_of_le hlt q))]
theorem own_extK {ws : List Addr} (E : Ext h h') (K : Keep h' h'' ws) (q : ∀ x ∈ ws, h.size ≤ x) : Ext h h'' :=
  ⟨Nat.le_trans E.1 K.1, fun x c r => K.2.1 x c (E.2 x c r) fun z => absurd (Array.getElem?_eq_some_iff.mp r).1 (Nat.not_lt.mpr (q x z))⟩
end OwnExt
theorem own_modN {p i n : Int32} (hn : 0 < n.toInt) (hi : i = (p &&& (2147483647 : Int32)) % n) : ∃ j : Nat, i.toInt = j ∧ (j : Int) < n.toInt ∧ i.toNatClampNeg = j ∧ ¬ i < 0 ∧ i < n := by
  have h1 : (p &&& (2147483647 : Int32)).toInt = p.toInt % (2 ^ 31 : Nat) := c_mask p 2147483647 31 (by decide) (by decide)
  have h2 : i.toInt = (p &&& (2147483647 : Int32)).toInt.tmod n.toInt := by rw [hi, Int32.toInt_mod]
  have h0 : 0 ≤ (p &&& (2147483647 : Int32)).toInt := by rw [h1]; omega
  rw [Int.tmod_eq_emod_of_nonneg h0] at h2
  have h3 : 0 ≤ i.toInt := by rw [h2]; exact Int.emod_nonneg _ (by omega)
  have h4 : i.toInt < n.toInt := by rw [h2]; exact Int.emod_lt_of_pos _ hn
  have z0 : (0 : Int32).toInt = 0 := rfl
  have h5 : ¬ i < 0 := by rw [Int32.lt_iff_toInt_lt]; omega
  refine ⟨i.toNatClampNeg, nat_of h5, by rw [← nat_of h5]; exact h4, rfl, h5, ?_⟩
  rw [Int32.lt_iff_toInt_lt]; exact h4
theorem own_nat {i c : Int32} {j k : Nat} (hi : i.toInt = j) (hc : c.toInt = k) (e : i = c) : j = k := by subst e; omega
theorem own_natN {i c : Int32} {j k : Nat} (hi : i.toInt = j) (hc : c.toInt = k) (e : ¬ i = c) : j ≠ k := fun q => e (Int32.toInt_inj.mp (by omega))

theorem own_eqI {args : Array Value} {Z : State} {t : Term} {i : Int32} (h : (Jvm.Cond.eq t (.int i)).value args Z none Z [] = some true) : t.eval args Z none [] Z = some (.int i) := by
  simp only [Cond.value, Term.eval] at h
  cases ht : t.eval args Z none [] Z with
  | none => simp [ht] at h
  | some x => cases x <;> simp_all
theorem own_const {C nm d : String} {i : Int32} {args : Array Value} {Z : State} (w1 : (Jvm.Cond.exactly (.static C nm d) C).value args Z none Z [] = some true)
    (w2 : (Jvm.Cond.eq (.field (.static C nm d) "java/lang/Enum" "ordinal" "I") (.int i)).value args Z none Z [] = some true) (hi : (Jvm.Cond.initialized C).before args Z = true) (hl : (Jvm.Cond.laysStatic C nm d).before args Z = true) :
    ∃ r, (Term.static C nm d).eval args Z none [] Z = some (.ref r) ∧ Sta Z Z.heap C nm d (.ref r) ∧ Exa Z Z.heap r C ∧ Fld Z Z.heap r "java/lang/Enum" "ordinal" "I" (.int i) := by
  obtain ⟨r, er⟩ := exa_v w1
  exact ⟨r, er, Sta.start er (Or.inr ⟨hi, hl⟩), Exa.start er w1, Fld.start (by rw [← fld_at er]; exact own_eqI w2)⟩

def nms : List String := ["ANY", "OBJECT", "ARRAY", "NUMBER", "INTEGER", "BOOLEAN", "STRING", "DATE_ONLY", "TIME_ONLY", "DATETIME_ONLY", "DATETIME", "FILE", "NIL", "SCHEMA"]
def ords : List Int32 := [0, 1, 2, 3, 4, 5, 6, 7, 8, 9, 10, 11, 12, 13]
/-- the enum's constants, in a heap: each static holds its own object, of exactly that class, with its ordinal -/
def Cs (Z : State) (h : Heap) (r : Nat → Addr) : Prop := ∀ (i : Nat) (nm : String) (o : Int32), nms[i]? = some nm → ords[i]? = some o → Sta Z h "com/example/restweave/restweave/raml/Family" nm "Lcom/example/restweave/restweave/raml/Family;" (.ref (r i)) ∧ Exa Z h (r i) "com/example/restweave/restweave/raml/Family" ∧ Fld Z h (r i) "java/lang/Enum" "ordinal" "I" (.int o)
theorem Cs.ne {Z : State} {h : Heap} {r : Nat → Addr} (C : Cs Z h r) {i j : Nat} {n1 n2 : String} {o1 o2 : Int32} (a1 : nms[i]? = some n1) (a2 : ords[i]? = some o1) (b1 : nms[j]? = some n2) (b2 : ords[j]? = some o2) (hne : o1 ≠ o2) : ¬ (r i = r j) := (C i n1 o1 a1 a2).2.2.ne (C j n2 o2 b1 b2).2.2 (fun q => hne (Value.int.inj q))
theorem Cs.ext {Z : State} {h h' : Heap} {r : Nat → Addr} (C : Cs Z h r) (E : Ext h h') : Cs Z h' r := fun i nm o a b => ⟨(C i nm o a b).1.ext E, (C i nm o a b).2.1.ext E, (C i nm o a b).2.2.ext E⟩
theorem Cs.lt {Z : State} {h : Heap} {r : Nat → Addr} (C : Cs Z h r) {i : Nat} {nm : String} {o : Int32} (a : nms[i]? = some nm) (b : ords[i]? = some o) : r i < h.size := (C i nm o a b).2.1.lt
theorem names_ok : ∀ i, i < 14 → nms[i]? = some (nms.getD i "") ∧ ords[i]? = some (ords.getD i 0) := by decide +kernel
theorem ords_ok : ∀ i, i < 14 → ∀ j, j < 14 → ords.getD i 0 = ords.getD j 0 → i = j := by decide +kernel
theorem Cs.inj {Z : State} {h : Heap} {r : Nat → Addr} (C : Cs Z h r) {i j : Nat} (hi : i < 14) (hj : j < 14) (e : r i = r j) : i = j := by
  by_cases q : ords.getD i 0 = ords.getD j 0
  · exact ords_ok i hi j hj q
  · exact absurd e (C.ne (names_ok i hi).1 (names_ok i hi).2 (names_ok j hj).1 (names_ok j hj).2 q)
theorem Cs.exa {Z : State} {h : Heap} {r : Nat → Addr} (C : Cs Z h r) {i : Nat} (hi : i < 14) : Exa Z h (r i) "com/example/restweave/restweave/raml/Family" := (C i _ _ (names_ok i hi).1 (names_ok i hi).2).2.1
theorem tab (r : Nat → Addr) : ∀ j, j < 14 → [Value.ref (r 0), Value.ref (r 1), Value.ref (r 2), Value.ref (r 3), Value.ref (r 4), Value.ref (r 5), Value.ref (r 6), Value.ref (r 7), Value.ref (r 8), Value.ref (r 9), Value.ref (r 10), Value.ref (r 11), Value.ref (r 12), Value.ref (r 13)].getD j Value.null = .ref (r j)
  | 0, _ => rfl
  | 1, _ => rfl
  | 2, _ => rfl
  | 3, _ => rfl
  | 4, _ => rfl
  | 5, _ => rfl
  | 6, _ => rfl
  | 7, _ => rfl
  | 8, _ => rfl
  | 9, _ => rfl
  | 10, _ => rfl
  | 11, _ => rfl
  | 12, _ => rfl
  | 13, _ => rfl
  | k + 14, q => absurd q (by omega)

theorem own_fldN {args : Array Value} {Z : State} {t : Term} (h : (Jvm.Cond.eq t .null).value args Z none Z [] = some true) : t.eval args Z none [] Z = some .null := null_v h
theorem d1_0 : decode method_2_code 0 = .ok (.aload_n 0, 1) := by decide +kernel
theorem d1_1 : decode method_2_code 1 = .ok (.aload_n 1, 1) := by decide +kernel
theorem d1_2 : decode method_2_code 2 = .ok (.if_acmp .eq 24, 3) := by decide +kernel
theorem d1_5 : decode method_2_code 5 = .ok (.aload_n 1, 1) := by decide +kernel
theorem d1_6 : decode method_2_code 6 = .ok (.getstatic 7, 3) := by decide +kernel
theorem d1_9 : decode method_2_code 9 = .ok (.if_acmp .eq 17, 3) := by decide +kernel
theorem d1_12 : decode method_2_code 12 = .ok (.aload_n 0, 1) := by decide +kernel
theorem d1_13 : decode method_2_code 13 = .ok (.getstatic 13, 3) := by decide +kernel
theorem d1_16 : decode method_2_code 16 = .ok (.if_acmp .ne 14, 3) := by decide +kernel
theorem d1_19 : decode method_2_code 19 = .ok (.aload_n 1, 1) := by decide +kernel
theorem d1_20 : decode method_2_code 20 = .ok (.getstatic 16, 3) := by decide +kernel
theorem d1_23 : decode method_2_code 23 = .ok (.if_acmp .ne 7, 3) := by decide +kernel
theorem d1_26 : decode method_2_code 26 = .ok (.iconst 1, 1) := by decide +kernel
theorem d1_27 : decode method_2_code 27 = .ok (.goto 4, 3) := by decide +kernel
theorem d1_30 : decode method_2_code 30 = .ok (.iconst 0, 1) := by decide +kernel
theorem d1_31 : decode method_2_code 31 = .ok (.ireturn, 1) := by decide +kernel
theorem ef_h (m : MethodId) (x0 : Addr) (x1 : Addr) : entryFrame m #[(.ref x0), (.ref x1)] 2 = mkF m 0 #[.val (.ref x0), .val (.ref x1)] [] := by first | (simp [entryFrame, mkF, argsToLocals, Value.category]; done) | rfl
set_option maxRecDepth 65536 in
set_option maxHeartbeats 40000000 in
theorem rmh (l : Launch) (Z : State) (a0 : Array Value) (hw : ∀ d ∈ tables_1, d.before a0 Z = true) (ws : List Jvm.Cond) (a b : Addr) (v0 : Int32) (h0 : Heap) (n0 : Nat) (r : Nat → Addr) (C0 : Cs Z h0 r) (hv : ((a = b ∨ b = r 0 ∨ (a = r 4 ∧ b = r 3)) → v0 = 1) ∧ (¬ (a = b ∨ b = r 0 ∨ (a = r 4 ∧ b = r 3)) → v0 = 0)) :
    Meets l Z (⟨"com/example/restweave/restweave/raml/FamilyCombinedPinLaw", "holds", "(Lcom/example/restweave/restweave/raml/Family;Lcom/example/restweave/restweave/raml/Family;)Z"⟩ : MethodName) method_2_code 2 (some .boolean) ({ frames := 0, cells := 0, slots := 0, locals := 0 } : Room) ws #[(.ref a), (.ref b)] h0 (fun v h L => v = some (.int v0) ∧ Fr n0 L ∧ h = h0) := by
  refine Meets.of (plainFor_of_name (by first | (simp [plainName, overriddenIn]; done) | decide +kernel : plainName "com/example/restweave/restweave/raml/FamilyCombinedPinLaw" = true)) ?_
  intro p e s m below meth c s₁ X0 hx hby hml hret hlk hnm hZ hown e0
  replace hown : s.vm.findClass "com/example/restweave/restweave/raml/FamilyCombinedPinLaw" = some m.cls := hown
  have N0 := Fr.nil n0
  refine Go.cast (ef_h m a b) ?_
  show Go p e s below _ _ _ s₁ (mkF m 0 #[.val (.ref a), .val (.ref b)] [])
  refine Go.st (fun _ kont => XS.aloadN X0.here hx rfl (hb hby d1_0) rfl rfl kont) ?_
  show Go p e s below _ _ _ s₁ (mkF m 1 #[.val (.ref a), .val (.ref b)] [(.ref a)])
  refine Go.st (fun _ kont => XS.aloadN X0.here hx rfl (hb hby d1_1) rfl rfl kont) ?_
  show Go p e s below _ _ _ s₁ (mkF m 2 #[.val (.ref a), .val (.ref b)] [(.ref b), (.ref a)])
  by_cases hc2_1 : a = b
  · --
    refine Go.st (fun _ kont => Jvm.RoadKit.acmp (g := (mkF m 2 #[.val (.ref a), .val (.ref b)] [(.ref b), (.ref a)])) X0 hx rfl rfl rfl (pc0 := 2) (pc' := 26) (same := true) rfl (hb hby d1_2) rfl (decide_eq_true (congrArg Value.ref hc2_1)) (by decide) (by decide) kont) ?_
    show Go p e s below _ _ _ s₁ (mkF m 26 #[.val (.ref a), .val (.ref b)] [])
    refine Go.st (fun _ kont => XT.iconstV X0.here hx rfl (1 : Int32) (hb hby d1_26) (by decide) kont) ?_
    show Go p e s below _ _ _ s₁ (mkF m 27 #[.val (.ref a), .val (.ref b)] [(.int (1 : Int32))])
    refine Go.st (fun _ kont => XS.goto X0.here hx rfl (pc0 := 27) (pc' := 31) rfl (hb hby d1_27) (by decide) (by decide) kont) ?_
    show Go p e s below _ _ _ s₁ (mkF m 31 #[.val (.ref a), .val (.ref b)] [(.int (1 : Int32))])
    exact Go.retN X0 hx hlk hret (by simp) (hb hby d1_31) (by decide) (by decide) ⟨by rw [hv.1 (Or.inl hc2_1)]; rfl, N0, e0⟩
  · --
    refine Go.st (fun _ kont => Jvm.RoadKit.acmp (g := (mkF m 2 #[.val (.ref a), .val (.ref b)] [(.ref b), (.ref a)])) X0 hx rfl rfl rfl (pc0 := 2) (pc' := 5) (same := false) rfl (hb hby d1_2) rfl (decide_eq_false fun q => hc2_1 (Value.ref.inj q)) (by decide) (by decide) kont) ?_
    show Go p e s below _ _ _ s₁ (mkF m 5 #[.val (.ref a), .val (.ref b)] [])
    refine Go.st (fun _ kont => XS.aloadN X0.here hx rfl (hb hby d1_5) rfl rfl kont) ?_
    show Go p e s below _ _ _ s₁ (mkF m 6 #[.val (.ref a), .val (.ref b)] [(.ref b)])
    obtain ⟨T2, X2, e2, st2⟩ := getS2 X0 hx hZ hown (host := "") (Or.inl (hw _ (List.mem_of_getElem? (i := 2) rfl))) Via.refl e0 (C0 0 "ANY" 0 rfl rfl).1 (g := (mkF m 6 #[.val (.ref a), .val (.ref b)] [(.ref b)])) rfl (hb hby d1_6)
    refine Go.st st2 ?_
    show Go p e s below _ _ _ T2 (mkF m 9 #[.val (.ref a), .val (.ref b)] [(.ref (r 0)), (.ref b)])
    by_cases hc9_3 : b = (r 0)
    · --
      refine Go.st (fun _ kont => Jvm.RoadKit.acmp (g := (mkF m 9 #[.val (.ref a), .val (.ref b)] [(.ref (r 0)), (.ref b)])) X2 hx rfl rfl rfl (pc0 := 9) (pc' := 26) (same := true) rfl (hb hby d1_9) rfl (decide_eq_true (congrArg Value.ref hc9_3)) (by decide) (by decide) kont) ?_
      show Go p e s below _ _ _ T2 (mkF m 26 #[.val (.ref a), .val (.ref b)] [])
      refine Go.st (fun _ kont => XT.iconstV X2.here hx rfl (1 : Int32) (hb hby d1_26) (by decide) kont) ?_
      show Go p e s below _ _ _ T2 (mkF m 27 #[.val (.ref a), .val (.ref b)] [(.int (1 : Int32))])
      refine Go.st (fun _ kont => XS.goto X2.here hx rfl (pc0 := 27) (pc' := 31) rfl (hb hby d1_27) (by decide) (by decide) kont) ?_
      show Go p e s below _ _ _ T2 (mkF m 31 #[.val (.ref a), .val (.ref b)] [(.int (1 : Int32))])
      exact Go.retN X2 hx hlk hret (by simp) (hb hby d1_31) (by decide) (by decide) ⟨by rw [hv.1 (Or.inr (Or.inl hc9_3))]; rfl, N0, e2⟩
    · --
      refine Go.st (fun _ kont => Jvm.RoadKit.acmp (g := (mkF m 9 #[.val (.ref a), .val (.ref b)] [(.ref (r 0)), (.ref b)])) X2 hx rfl rfl rfl (pc0 := 9) (pc' := 12) (same := false) rfl (hb hby d1_9) rfl (decide_eq_false fun q => hc9_3 (Value.ref.inj q)) (by decide) (by decide) kont) ?_
      show Go p e s below _ _ _ T2 (mkF m 12 #[.val (.ref a), .val (.ref b)] [])
      refine Go.st (fun _ kont => XS.aloadN X2.here hx rfl (hb hby d1_12) rfl rfl kont) ?_
      show Go p e s below _ _ _ T2 (mkF m 13 #[.val (.ref a), .val (.ref b)] [(.ref a)])
      obtain ⟨T4, X4, e4, st4⟩ := getS2 X2 hx hZ hown (host := "") (Or.inl (hw _ (List.mem_of_getElem? (i := 12) rfl))) Via.refl e2 (C0 4 "INTEGER" 4 rfl rfl).1 (g := (mkF m 13 #[.val (.ref a), .val (.ref b)] [(.ref a)])) rfl (hb hby d1_13)
      refine Go.st st4 ?_
      show Go p e s below _ _ _ T4 (mkF m 16 #[.val (.ref a), .val (.ref b)] [(.ref (r 4)), (.ref a)])
      by_cases hc16_5 : a = (r 4)
      · --
        refine Go.st (fun _ kont => Jvm.RoadKit.acmp (g := (mkF m 16 #[.val (.ref a), .val (.ref b)] [(.ref (r 4)), (.ref a)])) X4 hx rfl rfl rfl (pc0 := 16) (pc' := 19) (same := true) rfl (hb hby d1_16) rfl (decide_eq_true (congrArg Value.ref hc16_5)) (by decide) (by decide) kont) ?_
        show Go p e s below _ _ _ T4 (mkF m 19 #[.val (.ref a), .val (.ref b)] [])
        refine Go.st (fun _ kont => XS.aloadN X4.here hx rfl (hb hby d1_19) rfl rfl kont) ?_
        show Go p e s below _ _ _ T4 (mkF m 20 #[.val (.ref a), .val (.ref b)] [(.ref b)])
        obtain ⟨T6, X6, e6, st6⟩ := getS2 X4 hx hZ hown (host := "") (Or.inl (hw _ (List.mem_of_getElem? (i := 10) rfl))) Via.refl e4 (C0 3 "NUMBER" 3 rfl rfl).1 (g := (mkF m 20 #[.val (.ref a), .val (.ref b)] [(.ref b)])) rfl (hb hby d1_20)
        refine Go.st st6 ?_
        show Go p e s below _ _ _ T6 (mkF m 23 #[.val (.ref a), .val (.ref b)] [(.ref (r 3)), (.ref b)])
        by_cases hc23_7 : b = (r 3)
        · --
          refine Go.st (fun _ kont => Jvm.RoadKit.acmp (g := (mkF m 23 #[.val (.ref a), .val (.ref b)] [(.ref (r 3)), (.ref b)])) X6 hx rfl rfl rfl (pc0 := 23) (pc' := 26) (same := true) rfl (hb hby d1_23) rfl (decide_eq_true (congrArg Value.ref hc23_7)) (by decide) (by decide) kont) ?_
          show Go p e s below _ _ _ T6 (mkF m 26 #[.val (.ref a), .val (.ref b)] [])
          refine Go.st (fun _ kont => XT.iconstV X6.here hx rfl (1 : Int32) (hb hby d1_26) (by decide) kont) ?_
          show Go p e s below _ _ _ T6 (mkF m 27 #[.val (.ref a), .val (.ref b)] [(.int (1 : Int32))])
          refine Go.st (fun _ kont => XS.goto X6.here hx rfl (pc0 := 27) (pc' := 31) rfl (hb hby d1_27) (by decide) (by decide) kont) ?_
          show Go p e s below _ _ _ T6 (mkF m 31 #[.val (.ref a), .val (.ref b)] [(.int (1 : Int32))])
          exact Go.retN X6 hx hlk hret (by simp) (hb hby d1_31) (by decide) (by decide) ⟨by rw [hv.1 (Or.inr (Or.inr ⟨hc16_5, hc23_7⟩))]; rfl, N0, e6⟩
        · --
          refine Go.st (fun _ kont => Jvm.RoadKit.acmp (g := (mkF m 23 #[.val (.ref a), .val (.ref b)] [(.ref (r 3)), (.ref b)])) X6 hx rfl rfl rfl (pc0 := 23) (pc' := 30) (same := false) rfl (hb hby d1_23) rfl (decide_eq_false fun q => hc23_7 (Value.ref.inj q)) (by decide) (by decide) kont) ?_
          show Go p e s below _ _ _ T6 (mkF m 30 #[.val (.ref a), .val (.ref b)] [])
          refine Go.st (fun _ kont => XT.iconstV X6.here hx rfl (0 : Int32) (hb hby d1_30) (by decide) kont) ?_
          show Go p e s below _ _ _ T6 (mkF m 31 #[.val (.ref a), .val (.ref b)] [(.int (0 : Int32))])
          exact Go.retN X6 hx hlk hret (by simp) (hb hby d1_31) (by decide) (by decide) ⟨by rw [hv.2 (fun q => q.elim hc2_1 (fun q => q.elim hc9_3 (fun q => hc23_7 q.2)))]; rfl, N0, e6⟩
      · --
        refine Go.st (fun _ kont => Jvm.RoadKit.acmp (g := (mkF m 16 #[.val (.ref a), .val (.ref b)] [(.ref (r 4)), (.ref a)])) X4 hx rfl rfl rfl (pc0 := 16) (pc' := 30) (same := false) rfl (hb hby d1_16) rfl (decide_eq_false fun q => hc16_5 (Value.ref.inj q)) (by decide) (by decide) kont) ?_
        show Go p e s below _ _ _ T4 (mkF m 30 #[.val (.ref a), .val (.ref b)] [])
        refine Go.st (fun _ kont => XT.iconstV X4.here hx rfl (0 : Int32) (hb hby d1_30) (by decide) kont) ?_
        show Go p e s below _ _ _ T4 (mkF m 31 #[.val (.ref a), .val (.ref b)] [(.int (0 : Int32))])
        exact Go.retN X4 hx hlk hret (by simp) (hb hby d1_31) (by decide) (by decide) ⟨by rw [hv.2 (fun q => q.elim hc2_1 (fun q => q.elim hc9_3 (fun q => hc16_5 q.1)))]; rfl, N0, e4⟩
theorem d7_0 : decode prog_24_method_7_code 0 = .ok (.aload_n 0, 1) := by decide +kernel
theorem d7_1 : decode prog_24_method_7_code 1 = .ok (.getstatic 16, 3) := by decide +kernel
theorem d7_4 : decode prog_24_method_7_code 4 = .ok (.if_acmp .ne 9, 3) := by decide +kernel
theorem d7_7 : decode prog_24_method_7_code 7 = .ok (.getstatic 13, 3) := by decide +kernel
theorem d7_10 : decode prog_24_method_7_code 10 = .ok (.goto 4, 3) := by decide +kernel
theorem d7_13 : decode prog_24_method_7_code 13 = .ok (.aload_n 0, 1) := by decide +kernel
theorem d7_14 : decode prog_24_method_7_code 14 = .ok (.areturn, 1) := by decide +kernel
theorem ef_f (m : MethodId) (x0 : Addr) : entryFrame m #[(.ref x0)] 1 = mkF m 0 #[.val (.ref x0)] [] := by first | (simp [entryFrame, mkF, argsToLocals, Value.category]; done) | rfl
set_option maxRecDepth 65536 in
set_option maxHeartbeats 40000000 in
theorem rmf (l : Launch) (Z : State) (a0 : Array Value) (hw : ∀ d ∈ tables_1, d.before a0 Z = true) (ws : List Jvm.Cond) (b g : Addr) (h0 : Heap) (n0 : Nat) (r : Nat → Addr) (C0 : Cs Z h0 r) (hv : (b = r 4 → g = r 3) ∧ (¬ b = r 4 → g = b)) :
    Meets l Z (⟨"com/example/restweave/restweave/raml/Family", "facets", "()Lcom/example/restweave/restweave/raml/Family;"⟩ : MethodName) prog_24_method_7_code 1 (some (.object "com/example/restweave/restweave/raml/Family")) ({ frames := 0, cells := 0, slots := 0, locals := 0 } : Room) ws #[(.ref b)] h0 (fun v h L => v = some (.ref g) ∧ Fr n0 L ∧ h = h0) := by
  refine Meets.of (plainFor_of_name (by first | (simp [plainName, overriddenIn]; done) | decide +kernel : plainName "com/example/restweave/restweave/raml/Family" = true)) ?_
  intro p e s m below meth c s₁ X0 hx hby hml hret hlk hnm hZ hown e0
  replace hown : s.vm.findClass "com/example/restweave/restweave/raml/Family" = some m.cls := hown
  have N0 := Fr.nil n0
  refine Go.cast (ef_f m b) ?_
  show Go p e s below _ _ _ s₁ (mkF m 0 #[.val (.ref b)] [])
  refine Go.st (fun _ kont => XS.aloadN X0.here hx rfl (hb hby d7_0) rfl rfl kont) ?_
  show Go p e s below _ _ _ s₁ (mkF m 1 #[.val (.ref b)] [(.ref b)])
  obtain ⟨T1, X1, e1, st1⟩ := getS2 X0 hx hZ hown (host := "") (Or.inl (hw _ (List.mem_of_getElem? (i := 66) rfl))) Via.refl e0 (C0 4 "INTEGER" 4 rfl rfl).1 (g := (mkF m 1 #[.val (.ref b)] [(.ref b)])) rfl (hb hby d7_1)
  refine Go.st st1 ?_
  show Go p e s below _ _ _ T1 (mkF m 4 #[.val (.ref b)] [(.ref (r 4)), (.ref b)])
  by_cases hc4_2 : b = (r 4)
  · --
    refine Go.st (fun _ kont => Jvm.RoadKit.acmp (g := (mkF m 4 #[.val (.ref b)] [(.ref (r 4)), (.ref b)])) X1 hx rfl rfl rfl (pc0 := 4) (pc' := 7) (same := true) rfl (hb hby d7_4) rfl (decide_eq_true (congrArg Value.ref hc4_2)) (by decide) (by decide) kont) ?_
    show Go p e s below _ _ _ T1 (mkF m 7 #[.val (.ref b)] [])
    obtain ⟨T3, X3, e3, st3⟩ := getS2 X1 hx hZ hown (host := "") (Or.inl (hw _ (List.mem_of_getElem? (i := 68) rfl))) Via.refl e1 (C0 3 "NUMBER" 3 rfl rfl).1 (g := (mkF m 7 #[.val (.ref b)] [])) rfl (hb hby d7_7)
    refine Go.st st3 ?_
    show Go p e s below _ _ _ T3 (mkF m 10 #[.val (.ref b)] [(.ref (r 3))])
    refine Go.st (fun _ kont => XS.goto X3.here hx rfl (pc0 := 10) (pc' := 14) rfl (hb hby d7_10) (by decide) (by decide) kont) ?_
    show Go p e s below _ _ _ T3 (mkF m 14 #[.val (.ref b)] [(.ref (r 3))])
    exact Go.retA X3 hx hlk hret rfl rfl (hb hby d7_14) (by decide) (by decide) ⟨by rw [hv.1 hc4_2], N0, e3⟩
  · --
    refine Go.st (fun _ kont => Jvm.RoadKit.acmp (g := (mkF m 4 #[.val (.ref b)] [(.ref (r 4)), (.ref b)])) X1 hx rfl rfl rfl (pc0 := 4) (pc' := 13) (same := false) rfl (hb hby d7_4) rfl (decide_eq_false fun q => hc4_2 (Value.ref.inj q)) (by decide) (by decide) kont) ?_
    show Go p e s below _ _ _ T1 (mkF m 13 #[.val (.ref b)] [])
    refine Go.st (fun _ kont => XS.aloadN X1.here hx rfl (hb hby d7_13) rfl rfl kont) ?_
    show Go p e s below _ _ _ T1 (mkF m 14 #[.val (.ref b)] [(.ref b)])
    exact Go.retA X1 hx hlk hret rfl rfl (hb hby d7_14) (by decide) (by decide) ⟨by rw [hv.2 hc4_2], N0, e1⟩
theorem d4_0 : decode jdk_32_method_2_code 0 = .ok (.aload_n 0, 1) := by decide +kernel
theorem d4_1 : decode jdk_32_method_2_code 1 = .ok (.invokespecial 7, 3) := by decide +kernel
theorem d4_4 : decode jdk_32_method_2_code 4 = .ok (.aload_n 0, 1) := by decide +kernel
theorem d4_5 : decode jdk_32_method_2_code 5 = .ok (.aload_n 1, 1) := by decide +kernel
theorem d4_6 : decode jdk_32_method_2_code 6 = .ok (.putfield 13, 3) := by decide +kernel
theorem d4_9 : decode jdk_32_method_2_code 9 = .ok (.return_, 1) := by decide +kernel
theorem ef_I (m : MethodId) (x0 : Addr) (x1 : Addr) : entryFrame m #[(.ref x0), (.ref x1)] 2 = mkF m 0 #[.val (.ref x0), .val (.ref x1)] [] := by first | (simp [entryFrame, mkF, argsToLocals, Value.category]; done) | rfl
set_option maxRecDepth 65536 in
set_option maxHeartbeats 40000000 in
theorem rmI (l : Launch) (Z : State) (a0 : Array Value) (hw : ∀ d ∈ tables_1, d.before a0 Z = true) (ws : List Jvm.Cond) (b : Addr) (x : Addr) (h0 : Heap) (n0 : Nat) (gb : n0 ≤ b) (E_b : Exa Z h0 b "java/util/Optional") (F_value_b : Fld Z h0 b "java/util/Optional" "value" "Ljava/lang/Object;" .null)  :
    Meets l Z (⟨"java/util/Optional", "<init>", "(Ljava/lang/Object;)V"⟩ : MethodName) jdk_32_method_2_code 2 none ({ frames := 1, cells := 0, slots := 0, locals := 12 } : Room) ws #[(.ref b), (.ref x)] h0 (fun v h L => v = none ∧ Fr n0 L ∧ Keep h0 h [b] ∧ Fld Z h b "java/util/Optional" "value" "Ljava/lang/Object;" (.ref x)) := by
  refine Meets.of (plainFor_of_name (by first | (simp [plainName, overriddenIn]; done) | decide +kernel : plainName "java/util/Optional" = true)) ?_
  intro p e s m below meth c s₁ X0 hx hby hml hret hlk hnm hZ hown e0
  replace hown : s.vm.findClass "java/util/Optional" = some m.cls := hown
  have N0 := Fr.nil n0
  have K0 := Keep.refl h0 [b]
  refine Go.cast (ef_I m b x) ?_
  show Go p e s below _ _ _ s₁ (mkF m 0 #[.val (.ref b), .val (.ref x)] [])
  refine Go.st (fun _ kont => XS.aloadN X0.here hx rfl (hb hby d4_0) rfl rfl kont) ?_
  show Go p e s below _ _ _ s₁ (mkF m 1 #[.val (.ref b), .val (.ref x)] [(.ref b)])
  obtain ⟨T1, X1, e1, st1⟩ := initO X0 hx hZ hown (hw _ (List.mem_of_getElem? (i := 51) rfl)) (hw _ (List.mem_of_getElem? (i := 52) rfl)) (hw _ (List.mem_of_getElem? (i := 53) rfl)) e0 (g := (mkF m 1 #[.val (.ref b), .val (.ref x)] [(.ref b)])) rfl (by rw [hml]; rfl) rfl (hb hby d4_1) (by decide) (W := 0) (by show 2 * 0 + _ ≤ _; exact Nat.le_of_eq rfl) (by decide)
  refine Go.st st1 ?_
  show Go p e s below _ _ _ T1 (mkF m 4 #[.val (.ref b), .val (.ref x)] [])
  refine Go.st (fun _ kont => XS.aloadN X1.here hx rfl (hb hby d4_4) rfl rfl kont) ?_
  show Go p e s below _ _ _ T1 (mkF m 5 #[.val (.ref b), .val (.ref x)] [(.ref b)])
  refine Go.st (fun _ kont => XS.aloadN X1.here hx rfl (hb hby d4_5) rfl rfl kont) ?_
  show Go p e s below _ _ _ T1 (mkF m 6 #[.val (.ref b), .val (.ref x)] [(.ref x), (.ref b)])
  obtain ⟨T2, h2, X2, e2, W2, st2⟩ := putF X1 hx hZ hown (host := "") (Or.inl (hw _ (List.mem_of_getElem? (i := 54) rfl))) Via.refl e1 F_value_b E_b (Or.inr ⟨(hw _ (List.mem_of_getElem? (i := 55) rfl)), rfl, hnm⟩) (hw _ (List.mem_of_getElem? (i := 46) rfl)) (ty := (.object "java/lang/Object")) (by decide) rfl rfl (g := (mkF m 6 #[.val (.ref b), .val (.ref x)] [(.ref x), (.ref b)])) rfl rfl (hb hby d4_6)
  refine Go.st st2 ?_
  have F_value_b_2 : Fld Z h2 b "java/util/Optional" "value" "Ljava/lang/Object;" (.ref x) := F_value_b.same W2
  have K_2 : Keep h0 h2 [b] := K0.wr W2 (Or.inl (List.mem_singleton.mpr rfl))
  have E_b_2 := E_b.wr W2
  have N2 := Fr.snoc X2 N0 gb
  show Go p e s below _ _ _ T2 (mkF m 9 #[.val (.ref b), .val (.ref x)] [])
  exact Go.retV X2 hx hlk hret (hb hby d4_9) (by decide) (by decide) ⟨rfl, N2, (by rw [e2]; exact K_2), (by rw [e2]; exact F_value_b_2)⟩
theorem d3_0 : decode jdk_32_method_4_code 0 = .ok (.aload_n 0, 1) := by decide +kernel
theorem d3_1 : decode jdk_32_method_4_code 1 = .ok (.ifnonnull 9, 3) := by decide +kernel
theorem d3_4 : decode jdk_32_method_4_code 4 = .ok (.getstatic 1, 3) := by decide +kernel
theorem d3_7 : decode jdk_32_method_4_code 7 = .ok (.goto 11, 3) := by decide +kernel
theorem d3_18 : decode jdk_32_method_4_code 18 = .ok (.areturn, 1) := by decide +kernel
theorem ef_O0 (m : MethodId)  : entryFrame m #[.null] 1 = mkF m 0 #[.val .null] [] := by first | (simp [entryFrame, mkF, argsToLocals, Value.category]; done) | rfl
set_option maxRecDepth 65536 in
set_option maxHeartbeats 40000000 in
theorem rmO0 (l : Launch) (Z : State) (a0 : Array Value) (hw : ∀ d ∈ tables_1, d.before a0 Z = true) (ws : List Jvm.Cond) (h0 : Heap) (n0 : Nat) (em : Addr) (SE : Sta Z h0 "java/util/Optional" "EMPTY" "Ljava/util/Optional;" (.ref em)) (EE : Exa Z h0 em "java/util/Optional") (FE : Fld Z h0 em "java/util/Optional" "value" "Ljava/lang/Object;" .null) :
    Meets l Z (⟨"java/util/Optional", "ofNullable", "(Ljava/lang/Object;)Ljava/util/Optional;"⟩ : MethodName) jdk_32_method_4_code 1 (some (.object "java/util/Optional")) ({ frames := 0, cells := 0, slots := 0, locals := 0 } : Room) ws #[.null] h0 (fun v h L => v = some (.ref em) ∧ Fr n0 L ∧ h = h0) := by
  refine Meets.of (plainFor_of_name (by first | (simp [plainName, overriddenIn]; done) | decide +kernel : plainName "java/util/Optional" = true)) ?_
  intro p e s m below meth c s₁ X0 hx hby hml hret hlk hnm hZ hown e0
  replace hown : s.vm.findClass "java/util/Optional" = some m.cls := hown
  have N0 := Fr.nil n0
  refine Go.cast (ef_O0 m ) ?_
  show Go p e s below _ _ _ s₁ (mkF m 0 #[.val .null] [])
  refine Go.st (fun _ kont => XS.aloadN X0.here hx rfl (hb hby d3_0) rfl rfl kont) ?_
  show Go p e s below _ _ _ s₁ (mkF m 1 #[.val .null] [.null])
  refine Go.st (fun _ kont => XS.ifnonnullNo X0.here hx rfl (hb hby d3_1) rfl kont) ?_
  show Go p e s below _ _ _ s₁ (mkF m 4 #[.val .null] [])
  obtain ⟨T1, X1, e1, st1⟩ := getS2 X0 hx hZ hown (host := "") (Or.inl (hw _ (List.mem_of_getElem? (i := 67) rfl))) Via.refl e0 SE (g := (mkF m 4 #[.val .null] [])) rfl (hb hby d3_4)
  refine Go.st st1 ?_
  show Go p e s below _ _ _ T1 (mkF m 7 #[.val .null] [(.ref em)])
  refine Go.st (fun _ kont => XS.goto X1.here hx rfl (pc0 := 7) (pc' := 18) rfl (hb hby d3_7) (by decide) (by decide) kont) ?_
  show Go p e s below _ _ _ T1 (mkF m 18 #[.val .null] [(.ref em)])
  exact Go.retA X1 hx hlk hret rfl rfl (hb hby d3_18) (by decide) (by decide) ⟨rfl, N0, e1⟩
theorem pd__Ljava_lang_Object__V : parseMethodDescriptor "(Ljava/lang/Object;)V" = some ⟨[(.object "java/lang/Object")], none⟩ := by decide +kernel
theorem d3_10 : decode jdk_32_method_4_code 10 = .ok (.new 2, 3) := by decide +kernel
theorem d3_13 : decode jdk_32_method_4_code 13 = .ok (.dup, 1) := by decide +kernel
theorem d3_14 : decode jdk_32_method_4_code 14 = .ok (.aload_n 0, 1) := by decide +kernel
theorem d3_15 : decode jdk_32_method_4_code 15 = .ok (.invokespecial 23, 3) := by decide +kernel
theorem ef_O1 (m : MethodId) (x0 : Addr) : entryFrame m #[(.ref x0)] 1 = mkF m 0 #[.val (.ref x0)] [] := by first | (simp [entryFrame, mkF, argsToLocals, Value.category]; done) | rfl
set_option maxRecDepth 65536 in
set_option maxHeartbeats 40000000 in
theorem rmO1 (l : Launch) (Z : State) (a0 : Array Value) (hw : ∀ d ∈ tables_1, d.before a0 Z = true) (ws : List Jvm.Cond) (x : Addr) (h0 : Heap) (n0 : Nat) (Z0 : n0 ≤ h0.size) :
    Meets l Z (⟨"java/util/Optional", "ofNullable", "(Ljava/lang/Object;)Ljava/util/Optional;"⟩ : MethodName) jdk_32_method_4_code 1 (some (.object "java/util/Optional")) ({ frames := 2, cells := 1, slots := 1, locals := 26 } : Room) ws #[(.ref x)] h0 (fun v h L => ∃ o, v = some (.ref o) ∧ Fr n0 L ∧ Ext h0 h ∧ Exa Z h o "java/util/Optional" ∧ Fld Z h o "java/util/Optional" "value" "Ljava/lang/Object;" (.ref x)) := by
  refine Meets.of (plainFor_of_name (by first | (simp [plainName, overriddenIn]; done) | decide +kernel : plainName "java/util/Optional" = true)) ?_
  intro p e s m below meth c s₁ X0 hx hby hml hret hlk hnm hZ hown e0
  replace hown : s.vm.findClass "java/util/Optional" = some m.cls := hown
  have N0 := Fr.nil n0
  have Q0 := own_extR h0
  refine Go.cast (ef_O1 m x) ?_
  show Go p e s below _ _ _ s₁ (mkF m 0 #[.val (.ref x)] [])
  refine Go.st (fun _ kont => XS.aloadN X0.here hx rfl (hb hby d3_0) rfl rfl kont) ?_
  show Go p e s below _ _ _ s₁ (mkF m 1 #[.val (.ref x)] [(.ref x)])
  refine Go.st (fun _ kont => XS.ifnonnullYes X0.here hx rfl (pc0 := 1) (pc' := 10) rfl (hb hby d3_1) rfl (by decide) (by decide) kont) ?_
  show Go p e s below _ _ _ s₁ (mkF m 10 #[.val (.ref x)] [])
  obtain ⟨T1, h1, X1, e1, E1, A1, D1, -, st1⟩ := newO X0 hx hZ hown (hw _ (List.mem_of_getElem? (i := 45) rfl)) (hw _ (List.mem_of_getElem? (i := 46) rfl)) (hw _ (List.mem_of_getElem? (i := 43) rfl)) e0 (g := (mkF m 10 #[.val (.ref x)] [])) rfl (hb hby d3_10) (by decide) (by decide)
  obtain ⟨b1, g1⟩ : ∃ z, z = h0.size := ⟨_, rfl⟩
  rw [← g1] at A1 D1 st1
  have sz1 : h0.size ≤ b1 := Nat.le_trans Q0.1 (Nat.le_of_eq g1.symm)
  have gn1 : n0 ≤ b1 := Nat.le_trans Z0 sz1
  refine Go.st st1 ?_
  have Q_1 : Ext h0 h1 := own_extE Q0 E1
  have F_value_b1 : Fld Z h1 b1 "java/util/Optional" "value" "Ljava/lang/Object;" .null := D1 (Or.inr (hw _ (List.mem_of_getElem? (i := 55) rfl))) (ty := (.object "java/lang/Object")) (by decide)
  show Go p e s below _ _ _ T1 (mkF m 13 #[.val (.ref x)] [(.ref b1)])
  refine Go.st (fun _ kont => XS.dup X1.here hx rfl (hb hby d3_13) rfl rfl kont) ?_
  show Go p e s below _ _ _ T1 (mkF m 14 #[.val (.ref x)] [(.ref b1), (.ref b1)])
  refine Go.st (fun _ kont => XS.aloadN X1.here hx rfl (hb hby d3_14) rfl rfl kont) ?_
  show Go p e s below _ _ _ T1 (mkF m 15 #[.val (.ref x)] [(.ref x), (.ref b1), (.ref b1)])
  refine Go.callC (b := b1) (W := 1) (argsL := [(.ref x)]) (rest := [(.ref b1)]) X1 hx hZ (y := (⟨"java/util/Optional", "<init>", "(Ljava/lang/Object;)V"⟩ : MethodName)) rfl hown (hw _ (List.mem_of_getElem? (i := 47) rfl)) (hw _ (List.mem_of_getElem? (i := 48) rfl)) (hw _ (List.mem_of_getElem? (i := 43) rfl)) (hw _ (List.mem_of_getElem? (i := 50) rfl)) (rmI l Z a0 hw [] b1 x h1 n0 gn1 A1 F_value_b1) e1 (by decide) (by decide) (by decide) (by decide) (by decide) (by rw [hml]; rfl) (lenOf pd__Ljava_lang_Object__V rfl) (Nat.le_of_eq rfl) (hb hby d3_15) ?_
  intro T2 v2 L2 X2 hQ2
  obtain ⟨h2, e2⟩ : ∃ z, T2.heap = z := ⟨_, rfl⟩
  rw [e2] at hQ2
  obtain ⟨rfl, N2, K2, F_value_b1_2⟩ := hQ2
  have M2 := Fr.app N0 N2
  have Q_2 : Ext h0 h2 := own_extK Q_1 K2 (allS sz1 all0)
  have E_b1_2 := A1.keep K2
  show Go p e s below _ _ _ T2 (mkF m 18 #[.val (.ref x)] [(.ref b1)])
  exact Go.retA X2 hx hlk hret rfl rfl (hb hby d3_18) (by decide) (by decide) ⟨b1, rfl, M2, (by rw [e2]; exact Q_2), (by rw [e2]; exact E_b1_2), (by rw [e2]; exact F_value_b1_2)⟩
theorem d6_0 : decode jdk_32_method_15_code 0 = .ok (.aload_n 0, 1) := by decide +kernel
theorem d6_1 : decode jdk_32_method_15_code 1 = .ok (.getfield 13, 3) := by decide +kernel
theorem d6_4 : decode jdk_32_method_15_code 4 = .ok (.ifnull 10, 3) := by decide +kernel
theorem d6_14 : decode jdk_32_method_15_code 14 = .ok (.aload_n 1, 1) := by decide +kernel
theorem d6_15 : decode jdk_32_method_15_code 15 = .ok (.areturn, 1) := by decide +kernel
theorem ef_E0 (m : MethodId) (x0 : Addr) : entryFrame m #[(.ref x0), .null] 2 = mkF m 0 #[.val (.ref x0), .val .null] [] := by first | (simp [entryFrame, mkF, argsToLocals, Value.category]; done) | rfl
set_option maxRecDepth 65536 in
set_option maxHeartbeats 40000000 in
theorem rmE0 (l : Launch) (Z : State) (a0 : Array Value) (hw : ∀ d ∈ tables_1, d.before a0 Z = true) (ws : List Jvm.Cond) (o : Addr) (h0 : Heap) (n0 : Nat) (F : Fld Z h0 o "java/util/Optional" "value" "Ljava/lang/Object;" .null) :
    Meets l Z (⟨"java/util/Optional", "orElse", "(Ljava/lang/Object;)Ljava/lang/Object;"⟩ : MethodName) jdk_32_method_15_code 2 (some (.object "java/lang/Object")) ({ frames := 0, cells := 0, slots := 0, locals := 0 } : Room) ws #[(.ref o), .null] h0 (fun v h L => v = some .null ∧ Fr n0 L ∧ h = h0) := by
  refine Meets.of (plainFor_of_name (by first | (simp [plainName, overriddenIn]; done) | decide +kernel : plainName "java/util/Optional" = true)) ?_
  intro p e s m below meth c s₁ X0 hx hby hml hret hlk hnm hZ hown e0
  replace hown : s.vm.findClass "java/util/Optional" = some m.cls := hown
  have N0 := Fr.nil n0
  refine Go.cast (ef_E0 m o) ?_
  show Go p e s below _ _ _ s₁ (mkF m 0 #[.val (.ref o), .val .null] [])
  refine Go.st (fun _ kont => XS.aloadN X0.here hx rfl (hb hby d6_0) rfl rfl kont) ?_
  show Go p e s below _ _ _ s₁ (mkF m 1 #[.val (.ref o), .val .null] [(.ref o)])
  obtain ⟨T1, X1, e1, st1⟩ := getF X0 hx hZ hown (host := "") (Or.inl (hw _ (List.mem_of_getElem? (i := 54) rfl))) Via.refl e0 F (g := (mkF m 1 #[.val (.ref o), .val .null] [(.ref o)])) rfl rfl (hb hby d6_1)
  refine Go.st st1 ?_
  show Go p e s below _ _ _ T1 (mkF m 4 #[.val (.ref o), .val .null] [.null])
  refine Go.st (fun _ kont => XS.ifnullYes X1.here hx rfl (pc0 := 4) (pc' := 14) rfl (hb hby d6_4) rfl (by decide) (by decide) kont) ?_
  show Go p e s below _ _ _ T1 (mkF m 14 #[.val (.ref o), .val .null] [])
  refine Go.st (fun _ kont => XS.aloadN X1.here hx rfl (hb hby d6_14) rfl rfl kont) ?_
  show Go p e s below _ _ _ T1 (mkF m 15 #[.val (.ref o), .val .null] [.null])
  exact Go.retA X1 hx hlk hret rfl rfl (hb hby d6_15) (by decide) (by decide) ⟨rfl, N0, e1⟩
theorem d6_7 : decode jdk_32_method_15_code 7 = .ok (.aload_n 0, 1) := by decide +kernel
theorem d6_8 : decode jdk_32_method_15_code 8 = .ok (.getfield 13, 3) := by decide +kernel
theorem d6_11 : decode jdk_32_method_15_code 11 = .ok (.goto 4, 3) := by decide +kernel
theorem ef_E1 (m : MethodId) (x0 : Addr) : entryFrame m #[(.ref x0), .null] 2 = mkF m 0 #[.val (.ref x0), .val .null] [] := by first | (simp [entryFrame, mkF, argsToLocals, Value.category]; done) | rfl
set_option maxRecDepth 65536 in
set_option maxHeartbeats 40000000 in
theorem rmE1 (l : Launch) (Z : State) (a0 : Array Value) (hw : ∀ d ∈ tables_1, d.before a0 Z = true) (ws : List Jvm.Cond) (o x : Addr) (h0 : Heap) (n0 : Nat) (F : Fld Z h0 o "java/util/Optional" "value" "Ljava/lang/Object;" (.ref x)) :
    Meets l Z (⟨"java/util/Optional", "orElse", "(Ljava/lang/Object;)Ljava/lang/Object;"⟩ : MethodName) jdk_32_method_15_code 2 (some (.object "java/lang/Object")) ({ frames := 0, cells := 0, slots := 0, locals := 0 } : Room) ws #[(.ref o), .null] h0 (fun v h L => v = some (.ref x) ∧ Fr n0 L ∧ h = h0) := by
  refine Meets.of (plainFor_of_name (by first | (simp [plainName, overriddenIn]; done) | decide +kernel : plainName "java/util/Optional" = true)) ?_
  intro p e s m below meth c s₁ X0 hx hby hml hret hlk hnm hZ hown e0
  replace hown : s.vm.findClass "java/util/Optional" = some m.cls := hown
  have N0 := Fr.nil n0
  refine Go.cast (ef_E1 m o) ?_
  show Go p e s below _ _ _ s₁ (mkF m 0 #[.val (.ref o), .val .null] [])
  refine Go.st (fun _ kont => XS.aloadN X0.here hx rfl (hb hby d6_0) rfl rfl kont) ?_
  show Go p e s below _ _ _ s₁ (mkF m 1 #[.val (.ref o), .val .null] [(.ref o)])
  obtain ⟨T1, X1, e1, st1⟩ := getF X0 hx hZ hown (host := "") (Or.inl (hw _ (List.mem_of_getElem? (i := 54) rfl))) Via.refl e0 F (g := (mkF m 1 #[.val (.ref o), .val .null] [(.ref o)])) rfl rfl (hb hby d6_1)
  refine Go.st st1 ?_
  show Go p e s below _ _ _ T1 (mkF m 4 #[.val (.ref o), .val .null] [(.ref x)])
  refine Go.st (fun _ kont => XS.ifnullNo X1.here hx rfl (hb hby d6_4) rfl kont) ?_
  show Go p e s below _ _ _ T1 (mkF m 7 #[.val (.ref o), .val .null] [])
  refine Go.st (fun _ kont => XS.aloadN X1.here hx rfl (hb hby d6_7) rfl rfl kont) ?_
  show Go p e s below _ _ _ T1 (mkF m 8 #[.val (.ref o), .val .null] [(.ref o)])
  obtain ⟨T2, X2, e2, st2⟩ := getF X1 hx hZ hown (host := "") (Or.inl (hw _ (List.mem_of_getElem? (i := 54) rfl))) Via.refl e1 F (g := (mkF m 8 #[.val (.ref o), .val .null] [(.ref o)])) rfl rfl (hb hby d6_8)
  refine Go.st st2 ?_
  show Go p e s below _ _ _ T2 (mkF m 11 #[.val (.ref o), .val .null] [(.ref x)])
  refine Go.st (fun _ kont => XS.goto X2.here hx rfl (pc0 := 11) (pc' := 15) rfl (hb hby d6_11) (by decide) (by decide) kont) ?_
  show Go p e s below _ _ _ T2 (mkF m 15 #[.val (.ref o), .val .null] [(.ref x)])
  exact Go.retA X2 hx hlk hret rfl rfl (hb hby d6_15) (by decide) (by decide) ⟨rfl, N0, e2⟩
theorem pd__Ljava_lang_Object__Ljava_util_Optional_ : parseMethodDescriptor "(Ljava/lang/Object;)Ljava/util/Optional;" = some ⟨[(.object "java/lang/Object")], some (.object "java/util/Optional")⟩ := by decide +kernel
theorem pd___Lcom_example_restweave_restweave_raml_Family_ : parseMethodDescriptor "()Lcom/example/restweave/restweave/raml/Family;" = some ⟨[], some (.object "com/example/restweave/restweave/raml/Family")⟩ := by decide +kernel
theorem d2_0 : decode prog_24_method_9_code 0 = .ok (.aload_n 0, 1) := by decide +kernel
theorem d2_1 : decode prog_24_method_9_code 1 = .ok (.aload_n 1, 1) := by decide +kernel
theorem d2_2 : decode prog_24_method_9_code 2 = .ok (.if_acmp .eq 10, 3) := by decide +kernel
theorem d2_5 : decode prog_24_method_9_code 5 = .ok (.aload_n 1, 1) := by decide +kernel
theorem d2_6 : decode prog_24_method_9_code 6 = .ok (.getstatic 3, 3) := by decide +kernel
theorem d2_9 : decode prog_24_method_9_code 9 = .ok (.if_acmp .ne 8, 3) := by decide +kernel
theorem d2_12 : decode prog_24_method_9_code 12 = .ok (.aload_n 0, 1) := by decide +kernel
theorem d2_13 : decode prog_24_method_9_code 13 = .ok (.astore_n 2, 1) := by decide +kernel
theorem d2_14 : decode prog_24_method_9_code 14 = .ok (.goto 35, 3) := by decide +kernel
theorem d2_17 : decode prog_24_method_9_code 17 = .ok (.aload_n 0, 1) := by decide +kernel
theorem d2_18 : decode prog_24_method_9_code 18 = .ok (.getstatic 3, 3) := by decide +kernel
theorem d2_21 : decode prog_24_method_9_code 21 = .ok (.if_acmp .ne 8, 3) := by decide +kernel
theorem d2_24 : decode prog_24_method_9_code 24 = .ok (.aload_n 1, 1) := by decide +kernel
theorem d2_25 : decode prog_24_method_9_code 25 = .ok (.astore_n 2, 1) := by decide +kernel
theorem d2_26 : decode prog_24_method_9_code 26 = .ok (.goto 23, 3) := by decide +kernel
theorem d2_29 : decode prog_24_method_9_code 29 = .ok (.aload_n 0, 1) := by decide +kernel
theorem d2_30 : decode prog_24_method_9_code 30 = .ok (.invokevirtual 104, 3) := by decide +kernel
theorem d2_33 : decode prog_24_method_9_code 33 = .ok (.aload_n 1, 1) := by decide +kernel
theorem d2_34 : decode prog_24_method_9_code 34 = .ok (.invokevirtual 104, 3) := by decide +kernel
theorem d2_37 : decode prog_24_method_9_code 37 = .ok (.if_acmp .ne 10, 3) := by decide +kernel
theorem d2_40 : decode prog_24_method_9_code 40 = .ok (.getstatic 16, 3) := by decide +kernel
theorem d2_43 : decode prog_24_method_9_code 43 = .ok (.astore_n 2, 1) := by decide +kernel
theorem d2_44 : decode prog_24_method_9_code 44 = .ok (.goto 5, 3) := by decide +kernel
theorem d2_47 : decode prog_24_method_9_code 47 = .ok (.aconst_null, 1) := by decide +kernel
theorem d2_48 : decode prog_24_method_9_code 48 = .ok (.astore_n 2, 1) := by decide +kernel
theorem d2_49 : decode prog_24_method_9_code 49 = .ok (.aload_n 2, 1) := by decide +kernel
theorem d2_50 : decode prog_24_method_9_code 50 = .ok (.invokestatic 108, 3) := by decide +kernel
theorem d2_53 : decode prog_24_method_9_code 53 = .ok (.areturn, 1) := by decide +kernel
theorem ef_c (m : MethodId) (x0 : Addr) (x1 : Addr) : entryFrame m #[(.ref x0), (.ref x1)] 3 = mkF m 0 #[.val (.ref x0), .val (.ref x1), .unset] [] := by first | (simp [entryFrame, mkF, argsToLocals, Value.category]; done) | rfl
set_option maxRecDepth 65536 in
set_option maxHeartbeats 40000000 in
theorem rmc (l : Launch) (Z : State) (a0 : Array Value) (hw : ∀ d ∈ tables_1, d.before a0 Z = true) (ws : List Jvm.Cond) (a b : Addr) (ww : Value) (h0 : Heap) (n0 : Nat) (Z0 : n0 ≤ h0.size) (r : Nat → Addr) (C0 : Cs Z h0 r) (em : Addr) (SE : Sta Z h0 "java/util/Optional" "EMPTY" "Ljava/util/Optional;" (.ref em)) (EE : Exa Z h0 em "java/util/Optional") (FE : Fld Z h0 em "java/util/Optional" "value" "Ljava/lang/Object;" .null) (Ea : Exa Z h0 a "com/example/restweave/restweave/raml/Family") (Eb : Exa Z h0 b "com/example/restweave/restweave/raml/Family") (hq : ((a = b ∨ b = r 0 ∨ (a = r 4 ∧ b = r 3)) → ww = .ref a) ∧ (¬ (a = b ∨ b = r 0 ∨ (a = r 4 ∧ b = r 3)) → (b = a ∨ a = r 0 ∨ (b = r 4 ∧ a = r 3)) → ww = .ref b) ∧ (¬ (a = b ∨ b = r 0 ∨ (a = r 4 ∧ b = r 3)) → ¬ (b = a ∨ a = r 0 ∨ (b = r 4 ∧ a = r 3)) → ww = .null)) :
    Meets l Z (⟨"com/example/restweave/restweave/raml/Family", "combined", "(Lcom/example/restweave/restweave/raml/Family;Lcom/example/restweave/restweave/raml/Family;)Ljava/util/Optional;"⟩ : MethodName) prog_24_method_9_code 3 (some (.object "java/util/Optional")) ({ frames := 3, cells := 1, slots := 1, locals := 38 } : Room) ws #[(.ref a), (.ref b)] h0 (fun v h L => ∃ o, v = some (.ref o) ∧ Fr n0 L ∧ Ext h0 h ∧ Exa Z h o "java/util/Optional" ∧ Fld Z h o "java/util/Optional" "value" "Ljava/lang/Object;" ww) := by
  refine Meets.of (plainFor_of_name (by first | (simp [plainName, overriddenIn]; done) | decide +kernel : plainName "com/example/restweave/restweave/raml/Family" = true)) ?_
  intro p e s m below meth c s₁ X0 hx hby hml hret hlk hnm hZ hown e0
  replace hown : s.vm.findClass "com/example/restweave/restweave/raml/Family" = some m.cls := hown
  have N0 := Fr.nil n0
  refine Go.cast (ef_c m a b) ?_
  show Go p e s below _ _ _ s₁ (mkF m 0 #[.val (.ref a), .val (.ref b), .unset] [])
  refine Go.st (fun _ kont => XS.aloadN X0.here hx rfl (hb hby d2_0) rfl rfl kont) ?_
  show Go p e s below _ _ _ s₁ (mkF m 1 #[.val (.ref a), .val (.ref b), .unset] [(.ref a)])
  refine Go.st (fun _ kont => XS.aloadN X0.here hx rfl (hb hby d2_1) rfl rfl kont) ?_
  show Go p e s below _ _ _ s₁ (mkF m 2 #[.val (.ref a), .val (.ref b), .unset] [(.ref b), (.ref a)])
  by_cases hc2_1 : a = b
  · --
    refine Go.st (fun _ kont => Jvm.RoadKit.acmp (g := (mkF m 2 #[.val (.ref a), .val (.ref b), .unset] [(.ref b), (.ref a)])) X0 hx rfl rfl rfl (pc0 := 2) (pc' := 12) (same := true) rfl (hb hby d2_2) rfl (decide_eq_true (congrArg Value.ref hc2_1)) (by decide) (by decide) kont) ?_
    show Go p e s below _ _ _ s₁ (mkF m 12 #[.val (.ref a), .val (.ref b), .unset] [])
    refine Go.st (fun _ kont => XS.aloadN X0.here hx rfl (hb hby d2_12) rfl rfl kont) ?_
    show Go p e s below _ _ _ s₁ (mkF m 13 #[.val (.ref a), .val (.ref b), .unset] [(.ref a)])
    refine Go.st (fun _ kont => XS.astoreN X0.here hx rfl (hb hby d2_13) rfl rfl (l' := #[.val (.ref a), .val (.ref b), .val (.ref a)]) rfl kont) ?_
    show Go p e s below _ _ _ s₁ (mkF m 14 #[.val (.ref a), .val (.ref b), .val (.ref a)] [])
    refine Go.st (fun _ kont => XS.goto X0.here hx rfl (pc0 := 14) (pc' := 49) rfl (hb hby d2_14) (by decide) (by decide) kont) ?_
    show Go p e s below _ _ _ s₁ (mkF m 49 #[.val (.ref a), .val (.ref b), .val (.ref a)] [])
    refine Go.st (fun _ kont => XS.aloadN X0.here hx rfl (hb hby d2_49) rfl rfl kont) ?_
    show Go p e s below _ _ _ s₁ (mkF m 50 #[.val (.ref a), .val (.ref b), .val (.ref a)] [(.ref a)])
    refine Go.callS (W := 0) (argsL := [(.ref a)]) (rest := []) X0 hx hZ hown (y := (⟨"java/util/Optional", "ofNullable", "(Ljava/lang/Object;)Ljava/util/Optional;"⟩ : MethodName)) (hw _ (List.mem_of_getElem? (i := 41) rfl)) (hw _ (List.mem_of_getElem? (i := 42) rfl)) (hw _ (List.mem_of_getElem? (i := 43) rfl)) (hw _ (List.mem_of_getElem? (i := 44) rfl)) (rmO1 l Z a0 hw [] a h0 n0 Z0) e0 (by decide) (by decide) (by decide) (by decide) (by decide) (by rw [hml]; rfl) (lenOf pd__Ljava_lang_Object__Ljava_util_Optional_ rfl) (Nat.le_of_eq rfl) (hb hby d2_50) ?_
    intro T2 v2 L2 X2 hQ2
    obtain ⟨h2, e2⟩ : ∃ z, T2.heap = z := ⟨_, rfl⟩
    rw [e2] at hQ2
    obtain ⟨o2, rfl, N2, Q2, A2, F2⟩ := hQ2
    have M2 := Fr.app N0 N2
    show Go p e s below _ _ _ T2 (mkF m 53 #[.val (.ref a), .val (.ref b), .val (.ref a)] [(.ref o2)])
    exact Go.retA X2 hx hlk hret rfl rfl (hb hby d2_53) (by decide) (by decide) ⟨o2, rfl, M2, (by rw [e2]; exact Q2), (by rw [e2]; exact A2), (by rw [e2, hq.1 (Or.inl hc2_1)]; exact F2)⟩
  · --
    refine Go.st (fun _ kont => Jvm.RoadKit.acmp (g := (mkF m 2 #[.val (.ref a), .val (.ref b), .unset] [(.ref b), (.ref a)])) X0 hx rfl rfl rfl (pc0 := 2) (pc' := 5) (same := false) rfl (hb hby d2_2) rfl (decide_eq_false fun q => hc2_1 (Value.ref.inj q)) (by decide) (by decide) kont) ?_
    show Go p e s below _ _ _ s₁ (mkF m 5 #[.val (.ref a), .val (.ref b), .unset] [])
    refine Go.st (fun _ kont => XS.aloadN X0.here hx rfl (hb hby d2_5) rfl rfl kont) ?_
    show Go p e s below _ _ _ s₁ (mkF m 6 #[.val (.ref a), .val (.ref b), .unset] [(.ref b)])
    obtain ⟨T3, X3, e3, st3⟩ := getS2 X0 hx hZ hown (host := "") (Or.inl (hw _ (List.mem_of_getElem? (i := 40) rfl))) Via.refl e0 (C0 0 "ANY" 0 rfl rfl).1 (g := (mkF m 6 #[.val (.ref a), .val (.ref b), .unset] [(.ref b)])) rfl (hb hby d2_6)
    refine Go.st st3 ?_
    show Go p e s below _ _ _ T3 (mkF m 9 #[.val (.ref a), .val (.ref b), .unset] [(.ref (r 0)), (.ref b)])
    by_cases hc9_4 : b = (r 0)
    · --
      refine Go.st (fun _ kont => Jvm.RoadKit.acmp (g := (mkF m 9 #[.val (.ref a), .val (.ref b), .unset] [(.ref (r 0)), (.ref b)])) X3 hx rfl rfl rfl (pc0 := 9) (pc' := 12) (same := true) rfl (hb hby d2_9) rfl (decide_eq_true (congrArg Value.ref hc9_4)) (by decide) (by decide) kont) ?_
      show Go p e s below _ _ _ T3 (mkF m 12 #[.val (.ref a), .val (.ref b), .unset] [])
      refine Go.st (fun _ kont => XS.aloadN X3.here hx rfl (hb hby d2_12) rfl rfl kont) ?_
      show Go p e s below _ _ _ T3 (mkF m 13 #[.val (.ref a), .val (.ref b), .unset] [(.ref a)])
      refine Go.st (fun _ kont => XS.astoreN X3.here hx rfl (hb hby d2_13) rfl rfl (l' := #[.val (.ref a), .val (.ref b), .val (.ref a)]) rfl kont) ?_
      show Go p e s below _ _ _ T3 (mkF m 14 #[.val (.ref a), .val (.ref b), .val (.ref a)] [])
      refine Go.st (fun _ kont => XS.goto X3.here hx rfl (pc0 := 14) (pc' := 49) rfl (hb hby d2_14) (by decide) (by decide) kont) ?_
      show Go p e s below _ _ _ T3 (mkF m 49 #[.val (.ref a), .val (.ref b), .val (.ref a)] [])
      refine Go.st (fun _ kont => XS.aloadN X3.here hx rfl (hb hby d2_49) rfl rfl kont) ?_
      show Go p e s below _ _ _ T3 (mkF m 50 #[.val (.ref a), .val (.ref b), .val (.ref a)] [(.ref a)])
      refine Go.callS (W := 0) (argsL := [(.ref a)]) (rest := []) X3 hx hZ hown (y := (⟨"java/util/Optional", "ofNullable", "(Ljava/lang/Object;)Ljava/util/Optional;"⟩ : MethodName)) (hw _ (List.mem_of_getElem? (i := 41) rfl)) (hw _ (List.mem_of_getElem? (i := 42) rfl)) (hw _ (List.mem_of_getElem? (i := 43) rfl)) (hw _ (List.mem_of_getElem? (i := 44) rfl)) (rmO1 l Z a0 hw [] a h0 n0 Z0) e3 (by decide) (by decide) (by decide) (by decide) (by decide) (by rw [hml]; rfl) (lenOf pd__Ljava_lang_Object__Ljava_util_Optional_ rfl) (Nat.le_of_eq rfl) (hb hby d2_50) ?_
      intro T5 v5 L5 X5 hQ5
      obtain ⟨h5, e5⟩ : ∃ z, T5.heap = z := ⟨_, rfl⟩
      rw [e5] at hQ5
      obtain ⟨o5, rfl, N5, Q5, A5, F5⟩ := hQ5
      have M5 := Fr.app N0 N5
      show Go p e s below _ _ _ T5 (mkF m 53 #[.val (.ref a), .val (.ref b), .val (.ref a)] [(.ref o5)])
      exact Go.retA X5 hx hlk hret rfl rfl (hb hby d2_53) (by decide) (by decide) ⟨o5, rfl, M5, (by rw [e5]; exact Q5), (by rw [e5]; exact A5), (by rw [e5, hq.1 (Or.inr (Or.inl hc9_4))]; exact F5)⟩
    · --
      refine Go.st (fun _ kont => Jvm.RoadKit.acmp (g := (mkF m 9 #[.val (.ref a), .val (.ref b), .unset] [(.ref (r 0)), (.ref b)])) X3 hx rfl rfl rfl (pc0 := 9) (pc' := 17) (same := false) rfl (hb hby d2_9) rfl (decide_eq_false fun q => hc9_4 (Value.ref.inj q)) (by decide) (by decide) kont) ?_
      show Go p e s below _ _ _ T3 (mkF m 17 #[.val (.ref a), .val (.ref b), .unset] [])
      refine Go.st (fun _ kont => XS.aloadN X3.here hx rfl (hb hby d2_17) rfl rfl kont) ?_
      show Go p e s below _ _ _ T3 (mkF m 18 #[.val (.ref a), .val (.ref b), .unset] [(.ref a)])
      obtain ⟨T6, X6, e6, st6⟩ := getS2 X3 hx hZ hown (host := "") (Or.inl (hw _ (List.mem_of_getElem? (i := 40) rfl))) Via.refl e3 (C0 0 "ANY" 0 rfl rfl).1 (g := (mkF m 18 #[.val (.ref a), .val (.ref b), .unset] [(.ref a)])) rfl (hb hby d2_18)
      refine Go.st st6 ?_
      show Go p e s below _ _ _ T6 (mkF m 21 #[.val (.ref a), .val (.ref b), .unset] [(.ref (r 0)), (.ref a)])
      by_cases hc21_7 : a = (r 0)
      · --
        refine Go.st (fun _ kont => Jvm.RoadKit.acmp (g := (mkF m 21 #[.val (.ref a), .val (.ref b), .unset] [(.ref (r 0)), (.ref a)])) X6 hx rfl rfl rfl (pc0 := 21) (pc' := 24) (same := true) rfl (hb hby d2_21) rfl (decide_eq_true (congrArg Value.ref hc21_7)) (by decide) (by decide) kont) ?_
        show Go p e s below _ _ _ T6 (mkF m 24 #[.val (.ref a), .val (.ref b), .unset] [])
        refine Go.st (fun _ kont => XS.aloadN X6.here hx rfl (hb hby d2_24) rfl rfl kont) ?_
        show Go p e s below _ _ _ T6 (mkF m 25 #[.val (.ref a), .val (.ref b), .unset] [(.ref b)])
        refine Go.st (fun _ kont => XS.astoreN X6.here hx rfl (hb hby d2_25) rfl rfl (l' := #[.val (.ref a), .val (.ref b), .val (.ref b)]) rfl kont) ?_
        show Go p e s below _ _ _ T6 (mkF m 26 #[.val (.ref a), .val (.ref b), .val (.ref b)] [])
        refine Go.st (fun _ kont => XS.goto X6.here hx rfl (pc0 := 26) (pc' := 49) rfl (hb hby d2_26) (by decide) (by decide) kont) ?_
        show Go p e s below _ _ _ T6 (mkF m 49 #[.val (.ref a), .val (.ref b), .val (.ref b)] [])
        refine Go.st (fun _ kont => XS.aloadN X6.here hx rfl (hb hby d2_49) rfl rfl kont) ?_
        show Go p e s below _ _ _ T6 (mkF m 50 #[.val (.ref a), .val (.ref b), .val (.ref b)] [(.ref b)])
        refine Go.callS (W := 0) (argsL := [(.ref b)]) (rest := []) X6 hx hZ hown (y := (⟨"java/util/Optional", "ofNullable", "(Ljava/lang/Object;)Ljava/util/Optional;"⟩ : MethodName)) (hw _ (List.mem_of_getElem? (i := 41) rfl)) (hw _ (List.mem_of_getElem? (i := 42) rfl)) (hw _ (List.mem_of_getElem? (i := 43) rfl)) (hw _ (List.mem_of_getElem? (i := 44) rfl)) (rmO1 l Z a0 hw [] b h0 n0 Z0) e6 (by decide) (by decide) (by decide) (by decide) (by decide) (by rw [hml]; rfl) (lenOf pd__Ljava_lang_Object__Ljava_util_Optional_ rfl) (Nat.le_of_eq rfl) (hb hby d2_50) ?_
        intro T8 v8 L8 X8 hQ8
        obtain ⟨h8, e8⟩ : ∃ z, T8.heap = z := ⟨_, rfl⟩
        rw [e8] at hQ8
        obtain ⟨o8, rfl, N8, Q8, A8, F8⟩ := hQ8
        have M8 := Fr.app N0 N8
        show Go p e s below _ _ _ T8 (mkF m 53 #[.val (.ref a), .val (.ref b), .val (.ref b)] [(.ref o8)])
        exact Go.retA X8 hx hlk hret rfl rfl (hb hby d2_53) (by decide) (by decide) ⟨o8, rfl, M8, (by rw [e8]; exact Q8), (by rw [e8]; exact A8), (by rw [e8, hq.2.1 (fun q => q.elim hc2_1 (fun q => q.elim hc9_4 (fun q => absurd (hc21_7.symm.trans q.1) (C0.ne (i := 0) (j := 4) rfl rfl rfl rfl (by decide))))) (Or.inr (Or.inl hc21_7))]; exact F8)⟩
      · --
        refine Go.st (fun _ kont => Jvm.RoadKit.acmp (g := (mkF m 21 #[.val (.ref a), .val (.ref b), .unset] [(.ref (r 0)), (.ref a)])) X6 hx rfl rfl rfl (pc0 := 21) (pc' := 29) (same := false) rfl (hb hby d2_21) rfl (decide_eq_false fun q => hc21_7 (Value.ref.inj q)) (by decide) (by decide) kont) ?_
        show Go p e s below _ _ _ T6 (mkF m 29 #[.val (.ref a), .val (.ref b), .unset] [])
        by_cases fa : a = r 4
        · --
          by_cases fb : b = r 4
          · --
            exact absurd (fa.trans fb.symm) hc2_1
          · --
            show Go p e s below _ _ _ T6 (mkF m 29 #[.val (.ref a), .val (.ref b), .unset] [])
            refine Go.st (fun _ kont => XS.aloadN X6.here hx rfl (hb hby d2_29) rfl rfl kont) ?_
            show Go p e s below _ _ _ T6 (mkF m 30 #[.val (.ref a), .val (.ref b), .unset] [(.ref a)])
            refine Go.callV (b := a) (W := 0) (argsL := []) (rest := []) X6 hx hZ hown (y := (⟨"com/example/restweave/restweave/raml/Family", "facets", "()Lcom/example/restweave/restweave/raml/Family;"⟩ : MethodName)) (z := (⟨"com/example/restweave/restweave/raml/Family", "facets", "()Lcom/example/restweave/restweave/raml/Family;"⟩ : MethodName)) (hw _ (List.mem_of_getElem? (i := 61) rfl)) (hw _ (List.mem_of_getElem? (i := 62) rfl)) (notFace_of_selects (args := #[]) (mvT hZ (hw _ (List.mem_of_getElem? (i := 64) rfl)))) (hw _ (List.mem_of_getElem? (i := 64) rfl)) (hw _ (List.mem_of_getElem? (i := 63) rfl)) (hw _ (List.mem_of_getElem? (i := 3) rfl)) (hw _ (List.mem_of_getElem? (i := 65) rfl)) (rmf l Z a0 hw [] a (r 3) h0 n0 r C0 ⟨fun _ => rfl, fun q => absurd fa q⟩) e6 Ea (by decide) (by decide) (by decide) (by decide) (by decide) (by rw [hml]; rfl) (lenOf pd___Lcom_example_restweave_restweave_raml_Family_ rfl) (Nat.le_of_eq rfl) (hb hby d2_30) ?_
            intro T9 v9 L9 X9 hQ9
            obtain ⟨rfl, N9, E9⟩ := hQ9
            have M9 := Fr.app N0 N9
            show Go p e s below _ _ _ T9 (mkF m 33 #[.val (.ref a), .val (.ref b), .unset] [(.ref (r 3))])
            refine Go.st (fun _ kont => XS.aloadN X9.here hx rfl (hb hby d2_33) rfl rfl kont) ?_
            show Go p e s below _ _ _ T9 (mkF m 34 #[.val (.ref a), .val (.ref b), .unset] [(.ref b), (.ref (r 3))])
            refine Go.callV (b := b) (W := 1) (argsL := []) (rest := [(.ref (r 3))]) X9 hx hZ hown (y := (⟨"com/example/restweave/restweave/raml/Family", "facets", "()Lcom/example/restweave/restweave/raml/Family;"⟩ : MethodName)) (z := (⟨"com/example/restweave/restweave/raml/Family", "facets", "()Lcom/example/restweave/restweave/raml/Family;"⟩ : MethodName)) (hw _ (List.mem_of_getElem? (i := 61) rfl)) (hw _ (List.mem_of_getElem? (i := 62) rfl)) (notFace_of_selects (args := #[]) (mvT hZ (hw _ (List.mem_of_getElem? (i := 64) rfl)))) (hw _ (List.mem_of_getElem? (i := 64) rfl)) (hw _ (List.mem_of_getElem? (i := 63) rfl)) (hw _ (List.mem_of_getElem? (i := 3) rfl)) (hw _ (List.mem_of_getElem? (i := 65) rfl)) (rmf l Z a0 hw [] b b h0 n0 r C0 ⟨fun q => absurd q fb, fun _ => rfl⟩) E9 Eb (by decide) (by decide) (by decide) (by decide) (by decide) (by rw [hml]; rfl) (lenOf pd___Lcom_example_restweave_restweave_raml_Family_ rfl) (Nat.le_of_eq rfl) (hb hby d2_34) ?_
            intro T10 v10 L10 X10 hQ10
            obtain ⟨rfl, N10, E10⟩ := hQ10
            have M10 := Fr.app M9 N10
            show Go p e s below _ _ _ T10 (mkF m 37 #[.val (.ref a), .val (.ref b), .unset] [(.ref b), (.ref (r 3))])
            by_cases hc37_11 : (r 3) = b
            · --
              refine Go.st (fun _ kont => Jvm.RoadKit.acmp (g := (mkF m 37 #[.val (.ref a), .val (.ref b), .unset] [(.ref b), (.ref (r 3))])) X10 hx rfl rfl rfl (pc0 := 37) (pc' := 40) (same := true) rfl (hb hby d2_37) rfl (decide_eq_true (congrArg Value.ref hc37_11)) (by decide) (by decide) kont) ?_
              show Go p e s below _ _ _ T10 (mkF m 40 #[.val (.ref a), .val (.ref b), .unset] [])
              obtain ⟨T12, X12, e12, st12⟩ := getS2 X10 hx hZ hown (host := "") (Or.inl (hw _ (List.mem_of_getElem? (i := 66) rfl))) Via.refl E10 (C0 4 "INTEGER" 4 rfl rfl).1 (g := (mkF m 40 #[.val (.ref a), .val (.ref b), .unset] [])) rfl (hb hby d2_40)
              refine Go.st st12 ?_
              show Go p e s below _ _ _ T12 (mkF m 43 #[.val (.ref a), .val (.ref b), .unset] [(.ref (r 4))])
              refine Go.st (fun _ kont => XS.astoreN X12.here hx rfl (hb hby d2_43) rfl rfl (l' := #[.val (.ref a), .val (.ref b), .val (.ref (r 4))]) rfl kont) ?_
              show Go p e s below _ _ _ T12 (mkF m 44 #[.val (.ref a), .val (.ref b), .val (.ref (r 4))] [])
              refine Go.st (fun _ kont => XS.goto X12.here hx rfl (pc0 := 44) (pc' := 49) rfl (hb hby d2_44) (by decide) (by decide) kont) ?_
              show Go p e s below _ _ _ T12 (mkF m 49 #[.val (.ref a), .val (.ref b), .val (.ref (r 4))] [])
              refine Go.st (fun _ kont => XS.aloadN X12.here hx rfl (hb hby d2_49) rfl rfl kont) ?_
              show Go p e s below _ _ _ T12 (mkF m 50 #[.val (.ref a), .val (.ref b), .val (.ref (r 4))] [(.ref (r 4))])
              refine Go.callS (W := 0) (argsL := [(.ref (r 4))]) (rest := []) X12 hx hZ hown (y := (⟨"java/util/Optional", "ofNullable", "(Ljava/lang/Object;)Ljava/util/Optional;"⟩ : MethodName)) (hw _ (List.mem_of_getElem? (i := 41) rfl)) (hw _ (List.mem_of_getElem? (i := 42) rfl)) (hw _ (List.mem_of_getElem? (i := 43) rfl)) (hw _ (List.mem_of_getElem? (i := 44) rfl)) (rmO1 l Z a0 hw [] (r 4) h0 n0 Z0) e12 (by decide) (by decide) (by decide) (by decide) (by decide) (by rw [hml]; rfl) (lenOf pd__Ljava_lang_Object__Ljava_util_Optional_ rfl) (Nat.le_of_eq rfl) (hb hby d2_50) ?_
              intro T13 v13 L13 X13 hQ13
              obtain ⟨h13, e13⟩ : ∃ z, T13.heap = z := ⟨_, rfl⟩
              rw [e13] at hQ13
              obtain ⟨o13, rfl, N13, Q13, A13, F13⟩ := hQ13
              have M13 := Fr.app M10 N13
              show Go p e s below _ _ _ T13 (mkF m 53 #[.val (.ref a), .val (.ref b), .val (.ref (r 4))] [(.ref o13)])
              exact Go.retA X13 hx hlk hret rfl rfl (hb hby d2_53) (by decide) (by decide) ⟨o13, rfl, M13, (by rw [e13]; exact Q13), (by rw [e13]; exact A13), (by rw [e13, (hq.1 (Or.inr (Or.inr ⟨fa, hc37_11.symm⟩))).trans (congrArg Value.ref fa)]; exact F13)⟩
            · --
              refine Go.st (fun _ kont => Jvm.RoadKit.acmp (g := (mkF m 37 #[.val (.ref a), .val (.ref b), .unset] [(.ref b), (.ref (r 3))])) X10 hx rfl rfl rfl (pc0 := 37) (pc' := 47) (same := false) rfl (hb hby d2_37) rfl (decide_eq_false fun q => hc37_11 (Value.ref.inj q)) (by decide) (by decide) kont) ?_
              show Go p e s below _ _ _ T10 (mkF m 47 #[.val (.ref a), .val (.ref b), .unset] [])
              refine Go.st (fun _ kont => XS.aconstNull X10.here hx rfl (hb hby d2_47) kont) ?_
              show Go p e s below _ _ _ T10 (mkF m 48 #[.val (.ref a), .val (.ref b), .unset] [.null])
              refine Go.st (fun _ kont => XS.astoreN X10.here hx rfl (hb hby d2_48) rfl rfl (l' := #[.val (.ref a), .val (.ref b), .val .null]) rfl kont) ?_
              show Go p e s below _ _ _ T10 (mkF m 49 #[.val (.ref a), .val (.ref b), .val .null] [])
              refine Go.st (fun _ kont => XS.aloadN X10.here hx rfl (hb hby d2_49) rfl rfl kont) ?_
              show Go p e s below _ _ _ T10 (mkF m 50 #[.val (.ref a), .val (.ref b), .val .null] [.null])
              refine Go.callS (W := 0) (argsL := [.null]) (rest := []) X10 hx hZ hown (y := (⟨"java/util/Optional", "ofNullable", "(Ljava/lang/Object;)Ljava/util/Optional;"⟩ : MethodName)) (hw _ (List.mem_of_getElem? (i := 41) rfl)) (hw _ (List.mem_of_getElem? (i := 42) rfl)) (hw _ (List.mem_of_getElem? (i := 43) rfl)) (hw _ (List.mem_of_getElem? (i := 44) rfl)) (rmO0 l Z a0 hw [] h0 n0 em SE EE FE) E10 (by decide) (by decide) (by decide) (by decide) (by decide) (by rw [hml]; rfl) (lenOf pd__Ljava_lang_Object__Ljava_util_Optional_ rfl) (Nat.le_of_eq rfl) (hb hby d2_50) ?_
              intro T14 v14 L14 X14 hQ14
              obtain ⟨rfl, N14, E14⟩ := hQ14
              have M14 := Fr.app M10 N14
              show Go p e s below _ _ _ T14 (mkF m 53 #[.val (.ref a), .val (.ref b), .val .null] [(.ref em)])
              exact Go.retA X14 hx hlk hret rfl rfl (hb hby d2_53) (by decide) (by decide) ⟨em, rfl, M14, (by rw [E14]; exact own_extR _), (by rw [E14]; exact EE), (by rw [E14, hq.2.2 (fun q => q.elim hc2_1 (fun q => q.elim hc9_4 (fun q => hc37_11 q.2.symm))) (fun q => q.elim (fun q => hc2_1 q.symm) (fun q => q.elim hc21_7 (fun q => fb q.1)))]; exact FE)⟩
        · --
          by_cases fb : b = r 4
          · --
            show Go p e s below _ _ _ T6 (mkF m 29 #[.val (.ref a), .val (.ref b), .unset] [])
            refine Go.st (fun _ kont => XS.aloadN X6.here hx rfl (hb hby d2_29) rfl rfl kont) ?_
            show Go p e s below _ _ _ T6 (mkF m 30 #[.val (.ref a), .val (.ref b), .unset] [(.ref a)])
            refine Go.callV (b := a) (W := 0) (argsL := []) (rest := []) X6 hx hZ hown (y := (⟨"com/example/restweave/restweave/raml/Family", "facets", "()Lcom/example/restweave/restweave/raml/Family;"⟩ : MethodName)) (z := (⟨"com/example/restweave/restweave/raml/Family", "facets", "()Lcom/example/restweave/restweave/raml/Family;"⟩ : MethodName)) (hw _ (List.mem_of_getElem? (i := 61) rfl)) (hw _ (List.mem_of_getElem? (i := 62) rfl)) (notFace_of_selects (args := #[]) (mvT hZ (hw _ (List.mem_of_getElem? (i := 64) rfl)))) (hw _ (List.mem_of_getElem? (i := 64) rfl)) (hw _ (List.mem_of_getElem? (i := 63) rfl)) (hw _ (List.mem_of_getElem? (i := 3) rfl)) (hw _ (List.mem_of_getElem? (i := 65) rfl)) (rmf l Z a0 hw [] a a h0 n0 r C0 ⟨fun q => absurd q fa, fun _ => rfl⟩) e6 Ea (by decide) (by decide) (by decide) (by decide) (by decide) (by rw [hml]; rfl) (lenOf pd___Lcom_example_restweave_restweave_raml_Family_ rfl) (Nat.le_of_eq rfl) (hb hby d2_30) ?_
            intro T15 v15 L15 X15 hQ15
            obtain ⟨rfl, N15, E15⟩ := hQ15
            have M15 := Fr.app N0 N15
            show Go p e s below _ _ _ T15 (mkF m 33 #[.val (.ref a), .val (.ref b), .unset] [(.ref a)])
            refine Go.st (fun _ kont => XS.aloadN X15.here hx rfl (hb hby d2_33) rfl rfl kont) ?_
            show Go p e s below _ _ _ T15 (mkF m 34 #[.val (.ref a), .val (.ref b), .unset] [(.ref b), (.ref a)])
            refine Go.callV (b := b) (W := 1) (argsL := []) (rest := [(.ref a)]) X15 hx hZ hown (y := (⟨"com/example/restweave/restweave/raml/Family", "facets", "()Lcom/example/restweave/restweave/raml/Family;"⟩ : MethodName)) (z := (⟨"com/example/restweave/restweave/raml/Family", "facets", "()Lcom/example/restweave/restweave/raml/Family;"⟩ : MethodName)) (hw _ (List.mem_of_getElem? (i := 61) rfl)) (hw _ (List.mem_of_getElem? (i := 62) rfl)) (notFace_of_selects (args := #[]) (mvT hZ (hw _ (List.mem_of_getElem? (i := 64) rfl)))) (hw _ (List.mem_of_getElem? (i := 64) rfl)) (hw _ (List.mem_of_getElem? (i := 63) rfl)) (hw _ (List.mem_of_getElem? (i := 3) rfl)) (hw _ (List.mem_of_getElem? (i := 65) rfl)) (rmf l Z a0 hw [] b (r 3) h0 n0 r C0 ⟨fun _ => rfl, fun q => absurd fb q⟩) E15 Eb (by decide) (by decide) (by decide) (by decide) (by decide) (by rw [hml]; rfl) (lenOf pd___Lcom_example_restweave_restweave_raml_Family_ rfl) (Nat.le_of_eq rfl) (hb hby d2_34) ?_
            intro T16 v16 L16 X16 hQ16
            obtain ⟨rfl, N16, E16⟩ := hQ16
            have M16 := Fr.app M15 N16
            show Go p e s below _ _ _ T16 (mkF m 37 #[.val (.ref a), .val (.ref b), .unset] [(.ref (r 3)), (.ref a)])
            by_cases hc37_17 : a = (r 3)
            · --
              refine Go.st (fun _ kont => Jvm.RoadKit.acmp (g := (mkF m 37 #[.val (.ref a), .val (.ref b), .unset] [(.ref (r 3)), (.ref a)])) X16 hx rfl rfl rfl (pc0 := 37) (pc' := 40) (same := true) rfl (hb hby d2_37) rfl (decide_eq_true (congrArg Value.ref hc37_17)) (by decide) (by decide) kont) ?_
              show Go p e s below _ _ _ T16 (mkF m 40 #[.val (.ref a), .val (.ref b), .unset] [])
              obtain ⟨T18, X18, e18, st18⟩ := getS2 X16 hx hZ hown (host := "") (Or.inl (hw _ (List.mem_of_getElem? (i := 66) rfl))) Via.refl E16 (C0 4 "INTEGER" 4 rfl rfl).1 (g := (mkF m 40 #[.val (.ref a), .val (.ref b), .unset] [])) rfl (hb hby d2_40)
              refine Go.st st18 ?_
              show Go p e s below _ _ _ T18 (mkF m 43 #[.val (.ref a), .val (.ref b), .unset] [(.ref (r 4))])
              refine Go.st (fun _ kont => XS.astoreN X18.here hx rfl (hb hby d2_43) rfl rfl (l' := #[.val (.ref a), .val (.ref b), .val (.ref (r 4))]) rfl kont) ?_
              show Go p e s below _ _ _ T18 (mkF m 44 #[.val (.ref a), .val (.ref b), .val (.ref (r 4))] [])
              refine Go.st (fun _ kont => XS.goto X18.here hx rfl (pc0 := 44) (pc' := 49) rfl (hb hby d2_44) (by decide) (by decide) kont) ?_
              show Go p e s below _ _ _ T18 (mkF m 49 #[.val (.ref a), .val (.ref b), .val (.ref (r 4))] [])
              refine Go.st (fun _ kont => XS.aloadN X18.here hx rfl (hb hby d2_49) rfl rfl kont) ?_
              show Go p e s below _ _ _ T18 (mkF m 50 #[.val (.ref a), .val (.ref b), .val (.ref (r 4))] [(.ref (r 4))])
              refine Go.callS (W := 0) (argsL := [(.ref (r 4))]) (rest := []) X18 hx hZ hown (y := (⟨"java/util/Optional", "ofNullable", "(Ljava/lang/Object;)Ljava/util/Optional;"⟩ : MethodName)) (hw _ (List.mem_of_getElem? (i := 41) rfl)) (hw _ (List.mem_of_getElem? (i := 42) rfl)) (hw _ (List.mem_of_getElem? (i := 43) rfl)) (hw _ (List.mem_of_getElem? (i := 44) rfl)) (rmO1 l Z a0 hw [] (r 4) h0 n0 Z0) e18 (by decide) (by decide) (by decide) (by decide) (by decide) (by rw [hml]; rfl) (lenOf pd__Ljava_lang_Object__Ljava_util_Optional_ rfl) (Nat.le_of_eq rfl) (hb hby d2_50) ?_
              intro T19 v19 L19 X19 hQ19
              obtain ⟨h19, e19⟩ : ∃ z, T19.heap = z := ⟨_, rfl⟩
              rw [e19] at hQ19
              obtain ⟨o19, rfl, N19, Q19, A19, F19⟩ := hQ19
              have M19 := Fr.app M16 N19
              show Go p e s below _ _ _ T19 (mkF m 53 #[.val (.ref a), .val (.ref b), .val (.ref (r 4))] [(.ref o19)])
              exact Go.retA X19 hx hlk hret rfl rfl (hb hby d2_53) (by decide) (by decide) ⟨o19, rfl, M19, (by rw [e19]; exact Q19), (by rw [e19]; exact A19), (by rw [e19, (hq.2.1 (fun q => q.elim hc2_1 (fun q => q.elim hc9_4 (fun q => fa q.1))) (Or.inr (Or.inr ⟨fb, hc37_17⟩))).trans (congrArg Value.ref fb)]; exact F19)⟩
            · --
              refine Go.st (fun _ kont => Jvm.RoadKit.acmp (g := (mkF m 37 #[.val (.ref a), .val (.ref b), .unset] [(.ref (r 3)), (.ref a)])) X16 hx rfl rfl rfl (pc0 := 37) (pc' := 47) (same := false) rfl (hb hby d2_37) rfl (decide_eq_false fun q => hc37_17 (Value.ref.inj q)) (by decide) (by decide) kont) ?_
              show Go p e s below _ _ _ T16 (mkF m 47 #[.val (.ref a), .val (.ref b), .unset] [])
              refine Go.st (fun _ kont => XS.aconstNull X16.here hx rfl (hb hby d2_47) kont) ?_
              show Go p e s below _ _ _ T16 (mkF m 48 #[.val (.ref a), .val (.ref b), .unset] [.null])
              refine Go.st (fun _ kont => XS.astoreN X16.here hx rfl (hb hby d2_48) rfl rfl (l' := #[.val (.ref a), .val (.ref b), .val .null]) rfl kont) ?_
              show Go p e s below _ _ _ T16 (mkF m 49 #[.val (.ref a), .val (.ref b), .val .null] [])
              refine Go.st (fun _ kont => XS.aloadN X16.here hx rfl (hb hby d2_49) rfl rfl kont) ?_
              show Go p e s below _ _ _ T16 (mkF m 50 #[.val (.ref a), .val (.ref b), .val .null] [.null])
              refine Go.callS (W := 0) (argsL := [.null]) (rest := []) X16 hx hZ hown (y := (⟨"java/util/Optional", "ofNullable", "(Ljava/lang/Object;)Ljava/util/Optional;"⟩ : MethodName)) (hw _ (List.mem_of_getElem? (i := 41) rfl)) (hw _ (List.mem_of_getElem? (i := 42) rfl)) (hw _ (List.mem_of_getElem? (i := 43) rfl)) (hw _ (List.mem_of_getElem? (i := 44) rfl)) (rmO0 l Z a0 hw [] h0 n0 em SE EE FE) E16 (by decide) (by decide) (by decide) (by decide) (by decide) (by rw [hml]; rfl) (lenOf pd__Ljava_lang_Object__Ljava_util_Optional_ rfl) (Nat.le_of_eq rfl) (hb hby d2_50) ?_
              intro T20 v20 L20 X20 hQ20
              obtain ⟨rfl, N20, E20⟩ := hQ20
              have M20 := Fr.app M16 N20
              show Go p e s below _ _ _ T20 (mkF m 53 #[.val (.ref a), .val (.ref b), .val .null] [(.ref em)])
              exact Go.retA X20 hx hlk hret rfl rfl (hb hby d2_53) (by decide) (by decide) ⟨em, rfl, M20, (by rw [E20]; exact own_extR _), (by rw [E20]; exact EE), (by rw [E20, hq.2.2 (fun q => q.elim hc2_1 (fun q => q.elim hc9_4 (fun q => fa q.1))) (fun q => q.elim (fun q => hc2_1 q.symm) (fun q => q.elim hc21_7 (fun q => hc37_17 q.2)))]; exact FE)⟩
          · --
            show Go p e s below _ _ _ T6 (mkF m 29 #[.val (.ref a), .val (.ref b), .unset] [])
            refine Go.st (fun _ kont => XS.aloadN X6.here hx rfl (hb hby d2_29) rfl rfl kont) ?_
            show Go p e s below _ _ _ T6 (mkF m 30 #[.val (.ref a), .val (.ref b), .unset] [(.ref a)])
            refine Go.callV (b := a) (W := 0) (argsL := []) (rest := []) X6 hx hZ hown (y := (⟨"com/example/restweave/restweave/raml/Family", "facets", "()Lcom/example/restweave/restweave/raml/Family;"⟩ : MethodName)) (z := (⟨"com/example/restweave/restweave/raml/Family", "facets", "()Lcom/example/restweave/restweave/raml/Family;"⟩ : MethodName)) (hw _ (List.mem_of_getElem? (i := 61) rfl)) (hw _ (List.mem_of_getElem? (i := 62) rfl)) (notFace_of_selects (args := #[]) (mvT hZ (hw _ (List.mem_of_getElem? (i := 64) rfl)))) (hw _ (List.mem_of_getElem? (i := 64) rfl)) (hw _ (List.mem_of_getElem? (i := 63) rfl)) (hw _ (List.mem_of_getElem? (i := 3) rfl)) (hw _ (List.mem_of_getElem? (i := 65) rfl)) (rmf l Z a0 hw [] a a h0 n0 r C0 ⟨fun q => absurd q fa, fun _ => rfl⟩) e6 Ea (by decide) (by decide) (by decide) (by decide) (by decide) (by rw [hml]; rfl) (lenOf pd___Lcom_example_restweave_restweave_raml_Family_ rfl) (Nat.le_of_eq rfl) (hb hby d2_30) ?_
            intro T21 v21 L21 X21 hQ21
            obtain ⟨rfl, N21, E21⟩ := hQ21
            have M21 := Fr.app N0 N21
            show Go p e s below _ _ _ T21 (mkF m 33 #[.val (.ref a), .val (.ref b), .unset] [(.ref a)])
            refine Go.st (fun _ kont => XS.aloadN X21.here hx rfl (hb hby d2_33) rfl rfl kont) ?_
            show Go p e s below _ _ _ T21 (mkF m 34 #[.val (.ref a), .val (.ref b), .unset] [(.ref b), (.ref a)])
            refine Go.callV (b := b) (W := 1) (argsL := []) (rest := [(.ref a)]) X21 hx hZ hown (y := (⟨"com/example/restweave/restweave/raml/Family", "facets", "()Lcom/example/restweave/restweave/raml/Family;"⟩ : MethodName)) (z := (⟨"com/example/restweave/restweave/raml/Family", "facets", "()Lcom/example/restweave/restweave/raml/Family;"⟩ : MethodName)) (hw _ (List.mem_of_getElem? (i := 61) rfl)) (hw _ (List.mem_of_getElem? (i := 62) rfl)) (notFace_of_selects (args := #[]) (mvT hZ (hw _ (List.mem_of_getElem? (i := 64) rfl)))) (hw _ (List.mem_of_getElem? (i := 64) rfl)) (hw _ (List.mem_of_getElem? (i := 63) rfl)) (hw _ (List.mem_of_getElem? (i := 3) rfl)) (hw _ (List.mem_of_getElem? (i := 65) rfl)) (rmf l Z a0 hw [] b b h0 n0 r C0 ⟨fun q => absurd q fb, fun _ => rfl⟩) E21 Eb (by decide) (by decide) (by decide) (by decide) (by decide) (by rw [hml]; rfl) (lenOf pd___Lcom_example_restweave_restweave_raml_Family_ rfl) (Nat.le_of_eq rfl) (hb hby d2_34) ?_
            intro T22 v22 L22 X22 hQ22
            obtain ⟨rfl, N22, E22⟩ := hQ22
            have M22 := Fr.app M21 N22
            show Go p e s below _ _ _ T22 (mkF m 37 #[.val (.ref a), .val (.ref b), .unset] [(.ref b), (.ref a)])
            refine Go.st (fun _ kont => Jvm.RoadKit.acmp (g := (mkF m 37 #[.val (.ref a), .val (.ref b), .unset] [(.ref b), (.ref a)])) X22 hx rfl rfl rfl (pc0 := 37) (pc' := 47) (same := false) rfl (hb hby d2_37) rfl (decide_eq_false fun q => hc2_1 (Value.ref.inj q)) (by decide) (by decide) kont) ?_
            show Go p e s below _ _ _ T22 (mkF m 47 #[.val (.ref a), .val (.ref b), .unset] [])
            refine Go.st (fun _ kont => XS.aconstNull X22.here hx rfl (hb hby d2_47) kont) ?_
            show Go p e s below _ _ _ T22 (mkF m 48 #[.val (.ref a), .val (.ref b), .unset] [.null])
            refine Go.st (fun _ kont => XS.astoreN X22.here hx rfl (hb hby d2_48) rfl rfl (l' := #[.val (.ref a), .val (.ref b), .val .null]) rfl kont) ?_
            show Go p e s below _ _ _ T22 (mkF m 49 #[.val (.ref a), .val (.ref b), .val .null] [])
            refine Go.st (fun _ kont => XS.aloadN X22.here hx rfl (hb hby d2_49) rfl rfl kont) ?_
            show Go p e s below _ _ _ T22 (mkF m 50 #[.val (.ref a), .val (.ref b), .val .null] [.null])
            refine Go.callS (W := 0) (argsL := [.null]) (rest := []) X22 hx hZ hown (y := (⟨"java/util/Optional", "ofNullable", "(Ljava/lang/Object;)Ljava/util/Optional;"⟩ : MethodName)) (hw _ (List.mem_of_getElem? (i := 41) rfl)) (hw _ (List.mem_of_getElem? (i := 42) rfl)) (hw _ (List.mem_of_getElem? (i := 43) rfl)) (hw _ (List.mem_of_getElem? (i := 44) rfl)) (rmO0 l Z a0 hw [] h0 n0 em SE EE FE) E22 (by decide) (by decide) (by decide) (by decide) (by decide) (by rw [hml]; rfl) (lenOf pd__Ljava_lang_Object__Ljava_util_Optional_ rfl) (Nat.le_of_eq rfl) (hb hby d2_50) ?_
            intro T23 v23 L23 X23 hQ23
            obtain ⟨rfl, N23, E23⟩ := hQ23
            have M23 := Fr.app M22 N23
            show Go p e s below _ _ _ T23 (mkF m 53 #[.val (.ref a), .val (.ref b), .val .null] [(.ref em)])
            exact Go.retA X23 hx hlk hret rfl rfl (hb hby d2_53) (by decide) (by decide) ⟨em, rfl, M23, (by rw [E23]; exact own_extR _), (by rw [E23]; exact EE), (by rw [E23, hq.2.2 (fun q => q.elim hc2_1 (fun q => q.elim hc9_4 (fun q => fa q.1))) (fun q => q.elim (fun q => hc2_1 q.symm) (fun q => q.elim hc21_7 (fun q => fb q.1)))]; exact FE)⟩
theorem pd__Lcom_example_restweave_restweave_raml_Family_Lcom_example_restweave_restweave_raml_Family__Z : parseMethodDescriptor "(Lcom/example/restweave/restweave/raml/Family;Lcom/example/restweave/restweave/raml/Family;)Z" = some ⟨[(.object "com/example/restweave/restweave/raml/Family"), (.object "com/example/restweave/restweave/raml/Family")], some .boolean⟩ := by decide +kernel
theorem pd__Lcom_example_restweave_restweave_raml_Family_Lcom_example_restweave_restweave_raml_Family__Ljava_util_Optional_ : parseMethodDescriptor "(Lcom/example/restweave/restweave/raml/Family;Lcom/example/restweave/restweave/raml/Family;)Ljava/util/Optional;" = some ⟨[(.object "com/example/restweave/restweave/raml/Family"), (.object "com/example/restweave/restweave/raml/Family")], some (.object "java/util/Optional")⟩ := by decide +kernel
theorem pd__Ljava_lang_Object__Ljava_lang_Object_ : parseMethodDescriptor "(Ljava/lang/Object;)Ljava/lang/Object;" = some ⟨[(.object "java/lang/Object")], some (.object "java/lang/Object")⟩ := by decide +kernel
theorem ef_0 (m : MethodId) (x0 : Int32) (x1 : Int32) : entryFrame m #[(.int x0), (.int x1)] maxLocals = mkF m 0 #[.val (.int x0), .val (.int x1), .unset, .unset, .unset, .unset, .unset, .unset] [] := by first | (simp [entryFrame, mkF, argsToLocals, Value.category, maxLocals]; done) | rfl
set_option maxRecDepth 65536 in
set_option maxHeartbeats 40000000 in
theorem rm0 (l : Launch) (Z : State) (a0 : Array Value) (hw : ∀ d ∈ tables_1, d.before a0 Z = true) (ws : List Jvm.Cond) (p0 p1 : Int32) (h0 : Heap) (n0 : Nat) (Z0 : n0 ≤ h0.size) (r : Nat → Addr) (C0 : Cs Z h0 r) (em : Addr) (SE : Sta Z h0 "java/util/Optional" "EMPTY" "Ljava/util/Optional;" (.ref em)) (EE : Exa Z h0 em "java/util/Optional") (FE : Fld Z h0 em "java/util/Optional" "value" "Ljava/lang/Object;" .null) :
    Meets l Z x code maxLocals ret room_1 ws #[(.int p0), (.int p1)] h0 (fun v h L => v = some (.int 1) ∧ Fr n0 L) := by
  refine Meets.of (plainFor_of_name (by first | (simp [plainName, overriddenIn]; done) | decide +kernel : plainName "com/example/restweave/restweave/raml/FamilyCombinedPinLaw" = true)) ?_
  intro p e s m below meth c s₁ X0 hx hby hml hret hlk hnm hZ hown e0
  replace hown : s.vm.findClass "com/example/restweave/restweave/raml/FamilyCombinedPinLaw" = some m.cls := hown
  have N0 := Fr.nil n0
  have Q0 := own_extR h0
  refine Go.cast (ef_0 m p0 p1) ?_
  show Go p e s below _ _ _ s₁ (mkF m 0 #[.val (.int p0), .val (.int p1), .unset, .unset, .unset, .unset, .unset, .unset] [])
  refine Go.st (fun _ kont => XT.bipushV X0.here hx rfl (14 : Int32) (hb hby at_0) (by decide) kont) ?_
  show Go p e s below _ _ _ s₁ (mkF m 2 #[.val (.int p0), .val (.int p1), .unset, .unset, .unset, .unset, .unset, .unset] [(.int (14 : Int32))])
  obtain ⟨T1, h1, k1, X1, e1, E1, A1, O1, st1⟩ := newR X0 hx hZ hown (hw _ (List.mem_of_getElem? (i := 0) rfl)) (hw _ (List.mem_of_getElem? (i := 1) rfl)) e0 (g := (mkF m 2 #[.val (.int p0), .val (.int p1), .unset, .unset, .unset, .unset, .unset, .unset] [(.int (14 : Int32))])) rfl (hb hby at_2) rfl (by decide) (cap := 14) (by decide) (by decide) (by decide) (by decide)
  obtain ⟨b1, g1⟩ : ∃ z, z = h0.size := ⟨_, rfl⟩
  rw [← g1] at A1 st1
  have sz1 : h0.size ≤ b1 := Nat.le_trans Q0.1 (Nat.le_of_eq g1.symm)
  have gn1 : n0 ≤ b1 := Nat.le_trans Z0 sz1
  refine Go.st st1 ?_
  have Q_1 : Ext h0 h1 := own_extE Q0 E1
  have V_b1 : Arv Z h1 b1 k1 (.object "com/example/restweave/restweave/raml/Family") (14 : Int32) [.null, .null, .null, .null, .null, .null, .null, .null, .null, .null, .null, .null, .null, .null] .null := (Arv.new A1 (by decide)).pad (pad_rep [] .null 14)
  show Go p e s below _ _ _ T1 (mkF m 5 #[.val (.int p0), .val (.int p1), .unset, .unset, .unset, .unset, .unset, .unset] [(.ref b1)])
  refine Go.st (fun _ kont => XS.dup X1.here hx rfl (hb hby at_5) rfl rfl kont) ?_
  show Go p e s below _ _ _ T1 (mkF m 6 #[.val (.int p0), .val (.int p1), .unset, .unset, .unset, .unset, .unset, .unset] [(.ref b1), (.ref b1)])
  refine Go.st (fun _ kont => XT.iconstV X1.here hx rfl (0 : Int32) (hb hby at_6) (by decide) kont) ?_
  show Go p e s below _ _ _ T1 (mkF m 7 #[.val (.int p0), .val (.int p1), .unset, .unset, .unset, .unset, .unset, .unset] [(.int (0 : Int32)), (.ref b1), (.ref b1)])
  obtain ⟨T2, X2, e2, st2⟩ := getS2 X1 hx hZ hown (host := "") (Or.inl (hw _ (List.mem_of_getElem? (i := 2) rfl))) Via.refl e1 ((C0.ext Q_1) 0 "ANY" 0 rfl rfl).1 (g := (mkF m 7 #[.val (.int p0), .val (.int p1), .unset, .unset, .unset, .unset, .unset, .unset] [(.int (0 : Int32)), (.ref b1), (.ref b1)])) rfl (hb hby at_7)
  refine Go.st st2 ?_
  show Go p e s below _ _ _ T2 (mkF m 10 #[.val (.int p0), .val (.int p1), .unset, .unset, .unset, .unset, .unset, .unset] [(.ref (r 0)), (.int (0 : Int32)), (.ref b1), (.ref b1)])
  obtain ⟨cl3, Ar3, q3, S3, M3, H3, G3⟩ := (id V_b1)
  have in3 : ¬ ((0 : Int32) < 0 ∨ cl3.slots.size ≤ ((0 : Int32)).toNatClampNeg) := inb_of S3 ⟨by decide, by decide⟩
  obtain ⟨T3, h3, X3, e3, W3, st3⟩ := stR X2 hx hZ e2 Ar3 (j := (0 : Int32)) in3 rfl (Sto.ofV Ar3 q3 O1 (Ins.self ((C0.ext Q_1) 0 "ANY" 0 rfl rfl).2.1)) (g := (mkF m 10 #[.val (.int p0), .val (.int p1), .unset, .unset, .unset, .unset, .unset, .unset] [(.ref (r 0)), (.int (0 : Int32)), (.ref b1), (.ref b1)])) rfl rfl (hb hby at_10)
  refine Go.st st3 ?_
  have V_b1_3 : Arv Z h3 b1 k1 (.object "com/example/restweave/restweave/raml/Family") (14 : Int32) [(.ref (r 0)), .null, .null, .null, .null, .null, .null, .null, .null, .null, .null, .null, .null, .null] .null := Arv.set Ar3 q3 S3 M3 H3 G3 rfl W3 0 rfl (by simp)
  have Q_3 : Ext h0 h3 := own_extW Q_1 W3 sz1
  have N3 := Fr.snoc X3 N0 gn1
  show Go p e s below _ _ _ T3 (mkF m 11 #[.val (.int p0), .val (.int p1), .unset, .unset, .unset, .unset, .unset, .unset] [(.ref b1)])
  refine Go.st (fun _ kont => XS.dup X3.here hx rfl (hb hby at_11) rfl rfl kont) ?_
  show Go p e s below _ _ _ T3 (mkF m 12 #[.val (.int p0), .val (.int p1), .unset, .unset, .unset, .unset, .unset, .unset] [(.ref b1), (.ref b1)])
  refine Go.st (fun _ kont => XT.iconstV X3.here hx rfl (1 : Int32) (hb hby at_12) (by decide) kont) ?_
  show Go p e s below _ _ _ T3 (mkF m 13 #[.val (.int p0), .val (.int p1), .unset, .unset, .unset, .unset, .unset, .unset] [(.int (1 : Int32)), (.ref b1), (.ref b1)])
  obtain ⟨T4, X4, e4, st4⟩ := getS2 X3 hx hZ hown (host := "") (Or.inl (hw _ (List.mem_of_getElem? (i := 6) rfl))) Via.refl e3 ((C0.ext Q_3) 1 "OBJECT" 1 rfl rfl).1 (g := (mkF m 13 #[.val (.int p0), .val (.int p1), .unset, .unset, .unset, .unset, .unset, .unset] [(.int (1 : Int32)), (.ref b1), (.ref b1)])) rfl (hb hby at_13)
  refine Go.st st4 ?_
  show Go p e s below _ _ _ T4 (mkF m 16 #[.val (.int p0), .val (.int p1), .unset, .unset, .unset, .unset, .unset, .unset] [(.ref (r 1)), (.int (1 : Int32)), (.ref b1), (.ref b1)])
  obtain ⟨cl5, Ar5, q5, S5, M5, H5, G5⟩ := (id V_b1_3)
  have in5 : ¬ ((1 : Int32) < 0 ∨ cl5.slots.size ≤ ((1 : Int32)).toNatClampNeg) := inb_of S5 ⟨by decide, by decide⟩
  obtain ⟨T5, h5, X5, e5, W5, st5⟩ := stR X4 hx hZ e4 Ar5 (j := (1 : Int32)) in5 rfl (Sto.ofV Ar5 q5 O1 (Ins.self ((C0.ext Q_3) 1 "OBJECT" 1 rfl rfl).2.1)) (g := (mkF m 16 #[.val (.int p0), .val (.int p1), .unset, .unset, .unset, .unset, .unset, .unset] [(.ref (r 1)), (.int (1 : Int32)), (.ref b1), (.ref b1)])) rfl rfl (hb hby at_16)
  refine Go.st st5 ?_
  have V_b1_5 : Arv Z h5 b1 k1 (.object "com/example/restweave/restweave/raml/Family") (14 : Int32) [(.ref (r 0)), (.ref (r 1)), .null, .null, .null, .null, .null, .null, .null, .null, .null, .null, .null, .null] .null := Arv.set Ar5 q5 S5 M5 H5 G5 rfl W5 1 rfl (by simp)
  have Q_5 : Ext h0 h5 := own_extW Q_3 W5 sz1
  have N5 := Fr.snoc X5 N3 gn1
  show Go p e s below _ _ _ T5 (mkF m 17 #[.val (.int p0), .val (.int p1), .unset, .unset, .unset, .unset, .unset, .unset] [(.ref b1)])
  refine Go.st (fun _ kont => XS.dup X5.here hx rfl (hb hby at_17) rfl rfl kont) ?_
  show Go p e s below _ _ _ T5 (mkF m 18 #[.val (.int p0), .val (.int p1), .unset, .unset, .unset, .unset, .unset, .unset] [(.ref b1), (.ref b1)])
  refine Go.st (fun _ kont => XT.iconstV X5.here hx rfl (2 : Int32) (hb hby at_18) (by decide) kont) ?_
  show Go p e s below _ _ _ T5 (mkF m 19 #[.val (.int p0), .val (.int p1), .unset, .unset, .unset, .unset, .unset, .unset] [(.int (2 : Int32)), (.ref b1), (.ref b1)])
  obtain ⟨T6, X6, e6, st6⟩ := getS2 X5 hx hZ hown (host := "") (Or.inl (hw _ (List.mem_of_getElem? (i := 8) rfl))) Via.refl e5 ((C0.ext Q_5) 2 "ARRAY" 2 rfl rfl).1 (g := (mkF m 19 #[.val (.int p0), .val (.int p1), .unset, .unset, .unset, .unset, .unset, .unset] [(.int (2 : Int32)), (.ref b1), (.ref b1)])) rfl (hb hby at_19)
  refine Go.st st6 ?_
  show Go p e s below _ _ _ T6 (mkF m 22 #[.val (.int p0), .val (.int p1), .unset, .unset, .unset, .unset, .unset, .unset] [(.ref (r 2)), (.int (2 : Int32)), (.ref b1), (.ref b1)])
  obtain ⟨cl7, Ar7, q7, S7, M7, H7, G7⟩ := (id V_b1_5)
  have in7 : ¬ ((2 : Int32) < 0 ∨ cl7.slots.size ≤ ((2 : Int32)).toNatClampNeg) := inb_of S7 ⟨by decide, by decide⟩
  obtain ⟨T7, h7, X7, e7, W7, st7⟩ := stR X6 hx hZ e6 Ar7 (j := (2 : Int32)) in7 rfl (Sto.ofV Ar7 q7 O1 (Ins.self ((C0.ext Q_5) 2 "ARRAY" 2 rfl rfl).2.1)) (g := (mkF m 22 #[.val (.int p0), .val (.int p1), .unset, .unset, .unset, .unset, .unset, .unset] [(.ref (r 2)), (.int (2 : Int32)), (.ref b1), (.ref b1)])) rfl rfl (hb hby at_22)
  refine Go.st st7 ?_
  have V_b1_7 : Arv Z h7 b1 k1 (.object "com/example/restweave/restweave/raml/Family") (14 : Int32) [(.ref (r 0)), (.ref (r 1)), (.ref (r 2)), .null, .null, .null, .null, .null, .null, .null, .null, .null, .null, .null] .null := Arv.set Ar7 q7 S7 M7 H7 G7 rfl W7 2 rfl (by simp)
  have Q_7 : Ext h0 h7 := own_extW Q_5 W7 sz1
  have N7 := Fr.snoc X7 N5 gn1
  show Go p e s below _ _ _ T7 (mkF m 23 #[.val (.int p0), .val (.int p1), .unset, .unset, .unset, .unset, .unset, .unset] [(.ref b1)])
  refine Go.st (fun _ kont => XS.dup X7.here hx rfl (hb hby at_23) rfl rfl kont) ?_
  show Go p e s below _ _ _ T7 (mkF m 24 #[.val (.int p0), .val (.int p1), .unset, .unset, .unset, .unset, .unset, .unset] [(.ref b1), (.ref b1)])
  refine Go.st (fun _ kont => XT.iconstV X7.here hx rfl (3 : Int32) (hb hby at_24) (by decide) kont) ?_
  show Go p e s below _ _ _ T7 (mkF m 25 #[.val (.int p0), .val (.int p1), .unset, .unset, .unset, .unset, .unset, .unset] [(.int (3 : Int32)), (.ref b1), (.ref b1)])
  obtain ⟨T8, X8, e8, st8⟩ := getS2 X7 hx hZ hown (host := "") (Or.inl (hw _ (List.mem_of_getElem? (i := 10) rfl))) Via.refl e7 ((C0.ext Q_7) 3 "NUMBER" 3 rfl rfl).1 (g := (mkF m 25 #[.val (.int p0), .val (.int p1), .unset, .unset, .unset, .unset, .unset, .unset] [(.int (3 : Int32)), (.ref b1), (.ref b1)])) rfl (hb hby at_25)
  refine Go.st st8 ?_
  show Go p e s below _ _ _ T8 (mkF m 28 #[.val (.int p0), .val (.int p1), .unset, .unset, .unset, .unset, .unset, .unset] [(.ref (r 3)), (.int (3 : Int32)), (.ref b1), (.ref b1)])
  obtain ⟨cl9, Ar9, q9, S9, M9, H9, G9⟩ := (id V_b1_7)
  have in9 : ¬ ((3 : Int32) < 0 ∨ cl9.slots.size ≤ ((3 : Int32)).toNatClampNeg) := inb_of S9 ⟨by decide, by decide⟩
  obtain ⟨T9, h9, X9, e9, W9, st9⟩ := stR X8 hx hZ e8 Ar9 (j := (3 : Int32)) in9 rfl (Sto.ofV Ar9 q9 O1 (Ins.self ((C0.ext Q_7) 3 "NUMBER" 3 rfl rfl).2.1)) (g := (mkF m 28 #[.val (.int p0), .val (.int p1), .unset, .unset, .unset, .unset, .unset, .unset] [(.ref (r 3)), (.int (3 : Int32)), (.ref b1), (.ref b1)])) rfl rfl (hb hby at_28)
  refine Go.st st9 ?_
  have V_b1_9 : Arv Z h9 b1 k1 (.object "com/example/restweave/restweave/raml/Family") (14 : Int32) [(.ref (r 0)), (.ref (r 1)), (.ref (r 2)), (.ref (r 3)), .null, .null, .null, .null, .null, .null, .null, .null, .null, .null] .null := Arv.set Ar9 q9 S9 M9 H9 G9 rfl W9 3 rfl (by simp)
  have Q_9 : Ext h0 h9 := own_extW Q_7 W9 sz1
  have N9 := Fr.snoc X9 N7 gn1
  show Go p e s below _ _ _ T9 (mkF m 29 #[.val (.int p0), .val (.int p1), .unset, .unset, .unset, .unset, .unset, .unset] [(.ref b1)])
  refine Go.st (fun _ kont => XS.dup X9.here hx rfl (hb hby at_29) rfl rfl kont) ?_
  show Go p e s below _ _ _ T9 (mkF m 30 #[.val (.int p0), .val (.int p1), .unset, .unset, .unset, .unset, .unset, .unset] [(.ref b1), (.ref b1)])
  refine Go.st (fun _ kont => XT.iconstV X9.here hx rfl (4 : Int32) (hb hby at_30) (by decide) kont) ?_
  show Go p e s below _ _ _ T9 (mkF m 31 #[.val (.int p0), .val (.int p1), .unset, .unset, .unset, .unset, .unset, .unset] [(.int (4 : Int32)), (.ref b1), (.ref b1)])
  obtain ⟨T10, X10, e10, st10⟩ := getS2 X9 hx hZ hown (host := "") (Or.inl (hw _ (List.mem_of_getElem? (i := 12) rfl))) Via.refl e9 ((C0.ext Q_9) 4 "INTEGER" 4 rfl rfl).1 (g := (mkF m 31 #[.val (.int p0), .val (.int p1), .unset, .unset, .unset, .unset, .unset, .unset] [(.int (4 : Int32)), (.ref b1), (.ref b1)])) rfl (hb hby at_31)
  refine Go.st st10 ?_
  show Go p e s below _ _ _ T10 (mkF m 34 #[.val (.int p0), .val (.int p1), .unset, .unset, .unset, .unset, .unset, .unset] [(.ref (r 4)), (.int (4 : Int32)), (.ref b1), (.ref b1)])
  obtain ⟨cl11, Ar11, q11, S11, M11, H11, G11⟩ := (id V_b1_9)
  have in11 : ¬ ((4 : Int32) < 0 ∨ cl11.slots.size ≤ ((4 : Int32)).toNatClampNeg) := inb_of S11 ⟨by decide, by decide⟩
  obtain ⟨T11, h11, X11, e11, W11, st11⟩ := stR X10 hx hZ e10 Ar11 (j := (4 : Int32)) in11 rfl (Sto.ofV Ar11 q11 O1 (Ins.self ((C0.ext Q_9) 4 "INTEGER" 4 rfl rfl).2.1)) (g := (mkF m 34 #[.val (.int p0), .val (.int p1), .unset, .unset, .unset, .unset, .unset, .unset] [(.ref (r 4)), (.int (4 : Int32)), (.ref b1), (.ref b1)])) rfl rfl (hb hby at_34)
  refine Go.st st11 ?_
  have V_b1_11 : Arv Z h11 b1 k1 (.object "com/example/restweave/restweave/raml/Family") (14 : Int32) [(.ref (r 0)), (.ref (r 1)), (.ref (r 2)), (.ref (r 3)), (.ref (r 4)), .null, .null, .null, .null, .null, .null, .null, .null, .null] .null := Arv.set Ar11 q11 S11 M11 H11 G11 rfl W11 4 rfl (by simp)
  have Q_11 : Ext h0 h11 := own_extW Q_9 W11 sz1
  have N11 := Fr.snoc X11 N9 gn1
  show Go p e s below _ _ _ T11 (mkF m 35 #[.val (.int p0), .val (.int p1), .unset, .unset, .unset, .unset, .unset, .unset] [(.ref b1)])
  refine Go.st (fun _ kont => XS.dup X11.here hx rfl (hb hby at_35) rfl rfl kont) ?_
  show Go p e s below _ _ _ T11 (mkF m 36 #[.val (.int p0), .val (.int p1), .unset, .unset, .unset, .unset, .unset, .unset] [(.ref b1), (.ref b1)])
  refine Go.st (fun _ kont => XT.iconstV X11.here hx rfl (5 : Int32) (hb hby at_36) (by decide) kont) ?_
  show Go p e s below _ _ _ T11 (mkF m 37 #[.val (.int p0), .val (.int p1), .unset, .unset, .unset, .unset, .unset, .unset] [(.int (5 : Int32)), (.ref b1), (.ref b1)])
  obtain ⟨T12, X12, e12, st12⟩ := getS2 X11 hx hZ hown (host := "") (Or.inl (hw _ (List.mem_of_getElem? (i := 14) rfl))) Via.refl e11 ((C0.ext Q_11) 5 "BOOLEAN" 5 rfl rfl).1 (g := (mkF m 37 #[.val (.int p0), .val (.int p1), .unset, .unset, .unset, .unset, .unset, .unset] [(.int (5 : Int32)), (.ref b1), (.ref b1)])) rfl (hb hby at_37)
  refine Go.st st12 ?_
  show Go p e s below _ _ _ T12 (mkF m 40 #[.val (.int p0), .val (.int p1), .unset, .unset, .unset, .unset, .unset, .unset] [(.ref (r 5)), (.int (5 : Int32)), (.ref b1), (.ref b1)])
  obtain ⟨cl13, Ar13, q13, S13, M13, H13, G13⟩ := (id V_b1_11)
  have in13 : ¬ ((5 : Int32) < 0 ∨ cl13.slots.size ≤ ((5 : Int32)).toNatClampNeg) := inb_of S13 ⟨by decide, by decide⟩
  obtain ⟨T13, h13, X13, e13, W13, st13⟩ := stR X12 hx hZ e12 Ar13 (j := (5 : Int32)) in13 rfl (Sto.ofV Ar13 q13 O1 (Ins.self ((C0.ext Q_11) 5 "BOOLEAN" 5 rfl rfl).2.1)) (g := (mkF m 40 #[.val (.int p0), .val (.int p1), .unset, .unset, .unset, .unset, .unset, .unset] [(.ref (r 5)), (.int (5 : Int32)), (.ref b1), (.ref b1)])) rfl rfl (hb hby at_40)
  refine Go.st st13 ?_
  have V_b1_13 : Arv Z h13 b1 k1 (.object "com/example/restweave/restweave/raml/Family") (14 : Int32) [(.ref (r 0)), (.ref (r 1)), (.ref (r 2)), (.ref (r 3)), (.ref (r 4)), (.ref (r 5)), .null, .null, .null, .null, .null, .null, .null, .null] .null := Arv.set Ar13 q13 S13 M13 H13 G13 rfl W13 5 rfl (by simp)
  have Q_13 : Ext h0 h13 := own_extW Q_11 W13 sz1
  have N13 := Fr.snoc X13 N11 gn1
  show Go p e s below _ _ _ T13 (mkF m 41 #[.val (.int p0), .val (.int p1), .unset, .unset, .unset, .unset, .unset, .unset] [(.ref b1)])
  refine Go.st (fun _ kont => XS.dup X13.here hx rfl (hb hby at_41) rfl rfl kont) ?_
  show Go p e s below _ _ _ T13 (mkF m 42 #[.val (.int p0), .val (.int p1), .unset, .unset, .unset, .unset, .unset, .unset] [(.ref b1), (.ref b1)])
  refine Go.st (fun _ kont => XT.bipushV X13.here hx rfl (6 : Int32) (hb hby at_42) (by decide) kont) ?_
  show Go p e s below _ _ _ T13 (mkF m 44 #[.val (.int p0), .val (.int p1), .unset, .unset, .unset, .unset, .unset, .unset] [(.int (6 : Int32)), (.ref b1), (.ref b1)])
  obtain ⟨T14, X14, e14, st14⟩ := getS2 X13 hx hZ hown (host := "") (Or.inl (hw _ (List.mem_of_getElem? (i := 16) rfl))) Via.refl e13 ((C0.ext Q_13) 6 "STRING" 6 rfl rfl).1 (g := (mkF m 44 #[.val (.int p0), .val (.int p1), .unset, .unset, .unset, .unset, .unset, .unset] [(.int (6 : Int32)), (.ref b1), (.ref b1)])) rfl (hb hby at_44)
  refine Go.st st14 ?_
  show Go p e s below _ _ _ T14 (mkF m 47 #[.val (.int p0), .val (.int p1), .unset, .unset, .unset, .unset, .unset, .unset] [(.ref (r 6)), (.int (6 : Int32)), (.ref b1), (.ref b1)])
  obtain ⟨cl15, Ar15, q15, S15, M15, H15, G15⟩ := (id V_b1_13)
  have in15 : ¬ ((6 : Int32) < 0 ∨ cl15.slots.size ≤ ((6 : Int32)).toNatClampNeg) := inb_of S15 ⟨by decide, by decide⟩
  obtain ⟨T15, h15, X15, e15, W15, st15⟩ := stR X14 hx hZ e14 Ar15 (j := (6 : Int32)) in15 rfl (Sto.ofV Ar15 q15 O1 (Ins.self ((C0.ext Q_13) 6 "STRING" 6 rfl rfl).2.1)) (g := (mkF m 47 #[.val (.int p0), .val (.int p1), .unset, .unset, .unset, .unset, .unset, .unset] [(.ref (r 6)), (.int (6 : Int32)), (.ref b1), (.ref b1)])) rfl rfl (hb hby at_47)
  refine Go.st st15 ?_
  have V_b1_15 : Arv Z h15 b1 k1 (.object "com/example/restweave/restweave/raml/Family") (14 : Int32) [(.ref (r 0)), (.ref (r 1)), (.ref (r 2)), (.ref (r 3)), (.ref (r 4)), (.ref (r 5)), (.ref (r 6)), .null, .null, .null, .null, .null, .null, .null] .null := Arv.set Ar15 q15 S15 M15 H15 G15 rfl W15 6 rfl (by simp)
  have Q_15 : Ext h0 h15 := own_extW Q_13 W15 sz1
  have N15 := Fr.snoc X15 N13 gn1
  show Go p e s below _ _ _ T15 (mkF m 48 #[.val (.int p0), .val (.int p1), .unset, .unset, .unset, .unset, .unset, .unset] [(.ref b1)])
  refine Go.st (fun _ kont => XS.dup X15.here hx rfl (hb hby at_48) rfl rfl kont) ?_
  show Go p e s below _ _ _ T15 (mkF m 49 #[.val (.int p0), .val (.int p1), .unset, .unset, .unset, .unset, .unset, .unset] [(.ref b1), (.ref b1)])
  refine Go.st (fun _ kont => XT.bipushV X15.here hx rfl (7 : Int32) (hb hby at_49) (by decide) kont) ?_
  show Go p e s below _ _ _ T15 (mkF m 51 #[.val (.int p0), .val (.int p1), .unset, .unset, .unset, .unset, .unset, .unset] [(.int (7 : Int32)), (.ref b1), (.ref b1)])
  obtain ⟨T16, X16, e16, st16⟩ := getS2 X15 hx hZ hown (host := "") (Or.inl (hw _ (List.mem_of_getElem? (i := 18) rfl))) Via.refl e15 ((C0.ext Q_15) 7 "DATE_ONLY" 7 rfl rfl).1 (g := (mkF m 51 #[.val (.int p0), .val (.int p1), .unset, .unset, .unset, .unset, .unset, .unset] [(.int (7 : Int32)), (.ref b1), (.ref b1)])) rfl (hb hby at_51)
  refine Go.st st16 ?_
  show Go p e s below _ _ _ T16 (mkF m 54 #[.val (.int p0), .val (.int p1), .unset, .unset, .unset, .unset, .unset, .unset] [(.ref (r 7)), (.int (7 : Int32)), (.ref b1), (.ref b1)])
  obtain ⟨cl17, Ar17, q17, S17, M17, H17, G17⟩ := (id V_b1_15)
  have in17 : ¬ ((7 : Int32) < 0 ∨ cl17.slots.size ≤ ((7 : Int32)).toNatClampNeg) := inb_of S17 ⟨by decide, by decide⟩
  obtain ⟨T17, h17, X17, e17, W17, st17⟩ := stR X16 hx hZ e16 Ar17 (j := (7 : Int32)) in17 rfl (Sto.ofV Ar17 q17 O1 (Ins.self ((C0.ext Q_15) 7 "DATE_ONLY" 7 rfl rfl).2.1)) (g := (mkF m 54 #[.val (.int p0), .val (.int p1), .unset, .unset, .unset, .unset, .unset, .unset] [(.ref (r 7)), (.int (7 : Int32)), (.ref b1), (.ref b1)])) rfl rfl (hb hby at_54)
  refine Go.st st17 ?_
  have V_b1_17 : Arv Z h17 b1 k1 (.object "com/example/restweave/restweave/raml/Family") (14 : Int32) [(.ref (r 0)), (.ref (r 1)), (.ref (r 2)), (.ref (r 3)), (.ref (r 4)), (.ref (r 5)), (.ref (r 6)), (.ref (r 7)), .null, .null, .null, .null, .null, .null] .null := Arv.set Ar17 q17 S17 M17 H17 G17 rfl W17 7 rfl (by simp)
  have Q_17 : Ext h0 h17 := own_extW Q_15 W17 sz1
  have N17 := Fr.snoc X17 N15 gn1
  show Go p e s below _ _ _ T17 (mkF m 55 #[.val (.int p0), .val (.int p1), .unset, .unset, .unset, .unset, .unset, .unset] [(.ref b1)])
  refine Go.st (fun _ kont => XS.dup X17.here hx rfl (hb hby at_55) rfl rfl kont) ?_
  show Go p e s below _ _ _ T17 (mkF m 56 #[.val (.int p0), .val (.int p1), .unset, .unset, .unset, .unset, .unset, .unset] [(.ref b1), (.ref b1)])
  refine Go.st (fun _ kont => XT.bipushV X17.here hx rfl (8 : Int32) (hb hby at_56) (by decide) kont) ?_
  show Go p e s below _ _ _ T17 (mkF m 58 #[.val (.int p0), .val (.int p1), .unset, .unset, .unset, .unset, .unset, .unset] [(.int (8 : Int32)), (.ref b1), (.ref b1)])
  obtain ⟨T18, X18, e18, st18⟩ := getS2 X17 hx hZ hown (host := "") (Or.inl (hw _ (List.mem_of_getElem? (i := 20) rfl))) Via.refl e17 ((C0.ext Q_17) 8 "TIME_ONLY" 8 rfl rfl).1 (g := (mkF m 58 #[.val (.int p0), .val (.int p1), .unset, .unset, .unset, .unset, .unset, .unset] [(.int (8 : Int32)), (.ref b1), (.ref b1)])) rfl (hb hby at_58)
  refine Go.st st18 ?_
  show Go p e s below _ _ _ T18 (mkF m 61 #[.val (.int p0), .val (.int p1), .unset, .unset, .unset, .unset, .unset, .unset] [(.ref (r 8)), (.int (8 : Int32)), (.ref b1), (.ref b1)])
  obtain ⟨cl19, Ar19, q19, S19, M19, H19, G19⟩ := (id V_b1_17)
  have in19 : ¬ ((8 : Int32) < 0 ∨ cl19.slots.size ≤ ((8 : Int32)).toNatClampNeg) := inb_of S19 ⟨by decide, by decide⟩
  obtain ⟨T19, h19, X19, e19, W19, st19⟩ := stR X18 hx hZ e18 Ar19 (j := (8 : Int32)) in19 rfl (Sto.ofV Ar19 q19 O1 (Ins.self ((C0.ext Q_17) 8 "TIME_ONLY" 8 rfl rfl).2.1)) (g := (mkF m 61 #[.val (.int p0), .val (.int p1), .unset, .unset, .unset, .unset, .unset, .unset] [(.ref (r 8)), (.int (8 : Int32)), (.ref b1), (.ref b1)])) rfl rfl (hb hby at_61)
  refine Go.st st19 ?_
  have V_b1_19 : Arv Z h19 b1 k1 (.object "com/example/restweave/restweave/raml/Family") (14 : Int32) [(.ref (r 0)), (.ref (r 1)), (.ref (r 2)), (.ref (r 3)), (.ref (r 4)), (.ref (r 5)), (.ref (r 6)), (.ref (r 7)), (.ref (r 8)), .null, .null, .null, .null, .null] .null := Arv.set Ar19 q19 S19 M19 H19 G19 rfl W19 8 rfl (by simp)
  have Q_19 : Ext h0 h19 := own_extW Q_17 W19 sz1
  have N19 := Fr.snoc X19 N17 gn1
  show Go p e s below _ _ _ T19 (mkF m 62 #[.val (.int p0), .val (.int p1), .unset, .unset, .unset, .unset, .unset, .unset] [(.ref b1)])
  refine Go.st (fun _ kont => XS.dup X19.here hx rfl (hb hby at_62) rfl rfl kont) ?_
  show Go p e s below _ _ _ T19 (mkF m 63 #[.val (.int p0), .val (.int p1), .unset, .unset, .unset, .unset, .unset, .unset] [(.ref b1), (.ref b1)])
  refine Go.st (fun _ kont => XT.bipushV X19.here hx rfl (9 : Int32) (hb hby at_63) (by decide) kont) ?_
  show Go p e s below _ _ _ T19 (mkF m 65 #[.val (.int p0), .val (.int p1), .unset, .unset, .unset, .unset, .unset, .unset] [(.int (9 : Int32)), (.ref b1), (.ref b1)])
  obtain ⟨T20, X20, e20, st20⟩ := getS2 X19 hx hZ hown (host := "") (Or.inl (hw _ (List.mem_of_getElem? (i := 22) rfl))) Via.refl e19 ((C0.ext Q_19) 9 "DATETIME_ONLY" 9 rfl rfl).1 (g := (mkF m 65 #[.val (.int p0), .val (.int p1), .unset, .unset, .unset, .unset, .unset, .unset] [(.int (9 : Int32)), (.ref b1), (.ref b1)])) rfl (hb hby at_65)
  refine Go.st st20 ?_
  show Go p e s below _ _ _ T20 (mkF m 68 #[.val (.int p0), .val (.int p1), .unset, .unset, .unset, .unset, .unset, .unset] [(.ref (r 9)), (.int (9 : Int32)), (.ref b1), (.ref b1)])
  obtain ⟨cl21, Ar21, q21, S21, M21, H21, G21⟩ := (id V_b1_19)
  have in21 : ¬ ((9 : Int32) < 0 ∨ cl21.slots.size ≤ ((9 : Int32)).toNatClampNeg) := inb_of S21 ⟨by decide, by decide⟩
  obtain ⟨T21, h21, X21, e21, W21, st21⟩ := stR X20 hx hZ e20 Ar21 (j := (9 : Int32)) in21 rfl (Sto.ofV Ar21 q21 O1 (Ins.self ((C0.ext Q_19) 9 "DATETIME_ONLY" 9 rfl rfl).2.1)) (g := (mkF m 68 #[.val (.int p0), .val (.int p1), .unset, .unset, .unset, .unset, .unset, .unset] [(.ref (r 9)), (.int (9 : Int32)), (.ref b1), (.ref b1)])) rfl rfl (hb hby at_68)
  refine Go.st st21 ?_
  have V_b1_21 : Arv Z h21 b1 k1 (.object "com/example/restweave/restweave/raml/Family") (14 : Int32) [(.ref (r 0)), (.ref (r 1)), (.ref (r 2)), (.ref (r 3)), (.ref (r 4)), (.ref (r 5)), (.ref (r 6)), (.ref (r 7)), (.ref (r 8)), (.ref (r 9)), .null, .null, .null, .null] .null := Arv.set Ar21 q21 S21 M21 H21 G21 rfl W21 9 rfl (by simp)
  have Q_21 : Ext h0 h21 := own_extW Q_19 W21 sz1
  have N21 := Fr.snoc X21 N19 gn1
  show Go p e s below _ _ _ T21 (mkF m 69 #[.val (.int p0), .val (.int p1), .unset, .unset, .unset, .unset, .unset, .unset] [(.ref b1)])
  refine Go.st (fun _ kont => XS.dup X21.here hx rfl (hb hby at_69) rfl rfl kont) ?_
  show Go p e s below _ _ _ T21 (mkF m 70 #[.val (.int p0), .val (.int p1), .unset, .unset, .unset, .unset, .unset, .unset] [(.ref b1), (.ref b1)])
  refine Go.st (fun _ kont => XT.bipushV X21.here hx rfl (10 : Int32) (hb hby at_70) (by decide) kont) ?_
  show Go p e s below _ _ _ T21 (mkF m 72 #[.val (.int p0), .val (.int p1), .unset, .unset, .unset, .unset, .unset, .unset] [(.int (10 : Int32)), (.ref b1), (.ref b1)])
  obtain ⟨T22, X22, e22, st22⟩ := getS2 X21 hx hZ hown (host := "") (Or.inl (hw _ (List.mem_of_getElem? (i := 24) rfl))) Via.refl e21 ((C0.ext Q_21) 10 "DATETIME" 10 rfl rfl).1 (g := (mkF m 72 #[.val (.int p0), .val (.int p1), .unset, .unset, .unset, .unset, .unset, .unset] [(.int (10 : Int32)), (.ref b1), (.ref b1)])) rfl (hb hby at_72)
  refine Go.st st22 ?_
  show Go p e s below _ _ _ T22 (mkF m 75 #[.val (.int p0), .val (.int p1), .unset, .unset, .unset, .unset, .unset, .unset] [(.ref (r 10)), (.int (10 : Int32)), (.ref b1), (.ref b1)])
  obtain ⟨cl23, Ar23, q23, S23, M23, H23, G23⟩ := (id V_b1_21)
  have in23 : ¬ ((10 : Int32) < 0 ∨ cl23.slots.size ≤ ((10 : Int32)).toNatClampNeg) := inb_of S23 ⟨by decide, by decide⟩
  obtain ⟨T23, h23, X23, e23, W23, st23⟩ := stR X22 hx hZ e22 Ar23 (j := (10 : Int32)) in23 rfl (Sto.ofV Ar23 q23 O1 (Ins.self ((C0.ext Q_21) 10 "DATETIME" 10 rfl rfl).2.1)) (g := (mkF m 75 #[.val (.int p0), .val (.int p1), .unset, .unset, .unset, .unset, .unset, .unset] [(.ref (r 10)), (.int (10 : Int32)), (.ref b1), (.ref b1)])) rfl rfl (hb hby at_75)
  refine Go.st st23 ?_
  have V_b1_23 : Arv Z h23 b1 k1 (.object "com/example/restweave/restweave/raml/Family") (14 : Int32) [(.ref (r 0)), (.ref (r 1)), (.ref (r 2)), (.ref (r 3)), (.ref (r 4)), (.ref (r 5)), (.ref (r 6)), (.ref (r 7)), (.ref (r 8)), (.ref (r 9)), (.ref (r 10)), .null, .null, .null] .null := Arv.set Ar23 q23 S23 M23 H23 G23 rfl W23 10 rfl (by simp)
  have Q_23 : Ext h0 h23 := own_extW Q_21 W23 sz1
  have N23 := Fr.snoc X23 N21 gn1
  show Go p e s below _ _ _ T23 (mkF m 76 #[.val (.int p0), .val (.int p1), .unset, .unset, .unset, .unset, .unset, .unset] [(.ref b1)])
  refine Go.st (fun _ kont => XS.dup X23.here hx rfl (hb hby at_76) rfl rfl kont) ?_
  show Go p e s below _ _ _ T23 (mkF m 77 #[.val (.int p0), .val (.int p1), .unset, .unset, .unset, .unset, .unset, .unset] [(.ref b1), (.ref b1)])
  refine Go.st (fun _ kont => XT.bipushV X23.here hx rfl (11 : Int32) (hb hby at_77) (by decide) kont) ?_
  show Go p e s below _ _ _ T23 (mkF m 79 #[.val (.int p0), .val (.int p1), .unset, .unset, .unset, .unset, .unset, .unset] [(.int (11 : Int32)), (.ref b1), (.ref b1)])
  obtain ⟨T24, X24, e24, st24⟩ := getS2 X23 hx hZ hown (host := "") (Or.inl (hw _ (List.mem_of_getElem? (i := 26) rfl))) Via.refl e23 ((C0.ext Q_23) 11 "FILE" 11 rfl rfl).1 (g := (mkF m 79 #[.val (.int p0), .val (.int p1), .unset, .unset, .unset, .unset, .unset, .unset] [(.int (11 : Int32)), (.ref b1), (.ref b1)])) rfl (hb hby at_79)
  refine Go.st st24 ?_
  show Go p e s below _ _ _ T24 (mkF m 82 #[.val (.int p0), .val (.int p1), .unset, .unset, .unset, .unset, .unset, .unset] [(.ref (r 11)), (.int (11 : Int32)), (.ref b1), (.ref b1)])
  obtain ⟨cl25, Ar25, q25, S25, M25, H25, G25⟩ := (id V_b1_23)
  have in25 : ¬ ((11 : Int32) < 0 ∨ cl25.slots.size ≤ ((11 : Int32)).toNatClampNeg) := inb_of S25 ⟨by decide, by decide⟩
  obtain ⟨T25, h25, X25, e25, W25, st25⟩ := stR X24 hx hZ e24 Ar25 (j := (11 : Int32)) in25 rfl (Sto.ofV Ar25 q25 O1 (Ins.self ((C0.ext Q_23) 11 "FILE" 11 rfl rfl).2.1)) (g := (mkF m 82 #[.val (.int p0), .val (.int p1), .unset, .unset, .unset, .unset, .unset, .unset] [(.ref (r 11)), (.int (11 : Int32)), (.ref b1), (.ref b1)])) rfl rfl (hb hby at_82)
  refine Go.st st25 ?_
  have V_b1_25 : Arv Z h25 b1 k1 (.object "com/example/restweave/restweave/raml/Family") (14 : Int32) [(.ref (r 0)), (.ref (r 1)), (.ref (r 2)), (.ref (r 3)), (.ref (r 4)), (.ref (r 5)), (.ref (r 6)), (.ref (r 7)), (.ref (r 8)), (.ref (r 9)), (.ref (r 10)), (.ref (r 11)), .null, .null] .null := Arv.set Ar25 q25 S25 M25 H25 G25 rfl W25 11 rfl (by simp)
  have Q_25 : Ext h0 h25 := own_extW Q_23 W25 sz1
  have N25 := Fr.snoc X25 N23 gn1
  show Go p e s below _ _ _ T25 (mkF m 83 #[.val (.int p0), .val (.int p1), .unset, .unset, .unset, .unset, .unset, .unset] [(.ref b1)])
  refine Go.st (fun _ kont => XS.dup X25.here hx rfl (hb hby at_83) rfl rfl kont) ?_
  show Go p e s below _ _ _ T25 (mkF m 84 #[.val (.int p0), .val (.int p1), .unset, .unset, .unset, .unset, .unset, .unset] [(.ref b1), (.ref b1)])
  refine Go.st (fun _ kont => XT.bipushV X25.here hx rfl (12 : Int32) (hb hby at_84) (by decide) kont) ?_
  show Go p e s below _ _ _ T25 (mkF m 86 #[.val (.int p0), .val (.int p1), .unset, .unset, .unset, .unset, .unset, .unset] [(.int (12 : Int32)), (.ref b1), (.ref b1)])
  obtain ⟨T26, X26, e26, st26⟩ := getS2 X25 hx hZ hown (host := "") (Or.inl (hw _ (List.mem_of_getElem? (i := 28) rfl))) Via.refl e25 ((C0.ext Q_25) 12 "NIL" 12 rfl rfl).1 (g := (mkF m 86 #[.val (.int p0), .val (.int p1), .unset, .unset, .unset, .unset, .unset, .unset] [(.int (12 : Int32)), (.ref b1), (.ref b1)])) rfl (hb hby at_86)
  refine Go.st st26 ?_
  show Go p e s below _ _ _ T26 (mkF m 89 #[.val (.int p0), .val (.int p1), .unset, .unset, .unset, .unset, .unset, .unset] [(.ref (r 12)), (.int (12 : Int32)), (.ref b1), (.ref b1)])
  obtain ⟨cl27, Ar27, q27, S27, M27, H27, G27⟩ := (id V_b1_25)
  have in27 : ¬ ((12 : Int32) < 0 ∨ cl27.slots.size ≤ ((12 : Int32)).toNatClampNeg) := inb_of S27 ⟨by decide, by decide⟩
  obtain ⟨T27, h27, X27, e27, W27, st27⟩ := stR X26 hx hZ e26 Ar27 (j := (12 : Int32)) in27 rfl (Sto.ofV Ar27 q27 O1 (Ins.self ((C0.ext Q_25) 12 "NIL" 12 rfl rfl).2.1)) (g := (mkF m 89 #[.val (.int p0), .val (.int p1), .unset, .unset, .unset, .unset, .unset, .unset] [(.ref (r 12)), (.int (12 : Int32)), (.ref b1), (.ref b1)])) rfl rfl (hb hby at_89)
  refine Go.st st27 ?_
  have V_b1_27 : Arv Z h27 b1 k1 (.object "com/example/restweave/restweave/raml/Family") (14 : Int32) [(.ref (r 0)), (.ref (r 1)), (.ref (r 2)), (.ref (r 3)), (.ref (r 4)), (.ref (r 5)), (.ref (r 6)), (.ref (r 7)), (.ref (r 8)), (.ref (r 9)), (.ref (r 10)), (.ref (r 11)), (.ref (r 12)), .null] .null := Arv.set Ar27 q27 S27 M27 H27 G27 rfl W27 12 rfl (by simp)
  have Q_27 : Ext h0 h27 := own_extW Q_25 W27 sz1
  have N27 := Fr.snoc X27 N25 gn1
  show Go p e s below _ _ _ T27 (mkF m 90 #[.val (.int p0), .val (.int p1), .unset, .unset, .unset, .unset, .unset, .unset] [(.ref b1)])
  refine Go.st (fun _ kont => XS.dup X27.here hx rfl (hb hby at_90) rfl rfl kont) ?_
  show Go p e s below _ _ _ T27 (mkF m 91 #[.val (.int p0), .val (.int p1), .unset, .unset, .unset, .unset, .unset, .unset] [(.ref b1), (.ref b1)])
  refine Go.st (fun _ kont => XT.bipushV X27.here hx rfl (13 : Int32) (hb hby at_91) (by decide) kont) ?_
  show Go p e s below _ _ _ T27 (mkF m 93 #[.val (.int p0), .val (.int p1), .unset, .unset, .unset, .unset, .unset, .unset] [(.int (13 : Int32)), (.ref b1), (.ref b1)])
  obtain ⟨T28, X28, e28, st28⟩ := getS2 X27 hx hZ hown (host := "") (Or.inl (hw _ (List.mem_of_getElem? (i := 30) rfl))) Via.refl e27 ((C0.ext Q_27) 13 "SCHEMA" 13 rfl rfl).1 (g := (mkF m 93 #[.val (.int p0), .val (.int p1), .unset, .unset, .unset, .unset, .unset, .unset] [(.int (13 : Int32)), (.ref b1), (.ref b1)])) rfl (hb hby at_93)
  refine Go.st st28 ?_
  show Go p e s below _ _ _ T28 (mkF m 96 #[.val (.int p0), .val (.int p1), .unset, .unset, .unset, .unset, .unset, .unset] [(.ref (r 13)), (.int (13 : Int32)), (.ref b1), (.ref b1)])
  obtain ⟨cl29, Ar29, q29, S29, M29, H29, G29⟩ := (id V_b1_27)
  have in29 : ¬ ((13 : Int32) < 0 ∨ cl29.slots.size ≤ ((13 : Int32)).toNatClampNeg) := inb_of S29 ⟨by decide, by decide⟩
  obtain ⟨T29, h29, X29, e29, W29, st29⟩ := stR X28 hx hZ e28 Ar29 (j := (13 : Int32)) in29 rfl (Sto.ofV Ar29 q29 O1 (Ins.self ((C0.ext Q_27) 13 "SCHEMA" 13 rfl rfl).2.1)) (g := (mkF m 96 #[.val (.int p0), .val (.int p1), .unset, .unset, .unset, .unset, .unset, .unset] [(.ref (r 13)), (.int (13 : Int32)), (.ref b1), (.ref b1)])) rfl rfl (hb hby at_96)
  refine Go.st st29 ?_
  have V_b1_29 : Arv Z h29 b1 k1 (.object "com/example/restweave/restweave/raml/Family") (14 : Int32) [(.ref (r 0)), (.ref (r 1)), (.ref (r 2)), (.ref (r 3)), (.ref (r 4)), (.ref (r 5)), (.ref (r 6)), (.ref (r 7)), (.ref (r 8)), (.ref (r 9)), (.ref (r 10)), (.ref (r 11)), (.ref (r 12)), (.ref (r 13))] .null := Arv.set Ar29 q29 S29 M29 H29 G29 rfl W29 13 rfl (by simp)
  have Q_29 : Ext h0 h29 := own_extW Q_27 W29 sz1
  have N29 := Fr.snoc X29 N27 gn1
  show Go p e s below _ _ _ T29 (mkF m 97 #[.val (.int p0), .val (.int p1), .unset, .unset, .unset, .unset, .unset, .unset] [(.ref b1)])
  refine Go.st (fun _ kont => XS.astoreN X29.here hx rfl (hb hby at_97) rfl rfl (l' := #[.val (.int p0), .val (.int p1), .val (.ref b1), .unset, .unset, .unset, .unset, .unset]) rfl kont) ?_
  show Go p e s below _ _ _ T29 (mkF m 98 #[.val (.int p0), .val (.int p1), .val (.ref b1), .unset, .unset, .unset, .unset, .unset] [])
  refine Go.st (fun _ kont => XS.aloadN X29.here hx rfl (hb hby at_98) rfl rfl kont) ?_
  show Go p e s below _ _ _ T29 (mkF m 99 #[.val (.int p0), .val (.int p1), .val (.ref b1), .unset, .unset, .unset, .unset, .unset] [(.ref b1)])
  refine Go.st (fun _ kont => XS.iloadN X29.here hx rfl (hb hby at_99) rfl kont) ?_
  show Go p e s below _ _ _ T29 (mkF m 100 #[.val (.int p0), .val (.int p1), .val (.ref b1), .unset, .unset, .unset, .unset, .unset] [(.int p0), (.ref b1)])
  refine Go.st (X29.ldcInt hx hown (mvT hZ (hw _ (List.mem_of_getElem? (i := 32) rfl))) (g := (mkF m 100 #[.val (.int p0), .val (.int p1), .val (.ref b1), .unset, .unset, .unset, .unset, .unset] [(.int p0), (.ref b1)])) rfl (hb hby at_100)) ?_
  show Go p e s below _ _ _ T29 (mkF m 102 #[.val (.int p0), .val (.int p1), .val (.ref b1), .unset, .unset, .unset, .unset, .unset] [(.int (2147483647 : Int32)), (.int p0), (.ref b1)])
  refine Go.st (fun _ kont => XS.iand X29.here hx rfl (hb hby at_102) rfl kont) ?_
  show Go p e s below _ _ _ T29 (mkF m 103 #[.val (.int p0), .val (.int p1), .val (.ref b1), .unset, .unset, .unset, .unset, .unset] [(.int (p0 &&& (2147483647 : Int32))), (.ref b1)])
  refine Go.st (fun _ kont => XT.bipushV X29.here hx rfl (14 : Int32) (hb hby at_103) (by decide) kont) ?_
  show Go p e s below _ _ _ T29 (mkF m 105 #[.val (.int p0), .val (.int p1), .val (.ref b1), .unset, .unset, .unset, .unset, .unset] [(.int (14 : Int32)), (.int (p0 &&& (2147483647 : Int32))), (.ref b1)])
  refine Go.st (fun _ kont => iremM X29 hx rfl (hb hby at_105) rfl (by decide) kont) ?_
  show Go p e s below _ _ _ T29 (mkF m 106 #[.val (.int p0), .val (.int p1), .val (.ref b1), .unset, .unset, .unset, .unset, .unset] [(.int ((p0 &&& (2147483647 : Int32)) % (14 : Int32))), (.ref b1)])
  obtain ⟨i, hi⟩ : ∃ z : Int32, z = ((p0 &&& (2147483647 : Int32)) % (14 : Int32)) := ⟨_, rfl⟩
  rw [← hi]
  show Go p e s below _ _ _ T29 (mkF m 106 #[.val (.int p0), .val (.int p1), .val (.ref b1), .unset, .unset, .unset, .unset, .unset] [(.int i), (.ref b1)])
  obtain ⟨j, hj1, hj2', hj3, hj4, hj5⟩ := own_modN (n := 14) (by decide) hi
  have hj2 : j < 14 := by have q : (14 : Int32).toInt = 14 := rfl; omega
  obtain ⟨cl30, Ar30, q30, S30, M30, H30, G30⟩ := (id V_b1_29)
  have in30 : ¬ (i < 0 ∨ cl30.slots.size ≤ (i).toNatClampNeg) := inb_of S30 ⟨hj4, hj5⟩
  refine Go.st (X29.aaload hx (j := i) (v := (.ref (r j))) (by rw [e29]; exact Ar30.1) (State.isArrayOf_alike hZ.alike Ar30.2.1) rfl Ar30.2.2 in30 (Has.at H30 in30 (by rw [hj3]; exact tab r j hj2)) (g := (mkF m 106 #[.val (.int p0), .val (.int p1), .val (.ref b1), .unset, .unset, .unset, .unset, .unset] [(.int i), (.ref b1)])) rfl rfl (hb hby at_106)) ?_
  show Go p e s below _ _ _ T29 (mkF m 107 #[.val (.int p0), .val (.int p1), .val (.ref b1), .unset, .unset, .unset, .unset, .unset] [(.ref (r j))])
  refine Go.st (fun _ kont => XS.astoreN X29.here hx rfl (hb hby at_107) rfl rfl (l' := #[.val (.int p0), .val (.int p1), .val (.ref b1), .val (.ref (r j)), .unset, .unset, .unset, .unset]) rfl kont) ?_
  show Go p e s below _ _ _ T29 (mkF m 108 #[.val (.int p0), .val (.int p1), .val (.ref b1), .val (.ref (r j)), .unset, .unset, .unset, .unset] [])
  refine Go.st (fun _ kont => XS.aloadN X29.here hx rfl (hb hby at_108) rfl rfl kont) ?_
  show Go p e s below _ _ _ T29 (mkF m 109 #[.val (.int p0), .val (.int p1), .val (.ref b1), .val (.ref (r j)), .unset, .unset, .unset, .unset] [(.ref b1)])
  refine Go.st (fun _ kont => XS.iloadN X29.here hx rfl (hb hby at_109) rfl kont) ?_
  show Go p e s below _ _ _ T29 (mkF m 110 #[.val (.int p0), .val (.int p1), .val (.ref b1), .val (.ref (r j)), .unset, .unset, .unset, .unset] [(.int p1), (.ref b1)])
  refine Go.st (X29.ldcInt hx hown (mvT hZ (hw _ (List.mem_of_getElem? (i := 32) rfl))) (g := (mkF m 110 #[.val (.int p0), .val (.int p1), .val (.ref b1), .val (.ref (r j)), .unset, .unset, .unset, .unset] [(.int p1), (.ref b1)])) rfl (hb hby at_110)) ?_
  show Go p e s below _ _ _ T29 (mkF m 112 #[.val (.int p0), .val (.int p1), .val (.ref b1), .val (.ref (r j)), .unset, .unset, .unset, .unset] [(.int (2147483647 : Int32)), (.int p1), (.ref b1)])
  refine Go.st (fun _ kont => XS.iand X29.here hx rfl (hb hby at_112) rfl kont) ?_
  show Go p e s below _ _ _ T29 (mkF m 113 #[.val (.int p0), .val (.int p1), .val (.ref b1), .val (.ref (r j)), .unset, .unset, .unset, .unset] [(.int (p1 &&& (2147483647 : Int32))), (.ref b1)])
  refine Go.st (fun _ kont => XT.bipushV X29.here hx rfl (14 : Int32) (hb hby at_113) (by decide) kont) ?_
  show Go p e s below _ _ _ T29 (mkF m 115 #[.val (.int p0), .val (.int p1), .val (.ref b1), .val (.ref (r j)), .unset, .unset, .unset, .unset] [(.int (14 : Int32)), (.int (p1 &&& (2147483647 : Int32))), (.ref b1)])
  refine Go.st (fun _ kont => iremM X29 hx rfl (hb hby at_115) rfl (by decide) kont) ?_
  show Go p e s below _ _ _ T29 (mkF m 116 #[.val (.int p0), .val (.int p1), .val (.ref b1), .val (.ref (r j)), .unset, .unset, .unset, .unset] [(.int ((p1 &&& (2147483647 : Int32)) % (14 : Int32))), (.ref b1)])
  obtain ⟨i', hi'⟩ : ∃ z : Int32, z = ((p1 &&& (2147483647 : Int32)) % (14 : Int32)) := ⟨_, rfl⟩
  rw [← hi']
  show Go p e s below _ _ _ T29 (mkF m 116 #[.val (.int p0), .val (.int p1), .val (.ref b1), .val (.ref (r j)), .unset, .unset, .unset, .unset] [(.int i'), (.ref b1)])
  obtain ⟨k, hk1, hk2', hk3, hk4, hk5⟩ := own_modN (n := 14) (by decide) hi'
  have hk2 : k < 14 := by have q : (14 : Int32).toInt = 14 := rfl; omega
  obtain ⟨cl31, Ar31, q31, S31, M31, H31, G31⟩ := (id V_b1_29)
  have in31 : ¬ (i' < 0 ∨ cl31.slots.size ≤ (i').toNatClampNeg) := inb_of S31 ⟨hk4, hk5⟩
  refine Go.st (X29.aaload hx (j := i') (v := (.ref (r k))) (by rw [e29]; exact Ar31.1) (State.isArrayOf_alike hZ.alike Ar31.2.1) rfl Ar31.2.2 in31 (Has.at H31 in31 (by rw [hk3]; exact tab r k hk2)) (g := (mkF m 116 #[.val (.int p0), .val (.int p1), .val (.ref b1), .val (.ref (r j)), .unset, .unset, .unset, .unset] [(.int i'), (.ref b1)])) rfl rfl (hb hby at_116)) ?_
  show Go p e s below _ _ _ T29 (mkF m 117 #[.val (.int p0), .val (.int p1), .val (.ref b1), .val (.ref (r j)), .unset, .unset, .unset, .unset] [(.ref (r k))])
  refine Go.st (fun _ kont => XS.astore X29.here hx rfl (hb hby at_117) rfl rfl (l' := #[.val (.int p0), .val (.int p1), .val (.ref b1), .val (.ref (r j)), .val (.ref (r k)), .unset, .unset, .unset]) rfl kont) ?_
  show Go p e s below _ _ _ T29 (mkF m 119 #[.val (.int p0), .val (.int p1), .val (.ref b1), .val (.ref (r j)), .val (.ref (r k)), .unset, .unset, .unset] [])
  by_cases hP1 : (r j = r k ∨ r k = r 0 ∨ (r j = r 4 ∧ r k = r 3))
  · --
    show Go p e s below _ _ _ T29 (mkF m 119 #[.val (.int p0), .val (.int p1), .val (.ref b1), .val (.ref (r j)), .val (.ref (r k)), .unset, .unset, .unset] [])
    refine Go.st (fun _ kont => XS.aloadN X29.here hx rfl (hb hby at_119) rfl rfl kont) ?_
    show Go p e s below _ _ _ T29 (mkF m 120 #[.val (.int p0), .val (.int p1), .val (.ref b1), .val (.ref (r j)), .val (.ref (r k)), .unset, .unset, .unset] [(.ref (r j))])
    refine Go.st (fun _ kont => XS.aload X29.here hx rfl (hb hby at_120) rfl rfl kont) ?_
    show Go p e s below _ _ _ T29 (mkF m 122 #[.val (.int p0), .val (.int p1), .val (.ref b1), .val (.ref (r j)), .val (.ref (r k)), .unset, .unset, .unset] [(.ref (r k)), (.ref (r j))])
    refine Go.callS (W := 0) (argsL := [(.ref (r j)), (.ref (r k))]) (rest := []) X29 hx hZ hown (y := (⟨"com/example/restweave/restweave/raml/FamilyCombinedPinLaw", "holds", "(Lcom/example/restweave/restweave/raml/Family;Lcom/example/restweave/restweave/raml/Family;)Z"⟩ : MethodName)) (hw _ (List.mem_of_getElem? (i := 33) rfl)) (hw _ (List.mem_of_getElem? (i := 34) rfl)) (hw _ (List.mem_of_getElem? (i := 35) rfl)) (hw _ (List.mem_of_getElem? (i := 36) rfl)) (rmh l Z a0 hw [] (r j) (r k) (1 : Int32) h29 n0 r (C0.ext Q_29) ⟨fun _ => rfl, fun q => absurd hP1 q⟩) e29 (by decide) (by decide) (by decide) (by decide) (by decide) (by rw [hml]; rfl) (lenOf pd__Lcom_example_restweave_restweave_raml_Family_Lcom_example_restweave_restweave_raml_Family__Z rfl) (Nat.le_of_eq rfl) (hb hby at_122) ?_
    intro T32 v32 L32 X32 hQ32
    obtain ⟨rfl, N32, E32⟩ := hQ32
    have M32 := Fr.app N29 N32
    show Go p e s below _ _ _ T32 (mkF m 125 #[.val (.int p0), .val (.int p1), .val (.ref b1), .val (.ref (r j)), .val (.ref (r k)), .unset, .unset, .unset] [(.int (1 : Int32))])
    refine Go.st (fun _ kont => XS.ifNo X32.here hx rfl (hb hby at_125) rfl ((if0 _ _).trans (feq (by decide : ¬ ((1 : Int32) = (0 : Int32)))).1) kont) ?_
    show Go p e s below _ _ _ T32 (mkF m 128 #[.val (.int p0), .val (.int p1), .val (.ref b1), .val (.ref (r j)), .val (.ref (r k)), .unset, .unset, .unset] [])
    refine Go.st (fun _ kont => XS.aloadN X32.here hx rfl (hb hby at_128) rfl rfl kont) ?_
    show Go p e s below _ _ _ T32 (mkF m 129 #[.val (.int p0), .val (.int p1), .val (.ref b1), .val (.ref (r j)), .val (.ref (r k)), .unset, .unset, .unset] [(.ref (r j))])
    refine Go.st (fun _ kont => XS.astore X32.here hx rfl (hb hby at_129) rfl rfl (l' := #[.val (.int p0), .val (.int p1), .val (.ref b1), .val (.ref (r j)), .val (.ref (r k)), .val (.ref (r j)), .unset, .unset]) rfl kont) ?_
    show Go p e s below _ _ _ T32 (mkF m 131 #[.val (.int p0), .val (.int p1), .val (.ref b1), .val (.ref (r j)), .val (.ref (r k)), .val (.ref (r j)), .unset, .unset] [])
    refine Go.st (fun _ kont => XS.goto X32.here hx rfl (pc0 := 131) (pc' := 153) rfl (hb hby at_131) (by decide) (by decide) kont) ?_
    show Go p e s below _ _ _ T32 (mkF m 153 #[.val (.int p0), .val (.int p1), .val (.ref b1), .val (.ref (r j)), .val (.ref (r k)), .val (.ref (r j)), .unset, .unset] [])
    refine Go.st (fun _ kont => XS.aloadN X32.here hx rfl (hb hby at_153) rfl rfl kont) ?_
    show Go p e s below _ _ _ T32 (mkF m 154 #[.val (.int p0), .val (.int p1), .val (.ref b1), .val (.ref (r j)), .val (.ref (r k)), .val (.ref (r j)), .unset, .unset] [(.ref (r j))])
    refine Go.st (fun _ kont => XS.aload X32.here hx rfl (hb hby at_154) rfl rfl kont) ?_
    show Go p e s below _ _ _ T32 (mkF m 156 #[.val (.int p0), .val (.int p1), .val (.ref b1), .val (.ref (r j)), .val (.ref (r k)), .val (.ref (r j)), .unset, .unset] [(.ref (r k)), (.ref (r j))])
    refine Go.callS (W := 0) (argsL := [(.ref (r j)), (.ref (r k))]) (rest := []) X32 hx hZ hown (y := (⟨"com/example/restweave/restweave/raml/Family", "combined", "(Lcom/example/restweave/restweave/raml/Family;Lcom/example/restweave/restweave/raml/Family;)Ljava/util/Optional;"⟩ : MethodName)) (hw _ (List.mem_of_getElem? (i := 37) rfl)) (hw _ (List.mem_of_getElem? (i := 38) rfl)) (hw _ (List.mem_of_getElem? (i := 3) rfl)) (hw _ (List.mem_of_getElem? (i := 39) rfl)) (rmc l Z a0 hw [] (r j) (r k) (.ref (r j)) h29 n0 (Nat.le_trans Z0 Q_29.1) r (C0.ext Q_29) em (SE.ext Q_29) (EE.ext Q_29) (FE.ext Q_29) ((C0.ext Q_29).exa hj2) ((C0.ext Q_29).exa hk2) ⟨fun _ => rfl, fun q => absurd hP1 q, fun q => absurd hP1 q⟩) E32 (by decide) (by decide) (by decide) (by decide) (by decide) (by rw [hml]; rfl) (lenOf pd__Lcom_example_restweave_restweave_raml_Family_Lcom_example_restweave_restweave_raml_Family__Ljava_util_Optional_ rfl) (Nat.le_of_eq rfl) (hb hby at_156) ?_
    intro T33 v33 L33 X33 hQ33
    obtain ⟨h33, e33⟩ : ∃ z, T33.heap = z := ⟨_, rfl⟩
    rw [e33] at hQ33
    obtain ⟨o33, rfl, N33, E33, A33, F33⟩ := hQ33
    have M33 := Fr.app M32 N33
    have Q_33 : Ext h0 h33 := own_extE Q_29 E33
    have V_b1_33 := V_b1_29.ext E33
    show Go p e s below _ _ _ T33 (mkF m 159 #[.val (.int p0), .val (.int p1), .val (.ref b1), .val (.ref (r j)), .val (.ref (r k)), .val (.ref (r j)), .unset, .unset] [(.ref o33)])
    refine Go.st (fun _ kont => XS.astore X33.here hx rfl (hb hby at_159) rfl rfl (l' := #[.val (.int p0), .val (.int p1), .val (.ref b1), .val (.ref (r j)), .val (.ref (r k)), .val (.ref (r j)), .val (.ref o33), .unset]) rfl kont) ?_
    show Go p e s below _ _ _ T33 (mkF m 161 #[.val (.int p0), .val (.int p1), .val (.ref b1), .val (.ref (r j)), .val (.ref (r k)), .val (.ref (r j)), .val (.ref o33), .unset] [])
    refine Go.st (fun _ kont => XS.aload X33.here hx rfl (hb hby at_161) rfl rfl kont) ?_
    show Go p e s below _ _ _ T33 (mkF m 163 #[.val (.int p0), .val (.int p1), .val (.ref b1), .val (.ref (r j)), .val (.ref (r k)), .val (.ref (r j)), .val (.ref o33), .unset] [(.ref o33)])
    refine Go.st (fun _ kont => XS.ifnonnullYes X33.here hx rfl (pc0 := 163) (pc' := 168) rfl (hb hby at_163) rfl (by decide) (by decide) kont) ?_
    show Go p e s below _ _ _ T33 (mkF m 168 #[.val (.int p0), .val (.int p1), .val (.ref b1), .val (.ref (r j)), .val (.ref (r k)), .val (.ref (r j)), .val (.ref o33), .unset] [])
    refine Go.st (fun _ kont => XS.aload X33.here hx rfl (hb hby at_168) rfl rfl kont) ?_
    show Go p e s below _ _ _ T33 (mkF m 170 #[.val (.int p0), .val (.int p1), .val (.ref b1), .val (.ref (r j)), .val (.ref (r k)), .val (.ref (r j)), .val (.ref o33), .unset] [(.ref o33)])
    refine Go.st (fun _ kont => XS.aconstNull X33.here hx rfl (hb hby at_170) kont) ?_
    show Go p e s below _ _ _ T33 (mkF m 171 #[.val (.int p0), .val (.int p1), .val (.ref b1), .val (.ref (r j)), .val (.ref (r k)), .val (.ref (r j)), .val (.ref o33), .unset] [.null, (.ref o33)])
    refine Go.callV (b := o33) (W := 0) (argsL := [.null]) (rest := []) X33 hx hZ hown (y := (⟨"java/util/Optional", "orElse", "(Ljava/lang/Object;)Ljava/lang/Object;"⟩ : MethodName)) (z := (⟨"java/util/Optional", "orElse", "(Ljava/lang/Object;)Ljava/lang/Object;"⟩ : MethodName)) (hw _ (List.mem_of_getElem? (i := 56) rfl)) (hw _ (List.mem_of_getElem? (i := 57) rfl)) (notFace_of_selects (args := #[]) (mvT hZ (hw _ (List.mem_of_getElem? (i := 59) rfl)))) (hw _ (List.mem_of_getElem? (i := 59) rfl)) (hw _ (List.mem_of_getElem? (i := 58) rfl)) (hw _ (List.mem_of_getElem? (i := 43) rfl)) (hw _ (List.mem_of_getElem? (i := 60) rfl)) (rmE1 l Z a0 hw [] o33 (r j) h33 n0 F33) e33 A33 (by decide) (by decide) (by decide) (by decide) (by decide) (by rw [hml]; rfl) (lenOf pd__Ljava_lang_Object__Ljava_lang_Object_ rfl) (Nat.le_of_eq rfl) (hb hby at_171) ?_
    intro T34 v34 L34 X34 hQ34
    obtain ⟨rfl, N34, E34⟩ := hQ34
    have M34 := Fr.app M33 N34
    show Go p e s below _ _ _ T34 (mkF m 174 #[.val (.int p0), .val (.int p1), .val (.ref b1), .val (.ref (r j)), .val (.ref (r k)), .val (.ref (r j)), .val (.ref o33), .unset] [(.ref (r j))])
    obtain ⟨T35, X35, e35, st35⟩ := castY X34 hx hZ hown (hw _ (List.mem_of_getElem? (i := 0) rfl)) E34 (Ins.self ((C0.ext Q_33).exa hj2)) (g := (mkF m 174 #[.val (.int p0), .val (.int p1), .val (.ref b1), .val (.ref (r j)), .val (.ref (r k)), .val (.ref (r j)), .val (.ref o33), .unset] [(.ref (r j))])) rfl rfl (hb hby at_174)
    refine Go.st st35 ?_
    show Go p e s below _ _ _ T35 (mkF m 177 #[.val (.int p0), .val (.int p1), .val (.ref b1), .val (.ref (r j)), .val (.ref (r k)), .val (.ref (r j)), .val (.ref o33), .unset] [(.ref (r j))])
    refine Go.st (fun _ kont => XS.astore X35.here hx rfl (hb hby at_177) rfl rfl (l' := #[.val (.int p0), .val (.int p1), .val (.ref b1), .val (.ref (r j)), .val (.ref (r k)), .val (.ref (r j)), .val (.ref o33), .val (.ref (r j))]) rfl kont) ?_
    show Go p e s below _ _ _ T35 (mkF m 179 #[.val (.int p0), .val (.int p1), .val (.ref b1), .val (.ref (r j)), .val (.ref (r k)), .val (.ref (r j)), .val (.ref o33), .val (.ref (r j))] [])
    refine Go.st (fun _ kont => XS.aload X35.here hx rfl (hb hby at_179) rfl rfl kont) ?_
    show Go p e s below _ _ _ T35 (mkF m 181 #[.val (.int p0), .val (.int p1), .val (.ref b1), .val (.ref (r j)), .val (.ref (r k)), .val (.ref (r j)), .val (.ref o33), .val (.ref (r j))] [(.ref (r j))])
    refine Go.st (fun _ kont => XS.aload X35.here hx rfl (hb hby at_181) rfl rfl kont) ?_
    show Go p e s below _ _ _ T35 (mkF m 183 #[.val (.int p0), .val (.int p1), .val (.ref b1), .val (.ref (r j)), .val (.ref (r k)), .val (.ref (r j)), .val (.ref o33), .val (.ref (r j))] [(.ref (r j)), (.ref (r j))])
    refine Go.st (fun _ kont => Jvm.RoadKit.acmp (g := (mkF m 183 #[.val (.int p0), .val (.int p1), .val (.ref b1), .val (.ref (r j)), .val (.ref (r k)), .val (.ref (r j)), .val (.ref o33), .val (.ref (r j))] [(.ref (r j)), (.ref (r j))])) X35 hx rfl rfl rfl (pc0 := 183) (pc' := 186) (same := true) rfl (hb hby at_183) rfl (decide_eq_true rfl) (by decide) (by decide) kont) ?_
    show Go p e s below _ _ _ T35 (mkF m 186 #[.val (.int p0), .val (.int p1), .val (.ref b1), .val (.ref (r j)), .val (.ref (r k)), .val (.ref (r j)), .val (.ref o33), .val (.ref (r j))] [])
    refine Go.st (fun _ kont => XT.iconstV X35.here hx rfl (1 : Int32) (hb hby at_186) (by decide) kont) ?_
    show Go p e s below _ _ _ T35 (mkF m 187 #[.val (.int p0), .val (.int p1), .val (.ref b1), .val (.ref (r j)), .val (.ref (r k)), .val (.ref (r j)), .val (.ref o33), .val (.ref (r j))] [(.int (1 : Int32))])
    refine Go.st (fun _ kont => XS.goto X35.here hx rfl (pc0 := 187) (pc' := 191) rfl (hb hby at_187) (by decide) (by decide) kont) ?_
    show Go p e s below _ _ _ T35 (mkF m 191 #[.val (.int p0), .val (.int p1), .val (.ref b1), .val (.ref (r j)), .val (.ref (r k)), .val (.ref (r j)), .val (.ref o33), .val (.ref (r j))] [(.int (1 : Int32))])
    exact Go.retN X35 hx hlk hret (by simp) (hb hby at_191) (by decide) (by decide) ⟨rfl, M34⟩
  · --
    show Go p e s below _ _ _ T29 (mkF m 119 #[.val (.int p0), .val (.int p1), .val (.ref b1), .val (.ref (r j)), .val (.ref (r k)), .unset, .unset, .unset] [])
    refine Go.st (fun _ kont => XS.aloadN X29.here hx rfl (hb hby at_119) rfl rfl kont) ?_
    show Go p e s below _ _ _ T29 (mkF m 120 #[.val (.int p0), .val (.int p1), .val (.ref b1), .val (.ref (r j)), .val (.ref (r k)), .unset, .unset, .unset] [(.ref (r j))])
    refine Go.st (fun _ kont => XS.aload X29.here hx rfl (hb hby at_120) rfl rfl kont) ?_
    show Go p e s below _ _ _ T29 (mkF m 122 #[.val (.int p0), .val (.int p1), .val (.ref b1), .val (.ref (r j)), .val (.ref (r k)), .unset, .unset, .unset] [(.ref (r k)), (.ref (r j))])
    refine Go.callS (W := 0) (argsL := [(.ref (r j)), (.ref (r k))]) (rest := []) X29 hx hZ hown (y := (⟨"com/example/restweave/restweave/raml/FamilyCombinedPinLaw", "holds", "(Lcom/example/restweave/restweave/raml/Family;Lcom/example/restweave/restweave/raml/Family;)Z"⟩ : MethodName)) (hw _ (List.mem_of_getElem? (i := 33) rfl)) (hw _ (List.mem_of_getElem? (i := 34) rfl)) (hw _ (List.mem_of_getElem? (i := 35) rfl)) (hw _ (List.mem_of_getElem? (i := 36) rfl)) (rmh l Z a0 hw [] (r j) (r k) (0 : Int32) h29 n0 r (C0.ext Q_29) ⟨fun q => absurd q hP1, fun _ => rfl⟩) e29 (by decide) (by decide) (by decide) (by decide) (by decide) (by rw [hml]; rfl) (lenOf pd__Lcom_example_restweave_restweave_raml_Family_Lcom_example_restweave_restweave_raml_Family__Z rfl) (Nat.le_of_eq rfl) (hb hby at_122) ?_
    intro T36 v36 L36 X36 hQ36
    obtain ⟨rfl, N36, E36⟩ := hQ36
    have M36 := Fr.app N29 N36
    show Go p e s below _ _ _ T36 (mkF m 125 #[.val (.int p0), .val (.int p1), .val (.ref b1), .val (.ref (r j)), .val (.ref (r k)), .unset, .unset, .unset] [(.int (0 : Int32))])
    refine Go.st (fun _ kont => XS.ifYes X36.here hx rfl (pc0 := 125) (pc' := 134) rfl (hb hby at_125) rfl ((if0 _ _).trans (teq rfl).1) (by decide) (by decide) kont) ?_
    show Go p e s below _ _ _ T36 (mkF m 134 #[.val (.int p0), .val (.int p1), .val (.ref b1), .val (.ref (r j)), .val (.ref (r k)), .unset, .unset, .unset] [])
    by_cases hP2 : (r k = r j ∨ r j = r 0 ∨ (r k = r 4 ∧ r j = r 3))
    · --
      show Go p e s below _ _ _ T36 (mkF m 134 #[.val (.int p0), .val (.int p1), .val (.ref b1), .val (.ref (r j)), .val (.ref (r k)), .unset, .unset, .unset] [])
      refine Go.st (fun _ kont => XS.aload X36.here hx rfl (hb hby at_134) rfl rfl kont) ?_
      show Go p e s below _ _ _ T36 (mkF m 136 #[.val (.int p0), .val (.int p1), .val (.ref b1), .val (.ref (r j)), .val (.ref (r k)), .unset, .unset, .unset] [(.ref (r k))])
      refine Go.st (fun _ kont => XS.aloadN X36.here hx rfl (hb hby at_136) rfl rfl kont) ?_
      show Go p e s below _ _ _ T36 (mkF m 137 #[.val (.int p0), .val (.int p1), .val (.ref b1), .val (.ref (r j)), .val (.ref (r k)), .unset, .unset, .unset] [(.ref (r j)), (.ref (r k))])
      refine Go.callS (W := 0) (argsL := [(.ref (r k)), (.ref (r j))]) (rest := []) X36 hx hZ hown (y := (⟨"com/example/restweave/restweave/raml/FamilyCombinedPinLaw", "holds", "(Lcom/example/restweave/restweave/raml/Family;Lcom/example/restweave/restweave/raml/Family;)Z"⟩ : MethodName)) (hw _ (List.mem_of_getElem? (i := 33) rfl)) (hw _ (List.mem_of_getElem? (i := 34) rfl)) (hw _ (List.mem_of_getElem? (i := 35) rfl)) (hw _ (List.mem_of_getElem? (i := 36) rfl)) (rmh l Z a0 hw [] (r k) (r j) (1 : Int32) h29 n0 r (C0.ext Q_29) ⟨fun _ => rfl, fun q => absurd hP2 q⟩) E36 (by decide) (by decide) (by decide) (by decide) (by decide) (by rw [hml]; rfl) (lenOf pd__Lcom_example_restweave_restweave_raml_Family_Lcom_example_restweave_restweave_raml_Family__Z rfl) (Nat.le_of_eq rfl) (hb hby at_137) ?_
      intro T37 v37 L37 X37 hQ37
      obtain ⟨rfl, N37, E37⟩ := hQ37
      have M37 := Fr.app M36 N37
      show Go p e s below _ _ _ T37 (mkF m 140 #[.val (.int p0), .val (.int p1), .val (.ref b1), .val (.ref (r j)), .val (.ref (r k)), .unset, .unset, .unset] [(.int (1 : Int32))])
      refine Go.st (fun _ kont => XS.ifNo X37.here hx rfl (hb hby at_140) rfl ((if0 _ _).trans (feq (by decide : ¬ ((1 : Int32) = (0 : Int32)))).1) kont) ?_
      show Go p e s below _ _ _ T37 (mkF m 143 #[.val (.int p0), .val (.int p1), .val (.ref b1), .val (.ref (r j)), .val (.ref (r k)), .unset, .unset, .unset] [])
      refine Go.st (fun _ kont => XS.aload X37.here hx rfl (hb hby at_143) rfl rfl kont) ?_
      show Go p e s below _ _ _ T37 (mkF m 145 #[.val (.int p0), .val (.int p1), .val (.ref b1), .val (.ref (r j)), .val (.ref (r k)), .unset, .unset, .unset] [(.ref (r k))])
      refine Go.st (fun _ kont => XS.astore X37.here hx rfl (hb hby at_145) rfl rfl (l' := #[.val (.int p0), .val (.int p1), .val (.ref b1), .val (.ref (r j)), .val (.ref (r k)), .val (.ref (r k)), .unset, .unset]) rfl kont) ?_
      show Go p e s below _ _ _ T37 (mkF m 147 #[.val (.int p0), .val (.int p1), .val (.ref b1), .val (.ref (r j)), .val (.ref (r k)), .val (.ref (r k)), .unset, .unset] [])
      refine Go.st (fun _ kont => XS.goto X37.here hx rfl (pc0 := 147) (pc' := 153) rfl (hb hby at_147) (by decide) (by decide) kont) ?_
      show Go p e s below _ _ _ T37 (mkF m 153 #[.val (.int p0), .val (.int p1), .val (.ref b1), .val (.ref (r j)), .val (.ref (r k)), .val (.ref (r k)), .unset, .unset] [])
      refine Go.st (fun _ kont => XS.aloadN X37.here hx rfl (hb hby at_153) rfl rfl kont) ?_
      show Go p e s below _ _ _ T37 (mkF m 154 #[.val (.int p0), .val (.int p1), .val (.ref b1), .val (.ref (r j)), .val (.ref (r k)), .val (.ref (r k)), .unset, .unset] [(.ref (r j))])
      refine Go.st (fun _ kont => XS.aload X37.here hx rfl (hb hby at_154) rfl rfl kont) ?_
      show Go p e s below _ _ _ T37 (mkF m 156 #[.val (.int p0), .val (.int p1), .val (.ref b1), .val (.ref (r j)), .val (.ref (r k)), .val (.ref (r k)), .unset, .unset] [(.ref (r k)), (.ref (r j))])
      refine Go.callS (W := 0) (argsL := [(.ref (r j)), (.ref (r k))]) (rest := []) X37 hx hZ hown (y := (⟨"com/example/restweave/restweave/raml/Family", "combined", "(Lcom/example/restweave/restweave/raml/Family;Lcom/example/restweave/restweave/raml/Family;)Ljava/util/Optional;"⟩ : MethodName)) (hw _ (List.mem_of_getElem? (i := 37) rfl)) (hw _ (List.mem_of_getElem? (i := 38) rfl)) (hw _ (List.mem_of_getElem? (i := 3) rfl)) (hw _ (List.mem_of_getElem? (i := 39) rfl)) (rmc l Z a0 hw [] (r j) (r k) (.ref (r k)) h29 n0 (Nat.le_trans Z0 Q_29.1) r (C0.ext Q_29) em (SE.ext Q_29) (EE.ext Q_29) (FE.ext Q_29) ((C0.ext Q_29).exa hj2) ((C0.ext Q_29).exa hk2) ⟨fun q => absurd q hP1, fun _ _ => rfl, fun _ q => absurd hP2 q⟩) E37 (by decide) (by decide) (by decide) (by decide) (by decide) (by rw [hml]; rfl) (lenOf pd__Lcom_example_restweave_restweave_raml_Family_Lcom_example_restweave_restweave_raml_Family__Ljava_util_Optional_ rfl) (Nat.le_of_eq rfl) (hb hby at_156) ?_
      intro T38 v38 L38 X38 hQ38
      obtain ⟨h38, e38⟩ : ∃ z, T38.heap = z := ⟨_, rfl⟩
      rw [e38] at hQ38
      obtain ⟨o38, rfl, N38, E38, A38, F38⟩ := hQ38
      have M38 := Fr.app M37 N38
      have Q_38 : Ext h0 h38 := own_extE Q_29 E38
      have V_b1_38 := V_b1_29.ext E38
      show Go p e s below _ _ _ T38 (mkF m 159 #[.val (.int p0), .val (.int p1), .val (.ref b1), .val (.ref (r j)), .val (.ref (r k)), .val (.ref (r k)), .unset, .unset] [(.ref o38)])
      refine Go.st (fun _ kont => XS.astore X38.here hx rfl (hb hby at_159) rfl rfl (l' := #[.val (.int p0), .val (.int p1), .val (.ref b1), .val (.ref (r j)), .val (.ref (r k)), .val (.ref (r k)), .val (.ref o38), .unset]) rfl kont) ?_
      show Go p e s below _ _ _ T38 (mkF m 161 #[.val (.int p0), .val (.int p1), .val (.ref b1), .val (.ref (r j)), .val (.ref (r k)), .val (.ref (r k)), .val (.ref o38), .unset] [])
      refine Go.st (fun _ kont => XS.aload X38.here hx rfl (hb hby at_161) rfl rfl kont) ?_
      show Go p e s below _ _ _ T38 (mkF m 163 #[.val (.int p0), .val (.int p1), .val (.ref b1), .val (.ref (r j)), .val (.ref (r k)), .val (.ref (r k)), .val (.ref o38), .unset] [(.ref o38)])
      refine Go.st (fun _ kont => XS.ifnonnullYes X38.here hx rfl (pc0 := 163) (pc' := 168) rfl (hb hby at_163) rfl (by decide) (by decide) kont) ?_
      show Go p e s below _ _ _ T38 (mkF m 168 #[.val (.int p0), .val (.int p1), .val (.ref b1), .val (.ref (r j)), .val (.ref (r k)), .val (.ref (r k)), .val (.ref o38), .unset] [])
      refine Go.st (fun _ kont => XS.aload X38.here hx rfl (hb hby at_168) rfl rfl kont) ?_
      show Go p e s below _ _ _ T38 (mkF m 170 #[.val (.int p0), .val (.int p1), .val (.ref b1), .val (.ref (r j)), .val (.ref (r k)), .val (.ref (r k)), .val (.ref o38), .unset] [(.ref o38)])
      refine Go.st (fun _ kont => XS.aconstNull X38.here hx rfl (hb hby at_170) kont) ?_
      show Go p e s below _ _ _ T38 (mkF m 171 #[.val (.int p0), .val (.int p1), .val (.ref b1), .val (.ref (r j)), .val (.ref (r k)), .val (.ref (r k)), .val (.ref o38), .unset] [.null, (.ref o38)])
      refine Go.callV (b := o38) (W := 0) (argsL := [.null]) (rest := []) X38 hx hZ hown (y := (⟨"java/util/Optional", "orElse", "(Ljava/lang/Object;)Ljava/lang/Object;"⟩ : MethodName)) (z := (⟨"java/util/Optional", "orElse", "(Ljava/lang/Object;)Ljava/lang/Object;"⟩ : MethodName)) (hw _ (List.mem_of_getElem? (i := 56) rfl)) (hw _ (List.mem_of_getElem? (i := 57) rfl)) (notFace_of_selects (args := #[]) (mvT hZ (hw _ (List.mem_of_getElem? (i := 59) rfl)))) (hw _ (List.mem_of_getElem? (i := 59) rfl)) (hw _ (List.mem_of_getElem? (i := 58) rfl)) (hw _ (List.mem_of_getElem? (i := 43) rfl)) (hw _ (List.mem_of_getElem? (i := 60) rfl)) (rmE1 l Z a0 hw [] o38 (r k) h38 n0 F38) e38 A38 (by decide) (by decide) (by decide) (by decide) (by decide) (by rw [hml]; rfl) (lenOf pd__Ljava_lang_Object__Ljava_lang_Object_ rfl) (Nat.le_of_eq rfl) (hb hby at_171) ?_
      intro T39 v39 L39 X39 hQ39
      obtain ⟨rfl, N39, E39⟩ := hQ39
      have M39 := Fr.app M38 N39
      show Go p e s below _ _ _ T39 (mkF m 174 #[.val (.int p0), .val (.int p1), .val (.ref b1), .val (.ref (r j)), .val (.ref (r k)), .val (.ref (r k)), .val (.ref o38), .unset] [(.ref (r k))])
      obtain ⟨T40, X40, e40, st40⟩ := castY X39 hx hZ hown (hw _ (List.mem_of_getElem? (i := 0) rfl)) E39 (Ins.self ((C0.ext Q_38).exa hk2)) (g := (mkF m 174 #[.val (.int p0), .val (.int p1), .val (.ref b1), .val (.ref (r j)), .val (.ref (r k)), .val (.ref (r k)), .val (.ref o38), .unset] [(.ref (r k))])) rfl rfl (hb hby at_174)
      refine Go.st st40 ?_
      show Go p e s below _ _ _ T40 (mkF m 177 #[.val (.int p0), .val (.int p1), .val (.ref b1), .val (.ref (r j)), .val (.ref (r k)), .val (.ref (r k)), .val (.ref o38), .unset] [(.ref (r k))])
      refine Go.st (fun _ kont => XS.astore X40.here hx rfl (hb hby at_177) rfl rfl (l' := #[.val (.int p0), .val (.int p1), .val (.ref b1), .val (.ref (r j)), .val (.ref (r k)), .val (.ref (r k)), .val (.ref o38), .val (.ref (r k))]) rfl kont) ?_
      show Go p e s below _ _ _ T40 (mkF m 179 #[.val (.int p0), .val (.int p1), .val (.ref b1), .val (.ref (r j)), .val (.ref (r k)), .val (.ref (r k)), .val (.ref o38), .val (.ref (r k))] [])
      refine Go.st (fun _ kont => XS.aload X40.here hx rfl (hb hby at_179) rfl rfl kont) ?_
      show Go p e s below _ _ _ T40 (mkF m 181 #[.val (.int p0), .val (.int p1), .val (.ref b1), .val (.ref (r j)), .val (.ref (r k)), .val (.ref (r k)), .val (.ref o38), .val (.ref (r k))] [(.ref (r k))])
      refine Go.st (fun _ kont => XS.aload X40.here hx rfl (hb hby at_181) rfl rfl kont) ?_
      show Go p e s below _ _ _ T40 (mkF m 183 #[.val (.int p0), .val (.int p1), .val (.ref b1), .val (.ref (r j)), .val (.ref (r k)), .val (.ref (r k)), .val (.ref o38), .val (.ref (r k))] [(.ref (r k)), (.ref (r k))])
      refine Go.st (fun _ kont => Jvm.RoadKit.acmp (g := (mkF m 183 #[.val (.int p0), .val (.int p1), .val (.ref b1), .val (.ref (r j)), .val (.ref (r k)), .val (.ref (r k)), .val (.ref o38), .val (.ref (r k))] [(.ref (r k)), (.ref (r k))])) X40 hx rfl rfl rfl (pc0 := 183) (pc' := 186) (same := true) rfl (hb hby at_183) rfl (decide_eq_true rfl) (by decide) (by decide) kont) ?_
      show Go p e s below _ _ _ T40 (mkF m 186 #[.val (.int p0), .val (.int p1), .val (.ref b1), .val (.ref (r j)), .val (.ref (r k)), .val (.ref (r k)), .val (.ref o38), .val (.ref (r k))] [])
      refine Go.st (fun _ kont => XT.iconstV X40.here hx rfl (1 : Int32) (hb hby at_186) (by decide) kont) ?_
      show Go p e s below _ _ _ T40 (mkF m 187 #[.val (.int p0), .val (.int p1), .val (.ref b1), .val (.ref (r j)), .val (.ref (r k)), .val (.ref (r k)), .val (.ref o38), .val (.ref (r k))] [(.int (1 : Int32))])
      refine Go.st (fun _ kont => XS.goto X40.here hx rfl (pc0 := 187) (pc' := 191) rfl (hb hby at_187) (by decide) (by decide) kont) ?_
      show Go p e s below _ _ _ T40 (mkF m 191 #[.val (.int p0), .val (.int p1), .val (.ref b1), .val (.ref (r j)), .val (.ref (r k)), .val (.ref (r k)), .val (.ref o38), .val (.ref (r k))] [(.int (1 : Int32))])
      exact Go.retN X40 hx hlk hret (by simp) (hb hby at_191) (by decide) (by decide) ⟨rfl, M39⟩
    · --
      show Go p e s below _ _ _ T36 (mkF m 134 #[.val (.int p0), .val (.int p1), .val (.ref b1), .val (.ref (r j)), .val (.ref (r k)), .unset, .unset, .unset] [])
      refine Go.st (fun _ kont => XS.aload X36.here hx rfl (hb hby at_134) rfl rfl kont) ?_
      show Go p e s below _ _ _ T36 (mkF m 136 #[.val (.int p0), .val (.int p1), .val (.ref b1), .val (.ref (r j)), .val (.ref (r k)), .unset, .unset, .unset] [(.ref (r k))])
      refine Go.st (fun _ kont => XS.aloadN X36.here hx rfl (hb hby at_136) rfl rfl kont) ?_
      show Go p e s below _ _ _ T36 (mkF m 137 #[.val (.int p0), .val (.int p1), .val (.ref b1), .val (.ref (r j)), .val (.ref (r k)), .unset, .unset, .unset] [(.ref (r j)), (.ref (r k))])
      refine Go.callS (W := 0) (argsL := [(.ref (r k)), (.ref (r j))]) (rest := []) X36 hx hZ hown (y := (⟨"com/example/restweave/restweave/raml/FamilyCombinedPinLaw", "holds", "(Lcom/example/restweave/restweave/raml/Family;Lcom/example/restweave/restweave/raml/Family;)Z"⟩ : MethodName)) (hw _ (List.mem_of_getElem? (i := 33) rfl)) (hw _ (List.mem_of_getElem? (i := 34) rfl)) (hw _ (List.mem_of_getElem? (i := 35) rfl)) (hw _ (List.mem_of_getElem? (i := 36) rfl)) (rmh l Z a0 hw [] (r k) (r j) (0 : Int32) h29 n0 r (C0.ext Q_29) ⟨fun q => absurd q hP2, fun _ => rfl⟩) E36 (by decide) (by decide) (by decide) (by decide) (by decide) (by rw [hml]; rfl) (lenOf pd__Lcom_example_restweave_restweave_raml_Family_Lcom_example_restweave_restweave_raml_Family__Z rfl) (Nat.le_of_eq rfl) (hb hby at_137) ?_
      intro T41 v41 L41 X41 hQ41
      obtain ⟨rfl, N41, E41⟩ := hQ41
      have M41 := Fr.app M36 N41
      show Go p e s below _ _ _ T41 (mkF m 140 #[.val (.int p0), .val (.int p1), .val (.ref b1), .val (.ref (r j)), .val (.ref (r k)), .unset, .unset, .unset] [(.int (0 : Int32))])
      refine Go.st (fun _ kont => XS.ifYes X41.here hx rfl (pc0 := 140) (pc' := 150) rfl (hb hby at_140) rfl ((if0 _ _).trans (teq rfl).1) (by decide) (by decide) kont) ?_
      show Go p e s below _ _ _ T41 (mkF m 150 #[.val (.int p0), .val (.int p1), .val (.ref b1), .val (.ref (r j)), .val (.ref (r k)), .unset, .unset, .unset] [])
      refine Go.st (fun _ kont => XS.aconstNull X41.here hx rfl (hb hby at_150) kont) ?_
      show Go p e s below _ _ _ T41 (mkF m 151 #[.val (.int p0), .val (.int p1), .val (.ref b1), .val (.ref (r j)), .val (.ref (r k)), .unset, .unset, .unset] [.null])
      refine Go.st (fun _ kont => XS.astore X41.here hx rfl (hb hby at_151) rfl rfl (l' := #[.val (.int p0), .val (.int p1), .val (.ref b1), .val (.ref (r j)), .val (.ref (r k)), .val .null, .unset, .unset]) rfl kont) ?_
      show Go p e s below _ _ _ T41 (mkF m 153 #[.val (.int p0), .val (.int p1), .val (.ref b1), .val (.ref (r j)), .val (.ref (r k)), .val .null, .unset, .unset] [])
      refine Go.st (fun _ kont => XS.aloadN X41.here hx rfl (hb hby at_153) rfl rfl kont) ?_
      show Go p e s below _ _ _ T41 (mkF m 154 #[.val (.int p0), .val (.int p1), .val (.ref b1), .val (.ref (r j)), .val (.ref (r k)), .val .null, .unset, .unset] [(.ref (r j))])
      refine Go.st (fun _ kont => XS.aload X41.here hx rfl (hb hby at_154) rfl rfl kont) ?_
      show Go p e s below _ _ _ T41 (mkF m 156 #[.val (.int p0), .val (.int p1), .val (.ref b1), .val (.ref (r j)), .val (.ref (r k)), .val .null, .unset, .unset] [(.ref (r k)), (.ref (r j))])
      refine Go.callS (W := 0) (argsL := [(.ref (r j)), (.ref (r k))]) (rest := []) X41 hx hZ hown (y := (⟨"com/example/restweave/restweave/raml/Family", "combined", "(Lcom/example/restweave/restweave/raml/Family;Lcom/example/restweave/restweave/raml/Family;)Ljava/util/Optional;"⟩ : MethodName)) (hw _ (List.mem_of_getElem? (i := 37) rfl)) (hw _ (List.mem_of_getElem? (i := 38) rfl)) (hw _ (List.mem_of_getElem? (i := 3) rfl)) (hw _ (List.mem_of_getElem? (i := 39) rfl)) (rmc l Z a0 hw [] (r j) (r k) .null h29 n0 (Nat.le_trans Z0 Q_29.1) r (C0.ext Q_29) em (SE.ext Q_29) (EE.ext Q_29) (FE.ext Q_29) ((C0.ext Q_29).exa hj2) ((C0.ext Q_29).exa hk2) ⟨fun q => absurd q hP1, fun _ q => absurd q hP2, fun _ _ => rfl⟩) E41 (by decide) (by decide) (by decide) (by decide) (by decide) (by rw [hml]; rfl) (lenOf pd__Lcom_example_restweave_restweave_raml_Family_Lcom_example_restweave_restweave_raml_Family__Ljava_util_Optional_ rfl) (Nat.le_of_eq rfl) (hb hby at_156) ?_
      intro T42 v42 L42 X42 hQ42
      obtain ⟨h42, e42⟩ : ∃ z, T42.heap = z := ⟨_, rfl⟩
      rw [e42] at hQ42
      obtain ⟨o42, rfl, N42, E42, A42, F42⟩ := hQ42
      have M42 := Fr.app M41 N42
      have Q_42 : Ext h0 h42 := own_extE Q_29 E42
      have V_b1_42 := V_b1_29.ext E42
      show Go p e s below _ _ _ T42 (mkF m 159 #[.val (.int p0), .val (.int p1), .val (.ref b1), .val (.ref (r j)), .val (.ref (r k)), .val .null, .unset, .unset] [(.ref o42)])
      refine Go.st (fun _ kont => XS.astore X42.here hx rfl (hb hby at_159) rfl rfl (l' := #[.val (.int p0), .val (.int p1), .val (.ref b1), .val (.ref (r j)), .val (.ref (r k)), .val .null, .val (.ref o42), .unset]) rfl kont) ?_
      show Go p e s below _ _ _ T42 (mkF m 161 #[.val (.int p0), .val (.int p1), .val (.ref b1), .val (.ref (r j)), .val (.ref (r k)), .val .null, .val (.ref o42), .unset] [])
      refine Go.st (fun _ kont => XS.aload X42.here hx rfl (hb hby at_161) rfl rfl kont) ?_
      show Go p e s below _ _ _ T42 (mkF m 163 #[.val (.int p0), .val (.int p1), .val (.ref b1), .val (.ref (r j)), .val (.ref (r k)), .val .null, .val (.ref o42), .unset] [(.ref o42)])
      refine Go.st (fun _ kont => XS.ifnonnullYes X42.here hx rfl (pc0 := 163) (pc' := 168) rfl (hb hby at_163) rfl (by decide) (by decide) kont) ?_
      show Go p e s below _ _ _ T42 (mkF m 168 #[.val (.int p0), .val (.int p1), .val (.ref b1), .val (.ref (r j)), .val (.ref (r k)), .val .null, .val (.ref o42), .unset] [])
      refine Go.st (fun _ kont => XS.aload X42.here hx rfl (hb hby at_168) rfl rfl kont) ?_
      show Go p e s below _ _ _ T42 (mkF m 170 #[.val (.int p0), .val (.int p1), .val (.ref b1), .val (.ref (r j)), .val (.ref (r k)), .val .null, .val (.ref o42), .unset] [(.ref o42)])
      refine Go.st (fun _ kont => XS.aconstNull X42.here hx rfl (hb hby at_170) kont) ?_
      show Go p e s below _ _ _ T42 (mkF m 171 #[.val (.int p0), .val (.int p1), .val (.ref b1), .val (.ref (r j)), .val (.ref (r k)), .val .null, .val (.ref o42), .unset] [.null, (.ref o42)])
      refine Go.callV (b := o42) (W := 0) (argsL := [.null]) (rest := []) X42 hx hZ hown (y := (⟨"java/util/Optional", "orElse", "(Ljava/lang/Object;)Ljava/lang/Object;"⟩ : MethodName)) (z := (⟨"java/util/Optional", "orElse", "(Ljava/lang/Object;)Ljava/lang/Object;"⟩ : MethodName)) (hw _ (List.mem_of_getElem? (i := 56) rfl)) (hw _ (List.mem_of_getElem? (i := 57) rfl)) (notFace_of_selects (args := #[]) (mvT hZ (hw _ (List.mem_of_getElem? (i := 59) rfl)))) (hw _ (List.mem_of_getElem? (i := 59) rfl)) (hw _ (List.mem_of_getElem? (i := 58) rfl)) (hw _ (List.mem_of_getElem? (i := 43) rfl)) (hw _ (List.mem_of_getElem? (i := 60) rfl)) (rmE0 l Z a0 hw [] o42 h42 n0 F42) e42 A42 (by decide) (by decide) (by decide) (by decide) (by decide) (by rw [hml]; rfl) (lenOf pd__Ljava_lang_Object__Ljava_lang_Object_ rfl) (Nat.le_of_eq rfl) (hb hby at_171) ?_
      intro T43 v43 L43 X43 hQ43
      obtain ⟨rfl, N43, E43⟩ := hQ43
      have M43 := Fr.app M42 N43
      show Go p e s below _ _ _ T43 (mkF m 174 #[.val (.int p0), .val (.int p1), .val (.ref b1), .val (.ref (r j)), .val (.ref (r k)), .val .null, .val (.ref o42), .unset] [.null])
      refine Go.st (X43.checkcastNull hx (g := (mkF m 174 #[.val (.int p0), .val (.int p1), .val (.ref b1), .val (.ref (r j)), .val (.ref (r k)), .val .null, .val (.ref o42), .unset] [.null])) rfl rfl (hb hby at_174)) ?_
      show Go p e s below _ _ _ T43 (mkF m 177 #[.val (.int p0), .val (.int p1), .val (.ref b1), .val (.ref (r j)), .val (.ref (r k)), .val .null, .val (.ref o42), .unset] [.null])
      refine Go.st (fun _ kont => XS.astore X43.here hx rfl (hb hby at_177) rfl rfl (l' := #[.val (.int p0), .val (.int p1), .val (.ref b1), .val (.ref (r j)), .val (.ref (r k)), .val .null, .val (.ref o42), .val .null]) rfl kont) ?_
      show Go p e s below _ _ _ T43 (mkF m 179 #[.val (.int p0), .val (.int p1), .val (.ref b1), .val (.ref (r j)), .val (.ref (r k)), .val .null, .val (.ref o42), .val .null] [])
      refine Go.st (fun _ kont => XS.aload X43.here hx rfl (hb hby at_179) rfl rfl kont) ?_
      show Go p e s below _ _ _ T43 (mkF m 181 #[.val (.int p0), .val (.int p1), .val (.ref b1), .val (.ref (r j)), .val (.ref (r k)), .val .null, .val (.ref o42), .val .null] [.null])
      refine Go.st (fun _ kont => XS.aload X43.here hx rfl (hb hby at_181) rfl rfl kont) ?_
      show Go p e s below _ _ _ T43 (mkF m 183 #[.val (.int p0), .val (.int p1), .val (.ref b1), .val (.ref (r j)), .val (.ref (r k)), .val .null, .val (.ref o42), .val .null] [.null, .null])
      refine Go.st (fun _ kont => Jvm.RoadKit.acmp (g := (mkF m 183 #[.val (.int p0), .val (.int p1), .val (.ref b1), .val (.ref (r j)), .val (.ref (r k)), .val .null, .val (.ref o42), .val .null] [.null, .null])) X43 hx rfl rfl rfl (pc0 := 183) (pc' := 186) (same := true) rfl (hb hby at_183) rfl (decide_eq_true rfl) (by decide) (by decide) kont) ?_
      show Go p e s below _ _ _ T43 (mkF m 186 #[.val (.int p0), .val (.int p1), .val (.ref b1), .val (.ref (r j)), .val (.ref (r k)), .val .null, .val (.ref o42), .val .null] [])
      refine Go.st (fun _ kont => XT.iconstV X43.here hx rfl (1 : Int32) (hb hby at_186) (by decide) kont) ?_
      show Go p e s below _ _ _ T43 (mkF m 187 #[.val (.int p0), .val (.int p1), .val (.ref b1), .val (.ref (r j)), .val (.ref (r k)), .val .null, .val (.ref o42), .val .null] [(.int (1 : Int32))])
      refine Go.st (fun _ kont => XS.goto X43.here hx rfl (pc0 := 187) (pc' := 191) rfl (hb hby at_187) (by decide) (by decide) kont) ?_
      show Go p e s below _ _ _ T43 (mkF m 191 #[.val (.int p0), .val (.int p1), .val (.ref b1), .val (.ref (r j)), .val (.ref (r k)), .val .null, .val (.ref o42), .val .null] [(.int (1 : Int32))])
      exact Go.retN X43 hx hlk hret (by simp) (hb hby at_191) (by decide) (by decide) ⟨rfl, M43⟩
set_option maxRecDepth 65536 in
set_option maxHeartbeats 40000000 in
theorem comes_1 {Post : Tables → Env → Array Value → State → Outcome → State → Prop} (hpost : ∀ tb e args s v u, (limb_1_1.after args s (.returned v) u = true ∧ limb_1_2.after args s (.returned v) u = true ∧ True) → FrameEnd s (.returned v) u (Jvm.fieldLocs frame_1_writes args s ++ Jvm.arrayLocs frame_1_arrays args s ++ Jvm.staticLocs frame_1_statics s) 16 128 → Post tb e args s (.returned v) u) :
    ArmFor flags0 classFile x code maxLocals ret World_1 tables_1 room_1 Calls_1 rest_1 Pre_1 Post := by
  intro l hfl _ _ p e ha hc hk s m args below hf hA hF happ hP
  obtain ⟨hcalls, hrest, hpre⟩ := hP
  obtain ⟨-, -, -, hnamed, -, -, -, hat⟩ := (Spec.applies_iff hf).mp happ
  obtain ⟨hg, hn⟩ := and_e (Cond.before_iff.mp (show (Jvm.Cond.and given_1 narrow_1).before args s = true from hpre))
  obtain ⟨hg_1, hg_1'⟩ := and_e hg
  obtain ⟨hg_2, hg_2'⟩ := and_e hg_1'
  obtain ⟨w0, w1, rfl⟩ : ∃ w0 w1 : Value, args = #[w0, w1] := by
    have hs : args.size = 2 := by simpa [Cond.value, given_1] using hg_1
    obtain ⟨L⟩ := args
    match L, hs with
    | [w0, w1], _ => exact ⟨w0, w1, rfl⟩
  have hw := fun d (hd : d ∈ tables_1) => atoms_spec (ws := Jvm.Cond.code x code maxLocals ret :: tables_1) hat d (List.mem_cons_of_mem _ hd)
  have hfit : Fit s := fun {y c} hc i hi => by
    obtain ⟨ha, rfl⟩ := Array.getElem?_eq_some_iff.mp hc
    have q := List.all_eq_true.mp ((Array.all_eq_true_iff_forall_mem.mp hF) _ (Array.getElem_mem ha)) i (List.mem_range.mpr hi)
    simpa [Array.getElem?_eq_getElem hi] using q
  obtain ⟨hsets, hown0⟩ := atoms_of _ (rest_1_c_eq ▸ (show rest_1_c.before _ s = true from hrest))
  obtain ⟨i0, ei0⟩ := is_v hg_2
  obtain rfl : w0 = (.int i0) := Option.some.inj ei0
  obtain ⟨i1, ei1⟩ := is_v hg_2'
  obtain rfl : w1 = (.int i1) := Option.some.inj ei1
  obtain ⟨hn_1, hn_1'⟩ := and_e hn
  obtain ⟨hn_2, hn_2'⟩ := and_e hn_1'
  obtain ⟨hn_3, hn_3'⟩ := and_e hn_2'
  obtain ⟨hn_4, hn_4'⟩ := and_e hn_3'
  obtain ⟨hn_5, hn_5'⟩ := and_e hn_4'
  obtain ⟨hn_6, hn_6'⟩ := and_e hn_5'
  obtain ⟨hn_7, hn_7'⟩ := and_e hn_6'
  obtain ⟨hn_8, hn_8'⟩ := and_e hn_7'
  obtain ⟨hn_9, hn_9'⟩ := and_e hn_8'
  obtain ⟨hn_10, hn_10'⟩ := and_e hn_9'
  obtain ⟨hn_11, hn_11'⟩ := and_e hn_10'
  obtain ⟨hn_12, hn_12'⟩ := and_e hn_11'
  obtain ⟨hn_13, hn_13'⟩ := and_e hn_12'
  obtain ⟨hn_14, hn_14'⟩ := and_e hn_13'
  obtain ⟨hn_15, hn_15'⟩ := and_e hn_14'
  obtain ⟨hn_16, hn_16'⟩ := and_e hn_15'
  obtain ⟨hn_17, hn_17'⟩ := and_e hn_16'
  obtain ⟨hn_18, hn_18'⟩ := and_e hn_17'
  obtain ⟨hn_19, hn_19'⟩ := and_e hn_18'
  obtain ⟨hn_20, hn_20'⟩ := and_e hn_19'
  obtain ⟨hn_21, hn_21'⟩ := and_e hn_20'
  obtain ⟨hn_22, hn_22'⟩ := and_e hn_21'
  obtain ⟨hn_23, hn_23'⟩ := and_e hn_22'
  obtain ⟨hn_24, hn_24'⟩ := and_e hn_23'
  obtain ⟨hn_25, hn_25'⟩ := and_e hn_24'
  obtain ⟨hn_26, hn_26'⟩ := and_e hn_25'
  obtain ⟨hn_27, hn_27'⟩ := and_e hn_26'
  obtain ⟨r0, re0, rc0⟩ := own_const hn_1 hn_15 (hw _ (List.mem_of_getElem? (i := 3) rfl)) (hw _ (List.mem_of_getElem? (i := 4) rfl))
  obtain ⟨r1, re1, rc1⟩ := own_const hn_2 hn_18 (hw _ (List.mem_of_getElem? (i := 3) rfl)) (hw _ (List.mem_of_getElem? (i := 7) rfl))
  obtain ⟨r2, re2, rc2⟩ := own_const hn_3 hn_22 (hw _ (List.mem_of_getElem? (i := 3) rfl)) (hw _ (List.mem_of_getElem? (i := 9) rfl))
  obtain ⟨r3, re3, rc3⟩ := own_const hn_4 hn_16 (hw _ (List.mem_of_getElem? (i := 3) rfl)) (hw _ (List.mem_of_getElem? (i := 11) rfl))
  obtain ⟨r4, re4, rc4⟩ := own_const hn_5 hn_17 (hw _ (List.mem_of_getElem? (i := 3) rfl)) (hw _ (List.mem_of_getElem? (i := 13) rfl))
  obtain ⟨r5, re5, rc5⟩ := own_const hn_6 hn_20 (hw _ (List.mem_of_getElem? (i := 3) rfl)) (hw _ (List.mem_of_getElem? (i := 15) rfl))
  obtain ⟨r6, re6, rc6⟩ := own_const hn_7 hn_25 (hw _ (List.mem_of_getElem? (i := 3) rfl)) (hw _ (List.mem_of_getElem? (i := 17) rfl))
  obtain ⟨r7, re7, rc7⟩ := own_const hn_8 hn_27 (hw _ (List.mem_of_getElem? (i := 3) rfl)) (hw _ (List.mem_of_getElem? (i := 19) rfl))
  obtain ⟨r8, re8, rc8⟩ := own_const hn_9 hn_21 (hw _ (List.mem_of_getElem? (i := 3) rfl)) (hw _ (List.mem_of_getElem? (i := 21) rfl))
  obtain ⟨r9, re9, rc9⟩ := own_const hn_10 hn_27' (hw _ (List.mem_of_getElem? (i := 3) rfl)) (hw _ (List.mem_of_getElem? (i := 23) rfl))
  obtain ⟨r10, re10, rc10⟩ := own_const hn_11 hn_19 (hw _ (List.mem_of_getElem? (i := 3) rfl)) (hw _ (List.mem_of_getElem? (i := 25) rfl))
  obtain ⟨r11, re11, rc11⟩ := own_const hn_12 hn_23 (hw _ (List.mem_of_getElem? (i := 3) rfl)) (hw _ (List.mem_of_getElem? (i := 27) rfl))
  obtain ⟨r12, re12, rc12⟩ := own_const hn_13 hn_26 (hw _ (List.mem_of_getElem? (i := 3) rfl)) (hw _ (List.mem_of_getElem? (i := 29) rfl))
  obtain ⟨r13, re13, rc13⟩ := own_const hn_14 hn_24 (hw _ (List.mem_of_getElem? (i := 3) rfl)) (hw _ (List.mem_of_getElem? (i := 31) rfl))
  have C0 : Cs s s.heap (fun i => [r0, r1, r2, r3, r4, r5, r6, r7, r8, r9, r10, r11, r12, r13].getD i 0) := by
    intro i nm o h1 h2
    match i, h1, h2 with
    | 0, h1, h2 => obtain rfl := Option.some.inj h1; obtain rfl := Option.some.inj h2; exact rc0
    | 1, h1, h2 => obtain rfl := Option.some.inj h1; obtain rfl := Option.some.inj h2; exact rc1
    | 2, h1, h2 => obtain rfl := Option.some.inj h1; obtain rfl := Option.some.inj h2; exact rc2
    | 3, h1, h2 => obtain rfl := Option.some.inj h1; obtain rfl := Option.some.inj h2; exact rc3
    | 4, h1, h2 => obtain rfl := Option.some.inj h1; obtain rfl := Option.some.inj h2; exact rc4
    | 5, h1, h2 => obtain rfl := Option.some.inj h1; obtain rfl := Option.some.inj h2; exact rc5
    | 6, h1, h2 => obtain rfl := Option.some.inj h1; obtain rfl := Option.some.inj h2; exact rc6
    | 7, h1, h2 => obtain rfl := Option.some.inj h1; obtain rfl := Option.some.inj h2; exact rc7
    | 8, h1, h2 => obtain rfl := Option.some.inj h1; obtain rfl := Option.some.inj h2; exact rc8
    | 9, h1, h2 => obtain rfl := Option.some.inj h1; obtain rfl := Option.some.inj h2; exact rc9
    | 10, h1, h2 => obtain rfl := Option.some.inj h1; obtain rfl := Option.some.inj h2; exact rc10
    | 11, h1, h2 => obtain rfl := Option.some.inj h1; obtain rfl := Option.some.inj h2; exact rc11
    | 12, h1, h2 => obtain rfl := Option.some.inj h1; obtain rfl := Option.some.inj h2; exact rc12
    | 13, h1, h2 => obtain rfl := Option.some.inj h1; obtain rfl := Option.some.inj h2; exact rc13
    | k + 14, h1, h2 => simp [nms] at h1
  obtain ⟨em, eM⟩ := exa_v (Cond.before_iff.mp (hsets _ (List.mem_of_getElem? (i := 2) rfl)))
  have SE : Sta s s.heap "java/util/Optional" "EMPTY" "Ljava/util/Optional;" (.ref em) := Sta.start eM (Or.inl (hsets _ (List.mem_of_getElem? (i := 1) rfl)))
  have EE := Exa.start eM (Cond.before_iff.mp (hsets _ (List.mem_of_getElem? (i := 2) rfl)))
  have FE : Fld s s.heap em "java/util/Optional" "value" "Ljava/lang/Object;" .null := Fld.start (by rw [← fld_at eM]; exact null_v (Cond.before_iff.mp (hsets _ (List.mem_of_getElem? (i := 3) rfl))))
  obtain ⟨n, o, h1, h2, h3, _, L, rfl, ⟨rfl, N⟩, hq⟩ := rm0 l s _ hw tables_1 i0 i1 s.heap s.heap.size (Nat.le_refl _) (fun i => [r0, r1, r2, r3, r4, r5, r6, r7, r8, r9, r10, r11, r12, r13].getD i 0) C0 em SE EE FE p e ha hc hk s m _ below hf ((Spec.applies_iff_loose hf).mp happ).1 ⟨rfl, State.Warmed39.refl s, rfl⟩ trivial
  refine ⟨n, _, h1, h2, h3, hpost _ _ _ _ _ _ ⟨Cond.after_iff.mpr rfl, Cond.after_iff.mpr (eq_i res_at (Term.int_eval (1)) rfl), trivial⟩ ⟨hq.1, hq.2.1, (hq.2.2.sift fun y hy => Or.inr (N y hy)).mono (by decide) (by decide)⟩⟩
theorem main_1_1 : Claimed_1_1 := comes_1 fun _ _ _ _ _ _ h hF => ⟨h.1, hF⟩
theorem main_1_2 : Claimed_1_2 := comes_1 fun _ _ _ _ _ _ h hF => ⟨h.2.1, hF⟩
end Jvm.Pilot.@@N@@
namespace Jvm.Pilot.@@N@@
open Jvm Jvm.ClassFile Sem Op Lib Jvm.Free Jvm.Stand Jvm.Pilot.@@N@@.Jvm.D
/-! MADE BY PROGRAM (witnessworld.py) out of the Statement's table words and the real class files: 14 classes; the members and pool entries that the words name. The judged class is class 1, her method 2. -/
namespace start1
open Jvm.ClassFile
def u (s : String) : CpInfo := .utf8 (stringToUtf16 s)
/-- a pool by its gaps: so many unusable entries, then the entry; so many at the end -/
def gap : Nat → List CpInfo → List CpInfo
  | 0, r => r
  | n + 1, r => .unusable :: gap n r
def poolList (es : List (Nat × CpInfo)) (last : Nat) : List CpInfo := es.foldr (fun e r => gap e.1 (e.2 :: r)) (gap last [])
def pool (es : List (Nat × CpInfo)) (last : Nat) : Array CpInfo := ⟨poolList es last⟩
def fileOf (pool : Array CpInfo) (this : Nat) (attrs : Array Attribute := #[]) (ms : Array MethodInfo := #[]) (fl : Nat := 33) (sup : Nat := 0) (ifs : Array Nat := #[]) (fds : Array FieldInfo := #[]) : ClassFile where
  minorVersion := 0
  majorVersion := 65
  constantPool := pool
  accessFlags := fl
  thisClass := this
  superClass := sup
  interfaces := ifs
  fields := fds
  methods := ms
  attributes := attrs
def plain (name : String) (sup : Option ClassId) : Class where
  name := name
  kind := .ordinary
  loader := none
  accessFlags := 33
  super := sup
  interfaces := #[]
  cf := none
  fields := #[]
  methods := #[]
  instanceTypes := #[]
  staticTypes := #[]
  resolved := #[]
  callSites := []
  init := .initialized
  statics := none
  mirror := none

def pool0 : Array CpInfo := pool [(5, u "<init>"), (0, u "()V"), (1, .class_ 10), (1, u "java/lang/Object")] 113

def k0c0 : Code := { maxStack := 0, maxLocals := 1, code := object_method_1_code, exceptionTable := #[], attributes := #[] }
def k0m0 : Method := { name := "<init>", desc := "()V", sig := { parameters := [], returnType := none }, accessFlags := 1, code := some k0c0 }
/-- java/lang/Object -/
def k0 : Class := { plain "java/lang/Object" none with
  accessFlags := 33
  interfaces := #[]
  cf := some (fileOf pool0 8 #[] #[{ accessFlags := 1, nameIndex := 5, descriptorIndex := 6, attributes := #[] }] 33 0 #[] #[])
  fields := #[]
  methods := #[k0m0]
  instanceTypes := #[]
  staticTypes := #[]
  resolved := Array.replicate 124 none
  statics := none }

def pool1 : Array CpInfo := pool [(2, .class_ 4), (1, u "java/lang/Object"), (0, u "<init>"), (0, u "()V"), (0, .fieldref 8 9), (0, .class_ 10), (0, .nameAndType 11 12), (0, u "com/example/restweave/restweave/raml/Family"), (0, u "ANY"), (0, u "Lcom/example/restweave/restweave/raml/Family;"), (0, .fieldref 8 14), (0, .nameAndType 15 12), (0, u "INTEGER"), (0, .fieldref 8 17), (0, .nameAndType 18 12), (0, u "NUMBER"), (0, .fieldref 8 20), (0, .nameAndType 21 12), (0, u "OBJECT"), (0, .fieldref 8 23), (0, .nameAndType 24 12), (0, u "ARRAY"), (0, .fieldref 8 26), (0, .nameAndType 27 12), (0, u "BOOLEAN"), (0, .fieldref 8 29), (0, .nameAndType 30 12), (0, u "STRING"), (0, .fieldref 8 32), (0, .nameAndType 33 12), (0, u "DATE_ONLY"), (0, .fieldref 8 35), (0, .nameAndType 36 12), (0, u "TIME_ONLY"), (0, .fieldref 8 38), (0, .nameAndType 39 12), (0, u "DATETIME_ONLY"), (0, .fieldref 8 41), (0, .nameAndType 42 12), (0, u "DATETIME"), (0, .fieldref 8 44), (0, .nameAndType 45 12), (0, u "FILE"), (0, .fieldref 8 47), (0, .nameAndType 48 12), (0, u "NIL"), (0, .fieldref 8 50), (0, .nameAndType 51 12), (0, u "SCHEMA"), (0, .integer 2147483647), (0, .methodref 54 55), (0, .class_ 56), (0, .nameAndType 57 58), (0, u "com/example/restweave/restweave/raml/FamilyCombinedPinLaw"), (0, u "holds"), (0, u "(Lcom/example/restweave/restweave/raml/Family;Lcom/example/restweave/restweave/raml/Family;)Z"), (0, .methodref 8 60), (0, .nameAndType 61 62), (0, u "combined"), (0, u "(Lcom/example/restweave/restweave/raml/Family;Lcom/example/restweave/restweave/raml/Family;)Ljava/util/Optional;"), (0, .methodref 64 65), (0, .class_ 66), (0, .nameAndType 67 68), (0, u "java/util/Optional"), (0, u "orElse"), (0, u "(Ljava/lang/Object;)Ljava/lang/Object;"), (3, u "law"), (0, u "(II)Z")] 4

def k1m0 : Method := { name := "<init>", desc := "()V", sig := { parameters := [], returnType := none }, accessFlags := 1, code := none }
def k1c1 : Code := { maxStack := 2, maxLocals := 2, code := method_2_code, exceptionTable := #[], attributes := #[] }
def k1m1 : Method := { name := "holds", desc := "(Lcom/example/restweave/restweave/raml/Family;Lcom/example/restweave/restweave/raml/Family;)Z", sig := { parameters := [(.object "com/example/restweave/restweave/raml/Family"), (.object "com/example/restweave/restweave/raml/Family")], returnType := some .boolean }, accessFlags := 10, code := some k1c1 }
def k1c2 : Code := { maxStack := 4, maxLocals := 8, code := code, exceptionTable := #[], attributes := #[] }
def k1m2 : Method := { name := "law", desc := "(II)Z", sig := { parameters := [.int, .int], returnType := some .boolean }, accessFlags := 9, code := some k1c2 }
/-- com/example/restweave/restweave/raml/FamilyCombinedPinLaw -/
def k1 : Class := { plain "com/example/restweave/restweave/raml/FamilyCombinedPinLaw" (some 0) with
  accessFlags := 49
  interfaces := #[]
  cf := some (fileOf pool1 54 #[] #[{ accessFlags := 1, nameIndex := 5, descriptorIndex := 6, attributes := #[] }, { accessFlags := 10, nameIndex := 57, descriptorIndex := 58, attributes := #[] }, { accessFlags := 9, nameIndex := 72, descriptorIndex := 73, attributes := #[] }] 49 2 #[] #[])
  fields := #[]
  methods := #[k1m0, k1m1, k1m2]
  instanceTypes := #[]
  staticTypes := #[]
  resolved := Array.replicate 78 none
  statics := none }

def pool2 : Array CpInfo := pool [(1, .class_ 2), (0, u "java/lang/constant/Constable"), (0, .class_ 4), (0, u "java/lang/Object")] 6

/-- java/lang/constant/Constable -/
def k2 : Class := { plain "java/lang/constant/Constable" (some 0) with
  accessFlags := 1537
  interfaces := #[]
  cf := some (fileOf pool2 1 #[] #[] 1537 3 #[] #[])
  fields := #[]
  methods := #[]
  instanceTypes := #[]
  staticTypes := #[]
  resolved := Array.replicate 11 none
  statics := none }

def pool3 : Array CpInfo := pool [(1, .class_ 2), (0, u "java/lang/Comparable"), (0, .class_ 4), (0, u "java/lang/Object")] 7

/-- java/lang/Comparable -/
def k3 : Class := { plain "java/lang/Comparable" (some 0) with
  accessFlags := 1537
  interfaces := #[]
  cf := some (fileOf pool3 1 #[] #[] 1537 3 #[] #[])
  fields := #[]
  methods := #[]
  instanceTypes := #[]
  staticTypes := #[]
  resolved := Array.replicate 12 none
  statics := none }

def pool4 : Array CpInfo := pool [(1, .class_ 2), (0, u "java/io/Serializable"), (0, .class_ 4), (0, u "java/lang/Object")] 2

/-- java/io/Serializable -/
def k4 : Class := { plain "java/io/Serializable" (some 0) with
  accessFlags := 1537
  interfaces := #[]
  cf := some (fileOf pool4 1 #[] #[] 1537 3 #[] #[])
  fields := #[]
  methods := #[]
  instanceTypes := #[]
  staticTypes := #[]
  resolved := Array.replicate 7 none
  statics := none }

def pool5 : Array CpInfo := pool [(2, .class_ 4), (1, u "java/lang/Enum"), (0, u "name"), (0, u "Ljava/lang/String;"), (2, u "ordinal"), (0, u "I"), (1, .class_ 14), (1, u "java/lang/Object"), (4, u "hash"), (86, .class_ 108), (1, u "java/lang/Enum$EnumDesc"), (2, .class_ 112), (0, u "java/lang/constant/Constable"), (0, .class_ 114), (0, u "java/lang/Comparable"), (0, .class_ 116), (0, u "java/io/Serializable")] 87

/-- java/lang/Enum -/
def k5 : Class := { plain "java/lang/Enum" (some 0) with
  accessFlags := 1057
  interfaces := #[2, 3, 4]
  cf := some (fileOf pool5 2 #[.nestMembers #[106]] #[] 1057 12 #[111, 113, 115] #[{ accessFlags := 18, nameIndex := 5, descriptorIndex := 6, attributes := #[] }, { accessFlags := 18, nameIndex := 9, descriptorIndex := 10, attributes := #[] }, { accessFlags := 2, nameIndex := 19, descriptorIndex := 10, attributes := #[] }])
  fields := #[{ name := "name", type := (.object "java/lang/String"), accessFlags := 18, slot := 0, constantValue := 0 }, { name := "ordinal", type := .int, accessFlags := 18, slot := 1, constantValue := 0 }, { name := "hash", type := .int, accessFlags := 2, slot := 2, constantValue := 0 }]
  methods := #[]
  instanceTypes := #[(.object "java/lang/String"), .int, .int]
  staticTypes := #[]
  resolved := Array.replicate 204 none
  statics := none }

def pool6 : Array CpInfo := pool [(1, .class_ 2), (0, u "com/example/restweave/restweave/raml/Family"), (0, .fieldref 1 4), (0, .nameAndType 5 6), (0, u "ANY"), (0, u "Lcom/example/restweave/restweave/raml/Family;"), (2, u "OBJECT"), (2, u "ARRAY"), (0, .fieldref 1 14), (0, .nameAndType 15 6), (0, u "NUMBER"), (0, .fieldref 1 17), (0, .nameAndType 18 6), (0, u "INTEGER"), (2, u "BOOLEAN"), (2, u "STRING"), (2, u "DATE_ONLY"), (2, u "TIME_ONLY"), (2, u "DATETIME_ONLY"), (2, u "DATETIME"), (2, u "FILE"), (2, u "NIL"), (2, u "SCHEMA"), (2, u "$VALUES"), (0, u "[Lcom/example/restweave/restweave/raml/Family;"), (6, .class_ 58), (1, u "java/lang/Enum"), (8, u "typeName"), (0, u "Ljava/lang/String;"), (8, u "formats"), (0, u "Ljava/util/List;"), (11, .class_ 92), (1, u "java/util/Optional"), (0, u "(Ljava/lang/Object;)Ljava/util/Optional;"), (10, .methodref 1 105), (0, .nameAndType 106 107), (0, u "facets"), (0, u "()Lcom/example/restweave/restweave/raml/Family;"), (0, .methodref 90 109), (0, .nameAndType 110 93), (0, u "ofNullable"), (81, u "combined"), (0, u "(Lcom/example/restweave/restweave/raml/Family;Lcom/example/restweave/restweave/raml/Family;)Ljava/util/Optional;")] 21

def k6c0 : Code := { maxStack := 2, maxLocals := 1, code := prog_24_method_7_code, exceptionTable := #[], attributes := #[] }
def k6m0 : Method := { name := "facets", desc := "()Lcom/example/restweave/restweave/raml/Family;", sig := { parameters := [], returnType := some (.object "com/example/restweave/restweave/raml/Family") }, accessFlags := 0, code := some k6c0 }
def k6c1 : Code := { maxStack := 2, maxLocals := 3, code := prog_24_method_9_code, exceptionTable := #[], attributes := #[] }
def k6m1 : Method := { name := "combined", desc := "(Lcom/example/restweave/restweave/raml/Family;Lcom/example/restweave/restweave/raml/Family;)Ljava/util/Optional;", sig := { parameters := [(.object "com/example/restweave/restweave/raml/Family"), (.object "com/example/restweave/restweave/raml/Family")], returnType := some (.object "java/util/Optional") }, accessFlags := 8, code := some k6c1 }
/-- com/example/restweave/restweave/raml/Family -/
def k6 : Class := { plain "com/example/restweave/restweave/raml/Family" (some 5) with
  accessFlags := 16432
  interfaces := #[]
  cf := some (fileOf pool6 1 #[] #[{ accessFlags := 0, nameIndex := 106, descriptorIndex := 107, attributes := #[] }, { accessFlags := 8, nameIndex := 192, descriptorIndex := 193, attributes := #[] }] 16432 56 #[] #[{ accessFlags := 16409, nameIndex := 5, descriptorIndex := 6, attributes := #[] }, { accessFlags := 16409, nameIndex := 9, descriptorIndex := 6, attributes := #[] }, { accessFlags := 16409, nameIndex := 12, descriptorIndex := 6, attributes := #[] }, { accessFlags := 16409, nameIndex := 15, descriptorIndex := 6, attributes := #[] }, { accessFlags := 16409, nameIndex := 18, descriptorIndex := 6, attributes := #[] }, { accessFlags := 16409, nameIndex := 21, descriptorIndex := 6, attributes := #[] }, { accessFlags := 16409, nameIndex := 24, descriptorIndex := 6, attributes := #[] }, { accessFlags := 16409, nameIndex := 27, descriptorIndex := 6, attributes := #[] }, { accessFlags := 16409, nameIndex := 30, descriptorIndex := 6, attributes := #[] }, { accessFlags := 16409, nameIndex := 33, descriptorIndex := 6, attributes := #[] }, { accessFlags := 16409, nameIndex := 36, descriptorIndex := 6, attributes := #[] }, { accessFlags := 16409, nameIndex := 39, descriptorIndex := 6, attributes := #[] }, { accessFlags := 16409, nameIndex := 42, descriptorIndex := 6, attributes := #[] }, { accessFlags := 16409, nameIndex := 45, descriptorIndex := 6, attributes := #[] }, { accessFlags := 18, nameIndex := 67, descriptorIndex := 68, attributes := #[] }, { accessFlags := 18, nameIndex := 77, descriptorIndex := 78, attributes := #[] }, { accessFlags := 4122, nameIndex := 48, descriptorIndex := 49, attributes := #[] }])
  fields := #[{ name := "ANY", type := (.object "com/example/restweave/restweave/raml/Family"), accessFlags := 16409, slot := 0, constantValue := 0 }, { name := "OBJECT", type := (.object "com/example/restweave/restweave/raml/Family"), accessFlags := 16409, slot := 1, constantValue := 0 }, { name := "ARRAY", type := (.object "com/example/restweave/restweave/raml/Family"), accessFlags := 16409, slot := 2, constantValue := 0 }, { name := "NUMBER", type := (.object "com/example/restweave/restweave/raml/Family"), accessFlags := 16409, slot := 3, constantValue := 0 }, { name := "INTEGER", type := (.object "com/example/restweave/restweave/raml/Family"), accessFlags := 16409, slot := 4, constantValue := 0 }, { name := "BOOLEAN", type := (.object "com/example/restweave/restweave/raml/Family"), accessFlags := 16409, slot := 5, constantValue := 0 }, { name := "STRING", type := (.object "com/example/restweave/restweave/raml/Family"), accessFlags := 16409, slot := 6, constantValue := 0 }, { name := "DATE_ONLY", type := (.object "com/example/restweave/restweave/raml/Family"), accessFlags := 16409, slot := 7, constantValue := 0 }, { name := "TIME_ONLY", type := (.object "com/example/restweave/restweave/raml/Family"), accessFlags := 16409, slot := 8, constantValue := 0 }, { name := "DATETIME_ONLY", type := (.object "com/example/restweave/restweave/raml/Family"), accessFlags := 16409, slot := 9, constantValue := 0 }, { name := "DATETIME", type := (.object "com/example/restweave/restweave/raml/Family"), accessFlags := 16409, slot := 10, constantValue := 0 }, { name := "FILE", type := (.object "com/example/restweave/restweave/raml/Family"), accessFlags := 16409, slot := 11, constantValue := 0 }, { name := "NIL", type := (.object "com/example/restweave/restweave/raml/Family"), accessFlags := 16409, slot := 12, constantValue := 0 }, { name := "SCHEMA", type := (.object "com/example/restweave/restweave/raml/Family"), accessFlags := 16409, slot := 13, constantValue := 0 }, { name := "typeName", type := (.object "java/lang/String"), accessFlags := 18, slot := 3, constantValue := 0 }, { name := "formats", type := (.object "java/util/List"), accessFlags := 18, slot := 4, constantValue := 0 }, { name := "$VALUES", type := (.array (.object "com/example/restweave/restweave/raml/Family")), accessFlags := 4122, slot := 14, constantValue := 0 }]
  methods := #[k6m0, k6m1]
  instanceTypes := #[(.object "java/lang/String"), .int, .int, (.object "java/lang/String"), (.object "java/util/List")]
  staticTypes := #[(.object "com/example/restweave/restweave/raml/Family"), (.object "com/example/restweave/restweave/raml/Family"), (.object "com/example/restweave/restweave/raml/Family"), (.object "com/example/restweave/restweave/raml/Family"), (.object "com/example/restweave/restweave/raml/Family"), (.object "com/example/restweave/restweave/raml/Family"), (.object "com/example/restweave/restweave/raml/Family"), (.object "com/example/restweave/restweave/raml/Family"), (.object "com/example/restweave/restweave/raml/Family"), (.object "com/example/restweave/restweave/raml/Family"), (.object "com/example/restweave/restweave/raml/Family"), (.object "com/example/restweave/restweave/raml/Family"), (.object "com/example/restweave/restweave/raml/Family"), (.object "com/example/restweave/restweave/raml/Family"), (.array (.object "com/example/restweave/restweave/raml/Family"))]
  resolved := Array.replicate 215 none
  statics := some 0 }

def pool7 : Array CpInfo := pool [(1, .fieldref 2 3), (0, .class_ 4), (0, .nameAndType 5 6), (0, u "java/util/Optional"), (0, u "EMPTY"), (0, u "Ljava/util/Optional;"), (0, .methodref 8 9), (0, .class_ 10), (0, .nameAndType 11 12), (0, u "java/lang/Object"), (0, u "<init>"), (0, u "()V"), (0, .fieldref 2 14), (0, .nameAndType 15 16), (0, u "value"), (0, u "Ljava/lang/Object;"), (5, u "(Ljava/lang/Object;)Ljava/lang/Object;"), (0, .methodref 2 24), (0, .nameAndType 11 25), (0, u "(Ljava/lang/Object;)V"), (38, u "ofNullable"), (0, u "(Ljava/lang/Object;)Ljava/util/Optional;"), (99, u "orElse")] 21

def k7c0 : Code := { maxStack := 2, maxLocals := 2, code := jdk_32_method_2_code, exceptionTable := #[], attributes := #[] }
def k7m0 : Method := { name := "<init>", desc := "(Ljava/lang/Object;)V", sig := { parameters := [(.object "java/lang/Object")], returnType := none }, accessFlags := 2, code := some k7c0 }
def k7c1 : Code := { maxStack := 3, maxLocals := 1, code := jdk_32_method_4_code, exceptionTable := #[], attributes := #[] }
def k7m1 : Method := { name := "ofNullable", desc := "(Ljava/lang/Object;)Ljava/util/Optional;", sig := { parameters := [(.object "java/lang/Object")], returnType := some (.object "java/util/Optional") }, accessFlags := 9, code := some k7c1 }
def k7c2 : Code := { maxStack := 1, maxLocals := 2, code := jdk_32_method_15_code, exceptionTable := #[], attributes := #[] }
def k7m2 : Method := { name := "orElse", desc := "(Ljava/lang/Object;)Ljava/lang/Object;", sig := { parameters := [(.object "java/lang/Object")], returnType := some (.object "java/lang/Object") }, accessFlags := 1, code := some k7c2 }
/-- java/util/Optional -/
def k7 : Class := { plain "java/util/Optional" (some 0) with
  accessFlags := 49
  interfaces := #[]
  cf := some (fileOf pool7 2 #[] #[{ accessFlags := 2, nameIndex := 11, descriptorIndex := 25, attributes := #[] }, { accessFlags := 9, nameIndex := 64, descriptorIndex := 65, attributes := #[] }, { accessFlags := 1, nameIndex := 165, descriptorIndex := 22, attributes := #[] }] 49 8 #[] #[{ accessFlags := 26, nameIndex := 5, descriptorIndex := 6, attributes := #[] }, { accessFlags := 18, nameIndex := 15, descriptorIndex := 16, attributes := #[] }])
  fields := #[{ name := "EMPTY", type := (.object "java/util/Optional"), accessFlags := 26, slot := 0, constantValue := 0 }, { name := "value", type := (.object "java/lang/Object"), accessFlags := 18, slot := 0, constantValue := 0 }]
  methods := #[k7m0, k7m1, k7m2]
  instanceTypes := #[(.object "java/lang/Object")]
  staticTypes := #[(.object "java/util/Optional")]
  resolved := Array.replicate 187 none
  statics := some 1 }

def pool8 : Array CpInfo := pool [(1, u "java/lang/Cloneable"), (0, .class_ 1), (0, u "java/lang/Object"), (0, .class_ 3)] 3

/-- java/lang/Cloneable -/
def k8 : Class := { plain "java/lang/Cloneable" (some 0) with
  accessFlags := 1537
  interfaces := #[]
  cf := some (fileOf pool8 2 #[] #[] 1537 4 #[] #[])
  fields := #[]
  methods := #[]
  instanceTypes := #[]
  staticTypes := #[]
  resolved := Array.replicate 8 none
  statics := none }

/-- the primitive byte -/
def k9 : Class := { plain "byte" none with kind := .primitive 'B', accessFlags := 0x411 }
/-- [B -/
def k10 : Class := { plain "[B" (some 0) with kind := .array 9 .byte, interfaces := #[8, 4], accessFlags := 1041 }

/-- the primitive int -/
def k11 : Class := { plain "int" none with kind := .primitive 'I', accessFlags := 0x411 }
/-- [I -/
def k12 : Class := { plain "[I" (some 0) with kind := .array 11 .int, interfaces := #[8, 4], accessFlags := 1041 }

/-- [Lcom/example/restweave/restweave/raml/Family; -/
def k13 : Class := { plain "[Lcom/example/restweave/restweave/raml/Family;" (some 0) with kind := .array 6 (.object "com/example/restweave/restweave/raml/Family"), interfaces := #[8, 4], accessFlags := 1041 }

def heap : Heap := #[{ cls := 6, slots := #[.ref 2, .ref 3, .ref 4, .ref 5, .ref 6, .ref 7, .ref 8, .ref 9, .ref 10, .ref 11, .ref 12, .ref 13, .ref 14, .ref 15, .null], vm := .statics 6 },
  { cls := 7, slots := #[.ref 16], vm := .statics 7 },
  { cls := 6, slots := #[.null, .int 0, .int 0, .null, .null], vm := .none },
  { cls := 6, slots := #[.null, .int 1, .int 0, .null, .null], vm := .none },
  { cls := 6, slots := #[.null, .int 2, .int 0, .null, .null], vm := .none },
  { cls := 6, slots := #[.null, .int 3, .int 0, .null, .null], vm := .none },
  { cls := 6, slots := #[.null, .int 4, .int 0, .null, .null], vm := .none },
  { cls := 6, slots := #[.null, .int 5, .int 0, .null, .null], vm := .none },
  { cls := 6, slots := #[.null, .int 6, .int 0, .null, .null], vm := .none },
  { cls := 6, slots := #[.null, .int 7, .int 0, .null, .null], vm := .none },
  { cls := 6, slots := #[.null, .int 8, .int 0, .null, .null], vm := .none },
  { cls := 6, slots := #[.null, .int 9, .int 0, .null, .null], vm := .none },
  { cls := 6, slots := #[.null, .int 10, .int 0, .null, .null], vm := .none },
  { cls := 6, slots := #[.null, .int 11, .int 0, .null, .null], vm := .none },
  { cls := 6, slots := #[.null, .int 12, .int 0, .null, .null], vm := .none },
  { cls := 6, slots := #[.null, .int 13, .int 0, .null, .null], vm := .none },
  { cls := 7, slots := #[.null], vm := .none }]
def classes : Array Class := #[k0, k1, k2, k3, k4, k5, k6, k7, k8, k9, k10, k11, k12, k13]
def interned : List (Array UInt16 × Addr) := []
def slotsUsed : Nat := 87
def theMethod : MethodId := ⟨1, 2⟩
def args0 : Array Value := #[.int 5, .int 3]
def aboutOver (below : List Frame) : State where
  vm := { classes := classes, interned := interned.toArray }
  heap := heap
  slotsUsed := slotsUsed
  threads := #[{ frames := .invoking theMethod args0 :: below }]
def below0 : List Frame := [.native { method := ⟨0, 0⟩, args := #[] }]
def about1 : State := aboutOver below0
def p0 : Program := .bare "" "" ""
def e0 : Env := launch0.env 0 0 0
theorem w_frames : about1.frames = Frame.invoking theMethod args0 :: below0 := rfl
set_option maxRecDepth 65536 in
theorem w_args : argsFit about1.vm theMethod args0 = true := by decide +kernel
set_option maxRecDepth 65536 in
theorem w_heap : heapFits about1 = true := by decide +kernel
set_option maxRecDepth 65536 in
theorem w_runnable : about1.curStatus? = some .runnable := by decide +kernel
set_option maxRecDepth 65536 in
theorem w_alone : about1.alone = true := by decide +kernel
set_option maxRecDepth 65536 in
theorem w_named : about1.methodNamed? x = some theMethod := by decide +kernel
set_option maxRecDepth 65536 in
theorem w_hears : about1.hears theMethod below0 = true := by decide +kernel
set_option maxRecDepth 65536 in
theorem w_ripe : about1.ripe theMethod args0 below0 = true := by decide +kernel
theorem w_running : about1.status = .running := rfl
set_option maxRecDepth 65536 in
theorem w_room : about1.hasRoom e0.platform room_1 = true :=
  launch0.hasRoom_least _ room_1 (by decide +kernel) (by decide +kernel) (by decide +kernel) (by decide +kernel) (by decide +kernel) (by decide +kernel)
theorem allAtoms_all (ts : List Jvm.Cond) (a : Array Jvm.Value) (st : Jvm.State) : (allAtoms ts).before a st = ts.all (fun c => c.before a st) := by
  induction ts with
  | nil => rfl
  | cons c t ih =>
    show (Jvm.Cond.and c (allAtoms t)).before a st = _
    rw [Jvm.Cond.before_and, ih, List.all_cons]
def words1 : List Jvm.Cond := Jvm.Cond.code x code maxLocals ret :: tables_1
/-- a 'code' word, met by the world's own term for the bytes: nothing is compared byte by byte -/
theorem code_word {y : MethodName} {bytes : ByteArray} {mx : Nat} {rt : Option FieldType} {a : Array Value} {s : State} {m : MethodId} {meth : Method} {c : Code} (h1 : s.methodNamed? y = some m) (h2 : s.vm.method? m = some meth) (h3 : meth.code = some c) (h4 : c.code = bytes)
    (h5 : (c.maxLocals == mx && c.exceptionTable.isEmpty && decide (c.maxStack ≤ mostOperands) && decide (meth.sig.returnType = rt) && !meth.locks && decide (parseMethodDescriptor y.desc = some meth.sig)) = true) : (Jvm.Cond.code y bytes mx rt).before a s = true := by
  simp only [Bool.and_eq_true, beq_iff_eq, Bool.not_eq_true', decide_eq_true_eq] at h5
  obtain ⟨⟨⟨⟨⟨g1, g2⟩, g3⟩, g4⟩, g5⟩, g6⟩ := h5
  simp [Cond.before, Cond.holds, Cond.value, h1, h2, h3, h4, g1, g2, g3, g4, g5, g6]
def isCode : Jvm.Cond → Bool
  | .code _ _ _ _ => true
  | _ => false
theorem all_split {L : List Jvm.Cond} {P : Jvm.Cond → Bool} (h1 : L.all (fun c => isCode c || P c) = true) (h2 : ∀ c ∈ L.filter isCode, P c = true) : L.all P = true := by
  refine List.all_eq_true.mpr fun c hc => ?_
  have h := List.all_eq_true.mp h1 c hc
  rcases Bool.eq_false_or_eq_true (isCode c) with hi | hi
  · exact h2 c (List.mem_filter.mpr ⟨hc, hi⟩)
  · simpa [hi] using h
set_option maxRecDepth 65536 in
theorem w_c0 : (Jvm.Cond.code x code maxLocals ret).before args0 about1 = true := code_word (m := ⟨1, 2⟩) (meth := k1m2) (c := k1c2) (by decide +kernel) rfl rfl rfl (by decide +kernel)
set_option maxRecDepth 65536 in
theorem w_c1 : (Jvm.Cond.code ({ cls := "com/example/restweave/restweave/raml/FamilyCombinedPinLaw", name := "holds", desc := "(Lcom/example/restweave/restweave/raml/Family;Lcom/example/restweave/restweave/raml/Family;)Z" } : Jvm.MethodName) method_2_code (2 : Nat) (Option.some Jvm.ClassFile.FieldType.boolean)).before args0 about1 = true := code_word (m := ⟨1, 1⟩) (meth := k1m1) (c := k1c1) (by decide +kernel) rfl rfl rfl (by decide +kernel)
set_option maxRecDepth 65536 in
theorem w_c2 : (Jvm.Cond.code ({ cls := "com/example/restweave/restweave/raml/Family", name := "combined", desc := "(Lcom/example/restweave/restweave/raml/Family;Lcom/example/restweave/restweave/raml/Family;)Ljava/util/Optional;" } : Jvm.MethodName) prog_24_method_9_code (3 : Nat) (Option.some (Jvm.ClassFile.FieldType.object "java/util/Optional"))).before args0 about1 = true := code_word (m := ⟨6, 1⟩) (meth := k6m1) (c := k6c1) (by decide +kernel) rfl rfl rfl (by decide +kernel)
set_option maxRecDepth 65536 in
theorem w_c3 : (Jvm.Cond.code ({ cls := "java/util/Optional", name := "ofNullable", desc := "(Ljava/lang/Object;)Ljava/util/Optional;" } : Jvm.MethodName) jdk_32_method_4_code (1 : Nat) (Option.some (Jvm.ClassFile.FieldType.object "java/util/Optional"))).before args0 about1 = true := code_word (m := ⟨7, 1⟩) (meth := k7m1) (c := k7c1) (by decide +kernel) rfl rfl rfl (by decide +kernel)
set_option maxRecDepth 65536 in
theorem w_c4 : (Jvm.Cond.code ({ cls := "java/util/Optional", name := "<init>", desc := "(Ljava/lang/Object;)V" } : Jvm.MethodName) jdk_32_method_2_code (2 : Nat) (Option.none : Option Jvm.ClassFile.FieldType)).before args0 about1 = true := code_word (m := ⟨7, 0⟩) (meth := k7m0) (c := k7c0) (by decide +kernel) rfl rfl rfl (by decide +kernel)
set_option maxRecDepth 65536 in
theorem w_c5 : (Jvm.Cond.code ({ cls := "java/lang/Object", name := "<init>", desc := "()V" } : Jvm.MethodName) object_method_1_code (1 : Nat) (Option.none : Option Jvm.ClassFile.FieldType)).before args0 about1 = true := code_word (m := ⟨0, 0⟩) (meth := k0m0) (c := k0c0) (by decide +kernel) rfl rfl rfl (by decide +kernel)
set_option maxRecDepth 65536 in
theorem w_c6 : (Jvm.Cond.code ({ cls := "java/util/Optional", name := "orElse", desc := "(Ljava/lang/Object;)Ljava/lang/Object;" } : Jvm.MethodName) jdk_32_method_15_code (2 : Nat) (Option.some (Jvm.ClassFile.FieldType.object "java/lang/Object"))).before args0 about1 = true := code_word (m := ⟨7, 2⟩) (meth := k7m2) (c := k7c2) (by decide +kernel) rfl rfl rfl (by decide +kernel)
set_option maxRecDepth 65536 in
theorem w_c7 : (Jvm.Cond.code ({ cls := "com/example/restweave/restweave/raml/Family", name := "facets", desc := "()Lcom/example/restweave/restweave/raml/Family;" } : Jvm.MethodName) prog_24_method_7_code (1 : Nat) (Option.some (Jvm.ClassFile.FieldType.object "com/example/restweave/restweave/raml/Family"))).before args0 about1 = true := code_word (m := ⟨6, 0⟩) (meth := k6m0) (c := k6c0) (by decide +kernel) rfl rfl rfl (by decide +kernel)
def codes1 : List Jvm.Cond := [Jvm.Cond.code x code maxLocals ret, Jvm.Cond.code ({ cls := "com/example/restweave/restweave/raml/FamilyCombinedPinLaw", name := "holds", desc := "(Lcom/example/restweave/restweave/raml/Family;Lcom/example/restweave/restweave/raml/Family;)Z" } : Jvm.MethodName) method_2_code (2 : Nat) (Option.some Jvm.ClassFile.FieldType.boolean), Jvm.Cond.code ({ cls := "com/example/restweave/restweave/raml/Family", name := "combined", desc := "(Lcom/example/restweave/restweave/raml/Family;Lcom/example/restweave/restweave/raml/Family;)Ljava/util/Optional;" } : Jvm.MethodName) prog_24_method_9_code (3 : Nat) (Option.some (Jvm.ClassFile.FieldType.object "java/util/Optional")), Jvm.Cond.code ({ cls := "java/util/Optional", name := "ofNullable", desc := "(Ljava/lang/Object;)Ljava/util/Optional;" } : Jvm.MethodName) jdk_32_method_4_code (1 : Nat) (Option.some (Jvm.ClassFile.FieldType.object "java/util/Optional")), Jvm.Cond.code ({ cls := "java/util/Optional", name := "<init>", desc := "(Ljava/lang/Object;)V" } : Jvm.MethodName) jdk_32_method_2_code (2 : Nat) (Option.none : Option Jvm.ClassFile.FieldType), Jvm.Cond.code ({ cls := "java/lang/Object", name := "<init>", desc := "()V" } : Jvm.MethodName) object_method_1_code (1 : Nat) (Option.none : Option Jvm.ClassFile.FieldType), Jvm.Cond.code ({ cls := "java/util/Optional", name := "orElse", desc := "(Ljava/lang/Object;)Ljava/lang/Object;" } : Jvm.MethodName) jdk_32_method_15_code (2 : Nat) (Option.some (Jvm.ClassFile.FieldType.object "java/lang/Object")), Jvm.Cond.code ({ cls := "com/example/restweave/restweave/raml/Family", name := "facets", desc := "()Lcom/example/restweave/restweave/raml/Family;" } : Jvm.MethodName) prog_24_method_7_code (1 : Nat) (Option.some (Jvm.ClassFile.FieldType.object "com/example/restweave/restweave/raml/Family"))]
set_option maxRecDepth 65536 in
theorem codes_eq : words1.filter isCode = codes1 := rfl
theorem w_codes : ∀ c ∈ words1.filter isCode, c.before args0 about1 = true := by
  rw [codes_eq]
  intro c hc
  simp only [codes1, List.mem_cons, List.not_mem_nil, or_false] at hc
  rcases hc with rfl | rfl | rfl | rfl | rfl | rfl | rfl | rfl
  · exact w_c0
  · exact w_c1
  · exact w_c2
  · exact w_c3
  · exact w_c4
  · exact w_c5
  · exact w_c6
  · exact w_c7
set_option maxRecDepth 65536 in
theorem w_t1 : (words1.take 24).all (fun c => isCode c || c.before args0 about1) = true := by decide +kernel
set_option maxRecDepth 65536 in
theorem w_t2 : ((words1.drop 24).take 24).all (fun c => isCode c || c.before args0 about1) = true := by decide +kernel
set_option maxRecDepth 65536 in
theorem w_t3 : ((words1.drop 24).drop 24).all (fun c => isCode c || c.before args0 about1) = true := by decide +kernel
theorem w_tables : (allAtoms (Jvm.Cond.code x code maxLocals ret :: tables_1)).before args0 about1 = true := by
  rw [allAtoms_all]
  show words1.all (fun c => c.before args0 about1) = true
  refine all_split ?_ w_codes
  rw [← List.take_append_drop 24 words1, List.all_append, w_t1, ← List.take_append_drop 24 (words1.drop 24), List.all_append, w_t2, w_t3]
  rfl
set_option maxRecDepth 65536 in
theorem w_rest : rest_1_c.before args0 about1 = true := by decide +kernel
set_option maxRecDepth 65536 in
theorem w_case : (Jvm.Cond.and given_1 narrow_1).before args0 about1 = true := by decide +kernel
theorem w_applies : (headSpec (Jvm.Cond.code x code maxLocals ret :: tables_1) room_1).applies x e0.platform about1 = true :=
  (Spec.applies_iff w_frames).mpr ⟨w_running, w_runnable, w_alone, w_named, w_hears, w_ripe, w_room, w_tables⟩
theorem atStart : AtStart classFile x code maxLocals ret World_1 tables_1 room_1 Calls_1 rest_1 Pre_1 launch0 p0 e0 about1 theMethod args0 below0 :=
  ⟨lists_1, trivial, launch0.admits_env _ _ _, launch0.least_env, fairChoices_fair.cas, fairChoices_fair.clock, w_frames, w_args, w_heap, w_applies, trivial, w_rest, w_case⟩
end start1
theorem witness_1 : WitnessClaimed_1 := ⟨start1.p0, start1.e0, start1.about1, start1.theMethod, start1.args0, start1.below0, start1.atStart⟩
end Jvm.Pilot.@@N@@
