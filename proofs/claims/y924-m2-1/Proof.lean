import JvmDerived
import JvmDerived.Pilot.@@N@@Statement
import JvmDerived.Pilot.@@N@@Code
set_option linter.unusedVariables false
set_option linter.unusedSimpArgs false
namespace Jvm.Pilot.@@N@@
open Jvm Jvm.ClassFile Sem Op Lib Jvm.Free Jvm.Stand Jvm.LawKit Jvm.RoadKit Bundle Jvm.Pilot.@@N@@.Jvm.D

section OwnKit
variable {p : Program} {l : Launch} {e : Env} {R : Room} {s : State} {m : MethodId} {args : Array Value} {below : List Frame} {meth : Method} {c : Code} {T T' : State} {locs : List Loc} {cells slots : Nat} {g g' : JFrame} {Q : Option Value → Heap → List Loc → Prop} {k n : Nat} {Z : State} {h : Heap} {a0 : Array Value}
/-- from here the run comes to the method's end, and there Q holds -/
def Go (p : Program) (e : Env) (s : State) (below : List Frame) (Q : Option Value → Heap → List Loc → Prop) (k n : Nat) (T : State) (g : JFrame) : Prop :=
  ∃ s₂ o, Steps p.tables e below (T.setTop g) s₂ ∧ s₂.status = .running ∧ Ended s₂ below o ∧ ∃ v L, o = .returned v ∧ Q v s₂.heap L ∧ FrameEnd s o s₂ L k n
theorem Go.st (st : ∀ t, Steps p.tables e below (T'.setTop g') t → Steps p.tables e below (T.setTop g) t) (G : Go p e s below Q k n T' g') : Go p e s below Q k n T g := by
  obtain ⟨t, o, h1, r⟩ := G
  exact ⟨t, o, st _ h1, r⟩
theorem Go.thru (st : Steps p.tables e below (T.setTop g) (T'.setTop g')) (G : Go p e s below Q k n T' g') : Go p e s below Q k n T g := Go.st (fun _ q => st.trans q) G
theorem Go.cast (q : g = g') (G : Go p e s below Q k n T g') : Go p e s below Q k n T g := q ▸ G
theorem Go.end_ (X : Stand p l e R s m args below meth c T locs cells slots) {v : Option Value} (hv : meth.sig.returnType = none → v = none) (hlk : meth.locks = false)
    (st : ∀ fs, (∀ (f : JFrame) (acts : List Action), f.method = m → f.locked = none → f.entered = [] → (doReturn e (T.setTop f) acts v).1 = T.setFrames fs) → Steps p.tables e below (T.setTop g) (T.setFrames fs))
    (hk : cells ≤ k) (hn : slots ≤ n) (hQ : Q v T.heap locs) : Go p e s below Q k n T g := by
  obtain ⟨fs, hr, hrun, hended, hW, hsame⟩ := X.leave (v := v) hv hlk
  exact ⟨_, _, st fs hr, hrun, hended, _, _, rfl, hQ, ⟨_, rfl⟩, hW, hsame.mono hk hn⟩
theorem own_some {t : FieldType} {v : Option Value} (h : meth.sig.returnType = some t) : meth.sig.returnType = none → v = none := fun q => by rw [h] at q; cases q
/-- ireturn of a boolean (also byte, char, short) -/
theorem Go.retN (X : Stand p l e R s m args below meth c T locs cells slots) (hx : p.tables.exec = Jvm.exec) (hlk : meth.locks = false) {t : FieldType} (hret : meth.sig.returnType = some t) (ht : t = .boolean ∨ t = .byte ∨ t = .char ∨ t = .short) {pc : Nat} {Ls : Array Slot} {z : Int32} {rest : List Value}
    (hd : decode c.code pc = .ok (.ireturn, 1)) (hk : cells ≤ k) (hn : slots ≤ n) (hQ : Q (some (.int (nar t z))) T.heap locs) : Go p e s below Q k n T (mkF m pc Ls (.int z :: rest)) :=
  Go.end_ X (own_some hret) hlk (fun _ hr => Jvm.RoadKit.retN X hx hret ht hd hr) hk hn hQ
theorem Go.retI (X : Stand p l e R s m args below meth c T locs cells slots) (hx : p.tables.exec = Jvm.exec) (hlk : meth.locks = false) (hret : meth.sig.returnType = some .int) {pc : Nat} {Ls : Array Slot} {z : Int32} {rest : List Value}
    (hd : decode c.code pc = .ok (.ireturn, 1)) (hk : cells ≤ k) (hn : slots ≤ n) (hQ : Q (some (.int z)) T.heap locs) : Go p e s below Q k n T (mkF m pc Ls (.int z :: rest)) :=
  Go.end_ X (own_some hret) hlk (fun _ hr => Jvm.RoadKit.retOut X hx hret rfl (Or.inl ⟨rfl, Or.inl rfl, _, rfl⟩) hd hr) hk hn hQ
theorem Go.retJ (X : Stand p l e R s m args below meth c T locs cells slots) (hx : p.tables.exec = Jvm.exec) (hlk : meth.locks = false) (hret : meth.sig.returnType = some .long) {pc : Nat} {Ls : Array Slot} {z : Int64} {rest : List Value}
    (hd : decode c.code pc = .ok (.lreturn, 1)) (hk : cells ≤ k) (hn : slots ≤ n) (hQ : Q (some (.long z)) T.heap locs) : Go p e s below Q k n T (mkF m pc Ls (.long z :: rest)) :=
  Go.end_ X (own_some hret) hlk (fun _ hr => Jvm.RoadKit.retOut X hx hret rfl (Or.inr (Or.inl ⟨rfl, rfl, _, rfl⟩)) hd hr) hk hn hQ
theorem own_narR {t : FieldType} {v : Value} (ht : t.isReference = true) (hv : v.isRef = true) : narrow t v = v := by
  rcases ref_cases hv with rfl | ⟨a, rfl⟩ <;> cases t <;> rfl
theorem Go.retA (X : Stand p l e R s m args below meth c T locs cells slots) (hx : p.tables.exec = Jvm.exec) (hlk : meth.locks = false) {t : FieldType} (hret : meth.sig.returnType = some t) (ht : t.isReference = true) {pc : Nat} {Ls : Array Slot} {v : Value} {rest : List Value} (hv : v.isRef = true)
    (hd : decode c.code pc = .ok (.areturn, 1)) (hk : cells ≤ k) (hn : slots ≤ n) (hQ : Q (some v) T.heap locs) : Go p e s below Q k n T (mkF m pc Ls (v :: rest)) :=
  Go.end_ X (own_some hret) hlk (fun _ hr => Jvm.RoadKit.retOut X hx hret (own_narR ht hv) (Or.inr (Or.inr (Or.inr (Or.inr ⟨rfl, ht, hv⟩)))) hd hr) hk hn hQ
theorem Go.retV (X : Stand p l e R s m args below meth c T locs cells slots) (hx : p.tables.exec = Jvm.exec) (hlk : meth.locks = false) (hret : meth.sig.returnType = none) {pc : Nat} {Ls : Array Slot}
    (hd : decode c.code pc = .ok (.return_, 1)) (hk : cells ≤ k) (hn : slots ≤ n) (hQ : Q none T.heap locs) : Go p e s below Q k n T (mkF m pc Ls []) :=
  Go.end_ X (fun _ => rfl) hlk (fun _ hr => X.returnOut hx hret hd hr) hk hn hQ
/-- a body's contract -/
def Meets (l : Launch) (Z : State) (y : MethodName) (bytes : ByteArray) (maxL : Nat) (ret : Option FieldType) (rm : Room) (ws : List Jvm.Cond) (as' : Array Value) (h : Heap) (Q : Option Value → Heap → List Loc → Prop) : Prop :=
  MetFree l y (head1 (Jvm.Cond.code y bytes maxL ret :: ws) rm) (fun a U => a = as' ∧ Z.Warmed39 U.vm ∧ U.heap = h) (fun _ _ _ _ _ => True) (fun _ U o U' => ∃ v L, o = .returned v ∧ Q v U'.heap L ∧ FrameEnd U o U' L rm.cells rm.slots)
theorem Meets.of {y : MethodName} {bytes : ByteArray} {maxL : Nat} {ret : Option FieldType} {rm : Room} {ws : List Jvm.Cond} {as' : Array Value} (hpl : plainFor y = true)
    (body : ∀ (p : Program) (e : Env) (s : State) (m : MethodId) (below : List Frame) (meth : Method) (c : Code) (s₁ : State), Stand p l e rm s m as' below meth c s₁ [] 0 0 → p.tables.exec = Jvm.exec → c.code = bytes → c.maxLocals = maxL → meth.sig.returnType = ret → meth.locks = false → meth.name = y.name → Z.Warmed39 s.vm → s.vm.findClass y.cls = some m.cls → s₁.heap = h →
      Go p e s below Q rm.cells rm.slots s₁ (entryFrame m as' maxL)) : Meets l Z y bytes maxL ret rm ws as' h Q := by
  unfold Meets
  refine MetFree.of_bodySF hpl hisR ?_
  intro p e s m args below meth c s₁ Bd hml0 hP hK
  obtain ⟨rfl, hZ, hh⟩ := hP
  exact body p e s m below meth c s₁ (Stand.of_body Bd) Bd.exec Bd.bytes hml0 Bd.returns Bd.notSynchronized (name_of_methodNamed Bd.named Bd.method).1 hZ (findClass_of_methodNamed Bd.named) (by rw [← hh, Bd.state]; rfl)
section Calls
variable {y z : MethodName} {own C : String} {index : Nat} {bytes : ByteArray} {maxL : Nat} {ret : Option FieldType} {rm : Room} {W : Nat} {Q0 : Option Value → Heap → List Loc → Prop} {b : Addr} {argsL rest : List Value} {pc : Nat} {Ls : Array Slot}
theorem Go.callS (X : Stand p l e R s m args below meth c T locs cells slots) (hx : p.tables.exec = Jvm.exec) (hZ : Z.Warmed39 s.vm) (hown : s.vm.findClass own = some m.cls)
    (w1 : (Jvm.Cond.methodLink own index y).before a0 Z = true) (w2 : (Jvm.Cond.static y).before a0 Z = true) (w3 : (Jvm.Cond.initialized y.cls).before a0 Z = true) (w4 : (Jvm.Cond.code y bytes maxL ret).before a0 Z = true)
    (hM : Meets l Z y bytes maxL ret rm [] argsL.toArray h Q0) (eT : T.heap = h) (hy : y.cls ≠ "java/lang/invoke/MethodHandle" ∧ y.cls ≠ "java/lang/invoke/VarHandle")
    (hf : rm.frames + 1 ≤ R.frames) (hl : W + (maxL + 11) + rm.locals ≤ R.locals) (hcl : cells + rm.cells ≤ R.cells) (hsl : slots + rm.slots ≤ R.slots)
    (hsize : Ls.size = c.maxLocals) (hlen : ∀ sig, parseMethodDescriptor y.desc = some sig → argsL.length = sig.parameters.length) (hW : 2 * 0 + (rest.map fun v => v.category).sum ≤ W)
    (hd : decode c.code pc = .ok (.invokestatic index, 3))
    (next : ∀ (T' : State) (v : Option Value) (L : List Loc), Stand p l e R s m args below meth c T' (locs ++ L) (cells + rm.cells) (slots + rm.slots) → Q0 v T'.heap L → Go p e s below Q k n T' (mkF m (pc + 3) Ls (v.toList ++ rest))) :
    Go p e s below Q k n T (mkF m pc Ls (argsL.reverse ++ rest)) := by
  obtain ⟨v, _, ⟨T', L', k', n'⟩, -, X', ⟨Lc, hQ, l', y', z'⟩, st⟩ := Jvm.LawKit.callS X hx (y := y) hown (mvT hZ w1) (mvT hZ w2) (mvT hZ w3) (mvT hZ w4) hy (backOf (W := W) hM hZ w4 w3 hf hl) (g := mkF m pc Ls (argsL.reverse ++ rest)) rfl hsize (argsL := argsL) (rest := rest) hlen rfl hW hd (fun _ _ => ⟨rfl, eT, hcl, hsl⟩)
  dsimp only [Pt.U, Pt.locs, Pt.cells, Pt.slots] at X' l' y' z' st hQ
  subst l' y' z'
  exact Go.st st (next T' v Lc X' hQ)
theorem Go.callV (X : Stand p l e R s m args below meth c T locs cells slots) (hx : p.tables.exec = Jvm.exec) (hZ : Z.Warmed39 s.vm) (hown : s.vm.findClass own = some m.cls)
    (w1 : (Jvm.Cond.methodLink own index y).before a0 Z = true) (w2 : (Jvm.Cond.declares y).before a0 Z = true) (hnf : NotFace s y) (w3 : (Jvm.Cond.selects C y z).before a0 Z = true) (w4 : (Jvm.Cond.instanceMethod z).before a0 Z = true) (w5 : (Jvm.Cond.initialized z.cls).before a0 Z = true) (w6 : (Jvm.Cond.code z bytes maxL ret).before a0 Z = true)
    (hM : Meets l Z z bytes maxL ret rm [] (.ref b :: argsL).toArray h Q0) (eT : T.heap = h) (E : Exa Z h b C) (hy : y.cls ≠ "java/lang/invoke/MethodHandle" ∧ y.cls ≠ "java/lang/invoke/VarHandle")
    (hf : rm.frames + 1 ≤ R.frames) (hl : W + (maxL + 11) + rm.locals ≤ R.locals) (hcl : cells + rm.cells ≤ R.cells) (hsl : slots + rm.slots ≤ R.slots)
    (hsize : Ls.size = c.maxLocals) (hlen : ∀ sig, parseMethodDescriptor y.desc = some sig → argsL.length = sig.parameters.length) (hW : 2 * 0 + (rest.map fun v => v.category).sum ≤ W)
    (hd : decode c.code pc = .ok (.invokevirtual index, 3))
    (next : ∀ (T' : State) (v : Option Value) (L : List Loc), Stand p l e R s m args below meth c T' (locs ++ L) (cells + rm.cells) (slots + rm.slots) → Q0 v T'.heap L → Go p e s below Q k n T' (mkF m (pc + 3) Ls (v.toList ++ rest))) :
    Go p e s below Q k n T (mkF m pc Ls (argsL.reverse ++ .ref b :: rest)) := by
  obtain ⟨cq, kq, qa, qb, qc⟩ := isOf hZ eT E
  obtain ⟨v, _, ⟨T', L', k', n'⟩, -, X', ⟨Lc, hQ, l', y', z'⟩, st⟩ := X.virtualBack hx (y := y) (z := z) hown (mvT hZ w1) (mvT hZ w2) hnf (mvT hZ w3) (mvT hZ w4) hy (backOf (W := W) hM hZ w6 w5 hf hl) qa qc (g := mkF m pc Ls (argsL.reverse ++ .ref b :: rest)) rfl hsize (Steps.refl _) (argsL := argsL) (rest := rest) hlen rfl hW hd (fun _ _ => ⟨rfl, eT, hcl, hsl⟩)
  dsimp only [Pt.U, Pt.locs, Pt.cells, Pt.slots] at X' l' y' z' st hQ
  subst l' y' z'
  exact Go.thru st (next T' v Lc X' hQ)
/-- an inherited method, named through the subclass -/
theorem Go.callU {owner : String} {x' : MethodName} (X : Stand p l e R s m args below meth c T locs cells slots) (hx : p.tables.exec = Jvm.exec) (hZ : Z.Warmed39 s.vm) (hown : s.vm.findClass own = some m.cls)
    (w1 : (Jvm.Cond.methodLink own index x').before a0 Z = true) (w2 : (Jvm.Cond.sameMethod x'.cls owner x'.name x'.desc).before a0 Z = true) (w3 : (Jvm.Cond.declares ⟨owner, x'.name, x'.desc⟩).before a0 Z = true) (w4 : (Jvm.Cond.selects C x' z).before a0 Z = true) (w5 : (Jvm.Cond.instanceMethod z).before a0 Z = true) (w6 : (Jvm.Cond.initialized z.cls).before a0 Z = true) (w7 : (Jvm.Cond.code z bytes maxL ret).before a0 Z = true)
    (hM : Meets l Z z bytes maxL ret rm [] (.ref b :: argsL).toArray h Q0) (eT : T.heap = h) (E : Exa Z h b C) (hy : owner ≠ "java/lang/invoke/MethodHandle" ∧ owner ≠ "java/lang/invoke/VarHandle")
    (hf : rm.frames + 1 ≤ R.frames) (hl : W + (maxL + 11) + rm.locals ≤ R.locals) (hcl : cells + rm.cells ≤ R.cells) (hsl : slots + rm.slots ≤ R.slots)
    (hsize : Ls.size = c.maxLocals) (hlen : ∀ sig, parseMethodDescriptor x'.desc = some sig → argsL.length = sig.parameters.length) (hW : 2 * 0 + (rest.map fun v => v.category).sum ≤ W)
    (hd : decode c.code pc = .ok (.invokevirtual index, 3))
    (next : ∀ (T' : State) (v : Option Value) (L : List Loc), Stand p l e R s m args below meth c T' (locs ++ L) (cells + rm.cells) (slots + rm.slots) → Q0 v T'.heap L → Go p e s below Q k n T' (mkF m (pc + 3) Ls (v.toList ++ rest))) :
    Go p e s below Q k n T (mkF m pc Ls (argsL.reverse ++ .ref b :: rest)) := by
  obtain ⟨cq, kq, qa, qb, qc⟩ := isOf hZ eT E
  obtain ⟨v, _, ⟨T', L', k', n'⟩, -, X', ⟨Lc, hQ, l', y', z'⟩, st⟩ := X.virtualBackUp hx (x := x') (y := z) hown (mvT hZ w1) (mvT hZ w2) (mvT hZ w3) hy (mvT hZ w4) (mvT hZ w5) (backOf (W := W) hM hZ w7 w6 hf hl) qa qc (g := mkF m pc Ls (argsL.reverse ++ .ref b :: rest)) rfl hsize (Steps.refl _) (argsL := argsL) (rest := rest) hlen rfl hW hd (fun _ _ => ⟨rfl, eT, hcl, hsl⟩)
  dsimp only [Pt.U, Pt.locs, Pt.cells, Pt.slots] at X' l' y' z' st hQ
  subst l' y' z'
  exact Go.thru st (next T' v Lc X' hQ)
/-- a constructor -/
theorem Go.callC (X : Stand p l e R s m args below meth c T locs cells slots) (hx : p.tables.exec = Jvm.exec) (hZ : Z.Warmed39 s.vm) (hy1 : y.name = "<init>") (hown : s.vm.findClass own = some m.cls)
    (w1 : (Jvm.Cond.methodLink own index y).before a0 Z = true) (w2 : (Jvm.Cond.instanceMethod y).before a0 Z = true) (w3 : (Jvm.Cond.initialized y.cls).before a0 Z = true) (w4 : (Jvm.Cond.code y bytes maxL none).before a0 Z = true)
    (hM : Meets l Z y bytes maxL none rm [] (.ref b :: argsL).toArray h Q0) (eT : T.heap = h) (hy : y.cls ≠ "java/lang/invoke/MethodHandle" ∧ y.cls ≠ "java/lang/invoke/VarHandle")
    (hf : rm.frames + 1 ≤ R.frames) (hl : W + (maxL + 11) + rm.locals ≤ R.locals) (hcl : cells + rm.cells ≤ R.cells) (hsl : slots + rm.slots ≤ R.slots)
    (hsize : Ls.size = c.maxLocals) (hlen : ∀ sig, parseMethodDescriptor y.desc = some sig → argsL.length = sig.parameters.length) (hW : 2 * 0 + (rest.map fun v => v.category).sum ≤ W)
    (hd : decode c.code pc = .ok (.invokespecial index, 3))
    (next : ∀ (T' : State) (v : Option Value) (L : List Loc), Stand p l e R s m args below meth c T' (locs ++ L) (cells + rm.cells) (slots + rm.slots) → Q0 v T'.heap L → Go p e s below Q k n T' (mkF m (pc + 3) Ls (v.toList ++ rest))) :
    Go p e s below Q k n T (mkF m pc Ls (argsL.reverse ++ .ref b :: rest)) := by
  obtain ⟨v, _, ⟨T', L', k', n'⟩, -, X', ⟨Lc, hQ, l', y', z'⟩, st⟩ := X.specialBack hx (y := y) hy1 hown (mvT hZ w1) (mvT hZ w2) (mvT hZ w4) hy (backOf (W := W) hM hZ w4 w3 hf hl) (g := mkF m pc Ls (argsL.reverse ++ .ref b :: rest)) rfl hsize (Steps.refl _) (a := b) (argsL := argsL) (rest := rest) hlen rfl hW hd (fun _ _ => ⟨rfl, eT, hcl, hsl⟩)
  dsimp only [Pt.U, Pt.locs, Pt.cells, Pt.slots] at X' l' y' z' st hQ
  subst l' y' z'
  exact Go.thru st (next T' v Lc X' hQ)
end Calls
end OwnKit

theorem own_eqI {args : Array Value} {Z : State} {t : Term} {i : Int32} (h : (Jvm.Cond.eq t (.int i)).value args Z none Z [] = some true) : t.eval args Z none [] Z = some (.int i) := by
  simp only [Cond.value, Term.eval] at h
  cases ht : t.eval args Z none [] Z with
  | none => simp [ht] at h
  | some x => cases x <;> simp_all
theorem own_const {C nm d : String} {i : Int32} {args : Array Value} {Z : State} (w1 : (Jvm.Cond.exactly (.static C nm d) C).value args Z none Z [] = some true)
    (w2 : (Jvm.Cond.eq (.field (.static C nm d) "java/lang/Enum" "ordinal" "I") (.int i)).value args Z none Z [] = some true) (hi : (Jvm.Cond.initialized C).before args Z = true) (hl : (Jvm.Cond.laysStatic C nm d).before args Z = true) :
    ∃ r, (Term.static C nm d).eval args Z none [] Z = some (.ref r) ∧ Sta Z Z.heap C nm d (.ref r) ∧ Exa Z Z.heap r C ∧ Fld Z Z.heap r "java/lang/Enum" "ordinal" "I" (.int i) := by
  obtain ⟨r, er⟩ := exa_v w1
  exact ⟨r, er, Sta.start er (Or.inr ⟨hi, hl⟩), Exa.start er w1, Fld.start (by rw [← fld_at er]; exact own_eqI w2)⟩

def nms : List String := ["EQUAL", "NOT_EQUAL", "LESS", "LESS_OR_EQUAL", "GREATER", "GREATER_OR_EQUAL"]
def ords : List Int32 := [0, 1, 2, 3, 4, 5]
/-- the enum's constants, in a heap: each static holds its own object, of exactly that class, with its ordinal -/
def Cs (Z : State) (h : Heap) (r : Nat → Addr) : Prop := ∀ (i : Nat) (nm : String) (o : Int32), nms[i]? = some nm → ords[i]? = some o → Sta Z h "com/example/keyfold/keyfold/sql/Condition$Operator" nm "Lcom/example/keyfold/keyfold/sql/Condition$Operator;" (.ref (r i)) ∧ Exa Z h (r i) "com/example/keyfold/keyfold/sql/Condition$Operator" ∧ Fld Z h (r i) "java/lang/Enum" "ordinal" "I" (.int o)
theorem Cs.ne {Z : State} {h : Heap} {r : Nat → Addr} (C : Cs Z h r) {i j : Nat} {n1 n2 : String} {o1 o2 : Int32} (a1 : nms[i]? = some n1) (a2 : ords[i]? = some o1) (b1 : nms[j]? = some n2) (b2 : ords[j]? = some o2) (hne : o1 ≠ o2) : ¬ (r i = r j) := (C i n1 o1 a1 a2).2.2.ne (C j n2 o2 b1 b2).2.2 (fun q => hne (Value.int.inj q))

def adm (k : Int32) : Int32 := if k = 0 then 2 else if k = 1 then 5 else if k = 2 then 1 else if k = 3 then 3 else if k = 4 then 4 else 6
def opi (k : Int32) : Nat := if k = 0 then 0 else if k = 1 then 1 else if k = 2 then 2 else if k = 3 then 3 else if k = 4 then 4 else 5
theorem d1_0 : decode method_3_code 0 = .ok (.iload_n 0, 1) := by decide +kernel
theorem d1_1 : decode method_3_code 1 = .ok (.ifCond .ne 5, 3) := by decide +kernel
theorem d1_4 : decode method_3_code 4 = .ok (.iconst 2, 1) := by decide +kernel
theorem d1_5 : decode method_3_code 5 = .ok (.ireturn, 1) := by decide +kernel
theorem d1_6 : decode method_3_code 6 = .ok (.iload_n 0, 1) := by decide +kernel
theorem d1_7 : decode method_3_code 7 = .ok (.iconst 1, 1) := by decide +kernel
theorem d1_8 : decode method_3_code 8 = .ok (.if_icmp .ne 5, 3) := by decide +kernel
theorem d1_11 : decode method_3_code 11 = .ok (.iconst 5, 1) := by decide +kernel
theorem d1_12 : decode method_3_code 12 = .ok (.ireturn, 1) := by decide +kernel
theorem d1_13 : decode method_3_code 13 = .ok (.iload_n 0, 1) := by decide +kernel
theorem d1_14 : decode method_3_code 14 = .ok (.iconst 2, 1) := by decide +kernel
theorem d1_15 : decode method_3_code 15 = .ok (.if_icmp .ne 5, 3) := by decide +kernel
theorem d1_18 : decode method_3_code 18 = .ok (.iconst 1, 1) := by decide +kernel
theorem d1_19 : decode method_3_code 19 = .ok (.ireturn, 1) := by decide +kernel
theorem d1_20 : decode method_3_code 20 = .ok (.iload_n 0, 1) := by decide +kernel
theorem d1_21 : decode method_3_code 21 = .ok (.iconst 3, 1) := by decide +kernel
theorem d1_22 : decode method_3_code 22 = .ok (.if_icmp .ne 5, 3) := by decide +kernel
theorem d1_25 : decode method_3_code 25 = .ok (.iconst 3, 1) := by decide +kernel
theorem d1_26 : decode method_3_code 26 = .ok (.ireturn, 1) := by decide +kernel
theorem d1_27 : decode method_3_code 27 = .ok (.iload_n 0, 1) := by decide +kernel
theorem d1_28 : decode method_3_code 28 = .ok (.iconst 4, 1) := by decide +kernel
theorem d1_29 : decode method_3_code 29 = .ok (.if_icmp .ne 5, 3) := by decide +kernel
theorem d1_32 : decode method_3_code 32 = .ok (.iconst 4, 1) := by decide +kernel
theorem d1_33 : decode method_3_code 33 = .ok (.ireturn, 1) := by decide +kernel
theorem d1_34 : decode method_3_code 34 = .ok (.bipush 6, 2) := by decide +kernel
theorem d1_36 : decode method_3_code 36 = .ok (.ireturn, 1) := by decide +kernel
theorem ef_a (m : MethodId) (x0 : Int32) : entryFrame m #[(.int x0)] 1 = mkF m 0 #[.val (.int x0)] [] := by first | (simp [entryFrame, mkF, argsToLocals, Value.category]; done) | rfl
set_option maxRecDepth 65536 in
set_option maxHeartbeats 40000000 in
theorem rma (l : Launch) (Z : State) (a0 : Array Value) (hw : ∀ d ∈ tables_1, d.before a0 Z = true) (ws : List Jvm.Cond) (k a : Int32) (h0 : Heap) (n0 : Nat) (ha : adm k = a) :
    Meets l Z (⟨"com/example/keyfold/keyfold/sql/OperatorHoldsPinLaw", "admits", "(I)I"⟩ : MethodName) method_3_code 1 (some .int) ({ frames := 0, cells := 0, slots := 0, locals := 0 } : Room) ws #[(.int k)] h0 (fun v h L => v = some (.int a) ∧ Fr n0 L ∧ h = h0) := by
  refine Meets.of (plainFor_of_name (by first | (simp [plainName, overriddenIn]; done) | decide +kernel : plainName "com/example/keyfold/keyfold/sql/OperatorHoldsPinLaw" = true)) ?_
  intro p e s m below meth c s₁ X0 hx hby hml hret hlk hnm hZ hown e0
  replace hown : s.vm.findClass "com/example/keyfold/keyfold/sql/OperatorHoldsPinLaw" = some m.cls := hown
  have N0 := Fr.nil n0
  refine Go.cast (ef_a m k) ?_
  show Go p e s below _ _ _ s₁ (mkF m 0 #[.val (.int k)] [])
  refine Go.st (fun _ kont => XS.iloadN X0.here hx rfl (hb hby d1_0) rfl kont) ?_
  show Go p e s below _ _ _ s₁ (mkF m 1 #[.val (.int k)] [(.int k)])
  by_cases hc1_1 : k = (0 : Int32)
  · --
    refine Go.st (fun _ kont => XS.ifNo X0.here hx rfl (hb hby d1_1) rfl ((if0 _ _).trans (teq hc1_1).2) kont) ?_
    show Go p e s below _ _ _ s₁ (mkF m 4 #[.val (.int k)] [])
    refine Go.st (fun _ kont => XT.iconstV X0.here hx rfl (2 : Int32) (hb hby d1_4) (by decide) kont) ?_
    show Go p e s below _ _ _ s₁ (mkF m 5 #[.val (.int k)] [(.int (2 : Int32))])
    exact Go.retI X0 hx hlk hret (hb hby d1_5) (by decide) (by decide) ⟨by rw [← ha, show adm k = (2 : Int32) from (if_pos hc1_1)], N0, e0⟩
  · --
    refine Go.st (fun _ kont => XS.ifYes X0.here hx rfl (pc0 := 1) (pc' := 6) rfl (hb hby d1_1) rfl ((if0 _ _).trans (feq hc1_1).2) (by decide) (by decide) kont) ?_
    show Go p e s below _ _ _ s₁ (mkF m 6 #[.val (.int k)] [])
    refine Go.st (fun _ kont => XS.iloadN X0.here hx rfl (hb hby d1_6) rfl kont) ?_
    show Go p e s below _ _ _ s₁ (mkF m 7 #[.val (.int k)] [(.int k)])
    refine Go.st (fun _ kont => XT.iconstV X0.here hx rfl (1 : Int32) (hb hby d1_7) (by decide) kont) ?_
    show Go p e s below _ _ _ s₁ (mkF m 8 #[.val (.int k)] [(.int (1 : Int32)), (.int k)])
    by_cases hc8_2 : k = (1 : Int32)
    · --
      refine Go.st (fun _ kont => XS.icmpNo X0.here hx rfl (hb hby d1_8) rfl (teq hc8_2).2 kont) ?_
      show Go p e s below _ _ _ s₁ (mkF m 11 #[.val (.int k)] [])
      refine Go.st (fun _ kont => XT.iconstV X0.here hx rfl (5 : Int32) (hb hby d1_11) (by decide) kont) ?_
      show Go p e s below _ _ _ s₁ (mkF m 12 #[.val (.int k)] [(.int (5 : Int32))])
      exact Go.retI X0 hx hlk hret (hb hby d1_12) (by decide) (by decide) ⟨by rw [← ha, show adm k = (5 : Int32) from ((if_neg hc1_1).trans (if_pos hc8_2))], N0, e0⟩
    · --
      refine Go.st (fun _ kont => XS.icmpYes X0.here hx rfl (pc0 := 8) (pc' := 13) rfl (hb hby d1_8) rfl (feq hc8_2).2 (by decide) (by decide) kont) ?_
      show Go p e s below _ _ _ s₁ (mkF m 13 #[.val (.int k)] [])
      refine Go.st (fun _ kont => XS.iloadN X0.here hx rfl (hb hby d1_13) rfl kont) ?_
      show Go p e s below _ _ _ s₁ (mkF m 14 #[.val (.int k)] [(.int k)])
      refine Go.st (fun _ kont => XT.iconstV X0.here hx rfl (2 : Int32) (hb hby d1_14) (by decide) kont) ?_
      show Go p e s below _ _ _ s₁ (mkF m 15 #[.val (.int k)] [(.int (2 : Int32)), (.int k)])
      by_cases hc15_3 : k = (2 : Int32)
      · --
        refine Go.st (fun _ kont => XS.icmpNo X0.here hx rfl (hb hby d1_15) rfl (teq hc15_3).2 kont) ?_
        show Go p e s below _ _ _ s₁ (mkF m 18 #[.val (.int k)] [])
        refine Go.st (fun _ kont => XT.iconstV X0.here hx rfl (1 : Int32) (hb hby d1_18) (by decide) kont) ?_
        show Go p e s below _ _ _ s₁ (mkF m 19 #[.val (.int k)] [(.int (1 : Int32))])
        exact Go.retI X0 hx hlk hret (hb hby d1_19) (by decide) (by decide) ⟨by rw [← ha, show adm k = (1 : Int32) from ((if_neg hc1_1).trans ((if_neg hc8_2).trans (if_pos hc15_3)))], N0, e0⟩
      · --
        refine Go.st (fun _ kont => XS.icmpYes X0.here hx rfl (pc0 := 15) (pc' := 20) rfl (hb hby d1_15) rfl (feq hc15_3).2 (by decide) (by decide) kont) ?_
        show Go p e s below _ _ _ s₁ (mkF m 20 #[.val (.int k)] [])
        refine Go.st (fun _ kont => XS.iloadN X0.here hx rfl (hb hby d1_20) rfl kont) ?_
        show Go p e s below _ _ _ s₁ (mkF m 21 #[.val (.int k)] [(.int k)])
        refine Go.st (fun _ kont => XT.iconstV X0.here hx rfl (3 : Int32) (hb hby d1_21) (by decide) kont) ?_
        show Go p e s below _ _ _ s₁ (mkF m 22 #[.val (.int k)] [(.int (3 : Int32)), (.int k)])
        by_cases hc22_4 : k = (3 : Int32)
        · --
          refine Go.st (fun _ kont => XS.icmpNo X0.here hx rfl (hb hby d1_22) rfl (teq hc22_4).2 kont) ?_
          show Go p e s below _ _ _ s₁ (mkF m 25 #[.val (.int k)] [])
          refine Go.st (fun _ kont => XT.iconstV X0.here hx rfl (3 : Int32) (hb hby d1_25) (by decide) kont) ?_
          show Go p e s below _ _ _ s₁ (mkF m 26 #[.val (.int k)] [(.int (3 : Int32))])
          exact Go.retI X0 hx hlk hret (hb hby d1_26) (by decide) (by decide) ⟨by rw [← ha, show adm k = (3 : Int32) from ((if_neg hc1_1).trans ((if_neg hc8_2).trans ((if_neg hc15_3).trans (if_pos hc22_4))))], N0, e0⟩
        · --
          refine Go.st (fun _ kont => XS.icmpYes X0.here hx rfl (pc0 := 22) (pc' := 27) rfl (hb hby d1_22) rfl (feq hc22_4).2 (by decide) (by decide) kont) ?_
          show Go p e s below _ _ _ s₁ (mkF m 27 #[.val (.int k)] [])
          refine Go.st (fun _ kont => XS.iloadN X0.here hx rfl (hb hby d1_27) rfl kont) ?_
          show Go p e s below _ _ _ s₁ (mkF m 28 #[.val (.int k)] [(.int k)])
          refine Go.st (fun _ kont => XT.iconstV X0.here hx rfl (4 : Int32) (hb hby d1_28) (by decide) kont) ?_
          show Go p e s below _ _ _ s₁ (mkF m 29 #[.val (.int k)] [(.int (4 : Int32)), (.int k)])
          by_cases hc29_5 : k = (4 : Int32)
          · --
            refine Go.st (fun _ kont => XS.icmpNo X0.here hx rfl (hb hby d1_29) rfl (teq hc29_5).2 kont) ?_
            show Go p e s below _ _ _ s₁ (mkF m 32 #[.val (.int k)] [])
            refine Go.st (fun _ kont => XT.iconstV X0.here hx rfl (4 : Int32) (hb hby d1_32) (by decide) kont) ?_
            show Go p e s below _ _ _ s₁ (mkF m 33 #[.val (.int k)] [(.int (4 : Int32))])
            exact Go.retI X0 hx hlk hret (hb hby d1_33) (by decide) (by decide) ⟨by rw [← ha, show adm k = (4 : Int32) from ((if_neg hc1_1).trans ((if_neg hc8_2).trans ((if_neg hc15_3).trans ((if_neg hc22_4).trans (if_pos hc29_5)))))], N0, e0⟩
          · --
            refine Go.st (fun _ kont => XS.icmpYes X0.here hx rfl (pc0 := 29) (pc' := 34) rfl (hb hby d1_29) rfl (feq hc29_5).2 (by decide) (by decide) kont) ?_
            show Go p e s below _ _ _ s₁ (mkF m 34 #[.val (.int k)] [])
            refine Go.st (fun _ kont => XT.bipushV X0.here hx rfl (6 : Int32) (hb hby d1_34) (by decide) kont) ?_
            show Go p e s below _ _ _ s₁ (mkF m 36 #[.val (.int k)] [(.int (6 : Int32))])
            exact Go.retI X0 hx hlk hret (hb hby d1_36) (by decide) (by decide) ⟨by rw [← ha, show adm k = (6 : Int32) from ((if_neg hc1_1).trans ((if_neg hc8_2).trans ((if_neg hc15_3).trans ((if_neg hc22_4).trans (if_neg hc29_5)))))], N0, e0⟩
theorem d2_0 : decode method_2_code 0 = .ok (.iload_n 0, 1) := by decide +kernel
theorem d2_1 : decode method_2_code 1 = .ok (.ifCond .ne 7, 3) := by decide +kernel
theorem d2_4 : decode method_2_code 4 = .ok (.getstatic 7, 3) := by decide +kernel
theorem d2_7 : decode method_2_code 7 = .ok (.areturn, 1) := by decide +kernel
theorem d2_8 : decode method_2_code 8 = .ok (.iload_n 0, 1) := by decide +kernel
theorem d2_9 : decode method_2_code 9 = .ok (.iconst 1, 1) := by decide +kernel
theorem d2_10 : decode method_2_code 10 = .ok (.if_icmp .ne 7, 3) := by decide +kernel
theorem d2_13 : decode method_2_code 13 = .ok (.getstatic 13, 3) := by decide +kernel
theorem d2_16 : decode method_2_code 16 = .ok (.areturn, 1) := by decide +kernel
theorem d2_17 : decode method_2_code 17 = .ok (.iload_n 0, 1) := by decide +kernel
theorem d2_18 : decode method_2_code 18 = .ok (.iconst 2, 1) := by decide +kernel
theorem d2_19 : decode method_2_code 19 = .ok (.if_icmp .ne 7, 3) := by decide +kernel
theorem d2_22 : decode method_2_code 22 = .ok (.getstatic 16, 3) := by decide +kernel
theorem d2_25 : decode method_2_code 25 = .ok (.areturn, 1) := by decide +kernel
theorem d2_26 : decode method_2_code 26 = .ok (.iload_n 0, 1) := by decide +kernel
theorem d2_27 : decode method_2_code 27 = .ok (.iconst 3, 1) := by decide +kernel
theorem d2_28 : decode method_2_code 28 = .ok (.if_icmp .ne 7, 3) := by decide +kernel
theorem d2_31 : decode method_2_code 31 = .ok (.getstatic 19, 3) := by decide +kernel
theorem d2_34 : decode method_2_code 34 = .ok (.areturn, 1) := by decide +kernel
theorem d2_35 : decode method_2_code 35 = .ok (.iload_n 0, 1) := by decide +kernel
theorem d2_36 : decode method_2_code 36 = .ok (.iconst 4, 1) := by decide +kernel
theorem d2_37 : decode method_2_code 37 = .ok (.if_icmp .ne 7, 3) := by decide +kernel
theorem d2_40 : decode method_2_code 40 = .ok (.getstatic 22, 3) := by decide +kernel
theorem d2_43 : decode method_2_code 43 = .ok (.areturn, 1) := by decide +kernel
theorem d2_44 : decode method_2_code 44 = .ok (.getstatic 25, 3) := by decide +kernel
theorem d2_47 : decode method_2_code 47 = .ok (.areturn, 1) := by decide +kernel
theorem ef_o (m : MethodId) (x0 : Int32) : entryFrame m #[(.int x0)] 1 = mkF m 0 #[.val (.int x0)] [] := by first | (simp [entryFrame, mkF, argsToLocals, Value.category]; done) | rfl
set_option maxRecDepth 65536 in
set_option maxHeartbeats 40000000 in
theorem rmo (l : Launch) (Z : State) (a0 : Array Value) (hw : ∀ d ∈ tables_1, d.before a0 Z = true) (ws : List Jvm.Cond) (k : Int32) (j : Nat) (h0 : Heap) (n0 : Nat) (r : Nat → Addr) (C0 : Cs Z h0 r) (hj : opi k = j) :
    Meets l Z (⟨"com/example/keyfold/keyfold/sql/OperatorHoldsPinLaw", "op", "(I)Lcom/example/keyfold/keyfold/sql/Condition$Operator;"⟩ : MethodName) method_2_code 1 (some (.object "com/example/keyfold/keyfold/sql/Condition$Operator")) ({ frames := 0, cells := 0, slots := 0, locals := 0 } : Room) ws #[(.int k)] h0 (fun v h L => v = some (.ref (r j)) ∧ Fr n0 L ∧ h = h0) := by
  refine Meets.of (plainFor_of_name (by first | (simp [plainName, overriddenIn]; done) | decide +kernel : plainName "com/example/keyfold/keyfold/sql/OperatorHoldsPinLaw" = true)) ?_
  intro p e s m below meth c s₁ X0 hx hby hml hret hlk hnm hZ hown e0
  replace hown : s.vm.findClass "com/example/keyfold/keyfold/sql/OperatorHoldsPinLaw" = some m.cls := hown
  have N0 := Fr.nil n0
  refine Go.cast (ef_o m k) ?_
  show Go p e s below _ _ _ s₁ (mkF m 0 #[.val (.int k)] [])
  refine Go.st (fun _ kont => XS.iloadN X0.here hx rfl (hb hby d2_0) rfl kont) ?_
  show Go p e s below _ _ _ s₁ (mkF m 1 #[.val (.int k)] [(.int k)])
  by_cases hc1_1 : k = (0 : Int32)
  · --
    refine Go.st (fun _ kont => XS.ifNo X0.here hx rfl (hb hby d2_1) rfl ((if0 _ _).trans (teq hc1_1).2) kont) ?_
    show Go p e s below _ _ _ s₁ (mkF m 4 #[.val (.int k)] [])
    obtain ⟨T2, X2, e2, st2⟩ := getS2 X0 hx hZ hown (host := "") (Or.inl (hw _ (List.mem_of_getElem? (i := 8) rfl))) Via.refl e0 (C0 0 "EQUAL" 0 rfl rfl).1 (g := (mkF m 4 #[.val (.int k)] [])) rfl (hb hby d2_4)
    refine Go.st st2 ?_
    show Go p e s below _ _ _ T2 (mkF m 7 #[.val (.int k)] [(.ref (r 0))])
    exact Go.retA X2 hx hlk hret rfl rfl (hb hby d2_7) (by decide) (by decide) ⟨by rw [← hj, show opi k = 0 from (if_pos hc1_1)], N0, e2⟩
  · --
    refine Go.st (fun _ kont => XS.ifYes X0.here hx rfl (pc0 := 1) (pc' := 8) rfl (hb hby d2_1) rfl ((if0 _ _).trans (feq hc1_1).2) (by decide) (by decide) kont) ?_
    show Go p e s below _ _ _ s₁ (mkF m 8 #[.val (.int k)] [])
    refine Go.st (fun _ kont => XS.iloadN X0.here hx rfl (hb hby d2_8) rfl kont) ?_
    show Go p e s below _ _ _ s₁ (mkF m 9 #[.val (.int k)] [(.int k)])
    refine Go.st (fun _ kont => XT.iconstV X0.here hx rfl (1 : Int32) (hb hby d2_9) (by decide) kont) ?_
    show Go p e s below _ _ _ s₁ (mkF m 10 #[.val (.int k)] [(.int (1 : Int32)), (.int k)])
    by_cases hc10_3 : k = (1 : Int32)
    · --
      refine Go.st (fun _ kont => XS.icmpNo X0.here hx rfl (hb hby d2_10) rfl (teq hc10_3).2 kont) ?_
      show Go p e s below _ _ _ s₁ (mkF m 13 #[.val (.int k)] [])
      obtain ⟨T4, X4, e4, st4⟩ := getS2 X0 hx hZ hown (host := "") (Or.inl (hw _ (List.mem_of_getElem? (i := 29) rfl))) Via.refl e0 (C0 1 "NOT_EQUAL" 1 rfl rfl).1 (g := (mkF m 13 #[.val (.int k)] [])) rfl (hb hby d2_13)
      refine Go.st st4 ?_
      show Go p e s below _ _ _ T4 (mkF m 16 #[.val (.int k)] [(.ref (r 1))])
      exact Go.retA X4 hx hlk hret rfl rfl (hb hby d2_16) (by decide) (by decide) ⟨by rw [← hj, show opi k = 1 from ((if_neg hc1_1).trans (if_pos hc10_3))], N0, e4⟩
    · --
      refine Go.st (fun _ kont => XS.icmpYes X0.here hx rfl (pc0 := 10) (pc' := 17) rfl (hb hby d2_10) rfl (feq hc10_3).2 (by decide) (by decide) kont) ?_
      show Go p e s below _ _ _ s₁ (mkF m 17 #[.val (.int k)] [])
      refine Go.st (fun _ kont => XS.iloadN X0.here hx rfl (hb hby d2_17) rfl kont) ?_
      show Go p e s below _ _ _ s₁ (mkF m 18 #[.val (.int k)] [(.int k)])
      refine Go.st (fun _ kont => XT.iconstV X0.here hx rfl (2 : Int32) (hb hby d2_18) (by decide) kont) ?_
      show Go p e s below _ _ _ s₁ (mkF m 19 #[.val (.int k)] [(.int (2 : Int32)), (.int k)])
      by_cases hc19_5 : k = (2 : Int32)
      · --
        refine Go.st (fun _ kont => XS.icmpNo X0.here hx rfl (hb hby d2_19) rfl (teq hc19_5).2 kont) ?_
        show Go p e s below _ _ _ s₁ (mkF m 22 #[.val (.int k)] [])
        obtain ⟨T6, X6, e6, st6⟩ := getS2 X0 hx hZ hown (host := "") (Or.inl (hw _ (List.mem_of_getElem? (i := 25) rfl))) Via.refl e0 (C0 2 "LESS" 2 rfl rfl).1 (g := (mkF m 22 #[.val (.int k)] [])) rfl (hb hby d2_22)
        refine Go.st st6 ?_
        show Go p e s below _ _ _ T6 (mkF m 25 #[.val (.int k)] [(.ref (r 2))])
        exact Go.retA X6 hx hlk hret rfl rfl (hb hby d2_25) (by decide) (by decide) ⟨by rw [← hj, show opi k = 2 from ((if_neg hc1_1).trans ((if_neg hc10_3).trans (if_pos hc19_5)))], N0, e6⟩
      · --
        refine Go.st (fun _ kont => XS.icmpYes X0.here hx rfl (pc0 := 19) (pc' := 26) rfl (hb hby d2_19) rfl (feq hc19_5).2 (by decide) (by decide) kont) ?_
        show Go p e s below _ _ _ s₁ (mkF m 26 #[.val (.int k)] [])
        refine Go.st (fun _ kont => XS.iloadN X0.here hx rfl (hb hby d2_26) rfl kont) ?_
        show Go p e s below _ _ _ s₁ (mkF m 27 #[.val (.int k)] [(.int k)])
        refine Go.st (fun _ kont => XT.iconstV X0.here hx rfl (3 : Int32) (hb hby d2_27) (by decide) kont) ?_
        show Go p e s below _ _ _ s₁ (mkF m 28 #[.val (.int k)] [(.int (3 : Int32)), (.int k)])
        by_cases hc28_7 : k = (3 : Int32)
        · --
          refine Go.st (fun _ kont => XS.icmpNo X0.here hx rfl (hb hby d2_28) rfl (teq hc28_7).2 kont) ?_
          show Go p e s below _ _ _ s₁ (mkF m 31 #[.val (.int k)] [])
          obtain ⟨T8, X8, e8, st8⟩ := getS2 X0 hx hZ hown (host := "") (Or.inl (hw _ (List.mem_of_getElem? (i := 33) rfl))) Via.refl e0 (C0 3 "LESS_OR_EQUAL" 3 rfl rfl).1 (g := (mkF m 31 #[.val (.int k)] [])) rfl (hb hby d2_31)
          refine Go.st st8 ?_
          show Go p e s below _ _ _ T8 (mkF m 34 #[.val (.int k)] [(.ref (r 3))])
          exact Go.retA X8 hx hlk hret rfl rfl (hb hby d2_34) (by decide) (by decide) ⟨by rw [← hj, show opi k = 3 from ((if_neg hc1_1).trans ((if_neg hc10_3).trans ((if_neg hc19_5).trans (if_pos hc28_7))))], N0, e8⟩
        · --
          refine Go.st (fun _ kont => XS.icmpYes X0.here hx rfl (pc0 := 28) (pc' := 35) rfl (hb hby d2_28) rfl (feq hc28_7).2 (by decide) (by decide) kont) ?_
          show Go p e s below _ _ _ s₁ (mkF m 35 #[.val (.int k)] [])
          refine Go.st (fun _ kont => XS.iloadN X0.here hx rfl (hb hby d2_35) rfl kont) ?_
          show Go p e s below _ _ _ s₁ (mkF m 36 #[.val (.int k)] [(.int k)])
          refine Go.st (fun _ kont => XT.iconstV X0.here hx rfl (4 : Int32) (hb hby d2_36) (by decide) kont) ?_
          show Go p e s below _ _ _ s₁ (mkF m 37 #[.val (.int k)] [(.int (4 : Int32)), (.int k)])
          by_cases hc37_9 : k = (4 : Int32)
          · --
            refine Go.st (fun _ kont => XS.icmpNo X0.here hx rfl (hb hby d2_37) rfl (teq hc37_9).2 kont) ?_
            show Go p e s below _ _ _ s₁ (mkF m 40 #[.val (.int k)] [])
            obtain ⟨T10, X10, e10, st10⟩ := getS2 X0 hx hZ hown (host := "") (Or.inl (hw _ (List.mem_of_getElem? (i := 27) rfl))) Via.refl e0 (C0 4 "GREATER" 4 rfl rfl).1 (g := (mkF m 40 #[.val (.int k)] [])) rfl (hb hby d2_40)
            refine Go.st st10 ?_
            show Go p e s below _ _ _ T10 (mkF m 43 #[.val (.int k)] [(.ref (r 4))])
            exact Go.retA X10 hx hlk hret rfl rfl (hb hby d2_43) (by decide) (by decide) ⟨by rw [← hj, show opi k = 4 from ((if_neg hc1_1).trans ((if_neg hc10_3).trans ((if_neg hc19_5).trans ((if_neg hc28_7).trans (if_pos hc37_9)))))], N0, e10⟩
          · --
            refine Go.st (fun _ kont => XS.icmpYes X0.here hx rfl (pc0 := 37) (pc' := 44) rfl (hb hby d2_37) rfl (feq hc37_9).2 (by decide) (by decide) kont) ?_
            show Go p e s below _ _ _ s₁ (mkF m 44 #[.val (.int k)] [])
            obtain ⟨T11, X11, e11, st11⟩ := getS2 X0 hx hZ hown (host := "") (Or.inl (hw _ (List.mem_of_getElem? (i := 31) rfl))) Via.refl e0 (C0 5 "GREATER_OR_EQUAL" 5 rfl rfl).1 (g := (mkF m 44 #[.val (.int k)] [])) rfl (hb hby d2_44)
            refine Go.st st11 ?_
            show Go p e s below _ _ _ T11 (mkF m 47 #[.val (.int k)] [(.ref (r 5))])
            exact Go.retA X11 hx hlk hret rfl rfl (hb hby d2_47) (by decide) (by decide) ⟨by rw [← hj, show opi k = 5 from ((if_neg hc1_1).trans ((if_neg hc10_3).trans ((if_neg hc19_5).trans ((if_neg hc28_7).trans (if_neg hc37_9)))))], N0, e11⟩
theorem d4_0 : decode jdk_37_method_2_code 0 = .ok (.aload_n 0, 1) := by decide +kernel
theorem d4_1 : decode jdk_37_method_2_code 1 = .ok (.getfield 7, 3) := by decide +kernel
theorem d4_4 : decode jdk_37_method_2_code 4 = .ok (.ireturn, 1) := by decide +kernel
theorem ef_n (m : MethodId) (x0 : Addr) : entryFrame m #[(.ref x0)] 1 = mkF m 0 #[.val (.ref x0)] [] := by first | (simp [entryFrame, mkF, argsToLocals, Value.category]; done) | rfl
set_option maxRecDepth 65536 in
set_option maxHeartbeats 40000000 in
theorem rmn (l : Launch) (Z : State) (a0 : Array Value) (hw : ∀ d ∈ tables_1, d.before a0 Z = true) (ws : List Jvm.Cond) (b : Addr) (o : Int32) (h0 : Heap) (n0 : Nat) (F : Fld Z h0 b "java/lang/Enum" "ordinal" "I" (.int o)) :
    Meets l Z (⟨"java/lang/Enum", "ordinal", "()I"⟩ : MethodName) jdk_37_method_2_code 1 (some .int) ({ frames := 0, cells := 0, slots := 0, locals := 0 } : Room) ws #[(.ref b)] h0 (fun v h L => v = some (.int o) ∧ Fr n0 L ∧ h = h0) := by
  refine Meets.of (plainFor_of_name (by first | (simp [plainName, overriddenIn]; done) | decide +kernel : plainName "java/lang/Enum" = true)) ?_
  intro p e s m below meth c s₁ X0 hx hby hml hret hlk hnm hZ hown e0
  replace hown : s.vm.findClass "java/lang/Enum" = some m.cls := hown
  have N0 := Fr.nil n0
  refine Go.cast (ef_n m b) ?_
  show Go p e s below _ _ _ s₁ (mkF m 0 #[.val (.ref b)] [])
  refine Go.st (fun _ kont => XS.aloadN X0.here hx rfl (hb hby d4_0) rfl rfl kont) ?_
  show Go p e s below _ _ _ s₁ (mkF m 1 #[.val (.ref b)] [(.ref b)])
  obtain ⟨T1, X1, e1, st1⟩ := getF X0 hx hZ hown (host := "") (Or.inl (hw _ (List.mem_of_getElem? (i := 23) rfl))) Via.refl e0 F (g := (mkF m 1 #[.val (.ref b)] [(.ref b)])) rfl rfl (hb hby d4_1)
  refine Go.st st1 ?_
  show Go p e s below _ _ _ T1 (mkF m 4 #[.val (.ref b)] [(.int o)])
  exact Go.retI X1 hx hlk hret (hb hby d4_4) (by decide) (by decide) ⟨rfl, N0, e1⟩
theorem pd___I : parseMethodDescriptor "()I" = some ⟨[], some .int⟩ := by decide +kernel
theorem d3_0 : decode prog_55_method_5_code 0 = .ok (.aload_n 0, 1) := by decide +kernel
theorem d3_1 : decode prog_55_method_5_code 1 = .ok (.invokevirtual 69, 3) := by decide +kernel
theorem d3_4 : decode prog_55_method_5_code 4 = .ok (.tableswitch 40 0 5 #[50, 62, 74, 86, 98, 110], 40) := by decide +kernel
theorem d3_54 : decode prog_55_method_5_code 54 = .ok (.iload_n 1, 1) := by decide +kernel
theorem d3_55 : decode prog_55_method_5_code 55 = .ok (.ifCond .ne 7, 3) := by decide +kernel
theorem d3_58 : decode prog_55_method_5_code 58 = .ok (.iconst 1, 1) := by decide +kernel
theorem d3_59 : decode prog_55_method_5_code 59 = .ok (.goto 64, 3) := by decide +kernel
theorem d3_62 : decode prog_55_method_5_code 62 = .ok (.iconst 0, 1) := by decide +kernel
theorem d3_63 : decode prog_55_method_5_code 63 = .ok (.goto 60, 3) := by decide +kernel
theorem d3_66 : decode prog_55_method_5_code 66 = .ok (.iload_n 1, 1) := by decide +kernel
theorem d3_67 : decode prog_55_method_5_code 67 = .ok (.ifCond .eq 7, 3) := by decide +kernel
theorem d3_70 : decode prog_55_method_5_code 70 = .ok (.iconst 1, 1) := by decide +kernel
theorem d3_71 : decode prog_55_method_5_code 71 = .ok (.goto 52, 3) := by decide +kernel
theorem d3_74 : decode prog_55_method_5_code 74 = .ok (.iconst 0, 1) := by decide +kernel
theorem d3_75 : decode prog_55_method_5_code 75 = .ok (.goto 48, 3) := by decide +kernel
theorem d3_78 : decode prog_55_method_5_code 78 = .ok (.iload_n 1, 1) := by decide +kernel
theorem d3_79 : decode prog_55_method_5_code 79 = .ok (.ifCond .ge 7, 3) := by decide +kernel
theorem d3_82 : decode prog_55_method_5_code 82 = .ok (.iconst 1, 1) := by decide +kernel
theorem d3_83 : decode prog_55_method_5_code 83 = .ok (.goto 40, 3) := by decide +kernel
theorem d3_86 : decode prog_55_method_5_code 86 = .ok (.iconst 0, 1) := by decide +kernel
theorem d3_87 : decode prog_55_method_5_code 87 = .ok (.goto 36, 3) := by decide +kernel
theorem d3_90 : decode prog_55_method_5_code 90 = .ok (.iload_n 1, 1) := by decide +kernel
theorem d3_91 : decode prog_55_method_5_code 91 = .ok (.ifCond .gt 7, 3) := by decide +kernel
theorem d3_94 : decode prog_55_method_5_code 94 = .ok (.iconst 1, 1) := by decide +kernel
theorem d3_95 : decode prog_55_method_5_code 95 = .ok (.goto 28, 3) := by decide +kernel
theorem d3_98 : decode prog_55_method_5_code 98 = .ok (.iconst 0, 1) := by decide +kernel
theorem d3_99 : decode prog_55_method_5_code 99 = .ok (.goto 24, 3) := by decide +kernel
theorem d3_102 : decode prog_55_method_5_code 102 = .ok (.iload_n 1, 1) := by decide +kernel
theorem d3_103 : decode prog_55_method_5_code 103 = .ok (.ifCond .le 7, 3) := by decide +kernel
theorem d3_106 : decode prog_55_method_5_code 106 = .ok (.iconst 1, 1) := by decide +kernel
theorem d3_107 : decode prog_55_method_5_code 107 = .ok (.goto 16, 3) := by decide +kernel
theorem d3_110 : decode prog_55_method_5_code 110 = .ok (.iconst 0, 1) := by decide +kernel
theorem d3_111 : decode prog_55_method_5_code 111 = .ok (.goto 12, 3) := by decide +kernel
theorem d3_114 : decode prog_55_method_5_code 114 = .ok (.iload_n 1, 1) := by decide +kernel
theorem d3_115 : decode prog_55_method_5_code 115 = .ok (.ifCond .lt 7, 3) := by decide +kernel
theorem d3_118 : decode prog_55_method_5_code 118 = .ok (.iconst 1, 1) := by decide +kernel
theorem d3_119 : decode prog_55_method_5_code 119 = .ok (.goto 4, 3) := by decide +kernel
theorem d3_122 : decode prog_55_method_5_code 122 = .ok (.iconst 0, 1) := by decide +kernel
theorem d3_123 : decode prog_55_method_5_code 123 = .ok (.ireturn, 1) := by decide +kernel
theorem ef_h (m : MethodId) (x0 : Addr) (x1 : Int32) : entryFrame m #[(.ref x0), (.int x1)] 2 = mkF m 0 #[.val (.ref x0), .val (.int x1)] [] := by first | (simp [entryFrame, mkF, argsToLocals, Value.category]; done) | rfl
set_option maxRecDepth 65536 in
set_option maxHeartbeats 40000000 in
theorem rmh (l : Launch) (Z : State) (a0 : Array Value) (hw : ∀ d ∈ tables_1, d.before a0 Z = true) (ws : List Jvm.Cond) (b : Addr) (cv v0 o : Int32) (h0 : Heap) (n0 : Nat) (F : Fld Z h0 b "java/lang/Enum" "ordinal" "I" (.int o)) (Eb : Exa Z h0 b "com/example/keyfold/keyfold/sql/Condition$Operator") (ho : o = 0 ∨ o = 1 ∨ o = 2 ∨ o = 3 ∨ o = 4 ∨ o = 5) (hv : (o = 0 → (cv = 0 → v0 = 1) ∧ (¬ (cv = 0) → v0 = 0)) ∧ (o = 1 → (cv = 0 → v0 = 0) ∧ (¬ (cv = 0) → v0 = 1)) ∧ (o = 2 → (cv < 0 → v0 = 1) ∧ (¬ (cv < 0) → v0 = 0)) ∧ (o = 3 → (0 < cv → v0 = 0) ∧ (¬ (0 < cv) → v0 = 1)) ∧ (o = 4 → (0 < cv → v0 = 1) ∧ (¬ (0 < cv) → v0 = 0)) ∧ (o = 5 → (cv < 0 → v0 = 0) ∧ (¬ (cv < 0) → v0 = 1))) :
    Meets l Z (⟨"com/example/keyfold/keyfold/sql/Condition$Operator", "holds", "(I)Z"⟩ : MethodName) prog_55_method_5_code 2 (some .boolean) ({ frames := 1, cells := 0, slots := 0, locals := 12 } : Room) ws #[(.ref b), (.int cv)] h0 (fun v h L => v = some (.int v0) ∧ Fr n0 L ∧ h = h0) := by
  refine Meets.of (plainFor_of_name (by first | (simp [plainName, overriddenIn]; done) | decide +kernel : plainName "com/example/keyfold/keyfold/sql/Condition$Operator" = true)) ?_
  intro p e s m below meth c s₁ X0 hx hby hml hret hlk hnm hZ hown e0
  replace hown : s.vm.findClass "com/example/keyfold/keyfold/sql/Condition$Operator" = some m.cls := hown
  have N0 := Fr.nil n0
  refine Go.cast (ef_h m b cv) ?_
  show Go p e s below _ _ _ s₁ (mkF m 0 #[.val (.ref b), .val (.int cv)] [])
  refine Go.st (fun _ kont => XS.aloadN X0.here hx rfl (hb hby d3_0) rfl rfl kont) ?_
  show Go p e s below _ _ _ s₁ (mkF m 1 #[.val (.ref b), .val (.int cv)] [(.ref b)])
  refine Go.callU (b := b) (W := 0) (argsL := []) (rest := []) X0 hx hZ hown (x' := (⟨"com/example/keyfold/keyfold/sql/Condition$Operator", "ordinal", "()I"⟩ : MethodName)) (z := (⟨"java/lang/Enum", "ordinal", "()I"⟩ : MethodName)) (owner := "java/lang/Enum") (hw _ (List.mem_of_getElem? (i := 16) rfl)) (hw _ (List.mem_of_getElem? (i := 17) rfl)) (hw _ (List.mem_of_getElem? (i := 18) rfl)) (hw _ (List.mem_of_getElem? (i := 20) rfl)) (hw _ (List.mem_of_getElem? (i := 19) rfl)) (hw _ (List.mem_of_getElem? (i := 21) rfl)) (hw _ (List.mem_of_getElem? (i := 22) rfl)) (rmn l Z a0 hw [] b o h0 n0 F) e0 Eb (by decide) (by decide) (by decide) (by decide) (by decide) (by rw [hml]; rfl) (lenOf pd___I rfl) (Nat.le_of_eq rfl) (hb hby d3_1) ?_
  intro T1 v1 L1 X1 hQ1
  obtain ⟨rfl, N1, E1⟩ := hQ1
  have M1 := Fr.app N0 N1
  show Go p e s below _ _ _ T1 (mkF m 4 #[.val (.ref b), .val (.int cv)] [(.int o)])
  rcases ho with rfl | rfl | rfl | rfl | rfl | rfl
  · --
    show Go p e s below _ _ _ T1 (mkF m 4 #[.val (.ref b), .val (.int cv)] [(.int (0 : Int32))])
    refine Go.st (fun _ kont => XS.tswIn X1.here hx rfl (pc0 := 4) (pc' := 54) rfl (hb hby d3_4) rfl (by decide) rfl (by decide) (by decide) kont) ?_
    show Go p e s below _ _ _ T1 (mkF m 54 #[.val (.ref b), .val (.int cv)] [])
    refine Go.st (fun _ kont => XS.iloadN X1.here hx rfl (hb hby d3_54) rfl kont) ?_
    show Go p e s below _ _ _ T1 (mkF m 55 #[.val (.ref b), .val (.int cv)] [(.int cv)])
    by_cases hc55_2 : cv = (0 : Int32)
    · --
      refine Go.st (fun _ kont => XS.ifNo X1.here hx rfl (hb hby d3_55) rfl ((if0 _ _).trans (teq hc55_2).2) kont) ?_
      show Go p e s below _ _ _ T1 (mkF m 58 #[.val (.ref b), .val (.int cv)] [])
      refine Go.st (fun _ kont => XT.iconstV X1.here hx rfl (1 : Int32) (hb hby d3_58) (by decide) kont) ?_
      show Go p e s below _ _ _ T1 (mkF m 59 #[.val (.ref b), .val (.int cv)] [(.int (1 : Int32))])
      refine Go.st (fun _ kont => XS.goto X1.here hx rfl (pc0 := 59) (pc' := 123) rfl (hb hby d3_59) (by decide) (by decide) kont) ?_
      show Go p e s below _ _ _ T1 (mkF m 123 #[.val (.ref b), .val (.int cv)] [(.int (1 : Int32))])
      exact Go.retN X1 hx hlk hret (by simp) (hb hby d3_123) (by decide) (by decide) ⟨by rw [(hv.1 rfl).1 hc55_2]; rfl, M1, E1⟩
    · --
      refine Go.st (fun _ kont => XS.ifYes X1.here hx rfl (pc0 := 55) (pc' := 62) rfl (hb hby d3_55) rfl ((if0 _ _).trans (feq hc55_2).2) (by decide) (by decide) kont) ?_
      show Go p e s below _ _ _ T1 (mkF m 62 #[.val (.ref b), .val (.int cv)] [])
      refine Go.st (fun _ kont => XT.iconstV X1.here hx rfl (0 : Int32) (hb hby d3_62) (by decide) kont) ?_
      show Go p e s below _ _ _ T1 (mkF m 63 #[.val (.ref b), .val (.int cv)] [(.int (0 : Int32))])
      refine Go.st (fun _ kont => XS.goto X1.here hx rfl (pc0 := 63) (pc' := 123) rfl (hb hby d3_63) (by decide) (by decide) kont) ?_
      show Go p e s below _ _ _ T1 (mkF m 123 #[.val (.ref b), .val (.int cv)] [(.int (0 : Int32))])
      exact Go.retN X1 hx hlk hret (by simp) (hb hby d3_123) (by decide) (by decide) ⟨by rw [(hv.1 rfl).2 hc55_2]; rfl, M1, E1⟩
  · --
    show Go p e s below _ _ _ T1 (mkF m 4 #[.val (.ref b), .val (.int cv)] [(.int (1 : Int32))])
    refine Go.st (fun _ kont => XS.tswIn X1.here hx rfl (pc0 := 4) (pc' := 66) rfl (hb hby d3_4) rfl (by decide) rfl (by decide) (by decide) kont) ?_
    show Go p e s below _ _ _ T1 (mkF m 66 #[.val (.ref b), .val (.int cv)] [])
    refine Go.st (fun _ kont => XS.iloadN X1.here hx rfl (hb hby d3_66) rfl kont) ?_
    show Go p e s below _ _ _ T1 (mkF m 67 #[.val (.ref b), .val (.int cv)] [(.int cv)])
    by_cases hc67_3 : cv = (0 : Int32)
    · --
      refine Go.st (fun _ kont => XS.ifYes X1.here hx rfl (pc0 := 67) (pc' := 74) rfl (hb hby d3_67) rfl ((if0 _ _).trans (teq hc67_3).1) (by decide) (by decide) kont) ?_
      show Go p e s below _ _ _ T1 (mkF m 74 #[.val (.ref b), .val (.int cv)] [])
      refine Go.st (fun _ kont => XT.iconstV X1.here hx rfl (0 : Int32) (hb hby d3_74) (by decide) kont) ?_
      show Go p e s below _ _ _ T1 (mkF m 75 #[.val (.ref b), .val (.int cv)] [(.int (0 : Int32))])
      refine Go.st (fun _ kont => XS.goto X1.here hx rfl (pc0 := 75) (pc' := 123) rfl (hb hby d3_75) (by decide) (by decide) kont) ?_
      show Go p e s below _ _ _ T1 (mkF m 123 #[.val (.ref b), .val (.int cv)] [(.int (0 : Int32))])
      exact Go.retN X1 hx hlk hret (by simp) (hb hby d3_123) (by decide) (by decide) ⟨by rw [(hv.2.1 rfl).1 hc67_3]; rfl, M1, E1⟩
    · --
      refine Go.st (fun _ kont => XS.ifNo X1.here hx rfl (hb hby d3_67) rfl ((if0 _ _).trans (feq hc67_3).1) kont) ?_
      show Go p e s below _ _ _ T1 (mkF m 70 #[.val (.ref b), .val (.int cv)] [])
      refine Go.st (fun _ kont => XT.iconstV X1.here hx rfl (1 : Int32) (hb hby d3_70) (by decide) kont) ?_
      show Go p e s below _ _ _ T1 (mkF m 71 #[.val (.ref b), .val (.int cv)] [(.int (1 : Int32))])
      refine Go.st (fun _ kont => XS.goto X1.here hx rfl (pc0 := 71) (pc' := 123) rfl (hb hby d3_71) (by decide) (by decide) kont) ?_
      show Go p e s below _ _ _ T1 (mkF m 123 #[.val (.ref b), .val (.int cv)] [(.int (1 : Int32))])
      exact Go.retN X1 hx hlk hret (by simp) (hb hby d3_123) (by decide) (by decide) ⟨by rw [(hv.2.1 rfl).2 hc67_3]; rfl, M1, E1⟩
  · --
    show Go p e s below _ _ _ T1 (mkF m 4 #[.val (.ref b), .val (.int cv)] [(.int (2 : Int32))])
    refine Go.st (fun _ kont => XS.tswIn X1.here hx rfl (pc0 := 4) (pc' := 78) rfl (hb hby d3_4) rfl (by decide) rfl (by decide) (by decide) kont) ?_
    show Go p e s below _ _ _ T1 (mkF m 78 #[.val (.ref b), .val (.int cv)] [])
    refine Go.st (fun _ kont => XS.iloadN X1.here hx rfl (hb hby d3_78) rfl kont) ?_
    show Go p e s below _ _ _ T1 (mkF m 79 #[.val (.ref b), .val (.int cv)] [(.int cv)])
    by_cases hc79_4 : cv < (0 : Int32)
    · --
      refine Go.st (fun _ kont => XS.ifNo X1.here hx rfl (hb hby d3_79) rfl ((if0 _ _).trans (tlt hc79_4).2.1) kont) ?_
      show Go p e s below _ _ _ T1 (mkF m 82 #[.val (.ref b), .val (.int cv)] [])
      refine Go.st (fun _ kont => XT.iconstV X1.here hx rfl (1 : Int32) (hb hby d3_82) (by decide) kont) ?_
      show Go p e s below _ _ _ T1 (mkF m 83 #[.val (.ref b), .val (.int cv)] [(.int (1 : Int32))])
      refine Go.st (fun _ kont => XS.goto X1.here hx rfl (pc0 := 83) (pc' := 123) rfl (hb hby d3_83) (by decide) (by decide) kont) ?_
      show Go p e s below _ _ _ T1 (mkF m 123 #[.val (.ref b), .val (.int cv)] [(.int (1 : Int32))])
      exact Go.retN X1 hx hlk hret (by simp) (hb hby d3_123) (by decide) (by decide) ⟨by rw [(hv.2.2.1 rfl).1 hc79_4]; rfl, M1, E1⟩
    · --
      refine Go.st (fun _ kont => XS.ifYes X1.here hx rfl (pc0 := 79) (pc' := 86) rfl (hb hby d3_79) rfl ((if0 _ _).trans (flt hc79_4).2.1) (by decide) (by decide) kont) ?_
      show Go p e s below _ _ _ T1 (mkF m 86 #[.val (.ref b), .val (.int cv)] [])
      refine Go.st (fun _ kont => XT.iconstV X1.here hx rfl (0 : Int32) (hb hby d3_86) (by decide) kont) ?_
      show Go p e s below _ _ _ T1 (mkF m 87 #[.val (.ref b), .val (.int cv)] [(.int (0 : Int32))])
      refine Go.st (fun _ kont => XS.goto X1.here hx rfl (pc0 := 87) (pc' := 123) rfl (hb hby d3_87) (by decide) (by decide) kont) ?_
      show Go p e s below _ _ _ T1 (mkF m 123 #[.val (.ref b), .val (.int cv)] [(.int (0 : Int32))])
      exact Go.retN X1 hx hlk hret (by simp) (hb hby d3_123) (by decide) (by decide) ⟨by rw [(hv.2.2.1 rfl).2 hc79_4]; rfl, M1, E1⟩
  · --
    show Go p e s below _ _ _ T1 (mkF m 4 #[.val (.ref b), .val (.int cv)] [(.int (3 : Int32))])
    refine Go.st (fun _ kont => XS.tswIn X1.here hx rfl (pc0 := 4) (pc' := 90) rfl (hb hby d3_4) rfl (by decide) rfl (by decide) (by decide) kont) ?_
    show Go p e s below _ _ _ T1 (mkF m 90 #[.val (.ref b), .val (.int cv)] [])
    refine Go.st (fun _ kont => XS.iloadN X1.here hx rfl (hb hby d3_90) rfl kont) ?_
    show Go p e s below _ _ _ T1 (mkF m 91 #[.val (.ref b), .val (.int cv)] [(.int cv)])
    by_cases hc91_5 : (0 : Int32) < cv
    · --
      refine Go.st (fun _ kont => XS.ifYes X1.here hx rfl (pc0 := 91) (pc' := 98) rfl (hb hby d3_91) rfl ((if0 _ _).trans (tlt hc91_5).2.2.1) (by decide) (by decide) kont) ?_
      show Go p e s below _ _ _ T1 (mkF m 98 #[.val (.ref b), .val (.int cv)] [])
      refine Go.st (fun _ kont => XT.iconstV X1.here hx rfl (0 : Int32) (hb hby d3_98) (by decide) kont) ?_
      show Go p e s below _ _ _ T1 (mkF m 99 #[.val (.ref b), .val (.int cv)] [(.int (0 : Int32))])
      refine Go.st (fun _ kont => XS.goto X1.here hx rfl (pc0 := 99) (pc' := 123) rfl (hb hby d3_99) (by decide) (by decide) kont) ?_
      show Go p e s below _ _ _ T1 (mkF m 123 #[.val (.ref b), .val (.int cv)] [(.int (0 : Int32))])
      exact Go.retN X1 hx hlk hret (by simp) (hb hby d3_123) (by decide) (by decide) ⟨by rw [(hv.2.2.2.1 rfl).1 hc91_5]; rfl, M1, E1⟩
    · --
      refine Go.st (fun _ kont => XS.ifNo X1.here hx rfl (hb hby d3_91) rfl ((if0 _ _).trans (flt hc91_5).2.2.1) kont) ?_
      show Go p e s below _ _ _ T1 (mkF m 94 #[.val (.ref b), .val (.int cv)] [])
      refine Go.st (fun _ kont => XT.iconstV X1.here hx rfl (1 : Int32) (hb hby d3_94) (by decide) kont) ?_
      show Go p e s below _ _ _ T1 (mkF m 95 #[.val (.ref b), .val (.int cv)] [(.int (1 : Int32))])
      refine Go.st (fun _ kont => XS.goto X1.here hx rfl (pc0 := 95) (pc' := 123) rfl (hb hby d3_95) (by decide) (by decide) kont) ?_
      show Go p e s below _ _ _ T1 (mkF m 123 #[.val (.ref b), .val (.int cv)] [(.int (1 : Int32))])
      exact Go.retN X1 hx hlk hret (by simp) (hb hby d3_123) (by decide) (by decide) ⟨by rw [(hv.2.2.2.1 rfl).2 hc91_5]; rfl, M1, E1⟩
  · --
    show Go p e s below _ _ _ T1 (mkF m 4 #[.val (.ref b), .val (.int cv)] [(.int (4 : Int32))])
    refine Go.st (fun _ kont => XS.tswIn X1.here hx rfl (pc0 := 4) (pc' := 102) rfl (hb hby d3_4) rfl (by decide) rfl (by decide) (by decide) kont) ?_
    show Go p e s below _ _ _ T1 (mkF m 102 #[.val (.ref b), .val (.int cv)] [])
    refine Go.st (fun _ kont => XS.iloadN X1.here hx rfl (hb hby d3_102) rfl kont) ?_
    show Go p e s below _ _ _ T1 (mkF m 103 #[.val (.ref b), .val (.int cv)] [(.int cv)])
    by_cases hc103_6 : (0 : Int32) < cv
    · --
      refine Go.st (fun _ kont => XS.ifNo X1.here hx rfl (hb hby d3_103) rfl ((if0 _ _).trans (tlt hc103_6).2.2.2) kont) ?_
      show Go p e s below _ _ _ T1 (mkF m 106 #[.val (.ref b), .val (.int cv)] [])
      refine Go.st (fun _ kont => XT.iconstV X1.here hx rfl (1 : Int32) (hb hby d3_106) (by decide) kont) ?_
      show Go p e s below _ _ _ T1 (mkF m 107 #[.val (.ref b), .val (.int cv)] [(.int (1 : Int32))])
      refine Go.st (fun _ kont => XS.goto X1.here hx rfl (pc0 := 107) (pc' := 123) rfl (hb hby d3_107) (by decide) (by decide) kont) ?_
      show Go p e s below _ _ _ T1 (mkF m 123 #[.val (.ref b), .val (.int cv)] [(.int (1 : Int32))])
      exact Go.retN X1 hx hlk hret (by simp) (hb hby d3_123) (by decide) (by decide) ⟨by rw [(hv.2.2.2.2.1 rfl).1 hc103_6]; rfl, M1, E1⟩
    · --
      refine Go.st (fun _ kont => XS.ifYes X1.here hx rfl (pc0 := 103) (pc' := 110) rfl (hb hby d3_103) rfl ((if0 _ _).trans (flt hc103_6).2.2.2) (by decide) (by decide) kont) ?_
      show Go p e s below _ _ _ T1 (mkF m 110 #[.val (.ref b), .val (.int cv)] [])
      refine Go.st (fun _ kont => XT.iconstV X1.here hx rfl (0 : Int32) (hb hby d3_110) (by decide) kont) ?_
      show Go p e s below _ _ _ T1 (mkF m 111 #[.val (.ref b), .val (.int cv)] [(.int (0 : Int32))])
      refine Go.st (fun _ kont => XS.goto X1.here hx rfl (pc0 := 111) (pc' := 123) rfl (hb hby d3_111) (by decide) (by decide) kont) ?_
      show Go p e s below _ _ _ T1 (mkF m 123 #[.val (.ref b), .val (.int cv)] [(.int (0 : Int32))])
      exact Go.retN X1 hx hlk hret (by simp) (hb hby d3_123) (by decide) (by decide) ⟨by rw [(hv.2.2.2.2.1 rfl).2 hc103_6]; rfl, M1, E1⟩
  · --
    show Go p e s below _ _ _ T1 (mkF m 4 #[.val (.ref b), .val (.int cv)] [(.int (5 : Int32))])
    refine Go.st (fun _ kont => XS.tswIn X1.here hx rfl (pc0 := 4) (pc' := 114) rfl (hb hby d3_4) rfl (by decide) rfl (by decide) (by decide) kont) ?_
    show Go p e s below _ _ _ T1 (mkF m 114 #[.val (.ref b), .val (.int cv)] [])
    refine Go.st (fun _ kont => XS.iloadN X1.here hx rfl (hb hby d3_114) rfl kont) ?_
    show Go p e s below _ _ _ T1 (mkF m 115 #[.val (.ref b), .val (.int cv)] [(.int cv)])
    by_cases hc115_7 : cv < (0 : Int32)
    · --
      refine Go.st (fun _ kont => XS.ifYes X1.here hx rfl (pc0 := 115) (pc' := 122) rfl (hb hby d3_115) rfl ((if0 _ _).trans (tlt hc115_7).1) (by decide) (by decide) kont) ?_
      show Go p e s below _ _ _ T1 (mkF m 122 #[.val (.ref b), .val (.int cv)] [])
      refine Go.st (fun _ kont => XT.iconstV X1.here hx rfl (0 : Int32) (hb hby d3_122) (by decide) kont) ?_
      show Go p e s below _ _ _ T1 (mkF m 123 #[.val (.ref b), .val (.int cv)] [(.int (0 : Int32))])
      exact Go.retN X1 hx hlk hret (by simp) (hb hby d3_123) (by decide) (by decide) ⟨by rw [(hv.2.2.2.2.2 rfl).1 hc115_7]; rfl, M1, E1⟩
    · --
      refine Go.st (fun _ kont => XS.ifNo X1.here hx rfl (hb hby d3_115) rfl ((if0 _ _).trans (flt hc115_7).1) kont) ?_
      show Go p e s below _ _ _ T1 (mkF m 118 #[.val (.ref b), .val (.int cv)] [])
      refine Go.st (fun _ kont => XT.iconstV X1.here hx rfl (1 : Int32) (hb hby d3_118) (by decide) kont) ?_
      show Go p e s below _ _ _ T1 (mkF m 119 #[.val (.ref b), .val (.int cv)] [(.int (1 : Int32))])
      refine Go.st (fun _ kont => XS.goto X1.here hx rfl (pc0 := 119) (pc' := 123) rfl (hb hby d3_119) (by decide) (by decide) kont) ?_
      show Go p e s below _ _ _ T1 (mkF m 123 #[.val (.ref b), .val (.int cv)] [(.int (1 : Int32))])
      exact Go.retN X1 hx hlk hret (by simp) (hb hby d3_123) (by decide) (by decide) ⟨by rw [(hv.2.2.2.2.2 rfl).2 hc115_7]; rfl, M1, E1⟩
theorem own_mod6 (p i : Int32) (hi : i = (p &&& (2147483647 : Int32)) % (6 : Int32)) : i = 0 ∨ i = 1 ∨ i = 2 ∨ i = 3 ∨ i = 4 ∨ i = 5 := by
  have h1 : (p &&& (2147483647 : Int32)).toInt = p.toInt % (2 ^ 31 : Nat) := c_mask p 2147483647 31 (by decide) (by decide)
  have h2 : i.toInt = (p &&& (2147483647 : Int32)).toInt.tmod 6 := by rw [hi, Int32.toInt_mod]; rfl
  rw [h1, Int.tmod_eq_emod_of_nonneg (by omega)] at h2
  have h3 : i.toInt = 0 ∨ i.toInt = 1 ∨ i.toInt = 2 ∨ i.toInt = 3 ∨ i.toInt = 4 ∨ i.toInt = 5 := by omega
  rcases h3 with h | h | h | h | h | h
  · exact Or.inl (Int32.toInt_inj.mp h)
  · exact Or.inr (Or.inl (Int32.toInt_inj.mp h))
  · exact Or.inr (Or.inr (Or.inl (Int32.toInt_inj.mp h)))
  · exact Or.inr (Or.inr (Or.inr (Or.inl (Int32.toInt_inj.mp h))))
  · exact Or.inr (Or.inr (Or.inr (Or.inr (Or.inl (Int32.toInt_inj.mp h)))))
  · exact Or.inr (Or.inr (Or.inr (Or.inr (Or.inr (Int32.toInt_inj.mp h)))))
theorem own_pos {x : Int32} (h1 : ¬ x < 0) (h2 : ¬ x = 0) : 0 < x := by
  rw [Int32.lt_iff_toInt_lt] at *
  have z0 : (0 : Int32).toInt = 0 := rfl
  have h3 : x.toInt ≠ 0 := fun q => h2 (Int32.toInt_inj.mp (q.trans z0.symm))
  omega
theorem pd__I_I : parseMethodDescriptor "(I)I" = some ⟨[.int], some .int⟩ := by decide +kernel
theorem pd__I_Lcom_example_keyfold_keyfold_sql_Condition_Operator_ : parseMethodDescriptor "(I)Lcom/example/keyfold/keyfold/sql/Condition$Operator;" = some ⟨[.int], some (.object "com/example/keyfold/keyfold/sql/Condition$Operator")⟩ := by decide +kernel
theorem pd__I_Z : parseMethodDescriptor "(I)Z" = some ⟨[.int], some .boolean⟩ := by decide +kernel
theorem ef_0 (m : MethodId) (x0 : Int32) (x1 : Int32) : entryFrame m #[(.int x0), (.int x1)] maxLocals = mkF m 0 #[.val (.int x0), .val (.int x1), .unset, .unset, .unset] [] := by first | (simp [entryFrame, mkF, argsToLocals, Value.category, maxLocals]; done) | rfl
set_option maxRecDepth 65536 in
set_option maxHeartbeats 40000000 in
theorem rm0 (l : Launch) (Z : State) (a0 : Array Value) (hw : ∀ d ∈ tables_1, d.before a0 Z = true) (ws : List Jvm.Cond) (p0 p1 : Int32) (h0 : Heap) (n0 : Nat) (r : Nat → Addr) (C0 : Cs Z h0 r) :
    Meets l Z x code maxLocals ret room_1 ws #[(.int p0), (.int p1)] h0 (fun v h L => v = some (.int 1) ∧ Fr n0 L) := by
  refine Meets.of (plainFor_of_name (by first | (simp [plainName, overriddenIn]; done) | decide +kernel : plainName "com/example/keyfold/keyfold/sql/OperatorHoldsPinLaw" = true)) ?_
  intro p e s m below meth c s₁ X0 hx hby hml hret hlk hnm hZ hown e0
  replace hown : s.vm.findClass "com/example/keyfold/keyfold/sql/OperatorHoldsPinLaw" = some m.cls := hown
  have N0 := Fr.nil n0
  refine Go.cast (ef_0 m p0 p1) ?_
  show Go p e s below _ _ _ s₁ (mkF m 0 #[.val (.int p0), .val (.int p1), .unset, .unset, .unset] [])
  refine Go.st (fun _ kont => XS.iloadN X0.here hx rfl (hb hby at_0) rfl kont) ?_
  show Go p e s below _ _ _ s₁ (mkF m 1 #[.val (.int p0), .val (.int p1), .unset, .unset, .unset] [(.int p0)])
  refine Go.st (X0.ldcInt hx hown (mvT hZ (hw _ (List.mem_of_getElem? (i := 0) rfl))) (g := (mkF m 1 #[.val (.int p0), .val (.int p1), .unset, .unset, .unset] [(.int p0)])) rfl (hb hby at_1)) ?_
  show Go p e s below _ _ _ s₁ (mkF m 3 #[.val (.int p0), .val (.int p1), .unset, .unset, .unset] [(.int (2147483647 : Int32)), (.int p0)])
  refine Go.st (fun _ kont => XS.iand X0.here hx rfl (hb hby at_3) rfl kont) ?_
  show Go p e s below _ _ _ s₁ (mkF m 4 #[.val (.int p0), .val (.int p1), .unset, .unset, .unset] [(.int (p0 &&& (2147483647 : Int32)))])
  refine Go.st (fun _ kont => XT.bipushV X0.here hx rfl (6 : Int32) (hb hby at_4) (by decide) kont) ?_
  show Go p e s below _ _ _ s₁ (mkF m 6 #[.val (.int p0), .val (.int p1), .unset, .unset, .unset] [(.int (6 : Int32)), (.int (p0 &&& (2147483647 : Int32)))])
  refine Go.st (fun _ kont => iremM X0 hx rfl (hb hby at_6) rfl (by decide) kont) ?_
  show Go p e s below _ _ _ s₁ (mkF m 7 #[.val (.int p0), .val (.int p1), .unset, .unset, .unset] [(.int ((p0 &&& (2147483647 : Int32)) % (6 : Int32)))])
  refine Go.st (fun _ kont => XS.istoreN X0.here hx rfl (hb hby at_7) rfl (l' := #[.val (.int p0), .val (.int p1), .val (.int ((p0 &&& (2147483647 : Int32)) % (6 : Int32))), .unset, .unset]) rfl kont) ?_
  show Go p e s below _ _ _ s₁ (mkF m 8 #[.val (.int p0), .val (.int p1), .val (.int ((p0 &&& (2147483647 : Int32)) % (6 : Int32))), .unset, .unset] [])
  obtain ⟨i, hi⟩ : ∃ z : Int32, z = ((p0 &&& (2147483647 : Int32)) % (6 : Int32)) := ⟨_, rfl⟩
  rw [← hi]
  show Go p e s below _ _ _ s₁ (mkF m 8 #[.val (.int p0), .val (.int p1), .val (.int i), .unset, .unset] [])
  have hi6 := own_mod6 p0 i hi
  clear hi
  refine Go.st (fun _ kont => XS.iloadN X0.here hx rfl (hb hby at_8) rfl kont) ?_
  show Go p e s below _ _ _ s₁ (mkF m 9 #[.val (.int p0), .val (.int p1), .val (.int i), .unset, .unset] [(.int p1)])
  by_cases hc9_1 : p1 < (0 : Int32)
  · --
    refine Go.st (fun _ kont => XS.ifNo X0.here hx rfl (hb hby at_9) rfl ((if0 _ _).trans (tlt hc9_1).2.1) kont) ?_
    show Go p e s below _ _ _ s₁ (mkF m 12 #[.val (.int p0), .val (.int p1), .val (.int i), .unset, .unset] [])
    refine Go.st (fun _ kont => XT.iconstV X0.here hx rfl (0 : Int32) (hb hby at_12) (by decide) kont) ?_
    show Go p e s below _ _ _ s₁ (mkF m 13 #[.val (.int p0), .val (.int p1), .val (.int i), .unset, .unset] [(.int (0 : Int32))])
    refine Go.st (fun _ kont => XS.goto X0.here hx rfl (pc0 := 13) (pc' := 25) rfl (hb hby at_13) (by decide) (by decide) kont) ?_
    show Go p e s below _ _ _ s₁ (mkF m 25 #[.val (.int p0), .val (.int p1), .val (.int i), .unset, .unset] [(.int (0 : Int32))])
    refine Go.st (fun _ kont => XS.istoreN X0.here hx rfl (hb hby at_25) rfl (l' := #[.val (.int p0), .val (.int p1), .val (.int i), .val (.int (0 : Int32)), .unset]) rfl kont) ?_
    show Go p e s below _ _ _ s₁ (mkF m 26 #[.val (.int p0), .val (.int p1), .val (.int i), .val (.int (0 : Int32)), .unset] [])
    have s2 : ¬ p1 = 0 := fun q => by rw [q] at hc9_1; exact absurd hc9_1 (by decide)
    have s3 : ¬ 0 < p1 := by rw [Int32.lt_iff_toInt_lt] at *; have z0 : (0 : Int32).toInt = 0 := rfl; omega
    rcases hi6 with rfl | rfl | rfl | rfl | rfl | rfl
    · --
      show Go p e s below _ _ _ s₁ (mkF m 26 #[.val (.int p0), .val (.int p1), .val (.int (0 : Int32)), .val (.int (0 : Int32)), .unset] [])
      refine Go.st (fun _ kont => XS.iloadN X0.here hx rfl (hb hby at_26) rfl kont) ?_
      show Go p e s below _ _ _ s₁ (mkF m 27 #[.val (.int p0), .val (.int p1), .val (.int (0 : Int32)), .val (.int (0 : Int32)), .unset] [(.int (0 : Int32))])
      refine Go.callS (W := 0) (argsL := [(.int (0 : Int32))]) (rest := []) X0 hx hZ hown (y := (⟨"com/example/keyfold/keyfold/sql/OperatorHoldsPinLaw", "admits", "(I)I"⟩ : MethodName)) (hw _ (List.mem_of_getElem? (i := 1) rfl)) (hw _ (List.mem_of_getElem? (i := 2) rfl)) (hw _ (List.mem_of_getElem? (i := 3) rfl)) (hw _ (List.mem_of_getElem? (i := 4) rfl)) (rma l Z a0 hw [] (0 : Int32) (2 : Int32) h0 n0 (by decide)) e0 (by decide) (by decide) (by decide) (by decide) (by decide) (by rw [hml]; rfl) (lenOf pd__I_I rfl) (Nat.le_of_eq rfl) (hb hby at_27) ?_
      intro T2 v2 L2 X2 hQ2
      obtain ⟨rfl, N2, E2⟩ := hQ2
      have M2 := Fr.app N0 N2
      show Go p e s below _ _ _ T2 (mkF m 30 #[.val (.int p0), .val (.int p1), .val (.int (0 : Int32)), .val (.int (0 : Int32)), .unset] [(.int (2 : Int32))])
      refine Go.st (fun _ kont => XS.iloadN X2.here hx rfl (hb hby at_30) rfl kont) ?_
      show Go p e s below _ _ _ T2 (mkF m 31 #[.val (.int p0), .val (.int p1), .val (.int (0 : Int32)), .val (.int (0 : Int32)), .unset] [(.int (0 : Int32)), (.int (2 : Int32))])
      refine Go.st (fun _ kont => XS.ishr X2.here hx rfl (hb hby at_31) rfl kont) ?_
      show Go p e s below _ _ _ T2 (mkF m 32 #[.val (.int p0), .val (.int p1), .val (.int (0 : Int32)), .val (.int (0 : Int32)), .unset] [(.int ((2 : Int32) >>> ((0 : Int32) &&& 31)))])
      refine Go.st (fun _ kont => XT.iconstV X2.here hx rfl (1 : Int32) (hb hby at_32) (by decide) kont) ?_
      show Go p e s below _ _ _ T2 (mkF m 33 #[.val (.int p0), .val (.int p1), .val (.int (0 : Int32)), .val (.int (0 : Int32)), .unset] [(.int (1 : Int32)), (.int ((2 : Int32) >>> ((0 : Int32) &&& 31)))])
      refine Go.st (fun _ kont => XS.iand X2.here hx rfl (hb hby at_33) rfl kont) ?_
      show Go p e s below _ _ _ T2 (mkF m 34 #[.val (.int p0), .val (.int p1), .val (.int (0 : Int32)), .val (.int (0 : Int32)), .unset] [(.int (((2 : Int32) >>> ((0 : Int32) &&& 31)) &&& (1 : Int32)))])
      refine Go.st (fun _ kont => XS.ifYes X2.here hx rfl (pc0 := 34) (pc' := 41) rfl (hb hby at_34) rfl ((if0 _ _).trans (teq (by decide : ((((2 : Int32) >>> ((0 : Int32) &&& 31)) &&& (1 : Int32)) = (0 : Int32)))).1) (by decide) (by decide) kont) ?_
      show Go p e s below _ _ _ T2 (mkF m 41 #[.val (.int p0), .val (.int p1), .val (.int (0 : Int32)), .val (.int (0 : Int32)), .unset] [])
      refine Go.st (fun _ kont => XT.iconstV X2.here hx rfl (0 : Int32) (hb hby at_41) (by decide) kont) ?_
      show Go p e s below _ _ _ T2 (mkF m 42 #[.val (.int p0), .val (.int p1), .val (.int (0 : Int32)), .val (.int (0 : Int32)), .unset] [(.int (0 : Int32))])
      refine Go.st (fun _ kont => XS.istore X2.here hx rfl (hb hby at_42) rfl (l' := #[.val (.int p0), .val (.int p1), .val (.int (0 : Int32)), .val (.int (0 : Int32)), .val (.int (0 : Int32))]) rfl kont) ?_
      show Go p e s below _ _ _ T2 (mkF m 44 #[.val (.int p0), .val (.int p1), .val (.int (0 : Int32)), .val (.int (0 : Int32)), .val (.int (0 : Int32))] [])
      refine Go.st (fun _ kont => XS.iloadN X2.here hx rfl (hb hby at_44) rfl kont) ?_
      show Go p e s below _ _ _ T2 (mkF m 45 #[.val (.int p0), .val (.int p1), .val (.int (0 : Int32)), .val (.int (0 : Int32)), .val (.int (0 : Int32))] [(.int (0 : Int32))])
      refine Go.callS (W := 0) (argsL := [(.int (0 : Int32))]) (rest := []) X2 hx hZ hown (y := (⟨"com/example/keyfold/keyfold/sql/OperatorHoldsPinLaw", "op", "(I)Lcom/example/keyfold/keyfold/sql/Condition$Operator;"⟩ : MethodName)) (hw _ (List.mem_of_getElem? (i := 5) rfl)) (hw _ (List.mem_of_getElem? (i := 6) rfl)) (hw _ (List.mem_of_getElem? (i := 3) rfl)) (hw _ (List.mem_of_getElem? (i := 7) rfl)) (rmo l Z a0 hw [] (0 : Int32) 0 h0 n0 r C0 (by decide)) E2 (by decide) (by decide) (by decide) (by decide) (by decide) (by rw [hml]; rfl) (lenOf pd__I_Lcom_example_keyfold_keyfold_sql_Condition_Operator_ rfl) (Nat.le_of_eq rfl) (hb hby at_45) ?_
      intro T3 v3 L3 X3 hQ3
      obtain ⟨rfl, N3, E3⟩ := hQ3
      have M3 := Fr.app M2 N3
      show Go p e s below _ _ _ T3 (mkF m 48 #[.val (.int p0), .val (.int p1), .val (.int (0 : Int32)), .val (.int (0 : Int32)), .val (.int (0 : Int32))] [(.ref (r 0))])
      refine Go.st (fun _ kont => XS.iloadN X3.here hx rfl (hb hby at_48) rfl kont) ?_
      show Go p e s below _ _ _ T3 (mkF m 49 #[.val (.int p0), .val (.int p1), .val (.int (0 : Int32)), .val (.int (0 : Int32)), .val (.int (0 : Int32))] [(.int p1), (.ref (r 0))])
      refine Go.callV (b := (r 0)) (W := 0) (argsL := [(.int p1)]) (rest := []) X3 hx hZ hown (y := (⟨"com/example/keyfold/keyfold/sql/Condition$Operator", "holds", "(I)Z"⟩ : MethodName)) (z := (⟨"com/example/keyfold/keyfold/sql/Condition$Operator", "holds", "(I)Z"⟩ : MethodName)) (hw _ (List.mem_of_getElem? (i := 11) rfl)) (hw _ (List.mem_of_getElem? (i := 12) rfl)) (notFace_of_selects (args := #[]) (mvT hZ (hw _ (List.mem_of_getElem? (i := 14) rfl)))) (hw _ (List.mem_of_getElem? (i := 14) rfl)) (hw _ (List.mem_of_getElem? (i := 13) rfl)) (hw _ (List.mem_of_getElem? (i := 9) rfl)) (hw _ (List.mem_of_getElem? (i := 15) rfl)) (rmh l Z a0 hw [] (r 0) p1 (0 : Int32) (0 : Int32) h0 n0 (C0 0 "EQUAL" 0 rfl rfl).2.2 (C0 0 "EQUAL" 0 rfl rfl).2.1 (by decide) ⟨fun _ => ⟨fun q => absurd q s2, fun _ => rfl⟩, fun q => absurd q (by decide), fun q => absurd q (by decide), fun q => absurd q (by decide), fun q => absurd q (by decide), fun q => absurd q (by decide)⟩) E3 (C0 0 "EQUAL" 0 rfl rfl).2.1 (by decide) (by decide) (by decide) (by decide) (by decide) (by rw [hml]; rfl) (lenOf pd__I_Z rfl) (Nat.le_of_eq rfl) (hb hby at_49) ?_
      intro T4 v4 L4 X4 hQ4
      obtain ⟨rfl, N4, E4⟩ := hQ4
      have M4 := Fr.app M3 N4
      show Go p e s below _ _ _ T4 (mkF m 52 #[.val (.int p0), .val (.int p1), .val (.int (0 : Int32)), .val (.int (0 : Int32)), .val (.int (0 : Int32))] [(.int (0 : Int32))])
      refine Go.st (fun _ kont => XS.iload X4.here hx rfl (hb hby at_52) rfl kont) ?_
      show Go p e s below _ _ _ T4 (mkF m 54 #[.val (.int p0), .val (.int p1), .val (.int (0 : Int32)), .val (.int (0 : Int32)), .val (.int (0 : Int32))] [(.int (0 : Int32)), (.int (0 : Int32))])
      refine Go.st (fun _ kont => XS.icmpNo X4.here hx rfl (hb hby at_54) rfl (teq rfl).2 kont) ?_
      show Go p e s below _ _ _ T4 (mkF m 57 #[.val (.int p0), .val (.int p1), .val (.int (0 : Int32)), .val (.int (0 : Int32)), .val (.int (0 : Int32))] [])
      refine Go.st (fun _ kont => XT.iconstV X4.here hx rfl (1 : Int32) (hb hby at_57) (by decide) kont) ?_
      show Go p e s below _ _ _ T4 (mkF m 58 #[.val (.int p0), .val (.int p1), .val (.int (0 : Int32)), .val (.int (0 : Int32)), .val (.int (0 : Int32))] [(.int (1 : Int32))])
      refine Go.st (fun _ kont => XS.goto X4.here hx rfl (pc0 := 58) (pc' := 62) rfl (hb hby at_58) (by decide) (by decide) kont) ?_
      show Go p e s below _ _ _ T4 (mkF m 62 #[.val (.int p0), .val (.int p1), .val (.int (0 : Int32)), .val (.int (0 : Int32)), .val (.int (0 : Int32))] [(.int (1 : Int32))])
      exact Go.retN X4 hx hlk hret (by simp) (hb hby at_62) (by decide) (by decide) ⟨rfl, M4⟩
    · --
      show Go p e s below _ _ _ s₁ (mkF m 26 #[.val (.int p0), .val (.int p1), .val (.int (1 : Int32)), .val (.int (0 : Int32)), .unset] [])
      refine Go.st (fun _ kont => XS.iloadN X0.here hx rfl (hb hby at_26) rfl kont) ?_
      show Go p e s below _ _ _ s₁ (mkF m 27 #[.val (.int p0), .val (.int p1), .val (.int (1 : Int32)), .val (.int (0 : Int32)), .unset] [(.int (1 : Int32))])
      refine Go.callS (W := 0) (argsL := [(.int (1 : Int32))]) (rest := []) X0 hx hZ hown (y := (⟨"com/example/keyfold/keyfold/sql/OperatorHoldsPinLaw", "admits", "(I)I"⟩ : MethodName)) (hw _ (List.mem_of_getElem? (i := 1) rfl)) (hw _ (List.mem_of_getElem? (i := 2) rfl)) (hw _ (List.mem_of_getElem? (i := 3) rfl)) (hw _ (List.mem_of_getElem? (i := 4) rfl)) (rma l Z a0 hw [] (1 : Int32) (5 : Int32) h0 n0 (by decide)) e0 (by decide) (by decide) (by decide) (by decide) (by decide) (by rw [hml]; rfl) (lenOf pd__I_I rfl) (Nat.le_of_eq rfl) (hb hby at_27) ?_
      intro T5 v5 L5 X5 hQ5
      obtain ⟨rfl, N5, E5⟩ := hQ5
      have M5 := Fr.app N0 N5
      show Go p e s below _ _ _ T5 (mkF m 30 #[.val (.int p0), .val (.int p1), .val (.int (1 : Int32)), .val (.int (0 : Int32)), .unset] [(.int (5 : Int32))])
      refine Go.st (fun _ kont => XS.iloadN X5.here hx rfl (hb hby at_30) rfl kont) ?_
      show Go p e s below _ _ _ T5 (mkF m 31 #[.val (.int p0), .val (.int p1), .val (.int (1 : Int32)), .val (.int (0 : Int32)), .unset] [(.int (0 : Int32)), (.int (5 : Int32))])
      refine Go.st (fun _ kont => XS.ishr X5.here hx rfl (hb hby at_31) rfl kont) ?_
      show Go p e s below _ _ _ T5 (mkF m 32 #[.val (.int p0), .val (.int p1), .val (.int (1 : Int32)), .val (.int (0 : Int32)), .unset] [(.int ((5 : Int32) >>> ((0 : Int32) &&& 31)))])
      refine Go.st (fun _ kont => XT.iconstV X5.here hx rfl (1 : Int32) (hb hby at_32) (by decide) kont) ?_
      show Go p e s below _ _ _ T5 (mkF m 33 #[.val (.int p0), .val (.int p1), .val (.int (1 : Int32)), .val (.int (0 : Int32)), .unset] [(.int (1 : Int32)), (.int ((5 : Int32) >>> ((0 : Int32) &&& 31)))])
      refine Go.st (fun _ kont => XS.iand X5.here hx rfl (hb hby at_33) rfl kont) ?_
      show Go p e s below _ _ _ T5 (mkF m 34 #[.val (.int p0), .val (.int p1), .val (.int (1 : Int32)), .val (.int (0 : Int32)), .unset] [(.int (((5 : Int32) >>> ((0 : Int32) &&& 31)) &&& (1 : Int32)))])
      refine Go.st (fun _ kont => XS.ifNo X5.here hx rfl (hb hby at_34) rfl ((if0 _ _).trans (feq (by decide : ¬ ((((5 : Int32) >>> ((0 : Int32) &&& 31)) &&& (1 : Int32)) = (0 : Int32)))).1) kont) ?_
      show Go p e s below _ _ _ T5 (mkF m 37 #[.val (.int p0), .val (.int p1), .val (.int (1 : Int32)), .val (.int (0 : Int32)), .unset] [])
      refine Go.st (fun _ kont => XT.iconstV X5.here hx rfl (1 : Int32) (hb hby at_37) (by decide) kont) ?_
      show Go p e s below _ _ _ T5 (mkF m 38 #[.val (.int p0), .val (.int p1), .val (.int (1 : Int32)), .val (.int (0 : Int32)), .unset] [(.int (1 : Int32))])
      refine Go.st (fun _ kont => XS.goto X5.here hx rfl (pc0 := 38) (pc' := 42) rfl (hb hby at_38) (by decide) (by decide) kont) ?_
      show Go p e s below _ _ _ T5 (mkF m 42 #[.val (.int p0), .val (.int p1), .val (.int (1 : Int32)), .val (.int (0 : Int32)), .unset] [(.int (1 : Int32))])
      refine Go.st (fun _ kont => XS.istore X5.here hx rfl (hb hby at_42) rfl (l' := #[.val (.int p0), .val (.int p1), .val (.int (1 : Int32)), .val (.int (0 : Int32)), .val (.int (1 : Int32))]) rfl kont) ?_
      show Go p e s below _ _ _ T5 (mkF m 44 #[.val (.int p0), .val (.int p1), .val (.int (1 : Int32)), .val (.int (0 : Int32)), .val (.int (1 : Int32))] [])
      refine Go.st (fun _ kont => XS.iloadN X5.here hx rfl (hb hby at_44) rfl kont) ?_
      show Go p e s below _ _ _ T5 (mkF m 45 #[.val (.int p0), .val (.int p1), .val (.int (1 : Int32)), .val (.int (0 : Int32)), .val (.int (1 : Int32))] [(.int (1 : Int32))])
      refine Go.callS (W := 0) (argsL := [(.int (1 : Int32))]) (rest := []) X5 hx hZ hown (y := (⟨"com/example/keyfold/keyfold/sql/OperatorHoldsPinLaw", "op", "(I)Lcom/example/keyfold/keyfold/sql/Condition$Operator;"⟩ : MethodName)) (hw _ (List.mem_of_getElem? (i := 5) rfl)) (hw _ (List.mem_of_getElem? (i := 6) rfl)) (hw _ (List.mem_of_getElem? (i := 3) rfl)) (hw _ (List.mem_of_getElem? (i := 7) rfl)) (rmo l Z a0 hw [] (1 : Int32) 1 h0 n0 r C0 (by decide)) E5 (by decide) (by decide) (by decide) (by decide) (by decide) (by rw [hml]; rfl) (lenOf pd__I_Lcom_example_keyfold_keyfold_sql_Condition_Operator_ rfl) (Nat.le_of_eq rfl) (hb hby at_45) ?_
      intro T6 v6 L6 X6 hQ6
      obtain ⟨rfl, N6, E6⟩ := hQ6
      have M6 := Fr.app M5 N6
      show Go p e s below _ _ _ T6 (mkF m 48 #[.val (.int p0), .val (.int p1), .val (.int (1 : Int32)), .val (.int (0 : Int32)), .val (.int (1 : Int32))] [(.ref (r 1))])
      refine Go.st (fun _ kont => XS.iloadN X6.here hx rfl (hb hby at_48) rfl kont) ?_
      show Go p e s below _ _ _ T6 (mkF m 49 #[.val (.int p0), .val (.int p1), .val (.int (1 : Int32)), .val (.int (0 : Int32)), .val (.int (1 : Int32))] [(.int p1), (.ref (r 1))])
      refine Go.callV (b := (r 1)) (W := 0) (argsL := [(.int p1)]) (rest := []) X6 hx hZ hown (y := (⟨"com/example/keyfold/keyfold/sql/Condition$Operator", "holds", "(I)Z"⟩ : MethodName)) (z := (⟨"com/example/keyfold/keyfold/sql/Condition$Operator", "holds", "(I)Z"⟩ : MethodName)) (hw _ (List.mem_of_getElem? (i := 11) rfl)) (hw _ (List.mem_of_getElem? (i := 12) rfl)) (notFace_of_selects (args := #[]) (mvT hZ (hw _ (List.mem_of_getElem? (i := 14) rfl)))) (hw _ (List.mem_of_getElem? (i := 14) rfl)) (hw _ (List.mem_of_getElem? (i := 13) rfl)) (hw _ (List.mem_of_getElem? (i := 9) rfl)) (hw _ (List.mem_of_getElem? (i := 15) rfl)) (rmh l Z a0 hw [] (r 1) p1 (1 : Int32) (1 : Int32) h0 n0 (C0 1 "NOT_EQUAL" 1 rfl rfl).2.2 (C0 1 "NOT_EQUAL" 1 rfl rfl).2.1 (by decide) ⟨fun q => absurd q (by decide), fun _ => ⟨fun q => absurd q s2, fun _ => rfl⟩, fun q => absurd q (by decide), fun q => absurd q (by decide), fun q => absurd q (by decide), fun q => absurd q (by decide)⟩) E6 (C0 1 "NOT_EQUAL" 1 rfl rfl).2.1 (by decide) (by decide) (by decide) (by decide) (by decide) (by rw [hml]; rfl) (lenOf pd__I_Z rfl) (Nat.le_of_eq rfl) (hb hby at_49) ?_
      intro T7 v7 L7 X7 hQ7
      obtain ⟨rfl, N7, E7⟩ := hQ7
      have M7 := Fr.app M6 N7
      show Go p e s below _ _ _ T7 (mkF m 52 #[.val (.int p0), .val (.int p1), .val (.int (1 : Int32)), .val (.int (0 : Int32)), .val (.int (1 : Int32))] [(.int (1 : Int32))])
      refine Go.st (fun _ kont => XS.iload X7.here hx rfl (hb hby at_52) rfl kont) ?_
      show Go p e s below _ _ _ T7 (mkF m 54 #[.val (.int p0), .val (.int p1), .val (.int (1 : Int32)), .val (.int (0 : Int32)), .val (.int (1 : Int32))] [(.int (1 : Int32)), (.int (1 : Int32))])
      refine Go.st (fun _ kont => XS.icmpNo X7.here hx rfl (hb hby at_54) rfl (teq rfl).2 kont) ?_
      show Go p e s below _ _ _ T7 (mkF m 57 #[.val (.int p0), .val (.int p1), .val (.int (1 : Int32)), .val (.int (0 : Int32)), .val (.int (1 : Int32))] [])
      refine Go.st (fun _ kont => XT.iconstV X7.here hx rfl (1 : Int32) (hb hby at_57) (by decide) kont) ?_
      show Go p e s below _ _ _ T7 (mkF m 58 #[.val (.int p0), .val (.int p1), .val (.int (1 : Int32)), .val (.int (0 : Int32)), .val (.int (1 : Int32))] [(.int (1 : Int32))])
      refine Go.st (fun _ kont => XS.goto X7.here hx rfl (pc0 := 58) (pc' := 62) rfl (hb hby at_58) (by decide) (by decide) kont) ?_
      show Go p e s below _ _ _ T7 (mkF m 62 #[.val (.int p0), .val (.int p1), .val (.int (1 : Int32)), .val (.int (0 : Int32)), .val (.int (1 : Int32))] [(.int (1 : Int32))])
      exact Go.retN X7 hx hlk hret (by simp) (hb hby at_62) (by decide) (by decide) ⟨rfl, M7⟩
    · --
      show Go p e s below _ _ _ s₁ (mkF m 26 #[.val (.int p0), .val (.int p1), .val (.int (2 : Int32)), .val (.int (0 : Int32)), .unset] [])
      refine Go.st (fun _ kont => XS.iloadN X0.here hx rfl (hb hby at_26) rfl kont) ?_
      show Go p e s below _ _ _ s₁ (mkF m 27 #[.val (.int p0), .val (.int p1), .val (.int (2 : Int32)), .val (.int (0 : Int32)), .unset] [(.int (2 : Int32))])
      refine Go.callS (W := 0) (argsL := [(.int (2 : Int32))]) (rest := []) X0 hx hZ hown (y := (⟨"com/example/keyfold/keyfold/sql/OperatorHoldsPinLaw", "admits", "(I)I"⟩ : MethodName)) (hw _ (List.mem_of_getElem? (i := 1) rfl)) (hw _ (List.mem_of_getElem? (i := 2) rfl)) (hw _ (List.mem_of_getElem? (i := 3) rfl)) (hw _ (List.mem_of_getElem? (i := 4) rfl)) (rma l Z a0 hw [] (2 : Int32) (1 : Int32) h0 n0 (by decide)) e0 (by decide) (by decide) (by decide) (by decide) (by decide) (by rw [hml]; rfl) (lenOf pd__I_I rfl) (Nat.le_of_eq rfl) (hb hby at_27) ?_
      intro T8 v8 L8 X8 hQ8
      obtain ⟨rfl, N8, E8⟩ := hQ8
      have M8 := Fr.app N0 N8
      show Go p e s below _ _ _ T8 (mkF m 30 #[.val (.int p0), .val (.int p1), .val (.int (2 : Int32)), .val (.int (0 : Int32)), .unset] [(.int (1 : Int32))])
      refine Go.st (fun _ kont => XS.iloadN X8.here hx rfl (hb hby at_30) rfl kont) ?_
      show Go p e s below _ _ _ T8 (mkF m 31 #[.val (.int p0), .val (.int p1), .val (.int (2 : Int32)), .val (.int (0 : Int32)), .unset] [(.int (0 : Int32)), (.int (1 : Int32))])
      refine Go.st (fun _ kont => XS.ishr X8.here hx rfl (hb hby at_31) rfl kont) ?_
      show Go p e s below _ _ _ T8 (mkF m 32 #[.val (.int p0), .val (.int p1), .val (.int (2 : Int32)), .val (.int (0 : Int32)), .unset] [(.int ((1 : Int32) >>> ((0 : Int32) &&& 31)))])
      refine Go.st (fun _ kont => XT.iconstV X8.here hx rfl (1 : Int32) (hb hby at_32) (by decide) kont) ?_
      show Go p e s below _ _ _ T8 (mkF m 33 #[.val (.int p0), .val (.int p1), .val (.int (2 : Int32)), .val (.int (0 : Int32)), .unset] [(.int (1 : Int32)), (.int ((1 : Int32) >>> ((0 : Int32) &&& 31)))])
      refine Go.st (fun _ kont => XS.iand X8.here hx rfl (hb hby at_33) rfl kont) ?_
      show Go p e s below _ _ _ T8 (mkF m 34 #[.val (.int p0), .val (.int p1), .val (.int (2 : Int32)), .val (.int (0 : Int32)), .unset] [(.int (((1 : Int32) >>> ((0 : Int32) &&& 31)) &&& (1 : Int32)))])
      refine Go.st (fun _ kont => XS.ifNo X8.here hx rfl (hb hby at_34) rfl ((if0 _ _).trans (feq (by decide : ¬ ((((1 : Int32) >>> ((0 : Int32) &&& 31)) &&& (1 : Int32)) = (0 : Int32)))).1) kont) ?_
      show Go p e s below _ _ _ T8 (mkF m 37 #[.val (.int p0), .val (.int p1), .val (.int (2 : Int32)), .val (.int (0 : Int32)), .unset] [])
      refine Go.st (fun _ kont => XT.iconstV X8.here hx rfl (1 : Int32) (hb hby at_37) (by decide) kont) ?_
      show Go p e s below _ _ _ T8 (mkF m 38 #[.val (.int p0), .val (.int p1), .val (.int (2 : Int32)), .val (.int (0 : Int32)), .unset] [(.int (1 : Int32))])
      refine Go.st (fun _ kont => XS.goto X8.here hx rfl (pc0 := 38) (pc' := 42) rfl (hb hby at_38) (by decide) (by decide) kont) ?_
      show Go p e s below _ _ _ T8 (mkF m 42 #[.val (.int p0), .val (.int p1), .val (.int (2 : Int32)), .val (.int (0 : Int32)), .unset] [(.int (1 : Int32))])
      refine Go.st (fun _ kont => XS.istore X8.here hx rfl (hb hby at_42) rfl (l' := #[.val (.int p0), .val (.int p1), .val (.int (2 : Int32)), .val (.int (0 : Int32)), .val (.int (1 : Int32))]) rfl kont) ?_
      show Go p e s below _ _ _ T8 (mkF m 44 #[.val (.int p0), .val (.int p1), .val (.int (2 : Int32)), .val (.int (0 : Int32)), .val (.int (1 : Int32))] [])
      refine Go.st (fun _ kont => XS.iloadN X8.here hx rfl (hb hby at_44) rfl kont) ?_
      show Go p e s below _ _ _ T8 (mkF m 45 #[.val (.int p0), .val (.int p1), .val (.int (2 : Int32)), .val (.int (0 : Int32)), .val (.int (1 : Int32))] [(.int (2 : Int32))])
      refine Go.callS (W := 0) (argsL := [(.int (2 : Int32))]) (rest := []) X8 hx hZ hown (y := (⟨"com/example/keyfold/keyfold/sql/OperatorHoldsPinLaw", "op", "(I)Lcom/example/keyfold/keyfold/sql/Condition$Operator;"⟩ : MethodName)) (hw _ (List.mem_of_getElem? (i := 5) rfl)) (hw _ (List.mem_of_getElem? (i := 6) rfl)) (hw _ (List.mem_of_getElem? (i := 3) rfl)) (hw _ (List.mem_of_getElem? (i := 7) rfl)) (rmo l Z a0 hw [] (2 : Int32) 2 h0 n0 r C0 (by decide)) E8 (by decide) (by decide) (by decide) (by decide) (by decide) (by rw [hml]; rfl) (lenOf pd__I_Lcom_example_keyfold_keyfold_sql_Condition_Operator_ rfl) (Nat.le_of_eq rfl) (hb hby at_45) ?_
      intro T9 v9 L9 X9 hQ9
      obtain ⟨rfl, N9, E9⟩ := hQ9
      have M9 := Fr.app M8 N9
      show Go p e s below _ _ _ T9 (mkF m 48 #[.val (.int p0), .val (.int p1), .val (.int (2 : Int32)), .val (.int (0 : Int32)), .val (.int (1 : Int32))] [(.ref (r 2))])
      refine Go.st (fun _ kont => XS.iloadN X9.here hx rfl (hb hby at_48) rfl kont) ?_
      show Go p e s below _ _ _ T9 (mkF m 49 #[.val (.int p0), .val (.int p1), .val (.int (2 : Int32)), .val (.int (0 : Int32)), .val (.int (1 : Int32))] [(.int p1), (.ref (r 2))])
      refine Go.callV (b := (r 2)) (W := 0) (argsL := [(.int p1)]) (rest := []) X9 hx hZ hown (y := (⟨"com/example/keyfold/keyfold/sql/Condition$Operator", "holds", "(I)Z"⟩ : MethodName)) (z := (⟨"com/example/keyfold/keyfold/sql/Condition$Operator", "holds", "(I)Z"⟩ : MethodName)) (hw _ (List.mem_of_getElem? (i := 11) rfl)) (hw _ (List.mem_of_getElem? (i := 12) rfl)) (notFace_of_selects (args := #[]) (mvT hZ (hw _ (List.mem_of_getElem? (i := 14) rfl)))) (hw _ (List.mem_of_getElem? (i := 14) rfl)) (hw _ (List.mem_of_getElem? (i := 13) rfl)) (hw _ (List.mem_of_getElem? (i := 9) rfl)) (hw _ (List.mem_of_getElem? (i := 15) rfl)) (rmh l Z a0 hw [] (r 2) p1 (1 : Int32) (2 : Int32) h0 n0 (C0 2 "LESS" 2 rfl rfl).2.2 (C0 2 "LESS" 2 rfl rfl).2.1 (by decide) ⟨fun q => absurd q (by decide), fun q => absurd q (by decide), fun _ => ⟨fun _ => rfl, fun q => absurd hc9_1 q⟩, fun q => absurd q (by decide), fun q => absurd q (by decide), fun q => absurd q (by decide)⟩) E9 (C0 2 "LESS" 2 rfl rfl).2.1 (by decide) (by decide) (by decide) (by decide) (by decide) (by rw [hml]; rfl) (lenOf pd__I_Z rfl) (Nat.le_of_eq rfl) (hb hby at_49) ?_
      intro T10 v10 L10 X10 hQ10
      obtain ⟨rfl, N10, E10⟩ := hQ10
      have M10 := Fr.app M9 N10
      show Go p e s below _ _ _ T10 (mkF m 52 #[.val (.int p0), .val (.int p1), .val (.int (2 : Int32)), .val (.int (0 : Int32)), .val (.int (1 : Int32))] [(.int (1 : Int32))])
      refine Go.st (fun _ kont => XS.iload X10.here hx rfl (hb hby at_52) rfl kont) ?_
      show Go p e s below _ _ _ T10 (mkF m 54 #[.val (.int p0), .val (.int p1), .val (.int (2 : Int32)), .val (.int (0 : Int32)), .val (.int (1 : Int32))] [(.int (1 : Int32)), (.int (1 : Int32))])
      refine Go.st (fun _ kont => XS.icmpNo X10.here hx rfl (hb hby at_54) rfl (teq rfl).2 kont) ?_
      show Go p e s below _ _ _ T10 (mkF m 57 #[.val (.int p0), .val (.int p1), .val (.int (2 : Int32)), .val (.int (0 : Int32)), .val (.int (1 : Int32))] [])
      refine Go.st (fun _ kont => XT.iconstV X10.here hx rfl (1 : Int32) (hb hby at_57) (by decide) kont) ?_
      show Go p e s below _ _ _ T10 (mkF m 58 #[.val (.int p0), .val (.int p1), .val (.int (2 : Int32)), .val (.int (0 : Int32)), .val (.int (1 : Int32))] [(.int (1 : Int32))])
      refine Go.st (fun _ kont => XS.goto X10.here hx rfl (pc0 := 58) (pc' := 62) rfl (hb hby at_58) (by decide) (by decide) kont) ?_
      show Go p e s below _ _ _ T10 (mkF m 62 #[.val (.int p0), .val (.int p1), .val (.int (2 : Int32)), .val (.int (0 : Int32)), .val (.int (1 : Int32))] [(.int (1 : Int32))])
      exact Go.retN X10 hx hlk hret (by simp) (hb hby at_62) (by decide) (by decide) ⟨rfl, M10⟩
    · --
      show Go p e s below _ _ _ s₁ (mkF m 26 #[.val (.int p0), .val (.int p1), .val (.int (3 : Int32)), .val (.int (0 : Int32)), .unset] [])
      refine Go.st (fun _ kont => XS.iloadN X0.here hx rfl (hb hby at_26) rfl kont) ?_
      show Go p e s below _ _ _ s₁ (mkF m 27 #[.val (.int p0), .val (.int p1), .val (.int (3 : Int32)), .val (.int (0 : Int32)), .unset] [(.int (3 : Int32))])
      refine Go.callS (W := 0) (argsL := [(.int (3 : Int32))]) (rest := []) X0 hx hZ hown (y := (⟨"com/example/keyfold/keyfold/sql/OperatorHoldsPinLaw", "admits", "(I)I"⟩ : MethodName)) (hw _ (List.mem_of_getElem? (i := 1) rfl)) (hw _ (List.mem_of_getElem? (i := 2) rfl)) (hw _ (List.mem_of_getElem? (i := 3) rfl)) (hw _ (List.mem_of_getElem? (i := 4) rfl)) (rma l Z a0 hw [] (3 : Int32) (3 : Int32) h0 n0 (by decide)) e0 (by decide) (by decide) (by decide) (by decide) (by decide) (by rw [hml]; rfl) (lenOf pd__I_I rfl) (Nat.le_of_eq rfl) (hb hby at_27) ?_
      intro T11 v11 L11 X11 hQ11
      obtain ⟨rfl, N11, E11⟩ := hQ11
      have M11 := Fr.app N0 N11
      show Go p e s below _ _ _ T11 (mkF m 30 #[.val (.int p0), .val (.int p1), .val (.int (3 : Int32)), .val (.int (0 : Int32)), .unset] [(.int (3 : Int32))])
      refine Go.st (fun _ kont => XS.iloadN X11.here hx rfl (hb hby at_30) rfl kont) ?_
      show Go p e s below _ _ _ T11 (mkF m 31 #[.val (.int p0), .val (.int p1), .val (.int (3 : Int32)), .val (.int (0 : Int32)), .unset] [(.int (0 : Int32)), (.int (3 : Int32))])
      refine Go.st (fun _ kont => XS.ishr X11.here hx rfl (hb hby at_31) rfl kont) ?_
      show Go p e s below _ _ _ T11 (mkF m 32 #[.val (.int p0), .val (.int p1), .val (.int (3 : Int32)), .val (.int (0 : Int32)), .unset] [(.int ((3 : Int32) >>> ((0 : Int32) &&& 31)))])
      refine Go.st (fun _ kont => XT.iconstV X11.here hx rfl (1 : Int32) (hb hby at_32) (by decide) kont) ?_
      show Go p e s below _ _ _ T11 (mkF m 33 #[.val (.int p0), .val (.int p1), .val (.int (3 : Int32)), .val (.int (0 : Int32)), .unset] [(.int (1 : Int32)), (.int ((3 : Int32) >>> ((0 : Int32) &&& 31)))])
      refine Go.st (fun _ kont => XS.iand X11.here hx rfl (hb hby at_33) rfl kont) ?_
      show Go p e s below _ _ _ T11 (mkF m 34 #[.val (.int p0), .val (.int p1), .val (.int (3 : Int32)), .val (.int (0 : Int32)), .unset] [(.int (((3 : Int32) >>> ((0 : Int32) &&& 31)) &&& (1 : Int32)))])
      refine Go.st (fun _ kont => XS.ifNo X11.here hx rfl (hb hby at_34) rfl ((if0 _ _).trans (feq (by decide : ¬ ((((3 : Int32) >>> ((0 : Int32) &&& 31)) &&& (1 : Int32)) = (0 : Int32)))).1) kont) ?_
      show Go p e s below _ _ _ T11 (mkF m 37 #[.val (.int p0), .val (.int p1), .val (.int (3 : Int32)), .val (.int (0 : Int32)), .unset] [])
      refine Go.st (fun _ kont => XT.iconstV X11.here hx rfl (1 : Int32) (hb hby at_37) (by decide) kont) ?_
      show Go p e s below _ _ _ T11 (mkF m 38 #[.val (.int p0), .val (.int p1), .val (.int (3 : Int32)), .val (.int (0 : Int32)), .unset] [(.int (1 : Int32))])
      refine Go.st (fun _ kont => XS.goto X11.here hx rfl (pc0 := 38) (pc' := 42) rfl (hb hby at_38) (by decide) (by decide) kont) ?_
      show Go p e s below _ _ _ T11 (mkF m 42 #[.val (.int p0), .val (.int p1), .val (.int (3 : Int32)), .val (.int (0 : Int32)), .unset] [(.int (1 : Int32))])
      refine Go.st (fun _ kont => XS.istore X11.here hx rfl (hb hby at_42) rfl (l' := #[.val (.int p0), .val (.int p1), .val (.int (3 : Int32)), .val (.int (0 : Int32)), .val (.int (1 : Int32))]) rfl kont) ?_
      show Go p e s below _ _ _ T11 (mkF m 44 #[.val (.int p0), .val (.int p1), .val (.int (3 : Int32)), .val (.int (0 : Int32)), .val (.int (1 : Int32))] [])
      refine Go.st (fun _ kont => XS.iloadN X11.here hx rfl (hb hby at_44) rfl kont) ?_
      show Go p e s below _ _ _ T11 (mkF m 45 #[.val (.int p0), .val (.int p1), .val (.int (3 : Int32)), .val (.int (0 : Int32)), .val (.int (1 : Int32))] [(.int (3 : Int32))])
      refine Go.callS (W := 0) (argsL := [(.int (3 : Int32))]) (rest := []) X11 hx hZ hown (y := (⟨"com/example/keyfold/keyfold/sql/OperatorHoldsPinLaw", "op", "(I)Lcom/example/keyfold/keyfold/sql/Condition$Operator;"⟩ : MethodName)) (hw _ (List.mem_of_getElem? (i := 5) rfl)) (hw _ (List.mem_of_getElem? (i := 6) rfl)) (hw _ (List.mem_of_getElem? (i := 3) rfl)) (hw _ (List.mem_of_getElem? (i := 7) rfl)) (rmo l Z a0 hw [] (3 : Int32) 3 h0 n0 r C0 (by decide)) E11 (by decide) (by decide) (by decide) (by decide) (by decide) (by rw [hml]; rfl) (lenOf pd__I_Lcom_example_keyfold_keyfold_sql_Condition_Operator_ rfl) (Nat.le_of_eq rfl) (hb hby at_45) ?_
      intro T12 v12 L12 X12 hQ12
      obtain ⟨rfl, N12, E12⟩ := hQ12
      have M12 := Fr.app M11 N12
      show Go p e s below _ _ _ T12 (mkF m 48 #[.val (.int p0), .val (.int p1), .val (.int (3 : Int32)), .val (.int (0 : Int32)), .val (.int (1 : Int32))] [(.ref (r 3))])
      refine Go.st (fun _ kont => XS.iloadN X12.here hx rfl (hb hby at_48) rfl kont) ?_
      show Go p e s below _ _ _ T12 (mkF m 49 #[.val (.int p0), .val (.int p1), .val (.int (3 : Int32)), .val (.int (0 : Int32)), .val (.int (1 : Int32))] [(.int p1), (.ref (r 3))])
      refine Go.callV (b := (r 3)) (W := 0) (argsL := [(.int p1)]) (rest := []) X12 hx hZ hown (y := (⟨"com/example/keyfold/keyfold/sql/Condition$Operator", "holds", "(I)Z"⟩ : MethodName)) (z := (⟨"com/example/keyfold/keyfold/sql/Condition$Operator", "holds", "(I)Z"⟩ : MethodName)) (hw _ (List.mem_of_getElem? (i := 11) rfl)) (hw _ (List.mem_of_getElem? (i := 12) rfl)) (notFace_of_selects (args := #[]) (mvT hZ (hw _ (List.mem_of_getElem? (i := 14) rfl)))) (hw _ (List.mem_of_getElem? (i := 14) rfl)) (hw _ (List.mem_of_getElem? (i := 13) rfl)) (hw _ (List.mem_of_getElem? (i := 9) rfl)) (hw _ (List.mem_of_getElem? (i := 15) rfl)) (rmh l Z a0 hw [] (r 3) p1 (1 : Int32) (3 : Int32) h0 n0 (C0 3 "LESS_OR_EQUAL" 3 rfl rfl).2.2 (C0 3 "LESS_OR_EQUAL" 3 rfl rfl).2.1 (by decide) ⟨fun q => absurd q (by decide), fun q => absurd q (by decide), fun q => absurd q (by decide), fun _ => ⟨fun q => absurd q s3, fun _ => rfl⟩, fun q => absurd q (by decide), fun q => absurd q (by decide)⟩) E12 (C0 3 "LESS_OR_EQUAL" 3 rfl rfl).2.1 (by decide) (by decide) (by decide) (by decide) (by decide) (by rw [hml]; rfl) (lenOf pd__I_Z rfl) (Nat.le_of_eq rfl) (hb hby at_49) ?_
      intro T13 v13 L13 X13 hQ13
      obtain ⟨rfl, N13, E13⟩ := hQ13
      have M13 := Fr.app M12 N13
      show Go p e s below _ _ _ T13 (mkF m 52 #[.val (.int p0), .val (.int p1), .val (.int (3 : Int32)), .val (.int (0 : Int32)), .val (.int (1 : Int32))] [(.int (1 : Int32))])
      refine Go.st (fun _ kont => XS.iload X13.here hx rfl (hb hby at_52) rfl kont) ?_
      show Go p e s below _ _ _ T13 (mkF m 54 #[.val (.int p0), .val (.int p1), .val (.int (3 : Int32)), .val (.int (0 : Int32)), .val (.int (1 : Int32))] [(.int (1 : Int32)), (.int (1 : Int32))])
      refine Go.st (fun _ kont => XS.icmpNo X13.here hx rfl (hb hby at_54) rfl (teq rfl).2 kont) ?_
      show Go p e s below _ _ _ T13 (mkF m 57 #[.val (.int p0), .val (.int p1), .val (.int (3 : Int32)), .val (.int (0 : Int32)), .val (.int (1 : Int32))] [])
      refine Go.st (fun _ kont => XT.iconstV X13.here hx rfl (1 : Int32) (hb hby at_57) (by decide) kont) ?_
      show Go p e s below _ _ _ T13 (mkF m 58 #[.val (.int p0), .val (.int p1), .val (.int (3 : Int32)), .val (.int (0 : Int32)), .val (.int (1 : Int32))] [(.int (1 : Int32))])
      refine Go.st (fun _ kont => XS.goto X13.here hx rfl (pc0 := 58) (pc' := 62) rfl (hb hby at_58) (by decide) (by decide) kont) ?_
      show Go p e s below _ _ _ T13 (mkF m 62 #[.val (.int p0), .val (.int p1), .val (.int (3 : Int32)), .val (.int (0 : Int32)), .val (.int (1 : Int32))] [(.int (1 : Int32))])
      exact Go.retN X13 hx hlk hret (by simp) (hb hby at_62) (by decide) (by decide) ⟨rfl, M13⟩
    · --
      show Go p e s below _ _ _ s₁ (mkF m 26 #[.val (.int p0), .val (.int p1), .val (.int (4 : Int32)), .val (.int (0 : Int32)), .unset] [])
      refine Go.st (fun _ kont => XS.iloadN X0.here hx rfl (hb hby at_26) rfl kont) ?_
      show Go p e s below _ _ _ s₁ (mkF m 27 #[.val (.int p0), .val (.int p1), .val (.int (4 : Int32)), .val (.int (0 : Int32)), .unset] [(.int (4 : Int32))])
      refine Go.callS (W := 0) (argsL := [(.int (4 : Int32))]) (rest := []) X0 hx hZ hown (y := (⟨"com/example/keyfold/keyfold/sql/OperatorHoldsPinLaw", "admits", "(I)I"⟩ : MethodName)) (hw _ (List.mem_of_getElem? (i := 1) rfl)) (hw _ (List.mem_of_getElem? (i := 2) rfl)) (hw _ (List.mem_of_getElem? (i := 3) rfl)) (hw _ (List.mem_of_getElem? (i := 4) rfl)) (rma l Z a0 hw [] (4 : Int32) (4 : Int32) h0 n0 (by decide)) e0 (by decide) (by decide) (by decide) (by decide) (by decide) (by rw [hml]; rfl) (lenOf pd__I_I rfl) (Nat.le_of_eq rfl) (hb hby at_27) ?_
      intro T14 v14 L14 X14 hQ14
      obtain ⟨rfl, N14, E14⟩ := hQ14
      have M14 := Fr.app N0 N14
      show Go p e s below _ _ _ T14 (mkF m 30 #[.val (.int p0), .val (.int p1), .val (.int (4 : Int32)), .val (.int (0 : Int32)), .unset] [(.int (4 : Int32))])
      refine Go.st (fun _ kont => XS.iloadN X14.here hx rfl (hb hby at_30) rfl kont) ?_
      show Go p e s below _ _ _ T14 (mkF m 31 #[.val (.int p0), .val (.int p1), .val (.int (4 : Int32)), .val (.int (0 : Int32)), .unset] [(.int (0 : Int32)), (.int (4 : Int32))])
      refine Go.st (fun _ kont => XS.ishr X14.here hx rfl (hb hby at_31) rfl kont) ?_
      show Go p e s below _ _ _ T14 (mkF m 32 #[.val (.int p0), .val (.int p1), .val (.int (4 : Int32)), .val (.int (0 : Int32)), .unset] [(.int ((4 : Int32) >>> ((0 : Int32) &&& 31)))])
      refine Go.st (fun _ kont => XT.iconstV X14.here hx rfl (1 : Int32) (hb hby at_32) (by decide) kont) ?_
      show Go p e s below _ _ _ T14 (mkF m 33 #[.val (.int p0), .val (.int p1), .val (.int (4 : Int32)), .val (.int (0 : Int32)), .unset] [(.int (1 : Int32)), (.int ((4 : Int32) >>> ((0 : Int32) &&& 31)))])
      refine Go.st (fun _ kont => XS.iand X14.here hx rfl (hb hby at_33) rfl kont) ?_
      show Go p e s below _ _ _ T14 (mkF m 34 #[.val (.int p0), .val (.int p1), .val (.int (4 : Int32)), .val (.int (0 : Int32)), .unset] [(.int (((4 : Int32) >>> ((0 : Int32) &&& 31)) &&& (1 : Int32)))])
      refine Go.st (fun _ kont => XS.ifYes X14.here hx rfl (pc0 := 34) (pc' := 41) rfl (hb hby at_34) rfl ((if0 _ _).trans (teq (by decide : ((((4 : Int32) >>> ((0 : Int32) &&& 31)) &&& (1 : Int32)) = (0 : Int32)))).1) (by decide) (by decide) kont) ?_
      show Go p e s below _ _ _ T14 (mkF m 41 #[.val (.int p0), .val (.int p1), .val (.int (4 : Int32)), .val (.int (0 : Int32)), .unset] [])
      refine Go.st (fun _ kont => XT.iconstV X14.here hx rfl (0 : Int32) (hb hby at_41) (by decide) kont) ?_
      show Go p e s below _ _ _ T14 (mkF m 42 #[.val (.int p0), .val (.int p1), .val (.int (4 : Int32)), .val (.int (0 : Int32)), .unset] [(.int (0 : Int32))])
      refine Go.st (fun _ kont => XS.istore X14.here hx rfl (hb hby at_42) rfl (l' := #[.val (.int p0), .val (.int p1), .val (.int (4 : Int32)), .val (.int (0 : Int32)), .val (.int (0 : Int32))]) rfl kont) ?_
      show Go p e s below _ _ _ T14 (mkF m 44 #[.val (.int p0), .val (.int p1), .val (.int (4 : Int32)), .val (.int (0 : Int32)), .val (.int (0 : Int32))] [])
      refine Go.st (fun _ kont => XS.iloadN X14.here hx rfl (hb hby at_44) rfl kont) ?_
      show Go p e s below _ _ _ T14 (mkF m 45 #[.val (.int p0), .val (.int p1), .val (.int (4 : Int32)), .val (.int (0 : Int32)), .val (.int (0 : Int32))] [(.int (4 : Int32))])
      refine Go.callS (W := 0) (argsL := [(.int (4 : Int32))]) (rest := []) X14 hx hZ hown (y := (⟨"com/example/keyfold/keyfold/sql/OperatorHoldsPinLaw", "op", "(I)Lcom/example/keyfold/keyfold/sql/Condition$Operator;"⟩ : MethodName)) (hw _ (List.mem_of_getElem? (i := 5) rfl)) (hw _ (List.mem_of_getElem? (i := 6) rfl)) (hw _ (List.mem_of_getElem? (i := 3) rfl)) (hw _ (List.mem_of_getElem? (i := 7) rfl)) (rmo l Z a0 hw [] (4 : Int32) 4 h0 n0 r C0 (by decide)) E14 (by decide) (by decide) (by decide) (by decide) (by decide) (by rw [hml]; rfl) (lenOf pd__I_Lcom_example_keyfold_keyfold_sql_Condition_Operator_ rfl) (Nat.le_of_eq rfl) (hb hby at_45) ?_
      intro T15 v15 L15 X15 hQ15
      obtain ⟨rfl, N15, E15⟩ := hQ15
      have M15 := Fr.app M14 N15
      show Go p e s below _ _ _ T15 (mkF m 48 #[.val (.int p0), .val (.int p1), .val (.int (4 : Int32)), .val (.int (0 : Int32)), .val (.int (0 : Int32))] [(.ref (r 4))])
      refine Go.st (fun _ kont => XS.iloadN X15.here hx rfl (hb hby at_48) rfl kont) ?_
      show Go p e s below _ _ _ T15 (mkF m 49 #[.val (.int p0), .val (.int p1), .val (.int (4 : Int32)), .val (.int (0 : Int32)), .val (.int (0 : Int32))] [(.int p1), (.ref (r 4))])
      refine Go.callV (b := (r 4)) (W := 0) (argsL := [(.int p1)]) (rest := []) X15 hx hZ hown (y := (⟨"com/example/keyfold/keyfold/sql/Condition$Operator", "holds", "(I)Z"⟩ : MethodName)) (z := (⟨"com/example/keyfold/keyfold/sql/Condition$Operator", "holds", "(I)Z"⟩ : MethodName)) (hw _ (List.mem_of_getElem? (i := 11) rfl)) (hw _ (List.mem_of_getElem? (i := 12) rfl)) (notFace_of_selects (args := #[]) (mvT hZ (hw _ (List.mem_of_getElem? (i := 14) rfl)))) (hw _ (List.mem_of_getElem? (i := 14) rfl)) (hw _ (List.mem_of_getElem? (i := 13) rfl)) (hw _ (List.mem_of_getElem? (i := 9) rfl)) (hw _ (List.mem_of_getElem? (i := 15) rfl)) (rmh l Z a0 hw [] (r 4) p1 (0 : Int32) (4 : Int32) h0 n0 (C0 4 "GREATER" 4 rfl rfl).2.2 (C0 4 "GREATER" 4 rfl rfl).2.1 (by decide) ⟨fun q => absurd q (by decide), fun q => absurd q (by decide), fun q => absurd q (by decide), fun q => absurd q (by decide), fun _ => ⟨fun q => absurd q s3, fun _ => rfl⟩, fun q => absurd q (by decide)⟩) E15 (C0 4 "GREATER" 4 rfl rfl).2.1 (by decide) (by decide) (by decide) (by decide) (by decide) (by rw [hml]; rfl) (lenOf pd__I_Z rfl) (Nat.le_of_eq rfl) (hb hby at_49) ?_
      intro T16 v16 L16 X16 hQ16
      obtain ⟨rfl, N16, E16⟩ := hQ16
      have M16 := Fr.app M15 N16
      show Go p e s below _ _ _ T16 (mkF m 52 #[.val (.int p0), .val (.int p1), .val (.int (4 : Int32)), .val (.int (0 : Int32)), .val (.int (0 : Int32))] [(.int (0 : Int32))])
      refine Go.st (fun _ kont => XS.iload X16.here hx rfl (hb hby at_52) rfl kont) ?_
      show Go p e s below _ _ _ T16 (mkF m 54 #[.val (.int p0), .val (.int p1), .val (.int (4 : Int32)), .val (.int (0 : Int32)), .val (.int (0 : Int32))] [(.int (0 : Int32)), (.int (0 : Int32))])
      refine Go.st (fun _ kont => XS.icmpNo X16.here hx rfl (hb hby at_54) rfl (teq rfl).2 kont) ?_
      show Go p e s below _ _ _ T16 (mkF m 57 #[.val (.int p0), .val (.int p1), .val (.int (4 : Int32)), .val (.int (0 : Int32)), .val (.int (0 : Int32))] [])
      refine Go.st (fun _ kont => XT.iconstV X16.here hx rfl (1 : Int32) (hb hby at_57) (by decide) kont) ?_
      show Go p e s below _ _ _ T16 (mkF m 58 #[.val (.int p0), .val (.int p1), .val (.int (4 : Int32)), .val (.int (0 : Int32)), .val (.int (0 : Int32))] [(.int (1 : Int32))])
      refine Go.st (fun _ kont => XS.goto X16.here hx rfl (pc0 := 58) (pc' := 62) rfl (hb hby at_58) (by decide) (by decide) kont) ?_
      show Go p e s below _ _ _ T16 (mkF m 62 #[.val (.int p0), .val (.int p1), .val (.int (4 : Int32)), .val (.int (0 : Int32)), .val (.int (0 : Int32))] [(.int (1 : Int32))])
      exact Go.retN X16 hx hlk hret (by simp) (hb hby at_62) (by decide) (by decide) ⟨rfl, M16⟩
    · --
      show Go p e s below _ _ _ s₁ (mkF m 26 #[.val (.int p0), .val (.int p1), .val (.int (5 : Int32)), .val (.int (0 : Int32)), .unset] [])
      refine Go.st (fun _ kont => XS.iloadN X0.here hx rfl (hb hby at_26) rfl kont) ?_
      show Go p e s below _ _ _ s₁ (mkF m 27 #[.val (.int p0), .val (.int p1), .val (.int (5 : Int32)), .val (.int (0 : Int32)), .unset] [(.int (5 : Int32))])
      refine Go.callS (W := 0) (argsL := [(.int (5 : Int32))]) (rest := []) X0 hx hZ hown (y := (⟨"com/example/keyfold/keyfold/sql/OperatorHoldsPinLaw", "admits", "(I)I"⟩ : MethodName)) (hw _ (List.mem_of_getElem? (i := 1) rfl)) (hw _ (List.mem_of_getElem? (i := 2) rfl)) (hw _ (List.mem_of_getElem? (i := 3) rfl)) (hw _ (List.mem_of_getElem? (i := 4) rfl)) (rma l Z a0 hw [] (5 : Int32) (6 : Int32) h0 n0 (by decide)) e0 (by decide) (by decide) (by decide) (by decide) (by decide) (by rw [hml]; rfl) (lenOf pd__I_I rfl) (Nat.le_of_eq rfl) (hb hby at_27) ?_
      intro T17 v17 L17 X17 hQ17
      obtain ⟨rfl, N17, E17⟩ := hQ17
      have M17 := Fr.app N0 N17
      show Go p e s below _ _ _ T17 (mkF m 30 #[.val (.int p0), .val (.int p1), .val (.int (5 : Int32)), .val (.int (0 : Int32)), .unset] [(.int (6 : Int32))])
      refine Go.st (fun _ kont => XS.iloadN X17.here hx rfl (hb hby at_30) rfl kont) ?_
      show Go p e s below _ _ _ T17 (mkF m 31 #[.val (.int p0), .val (.int p1), .val (.int (5 : Int32)), .val (.int (0 : Int32)), .unset] [(.int (0 : Int32)), (.int (6 : Int32))])
      refine Go.st (fun _ kont => XS.ishr X17.here hx rfl (hb hby at_31) rfl kont) ?_
      show Go p e s below _ _ _ T17 (mkF m 32 #[.val (.int p0), .val (.int p1), .val (.int (5 : Int32)), .val (.int (0 : Int32)), .unset] [(.int ((6 : Int32) >>> ((0 : Int32) &&& 31)))])
      refine Go.st (fun _ kont => XT.iconstV X17.here hx rfl (1 : Int32) (hb hby at_32) (by decide) kont) ?_
      show Go p e s below _ _ _ T17 (mkF m 33 #[.val (.int p0), .val (.int p1), .val (.int (5 : Int32)), .val (.int (0 : Int32)), .unset] [(.int (1 : Int32)), (.int ((6 : Int32) >>> ((0 : Int32) &&& 31)))])
      refine Go.st (fun _ kont => XS.iand X17.here hx rfl (hb hby at_33) rfl kont) ?_
      show Go p e s below _ _ _ T17 (mkF m 34 #[.val (.int p0), .val (.int p1), .val (.int (5 : Int32)), .val (.int (0 : Int32)), .unset] [(.int (((6 : Int32) >>> ((0 : Int32) &&& 31)) &&& (1 : Int32)))])
      refine Go.st (fun _ kont => XS.ifYes X17.here hx rfl (pc0 := 34) (pc' := 41) rfl (hb hby at_34) rfl ((if0 _ _).trans (teq (by decide : ((((6 : Int32) >>> ((0 : Int32) &&& 31)) &&& (1 : Int32)) = (0 : Int32)))).1) (by decide) (by decide) kont) ?_
      show Go p e s below _ _ _ T17 (mkF m 41 #[.val (.int p0), .val (.int p1), .val (.int (5 : Int32)), .val (.int (0 : Int32)), .unset] [])
      refine Go.st (fun _ kont => XT.iconstV X17.here hx rfl (0 : Int32) (hb hby at_41) (by decide) kont) ?_
      show Go p e s below _ _ _ T17 (mkF m 42 #[.val (.int p0), .val (.int p1), .val (.int (5 : Int32)), .val (.int (0 : Int32)), .unset] [(.int (0 : Int32))])
      refine Go.st (fun _ kont => XS.istore X17.here hx rfl (hb hby at_42) rfl (l' := #[.val (.int p0), .val (.int p1), .val (.int (5 : Int32)), .val (.int (0 : Int32)), .val (.int (0 : Int32))]) rfl kont) ?_
      show Go p e s below _ _ _ T17 (mkF m 44 #[.val (.int p0), .val (.int p1), .val (.int (5 : Int32)), .val (.int (0 : Int32)), .val (.int (0 : Int32))] [])
      refine Go.st (fun _ kont => XS.iloadN X17.here hx rfl (hb hby at_44) rfl kont) ?_
      show Go p e s below _ _ _ T17 (mkF m 45 #[.val (.int p0), .val (.int p1), .val (.int (5 : Int32)), .val (.int (0 : Int32)), .val (.int (0 : Int32))] [(.int (5 : Int32))])
      refine Go.callS (W := 0) (argsL := [(.int (5 : Int32))]) (rest := []) X17 hx hZ hown (y := (⟨"com/example/keyfold/keyfold/sql/OperatorHoldsPinLaw", "op", "(I)Lcom/example/keyfold/keyfold/sql/Condition$Operator;"⟩ : MethodName)) (hw _ (List.mem_of_getElem? (i := 5) rfl)) (hw _ (List.mem_of_getElem? (i := 6) rfl)) (hw _ (List.mem_of_getElem? (i := 3) rfl)) (hw _ (List.mem_of_getElem? (i := 7) rfl)) (rmo l Z a0 hw [] (5 : Int32) 5 h0 n0 r C0 (by decide)) E17 (by decide) (by decide) (by decide) (by decide) (by decide) (by rw [hml]; rfl) (lenOf pd__I_Lcom_example_keyfold_keyfold_sql_Condition_Operator_ rfl) (Nat.le_of_eq rfl) (hb hby at_45) ?_
      intro T18 v18 L18 X18 hQ18
      obtain ⟨rfl, N18, E18⟩ := hQ18
      have M18 := Fr.app M17 N18
      show Go p e s below _ _ _ T18 (mkF m 48 #[.val (.int p0), .val (.int p1), .val (.int (5 : Int32)), .val (.int (0 : Int32)), .val (.int (0 : Int32))] [(.ref (r 5))])
      refine Go.st (fun _ kont => XS.iloadN X18.here hx rfl (hb hby at_48) rfl kont) ?_
      show Go p e s below _ _ _ T18 (mkF m 49 #[.val (.int p0), .val (.int p1), .val (.int (5 : Int32)), .val (.int (0 : Int32)), .val (.int (0 : Int32))] [(.int p1), (.ref (r 5))])
      refine Go.callV (b := (r 5)) (W := 0) (argsL := [(.int p1)]) (rest := []) X18 hx hZ hown (y := (⟨"com/example/keyfold/keyfold/sql/Condition$Operator", "holds", "(I)Z"⟩ : MethodName)) (z := (⟨"com/example/keyfold/keyfold/sql/Condition$Operator", "holds", "(I)Z"⟩ : MethodName)) (hw _ (List.mem_of_getElem? (i := 11) rfl)) (hw _ (List.mem_of_getElem? (i := 12) rfl)) (notFace_of_selects (args := #[]) (mvT hZ (hw _ (List.mem_of_getElem? (i := 14) rfl)))) (hw _ (List.mem_of_getElem? (i := 14) rfl)) (hw _ (List.mem_of_getElem? (i := 13) rfl)) (hw _ (List.mem_of_getElem? (i := 9) rfl)) (hw _ (List.mem_of_getElem? (i := 15) rfl)) (rmh l Z a0 hw [] (r 5) p1 (0 : Int32) (5 : Int32) h0 n0 (C0 5 "GREATER_OR_EQUAL" 5 rfl rfl).2.2 (C0 5 "GREATER_OR_EQUAL" 5 rfl rfl).2.1 (by decide) ⟨fun q => absurd q (by decide), fun q => absurd q (by decide), fun q => absurd q (by decide), fun q => absurd q (by decide), fun q => absurd q (by decide), fun _ => ⟨fun _ => rfl, fun q => absurd hc9_1 q⟩⟩) E18 (C0 5 "GREATER_OR_EQUAL" 5 rfl rfl).2.1 (by decide) (by decide) (by decide) (by decide) (by decide) (by rw [hml]; rfl) (lenOf pd__I_Z rfl) (Nat.le_of_eq rfl) (hb hby at_49) ?_
      intro T19 v19 L19 X19 hQ19
      obtain ⟨rfl, N19, E19⟩ := hQ19
      have M19 := Fr.app M18 N19
      show Go p e s below _ _ _ T19 (mkF m 52 #[.val (.int p0), .val (.int p1), .val (.int (5 : Int32)), .val (.int (0 : Int32)), .val (.int (0 : Int32))] [(.int (0 : Int32))])
      refine Go.st (fun _ kont => XS.iload X19.here hx rfl (hb hby at_52) rfl kont) ?_
      show Go p e s below _ _ _ T19 (mkF m 54 #[.val (.int p0), .val (.int p1), .val (.int (5 : Int32)), .val (.int (0 : Int32)), .val (.int (0 : Int32))] [(.int (0 : Int32)), (.int (0 : Int32))])
      refine Go.st (fun _ kont => XS.icmpNo X19.here hx rfl (hb hby at_54) rfl (teq rfl).2 kont) ?_
      show Go p e s below _ _ _ T19 (mkF m 57 #[.val (.int p0), .val (.int p1), .val (.int (5 : Int32)), .val (.int (0 : Int32)), .val (.int (0 : Int32))] [])
      refine Go.st (fun _ kont => XT.iconstV X19.here hx rfl (1 : Int32) (hb hby at_57) (by decide) kont) ?_
      show Go p e s below _ _ _ T19 (mkF m 58 #[.val (.int p0), .val (.int p1), .val (.int (5 : Int32)), .val (.int (0 : Int32)), .val (.int (0 : Int32))] [(.int (1 : Int32))])
      refine Go.st (fun _ kont => XS.goto X19.here hx rfl (pc0 := 58) (pc' := 62) rfl (hb hby at_58) (by decide) (by decide) kont) ?_
      show Go p e s below _ _ _ T19 (mkF m 62 #[.val (.int p0), .val (.int p1), .val (.int (5 : Int32)), .val (.int (0 : Int32)), .val (.int (0 : Int32))] [(.int (1 : Int32))])
      exact Go.retN X19 hx hlk hret (by simp) (hb hby at_62) (by decide) (by decide) ⟨rfl, M19⟩
  · --
    refine Go.st (fun _ kont => XS.ifYes X0.here hx rfl (pc0 := 9) (pc' := 16) rfl (hb hby at_9) rfl ((if0 _ _).trans (flt hc9_1).2.1) (by decide) (by decide) kont) ?_
    show Go p e s below _ _ _ s₁ (mkF m 16 #[.val (.int p0), .val (.int p1), .val (.int i), .unset, .unset] [])
    refine Go.st (fun _ kont => XS.iloadN X0.here hx rfl (hb hby at_16) rfl kont) ?_
    show Go p e s below _ _ _ s₁ (mkF m 17 #[.val (.int p0), .val (.int p1), .val (.int i), .unset, .unset] [(.int p1)])
    by_cases hc17_20 : p1 = (0 : Int32)
    · --
      refine Go.st (fun _ kont => XS.ifNo X0.here hx rfl (hb hby at_17) rfl ((if0 _ _).trans (teq hc17_20).2) kont) ?_
      show Go p e s below _ _ _ s₁ (mkF m 20 #[.val (.int p0), .val (.int p1), .val (.int i), .unset, .unset] [])
      refine Go.st (fun _ kont => XT.iconstV X0.here hx rfl (1 : Int32) (hb hby at_20) (by decide) kont) ?_
      show Go p e s below _ _ _ s₁ (mkF m 21 #[.val (.int p0), .val (.int p1), .val (.int i), .unset, .unset] [(.int (1 : Int32))])
      refine Go.st (fun _ kont => XS.goto X0.here hx rfl (pc0 := 21) (pc' := 25) rfl (hb hby at_21) (by decide) (by decide) kont) ?_
      show Go p e s below _ _ _ s₁ (mkF m 25 #[.val (.int p0), .val (.int p1), .val (.int i), .unset, .unset] [(.int (1 : Int32))])
      refine Go.st (fun _ kont => XS.istoreN X0.here hx rfl (hb hby at_25) rfl (l' := #[.val (.int p0), .val (.int p1), .val (.int i), .val (.int (1 : Int32)), .unset]) rfl kont) ?_
      show Go p e s below _ _ _ s₁ (mkF m 26 #[.val (.int p0), .val (.int p1), .val (.int i), .val (.int (1 : Int32)), .unset] [])
      have s3 : ¬ 0 < p1 := fun q => by rw [hc17_20] at q; exact absurd q (by decide)
      rcases hi6 with rfl | rfl | rfl | rfl | rfl | rfl
      · --
        show Go p e s below _ _ _ s₁ (mkF m 26 #[.val (.int p0), .val (.int p1), .val (.int (0 : Int32)), .val (.int (1 : Int32)), .unset] [])
        refine Go.st (fun _ kont => XS.iloadN X0.here hx rfl (hb hby at_26) rfl kont) ?_
        show Go p e s below _ _ _ s₁ (mkF m 27 #[.val (.int p0), .val (.int p1), .val (.int (0 : Int32)), .val (.int (1 : Int32)), .unset] [(.int (0 : Int32))])
        refine Go.callS (W := 0) (argsL := [(.int (0 : Int32))]) (rest := []) X0 hx hZ hown (y := (⟨"com/example/keyfold/keyfold/sql/OperatorHoldsPinLaw", "admits", "(I)I"⟩ : MethodName)) (hw _ (List.mem_of_getElem? (i := 1) rfl)) (hw _ (List.mem_of_getElem? (i := 2) rfl)) (hw _ (List.mem_of_getElem? (i := 3) rfl)) (hw _ (List.mem_of_getElem? (i := 4) rfl)) (rma l Z a0 hw [] (0 : Int32) (2 : Int32) h0 n0 (by decide)) e0 (by decide) (by decide) (by decide) (by decide) (by decide) (by rw [hml]; rfl) (lenOf pd__I_I rfl) (Nat.le_of_eq rfl) (hb hby at_27) ?_
        intro T21 v21 L21 X21 hQ21
        obtain ⟨rfl, N21, E21⟩ := hQ21
        have M21 := Fr.app N0 N21
        show Go p e s below _ _ _ T21 (mkF m 30 #[.val (.int p0), .val (.int p1), .val (.int (0 : Int32)), .val (.int (1 : Int32)), .unset] [(.int (2 : Int32))])
        refine Go.st (fun _ kont => XS.iloadN X21.here hx rfl (hb hby at_30) rfl kont) ?_
        show Go p e s below _ _ _ T21 (mkF m 31 #[.val (.int p0), .val (.int p1), .val (.int (0 : Int32)), .val (.int (1 : Int32)), .unset] [(.int (1 : Int32)), (.int (2 : Int32))])
        refine Go.st (fun _ kont => XS.ishr X21.here hx rfl (hb hby at_31) rfl kont) ?_
        show Go p e s below _ _ _ T21 (mkF m 32 #[.val (.int p0), .val (.int p1), .val (.int (0 : Int32)), .val (.int (1 : Int32)), .unset] [(.int ((2 : Int32) >>> ((1 : Int32) &&& 31)))])
        refine Go.st (fun _ kont => XT.iconstV X21.here hx rfl (1 : Int32) (hb hby at_32) (by decide) kont) ?_
        show Go p e s below _ _ _ T21 (mkF m 33 #[.val (.int p0), .val (.int p1), .val (.int (0 : Int32)), .val (.int (1 : Int32)), .unset] [(.int (1 : Int32)), (.int ((2 : Int32) >>> ((1 : Int32) &&& 31)))])
        refine Go.st (fun _ kont => XS.iand X21.here hx rfl (hb hby at_33) rfl kont) ?_
        show Go p e s below _ _ _ T21 (mkF m 34 #[.val (.int p0), .val (.int p1), .val (.int (0 : Int32)), .val (.int (1 : Int32)), .unset] [(.int (((2 : Int32) >>> ((1 : Int32) &&& 31)) &&& (1 : Int32)))])
        refine Go.st (fun _ kont => XS.ifNo X21.here hx rfl (hb hby at_34) rfl ((if0 _ _).trans (feq (by decide : ¬ ((((2 : Int32) >>> ((1 : Int32) &&& 31)) &&& (1 : Int32)) = (0 : Int32)))).1) kont) ?_
        show Go p e s below _ _ _ T21 (mkF m 37 #[.val (.int p0), .val (.int p1), .val (.int (0 : Int32)), .val (.int (1 : Int32)), .unset] [])
        refine Go.st (fun _ kont => XT.iconstV X21.here hx rfl (1 : Int32) (hb hby at_37) (by decide) kont) ?_
        show Go p e s below _ _ _ T21 (mkF m 38 #[.val (.int p0), .val (.int p1), .val (.int (0 : Int32)), .val (.int (1 : Int32)), .unset] [(.int (1 : Int32))])
        refine Go.st (fun _ kont => XS.goto X21.here hx rfl (pc0 := 38) (pc' := 42) rfl (hb hby at_38) (by decide) (by decide) kont) ?_
        show Go p e s below _ _ _ T21 (mkF m 42 #[.val (.int p0), .val (.int p1), .val (.int (0 : Int32)), .val (.int (1 : Int32)), .unset] [(.int (1 : Int32))])
        refine Go.st (fun _ kont => XS.istore X21.here hx rfl (hb hby at_42) rfl (l' := #[.val (.int p0), .val (.int p1), .val (.int (0 : Int32)), .val (.int (1 : Int32)), .val (.int (1 : Int32))]) rfl kont) ?_
        show Go p e s below _ _ _ T21 (mkF m 44 #[.val (.int p0), .val (.int p1), .val (.int (0 : Int32)), .val (.int (1 : Int32)), .val (.int (1 : Int32))] [])
        refine Go.st (fun _ kont => XS.iloadN X21.here hx rfl (hb hby at_44) rfl kont) ?_
        show Go p e s below _ _ _ T21 (mkF m 45 #[.val (.int p0), .val (.int p1), .val (.int (0 : Int32)), .val (.int (1 : Int32)), .val (.int (1 : Int32))] [(.int (0 : Int32))])
        refine Go.callS (W := 0) (argsL := [(.int (0 : Int32))]) (rest := []) X21 hx hZ hown (y := (⟨"com/example/keyfold/keyfold/sql/OperatorHoldsPinLaw", "op", "(I)Lcom/example/keyfold/keyfold/sql/Condition$Operator;"⟩ : MethodName)) (hw _ (List.mem_of_getElem? (i := 5) rfl)) (hw _ (List.mem_of_getElem? (i := 6) rfl)) (hw _ (List.mem_of_getElem? (i := 3) rfl)) (hw _ (List.mem_of_getElem? (i := 7) rfl)) (rmo l Z a0 hw [] (0 : Int32) 0 h0 n0 r C0 (by decide)) E21 (by decide) (by decide) (by decide) (by decide) (by decide) (by rw [hml]; rfl) (lenOf pd__I_Lcom_example_keyfold_keyfold_sql_Condition_Operator_ rfl) (Nat.le_of_eq rfl) (hb hby at_45) ?_
        intro T22 v22 L22 X22 hQ22
        obtain ⟨rfl, N22, E22⟩ := hQ22
        have M22 := Fr.app M21 N22
        show Go p e s below _ _ _ T22 (mkF m 48 #[.val (.int p0), .val (.int p1), .val (.int (0 : Int32)), .val (.int (1 : Int32)), .val (.int (1 : Int32))] [(.ref (r 0))])
        refine Go.st (fun _ kont => XS.iloadN X22.here hx rfl (hb hby at_48) rfl kont) ?_
        show Go p e s below _ _ _ T22 (mkF m 49 #[.val (.int p0), .val (.int p1), .val (.int (0 : Int32)), .val (.int (1 : Int32)), .val (.int (1 : Int32))] [(.int p1), (.ref (r 0))])
        refine Go.callV (b := (r 0)) (W := 0) (argsL := [(.int p1)]) (rest := []) X22 hx hZ hown (y := (⟨"com/example/keyfold/keyfold/sql/Condition$Operator", "holds", "(I)Z"⟩ : MethodName)) (z := (⟨"com/example/keyfold/keyfold/sql/Condition$Operator", "holds", "(I)Z"⟩ : MethodName)) (hw _ (List.mem_of_getElem? (i := 11) rfl)) (hw _ (List.mem_of_getElem? (i := 12) rfl)) (notFace_of_selects (args := #[]) (mvT hZ (hw _ (List.mem_of_getElem? (i := 14) rfl)))) (hw _ (List.mem_of_getElem? (i := 14) rfl)) (hw _ (List.mem_of_getElem? (i := 13) rfl)) (hw _ (List.mem_of_getElem? (i := 9) rfl)) (hw _ (List.mem_of_getElem? (i := 15) rfl)) (rmh l Z a0 hw [] (r 0) p1 (1 : Int32) (0 : Int32) h0 n0 (C0 0 "EQUAL" 0 rfl rfl).2.2 (C0 0 "EQUAL" 0 rfl rfl).2.1 (by decide) ⟨fun _ => ⟨fun _ => rfl, fun q => absurd hc17_20 q⟩, fun q => absurd q (by decide), fun q => absurd q (by decide), fun q => absurd q (by decide), fun q => absurd q (by decide), fun q => absurd q (by decide)⟩) E22 (C0 0 "EQUAL" 0 rfl rfl).2.1 (by decide) (by decide) (by decide) (by decide) (by decide) (by rw [hml]; rfl) (lenOf pd__I_Z rfl) (Nat.le_of_eq rfl) (hb hby at_49) ?_
        intro T23 v23 L23 X23 hQ23
        obtain ⟨rfl, N23, E23⟩ := hQ23
        have M23 := Fr.app M22 N23
        show Go p e s below _ _ _ T23 (mkF m 52 #[.val (.int p0), .val (.int p1), .val (.int (0 : Int32)), .val (.int (1 : Int32)), .val (.int (1 : Int32))] [(.int (1 : Int32))])
        refine Go.st (fun _ kont => XS.iload X23.here hx rfl (hb hby at_52) rfl kont) ?_
        show Go p e s below _ _ _ T23 (mkF m 54 #[.val (.int p0), .val (.int p1), .val (.int (0 : Int32)), .val (.int (1 : Int32)), .val (.int (1 : Int32))] [(.int (1 : Int32)), (.int (1 : Int32))])
        refine Go.st (fun _ kont => XS.icmpNo X23.here hx rfl (hb hby at_54) rfl (teq rfl).2 kont) ?_
        show Go p e s below _ _ _ T23 (mkF m 57 #[.val (.int p0), .val (.int p1), .val (.int (0 : Int32)), .val (.int (1 : Int32)), .val (.int (1 : Int32))] [])
        refine Go.st (fun _ kont => XT.iconstV X23.here hx rfl (1 : Int32) (hb hby at_57) (by decide) kont) ?_
        show Go p e s below _ _ _ T23 (mkF m 58 #[.val (.int p0), .val (.int p1), .val (.int (0 : Int32)), .val (.int (1 : Int32)), .val (.int (1 : Int32))] [(.int (1 : Int32))])
        refine Go.st (fun _ kont => XS.goto X23.here hx rfl (pc0 := 58) (pc' := 62) rfl (hb hby at_58) (by decide) (by decide) kont) ?_
        show Go p e s below _ _ _ T23 (mkF m 62 #[.val (.int p0), .val (.int p1), .val (.int (0 : Int32)), .val (.int (1 : Int32)), .val (.int (1 : Int32))] [(.int (1 : Int32))])
        exact Go.retN X23 hx hlk hret (by simp) (hb hby at_62) (by decide) (by decide) ⟨rfl, M23⟩
      · --
        show Go p e s below _ _ _ s₁ (mkF m 26 #[.val (.int p0), .val (.int p1), .val (.int (1 : Int32)), .val (.int (1 : Int32)), .unset] [])
        refine Go.st (fun _ kont => XS.iloadN X0.here hx rfl (hb hby at_26) rfl kont) ?_
        show Go p e s below _ _ _ s₁ (mkF m 27 #[.val (.int p0), .val (.int p1), .val (.int (1 : Int32)), .val (.int (1 : Int32)), .unset] [(.int (1 : Int32))])
        refine Go.callS (W := 0) (argsL := [(.int (1 : Int32))]) (rest := []) X0 hx hZ hown (y := (⟨"com/example/keyfold/keyfold/sql/OperatorHoldsPinLaw", "admits", "(I)I"⟩ : MethodName)) (hw _ (List.mem_of_getElem? (i := 1) rfl)) (hw _ (List.mem_of_getElem? (i := 2) rfl)) (hw _ (List.mem_of_getElem? (i := 3) rfl)) (hw _ (List.mem_of_getElem? (i := 4) rfl)) (rma l Z a0 hw [] (1 : Int32) (5 : Int32) h0 n0 (by decide)) e0 (by decide) (by decide) (by decide) (by decide) (by decide) (by rw [hml]; rfl) (lenOf pd__I_I rfl) (Nat.le_of_eq rfl) (hb hby at_27) ?_
        intro T24 v24 L24 X24 hQ24
        obtain ⟨rfl, N24, E24⟩ := hQ24
        have M24 := Fr.app N0 N24
        show Go p e s below _ _ _ T24 (mkF m 30 #[.val (.int p0), .val (.int p1), .val (.int (1 : Int32)), .val (.int (1 : Int32)), .unset] [(.int (5 : Int32))])
        refine Go.st (fun _ kont => XS.iloadN X24.here hx rfl (hb hby at_30) rfl kont) ?_
        show Go p e s below _ _ _ T24 (mkF m 31 #[.val (.int p0), .val (.int p1), .val (.int (1 : Int32)), .val (.int (1 : Int32)), .unset] [(.int (1 : Int32)), (.int (5 : Int32))])
        refine Go.st (fun _ kont => XS.ishr X24.here hx rfl (hb hby at_31) rfl kont) ?_
        show Go p e s below _ _ _ T24 (mkF m 32 #[.val (.int p0), .val (.int p1), .val (.int (1 : Int32)), .val (.int (1 : Int32)), .unset] [(.int ((5 : Int32) >>> ((1 : Int32) &&& 31)))])
        refine Go.st (fun _ kont => XT.iconstV X24.here hx rfl (1 : Int32) (hb hby at_32) (by decide) kont) ?_
        show Go p e s below _ _ _ T24 (mkF m 33 #[.val (.int p0), .val (.int p1), .val (.int (1 : Int32)), .val (.int (1 : Int32)), .unset] [(.int (1 : Int32)), (.int ((5 : Int32) >>> ((1 : Int32) &&& 31)))])
        refine Go.st (fun _ kont => XS.iand X24.here hx rfl (hb hby at_33) rfl kont) ?_
        show Go p e s below _ _ _ T24 (mkF m 34 #[.val (.int p0), .val (.int p1), .val (.int (1 : Int32)), .val (.int (1 : Int32)), .unset] [(.int (((5 : Int32) >>> ((1 : Int32) &&& 31)) &&& (1 : Int32)))])
        refine Go.st (fun _ kont => XS.ifYes X24.here hx rfl (pc0 := 34) (pc' := 41) rfl (hb hby at_34) rfl ((if0 _ _).trans (teq (by decide : ((((5 : Int32) >>> ((1 : Int32) &&& 31)) &&& (1 : Int32)) = (0 : Int32)))).1) (by decide) (by decide) kont) ?_
        show Go p e s below _ _ _ T24 (mkF m 41 #[.val (.int p0), .val (.int p1), .val (.int (1 : Int32)), .val (.int (1 : Int32)), .unset] [])
        refine Go.st (fun _ kont => XT.iconstV X24.here hx rfl (0 : Int32) (hb hby at_41) (by decide) kont) ?_
        show Go p e s below _ _ _ T24 (mkF m 42 #[.val (.int p0), .val (.int p1), .val (.int (1 : Int32)), .val (.int (1 : Int32)), .unset] [(.int (0 : Int32))])
        refine Go.st (fun _ kont => XS.istore X24.here hx rfl (hb hby at_42) rfl (l' := #[.val (.int p0), .val (.int p1), .val (.int (1 : Int32)), .val (.int (1 : Int32)), .val (.int (0 : Int32))]) rfl kont) ?_
        show Go p e s below _ _ _ T24 (mkF m 44 #[.val (.int p0), .val (.int p1), .val (.int (1 : Int32)), .val (.int (1 : Int32)), .val (.int (0 : Int32))] [])
        refine Go.st (fun _ kont => XS.iloadN X24.here hx rfl (hb hby at_44) rfl kont) ?_
        show Go p e s below _ _ _ T24 (mkF m 45 #[.val (.int p0), .val (.int p1), .val (.int (1 : Int32)), .val (.int (1 : Int32)), .val (.int (0 : Int32))] [(.int (1 : Int32))])
        refine Go.callS (W := 0) (argsL := [(.int (1 : Int32))]) (rest := []) X24 hx hZ hown (y := (⟨"com/example/keyfold/keyfold/sql/OperatorHoldsPinLaw", "op", "(I)Lcom/example/keyfold/keyfold/sql/Condition$Operator;"⟩ : MethodName)) (hw _ (List.mem_of_getElem? (i := 5) rfl)) (hw _ (List.mem_of_getElem? (i := 6) rfl)) (hw _ (List.mem_of_getElem? (i := 3) rfl)) (hw _ (List.mem_of_getElem? (i := 7) rfl)) (rmo l Z a0 hw [] (1 : Int32) 1 h0 n0 r C0 (by decide)) E24 (by decide) (by decide) (by decide) (by decide) (by decide) (by rw [hml]; rfl) (lenOf pd__I_Lcom_example_keyfold_keyfold_sql_Condition_Operator_ rfl) (Nat.le_of_eq rfl) (hb hby at_45) ?_
        intro T25 v25 L25 X25 hQ25
        obtain ⟨rfl, N25, E25⟩ := hQ25
        have M25 := Fr.app M24 N25
        show Go p e s below _ _ _ T25 (mkF m 48 #[.val (.int p0), .val (.int p1), .val (.int (1 : Int32)), .val (.int (1 : Int32)), .val (.int (0 : Int32))] [(.ref (r 1))])
        refine Go.st (fun _ kont => XS.iloadN X25.here hx rfl (hb hby at_48) rfl kont) ?_
        show Go p e s below _ _ _ T25 (mkF m 49 #[.val (.int p0), .val (.int p1), .val (.int (1 : Int32)), .val (.int (1 : Int32)), .val (.int (0 : Int32))] [(.int p1), (.ref (r 1))])
        refine Go.callV (b := (r 1)) (W := 0) (argsL := [(.int p1)]) (rest := []) X25 hx hZ hown (y := (⟨"com/example/keyfold/keyfold/sql/Condition$Operator", "holds", "(I)Z"⟩ : MethodName)) (z := (⟨"com/example/keyfold/keyfold/sql/Condition$Operator", "holds", "(I)Z"⟩ : MethodName)) (hw _ (List.mem_of_getElem? (i := 11) rfl)) (hw _ (List.mem_of_getElem? (i := 12) rfl)) (notFace_of_selects (args := #[]) (mvT hZ (hw _ (List.mem_of_getElem? (i := 14) rfl)))) (hw _ (List.mem_of_getElem? (i := 14) rfl)) (hw _ (List.mem_of_getElem? (i := 13) rfl)) (hw _ (List.mem_of_getElem? (i := 9) rfl)) (hw _ (List.mem_of_getElem? (i := 15) rfl)) (rmh l Z a0 hw [] (r 1) p1 (0 : Int32) (1 : Int32) h0 n0 (C0 1 "NOT_EQUAL" 1 rfl rfl).2.2 (C0 1 "NOT_EQUAL" 1 rfl rfl).2.1 (by decide) ⟨fun q => absurd q (by decide), fun _ => ⟨fun _ => rfl, fun q => absurd hc17_20 q⟩, fun q => absurd q (by decide), fun q => absurd q (by decide), fun q => absurd q (by decide), fun q => absurd q (by decide)⟩) E25 (C0 1 "NOT_EQUAL" 1 rfl rfl).2.1 (by decide) (by decide) (by decide) (by decide) (by decide) (by rw [hml]; rfl) (lenOf pd__I_Z rfl) (Nat.le_of_eq rfl) (hb hby at_49) ?_
        intro T26 v26 L26 X26 hQ26
        obtain ⟨rfl, N26, E26⟩ := hQ26
        have M26 := Fr.app M25 N26
        show Go p e s below _ _ _ T26 (mkF m 52 #[.val (.int p0), .val (.int p1), .val (.int (1 : Int32)), .val (.int (1 : Int32)), .val (.int (0 : Int32))] [(.int (0 : Int32))])
        refine Go.st (fun _ kont => XS.iload X26.here hx rfl (hb hby at_52) rfl kont) ?_
        show Go p e s below _ _ _ T26 (mkF m 54 #[.val (.int p0), .val (.int p1), .val (.int (1 : Int32)), .val (.int (1 : Int32)), .val (.int (0 : Int32))] [(.int (0 : Int32)), (.int (0 : Int32))])
        refine Go.st (fun _ kont => XS.icmpNo X26.here hx rfl (hb hby at_54) rfl (teq rfl).2 kont) ?_
        show Go p e s below _ _ _ T26 (mkF m 57 #[.val (.int p0), .val (.int p1), .val (.int (1 : Int32)), .val (.int (1 : Int32)), .val (.int (0 : Int32))] [])
        refine Go.st (fun _ kont => XT.iconstV X26.here hx rfl (1 : Int32) (hb hby at_57) (by decide) kont) ?_
        show Go p e s below _ _ _ T26 (mkF m 58 #[.val (.int p0), .val (.int p1), .val (.int (1 : Int32)), .val (.int (1 : Int32)), .val (.int (0 : Int32))] [(.int (1 : Int32))])
        refine Go.st (fun _ kont => XS.goto X26.here hx rfl (pc0 := 58) (pc' := 62) rfl (hb hby at_58) (by decide) (by decide) kont) ?_
        show Go p e s below _ _ _ T26 (mkF m 62 #[.val (.int p0), .val (.int p1), .val (.int (1 : Int32)), .val (.int (1 : Int32)), .val (.int (0 : Int32))] [(.int (1 : Int32))])
        exact Go.retN X26 hx hlk hret (by simp) (hb hby at_62) (by decide) (by decide) ⟨rfl, M26⟩
      · --
        show Go p e s below _ _ _ s₁ (mkF m 26 #[.val (.int p0), .val (.int p1), .val (.int (2 : Int32)), .val (.int (1 : Int32)), .unset] [])
        refine Go.st (fun _ kont => XS.iloadN X0.here hx rfl (hb hby at_26) rfl kont) ?_
        show Go p e s below _ _ _ s₁ (mkF m 27 #[.val (.int p0), .val (.int p1), .val (.int (2 : Int32)), .val (.int (1 : Int32)), .unset] [(.int (2 : Int32))])
        refine Go.callS (W := 0) (argsL := [(.int (2 : Int32))]) (rest := []) X0 hx hZ hown (y := (⟨"com/example/keyfold/keyfold/sql/OperatorHoldsPinLaw", "admits", "(I)I"⟩ : MethodName)) (hw _ (List.mem_of_getElem? (i := 1) rfl)) (hw _ (List.mem_of_getElem? (i := 2) rfl)) (hw _ (List.mem_of_getElem? (i := 3) rfl)) (hw _ (List.mem_of_getElem? (i := 4) rfl)) (rma l Z a0 hw [] (2 : Int32) (1 : Int32) h0 n0 (by decide)) e0 (by decide) (by decide) (by decide) (by decide) (by decide) (by rw [hml]; rfl) (lenOf pd__I_I rfl) (Nat.le_of_eq rfl) (hb hby at_27) ?_
        intro T27 v27 L27 X27 hQ27
        obtain ⟨rfl, N27, E27⟩ := hQ27
        have M27 := Fr.app N0 N27
        show Go p e s below _ _ _ T27 (mkF m 30 #[.val (.int p0), .val (.int p1), .val (.int (2 : Int32)), .val (.int (1 : Int32)), .unset] [(.int (1 : Int32))])
        refine Go.st (fun _ kont => XS.iloadN X27.here hx rfl (hb hby at_30) rfl kont) ?_
        show Go p e s below _ _ _ T27 (mkF m 31 #[.val (.int p0), .val (.int p1), .val (.int (2 : Int32)), .val (.int (1 : Int32)), .unset] [(.int (1 : Int32)), (.int (1 : Int32))])
        refine Go.st (fun _ kont => XS.ishr X27.here hx rfl (hb hby at_31) rfl kont) ?_
        show Go p e s below _ _ _ T27 (mkF m 32 #[.val (.int p0), .val (.int p1), .val (.int (2 : Int32)), .val (.int (1 : Int32)), .unset] [(.int ((1 : Int32) >>> ((1 : Int32) &&& 31)))])
        refine Go.st (fun _ kont => XT.iconstV X27.here hx rfl (1 : Int32) (hb hby at_32) (by decide) kont) ?_
        show Go p e s below _ _ _ T27 (mkF m 33 #[.val (.int p0), .val (.int p1), .val (.int (2 : Int32)), .val (.int (1 : Int32)), .unset] [(.int (1 : Int32)), (.int ((1 : Int32) >>> ((1 : Int32) &&& 31)))])
        refine Go.st (fun _ kont => XS.iand X27.here hx rfl (hb hby at_33) rfl kont) ?_
        show Go p e s below _ _ _ T27 (mkF m 34 #[.val (.int p0), .val (.int p1), .val (.int (2 : Int32)), .val (.int (1 : Int32)), .unset] [(.int (((1 : Int32) >>> ((1 : Int32) &&& 31)) &&& (1 : Int32)))])
        refine Go.st (fun _ kont => XS.ifYes X27.here hx rfl (pc0 := 34) (pc' := 41) rfl (hb hby at_34) rfl ((if0 _ _).trans (teq (by decide : ((((1 : Int32) >>> ((1 : Int32) &&& 31)) &&& (1 : Int32)) = (0 : Int32)))).1) (by decide) (by decide) kont) ?_
        show Go p e s below _ _ _ T27 (mkF m 41 #[.val (.int p0), .val (.int p1), .val (.int (2 : Int32)), .val (.int (1 : Int32)), .unset] [])
        refine Go.st (fun _ kont => XT.iconstV X27.here hx rfl (0 : Int32) (hb hby at_41) (by decide) kont) ?_
        show Go p e s below _ _ _ T27 (mkF m 42 #[.val (.int p0), .val (.int p1), .val (.int (2 : Int32)), .val (.int (1 : Int32)), .unset] [(.int (0 : Int32))])
        refine Go.st (fun _ kont => XS.istore X27.here hx rfl (hb hby at_42) rfl (l' := #[.val (.int p0), .val (.int p1), .val (.int (2 : Int32)), .val (.int (1 : Int32)), .val (.int (0 : Int32))]) rfl kont) ?_
        show Go p e s below _ _ _ T27 (mkF m 44 #[.val (.int p0), .val (.int p1), .val (.int (2 : Int32)), .val (.int (1 : Int32)), .val (.int (0 : Int32))] [])
        refine Go.st (fun _ kont => XS.iloadN X27.here hx rfl (hb hby at_44) rfl kont) ?_
        show Go p e s below _ _ _ T27 (mkF m 45 #[.val (.int p0), .val (.int p1), .val (.int (2 : Int32)), .val (.int (1 : Int32)), .val (.int (0 : Int32))] [(.int (2 : Int32))])
        refine Go.callS (W := 0) (argsL := [(.int (2 : Int32))]) (rest := []) X27 hx hZ hown (y := (⟨"com/example/keyfold/keyfold/sql/OperatorHoldsPinLaw", "op", "(I)Lcom/example/keyfold/keyfold/sql/Condition$Operator;"⟩ : MethodName)) (hw _ (List.mem_of_getElem? (i := 5) rfl)) (hw _ (List.mem_of_getElem? (i := 6) rfl)) (hw _ (List.mem_of_getElem? (i := 3) rfl)) (hw _ (List.mem_of_getElem? (i := 7) rfl)) (rmo l Z a0 hw [] (2 : Int32) 2 h0 n0 r C0 (by decide)) E27 (by decide) (by decide) (by decide) (by decide) (by decide) (by rw [hml]; rfl) (lenOf pd__I_Lcom_example_keyfold_keyfold_sql_Condition_Operator_ rfl) (Nat.le_of_eq rfl) (hb hby at_45) ?_
        intro T28 v28 L28 X28 hQ28
        obtain ⟨rfl, N28, E28⟩ := hQ28
        have M28 := Fr.app M27 N28
        show Go p e s below _ _ _ T28 (mkF m 48 #[.val (.int p0), .val (.int p1), .val (.int (2 : Int32)), .val (.int (1 : Int32)), .val (.int (0 : Int32))] [(.ref (r 2))])
        refine Go.st (fun _ kont => XS.iloadN X28.here hx rfl (hb hby at_48) rfl kont) ?_
        show Go p e s below _ _ _ T28 (mkF m 49 #[.val (.int p0), .val (.int p1), .val (.int (2 : Int32)), .val (.int (1 : Int32)), .val (.int (0 : Int32))] [(.int p1), (.ref (r 2))])
        refine Go.callV (b := (r 2)) (W := 0) (argsL := [(.int p1)]) (rest := []) X28 hx hZ hown (y := (⟨"com/example/keyfold/keyfold/sql/Condition$Operator", "holds", "(I)Z"⟩ : MethodName)) (z := (⟨"com/example/keyfold/keyfold/sql/Condition$Operator", "holds", "(I)Z"⟩ : MethodName)) (hw _ (List.mem_of_getElem? (i := 11) rfl)) (hw _ (List.mem_of_getElem? (i := 12) rfl)) (notFace_of_selects (args := #[]) (mvT hZ (hw _ (List.mem_of_getElem? (i := 14) rfl)))) (hw _ (List.mem_of_getElem? (i := 14) rfl)) (hw _ (List.mem_of_getElem? (i := 13) rfl)) (hw _ (List.mem_of_getElem? (i := 9) rfl)) (hw _ (List.mem_of_getElem? (i := 15) rfl)) (rmh l Z a0 hw [] (r 2) p1 (0 : Int32) (2 : Int32) h0 n0 (C0 2 "LESS" 2 rfl rfl).2.2 (C0 2 "LESS" 2 rfl rfl).2.1 (by decide) ⟨fun q => absurd q (by decide), fun q => absurd q (by decide), fun _ => ⟨fun q => absurd q hc9_1, fun _ => rfl⟩, fun q => absurd q (by decide), fun q => absurd q (by decide), fun q => absurd q (by decide)⟩) E28 (C0 2 "LESS" 2 rfl rfl).2.1 (by decide) (by decide) (by decide) (by decide) (by decide) (by rw [hml]; rfl) (lenOf pd__I_Z rfl) (Nat.le_of_eq rfl) (hb hby at_49) ?_
        intro T29 v29 L29 X29 hQ29
        obtain ⟨rfl, N29, E29⟩ := hQ29
        have M29 := Fr.app M28 N29
        show Go p e s below _ _ _ T29 (mkF m 52 #[.val (.int p0), .val (.int p1), .val (.int (2 : Int32)), .val (.int (1 : Int32)), .val (.int (0 : Int32))] [(.int (0 : Int32))])
        refine Go.st (fun _ kont => XS.iload X29.here hx rfl (hb hby at_52) rfl kont) ?_
        show Go p e s below _ _ _ T29 (mkF m 54 #[.val (.int p0), .val (.int p1), .val (.int (2 : Int32)), .val (.int (1 : Int32)), .val (.int (0 : Int32))] [(.int (0 : Int32)), (.int (0 : Int32))])
        refine Go.st (fun _ kont => XS.icmpNo X29.here hx rfl (hb hby at_54) rfl (teq rfl).2 kont) ?_
        show Go p e s below _ _ _ T29 (mkF m 57 #[.val (.int p0), .val (.int p1), .val (.int (2 : Int32)), .val (.int (1 : Int32)), .val (.int (0 : Int32))] [])
        refine Go.st (fun _ kont => XT.iconstV X29.here hx rfl (1 : Int32) (hb hby at_57) (by decide) kont) ?_
        show Go p e s below _ _ _ T29 (mkF m 58 #[.val (.int p0), .val (.int p1), .val (.int (2 : Int32)), .val (.int (1 : Int32)), .val (.int (0 : Int32))] [(.int (1 : Int32))])
        refine Go.st (fun _ kont => XS.goto X29.here hx rfl (pc0 := 58) (pc' := 62) rfl (hb hby at_58) (by decide) (by decide) kont) ?_
        show Go p e s below _ _ _ T29 (mkF m 62 #[.val (.int p0), .val (.int p1), .val (.int (2 : Int32)), .val (.int (1 : Int32)), .val (.int (0 : Int32))] [(.int (1 : Int32))])
        exact Go.retN X29 hx hlk hret (by simp) (hb hby at_62) (by decide) (by decide) ⟨rfl, M29⟩
      · --
        show Go p e s below _ _ _ s₁ (mkF m 26 #[.val (.int p0), .val (.int p1), .val (.int (3 : Int32)), .val (.int (1 : Int32)), .unset] [])
        refine Go.st (fun _ kont => XS.iloadN X0.here hx rfl (hb hby at_26) rfl kont) ?_
        show Go p e s below _ _ _ s₁ (mkF m 27 #[.val (.int p0), .val (.int p1), .val (.int (3 : Int32)), .val (.int (1 : Int32)), .unset] [(.int (3 : Int32))])
        refine Go.callS (W := 0) (argsL := [(.int (3 : Int32))]) (rest := []) X0 hx hZ hown (y := (⟨"com/example/keyfold/keyfold/sql/OperatorHoldsPinLaw", "admits", "(I)I"⟩ : MethodName)) (hw _ (List.mem_of_getElem? (i := 1) rfl)) (hw _ (List.mem_of_getElem? (i := 2) rfl)) (hw _ (List.mem_of_getElem? (i := 3) rfl)) (hw _ (List.mem_of_getElem? (i := 4) rfl)) (rma l Z a0 hw [] (3 : Int32) (3 : Int32) h0 n0 (by decide)) e0 (by decide) (by decide) (by decide) (by decide) (by decide) (by rw [hml]; rfl) (lenOf pd__I_I rfl) (Nat.le_of_eq rfl) (hb hby at_27) ?_
        intro T30 v30 L30 X30 hQ30
        obtain ⟨rfl, N30, E30⟩ := hQ30
        have M30 := Fr.app N0 N30
        show Go p e s below _ _ _ T30 (mkF m 30 #[.val (.int p0), .val (.int p1), .val (.int (3 : Int32)), .val (.int (1 : Int32)), .unset] [(.int (3 : Int32))])
        refine Go.st (fun _ kont => XS.iloadN X30.here hx rfl (hb hby at_30) rfl kont) ?_
        show Go p e s below _ _ _ T30 (mkF m 31 #[.val (.int p0), .val (.int p1), .val (.int (3 : Int32)), .val (.int (1 : Int32)), .unset] [(.int (1 : Int32)), (.int (3 : Int32))])
        refine Go.st (fun _ kont => XS.ishr X30.here hx rfl (hb hby at_31) rfl kont) ?_
        show Go p e s below _ _ _ T30 (mkF m 32 #[.val (.int p0), .val (.int p1), .val (.int (3 : Int32)), .val (.int (1 : Int32)), .unset] [(.int ((3 : Int32) >>> ((1 : Int32) &&& 31)))])
        refine Go.st (fun _ kont => XT.iconstV X30.here hx rfl (1 : Int32) (hb hby at_32) (by decide) kont) ?_
        show Go p e s below _ _ _ T30 (mkF m 33 #[.val (.int p0), .val (.int p1), .val (.int (3 : Int32)), .val (.int (1 : Int32)), .unset] [(.int (1 : Int32)), (.int ((3 : Int32) >>> ((1 : Int32) &&& 31)))])
        refine Go.st (fun _ kont => XS.iand X30.here hx rfl (hb hby at_33) rfl kont) ?_
        show Go p e s below _ _ _ T30 (mkF m 34 #[.val (.int p0), .val (.int p1), .val (.int (3 : Int32)), .val (.int (1 : Int32)), .unset] [(.int (((3 : Int32) >>> ((1 : Int32) &&& 31)) &&& (1 : Int32)))])
        refine Go.st (fun _ kont => XS.ifNo X30.here hx rfl (hb hby at_34) rfl ((if0 _ _).trans (feq (by decide : ¬ ((((3 : Int32) >>> ((1 : Int32) &&& 31)) &&& (1 : Int32)) = (0 : Int32)))).1) kont) ?_
        show Go p e s below _ _ _ T30 (mkF m 37 #[.val (.int p0), .val (.int p1), .val (.int (3 : Int32)), .val (.int (1 : Int32)), .unset] [])
        refine Go.st (fun _ kont => XT.iconstV X30.here hx rfl (1 : Int32) (hb hby at_37) (by decide) kont) ?_
        show Go p e s below _ _ _ T30 (mkF m 38 #[.val (.int p0), .val (.int p1), .val (.int (3 : Int32)), .val (.int (1 : Int32)), .unset] [(.int (1 : Int32))])
        refine Go.st (fun _ kont => XS.goto X30.here hx rfl (pc0 := 38) (pc' := 42) rfl (hb hby at_38) (by decide) (by decide) kont) ?_
        show Go p e s below _ _ _ T30 (mkF m 42 #[.val (.int p0), .val (.int p1), .val (.int (3 : Int32)), .val (.int (1 : Int32)), .unset] [(.int (1 : Int32))])
        refine Go.st (fun _ kont => XS.istore X30.here hx rfl (hb hby at_42) rfl (l' := #[.val (.int p0), .val (.int p1), .val (.int (3 : Int32)), .val (.int (1 : Int32)), .val (.int (1 : Int32))]) rfl kont) ?_
        show Go p e s below _ _ _ T30 (mkF m 44 #[.val (.int p0), .val (.int p1), .val (.int (3 : Int32)), .val (.int (1 : Int32)), .val (.int (1 : Int32))] [])
        refine Go.st (fun _ kont => XS.iloadN X30.here hx rfl (hb hby at_44) rfl kont) ?_
        show Go p e s below _ _ _ T30 (mkF m 45 #[.val (.int p0), .val (.int p1), .val (.int (3 : Int32)), .val (.int (1 : Int32)), .val (.int (1 : Int32))] [(.int (3 : Int32))])
        refine Go.callS (W := 0) (argsL := [(.int (3 : Int32))]) (rest := []) X30 hx hZ hown (y := (⟨"com/example/keyfold/keyfold/sql/OperatorHoldsPinLaw", "op", "(I)Lcom/example/keyfold/keyfold/sql/Condition$Operator;"⟩ : MethodName)) (hw _ (List.mem_of_getElem? (i := 5) rfl)) (hw _ (List.mem_of_getElem? (i := 6) rfl)) (hw _ (List.mem_of_getElem? (i := 3) rfl)) (hw _ (List.mem_of_getElem? (i := 7) rfl)) (rmo l Z a0 hw [] (3 : Int32) 3 h0 n0 r C0 (by decide)) E30 (by decide) (by decide) (by decide) (by decide) (by decide) (by rw [hml]; rfl) (lenOf pd__I_Lcom_example_keyfold_keyfold_sql_Condition_Operator_ rfl) (Nat.le_of_eq rfl) (hb hby at_45) ?_
        intro T31 v31 L31 X31 hQ31
        obtain ⟨rfl, N31, E31⟩ := hQ31
        have M31 := Fr.app M30 N31
        show Go p e s below _ _ _ T31 (mkF m 48 #[.val (.int p0), .val (.int p1), .val (.int (3 : Int32)), .val (.int (1 : Int32)), .val (.int (1 : Int32))] [(.ref (r 3))])
        refine Go.st (fun _ kont => XS.iloadN X31.here hx rfl (hb hby at_48) rfl kont) ?_
        show Go p e s below _ _ _ T31 (mkF m 49 #[.val (.int p0), .val (.int p1), .val (.int (3 : Int32)), .val (.int (1 : Int32)), .val (.int (1 : Int32))] [(.int p1), (.ref (r 3))])
        refine Go.callV (b := (r 3)) (W := 0) (argsL := [(.int p1)]) (rest := []) X31 hx hZ hown (y := (⟨"com/example/keyfold/keyfold/sql/Condition$Operator", "holds", "(I)Z"⟩ : MethodName)) (z := (⟨"com/example/keyfold/keyfold/sql/Condition$Operator", "holds", "(I)Z"⟩ : MethodName)) (hw _ (List.mem_of_getElem? (i := 11) rfl)) (hw _ (List.mem_of_getElem? (i := 12) rfl)) (notFace_of_selects (args := #[]) (mvT hZ (hw _ (List.mem_of_getElem? (i := 14) rfl)))) (hw _ (List.mem_of_getElem? (i := 14) rfl)) (hw _ (List.mem_of_getElem? (i := 13) rfl)) (hw _ (List.mem_of_getElem? (i := 9) rfl)) (hw _ (List.mem_of_getElem? (i := 15) rfl)) (rmh l Z a0 hw [] (r 3) p1 (1 : Int32) (3 : Int32) h0 n0 (C0 3 "LESS_OR_EQUAL" 3 rfl rfl).2.2 (C0 3 "LESS_OR_EQUAL" 3 rfl rfl).2.1 (by decide) ⟨fun q => absurd q (by decide), fun q => absurd q (by decide), fun q => absurd q (by decide), fun _ => ⟨fun q => absurd q s3, fun _ => rfl⟩, fun q => absurd q (by decide), fun q => absurd q (by decide)⟩) E31 (C0 3 "LESS_OR_EQUAL" 3 rfl rfl).2.1 (by decide) (by decide) (by decide) (by decide) (by decide) (by rw [hml]; rfl) (lenOf pd__I_Z rfl) (Nat.le_of_eq rfl) (hb hby at_49) ?_
        intro T32 v32 L32 X32 hQ32
        obtain ⟨rfl, N32, E32⟩ := hQ32
        have M32 := Fr.app M31 N32
        show Go p e s below _ _ _ T32 (mkF m 52 #[.val (.int p0), .val (.int p1), .val (.int (3 : Int32)), .val (.int (1 : Int32)), .val (.int (1 : Int32))] [(.int (1 : Int32))])
        refine Go.st (fun _ kont => XS.iload X32.here hx rfl (hb hby at_52) rfl kont) ?_
        show Go p e s below _ _ _ T32 (mkF m 54 #[.val (.int p0), .val (.int p1), .val (.int (3 : Int32)), .val (.int (1 : Int32)), .val (.int (1 : Int32))] [(.int (1 : Int32)), (.int (1 : Int32))])
        refine Go.st (fun _ kont => XS.icmpNo X32.here hx rfl (hb hby at_54) rfl (teq rfl).2 kont) ?_
        show Go p e s below _ _ _ T32 (mkF m 57 #[.val (.int p0), .val (.int p1), .val (.int (3 : Int32)), .val (.int (1 : Int32)), .val (.int (1 : Int32))] [])
        refine Go.st (fun _ kont => XT.iconstV X32.here hx rfl (1 : Int32) (hb hby at_57) (by decide) kont) ?_
        show Go p e s below _ _ _ T32 (mkF m 58 #[.val (.int p0), .val (.int p1), .val (.int (3 : Int32)), .val (.int (1 : Int32)), .val (.int (1 : Int32))] [(.int (1 : Int32))])
        refine Go.st (fun _ kont => XS.goto X32.here hx rfl (pc0 := 58) (pc' := 62) rfl (hb hby at_58) (by decide) (by decide) kont) ?_
        show Go p e s below _ _ _ T32 (mkF m 62 #[.val (.int p0), .val (.int p1), .val (.int (3 : Int32)), .val (.int (1 : Int32)), .val (.int (1 : Int32))] [(.int (1 : Int32))])
        exact Go.retN X32 hx hlk hret (by simp) (hb hby at_62) (by decide) (by decide) ⟨rfl, M32⟩
      · --
        show Go p e s below _ _ _ s₁ (mkF m 26 #[.val (.int p0), .val (.int p1), .val (.int (4 : Int32)), .val (.int (1 : Int32)), .unset] [])
        refine Go.st (fun _ kont => XS.iloadN X0.here hx rfl (hb hby at_26) rfl kont) ?_
        show Go p e s below _ _ _ s₁ (mkF m 27 #[.val (.int p0), .val (.int p1), .val (.int (4 : Int32)), .val (.int (1 : Int32)), .unset] [(.int (4 : Int32))])
        refine Go.callS (W := 0) (argsL := [(.int (4 : Int32))]) (rest := []) X0 hx hZ hown (y := (⟨"com/example/keyfold/keyfold/sql/OperatorHoldsPinLaw", "admits", "(I)I"⟩ : MethodName)) (hw _ (List.mem_of_getElem? (i := 1) rfl)) (hw _ (List.mem_of_getElem? (i := 2) rfl)) (hw _ (List.mem_of_getElem? (i := 3) rfl)) (hw _ (List.mem_of_getElem? (i := 4) rfl)) (rma l Z a0 hw [] (4 : Int32) (4 : Int32) h0 n0 (by decide)) e0 (by decide) (by decide) (by decide) (by decide) (by decide) (by rw [hml]; rfl) (lenOf pd__I_I rfl) (Nat.le_of_eq rfl) (hb hby at_27) ?_
        intro T33 v33 L33 X33 hQ33
        obtain ⟨rfl, N33, E33⟩ := hQ33
        have M33 := Fr.app N0 N33
        show Go p e s below _ _ _ T33 (mkF m 30 #[.val (.int p0), .val (.int p1), .val (.int (4 : Int32)), .val (.int (1 : Int32)), .unset] [(.int (4 : Int32))])
        refine Go.st (fun _ kont => XS.iloadN X33.here hx rfl (hb hby at_30) rfl kont) ?_
        show Go p e s below _ _ _ T33 (mkF m 31 #[.val (.int p0), .val (.int p1), .val (.int (4 : Int32)), .val (.int (1 : Int32)), .unset] [(.int (1 : Int32)), (.int (4 : Int32))])
        refine Go.st (fun _ kont => XS.ishr X33.here hx rfl (hb hby at_31) rfl kont) ?_
        show Go p e s below _ _ _ T33 (mkF m 32 #[.val (.int p0), .val (.int p1), .val (.int (4 : Int32)), .val (.int (1 : Int32)), .unset] [(.int ((4 : Int32) >>> ((1 : Int32) &&& 31)))])
        refine Go.st (fun _ kont => XT.iconstV X33.here hx rfl (1 : Int32) (hb hby at_32) (by decide) kont) ?_
        show Go p e s below _ _ _ T33 (mkF m 33 #[.val (.int p0), .val (.int p1), .val (.int (4 : Int32)), .val (.int (1 : Int32)), .unset] [(.int (1 : Int32)), (.int ((4 : Int32) >>> ((1 : Int32) &&& 31)))])
        refine Go.st (fun _ kont => XS.iand X33.here hx rfl (hb hby at_33) rfl kont) ?_
        show Go p e s below _ _ _ T33 (mkF m 34 #[.val (.int p0), .val (.int p1), .val (.int (4 : Int32)), .val (.int (1 : Int32)), .unset] [(.int (((4 : Int32) >>> ((1 : Int32) &&& 31)) &&& (1 : Int32)))])
        refine Go.st (fun _ kont => XS.ifYes X33.here hx rfl (pc0 := 34) (pc' := 41) rfl (hb hby at_34) rfl ((if0 _ _).trans (teq (by decide : ((((4 : Int32) >>> ((1 : Int32) &&& 31)) &&& (1 : Int32)) = (0 : Int32)))).1) (by decide) (by decide) kont) ?_
        show Go p e s below _ _ _ T33 (mkF m 41 #[.val (.int p0), .val (.int p1), .val (.int (4 : Int32)), .val (.int (1 : Int32)), .unset] [])
        refine Go.st (fun _ kont => XT.iconstV X33.here hx rfl (0 : Int32) (hb hby at_41) (by decide) kont) ?_
        show Go p e s below _ _ _ T33 (mkF m 42 #[.val (.int p0), .val (.int p1), .val (.int (4 : Int32)), .val (.int (1 : Int32)), .unset] [(.int (0 : Int32))])
        refine Go.st (fun _ kont => XS.istore X33.here hx rfl (hb hby at_42) rfl (l' := #[.val (.int p0), .val (.int p1), .val (.int (4 : Int32)), .val (.int (1 : Int32)), .val (.int (0 : Int32))]) rfl kont) ?_
        show Go p e s below _ _ _ T33 (mkF m 44 #[.val (.int p0), .val (.int p1), .val (.int (4 : Int32)), .val (.int (1 : Int32)), .val (.int (0 : Int32))] [])
        refine Go.st (fun _ kont => XS.iloadN X33.here hx rfl (hb hby at_44) rfl kont) ?_
        show Go p e s below _ _ _ T33 (mkF m 45 #[.val (.int p0), .val (.int p1), .val (.int (4 : Int32)), .val (.int (1 : Int32)), .val (.int (0 : Int32))] [(.int (4 : Int32))])
        refine Go.callS (W := 0) (argsL := [(.int (4 : Int32))]) (rest := []) X33 hx hZ hown (y := (⟨"com/example/keyfold/keyfold/sql/OperatorHoldsPinLaw", "op", "(I)Lcom/example/keyfold/keyfold/sql/Condition$Operator;"⟩ : MethodName)) (hw _ (List.mem_of_getElem? (i := 5) rfl)) (hw _ (List.mem_of_getElem? (i := 6) rfl)) (hw _ (List.mem_of_getElem? (i := 3) rfl)) (hw _ (List.mem_of_getElem? (i := 7) rfl)) (rmo l Z a0 hw [] (4 : Int32) 4 h0 n0 r C0 (by decide)) E33 (by decide) (by decide) (by decide) (by decide) (by decide) (by rw [hml]; rfl) (lenOf pd__I_Lcom_example_keyfold_keyfold_sql_Condition_Operator_ rfl) (Nat.le_of_eq rfl) (hb hby at_45) ?_
        intro T34 v34 L34 X34 hQ34
        obtain ⟨rfl, N34, E34⟩ := hQ34
        have M34 := Fr.app M33 N34
        show Go p e s below _ _ _ T34 (mkF m 48 #[.val (.int p0), .val (.int p1), .val (.int (4 : Int32)), .val (.int (1 : Int32)), .val (.int (0 : Int32))] [(.ref (r 4))])
        refine Go.st (fun _ kont => XS.iloadN X34.here hx rfl (hb hby at_48) rfl kont) ?_
        show Go p e s below _ _ _ T34 (mkF m 49 #[.val (.int p0), .val (.int p1), .val (.int (4 : Int32)), .val (.int (1 : Int32)), .val (.int (0 : Int32))] [(.int p1), (.ref (r 4))])
        refine Go.callV (b := (r 4)) (W := 0) (argsL := [(.int p1)]) (rest := []) X34 hx hZ hown (y := (⟨"com/example/keyfold/keyfold/sql/Condition$Operator", "holds", "(I)Z"⟩ : MethodName)) (z := (⟨"com/example/keyfold/keyfold/sql/Condition$Operator", "holds", "(I)Z"⟩ : MethodName)) (hw _ (List.mem_of_getElem? (i := 11) rfl)) (hw _ (List.mem_of_getElem? (i := 12) rfl)) (notFace_of_selects (args := #[]) (mvT hZ (hw _ (List.mem_of_getElem? (i := 14) rfl)))) (hw _ (List.mem_of_getElem? (i := 14) rfl)) (hw _ (List.mem_of_getElem? (i := 13) rfl)) (hw _ (List.mem_of_getElem? (i := 9) rfl)) (hw _ (List.mem_of_getElem? (i := 15) rfl)) (rmh l Z a0 hw [] (r 4) p1 (0 : Int32) (4 : Int32) h0 n0 (C0 4 "GREATER" 4 rfl rfl).2.2 (C0 4 "GREATER" 4 rfl rfl).2.1 (by decide) ⟨fun q => absurd q (by decide), fun q => absurd q (by decide), fun q => absurd q (by decide), fun q => absurd q (by decide), fun _ => ⟨fun q => absurd q s3, fun _ => rfl⟩, fun q => absurd q (by decide)⟩) E34 (C0 4 "GREATER" 4 rfl rfl).2.1 (by decide) (by decide) (by decide) (by decide) (by decide) (by rw [hml]; rfl) (lenOf pd__I_Z rfl) (Nat.le_of_eq rfl) (hb hby at_49) ?_
        intro T35 v35 L35 X35 hQ35
        obtain ⟨rfl, N35, E35⟩ := hQ35
        have M35 := Fr.app M34 N35
        show Go p e s below _ _ _ T35 (mkF m 52 #[.val (.int p0), .val (.int p1), .val (.int (4 : Int32)), .val (.int (1 : Int32)), .val (.int (0 : Int32))] [(.int (0 : Int32))])
        refine Go.st (fun _ kont => XS.iload X35.here hx rfl (hb hby at_52) rfl kont) ?_
        show Go p e s below _ _ _ T35 (mkF m 54 #[.val (.int p0), .val (.int p1), .val (.int (4 : Int32)), .val (.int (1 : Int32)), .val (.int (0 : Int32))] [(.int (0 : Int32)), (.int (0 : Int32))])
        refine Go.st (fun _ kont => XS.icmpNo X35.here hx rfl (hb hby at_54) rfl (teq rfl).2 kont) ?_
        show Go p e s below _ _ _ T35 (mkF m 57 #[.val (.int p0), .val (.int p1), .val (.int (4 : Int32)), .val (.int (1 : Int32)), .val (.int (0 : Int32))] [])
        refine Go.st (fun _ kont => XT.iconstV X35.here hx rfl (1 : Int32) (hb hby at_57) (by decide) kont) ?_
        show Go p e s below _ _ _ T35 (mkF m 58 #[.val (.int p0), .val (.int p1), .val (.int (4 : Int32)), .val (.int (1 : Int32)), .val (.int (0 : Int32))] [(.int (1 : Int32))])
        refine Go.st (fun _ kont => XS.goto X35.here hx rfl (pc0 := 58) (pc' := 62) rfl (hb hby at_58) (by decide) (by decide) kont) ?_
        show Go p e s below _ _ _ T35 (mkF m 62 #[.val (.int p0), .val (.int p1), .val (.int (4 : Int32)), .val (.int (1 : Int32)), .val (.int (0 : Int32))] [(.int (1 : Int32))])
        exact Go.retN X35 hx hlk hret (by simp) (hb hby at_62) (by decide) (by decide) ⟨rfl, M35⟩
      · --
        show Go p e s below _ _ _ s₁ (mkF m 26 #[.val (.int p0), .val (.int p1), .val (.int (5 : Int32)), .val (.int (1 : Int32)), .unset] [])
        refine Go.st (fun _ kont => XS.iloadN X0.here hx rfl (hb hby at_26) rfl kont) ?_
        show Go p e s below _ _ _ s₁ (mkF m 27 #[.val (.int p0), .val (.int p1), .val (.int (5 : Int32)), .val (.int (1 : Int32)), .unset] [(.int (5 : Int32))])
        refine Go.callS (W := 0) (argsL := [(.int (5 : Int32))]) (rest := []) X0 hx hZ hown (y := (⟨"com/example/keyfold/keyfold/sql/OperatorHoldsPinLaw", "admits", "(I)I"⟩ : MethodName)) (hw _ (List.mem_of_getElem? (i := 1) rfl)) (hw _ (List.mem_of_getElem? (i := 2) rfl)) (hw _ (List.mem_of_getElem? (i := 3) rfl)) (hw _ (List.mem_of_getElem? (i := 4) rfl)) (rma l Z a0 hw [] (5 : Int32) (6 : Int32) h0 n0 (by decide)) e0 (by decide) (by decide) (by decide) (by decide) (by decide) (by rw [hml]; rfl) (lenOf pd__I_I rfl) (Nat.le_of_eq rfl) (hb hby at_27) ?_
        intro T36 v36 L36 X36 hQ36
        obtain ⟨rfl, N36, E36⟩ := hQ36
        have M36 := Fr.app N0 N36
        show Go p e s below _ _ _ T36 (mkF m 30 #[.val (.int p0), .val (.int p1), .val (.int (5 : Int32)), .val (.int (1 : Int32)), .unset] [(.int (6 : Int32))])
        refine Go.st (fun _ kont => XS.iloadN X36.here hx rfl (hb hby at_30) rfl kont) ?_
        show Go p e s below _ _ _ T36 (mkF m 31 #[.val (.int p0), .val (.int p1), .val (.int (5 : Int32)), .val (.int (1 : Int32)), .unset] [(.int (1 : Int32)), (.int (6 : Int32))])
        refine Go.st (fun _ kont => XS.ishr X36.here hx rfl (hb hby at_31) rfl kont) ?_
        show Go p e s below _ _ _ T36 (mkF m 32 #[.val (.int p0), .val (.int p1), .val (.int (5 : Int32)), .val (.int (1 : Int32)), .unset] [(.int ((6 : Int32) >>> ((1 : Int32) &&& 31)))])
        refine Go.st (fun _ kont => XT.iconstV X36.here hx rfl (1 : Int32) (hb hby at_32) (by decide) kont) ?_
        show Go p e s below _ _ _ T36 (mkF m 33 #[.val (.int p0), .val (.int p1), .val (.int (5 : Int32)), .val (.int (1 : Int32)), .unset] [(.int (1 : Int32)), (.int ((6 : Int32) >>> ((1 : Int32) &&& 31)))])
        refine Go.st (fun _ kont => XS.iand X36.here hx rfl (hb hby at_33) rfl kont) ?_
        show Go p e s below _ _ _ T36 (mkF m 34 #[.val (.int p0), .val (.int p1), .val (.int (5 : Int32)), .val (.int (1 : Int32)), .unset] [(.int (((6 : Int32) >>> ((1 : Int32) &&& 31)) &&& (1 : Int32)))])
        refine Go.st (fun _ kont => XS.ifNo X36.here hx rfl (hb hby at_34) rfl ((if0 _ _).trans (feq (by decide : ¬ ((((6 : Int32) >>> ((1 : Int32) &&& 31)) &&& (1 : Int32)) = (0 : Int32)))).1) kont) ?_
        show Go p e s below _ _ _ T36 (mkF m 37 #[.val (.int p0), .val (.int p1), .val (.int (5 : Int32)), .val (.int (1 : Int32)), .unset] [])
        refine Go.st (fun _ kont => XT.iconstV X36.here hx rfl (1 : Int32) (hb hby at_37) (by decide) kont) ?_
        show Go p e s below _ _ _ T36 (mkF m 38 #[.val (.int p0), .val (.int p1), .val (.int (5 : Int32)), .val (.int (1 : Int32)), .unset] [(.int (1 : Int32))])
        refine Go.st (fun _ kont => XS.goto X36.here hx rfl (pc0 := 38) (pc' := 42) rfl (hb hby at_38) (by decide) (by decide) kont) ?_
        show Go p e s below _ _ _ T36 (mkF m 42 #[.val (.int p0), .val (.int p1), .val (.int (5 : Int32)), .val (.int (1 : Int32)), .unset] [(.int (1 : Int32))])
        refine Go.st (fun _ kont => XS.istore X36.here hx rfl (hb hby at_42) rfl (l' := #[.val (.int p0), .val (.int p1), .val (.int (5 : Int32)), .val (.int (1 : Int32)), .val (.int (1 : Int32))]) rfl kont) ?_
        show Go p e s below _ _ _ T36 (mkF m 44 #[.val (.int p0), .val (.int p1), .val (.int (5 : Int32)), .val (.int (1 : Int32)), .val (.int (1 : Int32))] [])
        refine Go.st (fun _ kont => XS.iloadN X36.here hx rfl (hb hby at_44) rfl kont) ?_
        show Go p e s below _ _ _ T36 (mkF m 45 #[.val (.int p0), .val (.int p1), .val (.int (5 : Int32)), .val (.int (1 : Int32)), .val (.int (1 : Int32))] [(.int (5 : Int32))])
        refine Go.callS (W := 0) (argsL := [(.int (5 : Int32))]) (rest := []) X36 hx hZ hown (y := (⟨"com/example/keyfold/keyfold/sql/OperatorHoldsPinLaw", "op", "(I)Lcom/example/keyfold/keyfold/sql/Condition$Operator;"⟩ : MethodName)) (hw _ (List.mem_of_getElem? (i := 5) rfl)) (hw _ (List.mem_of_getElem? (i := 6) rfl)) (hw _ (List.mem_of_getElem? (i := 3) rfl)) (hw _ (List.mem_of_getElem? (i := 7) rfl)) (rmo l Z a0 hw [] (5 : Int32) 5 h0 n0 r C0 (by decide)) E36 (by decide) (by decide) (by decide) (by decide) (by decide) (by rw [hml]; rfl) (lenOf pd__I_Lcom_example_keyfold_keyfold_sql_Condition_Operator_ rfl) (Nat.le_of_eq rfl) (hb hby at_45) ?_
        intro T37 v37 L37 X37 hQ37
        obtain ⟨rfl, N37, E37⟩ := hQ37
        have M37 := Fr.app M36 N37
        show Go p e s below _ _ _ T37 (mkF m 48 #[.val (.int p0), .val (.int p1), .val (.int (5 : Int32)), .val (.int (1 : Int32)), .val (.int (1 : Int32))] [(.ref (r 5))])
        refine Go.st (fun _ kont => XS.iloadN X37.here hx rfl (hb hby at_48) rfl kont) ?_
        show Go p e s below _ _ _ T37 (mkF m 49 #[.val (.int p0), .val (.int p1), .val (.int (5 : Int32)), .val (.int (1 : Int32)), .val (.int (1 : Int32))] [(.int p1), (.ref (r 5))])
        refine Go.callV (b := (r 5)) (W := 0) (argsL := [(.int p1)]) (rest := []) X37 hx hZ hown (y := (⟨"com/example/keyfold/keyfold/sql/Condition$Operator", "holds", "(I)Z"⟩ : MethodName)) (z := (⟨"com/example/keyfold/keyfold/sql/Condition$Operator", "holds", "(I)Z"⟩ : MethodName)) (hw _ (List.mem_of_getElem? (i := 11) rfl)) (hw _ (List.mem_of_getElem? (i := 12) rfl)) (notFace_of_selects (args := #[]) (mvT hZ (hw _ (List.mem_of_getElem? (i := 14) rfl)))) (hw _ (List.mem_of_getElem? (i := 14) rfl)) (hw _ (List.mem_of_getElem? (i := 13) rfl)) (hw _ (List.mem_of_getElem? (i := 9) rfl)) (hw _ (List.mem_of_getElem? (i := 15) rfl)) (rmh l Z a0 hw [] (r 5) p1 (1 : Int32) (5 : Int32) h0 n0 (C0 5 "GREATER_OR_EQUAL" 5 rfl rfl).2.2 (C0 5 "GREATER_OR_EQUAL" 5 rfl rfl).2.1 (by decide) ⟨fun q => absurd q (by decide), fun q => absurd q (by decide), fun q => absurd q (by decide), fun q => absurd q (by decide), fun q => absurd q (by decide), fun _ => ⟨fun q => absurd q hc9_1, fun _ => rfl⟩⟩) E37 (C0 5 "GREATER_OR_EQUAL" 5 rfl rfl).2.1 (by decide) (by decide) (by decide) (by decide) (by decide) (by rw [hml]; rfl) (lenOf pd__I_Z rfl) (Nat.le_of_eq rfl) (hb hby at_49) ?_
        intro T38 v38 L38 X38 hQ38
        obtain ⟨rfl, N38, E38⟩ := hQ38
        have M38 := Fr.app M37 N38
        show Go p e s below _ _ _ T38 (mkF m 52 #[.val (.int p0), .val (.int p1), .val (.int (5 : Int32)), .val (.int (1 : Int32)), .val (.int (1 : Int32))] [(.int (1 : Int32))])
        refine Go.st (fun _ kont => XS.iload X38.here hx rfl (hb hby at_52) rfl kont) ?_
        show Go p e s below _ _ _ T38 (mkF m 54 #[.val (.int p0), .val (.int p1), .val (.int (5 : Int32)), .val (.int (1 : Int32)), .val (.int (1 : Int32))] [(.int (1 : Int32)), (.int (1 : Int32))])
        refine Go.st (fun _ kont => XS.icmpNo X38.here hx rfl (hb hby at_54) rfl (teq rfl).2 kont) ?_
        show Go p e s below _ _ _ T38 (mkF m 57 #[.val (.int p0), .val (.int p1), .val (.int (5 : Int32)), .val (.int (1 : Int32)), .val (.int (1 : Int32))] [])
        refine Go.st (fun _ kont => XT.iconstV X38.here hx rfl (1 : Int32) (hb hby at_57) (by decide) kont) ?_
        show Go p e s below _ _ _ T38 (mkF m 58 #[.val (.int p0), .val (.int p1), .val (.int (5 : Int32)), .val (.int (1 : Int32)), .val (.int (1 : Int32))] [(.int (1 : Int32))])
        refine Go.st (fun _ kont => XS.goto X38.here hx rfl (pc0 := 58) (pc' := 62) rfl (hb hby at_58) (by decide) (by decide) kont) ?_
        show Go p e s below _ _ _ T38 (mkF m 62 #[.val (.int p0), .val (.int p1), .val (.int (5 : Int32)), .val (.int (1 : Int32)), .val (.int (1 : Int32))] [(.int (1 : Int32))])
        exact Go.retN X38 hx hlk hret (by simp) (hb hby at_62) (by decide) (by decide) ⟨rfl, M38⟩
    · --
      refine Go.st (fun _ kont => XS.ifYes X0.here hx rfl (pc0 := 17) (pc' := 24) rfl (hb hby at_17) rfl ((if0 _ _).trans (feq hc17_20).2) (by decide) (by decide) kont) ?_
      show Go p e s below _ _ _ s₁ (mkF m 24 #[.val (.int p0), .val (.int p1), .val (.int i), .unset, .unset] [])
      refine Go.st (fun _ kont => XT.iconstV X0.here hx rfl (2 : Int32) (hb hby at_24) (by decide) kont) ?_
      show Go p e s below _ _ _ s₁ (mkF m 25 #[.val (.int p0), .val (.int p1), .val (.int i), .unset, .unset] [(.int (2 : Int32))])
      refine Go.st (fun _ kont => XS.istoreN X0.here hx rfl (hb hby at_25) rfl (l' := #[.val (.int p0), .val (.int p1), .val (.int i), .val (.int (2 : Int32)), .unset]) rfl kont) ?_
      show Go p e s below _ _ _ s₁ (mkF m 26 #[.val (.int p0), .val (.int p1), .val (.int i), .val (.int (2 : Int32)), .unset] [])
      have s3 : 0 < p1 := own_pos hc9_1 hc17_20
      rcases hi6 with rfl | rfl | rfl | rfl | rfl | rfl
      · --
        show Go p e s below _ _ _ s₁ (mkF m 26 #[.val (.int p0), .val (.int p1), .val (.int (0 : Int32)), .val (.int (2 : Int32)), .unset] [])
        refine Go.st (fun _ kont => XS.iloadN X0.here hx rfl (hb hby at_26) rfl kont) ?_
        show Go p e s below _ _ _ s₁ (mkF m 27 #[.val (.int p0), .val (.int p1), .val (.int (0 : Int32)), .val (.int (2 : Int32)), .unset] [(.int (0 : Int32))])
        refine Go.callS (W := 0) (argsL := [(.int (0 : Int32))]) (rest := []) X0 hx hZ hown (y := (⟨"com/example/keyfold/keyfold/sql/OperatorHoldsPinLaw", "admits", "(I)I"⟩ : MethodName)) (hw _ (List.mem_of_getElem? (i := 1) rfl)) (hw _ (List.mem_of_getElem? (i := 2) rfl)) (hw _ (List.mem_of_getElem? (i := 3) rfl)) (hw _ (List.mem_of_getElem? (i := 4) rfl)) (rma l Z a0 hw [] (0 : Int32) (2 : Int32) h0 n0 (by decide)) e0 (by decide) (by decide) (by decide) (by decide) (by decide) (by rw [hml]; rfl) (lenOf pd__I_I rfl) (Nat.le_of_eq rfl) (hb hby at_27) ?_
        intro T39 v39 L39 X39 hQ39
        obtain ⟨rfl, N39, E39⟩ := hQ39
        have M39 := Fr.app N0 N39
        show Go p e s below _ _ _ T39 (mkF m 30 #[.val (.int p0), .val (.int p1), .val (.int (0 : Int32)), .val (.int (2 : Int32)), .unset] [(.int (2 : Int32))])
        refine Go.st (fun _ kont => XS.iloadN X39.here hx rfl (hb hby at_30) rfl kont) ?_
        show Go p e s below _ _ _ T39 (mkF m 31 #[.val (.int p0), .val (.int p1), .val (.int (0 : Int32)), .val (.int (2 : Int32)), .unset] [(.int (2 : Int32)), (.int (2 : Int32))])
        refine Go.st (fun _ kont => XS.ishr X39.here hx rfl (hb hby at_31) rfl kont) ?_
        show Go p e s below _ _ _ T39 (mkF m 32 #[.val (.int p0), .val (.int p1), .val (.int (0 : Int32)), .val (.int (2 : Int32)), .unset] [(.int ((2 : Int32) >>> ((2 : Int32) &&& 31)))])
        refine Go.st (fun _ kont => XT.iconstV X39.here hx rfl (1 : Int32) (hb hby at_32) (by decide) kont) ?_
        show Go p e s below _ _ _ T39 (mkF m 33 #[.val (.int p0), .val (.int p1), .val (.int (0 : Int32)), .val (.int (2 : Int32)), .unset] [(.int (1 : Int32)), (.int ((2 : Int32) >>> ((2 : Int32) &&& 31)))])
        refine Go.st (fun _ kont => XS.iand X39.here hx rfl (hb hby at_33) rfl kont) ?_
        show Go p e s below _ _ _ T39 (mkF m 34 #[.val (.int p0), .val (.int p1), .val (.int (0 : Int32)), .val (.int (2 : Int32)), .unset] [(.int (((2 : Int32) >>> ((2 : Int32) &&& 31)) &&& (1 : Int32)))])
        refine Go.st (fun _ kont => XS.ifYes X39.here hx rfl (pc0 := 34) (pc' := 41) rfl (hb hby at_34) rfl ((if0 _ _).trans (teq (by decide : ((((2 : Int32) >>> ((2 : Int32) &&& 31)) &&& (1 : Int32)) = (0 : Int32)))).1) (by decide) (by decide) kont) ?_
        show Go p e s below _ _ _ T39 (mkF m 41 #[.val (.int p0), .val (.int p1), .val (.int (0 : Int32)), .val (.int (2 : Int32)), .unset] [])
        refine Go.st (fun _ kont => XT.iconstV X39.here hx rfl (0 : Int32) (hb hby at_41) (by decide) kont) ?_
        show Go p e s below _ _ _ T39 (mkF m 42 #[.val (.int p0), .val (.int p1), .val (.int (0 : Int32)), .val (.int (2 : Int32)), .unset] [(.int (0 : Int32))])
        refine Go.st (fun _ kont => XS.istore X39.here hx rfl (hb hby at_42) rfl (l' := #[.val (.int p0), .val (.int p1), .val (.int (0 : Int32)), .val (.int (2 : Int32)), .val (.int (0 : Int32))]) rfl kont) ?_
        show Go p e s below _ _ _ T39 (mkF m 44 #[.val (.int p0), .val (.int p1), .val (.int (0 : Int32)), .val (.int (2 : Int32)), .val (.int (0 : Int32))] [])
        refine Go.st (fun _ kont => XS.iloadN X39.here hx rfl (hb hby at_44) rfl kont) ?_
        show Go p e s below _ _ _ T39 (mkF m 45 #[.val (.int p0), .val (.int p1), .val (.int (0 : Int32)), .val (.int (2 : Int32)), .val (.int (0 : Int32))] [(.int (0 : Int32))])
        refine Go.callS (W := 0) (argsL := [(.int (0 : Int32))]) (rest := []) X39 hx hZ hown (y := (⟨"com/example/keyfold/keyfold/sql/OperatorHoldsPinLaw", "op", "(I)Lcom/example/keyfold/keyfold/sql/Condition$Operator;"⟩ : MethodName)) (hw _ (List.mem_of_getElem? (i := 5) rfl)) (hw _ (List.mem_of_getElem? (i := 6) rfl)) (hw _ (List.mem_of_getElem? (i := 3) rfl)) (hw _ (List.mem_of_getElem? (i := 7) rfl)) (rmo l Z a0 hw [] (0 : Int32) 0 h0 n0 r C0 (by decide)) E39 (by decide) (by decide) (by decide) (by decide) (by decide) (by rw [hml]; rfl) (lenOf pd__I_Lcom_example_keyfold_keyfold_sql_Condition_Operator_ rfl) (Nat.le_of_eq rfl) (hb hby at_45) ?_
        intro T40 v40 L40 X40 hQ40
        obtain ⟨rfl, N40, E40⟩ := hQ40
        have M40 := Fr.app M39 N40
        show Go p e s below _ _ _ T40 (mkF m 48 #[.val (.int p0), .val (.int p1), .val (.int (0 : Int32)), .val (.int (2 : Int32)), .val (.int (0 : Int32))] [(.ref (r 0))])
        refine Go.st (fun _ kont => XS.iloadN X40.here hx rfl (hb hby at_48) rfl kont) ?_
        show Go p e s below _ _ _ T40 (mkF m 49 #[.val (.int p0), .val (.int p1), .val (.int (0 : Int32)), .val (.int (2 : Int32)), .val (.int (0 : Int32))] [(.int p1), (.ref (r 0))])
        refine Go.callV (b := (r 0)) (W := 0) (argsL := [(.int p1)]) (rest := []) X40 hx hZ hown (y := (⟨"com/example/keyfold/keyfold/sql/Condition$Operator", "holds", "(I)Z"⟩ : MethodName)) (z := (⟨"com/example/keyfold/keyfold/sql/Condition$Operator", "holds", "(I)Z"⟩ : MethodName)) (hw _ (List.mem_of_getElem? (i := 11) rfl)) (hw _ (List.mem_of_getElem? (i := 12) rfl)) (notFace_of_selects (args := #[]) (mvT hZ (hw _ (List.mem_of_getElem? (i := 14) rfl)))) (hw _ (List.mem_of_getElem? (i := 14) rfl)) (hw _ (List.mem_of_getElem? (i := 13) rfl)) (hw _ (List.mem_of_getElem? (i := 9) rfl)) (hw _ (List.mem_of_getElem? (i := 15) rfl)) (rmh l Z a0 hw [] (r 0) p1 (0 : Int32) (0 : Int32) h0 n0 (C0 0 "EQUAL" 0 rfl rfl).2.2 (C0 0 "EQUAL" 0 rfl rfl).2.1 (by decide) ⟨fun _ => ⟨fun q => absurd q hc17_20, fun _ => rfl⟩, fun q => absurd q (by decide), fun q => absurd q (by decide), fun q => absurd q (by decide), fun q => absurd q (by decide), fun q => absurd q (by decide)⟩) E40 (C0 0 "EQUAL" 0 rfl rfl).2.1 (by decide) (by decide) (by decide) (by decide) (by decide) (by rw [hml]; rfl) (lenOf pd__I_Z rfl) (Nat.le_of_eq rfl) (hb hby at_49) ?_
        intro T41 v41 L41 X41 hQ41
        obtain ⟨rfl, N41, E41⟩ := hQ41
        have M41 := Fr.app M40 N41
        show Go p e s below _ _ _ T41 (mkF m 52 #[.val (.int p0), .val (.int p1), .val (.int (0 : Int32)), .val (.int (2 : Int32)), .val (.int (0 : Int32))] [(.int (0 : Int32))])
        refine Go.st (fun _ kont => XS.iload X41.here hx rfl (hb hby at_52) rfl kont) ?_
        show Go p e s below _ _ _ T41 (mkF m 54 #[.val (.int p0), .val (.int p1), .val (.int (0 : Int32)), .val (.int (2 : Int32)), .val (.int (0 : Int32))] [(.int (0 : Int32)), (.int (0 : Int32))])
        refine Go.st (fun _ kont => XS.icmpNo X41.here hx rfl (hb hby at_54) rfl (teq rfl).2 kont) ?_
        show Go p e s below _ _ _ T41 (mkF m 57 #[.val (.int p0), .val (.int p1), .val (.int (0 : Int32)), .val (.int (2 : Int32)), .val (.int (0 : Int32))] [])
        refine Go.st (fun _ kont => XT.iconstV X41.here hx rfl (1 : Int32) (hb hby at_57) (by decide) kont) ?_
        show Go p e s below _ _ _ T41 (mkF m 58 #[.val (.int p0), .val (.int p1), .val (.int (0 : Int32)), .val (.int (2 : Int32)), .val (.int (0 : Int32))] [(.int (1 : Int32))])
        refine Go.st (fun _ kont => XS.goto X41.here hx rfl (pc0 := 58) (pc' := 62) rfl (hb hby at_58) (by decide) (by decide) kont) ?_
        show Go p e s below _ _ _ T41 (mkF m 62 #[.val (.int p0), .val (.int p1), .val (.int (0 : Int32)), .val (.int (2 : Int32)), .val (.int (0 : Int32))] [(.int (1 : Int32))])
        exact Go.retN X41 hx hlk hret (by simp) (hb hby at_62) (by decide) (by decide) ⟨rfl, M41⟩
      · --
        show Go p e s below _ _ _ s₁ (mkF m 26 #[.val (.int p0), .val (.int p1), .val (.int (1 : Int32)), .val (.int (2 : Int32)), .unset] [])
        refine Go.st (fun _ kont => XS.iloadN X0.here hx rfl (hb hby at_26) rfl kont) ?_
        show Go p e s below _ _ _ s₁ (mkF m 27 #[.val (.int p0), .val (.int p1), .val (.int (1 : Int32)), .val (.int (2 : Int32)), .unset] [(.int (1 : Int32))])
        refine Go.callS (W := 0) (argsL := [(.int (1 : Int32))]) (rest := []) X0 hx hZ hown (y := (⟨"com/example/keyfold/keyfold/sql/OperatorHoldsPinLaw", "admits", "(I)I"⟩ : MethodName)) (hw _ (List.mem_of_getElem? (i := 1) rfl)) (hw _ (List.mem_of_getElem? (i := 2) rfl)) (hw _ (List.mem_of_getElem? (i := 3) rfl)) (hw _ (List.mem_of_getElem? (i := 4) rfl)) (rma l Z a0 hw [] (1 : Int32) (5 : Int32) h0 n0 (by decide)) e0 (by decide) (by decide) (by decide) (by decide) (by decide) (by rw [hml]; rfl) (lenOf pd__I_I rfl) (Nat.le_of_eq rfl) (hb hby at_27) ?_
        intro T42 v42 L42 X42 hQ42
        obtain ⟨rfl, N42, E42⟩ := hQ42
        have M42 := Fr.app N0 N42
        show Go p e s below _ _ _ T42 (mkF m 30 #[.val (.int p0), .val (.int p1), .val (.int (1 : Int32)), .val (.int (2 : Int32)), .unset] [(.int (5 : Int32))])
        refine Go.st (fun _ kont => XS.iloadN X42.here hx rfl (hb hby at_30) rfl kont) ?_
        show Go p e s below _ _ _ T42 (mkF m 31 #[.val (.int p0), .val (.int p1), .val (.int (1 : Int32)), .val (.int (2 : Int32)), .unset] [(.int (2 : Int32)), (.int (5 : Int32))])
        refine Go.st (fun _ kont => XS.ishr X42.here hx rfl (hb hby at_31) rfl kont) ?_
        show Go p e s below _ _ _ T42 (mkF m 32 #[.val (.int p0), .val (.int p1), .val (.int (1 : Int32)), .val (.int (2 : Int32)), .unset] [(.int ((5 : Int32) >>> ((2 : Int32) &&& 31)))])
        refine Go.st (fun _ kont => XT.iconstV X42.here hx rfl (1 : Int32) (hb hby at_32) (by decide) kont) ?_
        show Go p e s below _ _ _ T42 (mkF m 33 #[.val (.int p0), .val (.int p1), .val (.int (1 : Int32)), .val (.int (2 : Int32)), .unset] [(.int (1 : Int32)), (.int ((5 : Int32) >>> ((2 : Int32) &&& 31)))])
        refine Go.st (fun _ kont => XS.iand X42.here hx rfl (hb hby at_33) rfl kont) ?_
        show Go p e s below _ _ _ T42 (mkF m 34 #[.val (.int p0), .val (.int p1), .val (.int (1 : Int32)), .val (.int (2 : Int32)), .unset] [(.int (((5 : Int32) >>> ((2 : Int32) &&& 31)) &&& (1 : Int32)))])
        refine Go.st (fun _ kont => XS.ifNo X42.here hx rfl (hb hby at_34) rfl ((if0 _ _).trans (feq (by decide : ¬ ((((5 : Int32) >>> ((2 : Int32) &&& 31)) &&& (1 : Int32)) = (0 : Int32)))).1) kont) ?_
        show Go p e s below _ _ _ T42 (mkF m 37 #[.val (.int p0), .val (.int p1), .val (.int (1 : Int32)), .val (.int (2 : Int32)), .unset] [])
        refine Go.st (fun _ kont => XT.iconstV X42.here hx rfl (1 : Int32) (hb hby at_37) (by decide) kont) ?_
        show Go p e s below _ _ _ T42 (mkF m 38 #[.val (.int p0), .val (.int p1), .val (.int (1 : Int32)), .val (.int (2 : Int32)), .unset] [(.int (1 : Int32))])
        refine Go.st (fun _ kont => XS.goto X42.here hx rfl (pc0 := 38) (pc' := 42) rfl (hb hby at_38) (by decide) (by decide) kont) ?_
        show Go p e s below _ _ _ T42 (mkF m 42 #[.val (.int p0), .val (.int p1), .val (.int (1 : Int32)), .val (.int (2 : Int32)), .unset] [(.int (1 : Int32))])
        refine Go.st (fun _ kont => XS.istore X42.here hx rfl (hb hby at_42) rfl (l' := #[.val (.int p0), .val (.int p1), .val (.int (1 : Int32)), .val (.int (2 : Int32)), .val (.int (1 : Int32))]) rfl kont) ?_
        show Go p e s below _ _ _ T42 (mkF m 44 #[.val (.int p0), .val (.int p1), .val (.int (1 : Int32)), .val (.int (2 : Int32)), .val (.int (1 : Int32))] [])
        refine Go.st (fun _ kont => XS.iloadN X42.here hx rfl (hb hby at_44) rfl kont) ?_
        show Go p e s below _ _ _ T42 (mkF m 45 #[.val (.int p0), .val (.int p1), .val (.int (1 : Int32)), .val (.int (2 : Int32)), .val (.int (1 : Int32))] [(.int (1 : Int32))])
        refine Go.callS (W := 0) (argsL := [(.int (1 : Int32))]) (rest := []) X42 hx hZ hown (y := (⟨"com/example/keyfold/keyfold/sql/OperatorHoldsPinLaw", "op", "(I)Lcom/example/keyfold/keyfold/sql/Condition$Operator;"⟩ : MethodName)) (hw _ (List.mem_of_getElem? (i := 5) rfl)) (hw _ (List.mem_of_getElem? (i := 6) rfl)) (hw _ (List.mem_of_getElem? (i := 3) rfl)) (hw _ (List.mem_of_getElem? (i := 7) rfl)) (rmo l Z a0 hw [] (1 : Int32) 1 h0 n0 r C0 (by decide)) E42 (by decide) (by decide) (by decide) (by decide) (by decide) (by rw [hml]; rfl) (lenOf pd__I_Lcom_example_keyfold_keyfold_sql_Condition_Operator_ rfl) (Nat.le_of_eq rfl) (hb hby at_45) ?_
        intro T43 v43 L43 X43 hQ43
        obtain ⟨rfl, N43, E43⟩ := hQ43
        have M43 := Fr.app M42 N43
        show Go p e s below _ _ _ T43 (mkF m 48 #[.val (.int p0), .val (.int p1), .val (.int (1 : Int32)), .val (.int (2 : Int32)), .val (.int (1 : Int32))] [(.ref (r 1))])
        refine Go.st (fun _ kont => XS.iloadN X43.here hx rfl (hb hby at_48) rfl kont) ?_
        show Go p e s below _ _ _ T43 (mkF m 49 #[.val (.int p0), .val (.int p1), .val (.int (1 : Int32)), .val (.int (2 : Int32)), .val (.int (1 : Int32))] [(.int p1), (.ref (r 1))])
        refine Go.callV (b := (r 1)) (W := 0) (argsL := [(.int p1)]) (rest := []) X43 hx hZ hown (y := (⟨"com/example/keyfold/keyfold/sql/Condition$Operator", "holds", "(I)Z"⟩ : MethodName)) (z := (⟨"com/example/keyfold/keyfold/sql/Condition$Operator", "holds", "(I)Z"⟩ : MethodName)) (hw _ (List.mem_of_getElem? (i := 11) rfl)) (hw _ (List.mem_of_getElem? (i := 12) rfl)) (notFace_of_selects (args := #[]) (mvT hZ (hw _ (List.mem_of_getElem? (i := 14) rfl)))) (hw _ (List.mem_of_getElem? (i := 14) rfl)) (hw _ (List.mem_of_getElem? (i := 13) rfl)) (hw _ (List.mem_of_getElem? (i := 9) rfl)) (hw _ (List.mem_of_getElem? (i := 15) rfl)) (rmh l Z a0 hw [] (r 1) p1 (1 : Int32) (1 : Int32) h0 n0 (C0 1 "NOT_EQUAL" 1 rfl rfl).2.2 (C0 1 "NOT_EQUAL" 1 rfl rfl).2.1 (by decide) ⟨fun q => absurd q (by decide), fun _ => ⟨fun q => absurd q hc17_20, fun _ => rfl⟩, fun q => absurd q (by decide), fun q => absurd q (by decide), fun q => absurd q (by decide), fun q => absurd q (by decide)⟩) E43 (C0 1 "NOT_EQUAL" 1 rfl rfl).2.1 (by decide) (by decide) (by decide) (by decide) (by decide) (by rw [hml]; rfl) (lenOf pd__I_Z rfl) (Nat.le_of_eq rfl) (hb hby at_49) ?_
        intro T44 v44 L44 X44 hQ44
        obtain ⟨rfl, N44, E44⟩ := hQ44
        have M44 := Fr.app M43 N44
        show Go p e s below _ _ _ T44 (mkF m 52 #[.val (.int p0), .val (.int p1), .val (.int (1 : Int32)), .val (.int (2 : Int32)), .val (.int (1 : Int32))] [(.int (1 : Int32))])
        refine Go.st (fun _ kont => XS.iload X44.here hx rfl (hb hby at_52) rfl kont) ?_
        show Go p e s below _ _ _ T44 (mkF m 54 #[.val (.int p0), .val (.int p1), .val (.int (1 : Int32)), .val (.int (2 : Int32)), .val (.int (1 : Int32))] [(.int (1 : Int32)), (.int (1 : Int32))])
        refine Go.st (fun _ kont => XS.icmpNo X44.here hx rfl (hb hby at_54) rfl (teq rfl).2 kont) ?_
        show Go p e s below _ _ _ T44 (mkF m 57 #[.val (.int p0), .val (.int p1), .val (.int (1 : Int32)), .val (.int (2 : Int32)), .val (.int (1 : Int32))] [])
        refine Go.st (fun _ kont => XT.iconstV X44.here hx rfl (1 : Int32) (hb hby at_57) (by decide) kont) ?_
        show Go p e s below _ _ _ T44 (mkF m 58 #[.val (.int p0), .val (.int p1), .val (.int (1 : Int32)), .val (.int (2 : Int32)), .val (.int (1 : Int32))] [(.int (1 : Int32))])
        refine Go.st (fun _ kont => XS.goto X44.here hx rfl (pc0 := 58) (pc' := 62) rfl (hb hby at_58) (by decide) (by decide) kont) ?_
        show Go p e s below _ _ _ T44 (mkF m 62 #[.val (.int p0), .val (.int p1), .val (.int (1 : Int32)), .val (.int (2 : Int32)), .val (.int (1 : Int32))] [(.int (1 : Int32))])
        exact Go.retN X44 hx hlk hret (by simp) (hb hby at_62) (by decide) (by decide) ⟨rfl, M44⟩
      · --
        show Go p e s below _ _ _ s₁ (mkF m 26 #[.val (.int p0), .val (.int p1), .val (.int (2 : Int32)), .val (.int (2 : Int32)), .unset] [])
        refine Go.st (fun _ kont => XS.iloadN X0.here hx rfl (hb hby at_26) rfl kont) ?_
        show Go p e s below _ _ _ s₁ (mkF m 27 #[.val (.int p0), .val (.int p1), .val (.int (2 : Int32)), .val (.int (2 : Int32)), .unset] [(.int (2 : Int32))])
        refine Go.callS (W := 0) (argsL := [(.int (2 : Int32))]) (rest := []) X0 hx hZ hown (y := (⟨"com/example/keyfold/keyfold/sql/OperatorHoldsPinLaw", "admits", "(I)I"⟩ : MethodName)) (hw _ (List.mem_of_getElem? (i := 1) rfl)) (hw _ (List.mem_of_getElem? (i := 2) rfl)) (hw _ (List.mem_of_getElem? (i := 3) rfl)) (hw _ (List.mem_of_getElem? (i := 4) rfl)) (rma l Z a0 hw [] (2 : Int32) (1 : Int32) h0 n0 (by decide)) e0 (by decide) (by decide) (by decide) (by decide) (by decide) (by rw [hml]; rfl) (lenOf pd__I_I rfl) (Nat.le_of_eq rfl) (hb hby at_27) ?_
        intro T45 v45 L45 X45 hQ45
        obtain ⟨rfl, N45, E45⟩ := hQ45
        have M45 := Fr.app N0 N45
        show Go p e s below _ _ _ T45 (mkF m 30 #[.val (.int p0), .val (.int p1), .val (.int (2 : Int32)), .val (.int (2 : Int32)), .unset] [(.int (1 : Int32))])
        refine Go.st (fun _ kont => XS.iloadN X45.here hx rfl (hb hby at_30) rfl kont) ?_
        show Go p e s below _ _ _ T45 (mkF m 31 #[.val (.int p0), .val (.int p1), .val (.int (2 : Int32)), .val (.int (2 : Int32)), .unset] [(.int (2 : Int32)), (.int (1 : Int32))])
        refine Go.st (fun _ kont => XS.ishr X45.here hx rfl (hb hby at_31) rfl kont) ?_
        show Go p e s below _ _ _ T45 (mkF m 32 #[.val (.int p0), .val (.int p1), .val (.int (2 : Int32)), .val (.int (2 : Int32)), .unset] [(.int ((1 : Int32) >>> ((2 : Int32) &&& 31)))])
        refine Go.st (fun _ kont => XT.iconstV X45.here hx rfl (1 : Int32) (hb hby at_32) (by decide) kont) ?_
        show Go p e s below _ _ _ T45 (mkF m 33 #[.val (.int p0), .val (.int p1), .val (.int (2 : Int32)), .val (.int (2 : Int32)), .unset] [(.int (1 : Int32)), (.int ((1 : Int32) >>> ((2 : Int32) &&& 31)))])
        refine Go.st (fun _ kont => XS.iand X45.here hx rfl (hb hby at_33) rfl kont) ?_
        show Go p e s below _ _ _ T45 (mkF m 34 #[.val (.int p0), .val (.int p1), .val (.int (2 : Int32)), .val (.int (2 : Int32)), .unset] [(.int (((1 : Int32) >>> ((2 : Int32) &&& 31)) &&& (1 : Int32)))])
        refine Go.st (fun _ kont => XS.ifYes X45.here hx rfl (pc0 := 34) (pc' := 41) rfl (hb hby at_34) rfl ((if0 _ _).trans (teq (by decide : ((((1 : Int32) >>> ((2 : Int32) &&& 31)) &&& (1 : Int32)) = (0 : Int32)))).1) (by decide) (by decide) kont) ?_
        show Go p e s below _ _ _ T45 (mkF m 41 #[.val (.int p0), .val (.int p1), .val (.int (2 : Int32)), .val (.int (2 : Int32)), .unset] [])
        refine Go.st (fun _ kont => XT.iconstV X45.here hx rfl (0 : Int32) (hb hby at_41) (by decide) kont) ?_
        show Go p e s below _ _ _ T45 (mkF m 42 #[.val (.int p0), .val (.int p1), .val (.int (2 : Int32)), .val (.int (2 : Int32)), .unset] [(.int (0 : Int32))])
        refine Go.st (fun _ kont => XS.istore X45.here hx rfl (hb hby at_42) rfl (l' := #[.val (.int p0), .val (.int p1), .val (.int (2 : Int32)), .val (.int (2 : Int32)), .val (.int (0 : Int32))]) rfl kont) ?_
        show Go p e s below _ _ _ T45 (mkF m 44 #[.val (.int p0), .val (.int p1), .val (.int (2 : Int32)), .val (.int (2 : Int32)), .val (.int (0 : Int32))] [])
        refine Go.st (fun _ kont => XS.iloadN X45.here hx rfl (hb hby at_44) rfl kont) ?_
        show Go p e s below _ _ _ T45 (mkF m 45 #[.val (.int p0), .val (.int p1), .val (.int (2 : Int32)), .val (.int (2 : Int32)), .val (.int (0 : Int32))] [(.int (2 : Int32))])
        refine Go.callS (W := 0) (argsL := [(.int (2 : Int32))]) (rest := []) X45 hx hZ hown (y := (⟨"com/example/keyfold/keyfold/sql/OperatorHoldsPinLaw", "op", "(I)Lcom/example/keyfold/keyfold/sql/Condition$Operator;"⟩ : MethodName)) (hw _ (List.mem_of_getElem? (i := 5) rfl)) (hw _ (List.mem_of_getElem? (i := 6) rfl)) (hw _ (List.mem_of_getElem? (i := 3) rfl)) (hw _ (List.mem_of_getElem? (i := 7) rfl)) (rmo l Z a0 hw [] (2 : Int32) 2 h0 n0 r C0 (by decide)) E45 (by decide) (by decide) (by decide) (by decide) (by decide) (by rw [hml]; rfl) (lenOf pd__I_Lcom_example_keyfold_keyfold_sql_Condition_Operator_ rfl) (Nat.le_of_eq rfl) (hb hby at_45) ?_
        intro T46 v46 L46 X46 hQ46
        obtain ⟨rfl, N46, E46⟩ := hQ46
        have M46 := Fr.app M45 N46
        show Go p e s below _ _ _ T46 (mkF m 48 #[.val (.int p0), .val (.int p1), .val (.int (2 : Int32)), .val (.int (2 : Int32)), .val (.int (0 : Int32))] [(.ref (r 2))])
        refine Go.st (fun _ kont => XS.iloadN X46.here hx rfl (hb hby at_48) rfl kont) ?_
        show Go p e s below _ _ _ T46 (mkF m 49 #[.val (.int p0), .val (.int p1), .val (.int (2 : Int32)), .val (.int (2 : Int32)), .val (.int (0 : Int32))] [(.int p1), (.ref (r 2))])
        refine Go.callV (b := (r 2)) (W := 0) (argsL := [(.int p1)]) (rest := []) X46 hx hZ hown (y := (⟨"com/example/keyfold/keyfold/sql/Condition$Operator", "holds", "(I)Z"⟩ : MethodName)) (z := (⟨"com/example/keyfold/keyfold/sql/Condition$Operator", "holds", "(I)Z"⟩ : MethodName)) (hw _ (List.mem_of_getElem? (i := 11) rfl)) (hw _ (List.mem_of_getElem? (i := 12) rfl)) (notFace_of_selects (args := #[]) (mvT hZ (hw _ (List.mem_of_getElem? (i := 14) rfl)))) (hw _ (List.mem_of_getElem? (i := 14) rfl)) (hw _ (List.mem_of_getElem? (i := 13) rfl)) (hw _ (List.mem_of_getElem? (i := 9) rfl)) (hw _ (List.mem_of_getElem? (i := 15) rfl)) (rmh l Z a0 hw [] (r 2) p1 (0 : Int32) (2 : Int32) h0 n0 (C0 2 "LESS" 2 rfl rfl).2.2 (C0 2 "LESS" 2 rfl rfl).2.1 (by decide) ⟨fun q => absurd q (by decide), fun q => absurd q (by decide), fun _ => ⟨fun q => absurd q hc9_1, fun _ => rfl⟩, fun q => absurd q (by decide), fun q => absurd q (by decide), fun q => absurd q (by decide)⟩) E46 (C0 2 "LESS" 2 rfl rfl).2.1 (by decide) (by decide) (by decide) (by decide) (by decide) (by rw [hml]; rfl) (lenOf pd__I_Z rfl) (Nat.le_of_eq rfl) (hb hby at_49) ?_
        intro T47 v47 L47 X47 hQ47
        obtain ⟨rfl, N47, E47⟩ := hQ47
        have M47 := Fr.app M46 N47
        show Go p e s below _ _ _ T47 (mkF m 52 #[.val (.int p0), .val (.int p1), .val (.int (2 : Int32)), .val (.int (2 : Int32)), .val (.int (0 : Int32))] [(.int (0 : Int32))])
        refine Go.st (fun _ kont => XS.iload X47.here hx rfl (hb hby at_52) rfl kont) ?_
        show Go p e s below _ _ _ T47 (mkF m 54 #[.val (.int p0), .val (.int p1), .val (.int (2 : Int32)), .val (.int (2 : Int32)), .val (.int (0 : Int32))] [(.int (0 : Int32)), (.int (0 : Int32))])
        refine Go.st (fun _ kont => XS.icmpNo X47.here hx rfl (hb hby at_54) rfl (teq rfl).2 kont) ?_
        show Go p e s below _ _ _ T47 (mkF m 57 #[.val (.int p0), .val (.int p1), .val (.int (2 : Int32)), .val (.int (2 : Int32)), .val (.int (0 : Int32))] [])
        refine Go.st (fun _ kont => XT.iconstV X47.here hx rfl (1 : Int32) (hb hby at_57) (by decide) kont) ?_
        show Go p e s below _ _ _ T47 (mkF m 58 #[.val (.int p0), .val (.int p1), .val (.int (2 : Int32)), .val (.int (2 : Int32)), .val (.int (0 : Int32))] [(.int (1 : Int32))])
        refine Go.st (fun _ kont => XS.goto X47.here hx rfl (pc0 := 58) (pc' := 62) rfl (hb hby at_58) (by decide) (by decide) kont) ?_
        show Go p e s below _ _ _ T47 (mkF m 62 #[.val (.int p0), .val (.int p1), .val (.int (2 : Int32)), .val (.int (2 : Int32)), .val (.int (0 : Int32))] [(.int (1 : Int32))])
        exact Go.retN X47 hx hlk hret (by simp) (hb hby at_62) (by decide) (by decide) ⟨rfl, M47⟩
      · --
        show Go p e s below _ _ _ s₁ (mkF m 26 #[.val (.int p0), .val (.int p1), .val (.int (3 : Int32)), .val (.int (2 : Int32)), .unset] [])
        refine Go.st (fun _ kont => XS.iloadN X0.here hx rfl (hb hby at_26) rfl kont) ?_
        show Go p e s below _ _ _ s₁ (mkF m 27 #[.val (.int p0), .val (.int p1), .val (.int (3 : Int32)), .val (.int (2 : Int32)), .unset] [(.int (3 : Int32))])
        refine Go.callS (W := 0) (argsL := [(.int (3 : Int32))]) (rest := []) X0 hx hZ hown (y := (⟨"com/example/keyfold/keyfold/sql/OperatorHoldsPinLaw", "admits", "(I)I"⟩ : MethodName)) (hw _ (List.mem_of_getElem? (i := 1) rfl)) (hw _ (List.mem_of_getElem? (i := 2) rfl)) (hw _ (List.mem_of_getElem? (i := 3) rfl)) (hw _ (List.mem_of_getElem? (i := 4) rfl)) (rma l Z a0 hw [] (3 : Int32) (3 : Int32) h0 n0 (by decide)) e0 (by decide) (by decide) (by decide) (by decide) (by decide) (by rw [hml]; rfl) (lenOf pd__I_I rfl) (Nat.le_of_eq rfl) (hb hby at_27) ?_
        intro T48 v48 L48 X48 hQ48
        obtain ⟨rfl, N48, E48⟩ := hQ48
        have M48 := Fr.app N0 N48
        show Go p e s below _ _ _ T48 (mkF m 30 #[.val (.int p0), .val (.int p1), .val (.int (3 : Int32)), .val (.int (2 : Int32)), .unset] [(.int (3 : Int32))])
        refine Go.st (fun _ kont => XS.iloadN X48.here hx rfl (hb hby at_30) rfl kont) ?_
        show Go p e s below _ _ _ T48 (mkF m 31 #[.val (.int p0), .val (.int p1), .val (.int (3 : Int32)), .val (.int (2 : Int32)), .unset] [(.int (2 : Int32)), (.int (3 : Int32))])
        refine Go.st (fun _ kont => XS.ishr X48.here hx rfl (hb hby at_31) rfl kont) ?_
        show Go p e s below _ _ _ T48 (mkF m 32 #[.val (.int p0), .val (.int p1), .val (.int (3 : Int32)), .val (.int (2 : Int32)), .unset] [(.int ((3 : Int32) >>> ((2 : Int32) &&& 31)))])
        refine Go.st (fun _ kont => XT.iconstV X48.here hx rfl (1 : Int32) (hb hby at_32) (by decide) kont) ?_
        show Go p e s below _ _ _ T48 (mkF m 33 #[.val (.int p0), .val (.int p1), .val (.int (3 : Int32)), .val (.int (2 : Int32)), .unset] [(.int (1 : Int32)), (.int ((3 : Int32) >>> ((2 : Int32) &&& 31)))])
        refine Go.st (fun _ kont => XS.iand X48.here hx rfl (hb hby at_33) rfl kont) ?_
        show Go p e s below _ _ _ T48 (mkF m 34 #[.val (.int p0), .val (.int p1), .val (.int (3 : Int32)), .val (.int (2 : Int32)), .unset] [(.int (((3 : Int32) >>> ((2 : Int32) &&& 31)) &&& (1 : Int32)))])
        refine Go.st (fun _ kont => XS.ifYes X48.here hx rfl (pc0 := 34) (pc' := 41) rfl (hb hby at_34) rfl ((if0 _ _).trans (teq (by decide : ((((3 : Int32) >>> ((2 : Int32) &&& 31)) &&& (1 : Int32)) = (0 : Int32)))).1) (by decide) (by decide) kont) ?_
        show Go p e s below _ _ _ T48 (mkF m 41 #[.val (.int p0), .val (.int p1), .val (.int (3 : Int32)), .val (.int (2 : Int32)), .unset] [])
        refine Go.st (fun _ kont => XT.iconstV X48.here hx rfl (0 : Int32) (hb hby at_41) (by decide) kont) ?_
        show Go p e s below _ _ _ T48 (mkF m 42 #[.val (.int p0), .val (.int p1), .val (.int (3 : Int32)), .val (.int (2 : Int32)), .unset] [(.int (0 : Int32))])
        refine Go.st (fun _ kont => XS.istore X48.here hx rfl (hb hby at_42) rfl (l' := #[.val (.int p0), .val (.int p1), .val (.int (3 : Int32)), .val (.int (2 : Int32)), .val (.int (0 : Int32))]) rfl kont) ?_
        show Go p e s below _ _ _ T48 (mkF m 44 #[.val (.int p0), .val (.int p1), .val (.int (3 : Int32)), .val (.int (2 : Int32)), .val (.int (0 : Int32))] [])
        refine Go.st (fun _ kont => XS.iloadN X48.here hx rfl (hb hby at_44) rfl kont) ?_
        show Go p e s below _ _ _ T48 (mkF m 45 #[.val (.int p0), .val (.int p1), .val (.int (3 : Int32)), .val (.int (2 : Int32)), .val (.int (0 : Int32))] [(.int (3 : Int32))])
        refine Go.callS (W := 0) (argsL := [(.int (3 : Int32))]) (rest := []) X48 hx hZ hown (y := (⟨"com/example/keyfold/keyfold/sql/OperatorHoldsPinLaw", "op", "(I)Lcom/example/keyfold/keyfold/sql/Condition$Operator;"⟩ : MethodName)) (hw _ (List.mem_of_getElem? (i := 5) rfl)) (hw _ (List.mem_of_getElem? (i := 6) rfl)) (hw _ (List.mem_of_getElem? (i := 3) rfl)) (hw _ (List.mem_of_getElem? (i := 7) rfl)) (rmo l Z a0 hw [] (3 : Int32) 3 h0 n0 r C0 (by decide)) E48 (by decide) (by decide) (by decide) (by decide) (by decide) (by rw [hml]; rfl) (lenOf pd__I_Lcom_example_keyfold_keyfold_sql_Condition_Operator_ rfl) (Nat.le_of_eq rfl) (hb hby at_45) ?_
        intro T49 v49 L49 X49 hQ49
        obtain ⟨rfl, N49, E49⟩ := hQ49
        have M49 := Fr.app M48 N49
        show Go p e s below _ _ _ T49 (mkF m 48 #[.val (.int p0), .val (.int p1), .val (.int (3 : Int32)), .val (.int (2 : Int32)), .val (.int (0 : Int32))] [(.ref (r 3))])
        refine Go.st (fun _ kont => XS.iloadN X49.here hx rfl (hb hby at_48) rfl kont) ?_
        show Go p e s below _ _ _ T49 (mkF m 49 #[.val (.int p0), .val (.int p1), .val (.int (3 : Int32)), .val (.int (2 : Int32)), .val (.int (0 : Int32))] [(.int p1), (.ref (r 3))])
        refine Go.callV (b := (r 3)) (W := 0) (argsL := [(.int p1)]) (rest := []) X49 hx hZ hown (y := (⟨"com/example/keyfold/keyfold/sql/Condition$Operator", "holds", "(I)Z"⟩ : MethodName)) (z := (⟨"com/example/keyfold/keyfold/sql/Condition$Operator", "holds", "(I)Z"⟩ : MethodName)) (hw _ (List.mem_of_getElem? (i := 11) rfl)) (hw _ (List.mem_of_getElem? (i := 12) rfl)) (notFace_of_selects (args := #[]) (mvT hZ (hw _ (List.mem_of_getElem? (i := 14) rfl)))) (hw _ (List.mem_of_getElem? (i := 14) rfl)) (hw _ (List.mem_of_getElem? (i := 13) rfl)) (hw _ (List.mem_of_getElem? (i := 9) rfl)) (hw _ (List.mem_of_getElem? (i := 15) rfl)) (rmh l Z a0 hw [] (r 3) p1 (0 : Int32) (3 : Int32) h0 n0 (C0 3 "LESS_OR_EQUAL" 3 rfl rfl).2.2 (C0 3 "LESS_OR_EQUAL" 3 rfl rfl).2.1 (by decide) ⟨fun q => absurd q (by decide), fun q => absurd q (by decide), fun q => absurd q (by decide), fun _ => ⟨fun _ => rfl, fun q => absurd s3 q⟩, fun q => absurd q (by decide), fun q => absurd q (by decide)⟩) E49 (C0 3 "LESS_OR_EQUAL" 3 rfl rfl).2.1 (by decide) (by decide) (by decide) (by decide) (by decide) (by rw [hml]; rfl) (lenOf pd__I_Z rfl) (Nat.le_of_eq rfl) (hb hby at_49) ?_
        intro T50 v50 L50 X50 hQ50
        obtain ⟨rfl, N50, E50⟩ := hQ50
        have M50 := Fr.app M49 N50
        show Go p e s below _ _ _ T50 (mkF m 52 #[.val (.int p0), .val (.int p1), .val (.int (3 : Int32)), .val (.int (2 : Int32)), .val (.int (0 : Int32))] [(.int (0 : Int32))])
        refine Go.st (fun _ kont => XS.iload X50.here hx rfl (hb hby at_52) rfl kont) ?_
        show Go p e s below _ _ _ T50 (mkF m 54 #[.val (.int p0), .val (.int p1), .val (.int (3 : Int32)), .val (.int (2 : Int32)), .val (.int (0 : Int32))] [(.int (0 : Int32)), (.int (0 : Int32))])
        refine Go.st (fun _ kont => XS.icmpNo X50.here hx rfl (hb hby at_54) rfl (teq rfl).2 kont) ?_
        show Go p e s below _ _ _ T50 (mkF m 57 #[.val (.int p0), .val (.int p1), .val (.int (3 : Int32)), .val (.int (2 : Int32)), .val (.int (0 : Int32))] [])
        refine Go.st (fun _ kont => XT.iconstV X50.here hx rfl (1 : Int32) (hb hby at_57) (by decide) kont) ?_
        show Go p e s below _ _ _ T50 (mkF m 58 #[.val (.int p0), .val (.int p1), .val (.int (3 : Int32)), .val (.int (2 : Int32)), .val (.int (0 : Int32))] [(.int (1 : Int32))])
        refine Go.st (fun _ kont => XS.goto X50.here hx rfl (pc0 := 58) (pc' := 62) rfl (hb hby at_58) (by decide) (by decide) kont) ?_
        show Go p e s below _ _ _ T50 (mkF m 62 #[.val (.int p0), .val (.int p1), .val (.int (3 : Int32)), .val (.int (2 : Int32)), .val (.int (0 : Int32))] [(.int (1 : Int32))])
        exact Go.retN X50 hx hlk hret (by simp) (hb hby at_62) (by decide) (by decide) ⟨rfl, M50⟩
      · --
        show Go p e s below _ _ _ s₁ (mkF m 26 #[.val (.int p0), .val (.int p1), .val (.int (4 : Int32)), .val (.int (2 : Int32)), .unset] [])
        refine Go.st (fun _ kont => XS.iloadN X0.here hx rfl (hb hby at_26) rfl kont) ?_
        show Go p e s below _ _ _ s₁ (mkF m 27 #[.val (.int p0), .val (.int p1), .val (.int (4 : Int32)), .val (.int (2 : Int32)), .unset] [(.int (4 : Int32))])
        refine Go.callS (W := 0) (argsL := [(.int (4 : Int32))]) (rest := []) X0 hx hZ hown (y := (⟨"com/example/keyfold/keyfold/sql/OperatorHoldsPinLaw", "admits", "(I)I"⟩ : MethodName)) (hw _ (List.mem_of_getElem? (i := 1) rfl)) (hw _ (List.mem_of_getElem? (i := 2) rfl)) (hw _ (List.mem_of_getElem? (i := 3) rfl)) (hw _ (List.mem_of_getElem? (i := 4) rfl)) (rma l Z a0 hw [] (4 : Int32) (4 : Int32) h0 n0 (by decide)) e0 (by decide) (by decide) (by decide) (by decide) (by decide) (by rw [hml]; rfl) (lenOf pd__I_I rfl) (Nat.le_of_eq rfl) (hb hby at_27) ?_
        intro T51 v51 L51 X51 hQ51
        obtain ⟨rfl, N51, E51⟩ := hQ51
        have M51 := Fr.app N0 N51
        show Go p e s below _ _ _ T51 (mkF m 30 #[.val (.int p0), .val (.int p1), .val (.int (4 : Int32)), .val (.int (2 : Int32)), .unset] [(.int (4 : Int32))])
        refine Go.st (fun _ kont => XS.iloadN X51.here hx rfl (hb hby at_30) rfl kont) ?_
        show Go p e s below _ _ _ T51 (mkF m 31 #[.val (.int p0), .val (.int p1), .val (.int (4 : Int32)), .val (.int (2 : Int32)), .unset] [(.int (2 : Int32)), (.int (4 : Int32))])
        refine Go.st (fun _ kont => XS.ishr X51.here hx rfl (hb hby at_31) rfl kont) ?_
        show Go p e s below _ _ _ T51 (mkF m 32 #[.val (.int p0), .val (.int p1), .val (.int (4 : Int32)), .val (.int (2 : Int32)), .unset] [(.int ((4 : Int32) >>> ((2 : Int32) &&& 31)))])
        refine Go.st (fun _ kont => XT.iconstV X51.here hx rfl (1 : Int32) (hb hby at_32) (by decide) kont) ?_
        show Go p e s below _ _ _ T51 (mkF m 33 #[.val (.int p0), .val (.int p1), .val (.int (4 : Int32)), .val (.int (2 : Int32)), .unset] [(.int (1 : Int32)), (.int ((4 : Int32) >>> ((2 : Int32) &&& 31)))])
        refine Go.st (fun _ kont => XS.iand X51.here hx rfl (hb hby at_33) rfl kont) ?_
        show Go p e s below _ _ _ T51 (mkF m 34 #[.val (.int p0), .val (.int p1), .val (.int (4 : Int32)), .val (.int (2 : Int32)), .unset] [(.int (((4 : Int32) >>> ((2 : Int32) &&& 31)) &&& (1 : Int32)))])
        refine Go.st (fun _ kont => XS.ifNo X51.here hx rfl (hb hby at_34) rfl ((if0 _ _).trans (feq (by decide : ¬ ((((4 : Int32) >>> ((2 : Int32) &&& 31)) &&& (1 : Int32)) = (0 : Int32)))).1) kont) ?_
        show Go p e s below _ _ _ T51 (mkF m 37 #[.val (.int p0), .val (.int p1), .val (.int (4 : Int32)), .val (.int (2 : Int32)), .unset] [])
        refine Go.st (fun _ kont => XT.iconstV X51.here hx rfl (1 : Int32) (hb hby at_37) (by decide) kont) ?_
        show Go p e s below _ _ _ T51 (mkF m 38 #[.val (.int p0), .val (.int p1), .val (.int (4 : Int32)), .val (.int (2 : Int32)), .unset] [(.int (1 : Int32))])
        refine Go.st (fun _ kont => XS.goto X51.here hx rfl (pc0 := 38) (pc' := 42) rfl (hb hby at_38) (by decide) (by decide) kont) ?_
        show Go p e s below _ _ _ T51 (mkF m 42 #[.val (.int p0), .val (.int p1), .val (.int (4 : Int32)), .val (.int (2 : Int32)), .unset] [(.int (1 : Int32))])
        refine Go.st (fun _ kont => XS.istore X51.here hx rfl (hb hby at_42) rfl (l' := #[.val (.int p0), .val (.int p1), .val (.int (4 : Int32)), .val (.int (2 : Int32)), .val (.int (1 : Int32))]) rfl kont) ?_
        show Go p e s below _ _ _ T51 (mkF m 44 #[.val (.int p0), .val (.int p1), .val (.int (4 : Int32)), .val (.int (2 : Int32)), .val (.int (1 : Int32))] [])
        refine Go.st (fun _ kont => XS.iloadN X51.here hx rfl (hb hby at_44) rfl kont) ?_
        show Go p e s below _ _ _ T51 (mkF m 45 #[.val (.int p0), .val (.int p1), .val (.int (4 : Int32)), .val (.int (2 : Int32)), .val (.int (1 : Int32))] [(.int (4 : Int32))])
        refine Go.callS (W := 0) (argsL := [(.int (4 : Int32))]) (rest := []) X51 hx hZ hown (y := (⟨"com/example/keyfold/keyfold/sql/OperatorHoldsPinLaw", "op", "(I)Lcom/example/keyfold/keyfold/sql/Condition$Operator;"⟩ : MethodName)) (hw _ (List.mem_of_getElem? (i := 5) rfl)) (hw _ (List.mem_of_getElem? (i := 6) rfl)) (hw _ (List.mem_of_getElem? (i := 3) rfl)) (hw _ (List.mem_of_getElem? (i := 7) rfl)) (rmo l Z a0 hw [] (4 : Int32) 4 h0 n0 r C0 (by decide)) E51 (by decide) (by decide) (by decide) (by decide) (by decide) (by rw [hml]; rfl) (lenOf pd__I_Lcom_example_keyfold_keyfold_sql_Condition_Operator_ rfl) (Nat.le_of_eq rfl) (hb hby at_45) ?_
        intro T52 v52 L52 X52 hQ52
        obtain ⟨rfl, N52, E52⟩ := hQ52
        have M52 := Fr.app M51 N52
        show Go p e s below _ _ _ T52 (mkF m 48 #[.val (.int p0), .val (.int p1), .val (.int (4 : Int32)), .val (.int (2 : Int32)), .val (.int (1 : Int32))] [(.ref (r 4))])
        refine Go.st (fun _ kont => XS.iloadN X52.here hx rfl (hb hby at_48) rfl kont) ?_
        show Go p e s below _ _ _ T52 (mkF m 49 #[.val (.int p0), .val (.int p1), .val (.int (4 : Int32)), .val (.int (2 : Int32)), .val (.int (1 : Int32))] [(.int p1), (.ref (r 4))])
        refine Go.callV (b := (r 4)) (W := 0) (argsL := [(.int p1)]) (rest := []) X52 hx hZ hown (y := (⟨"com/example/keyfold/keyfold/sql/Condition$Operator", "holds", "(I)Z"⟩ : MethodName)) (z := (⟨"com/example/keyfold/keyfold/sql/Condition$Operator", "holds", "(I)Z"⟩ : MethodName)) (hw _ (List.mem_of_getElem? (i := 11) rfl)) (hw _ (List.mem_of_getElem? (i := 12) rfl)) (notFace_of_selects (args := #[]) (mvT hZ (hw _ (List.mem_of_getElem? (i := 14) rfl)))) (hw _ (List.mem_of_getElem? (i := 14) rfl)) (hw _ (List.mem_of_getElem? (i := 13) rfl)) (hw _ (List.mem_of_getElem? (i := 9) rfl)) (hw _ (List.mem_of_getElem? (i := 15) rfl)) (rmh l Z a0 hw [] (r 4) p1 (1 : Int32) (4 : Int32) h0 n0 (C0 4 "GREATER" 4 rfl rfl).2.2 (C0 4 "GREATER" 4 rfl rfl).2.1 (by decide) ⟨fun q => absurd q (by decide), fun q => absurd q (by decide), fun q => absurd q (by decide), fun q => absurd q (by decide), fun _ => ⟨fun _ => rfl, fun q => absurd s3 q⟩, fun q => absurd q (by decide)⟩) E52 (C0 4 "GREATER" 4 rfl rfl).2.1 (by decide) (by decide) (by decide) (by decide) (by decide) (by rw [hml]; rfl) (lenOf pd__I_Z rfl) (Nat.le_of_eq rfl) (hb hby at_49) ?_
        intro T53 v53 L53 X53 hQ53
        obtain ⟨rfl, N53, E53⟩ := hQ53
        have M53 := Fr.app M52 N53
        show Go p e s below _ _ _ T53 (mkF m 52 #[.val (.int p0), .val (.int p1), .val (.int (4 : Int32)), .val (.int (2 : Int32)), .val (.int (1 : Int32))] [(.int (1 : Int32))])
        refine Go.st (fun _ kont => XS.iload X53.here hx rfl (hb hby at_52) rfl kont) ?_
        show Go p e s below _ _ _ T53 (mkF m 54 #[.val (.int p0), .val (.int p1), .val (.int (4 : Int32)), .val (.int (2 : Int32)), .val (.int (1 : Int32))] [(.int (1 : Int32)), (.int (1 : Int32))])
        refine Go.st (fun _ kont => XS.icmpNo X53.here hx rfl (hb hby at_54) rfl (teq rfl).2 kont) ?_
        show Go p e s below _ _ _ T53 (mkF m 57 #[.val (.int p0), .val (.int p1), .val (.int (4 : Int32)), .val (.int (2 : Int32)), .val (.int (1 : Int32))] [])
        refine Go.st (fun _ kont => XT.iconstV X53.here hx rfl (1 : Int32) (hb hby at_57) (by decide) kont) ?_
        show Go p e s below _ _ _ T53 (mkF m 58 #[.val (.int p0), .val (.int p1), .val (.int (4 : Int32)), .val (.int (2 : Int32)), .val (.int (1 : Int32))] [(.int (1 : Int32))])
        refine Go.st (fun _ kont => XS.goto X53.here hx rfl (pc0 := 58) (pc' := 62) rfl (hb hby at_58) (by decide) (by decide) kont) ?_
        show Go p e s below _ _ _ T53 (mkF m 62 #[.val (.int p0), .val (.int p1), .val (.int (4 : Int32)), .val (.int (2 : Int32)), .val (.int (1 : Int32))] [(.int (1 : Int32))])
        exact Go.retN X53 hx hlk hret (by simp) (hb hby at_62) (by decide) (by decide) ⟨rfl, M53⟩
      · --
        show Go p e s below _ _ _ s₁ (mkF m 26 #[.val (.int p0), .val (.int p1), .val (.int (5 : Int32)), .val (.int (2 : Int32)), .unset] [])
        refine Go.st (fun _ kont => XS.iloadN X0.here hx rfl (hb hby at_26) rfl kont) ?_
        show Go p e s below _ _ _ s₁ (mkF m 27 #[.val (.int p0), .val (.int p1), .val (.int (5 : Int32)), .val (.int (2 : Int32)), .unset] [(.int (5 : Int32))])
        refine Go.callS (W := 0) (argsL := [(.int (5 : Int32))]) (rest := []) X0 hx hZ hown (y := (⟨"com/example/keyfold/keyfold/sql/OperatorHoldsPinLaw", "admits", "(I)I"⟩ : MethodName)) (hw _ (List.mem_of_getElem? (i := 1) rfl)) (hw _ (List.mem_of_getElem? (i := 2) rfl)) (hw _ (List.mem_of_getElem? (i := 3) rfl)) (hw _ (List.mem_of_getElem? (i := 4) rfl)) (rma l Z a0 hw [] (5 : Int32) (6 : Int32) h0 n0 (by decide)) e0 (by decide) (by decide) (by decide) (by decide) (by decide) (by rw [hml]; rfl) (lenOf pd__I_I rfl) (Nat.le_of_eq rfl) (hb hby at_27) ?_
        intro T54 v54 L54 X54 hQ54
        obtain ⟨rfl, N54, E54⟩ := hQ54
        have M54 := Fr.app N0 N54
        show Go p e s below _ _ _ T54 (mkF m 30 #[.val (.int p0), .val (.int p1), .val (.int (5 : Int32)), .val (.int (2 : Int32)), .unset] [(.int (6 : Int32))])
        refine Go.st (fun _ kont => XS.iloadN X54.here hx rfl (hb hby at_30) rfl kont) ?_
        show Go p e s below _ _ _ T54 (mkF m 31 #[.val (.int p0), .val (.int p1), .val (.int (5 : Int32)), .val (.int (2 : Int32)), .unset] [(.int (2 : Int32)), (.int (6 : Int32))])
        refine Go.st (fun _ kont => XS.ishr X54.here hx rfl (hb hby at_31) rfl kont) ?_
        show Go p e s below _ _ _ T54 (mkF m 32 #[.val (.int p0), .val (.int p1), .val (.int (5 : Int32)), .val (.int (2 : Int32)), .unset] [(.int ((6 : Int32) >>> ((2 : Int32) &&& 31)))])
        refine Go.st (fun _ kont => XT.iconstV X54.here hx rfl (1 : Int32) (hb hby at_32) (by decide) kont) ?_
        show Go p e s below _ _ _ T54 (mkF m 33 #[.val (.int p0), .val (.int p1), .val (.int (5 : Int32)), .val (.int (2 : Int32)), .unset] [(.int (1 : Int32)), (.int ((6 : Int32) >>> ((2 : Int32) &&& 31)))])
        refine Go.st (fun _ kont => XS.iand X54.here hx rfl (hb hby at_33) rfl kont) ?_
        show Go p e s below _ _ _ T54 (mkF m 34 #[.val (.int p0), .val (.int p1), .val (.int (5 : Int32)), .val (.int (2 : Int32)), .unset] [(.int (((6 : Int32) >>> ((2 : Int32) &&& 31)) &&& (1 : Int32)))])
        refine Go.st (fun _ kont => XS.ifNo X54.here hx rfl (hb hby at_34) rfl ((if0 _ _).trans (feq (by decide : ¬ ((((6 : Int32) >>> ((2 : Int32) &&& 31)) &&& (1 : Int32)) = (0 : Int32)))).1) kont) ?_
        show Go p e s below _ _ _ T54 (mkF m 37 #[.val (.int p0), .val (.int p1), .val (.int (5 : Int32)), .val (.int (2 : Int32)), .unset] [])
        refine Go.st (fun _ kont => XT.iconstV X54.here hx rfl (1 : Int32) (hb hby at_37) (by decide) kont) ?_
        show Go p e s below _ _ _ T54 (mkF m 38 #[.val (.int p0), .val (.int p1), .val (.int (5 : Int32)), .val (.int (2 : Int32)), .unset] [(.int (1 : Int32))])
        refine Go.st (fun _ kont => XS.goto X54.here hx rfl (pc0 := 38) (pc' := 42) rfl (hb hby at_38) (by decide) (by decide) kont) ?_
        show Go p e s below _ _ _ T54 (mkF m 42 #[.val (.int p0), .val (.int p1), .val (.int (5 : Int32)), .val (.int (2 : Int32)), .unset] [(.int (1 : Int32))])
        refine Go.st (fun _ kont => XS.istore X54.here hx rfl (hb hby at_42) rfl (l' := #[.val (.int p0), .val (.int p1), .val (.int (5 : Int32)), .val (.int (2 : Int32)), .val (.int (1 : Int32))]) rfl kont) ?_
        show Go p e s below _ _ _ T54 (mkF m 44 #[.val (.int p0), .val (.int p1), .val (.int (5 : Int32)), .val (.int (2 : Int32)), .val (.int (1 : Int32))] [])
        refine Go.st (fun _ kont => XS.iloadN X54.here hx rfl (hb hby at_44) rfl kont) ?_
        show Go p e s below _ _ _ T54 (mkF m 45 #[.val (.int p0), .val (.int p1), .val (.int (5 : Int32)), .val (.int (2 : Int32)), .val (.int (1 : Int32))] [(.int (5 : Int32))])
        refine Go.callS (W := 0) (argsL := [(.int (5 : Int32))]) (rest := []) X54 hx hZ hown (y := (⟨"com/example/keyfold/keyfold/sql/OperatorHoldsPinLaw", "op", "(I)Lcom/example/keyfold/keyfold/sql/Condition$Operator;"⟩ : MethodName)) (hw _ (List.mem_of_getElem? (i := 5) rfl)) (hw _ (List.mem_of_getElem? (i := 6) rfl)) (hw _ (List.mem_of_getElem? (i := 3) rfl)) (hw _ (List.mem_of_getElem? (i := 7) rfl)) (rmo l Z a0 hw [] (5 : Int32) 5 h0 n0 r C0 (by decide)) E54 (by decide) (by decide) (by decide) (by decide) (by decide) (by rw [hml]; rfl) (lenOf pd__I_Lcom_example_keyfold_keyfold_sql_Condition_Operator_ rfl) (Nat.le_of_eq rfl) (hb hby at_45) ?_
        intro T55 v55 L55 X55 hQ55
        obtain ⟨rfl, N55, E55⟩ := hQ55
        have M55 := Fr.app M54 N55
        show Go p e s below _ _ _ T55 (mkF m 48 #[.val (.int p0), .val (.int p1), .val (.int (5 : Int32)), .val (.int (2 : Int32)), .val (.int (1 : Int32))] [(.ref (r 5))])
        refine Go.st (fun _ kont => XS.iloadN X55.here hx rfl (hb hby at_48) rfl kont) ?_
        show Go p e s below _ _ _ T55 (mkF m 49 #[.val (.int p0), .val (.int p1), .val (.int (5 : Int32)), .val (.int (2 : Int32)), .val (.int (1 : Int32))] [(.int p1), (.ref (r 5))])
        refine Go.callV (b := (r 5)) (W := 0) (argsL := [(.int p1)]) (rest := []) X55 hx hZ hown (y := (⟨"com/example/keyfold/keyfold/sql/Condition$Operator", "holds", "(I)Z"⟩ : MethodName)) (z := (⟨"com/example/keyfold/keyfold/sql/Condition$Operator", "holds", "(I)Z"⟩ : MethodName)) (hw _ (List.mem_of_getElem? (i := 11) rfl)) (hw _ (List.mem_of_getElem? (i := 12) rfl)) (notFace_of_selects (args := #[]) (mvT hZ (hw _ (List.mem_of_getElem? (i := 14) rfl)))) (hw _ (List.mem_of_getElem? (i := 14) rfl)) (hw _ (List.mem_of_getElem? (i := 13) rfl)) (hw _ (List.mem_of_getElem? (i := 9) rfl)) (hw _ (List.mem_of_getElem? (i := 15) rfl)) (rmh l Z a0 hw [] (r 5) p1 (1 : Int32) (5 : Int32) h0 n0 (C0 5 "GREATER_OR_EQUAL" 5 rfl rfl).2.2 (C0 5 "GREATER_OR_EQUAL" 5 rfl rfl).2.1 (by decide) ⟨fun q => absurd q (by decide), fun q => absurd q (by decide), fun q => absurd q (by decide), fun q => absurd q (by decide), fun q => absurd q (by decide), fun _ => ⟨fun q => absurd q hc9_1, fun _ => rfl⟩⟩) E55 (C0 5 "GREATER_OR_EQUAL" 5 rfl rfl).2.1 (by decide) (by decide) (by decide) (by decide) (by decide) (by rw [hml]; rfl) (lenOf pd__I_Z rfl) (Nat.le_of_eq rfl) (hb hby at_49) ?_
        intro T56 v56 L56 X56 hQ56
        obtain ⟨rfl, N56, E56⟩ := hQ56
        have M56 := Fr.app M55 N56
        show Go p e s below _ _ _ T56 (mkF m 52 #[.val (.int p0), .val (.int p1), .val (.int (5 : Int32)), .val (.int (2 : Int32)), .val (.int (1 : Int32))] [(.int (1 : Int32))])
        refine Go.st (fun _ kont => XS.iload X56.here hx rfl (hb hby at_52) rfl kont) ?_
        show Go p e s below _ _ _ T56 (mkF m 54 #[.val (.int p0), .val (.int p1), .val (.int (5 : Int32)), .val (.int (2 : Int32)), .val (.int (1 : Int32))] [(.int (1 : Int32)), (.int (1 : Int32))])
        refine Go.st (fun _ kont => XS.icmpNo X56.here hx rfl (hb hby at_54) rfl (teq rfl).2 kont) ?_
        show Go p e s below _ _ _ T56 (mkF m 57 #[.val (.int p0), .val (.int p1), .val (.int (5 : Int32)), .val (.int (2 : Int32)), .val (.int (1 : Int32))] [])
        refine Go.st (fun _ kont => XT.iconstV X56.here hx rfl (1 : Int32) (hb hby at_57) (by decide) kont) ?_
        show Go p e s below _ _ _ T56 (mkF m 58 #[.val (.int p0), .val (.int p1), .val (.int (5 : Int32)), .val (.int (2 : Int32)), .val (.int (1 : Int32))] [(.int (1 : Int32))])
        refine Go.st (fun _ kont => XS.goto X56.here hx rfl (pc0 := 58) (pc' := 62) rfl (hb hby at_58) (by decide) (by decide) kont) ?_
        show Go p e s below _ _ _ T56 (mkF m 62 #[.val (.int p0), .val (.int p1), .val (.int (5 : Int32)), .val (.int (2 : Int32)), .val (.int (1 : Int32))] [(.int (1 : Int32))])
        exact Go.retN X56 hx hlk hret (by simp) (hb hby at_62) (by decide) (by decide) ⟨rfl, M56⟩
set_option maxRecDepth 65536 in
set_option maxHeartbeats 40000000 in
theorem comes_1 {Post : Tables → Env → Array Value → State → Outcome → State → Prop} (hpost : ∀ tb e args s v u, (limb_1_1.after args s (.returned v) u = true ∧ limb_1_2.after args s (.returned v) u = true ∧ True) → FrameEnd s (.returned v) u (Jvm.fieldLocs frame_1_writes args s ++ Jvm.arrayLocs frame_1_arrays args s ++ Jvm.staticLocs frame_1_statics s) 0 0 → Post tb e args s (.returned v) u) :
    ArmFor flags0 classFile x code maxLocals ret World_1 tables_1 room_1 Calls_1 rest_1 Pre_1 Post := by
  intro l hfl _ _ p e ha hc hk s m args below hf hA hF happ hP
  obtain ⟨hcalls, hrest, hpre⟩ := hP
  obtain ⟨-, -, -, hnamed, -, -, -, hat⟩ := (Spec.applies_iff hf).mp happ
  obtain ⟨hg, hn⟩ := and_e (Cond.before_iff.mp (show (Jvm.Cond.and given_1 narrow_1).before args s = true from hpre))
  obtain ⟨hg_1, hg_1'⟩ := and_e hg
  obtain ⟨hg_2, hg_2'⟩ := and_e hg_1'
  obtain ⟨w0, w1, rfl⟩ : ∃ w0 w1 : Value, args = #[w0, w1] := by
    have hs : args.size = 2 := by simpa [Cond.value, given_1] using hg_1
    obtain ⟨L⟩ := args
    match L, hs with
    | [w0, w1], _ => exact ⟨w0, w1, rfl⟩
  have hw := fun d (hd : d ∈ tables_1) => atoms_spec (ws := Jvm.Cond.code x code maxLocals ret :: tables_1) hat d (List.mem_cons_of_mem _ hd)
  have hfit : Fit s := fun {y c} hc i hi => by
    obtain ⟨ha, rfl⟩ := Array.getElem?_eq_some_iff.mp hc
    have q := List.all_eq_true.mp ((Array.all_eq_true_iff_forall_mem.mp hF) _ (Array.getElem_mem ha)) i (List.mem_range.mpr hi)
    simpa [Array.getElem?_eq_getElem hi] using q
  obtain ⟨i0, ei0⟩ := is_v hg_2
  obtain rfl : w0 = (.int i0) := Option.some.inj ei0
  obtain ⟨i1, ei1⟩ := is_v hg_2'
  obtain rfl : w1 = (.int i1) := Option.some.inj ei1
  obtain ⟨hn_1, hn_1'⟩ := and_e hn
  obtain ⟨hn_2, hn_2'⟩ := and_e hn_1'
  obtain ⟨hn_3, hn_3'⟩ := and_e hn_2'
  obtain ⟨hn_4, hn_4'⟩ := and_e hn_3'
  obtain ⟨hn_5, hn_5'⟩ := and_e hn_4'
  obtain ⟨hn_6, hn_6'⟩ := and_e hn_5'
  obtain ⟨hn_7, hn_7'⟩ := and_e hn_6'
  obtain ⟨hn_8, hn_8'⟩ := and_e hn_7'
  obtain ⟨hn_9, hn_9'⟩ := and_e hn_8'
  obtain ⟨hn_10, hn_10'⟩ := and_e hn_9'
  obtain ⟨hn_11, hn_11'⟩ := and_e hn_10'
  obtain ⟨r0, re0, rc0⟩ := own_const hn_1 hn_2 (hw _ (List.mem_of_getElem? (i := 9) rfl)) (hw _ (List.mem_of_getElem? (i := 10) rfl))
  obtain ⟨r1, re1, rc1⟩ := own_const hn_7 hn_8 (hw _ (List.mem_of_getElem? (i := 9) rfl)) (hw _ (List.mem_of_getElem? (i := 30) rfl))
  obtain ⟨r2, re2, rc2⟩ := own_const hn_3 hn_4 (hw _ (List.mem_of_getElem? (i := 9) rfl)) (hw _ (List.mem_of_getElem? (i := 26) rfl))
  obtain ⟨r3, re3, rc3⟩ := own_const hn_11 hn_11' (hw _ (List.mem_of_getElem? (i := 9) rfl)) (hw _ (List.mem_of_getElem? (i := 34) rfl))
  obtain ⟨r4, re4, rc4⟩ := own_const hn_5 hn_6 (hw _ (List.mem_of_getElem? (i := 9) rfl)) (hw _ (List.mem_of_getElem? (i := 28) rfl))
  obtain ⟨r5, re5, rc5⟩ := own_const hn_9 hn_10 (hw _ (List.mem_of_getElem? (i := 9) rfl)) (hw _ (List.mem_of_getElem? (i := 32) rfl))
  have C0 : Cs s s.heap (fun i => [r0, r1, r2, r3, r4, r5].getD i 0) := by
    intro i nm o h1 h2
    match i, h1, h2 with
    | 0, h1, h2 => obtain rfl := Option.some.inj h1; obtain rfl := Option.some.inj h2; exact rc0
    | 1, h1, h2 => obtain rfl := Option.some.inj h1; obtain rfl := Option.some.inj h2; exact rc1
    | 2, h1, h2 => obtain rfl := Option.some.inj h1; obtain rfl := Option.some.inj h2; exact rc2
    | 3, h1, h2 => obtain rfl := Option.some.inj h1; obtain rfl := Option.some.inj h2; exact rc3
    | 4, h1, h2 => obtain rfl := Option.some.inj h1; obtain rfl := Option.some.inj h2; exact rc4
    | 5, h1, h2 => obtain rfl := Option.some.inj h1; obtain rfl := Option.some.inj h2; exact rc5
    | k + 6, h1, h2 => simp [nms] at h1
  obtain ⟨n, o, h1, h2, h3, _, L, rfl, ⟨rfl, N⟩, hq⟩ := rm0 l s _ hw tables_1 i0 i1 s.heap s.heap.size (fun i => [r0, r1, r2, r3, r4, r5].getD i 0) C0 p e ha hc hk s m _ below hf ((Spec.applies_iff_loose hf).mp happ).1 ⟨rfl, State.Warmed39.refl s, rfl⟩ trivial
  refine ⟨n, _, h1, h2, h3, hpost _ _ _ _ _ _ ⟨Cond.after_iff.mpr rfl, Cond.after_iff.mpr (eq_i res_at (Term.int_eval (1)) rfl), trivial⟩ ⟨hq.1, hq.2.1, (hq.2.2.sift fun y hy => Or.inr (N y hy)).mono (by decide) (by decide)⟩⟩
theorem main_1_1 : Claimed_1_1 := comes_1 fun _ _ _ _ _ _ h hF => ⟨h.1, hF⟩
theorem main_1_2 : Claimed_1_2 := comes_1 fun _ _ _ _ _ _ h hF => ⟨h.2.1, hF⟩
end Jvm.Pilot.@@N@@
namespace Jvm.Pilot.@@N@@
open Jvm Jvm.ClassFile Sem Op Lib Jvm.Free Jvm.Stand Jvm.Pilot.@@N@@.Jvm.D
/-! MADE BY PROGRAM (witnessworld.py) out of the Statement's table words and the real class files: 12 classes; the members and pool entries that the words name. The judged class is class 1, her method 3. -/
namespace start1
open Jvm.ClassFile
def u (s : String) : CpInfo := .utf8 (stringToUtf16 s)
/-- a pool by its gaps: so many unusable entries, then the entry; so many at the end -/
def gap : Nat → List CpInfo → List CpInfo
  | 0, r => r
  | n + 1, r => .unusable :: gap n r
def poolList (es : List (Nat × CpInfo)) (last : Nat) : List CpInfo := es.foldr (fun e r => gap e.1 (e.2 :: r)) (gap last [])
def pool (es : List (Nat × CpInfo)) (last : Nat) : Array CpInfo := ⟨poolList es last⟩
def fileOf (pool : Array CpInfo) (this : Nat) (attrs : Array Attribute := #[]) (ms : Array MethodInfo := #[]) (fl : Nat := 33) (sup : Nat := 0) (ifs : Array Nat := #[]) (fds : Array FieldInfo := #[]) : ClassFile where
  minorVersion := 0
  majorVersion := 65
  constantPool := pool
  accessFlags := fl
  thisClass := this
  superClass := sup
  interfaces := ifs
  fields := fds
  methods := ms
  attributes := attrs
def plain (name : String) (sup : Option ClassId) : Class where
  name := name
  kind := .ordinary
  loader := none
  accessFlags := 33
  super := sup
  interfaces := #[]
  cf := none
  fields := #[]
  methods := #[]
  instanceTypes := #[]
  staticTypes := #[]
  resolved := #[]
  callSites := []
  init := .initialized
  statics := none
  mirror := none

def pool0 : Array CpInfo := pool [(5, u "<init>"), (0, u "()V"), (1, .class_ 10), (1, u "java/lang/Object")] 113

def k0m0 : Method := { name := "<init>", desc := "()V", sig := { parameters := [], returnType := none }, accessFlags := 1, code := none }
/-- java/lang/Object -/
def k0 : Class := { plain "java/lang/Object" none with
  accessFlags := 33
  interfaces := #[]
  cf := some (fileOf pool0 8 #[] #[{ accessFlags := 1, nameIndex := 5, descriptorIndex := 6, attributes := #[] }] 33 0 #[] #[])
  fields := #[]
  methods := #[k0m0]
  instanceTypes := #[]
  staticTypes := #[]
  resolved := Array.replicate 124 none
  statics := none }

def pool1 : Array CpInfo := pool [(2, .class_ 4), (1, u "java/lang/Object"), (0, u "<init>"), (0, u "()V"), (0, .fieldref 8 9), (0, .class_ 10), (0, .nameAndType 11 12), (0, u "com/example/keyfold/keyfold/sql/Condition$Operator"), (0, u "EQUAL"), (0, u "Lcom/example/keyfold/keyfold/sql/Condition$Operator;"), (0, .fieldref 8 14), (0, .nameAndType 15 12), (0, u "NOT_EQUAL"), (0, .fieldref 8 17), (0, .nameAndType 18 12), (0, u "LESS"), (0, .fieldref 8 20), (0, .nameAndType 21 12), (0, u "LESS_OR_EQUAL"), (0, .fieldref 8 23), (0, .nameAndType 24 12), (0, u "GREATER"), (0, .fieldref 8 26), (0, .nameAndType 27 12), (0, u "GREATER_OR_EQUAL"), (0, .integer 2147483647), (0, .methodref 30 31), (0, .class_ 32), (0, .nameAndType 33 34), (0, u "com/example/keyfold/keyfold/sql/OperatorHoldsPinLaw"), (0, u "admits"), (0, u "(I)I"), (0, .methodref 30 36), (0, .nameAndType 37 38), (0, u "op"), (0, u "(I)Lcom/example/keyfold/keyfold/sql/Condition$Operator;"), (0, .methodref 8 40), (0, .nameAndType 41 42), (0, u "holds"), (0, u "(I)Z"), (3, u "law"), (0, u "(II)Z")] 6

def k1m0 : Method := { name := "<init>", desc := "()V", sig := { parameters := [], returnType := none }, accessFlags := 1, code := none }
def k1c1 : Code := { maxStack := 2, maxLocals := 1, code := method_2_code, exceptionTable := #[], attributes := #[] }
def k1m1 : Method := { name := "op", desc := "(I)Lcom/example/keyfold/keyfold/sql/Condition$Operator;", sig := { parameters := [.int], returnType := some (.object "com/example/keyfold/keyfold/sql/Condition$Operator") }, accessFlags := 10, code := some k1c1 }
def k1c2 : Code := { maxStack := 2, maxLocals := 1, code := method_3_code, exceptionTable := #[], attributes := #[] }
def k1m2 : Method := { name := "admits", desc := "(I)I", sig := { parameters := [.int], returnType := some .int }, accessFlags := 10, code := some k1c2 }
def k1c3 : Code := { maxStack := 2, maxLocals := 5, code := code, exceptionTable := #[], attributes := #[] }
def k1m3 : Method := { name := "law", desc := "(II)Z", sig := { parameters := [.int, .int], returnType := some .boolean }, accessFlags := 9, code := some k1c3 }
/-- com/example/keyfold/keyfold/sql/OperatorHoldsPinLaw -/
def k1 : Class := { plain "com/example/keyfold/keyfold/sql/OperatorHoldsPinLaw" (some 0) with
  accessFlags := 49
  interfaces := #[]
  cf := some (fileOf pool1 30 #[] #[{ accessFlags := 1, nameIndex := 5, descriptorIndex := 6, attributes := #[] }, { accessFlags := 10, nameIndex := 37, descriptorIndex := 38, attributes := #[] }, { accessFlags := 10, nameIndex := 33, descriptorIndex := 34, attributes := #[] }, { accessFlags := 9, nameIndex := 46, descriptorIndex := 47, attributes := #[] }] 49 2 #[] #[])
  fields := #[]
  methods := #[k1m0, k1m1, k1m2, k1m3]
  instanceTypes := #[]
  staticTypes := #[]
  resolved := Array.replicate 54 none
  statics := none }

def pool2 : Array CpInfo := pool [(1, .class_ 2), (0, u "java/lang/constant/Constable"), (0, .class_ 4), (0, u "java/lang/Object")] 6

/-- java/lang/constant/Constable -/
def k2 : Class := { plain "java/lang/constant/Constable" (some 0) with
  accessFlags := 1537
  interfaces := #[]
  cf := some (fileOf pool2 1 #[] #[] 1537 3 #[] #[])
  fields := #[]
  methods := #[]
  instanceTypes := #[]
  staticTypes := #[]
  resolved := Array.replicate 11 none
  statics := none }

def pool3 : Array CpInfo := pool [(1, .class_ 2), (0, u "java/lang/Comparable"), (0, .class_ 4), (0, u "java/lang/Object")] 7

/-- java/lang/Comparable -/
def k3 : Class := { plain "java/lang/Comparable" (some 0) with
  accessFlags := 1537
  interfaces := #[]
  cf := some (fileOf pool3 1 #[] #[] 1537 3 #[] #[])
  fields := #[]
  methods := #[]
  instanceTypes := #[]
  staticTypes := #[]
  resolved := Array.replicate 12 none
  statics := none }

def pool4 : Array CpInfo := pool [(1, .class_ 2), (0, u "java/io/Serializable"), (0, .class_ 4), (0, u "java/lang/Object")] 2

/-- java/io/Serializable -/
def k4 : Class := { plain "java/io/Serializable" (some 0) with
  accessFlags := 1537
  interfaces := #[]
  cf := some (fileOf pool4 1 #[] #[] 1537 3 #[] #[])
  fields := #[]
  methods := #[]
  instanceTypes := #[]
  staticTypes := #[]
  resolved := Array.replicate 7 none
  statics := none }

def pool5 : Array CpInfo := pool [(2, .class_ 4), (1, u "java/lang/Enum"), (0, u "name"), (0, u "Ljava/lang/String;"), (0, .fieldref 2 8), (0, .nameAndType 9 10), (0, u "ordinal"), (0, u "I"), (1, .class_ 14), (1, u "java/lang/Object"), (4, u "hash"), (86, .class_ 108), (1, u "java/lang/Enum$EnumDesc"), (2, .class_ 112), (0, u "java/lang/constant/Constable"), (0, .class_ 114), (0, u "java/lang/Comparable"), (0, .class_ 116), (0, u "java/io/Serializable"), (9, u "()I")] 77

def k5c0 : Code := { maxStack := 1, maxLocals := 1, code := jdk_37_method_2_code, exceptionTable := #[], attributes := #[] }
def k5m0 : Method := { name := "ordinal", desc := "()I", sig := { parameters := [], returnType := some .int }, accessFlags := 17, code := some k5c0 }
/-- java/lang/Enum -/
def k5 : Class := { plain "java/lang/Enum" (some 0) with
  accessFlags := 1057
  interfaces := #[2, 3, 4]
  cf := some (fileOf pool5 2 #[.nestMembers #[106]] #[{ accessFlags := 17, nameIndex := 9, descriptorIndex := 126, attributes := #[] }] 1057 12 #[111, 113, 115] #[{ accessFlags := 18, nameIndex := 5, descriptorIndex := 6, attributes := #[] }, { accessFlags := 18, nameIndex := 9, descriptorIndex := 10, attributes := #[] }, { accessFlags := 2, nameIndex := 19, descriptorIndex := 10, attributes := #[] }])
  fields := #[{ name := "name", type := (.object "java/lang/String"), accessFlags := 18, slot := 0, constantValue := 0 }, { name := "ordinal", type := .int, accessFlags := 18, slot := 1, constantValue := 0 }, { name := "hash", type := .int, accessFlags := 2, slot := 2, constantValue := 0 }]
  methods := #[k5m0]
  instanceTypes := #[(.object "java/lang/String"), .int, .int]
  staticTypes := #[]
  resolved := Array.replicate 204 none
  statics := none }

def pool6 : Array CpInfo := pool [(1, .class_ 2), (0, u "com/example/keyfold/keyfold/sql/Condition$Operator"), (2, u "EQUAL"), (0, u "Lcom/example/keyfold/keyfold/sql/Condition$Operator;"), (2, u "NOT_EQUAL"), (2, u "LESS"), (2, u "LESS_OR_EQUAL"), (2, u "GREATER"), (2, u "GREATER_OR_EQUAL"), (2, u "$VALUES"), (0, u "[Lcom/example/keyfold/keyfold/sql/Condition$Operator;"), (6, .class_ 34), (1, u "java/lang/Enum"), (8, u "symbols"), (0, u "[Ljava/lang/String;"), (24, .methodref 1 70), (0, .nameAndType 71 72), (0, u "ordinal"), (0, u "()I"), (52, u "holds"), (0, u "(I)Z"), (9, .class_ 137), (0, u "com/example/keyfold/keyfold/sql/Condition")] 21

def k6c0 : Code := { maxStack := 4, maxLocals := 2, code := prog_55_method_5_code, exceptionTable := #[], attributes := #[] }
def k6m0 : Method := { name := "holds", desc := "(I)Z", sig := { parameters := [.int], returnType := some .boolean }, accessFlags := 1, code := some k6c0 }
/-- com/example/keyfold/keyfold/sql/Condition$Operator -/
def k6 : Class := { plain "com/example/keyfold/keyfold/sql/Condition$Operator" (some 5) with
  accessFlags := 16433
  interfaces := #[]
  cf := some (fileOf pool6 1 #[.nestHost 136] #[{ accessFlags := 1, nameIndex := 125, descriptorIndex := 126, attributes := #[] }] 16433 32 #[] #[{ accessFlags := 16409, nameIndex := 5, descriptorIndex := 6, attributes := #[] }, { accessFlags := 16409, nameIndex := 9, descriptorIndex := 6, attributes := #[] }, { accessFlags := 16409, nameIndex := 12, descriptorIndex := 6, attributes := #[] }, { accessFlags := 16409, nameIndex := 15, descriptorIndex := 6, attributes := #[] }, { accessFlags := 16409, nameIndex := 18, descriptorIndex := 6, attributes := #[] }, { accessFlags := 16409, nameIndex := 21, descriptorIndex := 6, attributes := #[] }, { accessFlags := 18, nameIndex := 43, descriptorIndex := 44, attributes := #[] }, { accessFlags := 4122, nameIndex := 24, descriptorIndex := 25, attributes := #[] }])
  fields := #[{ name := "EQUAL", type := (.object "com/example/keyfold/keyfold/sql/Condition$Operator"), accessFlags := 16409, slot := 0, constantValue := 0 }, { name := "NOT_EQUAL", type := (.object "com/example/keyfold/keyfold/sql/Condition$Operator"), accessFlags := 16409, slot := 1, constantValue := 0 }, { name := "LESS", type := (.object "com/example/keyfold/keyfold/sql/Condition$Operator"), accessFlags := 16409, slot := 2, constantValue := 0 }, { name := "LESS_OR_EQUAL", type := (.object "com/example/keyfold/keyfold/sql/Condition$Operator"), accessFlags := 16409, slot := 3, constantValue := 0 }, { name := "GREATER", type := (.object "com/example/keyfold/keyfold/sql/Condition$Operator"), accessFlags := 16409, slot := 4, constantValue := 0 }, { name := "GREATER_OR_EQUAL", type := (.object "com/example/keyfold/keyfold/sql/Condition$Operator"), accessFlags := 16409, slot := 5, constantValue := 0 }, { name := "symbols", type := (.array (.object "java/lang/String")), accessFlags := 18, slot := 3, constantValue := 0 }, { name := "$VALUES", type := (.array (.object "com/example/keyfold/keyfold/sql/Condition$Operator")), accessFlags := 4122, slot := 6, constantValue := 0 }]
  methods := #[k6m0]
  instanceTypes := #[(.object "java/lang/String"), .int, .int, (.array (.object "java/lang/String"))]
  staticTypes := #[(.object "com/example/keyfold/keyfold/sql/Condition$Operator"), (.object "com/example/keyfold/keyfold/sql/Condition$Operator"), (.object "com/example/keyfold/keyfold/sql/Condition$Operator"), (.object "com/example/keyfold/keyfold/sql/Condition$Operator"), (.object "com/example/keyfold/keyfold/sql/Condition$Operator"), (.object "com/example/keyfold/keyfold/sql/Condition$Operator"), (.array (.object "com/example/keyfold/keyfold/sql/Condition$Operator"))]
  resolved := Array.replicate 159 none
  statics := some 0 }

def pool7 : Array CpInfo := pool [(1, u "java/lang/Cloneable"), (0, .class_ 1), (0, u "java/lang/Object"), (0, .class_ 3)] 3

/-- java/lang/Cloneable -/
def k7 : Class := { plain "java/lang/Cloneable" (some 0) with
  accessFlags := 1537
  interfaces := #[]
  cf := some (fileOf pool7 2 #[] #[] 1537 4 #[] #[])
  fields := #[]
  methods := #[]
  instanceTypes := #[]
  staticTypes := #[]
  resolved := Array.replicate 8 none
  statics := none }

/-- the primitive byte -/
def k8 : Class := { plain "byte" none with kind := .primitive 'B', accessFlags := 0x411 }
/-- [B -/
def k9 : Class := { plain "[B" (some 0) with kind := .array 8 .byte, interfaces := #[7, 4], accessFlags := 1041 }

/-- the primitive int -/
def k10 : Class := { plain "int" none with kind := .primitive 'I', accessFlags := 0x411 }
/-- [I -/
def k11 : Class := { plain "[I" (some 0) with kind := .array 10 .int, interfaces := #[7, 4], accessFlags := 1041 }

def heap : Heap := #[{ cls := 6, slots := #[.ref 1, .ref 2, .ref 3, .ref 4, .ref 5, .ref 6, .null], vm := .statics 6 },
  { cls := 6, slots := #[.null, .int 0, .int 0, .null], vm := .none },
  { cls := 6, slots := #[.null, .int 1, .int 0, .null], vm := .none },
  { cls := 6, slots := #[.null, .int 2, .int 0, .null], vm := .none },
  { cls := 6, slots := #[.null, .int 3, .int 0, .null], vm := .none },
  { cls := 6, slots := #[.null, .int 4, .int 0, .null], vm := .none },
  { cls := 6, slots := #[.null, .int 5, .int 0, .null], vm := .none }]
def classes : Array Class := #[k0, k1, k2, k3, k4, k5, k6, k7, k8, k9, k10, k11]
def interned : List (Array UInt16 × Addr) := []
def slotsUsed : Nat := 31
def theMethod : MethodId := ⟨1, 3⟩
def args0 : Array Value := #[.int 5, .int 3]
def aboutOver (below : List Frame) : State where
  vm := { classes := classes, interned := interned.toArray }
  heap := heap
  slotsUsed := slotsUsed
  threads := #[{ frames := .invoking theMethod args0 :: below }]
def below0 : List Frame := [.native { method := ⟨0, 0⟩, args := #[] }]
def about1 : State := aboutOver below0
def p0 : Program := .bare "" "" ""
def e0 : Env := launch0.env 0 0 0
theorem w_frames : about1.frames = Frame.invoking theMethod args0 :: below0 := rfl
set_option maxRecDepth 65536 in
theorem w_args : argsFit about1.vm theMethod args0 = true := by decide +kernel
set_option maxRecDepth 65536 in
theorem w_heap : heapFits about1 = true := by decide +kernel
set_option maxRecDepth 65536 in
theorem w_runnable : about1.curStatus? = some .runnable := by decide +kernel
set_option maxRecDepth 65536 in
theorem w_alone : about1.alone = true := by decide +kernel
set_option maxRecDepth 65536 in
theorem w_named : about1.methodNamed? x = some theMethod := by decide +kernel
set_option maxRecDepth 65536 in
theorem w_hears : about1.hears theMethod below0 = true := by decide +kernel
set_option maxRecDepth 65536 in
theorem w_ripe : about1.ripe theMethod args0 below0 = true := by decide +kernel
theorem w_running : about1.status = .running := rfl
set_option maxRecDepth 65536 in
theorem w_room : about1.hasRoom e0.platform room_1 = true :=
  launch0.hasRoom_least _ room_1 (by decide +kernel) (by decide +kernel) (by decide +kernel) (by decide +kernel) (by decide +kernel) (by decide +kernel)
theorem allAtoms_all (ts : List Jvm.Cond) (a : Array Jvm.Value) (st : Jvm.State) : (allAtoms ts).before a st = ts.all (fun c => c.before a st) := by
  induction ts with
  | nil => rfl
  | cons c t ih =>
    show (Jvm.Cond.and c (allAtoms t)).before a st = _
    rw [Jvm.Cond.before_and, ih, List.all_cons]
def words1 : List Jvm.Cond := Jvm.Cond.code x code maxLocals ret :: tables_1
/-- a 'code' word, met by the world's own term for the bytes: nothing is compared byte by byte -/
theorem code_word {y : MethodName} {bytes : ByteArray} {mx : Nat} {rt : Option FieldType} {a : Array Value} {s : State} {m : MethodId} {meth : Method} {c : Code} (h1 : s.methodNamed? y = some m) (h2 : s.vm.method? m = some meth) (h3 : meth.code = some c) (h4 : c.code = bytes)
    (h5 : (c.maxLocals == mx && c.exceptionTable.isEmpty && decide (c.maxStack ≤ mostOperands) && decide (meth.sig.returnType = rt) && !meth.locks && decide (parseMethodDescriptor y.desc = some meth.sig)) = true) : (Jvm.Cond.code y bytes mx rt).before a s = true := by
  simp only [Bool.and_eq_true, beq_iff_eq, Bool.not_eq_true', decide_eq_true_eq] at h5
  obtain ⟨⟨⟨⟨⟨g1, g2⟩, g3⟩, g4⟩, g5⟩, g6⟩ := h5
  simp [Cond.before, Cond.holds, Cond.value, h1, h2, h3, h4, g1, g2, g3, g4, g5, g6]
def isCode : Jvm.Cond → Bool
  | .code _ _ _ _ => true
  | _ => false
theorem all_split {L : List Jvm.Cond} {P : Jvm.Cond → Bool} (h1 : L.all (fun c => isCode c || P c) = true) (h2 : ∀ c ∈ L.filter isCode, P c = true) : L.all P = true := by
  refine List.all_eq_true.mpr fun c hc => ?_
  have h := List.all_eq_true.mp h1 c hc
  rcases Bool.eq_false_or_eq_true (isCode c) with hi | hi
  · exact h2 c (List.mem_filter.mpr ⟨hc, hi⟩)
  · simpa [hi] using h
set_option maxRecDepth 65536 in
theorem w_c0 : (Jvm.Cond.code x code maxLocals ret).before args0 about1 = true := code_word (m := ⟨1, 3⟩) (meth := k1m3) (c := k1c3) (by decide +kernel) rfl rfl rfl (by decide +kernel)
set_option maxRecDepth 65536 in
theorem w_c1 : (Jvm.Cond.code ({ cls := "com/example/keyfold/keyfold/sql/OperatorHoldsPinLaw", name := "admits", desc := "(I)I" } : Jvm.MethodName) method_3_code (1 : Nat) (Option.some Jvm.ClassFile.FieldType.int)).before args0 about1 = true := code_word (m := ⟨1, 2⟩) (meth := k1m2) (c := k1c2) (by decide +kernel) rfl rfl rfl (by decide +kernel)
set_option maxRecDepth 65536 in
theorem w_c2 : (Jvm.Cond.code ({ cls := "com/example/keyfold/keyfold/sql/OperatorHoldsPinLaw", name := "op", desc := "(I)Lcom/example/keyfold/keyfold/sql/Condition$Operator;" } : Jvm.MethodName) method_2_code (1 : Nat) (Option.some (Jvm.ClassFile.FieldType.object "com/example/keyfold/keyfold/sql/Condition$Operator"))).before args0 about1 = true := code_word (m := ⟨1, 1⟩) (meth := k1m1) (c := k1c1) (by decide +kernel) rfl rfl rfl (by decide +kernel)
set_option maxRecDepth 65536 in
theorem w_c3 : (Jvm.Cond.code ({ cls := "com/example/keyfold/keyfold/sql/Condition$Operator", name := "holds", desc := "(I)Z" } : Jvm.MethodName) prog_55_method_5_code (2 : Nat) (Option.some Jvm.ClassFile.FieldType.boolean)).before args0 about1 = true := code_word (m := ⟨6, 0⟩) (meth := k6m0) (c := k6c0) (by decide +kernel) rfl rfl rfl (by decide +kernel)
set_option maxRecDepth 65536 in
theorem w_c4 : (Jvm.Cond.code ({ cls := "java/lang/Enum", name := "ordinal", desc := "()I" } : Jvm.MethodName) jdk_37_method_2_code (1 : Nat) (Option.some Jvm.ClassFile.FieldType.int)).before args0 about1 = true := code_word (m := ⟨5, 0⟩) (meth := k5m0) (c := k5c0) (by decide +kernel) rfl rfl rfl (by decide +kernel)
def codes1 : List Jvm.Cond := [Jvm.Cond.code x code maxLocals ret, Jvm.Cond.code ({ cls := "com/example/keyfold/keyfold/sql/OperatorHoldsPinLaw", name := "admits", desc := "(I)I" } : Jvm.MethodName) method_3_code (1 : Nat) (Option.some Jvm.ClassFile.FieldType.int), Jvm.Cond.code ({ cls := "com/example/keyfold/keyfold/sql/OperatorHoldsPinLaw", name := "op", desc := "(I)Lcom/example/keyfold/keyfold/sql/Condition$Operator;" } : Jvm.MethodName) method_2_code (1 : Nat) (Option.some (Jvm.ClassFile.FieldType.object "com/example/keyfold/keyfold/sql/Condition$Operator")), Jvm.Cond.code ({ cls := "com/example/keyfold/keyfold/sql/Condition$Operator", name := "holds", desc := "(I)Z" } : Jvm.MethodName) prog_55_method_5_code (2 : Nat) (Option.some Jvm.ClassFile.FieldType.boolean), Jvm.Cond.code ({ cls := "java/lang/Enum", name := "ordinal", desc := "()I" } : Jvm.MethodName) jdk_37_method_2_code (1 : Nat) (Option.some Jvm.ClassFile.FieldType.int)]
set_option maxRecDepth 65536 in
theorem codes_eq : words1.filter isCode = codes1 := rfl
theorem w_codes : ∀ c ∈ words1.filter isCode, c.before args0 about1 = true := by
  rw [codes_eq]
  intro c hc
  simp only [codes1, List.mem_cons, List.not_mem_nil, or_false] at hc
  rcases hc with rfl | rfl | rfl | rfl | rfl
  · exact w_c0
  · exact w_c1
  · exact w_c2
  · exact w_c3
  · exact w_c4
set_option maxRecDepth 65536 in
theorem w_t1 : (words1.take 24).all (fun c => isCode c || c.before args0 about1) = true := by decide +kernel
set_option maxRecDepth 65536 in
theorem w_t2 : (words1.drop 24).all (fun c => isCode c || c.before args0 about1) = true := by decide +kernel
theorem w_tables : (allAtoms (Jvm.Cond.code x code maxLocals ret :: tables_1)).before args0 about1 = true := by
  rw [allAtoms_all]
  show words1.all (fun c => c.before args0 about1) = true
  refine all_split ?_ w_codes
  rw [← List.take_append_drop 24 words1, List.all_append, w_t1, w_t2]
  rfl
set_option maxRecDepth 65536 in
theorem w_case : (Jvm.Cond.and given_1 narrow_1).before args0 about1 = true := by decide +kernel
theorem w_applies : (headSpec (Jvm.Cond.code x code maxLocals ret :: tables_1) room_1).applies x e0.platform about1 = true :=
  (Spec.applies_iff w_frames).mpr ⟨w_running, w_runnable, w_alone, w_named, w_hears, w_ripe, w_room, w_tables⟩
theorem atStart : AtStart classFile x code maxLocals ret World_1 tables_1 room_1 Calls_1 rest_1 Pre_1 launch0 p0 e0 about1 theMethod args0 below0 :=
  ⟨lists_1, trivial, launch0.admits_env _ _ _, launch0.least_env, fairChoices_fair.cas, fairChoices_fair.clock, w_frames, w_args, w_heap, w_applies, trivial, trivial, w_case⟩
end start1
theorem witness_1 : WitnessClaimed_1 := ⟨start1.p0, start1.e0, start1.about1, start1.theMethod, start1.args0, start1.below0, start1.atStart⟩
end Jvm.Pilot.@@N@@
