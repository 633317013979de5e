import JvmDerived
import JvmDerived.Pilot.@@N@@Statement
import JvmDerived.Pilot.@@N@@Code
set_option linter.unusedVariables false
set_option linter.unusedSimpArgs false
namespace Jvm.Pilot.@@N@@
open Jvm Jvm.ClassFile Sem Op Lib Jvm.Free Jvm.Stand Jvm.LawKit Jvm.RoadKit Bundle Jvm.Pilot.@@N@@.Jvm.D

section OwnKit
variable {p : Program} {l : Launch} {e : Env} {R : Room} {s : State} {m : MethodId} {args : Array Value} {below : List Frame} {meth : Method} {c : Code} {T T' : State} {locs : List Loc} {cells slots : Nat} {g g' : JFrame} {Q : Option Value → Heap → List Loc → Prop} {k n : Nat} {Z : State} {h : Heap} {a0 : Array Value}
/-- from here the run comes to the method's end, and there Q holds -/
def Go (p : Program) (e : Env) (s : State) (below : List Frame) (Q : Option Value → Heap → List Loc → Prop) (k n : Nat) (T : State) (g : JFrame) : Prop :=
  ∃ s₂ o, Steps p.tables e below (T.setTop g) s₂ ∧ s₂.status = .running ∧ Ended s₂ below o ∧ ∃ v L, o = .returned v ∧ Q v s₂.heap L ∧ FrameEnd s o s₂ L k n
theorem Go.st (st : ∀ t, Steps p.tables e below (T'.setTop g') t → Steps p.tables e below (T.setTop g) t) (G : Go p e s below Q k n T' g') : Go p e s below Q k n T g := by
  obtain ⟨t, o, h1, r⟩ := G
  exact ⟨t, o, st _ h1, r⟩
theorem Go.thru (st : Steps p.tables e below (T.setTop g) (T'.setTop g')) (G : Go p e s below Q k n T' g') : Go p e s below Q k n T g := Go.st (fun _ q => st.trans q) G
theorem Go.cast (q : g = g') (G : Go p e s below Q k n T g') : Go p e s below Q k n T g := q ▸ G
theorem Go.end_ (X : Stand p l e R s m args below meth c T locs cells slots) {v : Option Value} (hv : meth.sig.returnType = none → v = none) (hlk : meth.locks = false)
    (st : ∀ fs, (∀ (f : JFrame) (acts : List Action), f.method = m → f.locked = none → f.entered = [] → (doReturn e (T.setTop f) acts v).1 = T.setFrames fs) → Steps p.tables e below (T.setTop g) (T.setFrames fs))
    (hk : cells ≤ k) (hn : slots ≤ n) (hQ : Q v T.heap locs) : Go p e s below Q k n T g := by
  obtain ⟨fs, hr, hrun, hended, hW, hsame⟩ := X.leave (v := v) hv hlk
  exact ⟨_, _, st fs hr, hrun, hended, _, _, rfl, hQ, ⟨_, rfl⟩, hW, hsame.mono hk hn⟩
theorem own_some {t : FieldType} {v : Option Value} (h : meth.sig.returnType = some t) : meth.sig.returnType = none → v = none := fun q => by rw [h] at q; cases q
/-- ireturn of a boolean (also byte, char, short) -/
theorem Go.retN (X : Stand p l e R s m args below meth c T locs cells slots) (hx : p.tables.exec = Jvm.exec) (hlk : meth.locks = false) {t : FieldType} (hret : meth.sig.returnType = some t) (ht : t = .boolean ∨ t = .byte ∨ t = .char ∨ t = .short) {pc : Nat} {Ls : Array Slot} {z : Int32} {rest : List Value}
    (hd : decode c.code pc = .ok (.ireturn, 1)) (hk : cells ≤ k) (hn : slots ≤ n) (hQ : Q (some (.int (nar t z))) T.heap locs) : Go p e s below Q k n T (mkF m pc Ls (.int z :: rest)) :=
  Go.end_ X (own_some hret) hlk (fun _ hr => Jvm.RoadKit.retN X hx hret ht hd hr) hk hn hQ
theorem Go.retI (X : Stand p l e R s m args below meth c T locs cells slots) (hx : p.tables.exec = Jvm.exec) (hlk : meth.locks = false) (hret : meth.sig.returnType = some .int) {pc : Nat} {Ls : Array Slot} {z : Int32} {rest : List Value}
    (hd : decode c.code pc = .ok (.ireturn, 1)) (hk : cells ≤ k) (hn : slots ≤ n) (hQ : Q (some (.int z)) T.heap locs) : Go p e s below Q k n T (mkF m pc Ls (.int z :: rest)) :=
  Go.end_ X (own_some hret) hlk (fun _ hr => Jvm.RoadKit.retOut X hx hret rfl (Or.inl ⟨rfl, Or.inl rfl, _, rfl⟩) hd hr) hk hn hQ
theorem Go.retJ (X : Stand p l e R s m args below meth c T locs cells slots) (hx : p.tables.exec = Jvm.exec) (hlk : meth.locks = false) (hret : meth.sig.returnType = some .long) {pc : Nat} {Ls : Array Slot} {z : Int64} {rest : List Value}
    (hd : decode c.code pc = .ok (.lreturn, 1)) (hk : cells ≤ k) (hn : slots ≤ n) (hQ : Q (some (.long z)) T.heap locs) : Go p e s below Q k n T (mkF m pc Ls (.long z :: rest)) :=
  Go.end_ X (own_some hret) hlk (fun _ hr => Jvm.RoadKit.retOut X hx hret rfl (Or.inr (Or.inl ⟨rfl, rfl, _, rfl⟩)) hd hr) hk hn hQ
theorem own_narR {t : FieldType} {v : Value} (ht : t.isReference = true) (hv : v.isRef = true) : narrow t v = v := by
  rcases ref_cases hv with rfl | ⟨a, rfl⟩ <;> cases t <;> rfl
theorem Go.retA (X : Stand p l e R s m args below meth c T locs cells slots) (hx : p.tables.exec = Jvm.exec) (hlk : meth.locks = false) {t : FieldType} (hret : meth.sig.returnType = some t) (ht : t.isReference = true) {pc : Nat} {Ls : Array Slot} {v : Value} {rest : List Value} (hv : v.isRef = true)
    (hd : decode c.code pc = .ok (.areturn, 1)) (hk : cells ≤ k) (hn : slots ≤ n) (hQ : Q (some v) T.heap locs) : Go p e s below Q k n T (mkF m pc Ls (v :: rest)) :=
  Go.end_ X (own_some hret) hlk (fun _ hr => Jvm.RoadKit.retOut X hx hret (own_narR ht hv) (Or.inr (Or.inr (Or.inr (Or.inr ⟨rfl, ht, hv⟩)))) hd hr) hk hn hQ
theorem Go.retV (X : Stand p l e R s m args below meth c T locs cells slots) (hx : p.tables.exec = Jvm.exec) (hlk : meth.locks = false) (hret : meth.sig.returnType = none) {pc : Nat} {Ls : Array Slot}
    (hd : decode c.code pc = .ok (.return_, 1)) (hk : cells ≤ k) (hn : slots ≤ n) (hQ : Q none T.heap locs) : Go p e s below Q k n T (mkF m pc Ls []) :=
  Go.end_ X (fun _ => rfl) hlk (fun _ hr => X.returnOut hx hret hd hr) hk hn hQ
/-- a body's contract -/
def Meets (l : Launch) (Z : State) (y : MethodName) (bytes : ByteArray) (maxL : Nat) (ret : Option FieldType) (rm : Room) (ws : List Jvm.Cond) (as' : Array Value) (h : Heap) (Q : Option Value → Heap → List Loc → Prop) : Prop :=
  MetFree l y (head1 (Jvm.Cond.code y bytes maxL ret :: ws) rm) (fun a U => a = as' ∧ Z.Warmed39 U.vm ∧ U.heap = h) (fun _ _ _ _ _ => True) (fun _ U o U' => ∃ v L, o = .returned v ∧ Q v U'.heap L ∧ FrameEnd U o U' L rm.cells rm.slots)
theorem Meets.of {y : MethodName} {bytes : ByteArray} {maxL : Nat} {ret : Option FieldType} {rm : Room} {ws : List Jvm.Cond} {as' : Array Value} (hpl : plainFor y = true)
    (body : ∀ (p : Program) (e : Env) (s : State) (m : MethodId) (below : List Frame) (meth : Method) (c : Code) (s₁ : State), Stand p l e rm s m as' below meth c s₁ [] 0 0 → p.tables.exec = Jvm.exec → c.code = bytes → c.maxLocals = maxL → meth.sig.returnType = ret → meth.locks = false → meth.name = y.name → Z.Warmed39 s.vm → s.vm.findClass y.cls = some m.cls → s₁.heap = h →
      Go p e s below Q rm.cells rm.slots s₁ (entryFrame m as' maxL)) : Meets l Z y bytes maxL ret rm ws as' h Q := by
  unfold Meets
  refine MetFree.of_bodySF hpl hisR ?_
  intro p e s m args below meth c s₁ Bd hml0 hP hK
  obtain ⟨rfl, hZ, hh⟩ := hP
  exact body p e s m below meth c s₁ (Stand.of_body Bd) Bd.exec Bd.bytes hml0 Bd.returns Bd.notSynchronized (name_of_methodNamed Bd.named Bd.method).1 hZ (findClass_of_methodNamed Bd.named) (by rw [← hh, Bd.state]; rfl)
section Calls
variable {y z : MethodName} {own C : String} {index : Nat} {bytes : ByteArray} {maxL : Nat} {ret : Option FieldType} {rm : Room} {W : Nat} {Q0 : Option Value → Heap → List Loc → Prop} {b : Addr} {argsL rest : List Value} {pc : Nat} {Ls : Array Slot}
theorem Go.callS (X : Stand p l e R s m args below meth c T locs cells slots) (hx : p.tables.exec = Jvm.exec) (hZ : Z.Warmed39 s.vm) (hown : s.vm.findClass own = some m.cls)
    (w1 : (Jvm.Cond.methodLink own index y).before a0 Z = true) (w2 : (Jvm.Cond.static y).before a0 Z = true) (w3 : (Jvm.Cond.initialized y.cls).before a0 Z = true) (w4 : (Jvm.Cond.code y bytes maxL ret).before a0 Z = true)
    (hM : Meets l Z y bytes maxL ret rm [] argsL.toArray h Q0) (eT : T.heap = h) (hy : y.cls ≠ "java/lang/invoke/MethodHandle" ∧ y.cls ≠ "java/lang/invoke/VarHandle")
    (hf : rm.frames + 1 ≤ R.frames) (hl : W + (maxL + 11) + rm.locals ≤ R.locals) (hcl : cells + rm.cells ≤ R.cells) (hsl : slots + rm.slots ≤ R.slots)
    (hsize : Ls.size = c.maxLocals) (hlen : ∀ sig, parseMethodDescriptor y.desc = some sig → argsL.length = sig.parameters.length) (hW : 2 * 0 + (rest.map fun v => v.category).sum ≤ W)
    (hd : decode c.code pc = .ok (.invokestatic index, 3))
    (next : ∀ (T' : State) (v : Option Value) (L : List Loc), Stand p l e R s m args below meth c T' (locs ++ L) (cells + rm.cells) (slots + rm.slots) → Q0 v T'.heap L → Go p e s below Q k n T' (mkF m (pc + 3) Ls (v.toList ++ rest))) :
    Go p e s below Q k n T (mkF m pc Ls (argsL.reverse ++ rest)) := by
  obtain ⟨v, _, ⟨T', L', k', n'⟩, -, X', ⟨Lc, hQ, l', y', z'⟩, st⟩ := Jvm.LawKit.callS X hx (y := y) hown (mvT hZ w1) (mvT hZ w2) (mvT hZ w3) (mvT hZ w4) hy (backOf (W := W) hM hZ w4 w3 hf hl) (g := mkF m pc Ls (argsL.reverse ++ rest)) rfl hsize (argsL := argsL) (rest := rest) hlen rfl hW hd (fun _ _ => ⟨rfl, eT, hcl, hsl⟩)
  dsimp only [Pt.U, Pt.locs, Pt.cells, Pt.slots] at X' l' y' z' st hQ
  subst l' y' z'
  exact Go.st st (next T' v Lc X' hQ)
theorem Go.callV (X : Stand p l e R s m args below meth c T locs cells slots) (hx : p.tables.exec = Jvm.exec) (hZ : Z.Warmed39 s.vm) (hown : s.vm.findClass own = some m.cls)
    (w1 : (Jvm.Cond.methodLink own index y).before a0 Z = true) (w2 : (Jvm.Cond.declares y).before a0 Z = true) (hnf : NotFace s y) (w3 : (Jvm.Cond.selects C y z).before a0 Z = true) (w4 : (Jvm.Cond.instanceMethod z).before a0 Z = true) (w5 : (Jvm.Cond.initialized z.cls).before a0 Z = true) (w6 : (Jvm.Cond.code z bytes maxL ret).before a0 Z = true)
    (hM : Meets l Z z bytes maxL ret rm [] (.ref b :: argsL).toArray h Q0) (eT : T.heap = h) (E : Exa Z h b C) (hy : y.cls ≠ "java/lang/invoke/MethodHandle" ∧ y.cls ≠ "java/lang/invoke/VarHandle")
    (hf : rm.frames + 1 ≤ R.frames) (hl : W + (maxL + 11) + rm.locals ≤ R.locals) (hcl : cells + rm.cells ≤ R.cells) (hsl : slots + rm.slots ≤ R.slots)
    (hsize : Ls.size = c.maxLocals) (hlen : ∀ sig, parseMethodDescriptor y.desc = some sig → argsL.length = sig.parameters.length) (hW : 2 * 0 + (rest.map fun v => v.category).sum ≤ W)
    (hd : decode c.code pc = .ok (.invokevirtual index, 3))
    (next : ∀ (T' : State) (v : Option Value) (L : List Loc), Stand p l e R s m args below meth c T' (locs ++ L) (cells + rm.cells) (slots + rm.slots) → Q0 v T'.heap L → Go p e s below Q k n T' (mkF m (pc + 3) Ls (v.toList ++ rest))) :
    Go p e s below Q k n T (mkF m pc Ls (argsL.reverse ++ .ref b :: rest)) := by
  obtain ⟨cq, kq, qa, qb, qc⟩ := isOf hZ eT E
  obtain ⟨v, _, ⟨T', L', k', n'⟩, -, X', ⟨Lc, hQ, l', y', z'⟩, st⟩ := X.virtualBack hx (y := y) (z := z) hown (mvT hZ w1) (mvT hZ w2) hnf (mvT hZ w3) (mvT hZ w4) hy (backOf (W := W) hM hZ w6 w5 hf hl) qa qc (g := mkF m pc Ls (argsL.reverse ++ .ref b :: rest)) rfl hsize (Steps.refl _) (argsL := argsL) (rest := rest) hlen rfl hW hd (fun _ _ => ⟨rfl, eT, hcl, hsl⟩)
  dsimp only [Pt.U, Pt.locs, Pt.cells, Pt.slots] at X' l' y' z' st hQ
  subst l' y' z'
  exact Go.thru st (next T' v Lc X' hQ)
/-- an inherited method, named through the subclass -/
theorem Go.callU {owner : String} {x' : MethodName} (X : Stand p l e R s m args below meth c T locs cells slots) (hx : p.tables.exec = Jvm.exec) (hZ : Z.Warmed39 s.vm) (hown : s.vm.findClass own = some m.cls)
    (w1 : (Jvm.Cond.methodLink own index x').before a0 Z = true) (w2 : (Jvm.Cond.sameMethod x'.cls owner x'.name x'.desc).before a0 Z = true) (w3 : (Jvm.Cond.declares ⟨owner, x'.name, x'.desc⟩).before a0 Z = true) (w4 : (Jvm.Cond.selects C x' z).before a0 Z = true) (w5 : (Jvm.Cond.instanceMethod z).before a0 Z = true) (w6 : (Jvm.Cond.initialized z.cls).before a0 Z = true) (w7 : (Jvm.Cond.code z bytes maxL ret).before a0 Z = true)
    (hM : Meets l Z z bytes maxL ret rm [] (.ref b :: argsL).toArray h Q0) (eT : T.heap = h) (E : Exa Z h b C) (hy : owner ≠ "java/lang/invoke/MethodHandle" ∧ owner ≠ "java/lang/invoke/VarHandle")
    (hf : rm.frames + 1 ≤ R.frames) (hl : W + (maxL + 11) + rm.locals ≤ R.locals) (hcl : cells + rm.cells ≤ R.cells) (hsl : slots + rm.slots ≤ R.slots)
    (hsize : Ls.size = c.maxLocals) (hlen : ∀ sig, parseMethodDescriptor x'.desc = some sig → argsL.length = sig.parameters.length) (hW : 2 * 0 + (rest.map fun v => v.category).sum ≤ W)
    (hd : decode c.code pc = .ok (.invokevirtual index, 3))
    (next : ∀ (T' : State) (v : Option Value) (L : List Loc), Stand p l e R s m args below meth c T' (locs ++ L) (cells + rm.cells) (slots + rm.slots) → Q0 v T'.heap L → Go p e s below Q k n T' (mkF m (pc + 3) Ls (v.toList ++ rest))) :
    Go p e s below Q k n T (mkF m pc Ls (argsL.reverse ++ .ref b :: rest)) := by
  obtain ⟨cq, kq, qa, qb, qc⟩ := isOf hZ eT E
  obtain ⟨v, _, ⟨T', L', k', n'⟩, -, X', ⟨Lc, hQ, l', y', z'⟩, st⟩ := X.virtualBackUp hx (x := x') (y := z) hown (mvT hZ w1) (mvT hZ w2) (mvT hZ w3) hy (mvT hZ w4) (mvT hZ w5) (backOf (W := W) hM hZ w7 w6 hf hl) qa qc (g := mkF m pc Ls (argsL.reverse ++ .ref b :: rest)) rfl hsize (Steps.refl _) (argsL := argsL) (rest := rest) hlen rfl hW hd (fun _ _ => ⟨rfl, eT, hcl, hsl⟩)
  dsimp only [Pt.U, Pt.locs, Pt.cells, Pt.slots] at X' l' y' z' st hQ
  subst l' y' z'
  exact Go.thru st (next T' v Lc X' hQ)
/-- a constructor -/
theorem Go.callC (X : Stand p l e R s m args below meth c T locs cells slots) (hx : p.tables.exec = Jvm.exec) (hZ : Z.Warmed39 s.vm) (hy1 : y.name = "<init>") (hown : s.vm.findClass own = some m.cls)
    (w1 : (Jvm.Cond.methodLink own index y).before a0 Z = true) (w2 : (Jvm.Cond.instanceMethod y).before a0 Z = true) (w3 : (Jvm.Cond.initialized y.cls).before a0 Z = true) (w4 : (Jvm.Cond.code y bytes maxL none).before a0 Z = true)
    (hM : Meets l Z y bytes maxL none rm [] (.ref b :: argsL).toArray h Q0) (eT : T.heap = h) (hy : y.cls ≠ "java/lang/invoke/MethodHandle" ∧ y.cls ≠ "java/lang/invoke/VarHandle")
    (hf : rm.frames + 1 ≤ R.frames) (hl : W + (maxL + 11) + rm.locals ≤ R.locals) (hcl : cells + rm.cells ≤ R.cells) (hsl : slots + rm.slots ≤ R.slots)
    (hsize : Ls.size = c.maxLocals) (hlen : ∀ sig, parseMethodDescriptor y.desc = some sig → argsL.length = sig.parameters.length) (hW : 2 * 0 + (rest.map fun v => v.category).sum ≤ W)
    (hd : decode c.code pc = .ok (.invokespecial index, 3))
    (next : ∀ (T' : State) (v : Option Value) (L : List Loc), Stand p l e R s m args below meth c T' (locs ++ L) (cells + rm.cells) (slots + rm.slots) → Q0 v T'.heap L → Go p e s below Q k n T' (mkF m (pc + 3) Ls (v.toList ++ rest))) :
    Go p e s below Q k n T (mkF m pc Ls (argsL.reverse ++ .ref b :: rest)) := by
  obtain ⟨v, _, ⟨T', L', k', n'⟩, -, X', ⟨Lc, hQ, l', y', z'⟩, st⟩ := X.specialBack hx (y := y) hy1 hown (mvT hZ w1) (mvT hZ w2) (mvT hZ w4) hy (backOf (W := W) hM hZ w4 w3 hf hl) (g := mkF m pc Ls (argsL.reverse ++ .ref b :: rest)) rfl hsize (Steps.refl _) (a := b) (argsL := argsL) (rest := rest) hlen rfl hW hd (fun _ _ => ⟨rfl, eT, hcl, hsl⟩)
  dsimp only [Pt.U, Pt.locs, Pt.cells, Pt.slots] at X' l' y' z' st hQ
  subst l' y' z'
  exact Go.thru st (next T' v Lc X' hQ)
end Calls
end OwnKit

theorem own_eqI {args : Array Value} {Z : State} {t : Term} {i : Int32} (h : (Jvm.Cond.eq t (.int i)).value args Z none Z [] = some true) : t.eval args Z none [] Z = some (.int i) := by
  simp only [Cond.value, Term.eval] at h
  cases ht : t.eval args Z none [] Z with
  | none => simp [ht] at h
  | some x => cases x <;> simp_all
theorem own_const {C nm d : String} {i : Int32} {args : Array Value} {Z : State} (w1 : (Jvm.Cond.exactly (.static C nm d) C).value args Z none Z [] = some true)
    (w2 : (Jvm.Cond.eq (.field (.static C nm d) "java/lang/Enum" "ordinal" "I") (.int i)).value args Z none Z [] = some true) (hi : (Jvm.Cond.initialized C).before args Z = true) (hl : (Jvm.Cond.laysStatic C nm d).before args Z = true) :
    ∃ r, (Term.static C nm d).eval args Z none [] Z = some (.ref r) ∧ Sta Z Z.heap C nm d (.ref r) ∧ Exa Z Z.heap r C ∧ Fld Z Z.heap r "java/lang/Enum" "ordinal" "I" (.int i) := by
  obtain ⟨r, er⟩ := exa_v w1
  exact ⟨r, er, Sta.start er (Or.inr ⟨hi, hl⟩), Exa.start er w1, Fld.start (by rw [← fld_at er]; exact own_eqI w2)⟩

def nms : List String := ["EQUALS", "NOT", "LESS_THAN", "LESS_THAN_EQUAL", "GREATER_THAN", "GREATER_THAN_EQUAL", "BETWEEN", "BEFORE", "AFTER", "IS_NULL", "IS_NOT_NULL", "IN", "NOT_IN", "TRUE", "FALSE", "IS_EMPTY", "IS_NOT_EMPTY", "LIKE", "NOT_LIKE", "STARTING_WITH", "ENDING_WITH", "CONTAINING"]
def ords : List Int32 := [0, 1, 2, 3, 4, 5, 6, 7, 8, 9, 10, 11, 12, 13, 14, 15, 16, 17, 18, 19, 20, 21]
/-- the enum's constants, in a heap: each static holds its own object, of exactly that class, with its ordinal -/
def Cs (Z : State) (h : Heap) (r : Nat → Addr) : Prop := ∀ (i : Nat) (nm : String) (o : Int32), nms[i]? = some nm → ords[i]? = some o → Sta Z h "com/example/predicate/predicate/query/Keyword" nm "Lcom/example/predicate/predicate/query/Keyword;" (.ref (r i)) ∧ Exa Z h (r i) "com/example/predicate/predicate/query/Keyword" ∧ Fld Z h (r i) "java/lang/Enum" "ordinal" "I" (.int o)
theorem Cs.ne {Z : State} {h : Heap} {r : Nat → Addr} (C : Cs Z h r) {i j : Nat} {n1 n2 : String} {o1 o2 : Int32} (a1 : nms[i]? = some n1) (a2 : ords[i]? = some o1) (b1 : nms[j]? = some n2) (b2 : ords[j]? = some o2) (hne : o1 ≠ o2) : ¬ (r i = r j) := (C i n1 o1 a1 a2).2.2.ne (C j n2 o2 b1 b2).2.2 (fun q => hne (Value.int.inj q))

theorem d1_0 : decode method_2_code 0 = .ok (.iload_n 0, 1) := by decide +kernel
theorem d1_1 : decode method_2_code 1 = .ok (.ifCond .ne 7, 3) := by decide +kernel
theorem d1_4 : decode method_2_code 4 = .ok (.getstatic 7, 3) := by decide +kernel
theorem d1_7 : decode method_2_code 7 = .ok (.areturn, 1) := by decide +kernel
theorem d1_8 : decode method_2_code 8 = .ok (.iload_n 0, 1) := by decide +kernel
theorem d1_9 : decode method_2_code 9 = .ok (.iconst 1, 1) := by decide +kernel
theorem d1_10 : decode method_2_code 10 = .ok (.if_icmp .ne 7, 3) := by decide +kernel
theorem d1_13 : decode method_2_code 13 = .ok (.getstatic 13, 3) := by decide +kernel
theorem d1_16 : decode method_2_code 16 = .ok (.areturn, 1) := by decide +kernel
theorem d1_17 : decode method_2_code 17 = .ok (.iload_n 0, 1) := by decide +kernel
theorem d1_18 : decode method_2_code 18 = .ok (.iconst 2, 1) := by decide +kernel
theorem d1_19 : decode method_2_code 19 = .ok (.if_icmp .ne 7, 3) := by decide +kernel
theorem d1_22 : decode method_2_code 22 = .ok (.getstatic 16, 3) := by decide +kernel
theorem d1_25 : decode method_2_code 25 = .ok (.areturn, 1) := by decide +kernel
theorem d1_26 : decode method_2_code 26 = .ok (.iload_n 0, 1) := by decide +kernel
theorem d1_27 : decode method_2_code 27 = .ok (.iconst 3, 1) := by decide +kernel
theorem d1_28 : decode method_2_code 28 = .ok (.if_icmp .ne 7, 3) := by decide +kernel
theorem d1_31 : decode method_2_code 31 = .ok (.getstatic 19, 3) := by decide +kernel
theorem d1_34 : decode method_2_code 34 = .ok (.areturn, 1) := by decide +kernel
theorem d1_35 : decode method_2_code 35 = .ok (.iload_n 0, 1) := by decide +kernel
theorem d1_36 : decode method_2_code 36 = .ok (.iconst 4, 1) := by decide +kernel
theorem d1_37 : decode method_2_code 37 = .ok (.if_icmp .ne 7, 3) := by decide +kernel
theorem d1_40 : decode method_2_code 40 = .ok (.getstatic 22, 3) := by decide +kernel
theorem d1_43 : decode method_2_code 43 = .ok (.areturn, 1) := by decide +kernel
theorem d1_44 : decode method_2_code 44 = .ok (.iload_n 0, 1) := by decide +kernel
theorem d1_45 : decode method_2_code 45 = .ok (.iconst 5, 1) := by decide +kernel
theorem d1_46 : decode method_2_code 46 = .ok (.if_icmp .ne 7, 3) := by decide +kernel
theorem d1_49 : decode method_2_code 49 = .ok (.getstatic 25, 3) := by decide +kernel
theorem d1_52 : decode method_2_code 52 = .ok (.areturn, 1) := by decide +kernel
theorem d1_53 : decode method_2_code 53 = .ok (.iload_n 0, 1) := by decide +kernel
theorem d1_54 : decode method_2_code 54 = .ok (.bipush 6, 2) := by decide +kernel
theorem d1_56 : decode method_2_code 56 = .ok (.if_icmp .ne 7, 3) := by decide +kernel
theorem d1_59 : decode method_2_code 59 = .ok (.getstatic 28, 3) := by decide +kernel
theorem d1_62 : decode method_2_code 62 = .ok (.areturn, 1) := by decide +kernel
theorem d1_63 : decode method_2_code 63 = .ok (.iload_n 0, 1) := by decide +kernel
theorem d1_64 : decode method_2_code 64 = .ok (.bipush 7, 2) := by decide +kernel
theorem d1_66 : decode method_2_code 66 = .ok (.if_icmp .ne 7, 3) := by decide +kernel
theorem d1_69 : decode method_2_code 69 = .ok (.getstatic 31, 3) := by decide +kernel
theorem d1_72 : decode method_2_code 72 = .ok (.areturn, 1) := by decide +kernel
theorem d1_73 : decode method_2_code 73 = .ok (.iload_n 0, 1) := by decide +kernel
theorem d1_74 : decode method_2_code 74 = .ok (.bipush 8, 2) := by decide +kernel
theorem d1_76 : decode method_2_code 76 = .ok (.if_icmp .ne 7, 3) := by decide +kernel
theorem d1_79 : decode method_2_code 79 = .ok (.getstatic 34, 3) := by decide +kernel
theorem d1_82 : decode method_2_code 82 = .ok (.areturn, 1) := by decide +kernel
theorem d1_83 : decode method_2_code 83 = .ok (.iload_n 0, 1) := by decide +kernel
theorem d1_84 : decode method_2_code 84 = .ok (.bipush 9, 2) := by decide +kernel
theorem d1_86 : decode method_2_code 86 = .ok (.if_icmp .ne 7, 3) := by decide +kernel
theorem d1_89 : decode method_2_code 89 = .ok (.getstatic 37, 3) := by decide +kernel
theorem d1_92 : decode method_2_code 92 = .ok (.areturn, 1) := by decide +kernel
theorem d1_93 : decode method_2_code 93 = .ok (.iload_n 0, 1) := by decide +kernel
theorem d1_94 : decode method_2_code 94 = .ok (.bipush 10, 2) := by decide +kernel
theorem d1_96 : decode method_2_code 96 = .ok (.if_icmp .ne 7, 3) := by decide +kernel
theorem d1_99 : decode method_2_code 99 = .ok (.getstatic 40, 3) := by decide +kernel
theorem d1_102 : decode method_2_code 102 = .ok (.areturn, 1) := by decide +kernel
theorem d1_103 : decode method_2_code 103 = .ok (.iload_n 0, 1) := by decide +kernel
theorem d1_104 : decode method_2_code 104 = .ok (.bipush 11, 2) := by decide +kernel
theorem d1_106 : decode method_2_code 106 = .ok (.if_icmp .ne 7, 3) := by decide +kernel
theorem d1_109 : decode method_2_code 109 = .ok (.getstatic 43, 3) := by decide +kernel
theorem d1_112 : decode method_2_code 112 = .ok (.areturn, 1) := by decide +kernel
theorem d1_113 : decode method_2_code 113 = .ok (.iload_n 0, 1) := by decide +kernel
theorem d1_114 : decode method_2_code 114 = .ok (.bipush 12, 2) := by decide +kernel
theorem d1_116 : decode method_2_code 116 = .ok (.if_icmp .ne 7, 3) := by decide +kernel
theorem d1_119 : decode method_2_code 119 = .ok (.getstatic 46, 3) := by decide +kernel
theorem d1_122 : decode method_2_code 122 = .ok (.areturn, 1) := by decide +kernel
theorem d1_123 : decode method_2_code 123 = .ok (.iload_n 0, 1) := by decide +kernel
theorem d1_124 : decode method_2_code 124 = .ok (.bipush 13, 2) := by decide +kernel
theorem d1_126 : decode method_2_code 126 = .ok (.if_icmp .ne 7, 3) := by decide +kernel
theorem d1_129 : decode method_2_code 129 = .ok (.getstatic 49, 3) := by decide +kernel
theorem d1_132 : decode method_2_code 132 = .ok (.areturn, 1) := by decide +kernel
theorem d1_133 : decode method_2_code 133 = .ok (.iload_n 0, 1) := by decide +kernel
theorem d1_134 : decode method_2_code 134 = .ok (.bipush 14, 2) := by decide +kernel
theorem d1_136 : decode method_2_code 136 = .ok (.if_icmp .ne 7, 3) := by decide +kernel
theorem d1_139 : decode method_2_code 139 = .ok (.getstatic 52, 3) := by decide +kernel
theorem d1_142 : decode method_2_code 142 = .ok (.areturn, 1) := by decide +kernel
theorem d1_143 : decode method_2_code 143 = .ok (.iload_n 0, 1) := by decide +kernel
theorem d1_144 : decode method_2_code 144 = .ok (.bipush 15, 2) := by decide +kernel
theorem d1_146 : decode method_2_code 146 = .ok (.if_icmp .ne 7, 3) := by decide +kernel
theorem d1_149 : decode method_2_code 149 = .ok (.getstatic 55, 3) := by decide +kernel
theorem d1_152 : decode method_2_code 152 = .ok (.areturn, 1) := by decide +kernel
theorem d1_153 : decode method_2_code 153 = .ok (.iload_n 0, 1) := by decide +kernel
theorem d1_154 : decode method_2_code 154 = .ok (.bipush 16, 2) := by decide +kernel
theorem d1_156 : decode method_2_code 156 = .ok (.if_icmp .ne 7, 3) := by decide +kernel
theorem d1_159 : decode method_2_code 159 = .ok (.getstatic 58, 3) := by decide +kernel
theorem d1_162 : decode method_2_code 162 = .ok (.areturn, 1) := by decide +kernel
theorem d1_163 : decode method_2_code 163 = .ok (.iload_n 0, 1) := by decide +kernel
theorem d1_164 : decode method_2_code 164 = .ok (.bipush 17, 2) := by decide +kernel
theorem d1_166 : decode method_2_code 166 = .ok (.if_icmp .ne 7, 3) := by decide +kernel
theorem d1_169 : decode method_2_code 169 = .ok (.getstatic 61, 3) := by decide +kernel
theorem d1_172 : decode method_2_code 172 = .ok (.areturn, 1) := by decide +kernel
theorem d1_173 : decode method_2_code 173 = .ok (.iload_n 0, 1) := by decide +kernel
theorem d1_174 : decode method_2_code 174 = .ok (.bipush 18, 2) := by decide +kernel
theorem d1_176 : decode method_2_code 176 = .ok (.if_icmp .ne 7, 3) := by decide +kernel
theorem d1_179 : decode method_2_code 179 = .ok (.getstatic 64, 3) := by decide +kernel
theorem d1_182 : decode method_2_code 182 = .ok (.areturn, 1) := by decide +kernel
theorem d1_183 : decode method_2_code 183 = .ok (.iload_n 0, 1) := by decide +kernel
theorem d1_184 : decode method_2_code 184 = .ok (.bipush 19, 2) := by decide +kernel
theorem d1_186 : decode method_2_code 186 = .ok (.if_icmp .ne 7, 3) := by decide +kernel
theorem d1_189 : decode method_2_code 189 = .ok (.getstatic 67, 3) := by decide +kernel
theorem d1_192 : decode method_2_code 192 = .ok (.areturn, 1) := by decide +kernel
theorem d1_193 : decode method_2_code 193 = .ok (.iload_n 0, 1) := by decide +kernel
theorem d1_194 : decode method_2_code 194 = .ok (.bipush 20, 2) := by decide +kernel
theorem d1_196 : decode method_2_code 196 = .ok (.if_icmp .ne 7, 3) := by decide +kernel
theorem d1_199 : decode method_2_code 199 = .ok (.getstatic 70, 3) := by decide +kernel
theorem d1_202 : decode method_2_code 202 = .ok (.areturn, 1) := by decide +kernel
theorem d1_203 : decode method_2_code 203 = .ok (.getstatic 73, 3) := by decide +kernel
theorem d1_206 : decode method_2_code 206 = .ok (.areturn, 1) := by decide +kernel
theorem ef_p (m : MethodId) (x0 : Int32) : entryFrame m #[(.int x0)] 1 = mkF m 0 #[.val (.int x0)] [] := by first | (simp [entryFrame, mkF, argsToLocals, Value.category]; done) | rfl
set_option maxRecDepth 65536 in
set_option maxHeartbeats 40000000 in
theorem rmp (l : Launch) (Z : State) (a0 : Array Value) (hw : ∀ d ∈ tables_1, d.before a0 Z = true) (ws : List Jvm.Cond) (k : Int32) (h0 : Heap) (n0 : Nat) (r : Nat → Addr) (C0 : Cs Z h0 r) :
    Meets l Z (⟨"com/example/predicate/predicate/query/KeywordTakesNullPinLaw", "pick", "(I)Lcom/example/predicate/predicate/query/Keyword;"⟩ : MethodName) method_2_code 1 (some (.object "com/example/predicate/predicate/query/Keyword")) ({ frames := 0, cells := 0, slots := 0, locals := 0 } : Room) ws #[(.int k)] h0 (fun v h L => ∃ b, v = some (.ref b) ∧ Fr n0 L ∧ h = h0 ∧ Exa Z h0 b "com/example/predicate/predicate/query/Keyword" ∧ (k = 0 → b = r 0) ∧ (k = 1 → b = r 1) ∧ (¬ k = 0 → ¬ k = 1 → ¬ b = r 0 ∧ ¬ b = r 1)) := by
  refine Meets.of (plainFor_of_name (by first | (simp [plainName, overriddenIn]; done) | decide +kernel : plainName "com/example/predicate/predicate/query/KeywordTakesNullPinLaw" = true)) ?_
  intro p e s m below meth c s₁ X0 hx hby hml hret hlk hnm hZ hown e0
  replace hown : s.vm.findClass "com/example/predicate/predicate/query/KeywordTakesNullPinLaw" = some m.cls := hown
  have N0 := Fr.nil n0
  refine Go.cast (ef_p m k) ?_
  show Go p e s below _ _ _ s₁ (mkF m 0 #[.val (.int k)] [])
  refine Go.st (fun _ kont => XS.iloadN X0.here hx rfl (hb hby d1_0) rfl kont) ?_
  show Go p e s below _ _ _ s₁ (mkF m 1 #[.val (.int k)] [(.int k)])
  by_cases hc1_1 : k = (0 : Int32)
  · --
    refine Go.st (fun _ kont => XS.ifNo X0.here hx rfl (hb hby d1_1) rfl ((if0 _ _).trans (teq hc1_1).2) kont) ?_
    show Go p e s below _ _ _ s₁ (mkF m 4 #[.val (.int k)] [])
    obtain ⟨T2, X2, e2, st2⟩ := getS2 X0 hx hZ hown (host := "") (Or.inl (hw _ (List.mem_of_getElem? (i := 5) rfl))) Via.refl e0 (C0 0 "EQUALS" 0 rfl rfl).1 (g := (mkF m 4 #[.val (.int k)] [])) rfl (hb hby d1_4)
    refine Go.st st2 ?_
    show Go p e s below _ _ _ T2 (mkF m 7 #[.val (.int k)] [(.ref (r 0))])
    exact Go.retA X2 hx hlk hret rfl rfl (hb hby d1_7) (by decide) (by decide) ⟨r 0, rfl, N0, e2, (C0 0 "EQUALS" 0 rfl rfl).2.1, fun _ => rfl, fun q => absurd (hc1_1.symm.trans q) (by decide), fun q _ => absurd hc1_1 q⟩
  · --
    refine Go.st (fun _ kont => XS.ifYes X0.here hx rfl (pc0 := 1) (pc' := 8) rfl (hb hby d1_1) rfl ((if0 _ _).trans (feq hc1_1).2) (by decide) (by decide) kont) ?_
    show Go p e s below _ _ _ s₁ (mkF m 8 #[.val (.int k)] [])
    refine Go.st (fun _ kont => XS.iloadN X0.here hx rfl (hb hby d1_8) rfl kont) ?_
    show Go p e s below _ _ _ s₁ (mkF m 9 #[.val (.int k)] [(.int k)])
    refine Go.st (fun _ kont => XT.iconstV X0.here hx rfl (1 : Int32) (hb hby d1_9) (by decide) kont) ?_
    show Go p e s below _ _ _ s₁ (mkF m 10 #[.val (.int k)] [(.int (1 : Int32)), (.int k)])
    by_cases hc10_3 : k = (1 : Int32)
    · --
      refine Go.st (fun _ kont => XS.icmpNo X0.here hx rfl (hb hby d1_10) rfl (teq hc10_3).2 kont) ?_
      show Go p e s below _ _ _ s₁ (mkF m 13 #[.val (.int k)] [])
      obtain ⟨T4, X4, e4, st4⟩ := getS2 X0 hx hZ hown (host := "") (Or.inl (hw _ (List.mem_of_getElem? (i := 43) rfl))) Via.refl e0 (C0 1 "NOT" 1 rfl rfl).1 (g := (mkF m 13 #[.val (.int k)] [])) rfl (hb hby d1_13)
      refine Go.st st4 ?_
      show Go p e s below _ _ _ T4 (mkF m 16 #[.val (.int k)] [(.ref (r 1))])
      exact Go.retA X4 hx hlk hret rfl rfl (hb hby d1_16) (by decide) (by decide) ⟨r 1, rfl, N0, e4, (C0 1 "NOT" 1 rfl rfl).2.1, fun q => absurd q hc1_1, fun _ => rfl, fun _ q => absurd hc10_3 q⟩
    · --
      refine Go.st (fun _ kont => XS.icmpYes X0.here hx rfl (pc0 := 10) (pc' := 17) rfl (hb hby d1_10) rfl (feq hc10_3).2 (by decide) (by decide) kont) ?_
      show Go p e s below _ _ _ s₁ (mkF m 17 #[.val (.int k)] [])
      refine Go.st (fun _ kont => XS.iloadN X0.here hx rfl (hb hby d1_17) rfl kont) ?_
      show Go p e s below _ _ _ s₁ (mkF m 18 #[.val (.int k)] [(.int k)])
      refine Go.st (fun _ kont => XT.iconstV X0.here hx rfl (2 : Int32) (hb hby d1_18) (by decide) kont) ?_
      show Go p e s below _ _ _ s₁ (mkF m 19 #[.val (.int k)] [(.int (2 : Int32)), (.int k)])
      by_cases hc19_5 : k = (2 : Int32)
      · --
        refine Go.st (fun _ kont => XS.icmpNo X0.here hx rfl (hb hby d1_19) rfl (teq hc19_5).2 kont) ?_
        show Go p e s below _ _ _ s₁ (mkF m 22 #[.val (.int k)] [])
        obtain ⟨T6, X6, e6, st6⟩ := getS2 X0 hx hZ hown (host := "") (Or.inl (hw _ (List.mem_of_getElem? (i := 38) rfl))) Via.refl e0 (C0 2 "LESS_THAN" 2 rfl rfl).1 (g := (mkF m 22 #[.val (.int k)] [])) rfl (hb hby d1_22)
        refine Go.st st6 ?_
        show Go p e s below _ _ _ T6 (mkF m 25 #[.val (.int k)] [(.ref (r 2))])
        exact Go.retA X6 hx hlk hret rfl rfl (hb hby d1_25) (by decide) (by decide) ⟨r 2, rfl, N0, e6, (C0 2 "LESS_THAN" 2 rfl rfl).2.1, fun q => absurd q hc1_1, fun q => absurd q hc10_3, fun _ _ => ⟨(C0.ne (i := 2) (j := 0) rfl rfl rfl rfl (by decide)), (C0.ne (i := 2) (j := 1) rfl rfl rfl rfl (by decide))⟩⟩
      · --
        refine Go.st (fun _ kont => XS.icmpYes X0.here hx rfl (pc0 := 19) (pc' := 26) rfl (hb hby d1_19) rfl (feq hc19_5).2 (by decide) (by decide) kont) ?_
        show Go p e s below _ _ _ s₁ (mkF m 26 #[.val (.int k)] [])
        refine Go.st (fun _ kont => XS.iloadN X0.here hx rfl (hb hby d1_26) rfl kont) ?_
        show Go p e s below _ _ _ s₁ (mkF m 27 #[.val (.int k)] [(.int k)])
        refine Go.st (fun _ kont => XT.iconstV X0.here hx rfl (3 : Int32) (hb hby d1_27) (by decide) kont) ?_
        show Go p e s below _ _ _ s₁ (mkF m 28 #[.val (.int k)] [(.int (3 : Int32)), (.int k)])
        by_cases hc28_7 : k = (3 : Int32)
        · --
          refine Go.st (fun _ kont => XS.icmpNo X0.here hx rfl (hb hby d1_28) rfl (teq hc28_7).2 kont) ?_
          show Go p e s below _ _ _ s₁ (mkF m 31 #[.val (.int k)] [])
          obtain ⟨T8, X8, e8, st8⟩ := getS2 X0 hx hZ hown (host := "") (Or.inl (hw _ (List.mem_of_getElem? (i := 30) rfl))) Via.refl e0 (C0 3 "LESS_THAN_EQUAL" 3 rfl rfl).1 (g := (mkF m 31 #[.val (.int k)] [])) rfl (hb hby d1_31)
          refine Go.st st8 ?_
          show Go p e s below _ _ _ T8 (mkF m 34 #[.val (.int k)] [(.ref (r 3))])
          exact Go.retA X8 hx hlk hret rfl rfl (hb hby d1_34) (by decide) (by decide) ⟨r 3, rfl, N0, e8, (C0 3 "LESS_THAN_EQUAL" 3 rfl rfl).2.1, fun q => absurd q hc1_1, fun q => absurd q hc10_3, fun _ _ => ⟨(C0.ne (i := 3) (j := 0) rfl rfl rfl rfl (by decide)), (C0.ne (i := 3) (j := 1) rfl rfl rfl rfl (by decide))⟩⟩
        · --
          refine Go.st (fun _ kont => XS.icmpYes X0.here hx rfl (pc0 := 28) (pc' := 35) rfl (hb hby d1_28) rfl (feq hc28_7).2 (by decide) (by decide) kont) ?_
          show Go p e s below _ _ _ s₁ (mkF m 35 #[.val (.int k)] [])
          refine Go.st (fun _ kont => XS.iloadN X0.here hx rfl (hb hby d1_35) rfl kont) ?_
          show Go p e s below _ _ _ s₁ (mkF m 36 #[.val (.int k)] [(.int k)])
          refine Go.st (fun _ kont => XT.iconstV X0.here hx rfl (4 : Int32) (hb hby d1_36) (by decide) kont) ?_
          show Go p e s below _ _ _ s₁ (mkF m 37 #[.val (.int k)] [(.int (4 : Int32)), (.int k)])
          by_cases hc37_9 : k = (4 : Int32)
          · --
            refine Go.st (fun _ kont => XS.icmpNo X0.here hx rfl (hb hby d1_37) rfl (teq hc37_9).2 kont) ?_
            show Go p e s below _ _ _ s₁ (mkF m 40 #[.val (.int k)] [])
            obtain ⟨T10, X10, e10, st10⟩ := getS2 X0 hx hZ hown (host := "") (Or.inl (hw _ (List.mem_of_getElem? (i := 58) rfl))) Via.refl e0 (C0 4 "GREATER_THAN" 4 rfl rfl).1 (g := (mkF m 40 #[.val (.int k)] [])) rfl (hb hby d1_40)
            refine Go.st st10 ?_
            show Go p e s below _ _ _ T10 (mkF m 43 #[.val (.int k)] [(.ref (r 4))])
            exact Go.retA X10 hx hlk hret rfl rfl (hb hby d1_43) (by decide) (by decide) ⟨r 4, rfl, N0, e10, (C0 4 "GREATER_THAN" 4 rfl rfl).2.1, fun q => absurd q hc1_1, fun q => absurd q hc10_3, fun _ _ => ⟨(C0.ne (i := 4) (j := 0) rfl rfl rfl rfl (by decide)), (C0.ne (i := 4) (j := 1) rfl rfl rfl rfl (by decide))⟩⟩
          · --
            refine Go.st (fun _ kont => XS.icmpYes X0.here hx rfl (pc0 := 37) (pc' := 44) rfl (hb hby d1_37) rfl (feq hc37_9).2 (by decide) (by decide) kont) ?_
            show Go p e s below _ _ _ s₁ (mkF m 44 #[.val (.int k)] [])
            refine Go.st (fun _ kont => XS.iloadN X0.here hx rfl (hb hby d1_44) rfl kont) ?_
            show Go p e s below _ _ _ s₁ (mkF m 45 #[.val (.int k)] [(.int k)])
            refine Go.st (fun _ kont => XT.iconstV X0.here hx rfl (5 : Int32) (hb hby d1_45) (by decide) kont) ?_
            show Go p e s below _ _ _ s₁ (mkF m 46 #[.val (.int k)] [(.int (5 : Int32)), (.int k)])
            by_cases hc46_11 : k = (5 : Int32)
            · --
              refine Go.st (fun _ kont => XS.icmpNo X0.here hx rfl (hb hby d1_46) rfl (teq hc46_11).2 kont) ?_
              show Go p e s below _ _ _ s₁ (mkF m 49 #[.val (.int k)] [])
              obtain ⟨T12, X12, e12, st12⟩ := getS2 X0 hx hZ hown (host := "") (Or.inl (hw _ (List.mem_of_getElem? (i := 46) rfl))) Via.refl e0 (C0 5 "GREATER_THAN_EQUAL" 5 rfl rfl).1 (g := (mkF m 49 #[.val (.int k)] [])) rfl (hb hby d1_49)
              refine Go.st st12 ?_
              show Go p e s below _ _ _ T12 (mkF m 52 #[.val (.int k)] [(.ref (r 5))])
              exact Go.retA X12 hx hlk hret rfl rfl (hb hby d1_52) (by decide) (by decide) ⟨r 5, rfl, N0, e12, (C0 5 "GREATER_THAN_EQUAL" 5 rfl rfl).2.1, fun q => absurd q hc1_1, fun q => absurd q hc10_3, fun _ _ => ⟨(C0.ne (i := 5) (j := 0) rfl rfl rfl rfl (by decide)), (C0.ne (i := 5) (j := 1) rfl rfl rfl rfl (by decide))⟩⟩
            · --
              refine Go.st (fun _ kont => XS.icmpYes X0.here hx rfl (pc0 := 46) (pc' := 53) rfl (hb hby d1_46) rfl (feq hc46_11).2 (by decide) (by decide) kont) ?_
              show Go p e s below _ _ _ s₁ (mkF m 53 #[.val (.int k)] [])
              refine Go.st (fun _ kont => XS.iloadN X0.here hx rfl (hb hby d1_53) rfl kont) ?_
              show Go p e s below _ _ _ s₁ (mkF m 54 #[.val (.int k)] [(.int k)])
              refine Go.st (fun _ kont => XT.bipushV X0.here hx rfl (6 : Int32) (hb hby d1_54) (by decide) kont) ?_
              show Go p e s below _ _ _ s₁ (mkF m 56 #[.val (.int k)] [(.int (6 : Int32)), (.int k)])
              by_cases hc56_13 : k = (6 : Int32)
              · --
                refine Go.st (fun _ kont => XS.icmpNo X0.here hx rfl (hb hby d1_56) rfl (teq hc56_13).2 kont) ?_
                show Go p e s below _ _ _ s₁ (mkF m 59 #[.val (.int k)] [])
                obtain ⟨T14, X14, e14, st14⟩ := getS2 X0 hx hZ hown (host := "") (Or.inl (hw _ (List.mem_of_getElem? (i := 50) rfl))) Via.refl e0 (C0 6 "BETWEEN" 6 rfl rfl).1 (g := (mkF m 59 #[.val (.int k)] [])) rfl (hb hby d1_59)
                refine Go.st st14 ?_
                show Go p e s below _ _ _ T14 (mkF m 62 #[.val (.int k)] [(.ref (r 6))])
                exact Go.retA X14 hx hlk hret rfl rfl (hb hby d1_62) (by decide) (by decide) ⟨r 6, rfl, N0, e14, (C0 6 "BETWEEN" 6 rfl rfl).2.1, fun q => absurd q hc1_1, fun q => absurd q hc10_3, fun _ _ => ⟨(C0.ne (i := 6) (j := 0) rfl rfl rfl rfl (by decide)), (C0.ne (i := 6) (j := 1) rfl rfl rfl rfl (by decide))⟩⟩
              · --
                refine Go.st (fun _ kont => XS.icmpYes X0.here hx rfl (pc0 := 56) (pc' := 63) rfl (hb hby d1_56) rfl (feq hc56_13).2 (by decide) (by decide) kont) ?_
                show Go p e s below _ _ _ s₁ (mkF m 63 #[.val (.int k)] [])
                refine Go.st (fun _ kont => XS.iloadN X0.here hx rfl (hb hby d1_63) rfl kont) ?_
                show Go p e s below _ _ _ s₁ (mkF m 64 #[.val (.int k)] [(.int k)])
                refine Go.st (fun _ kont => XT.bipushV X0.here hx rfl (7 : Int32) (hb hby d1_64) (by decide) kont) ?_
                show Go p e s below _ _ _ s₁ (mkF m 66 #[.val (.int k)] [(.int (7 : Int32)), (.int k)])
                by_cases hc66_15 : k = (7 : Int32)
                · --
                  refine Go.st (fun _ kont => XS.icmpNo X0.here hx rfl (hb hby d1_66) rfl (teq hc66_15).2 kont) ?_
                  show Go p e s below _ _ _ s₁ (mkF m 69 #[.val (.int k)] [])
                  obtain ⟨T16, X16, e16, st16⟩ := getS2 X0 hx hZ hown (host := "") (Or.inl (hw _ (List.mem_of_getElem? (i := 34) rfl))) Via.refl e0 (C0 7 "BEFORE" 7 rfl rfl).1 (g := (mkF m 69 #[.val (.int k)] [])) rfl (hb hby d1_69)
                  refine Go.st st16 ?_
                  show Go p e s below _ _ _ T16 (mkF m 72 #[.val (.int k)] [(.ref (r 7))])
                  exact Go.retA X16 hx hlk hret rfl rfl (hb hby d1_72) (by decide) (by decide) ⟨r 7, rfl, N0, e16, (C0 7 "BEFORE" 7 rfl rfl).2.1, fun q => absurd q hc1_1, fun q => absurd q hc10_3, fun _ _ => ⟨(C0.ne (i := 7) (j := 0) rfl rfl rfl rfl (by decide)), (C0.ne (i := 7) (j := 1) rfl rfl rfl rfl (by decide))⟩⟩
                · --
                  refine Go.st (fun _ kont => XS.icmpYes X0.here hx rfl (pc0 := 66) (pc' := 73) rfl (hb hby d1_66) rfl (feq hc66_15).2 (by decide) (by decide) kont) ?_
                  show Go p e s below _ _ _ s₁ (mkF m 73 #[.val (.int k)] [])
                  refine Go.st (fun _ kont => XS.iloadN X0.here hx rfl (hb hby d1_73) rfl kont) ?_
                  show Go p e s below _ _ _ s₁ (mkF m 74 #[.val (.int k)] [(.int k)])
                  refine Go.st (fun _ kont => XT.bipushV X0.here hx rfl (8 : Int32) (hb hby d1_74) (by decide) kont) ?_
                  show Go p e s below _ _ _ s₁ (mkF m 76 #[.val (.int k)] [(.int (8 : Int32)), (.int k)])
                  by_cases hc76_17 : k = (8 : Int32)
                  · --
                    refine Go.st (fun _ kont => XS.icmpNo X0.here hx rfl (hb hby d1_76) rfl (teq hc76_17).2 kont) ?_
                    show Go p e s below _ _ _ s₁ (mkF m 79 #[.val (.int k)] [])
                    obtain ⟨T18, X18, e18, st18⟩ := getS2 X0 hx hZ hown (host := "") (Or.inl (hw _ (List.mem_of_getElem? (i := 36) rfl))) Via.refl e0 (C0 8 "AFTER" 8 rfl rfl).1 (g := (mkF m 79 #[.val (.int k)] [])) rfl (hb hby d1_79)
                    refine Go.st st18 ?_
                    show Go p e s below _ _ _ T18 (mkF m 82 #[.val (.int k)] [(.ref (r 8))])
                    exact Go.retA X18 hx hlk hret rfl rfl (hb hby d1_82) (by decide) (by decide) ⟨r 8, rfl, N0, e18, (C0 8 "AFTER" 8 rfl rfl).2.1, fun q => absurd q hc1_1, fun q => absurd q hc10_3, fun _ _ => ⟨(C0.ne (i := 8) (j := 0) rfl rfl rfl rfl (by decide)), (C0.ne (i := 8) (j := 1) rfl rfl rfl rfl (by decide))⟩⟩
                  · --
                    refine Go.st (fun _ kont => XS.icmpYes X0.here hx rfl (pc0 := 76) (pc' := 83) rfl (hb hby d1_76) rfl (feq hc76_17).2 (by decide) (by decide) kont) ?_
                    show Go p e s below _ _ _ s₁ (mkF m 83 #[.val (.int k)] [])
                    refine Go.st (fun _ kont => XS.iloadN X0.here hx rfl (hb hby d1_83) rfl kont) ?_
                    show Go p e s below _ _ _ s₁ (mkF m 84 #[.val (.int k)] [(.int k)])
                    refine Go.st (fun _ kont => XT.bipushV X0.here hx rfl (9 : Int32) (hb hby d1_84) (by decide) kont) ?_
                    show Go p e s below _ _ _ s₁ (mkF m 86 #[.val (.int k)] [(.int (9 : Int32)), (.int k)])
                    by_cases hc86_19 : k = (9 : Int32)
                    · --
                      refine Go.st (fun _ kont => XS.icmpNo X0.here hx rfl (hb hby d1_86) rfl (teq hc86_19).2 kont) ?_
                      show Go p e s below _ _ _ s₁ (mkF m 89 #[.val (.int k)] [])
                      obtain ⟨T20, X20, e20, st20⟩ := getS2 X0 hx hZ hown (host := "") (Or.inl (hw _ (List.mem_of_getElem? (i := 44) rfl))) Via.refl e0 (C0 9 "IS_NULL" 9 rfl rfl).1 (g := (mkF m 89 #[.val (.int k)] [])) rfl (hb hby d1_89)
                      refine Go.st st20 ?_
                      show Go p e s below _ _ _ T20 (mkF m 92 #[.val (.int k)] [(.ref (r 9))])
                      exact Go.retA X20 hx hlk hret rfl rfl (hb hby d1_92) (by decide) (by decide) ⟨r 9, rfl, N0, e20, (C0 9 "IS_NULL" 9 rfl rfl).2.1, fun q => absurd q hc1_1, fun q => absurd q hc10_3, fun _ _ => ⟨(C0.ne (i := 9) (j := 0) rfl rfl rfl rfl (by decide)), (C0.ne (i := 9) (j := 1) rfl rfl rfl rfl (by decide))⟩⟩
                    · --
                      refine Go.st (fun _ kont => XS.icmpYes X0.here hx rfl (pc0 := 86) (pc' := 93) rfl (hb hby d1_86) rfl (feq hc86_19).2 (by decide) (by decide) kont) ?_
                      show Go p e s below _ _ _ s₁ (mkF m 93 #[.val (.int k)] [])
                      refine Go.st (fun _ kont => XS.iloadN X0.here hx rfl (hb hby d1_93) rfl kont) ?_
                      show Go p e s below _ _ _ s₁ (mkF m 94 #[.val (.int k)] [(.int k)])
                      refine Go.st (fun _ kont => XT.bipushV X0.here hx rfl (10 : Int32) (hb hby d1_94) (by decide) kont) ?_
                      show Go p e s below _ _ _ s₁ (mkF m 96 #[.val (.int k)] [(.int (10 : Int32)), (.int k)])
                      by_cases hc96_21 : k = (10 : Int32)
                      · --
                        refine Go.st (fun _ kont => XS.icmpNo X0.here hx rfl (hb hby d1_96) rfl (teq hc96_21).2 kont) ?_
                        show Go p e s below _ _ _ s₁ (mkF m 99 #[.val (.int k)] [])
                        obtain ⟨T22, X22, e22, st22⟩ := getS2 X0 hx hZ hown (host := "") (Or.inl (hw _ (List.mem_of_getElem? (i := 41) rfl))) Via.refl e0 (C0 10 "IS_NOT_NULL" 10 rfl rfl).1 (g := (mkF m 99 #[.val (.int k)] [])) rfl (hb hby d1_99)
                        refine Go.st st22 ?_
                        show Go p e s below _ _ _ T22 (mkF m 102 #[.val (.int k)] [(.ref (r 10))])
                        exact Go.retA X22 hx hlk hret rfl rfl (hb hby d1_102) (by decide) (by decide) ⟨r 10, rfl, N0, e22, (C0 10 "IS_NOT_NULL" 10 rfl rfl).2.1, fun q => absurd q hc1_1, fun q => absurd q hc10_3, fun _ _ => ⟨(C0.ne (i := 10) (j := 0) rfl rfl rfl rfl (by decide)), (C0.ne (i := 10) (j := 1) rfl rfl rfl rfl (by decide))⟩⟩
                      · --
                        refine Go.st (fun _ kont => XS.icmpYes X0.here hx rfl (pc0 := 96) (pc' := 103) rfl (hb hby d1_96) rfl (feq hc96_21).2 (by decide) (by decide) kont) ?_
                        show Go p e s below _ _ _ s₁ (mkF m 103 #[.val (.int k)] [])
                        refine Go.st (fun _ kont => XS.iloadN X0.here hx rfl (hb hby d1_103) rfl kont) ?_
                        show Go p e s below _ _ _ s₁ (mkF m 104 #[.val (.int k)] [(.int k)])
                        refine Go.st (fun _ kont => XT.bipushV X0.here hx rfl (11 : Int32) (hb hby d1_104) (by decide) kont) ?_
                        show Go p e s below _ _ _ s₁ (mkF m 106 #[.val (.int k)] [(.int (11 : Int32)), (.int k)])
                        by_cases hc106_23 : k = (11 : Int32)
                        · --
                          refine Go.st (fun _ kont => XS.icmpNo X0.here hx rfl (hb hby d1_106) rfl (teq hc106_23).2 kont) ?_
                          show Go p e s below _ _ _ s₁ (mkF m 109 #[.val (.int k)] [])
                          obtain ⟨T24, X24, e24, st24⟩ := getS2 X0 hx hZ hown (host := "") (Or.inl (hw _ (List.mem_of_getElem? (i := 40) rfl))) Via.refl e0 (C0 11 "IN" 11 rfl rfl).1 (g := (mkF m 109 #[.val (.int k)] [])) rfl (hb hby d1_109)
                          refine Go.st st24 ?_
                          show Go p e s below _ _ _ T24 (mkF m 112 #[.val (.int k)] [(.ref (r 11))])
                          exact Go.retA X24 hx hlk hret rfl rfl (hb hby d1_112) (by decide) (by decide) ⟨r 11, rfl, N0, e24, (C0 11 "IN" 11 rfl rfl).2.1, fun q => absurd q hc1_1, fun q => absurd q hc10_3, fun _ _ => ⟨(C0.ne (i := 11) (j := 0) rfl rfl rfl rfl (by decide)), (C0.ne (i := 11) (j := 1) rfl rfl rfl rfl (by decide))⟩⟩
                        · --
                          refine Go.st (fun _ kont => XS.icmpYes X0.here hx rfl (pc0 := 106) (pc' := 113) rfl (hb hby d1_106) rfl (feq hc106_23).2 (by decide) (by decide) kont) ?_
                          show Go p e s below _ _ _ s₁ (mkF m 113 #[.val (.int k)] [])
                          refine Go.st (fun _ kont => XS.iloadN X0.here hx rfl (hb hby d1_113) rfl kont) ?_
                          show Go p e s below _ _ _ s₁ (mkF m 114 #[.val (.int k)] [(.int k)])
                          refine Go.st (fun _ kont => XT.bipushV X0.here hx rfl (12 : Int32) (hb hby d1_114) (by decide) kont) ?_
                          show Go p e s below _ _ _ s₁ (mkF m 116 #[.val (.int k)] [(.int (12 : Int32)), (.int k)])
                          by_cases hc116_25 : k = (12 : Int32)
                          · --
                            refine Go.st (fun _ kont => XS.icmpNo X0.here hx rfl (hb hby d1_116) rfl (teq hc116_25).2 kont) ?_
                            show Go p e s below _ _ _ s₁ (mkF m 119 #[.val (.int k)] [])
                            obtain ⟨T26, X26, e26, st26⟩ := getS2 X0 hx hZ hown (host := "") (Or.inl (hw _ (List.mem_of_getElem? (i := 64) rfl))) Via.refl e0 (C0 12 "NOT_IN" 12 rfl rfl).1 (g := (mkF m 119 #[.val (.int k)] [])) rfl (hb hby d1_119)
                            refine Go.st st26 ?_
                            show Go p e s below _ _ _ T26 (mkF m 122 #[.val (.int k)] [(.ref (r 12))])
                            exact Go.retA X26 hx hlk hret rfl rfl (hb hby d1_122) (by decide) (by decide) ⟨r 12, rfl, N0, e26, (C0 12 "NOT_IN" 12 rfl rfl).2.1, fun q => absurd q hc1_1, fun q => absurd q hc10_3, fun _ _ => ⟨(C0.ne (i := 12) (j := 0) rfl rfl rfl rfl (by decide)), (C0.ne (i := 12) (j := 1) rfl rfl rfl rfl (by decide))⟩⟩
                          · --
                            refine Go.st (fun _ kont => XS.icmpYes X0.here hx rfl (pc0 := 116) (pc' := 123) rfl (hb hby d1_116) rfl (feq hc116_25).2 (by decide) (by decide) kont) ?_
                            show Go p e s below _ _ _ s₁ (mkF m 123 #[.val (.int k)] [])
                            refine Go.st (fun _ kont => XS.iloadN X0.here hx rfl (hb hby d1_123) rfl kont) ?_
                            show Go p e s below _ _ _ s₁ (mkF m 124 #[.val (.int k)] [(.int k)])
                            refine Go.st (fun _ kont => XT.bipushV X0.here hx rfl (13 : Int32) (hb hby d1_124) (by decide) kont) ?_
                            show Go p e s below _ _ _ s₁ (mkF m 126 #[.val (.int k)] [(.int (13 : Int32)), (.int k)])
                            by_cases hc126_27 : k = (13 : Int32)
                            · --
                              refine Go.st (fun _ kont => XS.icmpNo X0.here hx rfl (hb hby d1_126) rfl (teq hc126_27).2 kont) ?_
                              show Go p e s below _ _ _ s₁ (mkF m 129 #[.val (.int k)] [])
                              obtain ⟨T28, X28, e28, st28⟩ := getS2 X0 hx hZ hown (host := "") (Or.inl (hw _ (List.mem_of_getElem? (i := 65) rfl))) Via.refl e0 (C0 13 "TRUE" 13 rfl rfl).1 (g := (mkF m 129 #[.val (.int k)] [])) rfl (hb hby d1_129)
                              refine Go.st st28 ?_
                              show Go p e s below _ _ _ T28 (mkF m 132 #[.val (.int k)] [(.ref (r 13))])
                              exact Go.retA X28 hx hlk hret rfl rfl (hb hby d1_132) (by decide) (by decide) ⟨r 13, rfl, N0, e28, (C0 13 "TRUE" 13 rfl rfl).2.1, fun q => absurd q hc1_1, fun q => absurd q hc10_3, fun _ _ => ⟨(C0.ne (i := 13) (j := 0) rfl rfl rfl rfl (by decide)), (C0.ne (i := 13) (j := 1) rfl rfl rfl rfl (by decide))⟩⟩
                            · --
                              refine Go.st (fun _ kont => XS.icmpYes X0.here hx rfl (pc0 := 126) (pc' := 133) rfl (hb hby d1_126) rfl (feq hc126_27).2 (by decide) (by decide) kont) ?_
                              show Go p e s below _ _ _ s₁ (mkF m 133 #[.val (.int k)] [])
                              refine Go.st (fun _ kont => XS.iloadN X0.here hx rfl (hb hby d1_133) rfl kont) ?_
                              show Go p e s below _ _ _ s₁ (mkF m 134 #[.val (.int k)] [(.int k)])
                              refine Go.st (fun _ kont => XT.bipushV X0.here hx rfl (14 : Int32) (hb hby d1_134) (by decide) kont) ?_
                              show Go p e s below _ _ _ s₁ (mkF m 136 #[.val (.int k)] [(.int (14 : Int32)), (.int k)])
                              by_cases hc136_29 : k = (14 : Int32)
                              · --
                                refine Go.st (fun _ kont => XS.icmpNo X0.here hx rfl (hb hby d1_136) rfl (teq hc136_29).2 kont) ?_
                                show Go p e s below _ _ _ s₁ (mkF m 139 #[.val (.int k)] [])
                                obtain ⟨T30, X30, e30, st30⟩ := getS2 X0 hx hZ hown (host := "") (Or.inl (hw _ (List.mem_of_getElem? (i := 62) rfl))) Via.refl e0 (C0 14 "FALSE" 14 rfl rfl).1 (g := (mkF m 139 #[.val (.int k)] [])) rfl (hb hby d1_139)
                                refine Go.st st30 ?_
                                show Go p e s below _ _ _ T30 (mkF m 142 #[.val (.int k)] [(.ref (r 14))])
                                exact Go.retA X30 hx hlk hret rfl rfl (hb hby d1_142) (by decide) (by decide) ⟨r 14, rfl, N0, e30, (C0 14 "FALSE" 14 rfl rfl).2.1, fun q => absurd q hc1_1, fun q => absurd q hc10_3, fun _ _ => ⟨(C0.ne (i := 14) (j := 0) rfl rfl rfl rfl (by decide)), (C0.ne (i := 14) (j := 1) rfl rfl rfl rfl (by decide))⟩⟩
                              · --
                                refine Go.st (fun _ kont => XS.icmpYes X0.here hx rfl (pc0 := 136) (pc' := 143) rfl (hb hby d1_136) rfl (feq hc136_29).2 (by decide) (by decide) kont) ?_
                                show Go p e s below _ _ _ s₁ (mkF m 143 #[.val (.int k)] [])
                                refine Go.st (fun _ kont => XS.iloadN X0.here hx rfl (hb hby d1_143) rfl kont) ?_
                                show Go p e s below _ _ _ s₁ (mkF m 144 #[.val (.int k)] [(.int k)])
                                refine Go.st (fun _ kont => XT.bipushV X0.here hx rfl (15 : Int32) (hb hby d1_144) (by decide) kont) ?_
                                show Go p e s below _ _ _ s₁ (mkF m 146 #[.val (.int k)] [(.int (15 : Int32)), (.int k)])
                                by_cases hc146_31 : k = (15 : Int32)
                                · --
                                  refine Go.st (fun _ kont => XS.icmpNo X0.here hx rfl (hb hby d1_146) rfl (teq hc146_31).2 kont) ?_
                                  show Go p e s below _ _ _ s₁ (mkF m 149 #[.val (.int k)] [])
                                  obtain ⟨T32, X32, e32, st32⟩ := getS2 X0 hx hZ hown (host := "") (Or.inl (hw _ (List.mem_of_getElem? (i := 56) rfl))) Via.refl e0 (C0 15 "IS_EMPTY" 15 rfl rfl).1 (g := (mkF m 149 #[.val (.int k)] [])) rfl (hb hby d1_149)
                                  refine Go.st st32 ?_
                                  show Go p e s below _ _ _ T32 (mkF m 152 #[.val (.int k)] [(.ref (r 15))])
                                  exact Go.retA X32 hx hlk hret rfl rfl (hb hby d1_152) (by decide) (by decide) ⟨r 15, rfl, N0, e32, (C0 15 "IS_EMPTY" 15 rfl rfl).2.1, fun q => absurd q hc1_1, fun q => absurd q hc10_3, fun _ _ => ⟨(C0.ne (i := 15) (j := 0) rfl rfl rfl rfl (by decide)), (C0.ne (i := 15) (j := 1) rfl rfl rfl rfl (by decide))⟩⟩
                                · --
                                  refine Go.st (fun _ kont => XS.icmpYes X0.here hx rfl (pc0 := 146) (pc' := 153) rfl (hb hby d1_146) rfl (feq hc146_31).2 (by decide) (by decide) kont) ?_
                                  show Go p e s below _ _ _ s₁ (mkF m 153 #[.val (.int k)] [])
                                  refine Go.st (fun _ kont => XS.iloadN X0.here hx rfl (hb hby d1_153) rfl kont) ?_
                                  show Go p e s below _ _ _ s₁ (mkF m 154 #[.val (.int k)] [(.int k)])
                                  refine Go.st (fun _ kont => XT.bipushV X0.here hx rfl (16 : Int32) (hb hby d1_154) (by decide) kont) ?_
                                  show Go p e s below _ _ _ s₁ (mkF m 156 #[.val (.int k)] [(.int (16 : Int32)), (.int k)])
                                  by_cases hc156_33 : k = (16 : Int32)
                                  · --
                                    refine Go.st (fun _ kont => XS.icmpNo X0.here hx rfl (hb hby d1_156) rfl (teq hc156_33).2 kont) ?_
                                    show Go p e s below _ _ _ s₁ (mkF m 159 #[.val (.int k)] [])
                                    obtain ⟨T34, X34, e34, st34⟩ := getS2 X0 hx hZ hown (host := "") (Or.inl (hw _ (List.mem_of_getElem? (i := 48) rfl))) Via.refl e0 (C0 16 "IS_NOT_EMPTY" 16 rfl rfl).1 (g := (mkF m 159 #[.val (.int k)] [])) rfl (hb hby d1_159)
                                    refine Go.st st34 ?_
                                    show Go p e s below _ _ _ T34 (mkF m 162 #[.val (.int k)] [(.ref (r 16))])
                                    exact Go.retA X34 hx hlk hret rfl rfl (hb hby d1_162) (by decide) (by decide) ⟨r 16, rfl, N0, e34, (C0 16 "IS_NOT_EMPTY" 16 rfl rfl).2.1, fun q => absurd q hc1_1, fun q => absurd q hc10_3, fun _ _ => ⟨(C0.ne (i := 16) (j := 0) rfl rfl rfl rfl (by decide)), (C0.ne (i := 16) (j := 1) rfl rfl rfl rfl (by decide))⟩⟩
                                  · --
                                    refine Go.st (fun _ kont => XS.icmpYes X0.here hx rfl (pc0 := 156) (pc' := 163) rfl (hb hby d1_156) rfl (feq hc156_33).2 (by decide) (by decide) kont) ?_
                                    show Go p e s below _ _ _ s₁ (mkF m 163 #[.val (.int k)] [])
                                    refine Go.st (fun _ kont => XS.iloadN X0.here hx rfl (hb hby d1_163) rfl kont) ?_
                                    show Go p e s below _ _ _ s₁ (mkF m 164 #[.val (.int k)] [(.int k)])
                                    refine Go.st (fun _ kont => XT.bipushV X0.here hx rfl (17 : Int32) (hb hby d1_164) (by decide) kont) ?_
                                    show Go p e s below _ _ _ s₁ (mkF m 166 #[.val (.int k)] [(.int (17 : Int32)), (.int k)])
                                    by_cases hc166_35 : k = (17 : Int32)
                                    · --
                                      refine Go.st (fun _ kont => XS.icmpNo X0.here hx rfl (hb hby d1_166) rfl (teq hc166_35).2 kont) ?_
                                      show Go p e s below _ _ _ s₁ (mkF m 169 #[.val (.int k)] [])
                                      obtain ⟨T36, X36, e36, st36⟩ := getS2 X0 hx hZ hown (host := "") (Or.inl (hw _ (List.mem_of_getElem? (i := 67) rfl))) Via.refl e0 (C0 17 "LIKE" 17 rfl rfl).1 (g := (mkF m 169 #[.val (.int k)] [])) rfl (hb hby d1_169)
                                      refine Go.st st36 ?_
                                      show Go p e s below _ _ _ T36 (mkF m 172 #[.val (.int k)] [(.ref (r 17))])
                                      exact Go.retA X36 hx hlk hret rfl rfl (hb hby d1_172) (by decide) (by decide) ⟨r 17, rfl, N0, e36, (C0 17 "LIKE" 17 rfl rfl).2.1, fun q => absurd q hc1_1, fun q => absurd q hc10_3, fun _ _ => ⟨(C0.ne (i := 17) (j := 0) rfl rfl rfl rfl (by decide)), (C0.ne (i := 17) (j := 1) rfl rfl rfl rfl (by decide))⟩⟩
                                    · --
                                      refine Go.st (fun _ kont => XS.icmpYes X0.here hx rfl (pc0 := 166) (pc' := 173) rfl (hb hby d1_166) rfl (feq hc166_35).2 (by decide) (by decide) kont) ?_
                                      show Go p e s below _ _ _ s₁ (mkF m 173 #[.val (.int k)] [])
                                      refine Go.st (fun _ kont => XS.iloadN X0.here hx rfl (hb hby d1_173) rfl kont) ?_
                                      show Go p e s below _ _ _ s₁ (mkF m 174 #[.val (.int k)] [(.int k)])
                                      refine Go.st (fun _ kont => XT.bipushV X0.here hx rfl (18 : Int32) (hb hby d1_174) (by decide) kont) ?_
                                      show Go p e s below _ _ _ s₁ (mkF m 176 #[.val (.int k)] [(.int (18 : Int32)), (.int k)])
                                      by_cases hc176_37 : k = (18 : Int32)
                                      · --
                                        refine Go.st (fun _ kont => XS.icmpNo X0.here hx rfl (hb hby d1_176) rfl (teq hc176_37).2 kont) ?_
                                        show Go p e s below _ _ _ s₁ (mkF m 179 #[.val (.int k)] [])
                                        obtain ⟨T38, X38, e38, st38⟩ := getS2 X0 hx hZ hown (host := "") (Or.inl (hw _ (List.mem_of_getElem? (i := 54) rfl))) Via.refl e0 (C0 18 "NOT_LIKE" 18 rfl rfl).1 (g := (mkF m 179 #[.val (.int k)] [])) rfl (hb hby d1_179)
                                        refine Go.st st38 ?_
                                        show Go p e s below _ _ _ T38 (mkF m 182 #[.val (.int k)] [(.ref (r 18))])
                                        exact Go.retA X38 hx hlk hret rfl rfl (hb hby d1_182) (by decide) (by decide) ⟨r 18, rfl, N0, e38, (C0 18 "NOT_LIKE" 18 rfl rfl).2.1, fun q => absurd q hc1_1, fun q => absurd q hc10_3, fun _ _ => ⟨(C0.ne (i := 18) (j := 0) rfl rfl rfl rfl (by decide)), (C0.ne (i := 18) (j := 1) rfl rfl rfl rfl (by decide))⟩⟩
                                      · --
                                        refine Go.st (fun _ kont => XS.icmpYes X0.here hx rfl (pc0 := 176) (pc' := 183) rfl (hb hby d1_176) rfl (feq hc176_37).2 (by decide) (by decide) kont) ?_
                                        show Go p e s below _ _ _ s₁ (mkF m 183 #[.val (.int k)] [])
                                        refine Go.st (fun _ kont => XS.iloadN X0.here hx rfl (hb hby d1_183) rfl kont) ?_
                                        show Go p e s below _ _ _ s₁ (mkF m 184 #[.val (.int k)] [(.int k)])
                                        refine Go.st (fun _ kont => XT.bipushV X0.here hx rfl (19 : Int32) (hb hby d1_184) (by decide) kont) ?_
                                        show Go p e s below _ _ _ s₁ (mkF m 186 #[.val (.int k)] [(.int (19 : Int32)), (.int k)])
                                        by_cases hc186_39 : k = (19 : Int32)
                                        · --
                                          refine Go.st (fun _ kont => XS.icmpNo X0.here hx rfl (hb hby d1_186) rfl (teq hc186_39).2 kont) ?_
                                          show Go p e s below _ _ _ s₁ (mkF m 189 #[.val (.int k)] [])
                                          obtain ⟨T40, X40, e40, st40⟩ := getS2 X0 hx hZ hown (host := "") (Or.inl (hw _ (List.mem_of_getElem? (i := 52) rfl))) Via.refl e0 (C0 19 "STARTING_WITH" 19 rfl rfl).1 (g := (mkF m 189 #[.val (.int k)] [])) rfl (hb hby d1_189)
                                          refine Go.st st40 ?_
                                          show Go p e s below _ _ _ T40 (mkF m 192 #[.val (.int k)] [(.ref (r 19))])
                                          exact Go.retA X40 hx hlk hret rfl rfl (hb hby d1_192) (by decide) (by decide) ⟨r 19, rfl, N0, e40, (C0 19 "STARTING_WITH" 19 rfl rfl).2.1, fun q => absurd q hc1_1, fun q => absurd q hc10_3, fun _ _ => ⟨(C0.ne (i := 19) (j := 0) rfl rfl rfl rfl (by decide)), (C0.ne (i := 19) (j := 1) rfl rfl rfl rfl (by decide))⟩⟩
                                        · --
                                          refine Go.st (fun _ kont => XS.icmpYes X0.here hx rfl (pc0 := 186) (pc' := 193) rfl (hb hby d1_186) rfl (feq hc186_39).2 (by decide) (by decide) kont) ?_
                                          show Go p e s below _ _ _ s₁ (mkF m 193 #[.val (.int k)] [])
                                          refine Go.st (fun _ kont => XS.iloadN X0.here hx rfl (hb hby d1_193) rfl kont) ?_
                                          show Go p e s below _ _ _ s₁ (mkF m 194 #[.val (.int k)] [(.int k)])
                                          refine Go.st (fun _ kont => XT.bipushV X0.here hx rfl (20 : Int32) (hb hby d1_194) (by decide) kont) ?_
                                          show Go p e s below _ _ _ s₁ (mkF m 196 #[.val (.int k)] [(.int (20 : Int32)), (.int k)])
                                          by_cases hc196_41 : k = (20 : Int32)
                                          · --
                                            refine Go.st (fun _ kont => XS.icmpNo X0.here hx rfl (hb hby d1_196) rfl (teq hc196_41).2 kont) ?_
                                            show Go p e s below _ _ _ s₁ (mkF m 199 #[.val (.int k)] [])
                                            obtain ⟨T42, X42, e42, st42⟩ := getS2 X0 hx hZ hown (host := "") (Or.inl (hw _ (List.mem_of_getElem? (i := 69) rfl))) Via.refl e0 (C0 20 "ENDING_WITH" 20 rfl rfl).1 (g := (mkF m 199 #[.val (.int k)] [])) rfl (hb hby d1_199)
                                            refine Go.st st42 ?_
                                            show Go p e s below _ _ _ T42 (mkF m 202 #[.val (.int k)] [(.ref (r 20))])
                                            exact Go.retA X42 hx hlk hret rfl rfl (hb hby d1_202) (by decide) (by decide) ⟨r 20, rfl, N0, e42, (C0 20 "ENDING_WITH" 20 rfl rfl).2.1, fun q => absurd q hc1_1, fun q => absurd q hc10_3, fun _ _ => ⟨(C0.ne (i := 20) (j := 0) rfl rfl rfl rfl (by decide)), (C0.ne (i := 20) (j := 1) rfl rfl rfl rfl (by decide))⟩⟩
                                          · --
                                            refine Go.st (fun _ kont => XS.icmpYes X0.here hx rfl (pc0 := 196) (pc' := 203) rfl (hb hby d1_196) rfl (feq hc196_41).2 (by decide) (by decide) kont) ?_
                                            show Go p e s below _ _ _ s₁ (mkF m 203 #[.val (.int k)] [])
                                            obtain ⟨T43, X43, e43, st43⟩ := getS2 X0 hx hZ hown (host := "") (Or.inl (hw _ (List.mem_of_getElem? (i := 60) rfl))) Via.refl e0 (C0 21 "CONTAINING" 21 rfl rfl).1 (g := (mkF m 203 #[.val (.int k)] [])) rfl (hb hby d1_203)
                                            refine Go.st st43 ?_
                                            show Go p e s below _ _ _ T43 (mkF m 206 #[.val (.int k)] [(.ref (r 21))])
                                            exact Go.retA X43 hx hlk hret rfl rfl (hb hby d1_206) (by decide) (by decide) ⟨r 21, rfl, N0, e43, (C0 21 "CONTAINING" 21 rfl rfl).2.1, fun q => absurd q hc1_1, fun q => absurd q hc10_3, fun _ _ => ⟨(C0.ne (i := 21) (j := 0) rfl rfl rfl rfl (by decide)), (C0.ne (i := 21) (j := 1) rfl rfl rfl rfl (by decide))⟩⟩
theorem d2_0 : decode prog_32_method_6_code 0 = .ok (.aload_n 0, 1) := by decide +kernel
theorem d2_1 : decode prog_32_method_6_code 1 = .ok (.getstatic 3, 3) := by decide +kernel
theorem d2_4 : decode prog_32_method_6_code 4 = .ok (.if_acmp .eq 10, 3) := by decide +kernel
theorem d2_7 : decode prog_32_method_6_code 7 = .ok (.aload_n 0, 1) := by decide +kernel
theorem d2_8 : decode prog_32_method_6_code 8 = .ok (.getstatic 7, 3) := by decide +kernel
theorem d2_11 : decode prog_32_method_6_code 11 = .ok (.if_acmp .ne 7, 3) := by decide +kernel
theorem d2_14 : decode prog_32_method_6_code 14 = .ok (.iconst 1, 1) := by decide +kernel
theorem d2_15 : decode prog_32_method_6_code 15 = .ok (.goto 4, 3) := by decide +kernel
theorem d2_18 : decode prog_32_method_6_code 18 = .ok (.iconst 0, 1) := by decide +kernel
theorem d2_19 : decode prog_32_method_6_code 19 = .ok (.ireturn, 1) := by decide +kernel
theorem ef_n (m : MethodId) (x0 : Addr) : entryFrame m #[(.ref x0)] 1 = mkF m 0 #[.val (.ref x0)] [] := by first | (simp [entryFrame, mkF, argsToLocals, Value.category]; done) | rfl
set_option maxRecDepth 65536 in
set_option maxHeartbeats 40000000 in
theorem rmn (l : Launch) (Z : State) (a0 : Array Value) (hw : ∀ d ∈ tables_1, d.before a0 Z = true) (ws : List Jvm.Cond) (b : Addr) (v0 : Int32) (h0 : Heap) (n0 : Nat) (r : Nat → Addr) (C0 : Cs Z h0 r) (hv : (b = r 0 ∨ b = r 1 → v0 = 1) ∧ (¬ b = r 0 ∧ ¬ b = r 1 → v0 = 0)) :
    Meets l Z (⟨"com/example/predicate/predicate/query/Keyword", "takesNull", "()Z"⟩ : MethodName) prog_32_method_6_code 1 (some .boolean) ({ frames := 0, cells := 0, slots := 0, locals := 0 } : Room) ws #[(.ref b)] h0 (fun v h L => v = some (.int v0) ∧ Fr n0 L ∧ h = h0) := by
  refine Meets.of (plainFor_of_name (by first | (simp [plainName, overriddenIn]; done) | decide +kernel : plainName "com/example/predicate/predicate/query/Keyword" = true)) ?_
  intro p e s m below meth c s₁ X0 hx hby hml hret hlk hnm hZ hown e0
  replace hown : s.vm.findClass "com/example/predicate/predicate/query/Keyword" = some m.cls := hown
  have N0 := Fr.nil n0
  refine Go.cast (ef_n m b) ?_
  show Go p e s below _ _ _ s₁ (mkF m 0 #[.val (.ref b)] [])
  refine Go.st (fun _ kont => XS.aloadN X0.here hx rfl (hb hby d2_0) rfl rfl kont) ?_
  show Go p e s below _ _ _ s₁ (mkF m 1 #[.val (.ref b)] [(.ref b)])
  obtain ⟨T1, X1, e1, st1⟩ := getS2 X0 hx hZ hown (host := "") (Or.inl (hw _ (List.mem_of_getElem? (i := 13) rfl))) Via.refl e0 (C0 0 "EQUALS" 0 rfl rfl).1 (g := (mkF m 1 #[.val (.ref b)] [(.ref b)])) rfl (hb hby d2_1)
  refine Go.st st1 ?_
  show Go p e s below _ _ _ T1 (mkF m 4 #[.val (.ref b)] [(.ref (r 0)), (.ref b)])
  by_cases hc4_2 : b = (r 0)
  · --
    refine Go.st (fun _ kont => Jvm.RoadKit.acmp (g := (mkF m 4 #[.val (.ref b)] [(.ref (r 0)), (.ref b)])) X1 hx rfl rfl rfl (pc0 := 4) (pc' := 14) (same := true) rfl (hb hby d2_4) rfl (decide_eq_true (congrArg Value.ref hc4_2)) (by decide) (by decide) kont) ?_
    show Go p e s below _ _ _ T1 (mkF m 14 #[.val (.ref b)] [])
    refine Go.st (fun _ kont => XT.iconstV X1.here hx rfl (1 : Int32) (hb hby d2_14) (by decide) kont) ?_
    show Go p e s below _ _ _ T1 (mkF m 15 #[.val (.ref b)] [(.int (1 : Int32))])
    refine Go.st (fun _ kont => XS.goto X1.here hx rfl (pc0 := 15) (pc' := 19) rfl (hb hby d2_15) (by decide) (by decide) kont) ?_
    show Go p e s below _ _ _ T1 (mkF m 19 #[.val (.ref b)] [(.int (1 : Int32))])
    exact Go.retN X1 hx hlk hret (by simp) (hb hby d2_19) (by decide) (by decide) ⟨by rw [hv.1 (Or.inl hc4_2)]; rfl, N0, e1⟩
  · --
    refine Go.st (fun _ kont => Jvm.RoadKit.acmp (g := (mkF m 4 #[.val (.ref b)] [(.ref (r 0)), (.ref b)])) X1 hx rfl rfl rfl (pc0 := 4) (pc' := 7) (same := false) rfl (hb hby d2_4) rfl (decide_eq_false fun q => hc4_2 (Value.ref.inj q)) (by decide) (by decide) kont) ?_
    show Go p e s below _ _ _ T1 (mkF m 7 #[.val (.ref b)] [])
    refine Go.st (fun _ kont => XS.aloadN X1.here hx rfl (hb hby d2_7) rfl rfl kont) ?_
    show Go p e s below _ _ _ T1 (mkF m 8 #[.val (.ref b)] [(.ref b)])
    obtain ⟨T3, X3, e3, st3⟩ := getS2 X1 hx hZ hown (host := "") (Or.inl (hw _ (List.mem_of_getElem? (i := 32) rfl))) Via.refl e1 (C0 1 "NOT" 1 rfl rfl).1 (g := (mkF m 8 #[.val (.ref b)] [(.ref b)])) rfl (hb hby d2_8)
    refine Go.st st3 ?_
    show Go p e s below _ _ _ T3 (mkF m 11 #[.val (.ref b)] [(.ref (r 1)), (.ref b)])
    by_cases hc11_4 : b = (r 1)
    · --
      refine Go.st (fun _ kont => Jvm.RoadKit.acmp (g := (mkF m 11 #[.val (.ref b)] [(.ref (r 1)), (.ref b)])) X3 hx rfl rfl rfl (pc0 := 11) (pc' := 14) (same := true) rfl (hb hby d2_11) rfl (decide_eq_true (congrArg Value.ref hc11_4)) (by decide) (by decide) kont) ?_
      show Go p e s below _ _ _ T3 (mkF m 14 #[.val (.ref b)] [])
      refine Go.st (fun _ kont => XT.iconstV X3.here hx rfl (1 : Int32) (hb hby d2_14) (by decide) kont) ?_
      show Go p e s below _ _ _ T3 (mkF m 15 #[.val (.ref b)] [(.int (1 : Int32))])
      refine Go.st (fun _ kont => XS.goto X3.here hx rfl (pc0 := 15) (pc' := 19) rfl (hb hby d2_15) (by decide) (by decide) kont) ?_
      show Go p e s below _ _ _ T3 (mkF m 19 #[.val (.ref b)] [(.int (1 : Int32))])
      exact Go.retN X3 hx hlk hret (by simp) (hb hby d2_19) (by decide) (by decide) ⟨by rw [hv.1 (Or.inr hc11_4)]; rfl, N0, e3⟩
    · --
      refine Go.st (fun _ kont => Jvm.RoadKit.acmp (g := (mkF m 11 #[.val (.ref b)] [(.ref (r 1)), (.ref b)])) X3 hx rfl rfl rfl (pc0 := 11) (pc' := 18) (same := false) rfl (hb hby d2_11) rfl (decide_eq_false fun q => hc11_4 (Value.ref.inj q)) (by decide) (by decide) kont) ?_
      show Go p e s below _ _ _ T3 (mkF m 18 #[.val (.ref b)] [])
      refine Go.st (fun _ kont => XT.iconstV X3.here hx rfl (0 : Int32) (hb hby d2_18) (by decide) kont) ?_
      show Go p e s below _ _ _ T3 (mkF m 19 #[.val (.ref b)] [(.int (0 : Int32))])
      exact Go.retN X3 hx hlk hret (by simp) (hb hby d2_19) (by decide) (by decide) ⟨by rw [hv.2 ⟨hc4_2, hc11_4⟩]; rfl, N0, e3⟩
theorem d4_0 : decode prog_32_method_7_code 0 = .ok (.aload_n 0, 1) := by decide +kernel
theorem d4_1 : decode prog_32_method_7_code 1 = .ok (.getstatic 37, 3) := by decide +kernel
theorem d4_4 : decode prog_32_method_7_code 4 = .ok (.if_acmp .eq 10, 3) := by decide +kernel
theorem d4_7 : decode prog_32_method_7_code 7 = .ok (.aload_n 0, 1) := by decide +kernel
theorem d4_8 : decode prog_32_method_7_code 8 = .ok (.getstatic 40, 3) := by decide +kernel
theorem d4_11 : decode prog_32_method_7_code 11 = .ok (.if_acmp .ne 7, 3) := by decide +kernel
theorem d4_14 : decode prog_32_method_7_code 14 = .ok (.iconst 1, 1) := by decide +kernel
theorem d4_15 : decode prog_32_method_7_code 15 = .ok (.goto 4, 3) := by decide +kernel
theorem d4_18 : decode prog_32_method_7_code 18 = .ok (.iconst 0, 1) := by decide +kernel
theorem d4_19 : decode prog_32_method_7_code 19 = .ok (.ireturn, 1) := by decide +kernel
theorem ef_v (m : MethodId) (x0 : Addr) : entryFrame m #[(.ref x0)] 1 = mkF m 0 #[.val (.ref x0)] [] := by first | (simp [entryFrame, mkF, argsToLocals, Value.category]; done) | rfl
set_option maxRecDepth 65536 in
set_option maxHeartbeats 40000000 in
theorem rmv (l : Launch) (Z : State) (a0 : Array Value) (hw : ∀ d ∈ tables_1, d.before a0 Z = true) (ws : List Jvm.Cond) (b : Addr) (v0 : Int32) (h0 : Heap) (n0 : Nat) (r : Nat → Addr) (C0 : Cs Z h0 r) (hv : (b = r 11 ∨ b = r 12 → v0 = 1) ∧ (¬ b = r 11 ∧ ¬ b = r 12 → v0 = 0)) :
    Meets l Z (⟨"com/example/predicate/predicate/query/Keyword", "takesValues", "()Z"⟩ : MethodName) prog_32_method_7_code 1 (some .boolean) ({ frames := 0, cells := 0, slots := 0, locals := 0 } : Room) ws #[(.ref b)] h0 (fun v h L => v = some (.int v0) ∧ Fr n0 L ∧ h = h0) := by
  refine Meets.of (plainFor_of_name (by first | (simp [plainName, overriddenIn]; done) | decide +kernel : plainName "com/example/predicate/predicate/query/Keyword" = true)) ?_
  intro p e s m below meth c s₁ X0 hx hby hml hret hlk hnm hZ hown e0
  replace hown : s.vm.findClass "com/example/predicate/predicate/query/Keyword" = some m.cls := hown
  have N0 := Fr.nil n0
  refine Go.cast (ef_v m b) ?_
  show Go p e s below _ _ _ s₁ (mkF m 0 #[.val (.ref b)] [])
  refine Go.st (fun _ kont => XS.aloadN X0.here hx rfl (hb hby d4_0) rfl rfl kont) ?_
  show Go p e s below _ _ _ s₁ (mkF m 1 #[.val (.ref b)] [(.ref b)])
  obtain ⟨T1, X1, e1, st1⟩ := getS2 X0 hx hZ hown (host := "") (Or.inl (hw _ (List.mem_of_getElem? (i := 26) rfl))) Via.refl e0 (C0 11 "IN" 11 rfl rfl).1 (g := (mkF m 1 #[.val (.ref b)] [(.ref b)])) rfl (hb hby d4_1)
  refine Go.st st1 ?_
  show Go p e s below _ _ _ T1 (mkF m 4 #[.val (.ref b)] [(.ref (r 11)), (.ref b)])
  by_cases hc4_2 : b = (r 11)
  · --
    refine Go.st (fun _ kont => Jvm.RoadKit.acmp (g := (mkF m 4 #[.val (.ref b)] [(.ref (r 11)), (.ref b)])) X1 hx rfl rfl rfl (pc0 := 4) (pc' := 14) (same := true) rfl (hb hby d4_4) rfl (decide_eq_true (congrArg Value.ref hc4_2)) (by decide) (by decide) kont) ?_
    show Go p e s below _ _ _ T1 (mkF m 14 #[.val (.ref b)] [])
    refine Go.st (fun _ kont => XT.iconstV X1.here hx rfl (1 : Int32) (hb hby d4_14) (by decide) kont) ?_
    show Go p e s below _ _ _ T1 (mkF m 15 #[.val (.ref b)] [(.int (1 : Int32))])
    refine Go.st (fun _ kont => XS.goto X1.here hx rfl (pc0 := 15) (pc' := 19) rfl (hb hby d4_15) (by decide) (by decide) kont) ?_
    show Go p e s below _ _ _ T1 (mkF m 19 #[.val (.ref b)] [(.int (1 : Int32))])
    exact Go.retN X1 hx hlk hret (by simp) (hb hby d4_19) (by decide) (by decide) ⟨by rw [hv.1 (Or.inl hc4_2)]; rfl, N0, e1⟩
  · --
    refine Go.st (fun _ kont => Jvm.RoadKit.acmp (g := (mkF m 4 #[.val (.ref b)] [(.ref (r 11)), (.ref b)])) X1 hx rfl rfl rfl (pc0 := 4) (pc' := 7) (same := false) rfl (hb hby d4_4) rfl (decide_eq_false fun q => hc4_2 (Value.ref.inj q)) (by decide) (by decide) kont) ?_
    show Go p e s below _ _ _ T1 (mkF m 7 #[.val (.ref b)] [])
    refine Go.st (fun _ kont => XS.aloadN X1.here hx rfl (hb hby d4_7) rfl rfl kont) ?_
    show Go p e s below _ _ _ T1 (mkF m 8 #[.val (.ref b)] [(.ref b)])
    obtain ⟨T3, X3, e3, st3⟩ := getS2 X1 hx hZ hown (host := "") (Or.inl (hw _ (List.mem_of_getElem? (i := 28) rfl))) Via.refl e1 (C0 12 "NOT_IN" 12 rfl rfl).1 (g := (mkF m 8 #[.val (.ref b)] [(.ref b)])) rfl (hb hby d4_8)
    refine Go.st st3 ?_
    show Go p e s below _ _ _ T3 (mkF m 11 #[.val (.ref b)] [(.ref (r 12)), (.ref b)])
    by_cases hc11_4 : b = (r 12)
    · --
      refine Go.st (fun _ kont => Jvm.RoadKit.acmp (g := (mkF m 11 #[.val (.ref b)] [(.ref (r 12)), (.ref b)])) X3 hx rfl rfl rfl (pc0 := 11) (pc' := 14) (same := true) rfl (hb hby d4_11) rfl (decide_eq_true (congrArg Value.ref hc11_4)) (by decide) (by decide) kont) ?_
      show Go p e s below _ _ _ T3 (mkF m 14 #[.val (.ref b)] [])
      refine Go.st (fun _ kont => XT.iconstV X3.here hx rfl (1 : Int32) (hb hby d4_14) (by decide) kont) ?_
      show Go p e s below _ _ _ T3 (mkF m 15 #[.val (.ref b)] [(.int (1 : Int32))])
      refine Go.st (fun _ kont => XS.goto X3.here hx rfl (pc0 := 15) (pc' := 19) rfl (hb hby d4_15) (by decide) (by decide) kont) ?_
      show Go p e s below _ _ _ T3 (mkF m 19 #[.val (.ref b)] [(.int (1 : Int32))])
      exact Go.retN X3 hx hlk hret (by simp) (hb hby d4_19) (by decide) (by decide) ⟨by rw [hv.1 (Or.inr hc11_4)]; rfl, N0, e3⟩
    · --
      refine Go.st (fun _ kont => Jvm.RoadKit.acmp (g := (mkF m 11 #[.val (.ref b)] [(.ref (r 12)), (.ref b)])) X3 hx rfl rfl rfl (pc0 := 11) (pc' := 18) (same := false) rfl (hb hby d4_11) rfl (decide_eq_false fun q => hc11_4 (Value.ref.inj q)) (by decide) (by decide) kont) ?_
      show Go p e s below _ _ _ T3 (mkF m 18 #[.val (.ref b)] [])
      refine Go.st (fun _ kont => XT.iconstV X3.here hx rfl (0 : Int32) (hb hby d4_18) (by decide) kont) ?_
      show Go p e s below _ _ _ T3 (mkF m 19 #[.val (.ref b)] [(.int (0 : Int32))])
      exact Go.retN X3 hx hlk hret (by simp) (hb hby d4_19) (by decide) (by decide) ⟨by rw [hv.2 ⟨hc4_2, hc11_4⟩]; rfl, N0, e3⟩
theorem d3_0 : decode prog_32_method_4_code 0 = .ok (.aload_n 0, 1) := by decide +kernel
theorem d3_1 : decode prog_32_method_4_code 1 = .ok (.getfield 89, 3) := by decide +kernel
theorem d3_4 : decode prog_32_method_4_code 4 = .ok (.ireturn, 1) := by decide +kernel
theorem ef_c (m : MethodId) (x0 : Addr) : entryFrame m #[(.ref x0)] 1 = mkF m 0 #[.val (.ref x0)] [] := by first | (simp [entryFrame, mkF, argsToLocals, Value.category]; done) | rfl
set_option maxRecDepth 65536 in
set_option maxHeartbeats 40000000 in
theorem rmc (l : Launch) (Z : State) (a0 : Array Value) (hw : ∀ d ∈ tables_1, d.before a0 Z = true) (ws : List Jvm.Cond) (b : Addr) (o : Int32) (h0 : Heap) (n0 : Nat) (F : Fld Z h0 b "com/example/predicate/predicate/query/Keyword" "parameterCount" "I" (.int o)) :
    Meets l Z (⟨"com/example/predicate/predicate/query/Keyword", "getParameterCount", "()I"⟩ : MethodName) prog_32_method_4_code 1 (some .int) ({ frames := 0, cells := 0, slots := 0, locals := 0 } : Room) ws #[(.ref b)] h0 (fun v h L => v = some (.int o) ∧ Fr n0 L ∧ h = h0) := by
  refine Meets.of (plainFor_of_name (by first | (simp [plainName, overriddenIn]; done) | decide +kernel : plainName "com/example/predicate/predicate/query/Keyword" = true)) ?_
  intro p e s m below meth c s₁ X0 hx hby hml hret hlk hnm hZ hown e0
  replace hown : s.vm.findClass "com/example/predicate/predicate/query/Keyword" = some m.cls := hown
  have N0 := Fr.nil n0
  refine Go.cast (ef_c m b) ?_
  show Go p e s below _ _ _ s₁ (mkF m 0 #[.val (.ref b)] [])
  refine Go.st (fun _ kont => XS.aloadN X0.here hx rfl (hb hby d3_0) rfl rfl kont) ?_
  show Go p e s below _ _ _ s₁ (mkF m 1 #[.val (.ref b)] [(.ref b)])
  obtain ⟨T1, X1, e1, st1⟩ := getF X0 hx hZ hown (host := "") (Or.inl (hw _ (List.mem_of_getElem? (i := 19) rfl))) Via.refl e0 F (g := (mkF m 1 #[.val (.ref b)] [(.ref b)])) rfl rfl (hb hby d3_1)
  refine Go.st st1 ?_
  show Go p e s below _ _ _ T1 (mkF m 4 #[.val (.ref b)] [(.int o)])
  exact Go.retI X1 hx hlk hret (hb hby d3_4) (by decide) (by decide) ⟨rfl, N0, e1⟩
theorem pd__I_Lcom_example_predicate_predicate_query_Keyword_ : parseMethodDescriptor "(I)Lcom/example/predicate/predicate/query/Keyword;" = some ⟨[.int], some (.object "com/example/predicate/predicate/query/Keyword")⟩ := by decide +kernel
theorem pd___Z : parseMethodDescriptor "()Z" = some ⟨[], some .boolean⟩ := by decide +kernel
theorem pd___I : parseMethodDescriptor "()I" = some ⟨[], some .int⟩ := by decide +kernel
theorem ef_0 (m : MethodId) (x0 : Int32) : entryFrame m #[(.int x0)] maxLocals = mkF m 0 #[.val (.int x0), .unset, .unset, .unset, .unset] [] := by first | (simp [entryFrame, mkF, argsToLocals, Value.category, maxLocals]; done) | rfl
set_option maxRecDepth 65536 in
set_option maxHeartbeats 40000000 in
theorem rm0 (l : Launch) (Z : State) (a0 : Array Value) (hw : ∀ d ∈ tables_1, d.before a0 Z = true) (ws : List Jvm.Cond) (p0 : Int32) (h0 : Heap) (n0 : Nat) (r : Nat → Addr) (C0 : Cs Z h0 r) (P0 : Fld Z h0 (r 0) "com/example/predicate/predicate/query/Keyword" "parameterCount" "I" (.int 1)) (P1 : Fld Z h0 (r 1) "com/example/predicate/predicate/query/Keyword" "parameterCount" "I" (.int 1)) :
    Meets l Z x code maxLocals ret room_1 ws #[(.int p0)] h0 (fun v h L => v = some (.int 1) ∧ Fr n0 L) := by
  refine Meets.of (plainFor_of_name (by first | (simp [plainName, overriddenIn]; done) | decide +kernel : plainName "com/example/predicate/predicate/query/KeywordTakesNullPinLaw" = true)) ?_
  intro p e s m below meth c s₁ X0 hx hby hml hret hlk hnm hZ hown e0
  replace hown : s.vm.findClass "com/example/predicate/predicate/query/KeywordTakesNullPinLaw" = some m.cls := hown
  have N0 := Fr.nil n0
  refine Go.cast (ef_0 m p0) ?_
  show Go p e s below _ _ _ s₁ (mkF m 0 #[.val (.int p0), .unset, .unset, .unset, .unset] [])
  refine Go.st (fun _ kont => XS.iloadN X0.here hx rfl (hb hby at_0) rfl kont) ?_
  show Go p e s below _ _ _ s₁ (mkF m 1 #[.val (.int p0), .unset, .unset, .unset, .unset] [(.int p0)])
  refine Go.st (X0.ldcInt hx hown (mvT hZ (hw _ (List.mem_of_getElem? (i := 0) rfl))) (g := (mkF m 1 #[.val (.int p0), .unset, .unset, .unset, .unset] [(.int p0)])) rfl (hb hby at_1)) ?_
  show Go p e s below _ _ _ s₁ (mkF m 3 #[.val (.int p0), .unset, .unset, .unset, .unset] [(.int (2147483647 : Int32)), (.int p0)])
  refine Go.st (fun _ kont => XS.iand X0.here hx rfl (hb hby at_3) rfl kont) ?_
  show Go p e s below _ _ _ s₁ (mkF m 4 #[.val (.int p0), .unset, .unset, .unset, .unset] [(.int (p0 &&& (2147483647 : Int32)))])
  refine Go.st (fun _ kont => XT.bipushV X0.here hx rfl (22 : Int32) (hb hby at_4) (by decide) kont) ?_
  show Go p e s below _ _ _ s₁ (mkF m 6 #[.val (.int p0), .unset, .unset, .unset, .unset] [(.int (22 : Int32)), (.int (p0 &&& (2147483647 : Int32)))])
  refine Go.st (fun _ kont => iremM X0 hx rfl (hb hby at_6) rfl (by decide) kont) ?_
  show Go p e s below _ _ _ s₁ (mkF m 7 #[.val (.int p0), .unset, .unset, .unset, .unset] [(.int ((p0 &&& (2147483647 : Int32)) % (22 : Int32)))])
  refine Go.st (fun _ kont => XS.istoreN X0.here hx rfl (hb hby at_7) rfl (l' := #[.val (.int p0), .val (.int ((p0 &&& (2147483647 : Int32)) % (22 : Int32))), .unset, .unset, .unset]) rfl kont) ?_
  show Go p e s below _ _ _ s₁ (mkF m 8 #[.val (.int p0), .val (.int ((p0 &&& (2147483647 : Int32)) % (22 : Int32))), .unset, .unset, .unset] [])
  obtain ⟨i, hi⟩ : ∃ z : Int32, z = ((p0 &&& (2147483647 : Int32)) % (22 : Int32)) := ⟨_, rfl⟩
  rw [← hi]
  show Go p e s below _ _ _ s₁ (mkF m 8 #[.val (.int p0), .val (.int i), .unset, .unset, .unset] [])
  refine Go.st (fun _ kont => XS.iloadN X0.here hx rfl (hb hby at_8) rfl kont) ?_
  show Go p e s below _ _ _ s₁ (mkF m 9 #[.val (.int p0), .val (.int i), .unset, .unset, .unset] [(.int i)])
  refine Go.callS (W := 0) (argsL := [(.int i)]) (rest := []) X0 hx hZ hown (y := (⟨"com/example/predicate/predicate/query/KeywordTakesNullPinLaw", "pick", "(I)Lcom/example/predicate/predicate/query/Keyword;"⟩ : MethodName)) (hw _ (List.mem_of_getElem? (i := 1) rfl)) (hw _ (List.mem_of_getElem? (i := 2) rfl)) (hw _ (List.mem_of_getElem? (i := 3) rfl)) (hw _ (List.mem_of_getElem? (i := 4) rfl)) (rmp l Z a0 hw [] i h0 n0 r C0) e0 (by decide) (by decide) (by decide) (by decide) (by decide) (by rw [hml]; rfl) (lenOf pd__I_Lcom_example_predicate_predicate_query_Keyword_ rfl) (Nat.le_of_eq rfl) (hb hby at_9) ?_
  intro T1 v1 L1 X1 hQ1
  obtain ⟨b, rfl, N1, E1, Eb, q0, q1, q2⟩ := hQ1
  have M1 := Fr.app N0 N1
  show Go p e s below _ _ _ T1 (mkF m 12 #[.val (.int p0), .val (.int i), .unset, .unset, .unset] [(.ref b)])
  refine Go.st (fun _ kont => XS.astoreN X1.here hx rfl (hb hby at_12) rfl rfl (l' := #[.val (.int p0), .val (.int i), .val (.ref b), .unset, .unset]) rfl kont) ?_
  show Go p e s below _ _ _ T1 (mkF m 13 #[.val (.int p0), .val (.int i), .val (.ref b), .unset, .unset] [])
  refine Go.st (fun _ kont => XS.iloadN X1.here hx rfl (hb hby at_13) rfl kont) ?_
  show Go p e s below _ _ _ T1 (mkF m 14 #[.val (.int p0), .val (.int i), .val (.ref b), .unset, .unset] [(.int i)])
  by_cases hc14_2 : i = (0 : Int32)
  · --
    refine Go.st (fun _ kont => XS.ifYes X1.here hx rfl (pc0 := 14) (pc' := 22) rfl (hb hby at_14) rfl ((if0 _ _).trans (teq hc14_2).1) (by decide) (by decide) kont) ?_
    show Go p e s below _ _ _ T1 (mkF m 22 #[.val (.int p0), .val (.int i), .val (.ref b), .unset, .unset] [])
    obtain rfl : b = r 0 := q0 hc14_2
    show Go p e s below _ _ _ T1 (mkF m 22 #[.val (.int p0), .val (.int i), .val (.ref (r 0)), .unset, .unset] [])
    refine Go.st (fun _ kont => XT.iconstV X1.here hx rfl (1 : Int32) (hb hby at_22) (by decide) kont) ?_
    show Go p e s below _ _ _ T1 (mkF m 23 #[.val (.int p0), .val (.int i), .val (.ref (r 0)), .unset, .unset] [(.int (1 : Int32))])
    refine Go.st (fun _ kont => XS.goto X1.here hx rfl (pc0 := 23) (pc' := 27) rfl (hb hby at_23) (by decide) (by decide) kont) ?_
    show Go p e s below _ _ _ T1 (mkF m 27 #[.val (.int p0), .val (.int i), .val (.ref (r 0)), .unset, .unset] [(.int (1 : Int32))])
    refine Go.st (fun _ kont => XS.istoreN X1.here hx rfl (hb hby at_27) rfl (l' := #[.val (.int p0), .val (.int i), .val (.ref (r 0)), .val (.int (1 : Int32)), .unset]) rfl kont) ?_
    show Go p e s below _ _ _ T1 (mkF m 28 #[.val (.int p0), .val (.int i), .val (.ref (r 0)), .val (.int (1 : Int32)), .unset] [])
    refine Go.st (fun _ kont => XS.aloadN X1.here hx rfl (hb hby at_28) rfl rfl kont) ?_
    show Go p e s below _ _ _ T1 (mkF m 29 #[.val (.int p0), .val (.int i), .val (.ref (r 0)), .val (.int (1 : Int32)), .unset] [(.ref (r 0))])
    refine Go.callV (b := (r 0)) (W := 0) (argsL := []) (rest := []) X1 hx hZ hown (y := (⟨"com/example/predicate/predicate/query/Keyword", "takesNull", "()Z"⟩ : MethodName)) (z := (⟨"com/example/predicate/predicate/query/Keyword", "takesNull", "()Z"⟩ : MethodName)) (hw _ (List.mem_of_getElem? (i := 8) rfl)) (hw _ (List.mem_of_getElem? (i := 9) rfl)) (notFace_of_selects (args := #[]) (mvT hZ (hw _ (List.mem_of_getElem? (i := 11) rfl)))) (hw _ (List.mem_of_getElem? (i := 11) rfl)) (hw _ (List.mem_of_getElem? (i := 10) rfl)) (hw _ (List.mem_of_getElem? (i := 6) rfl)) (hw _ (List.mem_of_getElem? (i := 12) rfl)) (rmn l Z a0 hw [] (r 0) (1 : Int32) h0 n0 r C0 ⟨fun _ => rfl, fun q => absurd rfl q.1⟩) E1 (C0 0 "EQUALS" 0 rfl rfl).2.1 (by decide) (by decide) (by decide) (by decide) (by decide) (by rw [hml]; rfl) (lenOf pd___Z rfl) (Nat.le_of_eq rfl) (hb hby at_29) ?_
    intro T3 v3 L3 X3 hQ3
    obtain ⟨rfl, N3, E3⟩ := hQ3
    have M3 := Fr.app M1 N3
    show Go p e s below _ _ _ T3 (mkF m 32 #[.val (.int p0), .val (.int i), .val (.ref (r 0)), .val (.int (1 : Int32)), .unset] [(.int (1 : Int32))])
    refine Go.st (fun _ kont => XS.istore X3.here hx rfl (hb hby at_32) rfl (l' := #[.val (.int p0), .val (.int i), .val (.ref (r 0)), .val (.int (1 : Int32)), .val (.int (1 : Int32))]) rfl kont) ?_
    show Go p e s below _ _ _ T3 (mkF m 34 #[.val (.int p0), .val (.int i), .val (.ref (r 0)), .val (.int (1 : Int32)), .val (.int (1 : Int32))] [])
    refine Go.st (fun _ kont => XS.iload X3.here hx rfl (hb hby at_34) rfl kont) ?_
    show Go p e s below _ _ _ T3 (mkF m 36 #[.val (.int p0), .val (.int i), .val (.ref (r 0)), .val (.int (1 : Int32)), .val (.int (1 : Int32))] [(.int (1 : Int32))])
    refine Go.st (fun _ kont => XS.iloadN X3.here hx rfl (hb hby at_36) rfl kont) ?_
    show Go p e s below _ _ _ T3 (mkF m 37 #[.val (.int p0), .val (.int i), .val (.ref (r 0)), .val (.int (1 : Int32)), .val (.int (1 : Int32))] [(.int (1 : Int32)), (.int (1 : Int32))])
    refine Go.st (fun _ kont => XS.icmpYes X3.here hx rfl (pc0 := 37) (pc' := 42) rfl (hb hby at_37) rfl (teq rfl).1 (by decide) (by decide) kont) ?_
    show Go p e s below _ _ _ T3 (mkF m 42 #[.val (.int p0), .val (.int i), .val (.ref (r 0)), .val (.int (1 : Int32)), .val (.int (1 : Int32))] [])
    refine Go.st (fun _ kont => XS.iload X3.here hx rfl (hb hby at_42) rfl kont) ?_
    show Go p e s below _ _ _ T3 (mkF m 44 #[.val (.int p0), .val (.int i), .val (.ref (r 0)), .val (.int (1 : Int32)), .val (.int (1 : Int32))] [(.int (1 : Int32))])
    refine Go.st (fun _ kont => XS.ifNo X3.here hx rfl (hb hby at_44) rfl ((if0 _ _).trans (feq (by decide : ¬ ((1 : Int32) = (0 : Int32)))).1) kont) ?_
    show Go p e s below _ _ _ T3 (mkF m 47 #[.val (.int p0), .val (.int i), .val (.ref (r 0)), .val (.int (1 : Int32)), .val (.int (1 : Int32))] [])
    refine Go.st (fun _ kont => XS.aloadN X3.here hx rfl (hb hby at_47) rfl rfl kont) ?_
    show Go p e s below _ _ _ T3 (mkF m 48 #[.val (.int p0), .val (.int i), .val (.ref (r 0)), .val (.int (1 : Int32)), .val (.int (1 : Int32))] [(.ref (r 0))])
    refine Go.callV (b := (r 0)) (W := 0) (argsL := []) (rest := []) X3 hx hZ hown (y := (⟨"com/example/predicate/predicate/query/Keyword", "getParameterCount", "()I"⟩ : MethodName)) (z := (⟨"com/example/predicate/predicate/query/Keyword", "getParameterCount", "()I"⟩ : MethodName)) (hw _ (List.mem_of_getElem? (i := 14) rfl)) (hw _ (List.mem_of_getElem? (i := 15) rfl)) (notFace_of_selects (args := #[]) (mvT hZ (hw _ (List.mem_of_getElem? (i := 17) rfl)))) (hw _ (List.mem_of_getElem? (i := 17) rfl)) (hw _ (List.mem_of_getElem? (i := 16) rfl)) (hw _ (List.mem_of_getElem? (i := 6) rfl)) (hw _ (List.mem_of_getElem? (i := 18) rfl)) (rmc l Z a0 hw [] (r 0) (1 : Int32) h0 n0 P0) E3 (C0 0 "EQUALS" 0 rfl rfl).2.1 (by decide) (by decide) (by decide) (by decide) (by decide) (by rw [hml]; rfl) (lenOf pd___I rfl) (Nat.le_of_eq rfl) (hb hby at_48) ?_
    intro T4 v4 L4 X4 hQ4
    obtain ⟨rfl, N4, E4⟩ := hQ4
    have M4 := Fr.app M3 N4
    show Go p e s below _ _ _ T4 (mkF m 51 #[.val (.int p0), .val (.int i), .val (.ref (r 0)), .val (.int (1 : Int32)), .val (.int (1 : Int32))] [(.int (1 : Int32))])
    refine Go.st (fun _ kont => XT.iconstV X4.here hx rfl (1 : Int32) (hb hby at_51) (by decide) kont) ?_
    show Go p e s below _ _ _ T4 (mkF m 52 #[.val (.int p0), .val (.int i), .val (.ref (r 0)), .val (.int (1 : Int32)), .val (.int (1 : Int32))] [(.int (1 : Int32)), (.int (1 : Int32))])
    refine Go.st (fun _ kont => XS.icmpNo X4.here hx rfl (hb hby at_52) rfl (teq rfl).2 kont) ?_
    show Go p e s below _ _ _ T4 (mkF m 55 #[.val (.int p0), .val (.int i), .val (.ref (r 0)), .val (.int (1 : Int32)), .val (.int (1 : Int32))] [])
    refine Go.st (fun _ kont => XS.aloadN X4.here hx rfl (hb hby at_55) rfl rfl kont) ?_
    show Go p e s below _ _ _ T4 (mkF m 56 #[.val (.int p0), .val (.int i), .val (.ref (r 0)), .val (.int (1 : Int32)), .val (.int (1 : Int32))] [(.ref (r 0))])
    refine Go.callV (b := (r 0)) (W := 0) (argsL := []) (rest := []) X4 hx hZ hown (y := (⟨"com/example/predicate/predicate/query/Keyword", "takesValues", "()Z"⟩ : MethodName)) (z := (⟨"com/example/predicate/predicate/query/Keyword", "takesValues", "()Z"⟩ : MethodName)) (hw _ (List.mem_of_getElem? (i := 21) rfl)) (hw _ (List.mem_of_getElem? (i := 22) rfl)) (notFace_of_selects (args := #[]) (mvT hZ (hw _ (List.mem_of_getElem? (i := 24) rfl)))) (hw _ (List.mem_of_getElem? (i := 24) rfl)) (hw _ (List.mem_of_getElem? (i := 23) rfl)) (hw _ (List.mem_of_getElem? (i := 6) rfl)) (hw _ (List.mem_of_getElem? (i := 25) rfl)) (rmv l Z a0 hw [] (r 0) (0 : Int32) h0 n0 r C0 ⟨fun q => q.elim (fun q => absurd q (C0.ne (i := 0) (j := 11) rfl rfl rfl rfl (by decide))) (fun q => absurd q (C0.ne (i := 0) (j := 12) rfl rfl rfl rfl (by decide))), fun _ => rfl⟩) E4 (C0 0 "EQUALS" 0 rfl rfl).2.1 (by decide) (by decide) (by decide) (by decide) (by decide) (by rw [hml]; rfl) (lenOf pd___Z rfl) (Nat.le_of_eq rfl) (hb hby at_56) ?_
    intro T5 v5 L5 X5 hQ5
    obtain ⟨rfl, N5, E5⟩ := hQ5
    have M5 := Fr.app M4 N5
    show Go p e s below _ _ _ T5 (mkF m 59 #[.val (.int p0), .val (.int i), .val (.ref (r 0)), .val (.int (1 : Int32)), .val (.int (1 : Int32))] [(.int (0 : Int32))])
    refine Go.st (fun _ kont => XS.ifYes X5.here hx rfl (pc0 := 59) (pc' := 64) rfl (hb hby at_59) rfl ((if0 _ _).trans (teq rfl).1) (by decide) (by decide) kont) ?_
    show Go p e s below _ _ _ T5 (mkF m 64 #[.val (.int p0), .val (.int i), .val (.ref (r 0)), .val (.int (1 : Int32)), .val (.int (1 : Int32))] [])
    refine Go.st (fun _ kont => XT.iconstV X5.here hx rfl (1 : Int32) (hb hby at_64) (by decide) kont) ?_
    show Go p e s below _ _ _ T5 (mkF m 65 #[.val (.int p0), .val (.int i), .val (.ref (r 0)), .val (.int (1 : Int32)), .val (.int (1 : Int32))] [(.int (1 : Int32))])
    exact Go.retN X5 hx hlk hret (by simp) (hb hby at_65) (by decide) (by decide) ⟨rfl, M5⟩
  · --
    refine Go.st (fun _ kont => XS.ifNo X1.here hx rfl (hb hby at_14) rfl ((if0 _ _).trans (feq hc14_2).1) kont) ?_
    show Go p e s below _ _ _ T1 (mkF m 17 #[.val (.int p0), .val (.int i), .val (.ref b), .unset, .unset] [])
    refine Go.st (fun _ kont => XS.iloadN X1.here hx rfl (hb hby at_17) rfl kont) ?_
    show Go p e s below _ _ _ T1 (mkF m 18 #[.val (.int p0), .val (.int i), .val (.ref b), .unset, .unset] [(.int i)])
    refine Go.st (fun _ kont => XT.iconstV X1.here hx rfl (1 : Int32) (hb hby at_18) (by decide) kont) ?_
    show Go p e s below _ _ _ T1 (mkF m 19 #[.val (.int p0), .val (.int i), .val (.ref b), .unset, .unset] [(.int (1 : Int32)), (.int i)])
    by_cases hc19_6 : i = (1 : Int32)
    · --
      refine Go.st (fun _ kont => XS.icmpNo X1.here hx rfl (hb hby at_19) rfl (teq hc19_6).2 kont) ?_
      show Go p e s below _ _ _ T1 (mkF m 22 #[.val (.int p0), .val (.int i), .val (.ref b), .unset, .unset] [])
      obtain rfl : b = r 1 := q1 hc19_6
      show Go p e s below _ _ _ T1 (mkF m 22 #[.val (.int p0), .val (.int i), .val (.ref (r 1)), .unset, .unset] [])
      refine Go.st (fun _ kont => XT.iconstV X1.here hx rfl (1 : Int32) (hb hby at_22) (by decide) kont) ?_
      show Go p e s below _ _ _ T1 (mkF m 23 #[.val (.int p0), .val (.int i), .val (.ref (r 1)), .unset, .unset] [(.int (1 : Int32))])
      refine Go.st (fun _ kont => XS.goto X1.here hx rfl (pc0 := 23) (pc' := 27) rfl (hb hby at_23) (by decide) (by decide) kont) ?_
      show Go p e s below _ _ _ T1 (mkF m 27 #[.val (.int p0), .val (.int i), .val (.ref (r 1)), .unset, .unset] [(.int (1 : Int32))])
      refine Go.st (fun _ kont => XS.istoreN X1.here hx rfl (hb hby at_27) rfl (l' := #[.val (.int p0), .val (.int i), .val (.ref (r 1)), .val (.int (1 : Int32)), .unset]) rfl kont) ?_
      show Go p e s below _ _ _ T1 (mkF m 28 #[.val (.int p0), .val (.int i), .val (.ref (r 1)), .val (.int (1 : Int32)), .unset] [])
      refine Go.st (fun _ kont => XS.aloadN X1.here hx rfl (hb hby at_28) rfl rfl kont) ?_
      show Go p e s below _ _ _ T1 (mkF m 29 #[.val (.int p0), .val (.int i), .val (.ref (r 1)), .val (.int (1 : Int32)), .unset] [(.ref (r 1))])
      refine Go.callV (b := (r 1)) (W := 0) (argsL := []) (rest := []) X1 hx hZ hown (y := (⟨"com/example/predicate/predicate/query/Keyword", "takesNull", "()Z"⟩ : MethodName)) (z := (⟨"com/example/predicate/predicate/query/Keyword", "takesNull", "()Z"⟩ : MethodName)) (hw _ (List.mem_of_getElem? (i := 8) rfl)) (hw _ (List.mem_of_getElem? (i := 9) rfl)) (notFace_of_selects (args := #[]) (mvT hZ (hw _ (List.mem_of_getElem? (i := 11) rfl)))) (hw _ (List.mem_of_getElem? (i := 11) rfl)) (hw _ (List.mem_of_getElem? (i := 10) rfl)) (hw _ (List.mem_of_getElem? (i := 6) rfl)) (hw _ (List.mem_of_getElem? (i := 12) rfl)) (rmn l Z a0 hw [] (r 1) (1 : Int32) h0 n0 r C0 ⟨fun _ => rfl, fun q => absurd rfl q.2⟩) E1 (C0 1 "NOT" 1 rfl rfl).2.1 (by decide) (by decide) (by decide) (by decide) (by decide) (by rw [hml]; rfl) (lenOf pd___Z rfl) (Nat.le_of_eq rfl) (hb hby at_29) ?_
      intro T7 v7 L7 X7 hQ7
      obtain ⟨rfl, N7, E7⟩ := hQ7
      have M7 := Fr.app M1 N7
      show Go p e s below _ _ _ T7 (mkF m 32 #[.val (.int p0), .val (.int i), .val (.ref (r 1)), .val (.int (1 : Int32)), .unset] [(.int (1 : Int32))])
      refine Go.st (fun _ kont => XS.istore X7.here hx rfl (hb hby at_32) rfl (l' := #[.val (.int p0), .val (.int i), .val (.ref (r 1)), .val (.int (1 : Int32)), .val (.int (1 : Int32))]) rfl kont) ?_
      show Go p e s below _ _ _ T7 (mkF m 34 #[.val (.int p0), .val (.int i), .val (.ref (r 1)), .val (.int (1 : Int32)), .val (.int (1 : Int32))] [])
      refine Go.st (fun _ kont => XS.iload X7.here hx rfl (hb hby at_34) rfl kont) ?_
      show Go p e s below _ _ _ T7 (mkF m 36 #[.val (.int p0), .val (.int i), .val (.ref (r 1)), .val (.int (1 : Int32)), .val (.int (1 : Int32))] [(.int (1 : Int32))])
      refine Go.st (fun _ kont => XS.iloadN X7.here hx rfl (hb hby at_36) rfl kont) ?_
      show Go p e s below _ _ _ T7 (mkF m 37 #[.val (.int p0), .val (.int i), .val (.ref (r 1)), .val (.int (1 : Int32)), .val (.int (1 : Int32))] [(.int (1 : Int32)), (.int (1 : Int32))])
      refine Go.st (fun _ kont => XS.icmpYes X7.here hx rfl (pc0 := 37) (pc' := 42) rfl (hb hby at_37) rfl (teq rfl).1 (by decide) (by decide) kont) ?_
      show Go p e s below _ _ _ T7 (mkF m 42 #[.val (.int p0), .val (.int i), .val (.ref (r 1)), .val (.int (1 : Int32)), .val (.int (1 : Int32))] [])
      refine Go.st (fun _ kont => XS.iload X7.here hx rfl (hb hby at_42) rfl kont) ?_
      show Go p e s below _ _ _ T7 (mkF m 44 #[.val (.int p0), .val (.int i), .val (.ref (r 1)), .val (.int (1 : Int32)), .val (.int (1 : Int32))] [(.int (1 : Int32))])
      refine Go.st (fun _ kont => XS.ifNo X7.here hx rfl (hb hby at_44) rfl ((if0 _ _).trans (feq (by decide : ¬ ((1 : Int32) = (0 : Int32)))).1) kont) ?_
      show Go p e s below _ _ _ T7 (mkF m 47 #[.val (.int p0), .val (.int i), .val (.ref (r 1)), .val (.int (1 : Int32)), .val (.int (1 : Int32))] [])
      refine Go.st (fun _ kont => XS.aloadN X7.here hx rfl (hb hby at_47) rfl rfl kont) ?_
      show Go p e s below _ _ _ T7 (mkF m 48 #[.val (.int p0), .val (.int i), .val (.ref (r 1)), .val (.int (1 : Int32)), .val (.int (1 : Int32))] [(.ref (r 1))])
      refine Go.callV (b := (r 1)) (W := 0) (argsL := []) (rest := []) X7 hx hZ hown (y := (⟨"com/example/predicate/predicate/query/Keyword", "getParameterCount", "()I"⟩ : MethodName)) (z := (⟨"com/example/predicate/predicate/query/Keyword", "getParameterCount", "()I"⟩ : MethodName)) (hw _ (List.mem_of_getElem? (i := 14) rfl)) (hw _ (List.mem_of_getElem? (i := 15) rfl)) (notFace_of_selects (args := #[]) (mvT hZ (hw _ (List.mem_of_getElem? (i := 17) rfl)))) (hw _ (List.mem_of_getElem? (i := 17) rfl)) (hw _ (List.mem_of_getElem? (i := 16) rfl)) (hw _ (List.mem_of_getElem? (i := 6) rfl)) (hw _ (List.mem_of_getElem? (i := 18) rfl)) (rmc l Z a0 hw [] (r 1) (1 : Int32) h0 n0 P1) E7 (C0 1 "NOT" 1 rfl rfl).2.1 (by decide) (by decide) (by decide) (by decide) (by decide) (by rw [hml]; rfl) (lenOf pd___I rfl) (Nat.le_of_eq rfl) (hb hby at_48) ?_
      intro T8 v8 L8 X8 hQ8
      obtain ⟨rfl, N8, E8⟩ := hQ8
      have M8 := Fr.app M7 N8
      show Go p e s below _ _ _ T8 (mkF m 51 #[.val (.int p0), .val (.int i), .val (.ref (r 1)), .val (.int (1 : Int32)), .val (.int (1 : Int32))] [(.int (1 : Int32))])
      refine Go.st (fun _ kont => XT.iconstV X8.here hx rfl (1 : Int32) (hb hby at_51) (by decide) kont) ?_
      show Go p e s below _ _ _ T8 (mkF m 52 #[.val (.int p0), .val (.int i), .val (.ref (r 1)), .val (.int (1 : Int32)), .val (.int (1 : Int32))] [(.int (1 : Int32)), (.int (1 : Int32))])
      refine Go.st (fun _ kont => XS.icmpNo X8.here hx rfl (hb hby at_52) rfl (teq rfl).2 kont) ?_
      show Go p e s below _ _ _ T8 (mkF m 55 #[.val (.int p0), .val (.int i), .val (.ref (r 1)), .val (.int (1 : Int32)), .val (.int (1 : Int32))] [])
      refine Go.st (fun _ kont => XS.aloadN X8.here hx rfl (hb hby at_55) rfl rfl kont) ?_
      show Go p e s below _ _ _ T8 (mkF m 56 #[.val (.int p0), .val (.int i), .val (.ref (r 1)), .val (.int (1 : Int32)), .val (.int (1 : Int32))] [(.ref (r 1))])
      refine Go.callV (b := (r 1)) (W := 0) (argsL := []) (rest := []) X8 hx hZ hown (y := (⟨"com/example/predicate/predicate/query/Keyword", "takesValues", "()Z"⟩ : MethodName)) (z := (⟨"com/example/predicate/predicate/query/Keyword", "takesValues", "()Z"⟩ : MethodName)) (hw _ (List.mem_of_getElem? (i := 21) rfl)) (hw _ (List.mem_of_getElem? (i := 22) rfl)) (notFace_of_selects (args := #[]) (mvT hZ (hw _ (List.mem_of_getElem? (i := 24) rfl)))) (hw _ (List.mem_of_getElem? (i := 24) rfl)) (hw _ (List.mem_of_getElem? (i := 23) rfl)) (hw _ (List.mem_of_getElem? (i := 6) rfl)) (hw _ (List.mem_of_getElem? (i := 25) rfl)) (rmv l Z a0 hw [] (r 1) (0 : Int32) h0 n0 r C0 ⟨fun q => q.elim (fun q => absurd q (C0.ne (i := 1) (j := 11) rfl rfl rfl rfl (by decide))) (fun q => absurd q (C0.ne (i := 1) (j := 12) rfl rfl rfl rfl (by decide))), fun _ => rfl⟩) E8 (C0 1 "NOT" 1 rfl rfl).2.1 (by decide) (by decide) (by decide) (by decide) (by decide) (by rw [hml]; rfl) (lenOf pd___Z rfl) (Nat.le_of_eq rfl) (hb hby at_56) ?_
      intro T9 v9 L9 X9 hQ9
      obtain ⟨rfl, N9, E9⟩ := hQ9
      have M9 := Fr.app M8 N9
      show Go p e s below _ _ _ T9 (mkF m 59 #[.val (.int p0), .val (.int i), .val (.ref (r 1)), .val (.int (1 : Int32)), .val (.int (1 : Int32))] [(.int (0 : Int32))])
      refine Go.st (fun _ kont => XS.ifYes X9.here hx rfl (pc0 := 59) (pc' := 64) rfl (hb hby at_59) rfl ((if0 _ _).trans (teq rfl).1) (by decide) (by decide) kont) ?_
      show Go p e s below _ _ _ T9 (mkF m 64 #[.val (.int p0), .val (.int i), .val (.ref (r 1)), .val (.int (1 : Int32)), .val (.int (1 : Int32))] [])
      refine Go.st (fun _ kont => XT.iconstV X9.here hx rfl (1 : Int32) (hb hby at_64) (by decide) kont) ?_
      show Go p e s below _ _ _ T9 (mkF m 65 #[.val (.int p0), .val (.int i), .val (.ref (r 1)), .val (.int (1 : Int32)), .val (.int (1 : Int32))] [(.int (1 : Int32))])
      exact Go.retN X9 hx hlk hret (by simp) (hb hby at_65) (by decide) (by decide) ⟨rfl, M9⟩
    · --
      refine Go.st (fun _ kont => XS.icmpYes X1.here hx rfl (pc0 := 19) (pc' := 26) rfl (hb hby at_19) rfl (feq hc19_6).2 (by decide) (by decide) kont) ?_
      show Go p e s below _ _ _ T1 (mkF m 26 #[.val (.int p0), .val (.int i), .val (.ref b), .unset, .unset] [])
      have qn := q2 hc14_2 hc19_6
      refine Go.st (fun _ kont => XT.iconstV X1.here hx rfl (0 : Int32) (hb hby at_26) (by decide) kont) ?_
      show Go p e s below _ _ _ T1 (mkF m 27 #[.val (.int p0), .val (.int i), .val (.ref b), .unset, .unset] [(.int (0 : Int32))])
      refine Go.st (fun _ kont => XS.istoreN X1.here hx rfl (hb hby at_27) rfl (l' := #[.val (.int p0), .val (.int i), .val (.ref b), .val (.int (0 : Int32)), .unset]) rfl kont) ?_
      show Go p e s below _ _ _ T1 (mkF m 28 #[.val (.int p0), .val (.int i), .val (.ref b), .val (.int (0 : Int32)), .unset] [])
      refine Go.st (fun _ kont => XS.aloadN X1.here hx rfl (hb hby at_28) rfl rfl kont) ?_
      show Go p e s below _ _ _ T1 (mkF m 29 #[.val (.int p0), .val (.int i), .val (.ref b), .val (.int (0 : Int32)), .unset] [(.ref b)])
      refine Go.callV (b := b) (W := 0) (argsL := []) (rest := []) X1 hx hZ hown (y := (⟨"com/example/predicate/predicate/query/Keyword", "takesNull", "()Z"⟩ : MethodName)) (z := (⟨"com/example/predicate/predicate/query/Keyword", "takesNull", "()Z"⟩ : MethodName)) (hw _ (List.mem_of_getElem? (i := 8) rfl)) (hw _ (List.mem_of_getElem? (i := 9) rfl)) (notFace_of_selects (args := #[]) (mvT hZ (hw _ (List.mem_of_getElem? (i := 11) rfl)))) (hw _ (List.mem_of_getElem? (i := 11) rfl)) (hw _ (List.mem_of_getElem? (i := 10) rfl)) (hw _ (List.mem_of_getElem? (i := 6) rfl)) (hw _ (List.mem_of_getElem? (i := 12) rfl)) (rmn l Z a0 hw [] b (0 : Int32) h0 n0 r C0 ⟨fun q => q.elim (fun q => absurd q qn.1) (fun q => absurd q qn.2), fun _ => rfl⟩) E1 Eb (by decide) (by decide) (by decide) (by decide) (by decide) (by rw [hml]; rfl) (lenOf pd___Z rfl) (Nat.le_of_eq rfl) (hb hby at_29) ?_
      intro T10 v10 L10 X10 hQ10
      obtain ⟨rfl, N10, E10⟩ := hQ10
      have M10 := Fr.app M1 N10
      show Go p e s below _ _ _ T10 (mkF m 32 #[.val (.int p0), .val (.int i), .val (.ref b), .val (.int (0 : Int32)), .unset] [(.int (0 : Int32))])
      refine Go.st (fun _ kont => XS.istore X10.here hx rfl (hb hby at_32) rfl (l' := #[.val (.int p0), .val (.int i), .val (.ref b), .val (.int (0 : Int32)), .val (.int (0 : Int32))]) rfl kont) ?_
      show Go p e s below _ _ _ T10 (mkF m 34 #[.val (.int p0), .val (.int i), .val (.ref b), .val (.int (0 : Int32)), .val (.int (0 : Int32))] [])
      refine Go.st (fun _ kont => XS.iload X10.here hx rfl (hb hby at_34) rfl kont) ?_
      show Go p e s below _ _ _ T10 (mkF m 36 #[.val (.int p0), .val (.int i), .val (.ref b), .val (.int (0 : Int32)), .val (.int (0 : Int32))] [(.int (0 : Int32))])
      refine Go.st (fun _ kont => XS.iloadN X10.here hx rfl (hb hby at_36) rfl kont) ?_
      show Go p e s below _ _ _ T10 (mkF m 37 #[.val (.int p0), .val (.int i), .val (.ref b), .val (.int (0 : Int32)), .val (.int (0 : Int32))] [(.int (0 : Int32)), (.int (0 : Int32))])
      refine Go.st (fun _ kont => XS.icmpYes X10.here hx rfl (pc0 := 37) (pc' := 42) rfl (hb hby at_37) rfl (teq rfl).1 (by decide) (by decide) kont) ?_
      show Go p e s below _ _ _ T10 (mkF m 42 #[.val (.int p0), .val (.int i), .val (.ref b), .val (.int (0 : Int32)), .val (.int (0 : Int32))] [])
      refine Go.st (fun _ kont => XS.iload X10.here hx rfl (hb hby at_42) rfl kont) ?_
      show Go p e s below _ _ _ T10 (mkF m 44 #[.val (.int p0), .val (.int i), .val (.ref b), .val (.int (0 : Int32)), .val (.int (0 : Int32))] [(.int (0 : Int32))])
      refine Go.st (fun _ kont => XS.ifYes X10.here hx rfl (pc0 := 44) (pc' := 64) rfl (hb hby at_44) rfl ((if0 _ _).trans (teq rfl).1) (by decide) (by decide) kont) ?_
      show Go p e s below _ _ _ T10 (mkF m 64 #[.val (.int p0), .val (.int i), .val (.ref b), .val (.int (0 : Int32)), .val (.int (0 : Int32))] [])
      refine Go.st (fun _ kont => XT.iconstV X10.here hx rfl (1 : Int32) (hb hby at_64) (by decide) kont) ?_
      show Go p e s below _ _ _ T10 (mkF m 65 #[.val (.int p0), .val (.int i), .val (.ref b), .val (.int (0 : Int32)), .val (.int (0 : Int32))] [(.int (1 : Int32))])
      exact Go.retN X10 hx hlk hret (by simp) (hb hby at_65) (by decide) (by decide) ⟨rfl, M10⟩
set_option maxRecDepth 65536 in
set_option maxHeartbeats 40000000 in
theorem comes_1 {Post : Tables → Env → Array Value → State → Outcome → State → Prop} (hpost : ∀ tb e args s v u, (limb_1_1.after args s (.returned v) u = true ∧ limb_1_2.after args s (.returned v) u = true ∧ True) → FrameEnd s (.returned v) u (Jvm.fieldLocs frame_1_writes args s ++ Jvm.arrayLocs frame_1_arrays args s ++ Jvm.staticLocs frame_1_statics s) 0 0 → Post tb e args s (.returned v) u) :
    ArmFor flags0 classFile x code maxLocals ret World_1 tables_1 room_1 Calls_1 rest_1 Pre_1 Post := by
  intro l hfl _ _ p e ha hc hk s m args below hf hA hF happ hP
  obtain ⟨hcalls, hrest, hpre⟩ := hP
  obtain ⟨-, -, -, hnamed, -, -, -, hat⟩ := (Spec.applies_iff hf).mp happ
  obtain ⟨hg, hn⟩ := and_e (Cond.before_iff.mp (show (Jvm.Cond.and given_1 narrow_1).before args s = true from hpre))
  obtain ⟨hg_1, hg_1'⟩ := and_e hg
  obtain ⟨w0, rfl⟩ : ∃ w0 : Value, args = #[w0] := by
    have hs : args.size = 1 := by simpa [Cond.value, given_1] using hg_1
    obtain ⟨L⟩ := args
    match L, hs with
    | [w0], _ => exact ⟨w0, rfl⟩
  have hw := fun d (hd : d ∈ tables_1) => atoms_spec (ws := Jvm.Cond.code x code maxLocals ret :: tables_1) hat d (List.mem_cons_of_mem _ hd)
  have hfit : Fit s := fun {y c} hc i hi => by
    obtain ⟨ha, rfl⟩ := Array.getElem?_eq_some_iff.mp hc
    have q := List.all_eq_true.mp ((Array.all_eq_true_iff_forall_mem.mp hF) _ (Array.getElem_mem ha)) i (List.mem_range.mpr hi)
    simpa [Array.getElem?_eq_getElem hi] using q
  obtain ⟨i0, ei0⟩ := is_v hg_1'
  obtain rfl : w0 = (.int i0) := Option.some.inj ei0
  obtain ⟨hn_1, hn_1'⟩ := and_e hn
  obtain ⟨hn_2, hn_2'⟩ := and_e hn_1'
  obtain ⟨hn_3, hn_3'⟩ := and_e hn_2'
  obtain ⟨hn_4, hn_4'⟩ := and_e hn_3'
  obtain ⟨hn_5, hn_5'⟩ := and_e hn_4'
  obtain ⟨hn_6, hn_6'⟩ := and_e hn_5'
  obtain ⟨hn_7, hn_7'⟩ := and_e hn_6'
  obtain ⟨hn_8, hn_8'⟩ := and_e hn_7'
  obtain ⟨hn_9, hn_9'⟩ := and_e hn_8'
  obtain ⟨hn_10, hn_10'⟩ := and_e hn_9'
  obtain ⟨hn_11, hn_11'⟩ := and_e hn_10'
  obtain ⟨hn_12, hn_12'⟩ := and_e hn_11'
  obtain ⟨hn_13, hn_13'⟩ := and_e hn_12'
  obtain ⟨hn_14, hn_14'⟩ := and_e hn_13'
  obtain ⟨hn_15, hn_15'⟩ := and_e hn_14'
  obtain ⟨hn_16, hn_16'⟩ := and_e hn_15'
  obtain ⟨hn_17, hn_17'⟩ := and_e hn_16'
  obtain ⟨hn_18, hn_18'⟩ := and_e hn_17'
  obtain ⟨hn_19, hn_19'⟩ := and_e hn_18'
  obtain ⟨hn_20, hn_20'⟩ := and_e hn_19'
  obtain ⟨hn_21, hn_21'⟩ := and_e hn_20'
  obtain ⟨hn_22, hn_22'⟩ := and_e hn_21'
  obtain ⟨hn_23, hn_23'⟩ := and_e hn_22'
  obtain ⟨hn_24, hn_24'⟩ := and_e hn_23'
  obtain ⟨hn_25, hn_25'⟩ := and_e hn_24'
  obtain ⟨hn_26, hn_26'⟩ := and_e hn_25'
  obtain ⟨hn_27, hn_27'⟩ := and_e hn_26'
  obtain ⟨hn_28, hn_28'⟩ := and_e hn_27'
  obtain ⟨hn_29, hn_29'⟩ := and_e hn_28'
  obtain ⟨hn_30, hn_30'⟩ := and_e hn_29'
  obtain ⟨hn_31, hn_31'⟩ := and_e hn_30'
  obtain ⟨hn_32, hn_32'⟩ := and_e hn_31'
  obtain ⟨hn_33, hn_33'⟩ := and_e hn_32'
  obtain ⟨hn_34, hn_34'⟩ := and_e hn_33'
  obtain ⟨hn_35, hn_35'⟩ := and_e hn_34'
  obtain ⟨hn_36, hn_36'⟩ := and_e hn_35'
  obtain ⟨hn_37, hn_37'⟩ := and_e hn_36'
  obtain ⟨hn_38, hn_38'⟩ := and_e hn_37'
  obtain ⟨hn_39, hn_39'⟩ := and_e hn_38'
  obtain ⟨hn_40, hn_40'⟩ := and_e hn_39'
  obtain ⟨hn_41, hn_41'⟩ := and_e hn_40'
  obtain ⟨hn_42, hn_42'⟩ := and_e hn_41'
  obtain ⟨hn_43, hn_43'⟩ := and_e hn_42'
  obtain ⟨hn_44, hn_44'⟩ := and_e hn_43'
  obtain ⟨hn_45, hn_45'⟩ := and_e hn_44'
  obtain ⟨hn_46, hn_46'⟩ := and_e hn_45'
  obtain ⟨hn_47, hn_47'⟩ := and_e hn_46'
  obtain ⟨hn_48, hn_48'⟩ := and_e hn_47'
  obtain ⟨hn_49, hn_49'⟩ := and_e hn_48'
  obtain ⟨hn_50, hn_50'⟩ := and_e hn_49'
  obtain ⟨hn_51, hn_51'⟩ := and_e hn_50'
  obtain ⟨hn_52, hn_52'⟩ := and_e hn_51'
  obtain ⟨hn_53, hn_53'⟩ := and_e hn_52'
  obtain ⟨hn_54, hn_54'⟩ := and_e hn_53'
  obtain ⟨hn_55, hn_55'⟩ := and_e hn_54'
  obtain ⟨hn_56, hn_56'⟩ := and_e hn_55'
  obtain ⟨hn_57, hn_57'⟩ := and_e hn_56'
  obtain ⟨hn_58, hn_58'⟩ := and_e hn_57'
  obtain ⟨hn_59, hn_59'⟩ := and_e hn_58'
  obtain ⟨hn_60, hn_60'⟩ := and_e hn_59'
  obtain ⟨hn_61, hn_61'⟩ := and_e hn_60'
  obtain ⟨hn_62, hn_62'⟩ := and_e hn_61'
  obtain ⟨hn_63, hn_63'⟩ := and_e hn_62'
  obtain ⟨hn_64, hn_64'⟩ := and_e hn_63'
  obtain ⟨hn_65, hn_65'⟩ := and_e hn_64'
  obtain ⟨r0, re0, rc0⟩ := own_const hn_1 hn_4 (hw _ (List.mem_of_getElem? (i := 6) rfl)) (hw _ (List.mem_of_getElem? (i := 7) rfl))
  obtain ⟨r1, re1, rc1⟩ := own_const hn_10 hn_11 (hw _ (List.mem_of_getElem? (i := 6) rfl)) (hw _ (List.mem_of_getElem? (i := 33) rfl))
  obtain ⟨r2, re2, rc2⟩ := own_const hn_16 hn_17 (hw _ (List.mem_of_getElem? (i := 6) rfl)) (hw _ (List.mem_of_getElem? (i := 39) rfl))
  obtain ⟨r3, re3, rc3⟩ := own_const hn_8 hn_9 (hw _ (List.mem_of_getElem? (i := 6) rfl)) (hw _ (List.mem_of_getElem? (i := 31) rfl))
  obtain ⟨r4, re4, rc4⟩ := own_const hn_35 hn_36 (hw _ (List.mem_of_getElem? (i := 6) rfl)) (hw _ (List.mem_of_getElem? (i := 59) rfl))
  obtain ⟨r5, re5, rc5⟩ := own_const hn_23 hn_24 (hw _ (List.mem_of_getElem? (i := 6) rfl)) (hw _ (List.mem_of_getElem? (i := 47) rfl))
  obtain ⟨r6, re6, rc6⟩ := own_const hn_27 hn_28 (hw _ (List.mem_of_getElem? (i := 6) rfl)) (hw _ (List.mem_of_getElem? (i := 51) rfl))
  obtain ⟨r7, re7, rc7⟩ := own_const hn_12 hn_13 (hw _ (List.mem_of_getElem? (i := 6) rfl)) (hw _ (List.mem_of_getElem? (i := 35) rfl))
  obtain ⟨r8, re8, rc8⟩ := own_const hn_14 hn_15 (hw _ (List.mem_of_getElem? (i := 6) rfl)) (hw _ (List.mem_of_getElem? (i := 37) rfl))
  obtain ⟨r9, re9, rc9⟩ := own_const hn_21 hn_22 (hw _ (List.mem_of_getElem? (i := 6) rfl)) (hw _ (List.mem_of_getElem? (i := 45) rfl))
  obtain ⟨r10, re10, rc10⟩ := own_const hn_18 hn_19 (hw _ (List.mem_of_getElem? (i := 6) rfl)) (hw _ (List.mem_of_getElem? (i := 42) rfl))
  obtain ⟨r11, re11, rc11⟩ := own_const hn_3 hn_5 (hw _ (List.mem_of_getElem? (i := 6) rfl)) (hw _ (List.mem_of_getElem? (i := 27) rfl))
  obtain ⟨r12, re12, rc12⟩ := own_const hn_6 hn_7 (hw _ (List.mem_of_getElem? (i := 6) rfl)) (hw _ (List.mem_of_getElem? (i := 29) rfl))
  obtain ⟨r13, re13, rc13⟩ := own_const hn_41 hn_42 (hw _ (List.mem_of_getElem? (i := 6) rfl)) (hw _ (List.mem_of_getElem? (i := 66) rfl))
  obtain ⟨r14, re14, rc14⟩ := own_const hn_39 hn_40 (hw _ (List.mem_of_getElem? (i := 6) rfl)) (hw _ (List.mem_of_getElem? (i := 63) rfl))
  obtain ⟨r15, re15, rc15⟩ := own_const hn_33 hn_34 (hw _ (List.mem_of_getElem? (i := 6) rfl)) (hw _ (List.mem_of_getElem? (i := 57) rfl))
  obtain ⟨r16, re16, rc16⟩ := own_const hn_25 hn_26 (hw _ (List.mem_of_getElem? (i := 6) rfl)) (hw _ (List.mem_of_getElem? (i := 49) rfl))
  obtain ⟨r17, re17, rc17⟩ := own_const hn_43 hn_44 (hw _ (List.mem_of_getElem? (i := 6) rfl)) (hw _ (List.mem_of_getElem? (i := 68) rfl))
  obtain ⟨r18, re18, rc18⟩ := own_const hn_31 hn_32 (hw _ (List.mem_of_getElem? (i := 6) rfl)) (hw _ (List.mem_of_getElem? (i := 55) rfl))
  obtain ⟨r19, re19, rc19⟩ := own_const hn_29 hn_30 (hw _ (List.mem_of_getElem? (i := 6) rfl)) (hw _ (List.mem_of_getElem? (i := 53) rfl))
  obtain ⟨r20, re20, rc20⟩ := own_const hn_45 hn_46 (hw _ (List.mem_of_getElem? (i := 6) rfl)) (hw _ (List.mem_of_getElem? (i := 70) rfl))
  obtain ⟨r21, re21, rc21⟩ := own_const hn_37 hn_38 (hw _ (List.mem_of_getElem? (i := 6) rfl)) (hw _ (List.mem_of_getElem? (i := 61) rfl))
  have C0 : Cs s s.heap (fun i => [r0, r1, r2, r3, r4, r5, r6, r7, r8, r9, r10, r11, r12, r13, r14, r15, r16, r17, r18, r19, r20, r21].getD i 0) := by
    intro i nm o h1 h2
    match i, h1, h2 with
    | 0, h1, h2 => obtain rfl := Option.some.inj h1; obtain rfl := Option.some.inj h2; exact rc0
    | 1, h1, h2 => obtain rfl := Option.some.inj h1; obtain rfl := Option.some.inj h2; exact rc1
    | 2, h1, h2 => obtain rfl := Option.some.inj h1; obtain rfl := Option.some.inj h2; exact rc2
    | 3, h1, h2 => obtain rfl := Option.some.inj h1; obtain rfl := Option.some.inj h2; exact rc3
    | 4, h1, h2 => obtain rfl := Option.some.inj h1; obtain rfl := Option.some.inj h2; exact rc4
    | 5, h1, h2 => obtain rfl := Option.some.inj h1; obtain rfl := Option.some.inj h2; exact rc5
    | 6, h1, h2 => obtain rfl := Option.some.inj h1; obtain rfl := Option.some.inj h2; exact rc6
    | 7, h1, h2 => obtain rfl := Option.some.inj h1; obtain rfl := Option.some.inj h2; exact rc7
    | 8, h1, h2 => obtain rfl := Option.some.inj h1; obtain rfl := Option.some.inj h2; exact rc8
    | 9, h1, h2 => obtain rfl := Option.some.inj h1; obtain rfl := Option.some.inj h2; exact rc9
    | 10, h1, h2 => obtain rfl := Option.some.inj h1; obtain rfl := Option.some.inj h2; exact rc10
    | 11, h1, h2 => obtain rfl := Option.some.inj h1; obtain rfl := Option.some.inj h2; exact rc11
    | 12, h1, h2 => obtain rfl := Option.some.inj h1; obtain rfl := Option.some.inj h2; exact rc12
    | 13, h1, h2 => obtain rfl := Option.some.inj h1; obtain rfl := Option.some.inj h2; exact rc13
    | 14, h1, h2 => obtain rfl := Option.some.inj h1; obtain rfl := Option.some.inj h2; exact rc14
    | 15, h1, h2 => obtain rfl := Option.some.inj h1; obtain rfl := Option.some.inj h2; exact rc15
    | 16, h1, h2 => obtain rfl := Option.some.inj h1; obtain rfl := Option.some.inj h2; exact rc16
    | 17, h1, h2 => obtain rfl := Option.some.inj h1; obtain rfl := Option.some.inj h2; exact rc17
    | 18, h1, h2 => obtain rfl := Option.some.inj h1; obtain rfl := Option.some.inj h2; exact rc18
    | 19, h1, h2 => obtain rfl := Option.some.inj h1; obtain rfl := Option.some.inj h2; exact rc19
    | 20, h1, h2 => obtain rfl := Option.some.inj h1; obtain rfl := Option.some.inj h2; exact rc20
    | 21, h1, h2 => obtain rfl := Option.some.inj h1; obtain rfl := Option.some.inj h2; exact rc21
    | k + 22, h1, h2 => simp [nms] at h1
  have P0 : Fld s s.heap r0 "com/example/predicate/predicate/query/Keyword" "parameterCount" "I" (.int 1) := Fld.start (by rw [← fld_at re0]; exact own_eqI hn_2)
  have P1 : Fld s s.heap r1 "com/example/predicate/predicate/query/Keyword" "parameterCount" "I" (.int 1) := Fld.start (by rw [← fld_at re1]; exact own_eqI hn_20)
  obtain ⟨n, o, h1, h2, h3, _, L, rfl, ⟨rfl, N⟩, hq⟩ := rm0 l s _ hw tables_1 i0 s.heap s.heap.size (fun i => [r0, r1, r2, r3, r4, r5, r6, r7, r8, r9, r10, r11, r12, r13, r14, r15, r16, r17, r18, r19, r20, r21].getD i 0) C0 P0 P1 p e ha hc hk s m _ below hf ((Spec.applies_iff_loose hf).mp happ).1 ⟨rfl, State.Warmed39.refl s, rfl⟩ trivial
  refine ⟨n, _, h1, h2, h3, hpost _ _ _ _ _ _ ⟨Cond.after_iff.mpr rfl, Cond.after_iff.mpr (eq_i res_at (Term.int_eval (1)) rfl), trivial⟩ ⟨hq.1, hq.2.1, (hq.2.2.sift fun y hy => Or.inr (N y hy)).mono (by decide) (by decide)⟩⟩
theorem main_1_1 : Claimed_1_1 := comes_1 fun _ _ _ _ _ _ h hF => ⟨h.1, hF⟩
theorem main_1_2 : Claimed_1_2 := comes_1 fun _ _ _ _ _ _ h hF => ⟨h.2.1, hF⟩
end Jvm.Pilot.@@N@@
namespace Jvm.Pilot.@@N@@
open Jvm Jvm.ClassFile Sem Op Lib Jvm.Free Jvm.Stand Jvm.Pilot.@@N@@.Jvm.D
/-! MADE BY PROGRAM (witnessworld.py) out of the Statement's table words and the real class files: 12 classes; the members and pool entries that the words name. The judged class is class 1, her method 2. -/
namespace start1
open Jvm.ClassFile
def u (s : String) : CpInfo := .utf8 (stringToUtf16 s)
/-- a pool by its gaps: so many unusable entries, then the entry; so many at the end -/
def gap : Nat → List CpInfo → List CpInfo
  | 0, r => r
  | n + 1, r => .unusable :: gap n r
def poolList (es : List (Nat × CpInfo)) (last : Nat) : List CpInfo := es.foldr (fun e r => gap e.1 (e.2 :: r)) (gap last [])
def pool (es : List (Nat × CpInfo)) (last : Nat) : Array CpInfo := ⟨poolList es last⟩
def fileOf (pool : Array CpInfo) (this : Nat) (attrs : Array Attribute := #[]) (ms : Array MethodInfo := #[]) (fl : Nat := 33) (sup : Nat := 0) (ifs : Array Nat := #[]) (fds : Array FieldInfo := #[]) : ClassFile where
  minorVersion := 0
  majorVersion := 65
  constantPool := pool
  accessFlags := fl
  thisClass := this
  superClass := sup
  interfaces := ifs
  fields := fds
  methods := ms
  attributes := attrs
def plain (name : String) (sup : Option ClassId) : Class where
  name := name
  kind := .ordinary
  loader := none
  accessFlags := 33
  super := sup
  interfaces := #[]
  cf := none
  fields := #[]
  methods := #[]
  instanceTypes := #[]
  staticTypes := #[]
  resolved := #[]
  callSites := []
  init := .initialized
  statics := none
  mirror := none

def pool0 : Array CpInfo := pool [(5, u "<init>"), (0, u "()V"), (1, .class_ 10), (1, u "java/lang/Object")] 113

def k0m0 : Method := { name := "<init>", desc := "()V", sig := { parameters := [], returnType := none }, accessFlags := 1, code := none }
/-- java/lang/Object -/
def k0 : Class := { plain "java/lang/Object" none with
  accessFlags := 33
  interfaces := #[]
  cf := some (fileOf pool0 8 #[] #[{ accessFlags := 1, nameIndex := 5, descriptorIndex := 6, attributes := #[] }] 33 0 #[] #[])
  fields := #[]
  methods := #[k0m0]
  instanceTypes := #[]
  staticTypes := #[]
  resolved := Array.replicate 124 none
  statics := none }

def pool1 : Array CpInfo := pool [(2, .class_ 4), (1, u "java/lang/Object"), (0, u "<init>"), (0, u "()V"), (0, .fieldref 8 9), (0, .class_ 10), (0, .nameAndType 11 12), (0, u "com/example/predicate/predicate/query/Keyword"), (0, u "EQUALS"), (0, u "Lcom/example/predicate/predicate/query/Keyword;"), (0, .fieldref 8 14), (0, .nameAndType 15 12), (0, u "NOT"), (0, .fieldref 8 17), (0, .nameAndType 18 12), (0, u "LESS_THAN"), (0, .fieldref 8 20), (0, .nameAndType 21 12), (0, u "LESS_THAN_EQUAL"), (0, .fieldref 8 23), (0, .nameAndType 24 12), (0, u "GREATER_THAN"), (0, .fieldref 8 26), (0, .nameAndType 27 12), (0, u "GREATER_THAN_EQUAL"), (0, .fieldref 8 29), (0, .nameAndType 30 12), (0, u "BETWEEN"), (0, .fieldref 8 32), (0, .nameAndType 33 12), (0, u "BEFORE"), (0, .fieldref 8 35), (0, .nameAndType 36 12), (0, u "AFTER"), (0, .fieldref 8 38), (0, .nameAndType 39 12), (0, u "IS_NULL"), (0, .fieldref 8 41), (0, .nameAndType 42 12), (0, u "IS_NOT_NULL"), (0, .fieldref 8 44), (0, .nameAndType 45 12), (0, u "IN"), (0, .fieldref 8 47), (0, .nameAndType 48 12), (0, u "NOT_IN"), (0, .fieldref 8 50), (0, .nameAndType 51 12), (0, u "TRUE"), (0, .fieldref 8 53), (0, .nameAndType 54 12), (0, u "FALSE"), (0, .fieldref 8 56), (0, .nameAndType 57 12), (0, u "IS_EMPTY"), (0, .fieldref 8 59), (0, .nameAndType 60 12), (0, u "IS_NOT_EMPTY"), (0, .fieldref 8 62), (0, .nameAndType 63 12), (0, u "LIKE"), (0, .fieldref 8 65), (0, .nameAndType 66 12), (0, u "NOT_LIKE"), (0, .fieldref 8 68), (0, .nameAndType 69 12), (0, u "STARTING_WITH"), (0, .fieldref 8 71), (0, .nameAndType 72 12), (0, u "ENDING_WITH"), (0, .fieldref 8 74), (0, .nameAndType 75 12), (0, u "CONTAINING"), (0, .integer 2147483647), (0, .methodref 78 79), (0, .class_ 80), (0, .nameAndType 81 82), (0, u "com/example/predicate/predicate/query/KeywordTakesNullPinLaw"), (0, u "pick"), (0, u "(I)Lcom/example/predicate/predicate/query/Keyword;"), (0, .methodref 8 84), (0, .nameAndType 85 86), (0, u "takesNull"), (0, u "()Z"), (0, .methodref 8 88), (0, .nameAndType 89 90), (0, u "getParameterCount"), (0, u "()I"), (0, .methodref 8 92), (0, .nameAndType 93 86), (0, u "takesValues"), (3, u "law"), (0, u "(I)Z")] 2

def k1m0 : Method := { name := "<init>", desc := "()V", sig := { parameters := [], returnType := none }, accessFlags := 1, code := none }
def k1c1 : Code := { maxStack := 2, maxLocals := 1, code := method_2_code, exceptionTable := #[], attributes := #[] }
def k1m1 : Method := { name := "pick", desc := "(I)Lcom/example/predicate/predicate/query/Keyword;", sig := { parameters := [.int], returnType := some (.object "com/example/predicate/predicate/query/Keyword") }, accessFlags := 10, code := some k1c1 }
def k1c2 : Code := { maxStack := 2, maxLocals := 5, code := code, exceptionTable := #[], attributes := #[] }
def k1m2 : Method := { name := "law", desc := "(I)Z", sig := { parameters := [.int], returnType := some .boolean }, accessFlags := 9, code := some k1c2 }
/-- com/example/predicate/predicate/query/KeywordTakesNullPinLaw -/
def k1 : Class := { plain "com/example/predicate/predicate/query/KeywordTakesNullPinLaw" (some 0) with
  accessFlags := 49
  interfaces := #[]
  cf := some (fileOf pool1 78 #[] #[{ accessFlags := 1, nameIndex := 5, descriptorIndex := 6, attributes := #[] }, { accessFlags := 10, nameIndex := 81, descriptorIndex := 82, attributes := #[] }, { accessFlags := 9, nameIndex := 97, descriptorIndex := 98, attributes := #[] }] 49 2 #[] #[])
  fields := #[]
  methods := #[k1m0, k1m1, k1m2]
  instanceTypes := #[]
  staticTypes := #[]
  resolved := Array.replicate 101 none
  statics := none }

def pool2 : Array CpInfo := pool [(1, .class_ 2), (0, u "java/lang/constant/Constable"), (0, .class_ 4), (0, u "java/lang/Object")] 6

/-- java/lang/constant/Constable -/
def k2 : Class := { plain "java/lang/constant/Constable" (some 0) with
  accessFlags := 1537
  interfaces := #[]
  cf := some (fileOf pool2 1 #[] #[] 1537 3 #[] #[])
  fields := #[]
  methods := #[]
  instanceTypes := #[]
  staticTypes := #[]
  resolved := Array.replicate 11 none
  statics := none }

def pool3 : Array CpInfo := pool [(1, .class_ 2), (0, u "java/lang/Comparable"), (0, .class_ 4), (0, u "java/lang/Object")] 7

/-- java/lang/Comparable -/
def k3 : Class := { plain "java/lang/Comparable" (some 0) with
  accessFlags := 1537
  interfaces := #[]
  cf := some (fileOf pool3 1 #[] #[] 1537 3 #[] #[])
  fields := #[]
  methods := #[]
  instanceTypes := #[]
  staticTypes := #[]
  resolved := Array.replicate 12 none
  statics := none }

def pool4 : Array CpInfo := pool [(1, .class_ 2), (0, u "java/io/Serializable"), (0, .class_ 4), (0, u "java/lang/Object")] 2

/-- java/io/Serializable -/
def k4 : Class := { plain "java/io/Serializable" (some 0) with
  accessFlags := 1537
  interfaces := #[]
  cf := some (fileOf pool4 1 #[] #[] 1537 3 #[] #[])
  fields := #[]
  methods := #[]
  instanceTypes := #[]
  staticTypes := #[]
  resolved := Array.replicate 7 none
  statics := none }

def pool5 : Array CpInfo := pool [(2, .class_ 4), (1, u "java/lang/Enum"), (0, u "name"), (0, u "Ljava/lang/String;"), (2, u "ordinal"), (0, u "I"), (1, .class_ 14), (1, u "java/lang/Object"), (4, u "hash"), (86, .class_ 108), (1, u "java/lang/Enum$EnumDesc"), (2, .class_ 112), (0, u "java/lang/constant/Constable"), (0, .class_ 114), (0, u "java/lang/Comparable"), (0, .class_ 116), (0, u "java/io/Serializable")] 87

/-- java/lang/Enum -/
def k5 : Class := { plain "java/lang/Enum" (some 0) with
  accessFlags := 1057
  interfaces := #[2, 3, 4]
  cf := some (fileOf pool5 2 #[.nestMembers #[106]] #[] 1057 12 #[111, 113, 115] #[{ accessFlags := 18, nameIndex := 5, descriptorIndex := 6, attributes := #[] }, { accessFlags := 18, nameIndex := 9, descriptorIndex := 10, attributes := #[] }, { accessFlags := 2, nameIndex := 19, descriptorIndex := 10, attributes := #[] }])
  fields := #[{ name := "name", type := (.object "java/lang/String"), accessFlags := 18, slot := 0, constantValue := 0 }, { name := "ordinal", type := .int, accessFlags := 18, slot := 1, constantValue := 0 }, { name := "hash", type := .int, accessFlags := 2, slot := 2, constantValue := 0 }]
  methods := #[]
  instanceTypes := #[(.object "java/lang/String"), .int, .int]
  staticTypes := #[]
  resolved := Array.replicate 204 none
  statics := none }

def pool6 : Array CpInfo := pool [(1, .class_ 2), (0, u "com/example/predicate/predicate/query/Keyword"), (0, .fieldref 1 4), (0, .nameAndType 5 6), (0, u "EQUALS"), (0, u "Lcom/example/predicate/predicate/query/Keyword;"), (0, .fieldref 1 8), (0, .nameAndType 9 6), (0, u "NOT"), (2, u "LESS_THAN"), (2, u "LESS_THAN_EQUAL"), (2, u "GREATER_THAN"), (2, u "GREATER_THAN_EQUAL"), (2, u "BETWEEN"), (2, u "BEFORE"), (2, u "AFTER"), (2, u "IS_NULL"), (2, u "IS_NOT_NULL"), (0, .fieldref 1 38), (0, .nameAndType 39 6), (0, u "IN"), (0, .fieldref 1 41), (0, .nameAndType 42 6), (0, u "NOT_IN"), (2, u "TRUE"), (2, u "FALSE"), (2, u "IS_EMPTY"), (2, u "IS_NOT_EMPTY"), (2, u "LIKE"), (2, u "NOT_LIKE"), (2, u "STARTING_WITH"), (2, u "ENDING_WITH"), (2, u "CONTAINING"), (2, u "$VALUES"), (0, u "[Lcom/example/predicate/predicate/query/Keyword;"), (6, .class_ 82), (1, u "java/lang/Enum"), (6, .fieldref 1 90), (0, .nameAndType 91 92), (0, u "parameterCount"), (0, u "I"), (8, u "spellings"), (0, u "Ljava/util/List;"), (3, u "()I"), (154, u "ESCAPE"), (0, u "C"), (10, u "getParameterCount"), (3, u "takesNull"), (0, u "()Z"), (1, u "takesValues")] 25

def k6c0 : Code := { maxStack := 1, maxLocals := 1, code := prog_32_method_4_code, exceptionTable := #[], attributes := #[] }
def k6m0 : Method := { name := "getParameterCount", desc := "()I", sig := { parameters := [], returnType := some .int }, accessFlags := 1, code := some k6c0 }
def k6c1 : Code := { maxStack := 2, maxLocals := 1, code := prog_32_method_6_code, exceptionTable := #[], attributes := #[] }
def k6m1 : Method := { name := "takesNull", desc := "()Z", sig := { parameters := [], returnType := some .boolean }, accessFlags := 1, code := some k6c1 }
def k6c2 : Code := { maxStack := 2, maxLocals := 1, code := prog_32_method_7_code, exceptionTable := #[], attributes := #[] }
def k6m2 : Method := { name := "takesValues", desc := "()Z", sig := { parameters := [], returnType := some .boolean }, accessFlags := 1, code := some k6c2 }
/-- com/example/predicate/predicate/query/Keyword -/
def k6 : Class := { plain "com/example/predicate/predicate/query/Keyword" (some 5) with
  accessFlags := 16433
  interfaces := #[]
  cf := some (fileOf pool6 1 #[] #[{ accessFlags := 1, nameIndex := 273, descriptorIndex := 106, attributes := #[] }, { accessFlags := 1, nameIndex := 277, descriptorIndex := 278, attributes := #[] }, { accessFlags := 1, nameIndex := 280, descriptorIndex := 278, attributes := #[] }] 16433 80 #[] #[{ accessFlags := 16409, nameIndex := 5, descriptorIndex := 6, attributes := #[] }, { accessFlags := 16409, nameIndex := 9, descriptorIndex := 6, attributes := #[] }, { accessFlags := 16409, nameIndex := 12, descriptorIndex := 6, attributes := #[] }, { accessFlags := 16409, nameIndex := 15, descriptorIndex := 6, attributes := #[] }, { accessFlags := 16409, nameIndex := 18, descriptorIndex := 6, attributes := #[] }, { accessFlags := 16409, nameIndex := 21, descriptorIndex := 6, attributes := #[] }, { accessFlags := 16409, nameIndex := 24, descriptorIndex := 6, attributes := #[] }, { accessFlags := 16409, nameIndex := 27, descriptorIndex := 6, attributes := #[] }, { accessFlags := 16409, nameIndex := 30, descriptorIndex := 6, attributes := #[] }, { accessFlags := 16409, nameIndex := 33, descriptorIndex := 6, attributes := #[] }, { accessFlags := 16409, nameIndex := 36, descriptorIndex := 6, attributes := #[] }, { accessFlags := 16409, nameIndex := 39, descriptorIndex := 6, attributes := #[] }, { accessFlags := 16409, nameIndex := 42, descriptorIndex := 6, attributes := #[] }, { accessFlags := 16409, nameIndex := 45, descriptorIndex := 6, attributes := #[] }, { accessFlags := 16409, nameIndex := 48, descriptorIndex := 6, attributes := #[] }, { accessFlags := 16409, nameIndex := 51, descriptorIndex := 6, attributes := #[] }, { accessFlags := 16409, nameIndex := 54, descriptorIndex := 6, attributes := #[] }, { accessFlags := 16409, nameIndex := 57, descriptorIndex := 6, attributes := #[] }, { accessFlags := 16409, nameIndex := 60, descriptorIndex := 6, attributes := #[] }, { accessFlags := 16409, nameIndex := 63, descriptorIndex := 6, attributes := #[] }, { accessFlags := 16409, nameIndex := 66, descriptorIndex := 6, attributes := #[] }, { accessFlags := 16409, nameIndex := 69, descriptorIndex := 6, attributes := #[] }, { accessFlags := 25, nameIndex := 261, descriptorIndex := 262, attributes := #[] }, { accessFlags := 18, nameIndex := 91, descriptorIndex := 92, attributes := #[] }, { accessFlags := 18, nameIndex := 101, descriptorIndex := 102, attributes := #[] }, { accessFlags := 4122, nameIndex := 72, descriptorIndex := 73, attributes := #[] }])
  fields := #[{ name := "EQUALS", type := (.object "com/example/predicate/predicate/query/Keyword"), accessFlags := 16409, slot := 0, constantValue := 0 }, { name := "NOT", type := (.object "com/example/predicate/predicate/query/Keyword"), accessFlags := 16409, slot := 1, constantValue := 0 }, { name := "LESS_THAN", type := (.object "com/example/predicate/predicate/query/Keyword"), accessFlags := 16409, slot := 2, constantValue := 0 }, { name := "LESS_THAN_EQUAL", type := (.object "com/example/predicate/predicate/query/Keyword"), accessFlags := 16409, slot := 3, constantValue := 0 }, { name := "GREATER_THAN", type := (.object "com/example/predicate/predicate/query/Keyword"), accessFlags := 16409, slot := 4, constantValue := 0 }, { name := "GREATER_THAN_EQUAL", type := (.object "com/example/predicate/predicate/query/Keyword"), accessFlags := 16409, slot := 5, constantValue := 0 }, { name := "BETWEEN", type := (.object "com/example/predicate/predicate/query/Keyword"), accessFlags := 16409, slot := 6, constantValue := 0 }, { name := "BEFORE", type := (.object "com/example/predicate/predicate/query/Keyword"), accessFlags := 16409, slot := 7, constantValue := 0 }, { name := "AFTER", type := (.object "com/example/predicate/predicate/query/Keyword"), accessFlags := 16409, slot := 8, constantValue := 0 }, { name := "IS_NULL", type := (.object "com/example/predicate/predicate/query/Keyword"), accessFlags := 16409, slot := 9, constantValue := 0 }, { name := "IS_NOT_NULL", type := (.object "com/example/predicate/predicate/query/Keyword"), accessFlags := 16409, slot := 10, constantValue := 0 }, { name := "IN", type := (.object "com/example/predicate/predicate/query/Keyword"), accessFlags := 16409, slot := 11, constantValue := 0 }, { name := "NOT_IN", type := (.object "com/example/predicate/predicate/query/Keyword"), accessFlags := 16409, slot := 12, constantValue := 0 }, { name := "TRUE", type := (.object "com/example/predicate/predicate/query/Keyword"), accessFlags := 16409, slot := 13, constantValue := 0 }, { name := "FALSE", type := (.object "com/example/predicate/predicate/query/Keyword"), accessFlags := 16409, slot := 14, constantValue := 0 }, { name := "IS_EMPTY", type := (.object "com/example/predicate/predicate/query/Keyword"), accessFlags := 16409, slot := 15, constantValue := 0 }, { name := "IS_NOT_EMPTY", type := (.object "com/example/predicate/predicate/query/Keyword"), accessFlags := 16409, slot := 16, constantValue := 0 }, { name := "LIKE", type := (.object "com/example/predicate/predicate/query/Keyword"), accessFlags := 16409, slot := 17, constantValue := 0 }, { name := "NOT_LIKE", type := (.object "com/example/predicate/predicate/query/Keyword"), accessFlags := 16409, slot := 18, constantValue := 0 }, { name := "STARTING_WITH", type := (.object "com/example/predicate/predicate/query/Keyword"), accessFlags := 16409, slot := 19, constantValue := 0 }, { name := "ENDING_WITH", type := (.object "com/example/predicate/predicate/query/Keyword"), accessFlags := 16409, slot := 20, constantValue := 0 }, { name := "CONTAINING", type := (.object "com/example/predicate/predicate/query/Keyword"), accessFlags := 16409, slot := 21, constantValue := 0 }, { name := "ESCAPE", type := .char, accessFlags := 25, slot := 22, constantValue := 0 }, { name := "parameterCount", type := .int, accessFlags := 18, slot := 3, constantValue := 0 }, { name := "spellings", type := (.object "java/util/List"), accessFlags := 18, slot := 4, constantValue := 0 }, { name := "$VALUES", type := (.array (.object "com/example/predicate/predicate/query/Keyword")), accessFlags := 4122, slot := 23, constantValue := 0 }]
  methods := #[k6m0, k6m1, k6m2]
  instanceTypes := #[(.object "java/lang/String"), .int, .int, .int, (.object "java/util/List")]
  staticTypes := #[(.object "com/example/predicate/predicate/query/Keyword"), (.object "com/example/predicate/predicate/query/Keyword"), (.object "com/example/predicate/predicate/query/Keyword"), (.object "com/example/predicate/predicate/query/Keyword"), (.object "com/example/predicate/predicate/query/Keyword"), (.object "com/example/predicate/predicate/query/Keyword"), (.object "com/example/predicate/predicate/query/Keyword"), (.object "com/example/predicate/predicate/query/Keyword"), (.object "com/example/predicate/predicate/query/Keyword"), (.object "com/example/predicate/predicate/query/Keyword"), (.object "com/example/predicate/predicate/query/Keyword"), (.object "com/example/predicate/predicate/query/Keyword"), (.object "com/example/predicate/predicate/query/Keyword"), (.object "com/example/predicate/predicate/query/Keyword"), (.object "com/example/predicate/predicate/query/Keyword"), (.object "com/example/predicate/predicate/query/Keyword"), (.object "com/example/predicate/predicate/query/Keyword"), (.object "com/example/predicate/predicate/query/Keyword"), (.object "com/example/predicate/predicate/query/Keyword"), (.object "com/example/predicate/predicate/query/Keyword"), (.object "com/example/predicate/predicate/query/Keyword"), (.object "com/example/predicate/predicate/query/Keyword"), .char, (.array (.object "com/example/predicate/predicate/query/Keyword"))]
  resolved := Array.replicate 306 none
  statics := some 0 }

def pool7 : Array CpInfo := pool [(1, u "java/lang/Cloneable"), (0, .class_ 1), (0, u "java/lang/Object"), (0, .class_ 3)] 3

/-- java/lang/Cloneable -/
def k7 : Class := { plain "java/lang/Cloneable" (some 0) with
  accessFlags := 1537
  interfaces := #[]
  cf := some (fileOf pool7 2 #[] #[] 1537 4 #[] #[])
  fields := #[]
  methods := #[]
  instanceTypes := #[]
  staticTypes := #[]
  resolved := Array.replicate 8 none
  statics := none }

/-- the primitive byte -/
def k8 : Class := { plain "byte" none with kind := .primitive 'B', accessFlags := 0x411 }
/-- [B -/
def k9 : Class := { plain "[B" (some 0) with kind := .array 8 .byte, interfaces := #[7, 4], accessFlags := 1041 }

/-- the primitive int -/
def k10 : Class := { plain "int" none with kind := .primitive 'I', accessFlags := 0x411 }
/-- [I -/
def k11 : Class := { plain "[I" (some 0) with kind := .array 10 .int, interfaces := #[7, 4], accessFlags := 1041 }

def heap : Heap := #[{ cls := 6, slots := #[.ref 1, .ref 2, .ref 3, .ref 4, .ref 5, .ref 6, .ref 7, .ref 8, .ref 9, .ref 10, .ref 11, .ref 12, .ref 13, .ref 14, .ref 15, .ref 16, .ref 17, .ref 18, .ref 19, .ref 20, .ref 21, .ref 22, .int 0, .null], vm := .statics 6 },
  { cls := 6, slots := #[.null, .int 0, .int 0, .int 1, .null], vm := .none },
  { cls := 6, slots := #[.null, .int 1, .int 0, .int 1, .null], vm := .none },
  { cls := 6, slots := #[.null, .int 2, .int 0, .int 1, .null], vm := .none },
  { cls := 6, slots := #[.null, .int 3, .int 0, .int 1, .null], vm := .none },
  { cls := 6, slots := #[.null, .int 4, .int 0, .int 1, .null], vm := .none },
  { cls := 6, slots := #[.null, .int 5, .int 0, .int 1, .null], vm := .none },
  { cls := 6, slots := #[.null, .int 6, .int 0, .int 2, .null], vm := .none },
  { cls := 6, slots := #[.null, .int 7, .int 0, .int 1, .null], vm := .none },
  { cls := 6, slots := #[.null, .int 8, .int 0, .int 1, .null], vm := .none },
  { cls := 6, slots := #[.null, .int 9, .int 0, .int 0, .null], vm := .none },
  { cls := 6, slots := #[.null, .int 10, .int 0, .int 0, .null], vm := .none },
  { cls := 6, slots := #[.null, .int 11, .int 0, .int 1, .null], vm := .none },
  { cls := 6, slots := #[.null, .int 12, .int 0, .int 1, .null], vm := .none },
  { cls := 6, slots := #[.null, .int 13, .int 0, .int 0, .null], vm := .none },
  { cls := 6, slots := #[.null, .int 14, .int 0, .int 0, .null], vm := .none },
  { cls := 6, slots := #[.null, .int 15, .int 0, .int 0, .null], vm := .none },
  { cls := 6, slots := #[.null, .int 16, .int 0, .int 0, .null], vm := .none },
  { cls := 6, slots := #[.null, .int 17, .int 0, .int 1, .null], vm := .none },
  { cls := 6, slots := #[.null, .int 18, .int 0, .int 1, .null], vm := .none },
  { cls := 6, slots := #[.null, .int 19, .int 0, .int 1, .null], vm := .none },
  { cls := 6, slots := #[.null, .int 20, .int 0, .int 1, .null], vm := .none },
  { cls := 6, slots := #[.null, .int 21, .int 0, .int 1, .null], vm := .none }]
def classes : Array Class := #[k0, k1, k2, k3, k4, k5, k6, k7, k8, k9, k10, k11]
def interned : List (Array UInt16 × Addr) := []
def slotsUsed : Nat := 134
def theMethod : MethodId := ⟨1, 2⟩
def args0 : Array Value := #[.int 5]
def aboutOver (below : List Frame) : State where
  vm := { classes := classes, interned := interned.toArray }
  heap := heap
  slotsUsed := slotsUsed
  threads := #[{ frames := .invoking theMethod args0 :: below }]
def below0 : List Frame := [.native { method := ⟨0, 0⟩, args := #[] }]
def about1 : State := aboutOver below0
def p0 : Program := .bare "" "" ""
def e0 : Env := launch0.env 0 0 0
theorem w_frames : about1.frames = Frame.invoking theMethod args0 :: below0 := rfl
set_option maxRecDepth 65536 in
theorem w_args : argsFit about1.vm theMethod args0 = true := by decide +kernel
set_option maxRecDepth 65536 in
theorem w_heap : heapFits about1 = true := by decide +kernel
set_option maxRecDepth 65536 in
theorem w_runnable : about1.curStatus? = some .runnable := by decide +kernel
set_option maxRecDepth 65536 in
theorem w_alone : about1.alone = true := by decide +kernel
set_option maxRecDepth 65536 in
theorem w_named : about1.methodNamed? x = some theMethod := by decide +kernel
set_option maxRecDepth 65536 in
theorem w_hears : about1.hears theMethod below0 = true := by decide +kernel
set_option maxRecDepth 65536 in
theorem w_ripe : about1.ripe theMethod args0 below0 = true := by decide +kernel
theorem w_running : about1.status = .running := rfl
set_option maxRecDepth 65536 in
theorem w_room : about1.hasRoom e0.platform room_1 = true :=
  launch0.hasRoom_least _ room_1 (by decide +kernel) (by decide +kernel) (by decide +kernel) (by decide +kernel) (by decide +kernel) (by decide +kernel)
theorem allAtoms_all (ts : List Jvm.Cond) (a : Array Jvm.Value) (st : Jvm.State) : (allAtoms ts).before a st = ts.all (fun c => c.before a st) := by
  induction ts with
  | nil => rfl
  | cons c t ih =>
    show (Jvm.Cond.and c (allAtoms t)).before a st = _
    rw [Jvm.Cond.before_and, ih, List.all_cons]
def words1 : List Jvm.Cond := Jvm.Cond.code x code maxLocals ret :: tables_1
/-- a 'code' word, met by the world's own term for the bytes: nothing is compared byte by byte -/
theorem code_word {y : MethodName} {bytes : ByteArray} {mx : Nat} {rt : Option FieldType} {a : Array Value} {s : State} {m : MethodId} {meth : Method} {c : Code} (h1 : s.methodNamed? y = some m) (h2 : s.vm.method? m = some meth) (h3 : meth.code = some c) (h4 : c.code = bytes)
    (h5 : (c.maxLocals == mx && c.exceptionTable.isEmpty && decide (c.maxStack ≤ mostOperands) && decide (meth.sig.returnType = rt) && !meth.locks && decide (parseMethodDescriptor y.desc = some meth.sig)) = true) : (Jvm.Cond.code y bytes mx rt).before a s = true := by
  simp only [Bool.and_eq_true, beq_iff_eq, Bool.not_eq_true', decide_eq_true_eq] at h5
  obtain ⟨⟨⟨⟨⟨g1, g2⟩, g3⟩, g4⟩, g5⟩, g6⟩ := h5
  simp [Cond.before, Cond.holds, Cond.value, h1, h2, h3, h4, g1, g2, g3, g4, g5, g6]
def isCode : Jvm.Cond → Bool
  | .code _ _ _ _ => true
  | _ => false
theorem all_split {L : List Jvm.Cond} {P : Jvm.Cond → Bool} (h1 : L.all (fun c => isCode c || P c) = true) (h2 : ∀ c ∈ L.filter isCode, P c = true) : L.all P = true := by
  refine List.all_eq_true.mpr fun c hc => ?_
  have h := List.all_eq_true.mp h1 c hc
  rcases Bool.eq_false_or_eq_true (isCode c) with hi | hi
  · exact h2 c (List.mem_filter.mpr ⟨hc, hi⟩)
  · simpa [hi] using h
set_option maxRecDepth 65536 in
theorem w_c0 : (Jvm.Cond.code x code maxLocals ret).before args0 about1 = true := code_word (m := ⟨1, 2⟩) (meth := k1m2) (c := k1c2) (by decide +kernel) rfl rfl rfl (by decide +kernel)
set_option maxRecDepth 65536 in
theorem w_c1 : (Jvm.Cond.code ({ cls := "com/example/predicate/predicate/query/KeywordTakesNullPinLaw", name := "pick", desc := "(I)Lcom/example/predicate/predicate/query/Keyword;" } : Jvm.MethodName) method_2_code (1 : Nat) (Option.some (Jvm.ClassFile.FieldType.object "com/example/predicate/predicate/query/Keyword"))).before args0 about1 = true := code_word (m := ⟨1, 1⟩) (meth := k1m1) (c := k1c1) (by decide +kernel) rfl rfl rfl (by decide +kernel)
set_option maxRecDepth 65536 in
theorem w_c2 : (Jvm.Cond.code ({ cls := "com/example/predicate/predicate/query/Keyword", name := "takesNull", desc := "()Z" } : Jvm.MethodName) prog_32_method_6_code (1 : Nat) (Option.some Jvm.ClassFile.FieldType.boolean)).before args0 about1 = true := code_word (m := ⟨6, 1⟩) (meth := k6m1) (c := k6c1) (by decide +kernel) rfl rfl rfl (by decide +kernel)
set_option maxRecDepth 65536 in
theorem w_c3 : (Jvm.Cond.code ({ cls := "com/example/predicate/predicate/query/Keyword", name := "getParameterCount", desc := "()I" } : Jvm.MethodName) prog_32_method_4_code (1 : Nat) (Option.some Jvm.ClassFile.FieldType.int)).before args0 about1 = true := code_word (m := ⟨6, 0⟩) (meth := k6m0) (c := k6c0) (by decide +kernel) rfl rfl rfl (by decide +kernel)
set_option maxRecDepth 65536 in
theorem w_c4 : (Jvm.Cond.code ({ cls := "com/example/predicate/predicate/query/Keyword", name := "takesValues", desc := "()Z" } : Jvm.MethodName) prog_32_method_7_code (1 : Nat) (Option.some Jvm.ClassFile.FieldType.boolean)).before args0 about1 = true := code_word (m := ⟨6, 2⟩) (meth := k6m2) (c := k6c2) (by decide +kernel) rfl rfl rfl (by decide +kernel)
def codes1 : List Jvm.Cond := [Jvm.Cond.code x code maxLocals ret, Jvm.Cond.code ({ cls := "com/example/predicate/predicate/query/KeywordTakesNullPinLaw", name := "pick", desc := "(I)Lcom/example/predicate/predicate/query/Keyword;" } : Jvm.MethodName) method_2_code (1 : Nat) (Option.some (Jvm.ClassFile.FieldType.object "com/example/predicate/predicate/query/Keyword")), Jvm.Cond.code ({ cls := "com/example/predicate/predicate/query/Keyword", name := "takesNull", desc := "()Z" } : Jvm.MethodName) prog_32_method_6_code (1 : Nat) (Option.some Jvm.ClassFile.FieldType.boolean), Jvm.Cond.code ({ cls := "com/example/predicate/predicate/query/Keyword", name := "getParameterCount", desc := "()I" } : Jvm.MethodName) prog_32_method_4_code (1 : Nat) (Option.some Jvm.ClassFile.FieldType.int), Jvm.Cond.code ({ cls := "com/example/predicate/predicate/query/Keyword", name := "takesValues", desc := "()Z" } : Jvm.MethodName) prog_32_method_7_code (1 : Nat) (Option.some Jvm.ClassFile.FieldType.boolean)]
set_option maxRecDepth 65536 in
theorem codes_eq : words1.filter isCode = codes1 := rfl
theorem w_codes : ∀ c ∈ words1.filter isCode, c.before args0 about1 = true := by
  rw [codes_eq]
  intro c hc
  simp only [codes1, List.mem_cons, List.not_mem_nil, or_false] at hc
  rcases hc with rfl | rfl | rfl | rfl | rfl
  · exact w_c0
  · exact w_c1
  · exact w_c2
  · exact w_c3
  · exact w_c4
set_option maxRecDepth 65536 in
theorem w_t1 : (words1.take 24).all (fun c => isCode c || c.before args0 about1) = true := by decide +kernel
set_option maxRecDepth 65536 in
theorem w_t2 : ((words1.drop 24).take 24).all (fun c => isCode c || c.before args0 about1) = true := by decide +kernel
set_option maxRecDepth 65536 in
theorem w_t3 : ((words1.drop 24).drop 24).all (fun c => isCode c || c.before args0 about1) = true := by decide +kernel
theorem w_tables : (allAtoms (Jvm.Cond.code x code maxLocals ret :: tables_1)).before args0 about1 = true := by
  rw [allAtoms_all]
  show words1.all (fun c => c.before args0 about1) = true
  refine all_split ?_ w_codes
  rw [← List.take_append_drop 24 words1, List.all_append, w_t1, ← List.take_append_drop 24 (words1.drop 24), List.all_append, w_t2, w_t3]
  rfl
set_option maxRecDepth 65536 in
theorem w_case : (Jvm.Cond.and given_1 narrow_1).before args0 about1 = true := by decide +kernel
theorem w_applies : (headSpec (Jvm.Cond.code x code maxLocals ret :: tables_1) room_1).applies x e0.platform about1 = true :=
  (Spec.applies_iff w_frames).mpr ⟨w_running, w_runnable, w_alone, w_named, w_hears, w_ripe, w_room, w_tables⟩
theorem atStart : AtStart classFile x code maxLocals ret World_1 tables_1 room_1 Calls_1 rest_1 Pre_1 launch0 p0 e0 about1 theMethod args0 below0 :=
  ⟨lists_1, trivial, launch0.admits_env _ _ _, launch0.least_env, fairChoices_fair.cas, fairChoices_fair.clock, w_frames, w_args, w_heap, w_applies, trivial, trivial, w_case⟩
end start1
theorem witness_1 : WitnessClaimed_1 := ⟨start1.p0, start1.e0, start1.about1, start1.theMethod, start1.args0, start1.below0, start1.atStart⟩
end Jvm.Pilot.@@N@@
