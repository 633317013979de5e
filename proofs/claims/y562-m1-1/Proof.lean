import JvmDerived
import JvmDerived.Pilot.@@N@@Statement
import JvmDerived.Pilot.@@N@@Code
set_option linter.unusedVariables false
set_option linter.unusedSimpArgs false
namespace Jvm.Pilot.@@N@@
open Jvm Jvm.ClassFile Sem Op Lib Jvm.Free Jvm.Stand Jvm.LawKit Jvm.RoadKit Bundle Jvm.Pilot.@@N@@.Jvm.D

section OwnKit
variable {p : Program} {l : Launch} {e : Env} {R : Room} {s : State} {m : MethodId} {args : Array Value} {below : List Frame} {meth : Method} {c : Code} {T T' : State} {locs : List Loc} {cells slots : Nat} {g g' : JFrame} {Q : Option Value → Heap → List Loc → Prop} {k n : Nat} {Z : State} {h : Heap} {a0 : Array Value}
/-- from here the run comes to the method's end, and there Q holds -/
def Go (p : Program) (e : Env) (s : State) (below : List Frame) (Q : Option Value → Heap → List Loc → Prop) (k n : Nat) (T : State) (g : JFrame) : Prop :=
  ∃ s₂ o, Steps p.tables e below (T.setTop g) s₂ ∧ s₂.status = .running ∧ Ended s₂ below o ∧ ∃ v L, o = .returned v ∧ Q v s₂.heap L ∧ FrameEnd s o s₂ L k n
theorem Go.st (st : ∀ t, Steps p.tables e below (T'.setTop g') t → Steps p.tables e below (T.setTop g) t) (G : Go p e s below Q k n T' g') : Go p e s below Q k n T g := by
  obtain ⟨t, o, h1, r⟩ := G
  exact ⟨t, o, st _ h1, r⟩
theorem Go.thru (st : Steps p.tables e below (T.setTop g) (T'.setTop g')) (G : Go p e s below Q k n T' g') : Go p e s below Q k n T g := Go.st (fun _ q => st.trans q) G
theorem Go.cast (q : g = g') (G : Go p e s below Q k n T g') : Go p e s below Q k n T g := q ▸ G
theorem Go.end_ (X : Stand p l e R s m args below meth c T locs cells slots) {v : Option Value} (hv : meth.sig.returnType = none → v = none) (hlk : meth.locks = false)
    (st : ∀ fs, (∀ (f : JFrame) (acts : List Action), f.method = m → f.locked = none → f.entered = [] → (doReturn e (T.setTop f) acts v).1 = T.setFrames fs) → Steps p.tables e below (T.setTop g) (T.setFrames fs))
    (hk : cells ≤ k) (hn : slots ≤ n) (hQ : Q v T.heap locs) : Go p e s below Q k n T g := by
  obtain ⟨fs, hr, hrun, hended, hW, hsame⟩ := X.leave (v := v) hv hlk
  exact ⟨_, _, st fs hr, hrun, hended, _, _, rfl, hQ, ⟨_, rfl⟩, hW, hsame.mono hk hn⟩
theorem own_some {t : FieldType} {v : Option Value} (h : meth.sig.returnType = some t) : meth.sig.returnType = none → v = none := fun q => by rw [h] at q; cases q
/-- ireturn of a boolean (also byte, char, short) -/
theorem Go.retN (X : Stand p l e R s m args below meth c T locs cells slots) (hx : p.tables.exec = Jvm.exec) (hlk : meth.locks = false) {t : FieldType} (hret : meth.sig.returnType = some t) (ht : t = .boolean ∨ t = .byte ∨ t = .char ∨ t = .short) {pc : Nat} {Ls : Array Slot} {z : Int32} {rest : List Value}
    (hd : decode c.code pc = .ok (.ireturn, 1)) (hk : cells ≤ k) (hn : slots ≤ n) (hQ : Q (some (.int (nar t z))) T.heap locs) : Go p e s below Q k n T (mkF m pc Ls (.int z :: rest)) :=
  Go.end_ X (own_some hret) hlk (fun _ hr => Jvm.RoadKit.retN X hx hret ht hd hr) hk hn hQ
theorem Go.retI (X : Stand p l e R s m args below meth c T locs cells slots) (hx : p.tables.exec = Jvm.exec) (hlk : meth.locks = false) (hret : meth.sig.returnType = some .int) {pc : Nat} {Ls : Array Slot} {z : Int32} {rest : List Value}
    (hd : decode c.code pc = .ok (.ireturn, 1)) (hk : cells ≤ k) (hn : slots ≤ n) (hQ : Q (some (.int z)) T.heap locs) : Go p e s below Q k n T (mkF m pc Ls (.int z :: rest)) :=
  Go.end_ X (own_some hret) hlk (fun _ hr => Jvm.RoadKit.retOut X hx hret rfl (Or.inl ⟨rfl, Or.inl rfl, _, rfl⟩) hd hr) hk hn hQ
theorem Go.retJ (X : Stand p l e R s m args below meth c T locs cells slots) (hx : p.tables.exec = Jvm.exec) (hlk : meth.locks = false) (hret : meth.sig.returnType = some .long) {pc : Nat} {Ls : Array Slot} {z : Int64} {rest : List Value}
    (hd : decode c.code pc = .ok (.lreturn, 1)) (hk : cells ≤ k) (hn : slots ≤ n) (hQ : Q (some (.long z)) T.heap locs) : Go p e s below Q k n T (mkF m pc Ls (.long z :: rest)) :=
  Go.end_ X (own_some hret) hlk (fun _ hr => Jvm.RoadKit.retOut X hx hret rfl (Or.inr (Or.inl ⟨rfl, rfl, _, rfl⟩)) hd hr) hk hn hQ
theorem own_narR {t : FieldType} {v : Value} (ht : t.isReference = true) (hv : v.isRef = true) : narrow t v = v := by
  rcases ref_cases hv with rfl | ⟨a, rfl⟩ <;> cases t <;> rfl
theorem Go.retA (X : Stand p l e R s m args below meth c T locs cells slots) (hx : p.tables.exec = Jvm.exec) (hlk : meth.locks = false) {t : FieldType} (hret : meth.sig.returnType = some t) (ht : t.isReference = true) {pc : Nat} {Ls : Array Slot} {v : Value} {rest : List Value} (hv : v.isRef = true)
    (hd : decode c.code pc = .ok (.areturn, 1)) (hk : cells ≤ k) (hn : slots ≤ n) (hQ : Q (some v) T.heap locs) : Go p e s below Q k n T (mkF m pc Ls (v :: rest)) :=
  Go.end_ X (own_some hret) hlk (fun _ hr => Jvm.RoadKit.retOut X hx hret (own_narR ht hv) (Or.inr (Or.inr (Or.inr (Or.inr ⟨rfl, ht, hv⟩)))) hd hr) hk hn hQ
theorem Go.retV (X : Stand p l e R s m args below meth c T locs cells slots) (hx : p.tables.exec = Jvm.exec) (hlk : meth.locks = false) (hret : meth.sig.returnType = none) {pc : Nat} {Ls : Array Slot}
    (hd : decode c.code pc = .ok (.return_, 1)) (hk : cells ≤ k) (hn : slots ≤ n) (hQ : Q none T.heap locs) : Go p e s below Q k n T (mkF m pc Ls []) :=
  Go.end_ X (fun _ => rfl) hlk (fun _ hr => X.returnOut hx hret hd hr) hk hn hQ
/-- a body's contract -/
def Meets (l : Launch) (Z : State) (y : MethodName) (bytes : ByteArray) (maxL : Nat) (ret : Option FieldType) (rm : Room) (ws : List Jvm.Cond) (as' : Array Value) (h : Heap) (Q : Option Value → Heap → List Loc → Prop) : Prop :=
  MetFree l y (head1 (Jvm.Cond.code y bytes maxL ret :: ws) rm) (fun a U => a = as' ∧ Z.Warmed39 U.vm ∧ U.heap = h) (fun _ _ _ _ _ => True) (fun _ U o U' => ∃ v L, o = .returned v ∧ Q v U'.heap L ∧ FrameEnd U o U' L rm.cells rm.slots)
theorem Meets.of {y : MethodName} {bytes : ByteArray} {maxL : Nat} {ret : Option FieldType} {rm : Room} {ws : List Jvm.Cond} {as' : Array Value} (hpl : plainFor y = true)
    (body : ∀ (p : Program) (e : Env) (s : State) (m : MethodId) (below : List Frame) (meth : Method) (c : Code) (s₁ : State), Stand p l e rm s m as' below meth c s₁ [] 0 0 → p.tables.exec = Jvm.exec → c.code = bytes → c.maxLocals = maxL → meth.sig.returnType = ret → meth.locks = false → meth.name = y.name → Z.Warmed39 s.vm → s.vm.findClass y.cls = some m.cls → s₁.heap = h →
      Go p e s below Q rm.cells rm.slots s₁ (entryFrame m as' maxL)) : Meets l Z y bytes maxL ret rm ws as' h Q := by
  unfold Meets
  refine MetFree.of_bodySF hpl hisR ?_
  intro p e s m args below meth c s₁ Bd hml0 hP hK
  obtain ⟨rfl, hZ, hh⟩ := hP
  exact body p e s m below meth c s₁ (Stand.of_body Bd) Bd.exec Bd.bytes hml0 Bd.returns Bd.notSynchronized (name_of_methodNamed Bd.named Bd.method).1 hZ (findClass_of_methodNamed Bd.named) (by rw [← hh, Bd.state]; rfl)
section Calls
variable {y z : MethodName} {own C : String} {index : Nat} {bytes : ByteArray} {maxL : Nat} {ret : Option FieldType} {rm : Room} {W : Nat} {Q0 : Option Value → Heap → List Loc → Prop} {b : Addr} {argsL rest : List Value} {pc : Nat} {Ls : Array Slot}
theorem Go.callS (X : Stand p l e R s m args below meth c T locs cells slots) (hx : p.tables.exec = Jvm.exec) (hZ : Z.Warmed39 s.vm) (hown : s.vm.findClass own = some m.cls)
    (w1 : (Jvm.Cond.methodLink own index y).before a0 Z = true) (w2 : (Jvm.Cond.static y).before a0 Z = true) (w3 : (Jvm.Cond.initialized y.cls).before a0 Z = true) (w4 : (Jvm.Cond.code y bytes maxL ret).before a0 Z = true)
    (hM : Meets l Z y bytes maxL ret rm [] argsL.toArray h Q0) (eT : T.heap = h) (hy : y.cls ≠ "java/lang/invoke/MethodHandle" ∧ y.cls ≠ "java/lang/invoke/VarHandle")
    (hf : rm.frames + 1 ≤ R.frames) (hl : W + (maxL + 11) + rm.locals ≤ R.locals) (hcl : cells + rm.cells ≤ R.cells) (hsl : slots + rm.slots ≤ R.slots)
    (hsize : Ls.size = c.maxLocals) (hlen : ∀ sig, parseMethodDescriptor y.desc = some sig → argsL.length = sig.parameters.length) (hW : 2 * 0 + (rest.map fun v => v.category).sum ≤ W)
    (hd : decode c.code pc = .ok (.invokestatic index, 3))
    (next : ∀ (T' : State) (v : Option Value) (L : List Loc), Stand p l e R s m args below meth c T' (locs ++ L) (cells + rm.cells) (slots + rm.slots) → Q0 v T'.heap L → Go p e s below Q k n T' (mkF m (pc + 3) Ls (v.toList ++ rest))) :
    Go p e s below Q k n T (mkF m pc Ls (argsL.reverse ++ rest)) := by
  obtain ⟨v, _, ⟨T', L', k', n'⟩, -, X', ⟨Lc, hQ, l', y', z'⟩, st⟩ := Jvm.LawKit.callS X hx (y := y) hown (mvT hZ w1) (mvT hZ w2) (mvT hZ w3) (mvT hZ w4) hy (backOf (W := W) hM hZ w4 w3 hf hl) (g := mkF m pc Ls (argsL.reverse ++ rest)) rfl hsize (argsL := argsL) (rest := rest) hlen rfl hW hd (fun _ _ => ⟨rfl, eT, hcl, hsl⟩)
  dsimp only [Pt.U, Pt.locs, Pt.cells, Pt.slots] at X' l' y' z' st hQ
  subst l' y' z'
  exact Go.st st (next T' v Lc X' hQ)
theorem Go.callV (X : Stand p l e R s m args below meth c T locs cells slots) (hx : p.tables.exec = Jvm.exec) (hZ : Z.Warmed39 s.vm) (hown : s.vm.findClass own = some m.cls)
    (w1 : (Jvm.Cond.methodLink own index y).before a0 Z = true) (w2 : (Jvm.Cond.declares y).before a0 Z = true) (hnf : NotFace s y) (w3 : (Jvm.Cond.selects C y z).before a0 Z = true) (w4 : (Jvm.Cond.instanceMethod z).before a0 Z = true) (w5 : (Jvm.Cond.initialized z.cls).before a0 Z = true) (w6 : (Jvm.Cond.code z bytes maxL ret).before a0 Z = true)
    (hM : Meets l Z z bytes maxL ret rm [] (.ref b :: argsL).toArray h Q0) (eT : T.heap = h) (E : Exa Z h b C) (hy : y.cls ≠ "java/lang/invoke/MethodHandle" ∧ y.cls ≠ "java/lang/invoke/VarHandle")
    (hf : rm.frames + 1 ≤ R.frames) (hl : W + (maxL + 11) + rm.locals ≤ R.locals) (hcl : cells + rm.cells ≤ R.cells) (hsl : slots + rm.slots ≤ R.slots)
    (hsize : Ls.size = c.maxLocals) (hlen : ∀ sig, parseMethodDescriptor y.desc = some sig → argsL.length = sig.parameters.length) (hW : 2 * 0 + (rest.map fun v => v.category).sum ≤ W)
    (hd : decode c.code pc = .ok (.invokevirtual index, 3))
    (next : ∀ (T' : State) (v : Option Value) (L : List Loc), Stand p l e R s m args below meth c T' (locs ++ L) (cells + rm.cells) (slots + rm.slots) → Q0 v T'.heap L → Go p e s below Q k n T' (mkF m (pc + 3) Ls (v.toList ++ rest))) :
    Go p e s below Q k n T (mkF m pc Ls (argsL.reverse ++ .ref b :: rest)) := by
  obtain ⟨cq, kq, qa, qb, qc⟩ := isOf hZ eT E
  obtain ⟨v, _, ⟨T', L', k', n'⟩, -, X', ⟨Lc, hQ, l', y', z'⟩, st⟩ := X.virtualBack hx (y := y) (z := z) hown (mvT hZ w1) (mvT hZ w2) hnf (mvT hZ w3) (mvT hZ w4) hy (backOf (W := W) hM hZ w6 w5 hf hl) qa qc (g := mkF m pc Ls (argsL.reverse ++ .ref b :: rest)) rfl hsize (Steps.refl _) (argsL := argsL) (rest := rest) hlen rfl hW hd (fun _ _ => ⟨rfl, eT, hcl, hsl⟩)
  dsimp only [Pt.U, Pt.locs, Pt.cells, Pt.slots] at X' l' y' z' st hQ
  subst l' y' z'
  exact Go.thru st (next T' v Lc X' hQ)
/-- an inherited method, named through the subclass -/
theorem Go.callU {owner : String} {x' : MethodName} (X : Stand p l e R s m args below meth c T locs cells slots) (hx : p.tables.exec = Jvm.exec) (hZ : Z.Warmed39 s.vm) (hown : s.vm.findClass own = some m.cls)
    (w1 : (Jvm.Cond.methodLink own index x').before a0 Z = true) (w2 : (Jvm.Cond.sameMethod x'.cls owner x'.name x'.desc).before a0 Z = true) (w3 : (Jvm.Cond.declares ⟨owner, x'.name, x'.desc⟩).before a0 Z = true) (w4 : (Jvm.Cond.selects C x' z).before a0 Z = true) (w5 : (Jvm.Cond.instanceMethod z).before a0 Z = true) (w6 : (Jvm.Cond.initialized z.cls).before a0 Z = true) (w7 : (Jvm.Cond.code z bytes maxL ret).before a0 Z = true)
    (hM : Meets l Z z bytes maxL ret rm [] (.ref b :: argsL).toArray h Q0) (eT : T.heap = h) (E : Exa Z h b C) (hy : owner ≠ "java/lang/invoke/MethodHandle" ∧ owner ≠ "java/lang/invoke/VarHandle")
    (hf : rm.frames + 1 ≤ R.frames) (hl : W + (maxL + 11) + rm.locals ≤ R.locals) (hcl : cells + rm.cells ≤ R.cells) (hsl : slots + rm.slots ≤ R.slots)
    (hsize : Ls.size = c.maxLocals) (hlen : ∀ sig, parseMethodDescriptor x'.desc = some sig → argsL.length = sig.parameters.length) (hW : 2 * 0 + (rest.map fun v => v.category).sum ≤ W)
    (hd : decode c.code pc = .ok (.invokevirtual index, 3))
    (next : ∀ (T' : State) (v : Option Value) (L : List Loc), Stand p l e R s m args below meth c T' (locs ++ L) (cells + rm.cells) (slots + rm.slots) → Q0 v T'.heap L → Go p e s below Q k n T' (mkF m (pc + 3) Ls (v.toList ++ rest))) :
    Go p e s below Q k n T (mkF m pc Ls (argsL.reverse ++ .ref b :: rest)) := by
  obtain ⟨cq, kq, qa, qb, qc⟩ := isOf hZ eT E
  obtain ⟨v, _, ⟨T', L', k', n'⟩, -, X', ⟨Lc, hQ, l', y', z'⟩, st⟩ := X.virtualBackUp hx (x := x') (y := z) hown (mvT hZ w1) (mvT hZ w2) (mvT hZ w3) hy (mvT hZ w4) (mvT hZ w5) (backOf (W := W) hM hZ w7 w6 hf hl) qa qc (g := mkF m pc Ls (argsL.reverse ++ .ref b :: rest)) rfl hsize (Steps.refl _) (argsL := argsL) (rest := rest) hlen rfl hW hd (fun _ _ => ⟨rfl, eT, hcl, hsl⟩)
  dsimp only [Pt.U, Pt.locs, Pt.cells, Pt.slots] at X' l' y' z' st hQ
  subst l' y' z'
  exact Go.thru st (next T' v Lc X' hQ)
/-- a constructor -/
theorem Go.callC (X : Stand p l e R s m args below meth c T locs cells slots) (hx : p.tables.exec = Jvm.exec) (hZ : Z.Warmed39 s.vm) (hy1 : y.name = "<init>") (hown : s.vm.findClass own = some m.cls)
    (w1 : (Jvm.Cond.methodLink own index y).before a0 Z = true) (w2 : (Jvm.Cond.instanceMethod y).before a0 Z = true) (w3 : (Jvm.Cond.initialized y.cls).before a0 Z = true) (w4 : (Jvm.Cond.code y bytes maxL none).before a0 Z = true)
    (hM : Meets l Z y bytes maxL none rm [] (.ref b :: argsL).toArray h Q0) (eT : T.heap = h) (hy : y.cls ≠ "java/lang/invoke/MethodHandle" ∧ y.cls ≠ "java/lang/invoke/VarHandle")
    (hf : rm.frames + 1 ≤ R.frames) (hl : W + (maxL + 11) + rm.locals ≤ R.locals) (hcl : cells + rm.cells ≤ R.cells) (hsl : slots + rm.slots ≤ R.slots)
    (hsize : Ls.size = c.maxLocals) (hlen : ∀ sig, parseMethodDescriptor y.desc = some sig → argsL.length = sig.parameters.length) (hW : 2 * 0 + (rest.map fun v => v.category).sum ≤ W)
    (hd : decode c.code pc = .ok (.invokespecial index, 3))
    (next : ∀ (T' : State) (v : Option Value) (L : List Loc), Stand p l e R s m args below meth c T' (locs ++ L) (cells + rm.cells) (slots + rm.slots) → Q0 v T'.heap L → Go p e s below Q k n T' (mkF m (pc + 3) Ls (v.toList ++ rest))) :
    Go p e s below Q k n T (mkF m pc Ls (argsL.reverse ++ .ref b :: rest)) := by
  obtain ⟨v, _, ⟨T', L', k', n'⟩, -, X', ⟨Lc, hQ, l', y', z'⟩, st⟩ := X.specialBack hx (y := y) hy1 hown (mvT hZ w1) (mvT hZ w2) (mvT hZ w4) hy (backOf (W := W) hM hZ w4 w3 hf hl) (g := mkF m pc Ls (argsL.reverse ++ .ref b :: rest)) rfl hsize (Steps.refl _) (a := b) (argsL := argsL) (rest := rest) hlen rfl hW hd (fun _ _ => ⟨rfl, eT, hcl, hsl⟩)
  dsimp only [Pt.U, Pt.locs, Pt.cells, Pt.slots] at X' l' y' z' st hQ
  subst l' y' z'
  exact Go.thru st (next T' v Lc X' hQ)
end Calls
end OwnKit

theorem own_eqI {args : Array Value} {Z : State} {t : Term} {i : Int32} (h : (Jvm.Cond.eq t (.int i)).value args Z none Z [] = some true) : t.eval args Z none [] Z = some (.int i) := by
  simp only [Cond.value, Term.eval] at h
  cases ht : t.eval args Z none [] Z with
  | none => simp [ht] at h
  | some x => cases x <;> simp_all
theorem own_const {C nm d : String} {i : Int32} {args : Array Value} {Z : State} (w1 : (Jvm.Cond.exactly (.static C nm d) C).value args Z none Z [] = some true)
    (w2 : (Jvm.Cond.eq (.field (.static C nm d) "java/lang/Enum" "ordinal" "I") (.int i)).value args Z none Z [] = some true) (hi : (Jvm.Cond.initialized C).before args Z = true) (hl : (Jvm.Cond.laysStatic C nm d).before args Z = true) :
    ∃ r, (Term.static C nm d).eval args Z none [] Z = some (.ref r) ∧ Sta Z Z.heap C nm d (.ref r) ∧ Exa Z Z.heap r C ∧ Fld Z Z.heap r "java/lang/Enum" "ordinal" "I" (.int i) := by
  obtain ⟨r, er⟩ := exa_v w1
  exact ⟨r, er, Sta.start er (Or.inr ⟨hi, hl⟩), Exa.start er w1, Fld.start (by rw [← fld_at er]; exact own_eqI w2)⟩

def nms : List String := ["INSERT_DATA", "DELETE_DATA", "INSERT_TEMPLATE", "DELETE_TEMPLATE", "DELETE_WHERE", "WHERE"]
def ords : List Int32 := [0, 1, 2, 3, 4, 5]
/-- the enum's constants, in a heap: each static holds its own object, of exactly that class, with its ordinal -/
def Cs (Z : State) (h : Heap) (r : Nat → Addr) : Prop := ∀ (i : Nat) (nm : String) (o : Int32), nms[i]? = some nm → ords[i]? = some o → Sta Z h "com/example/quadloom/quadloom/sparql/SparqlParser$Block" nm "Lcom/example/quadloom/quadloom/sparql/SparqlParser$Block;" (.ref (r i)) ∧ Exa Z h (r i) "com/example/quadloom/quadloom/sparql/SparqlParser$Block" ∧ Fld Z h (r i) "java/lang/Enum" "ordinal" "I" (.int o)
theorem Cs.ne {Z : State} {h : Heap} {r : Nat → Addr} (C : Cs Z h r) {i j : Nat} {n1 n2 : String} {o1 o2 : Int32} (a1 : nms[i]? = some n1) (a2 : ords[i]? = some o1) (b1 : nms[j]? = some n2) (b2 : ords[j]? = some o2) (hne : o1 ≠ o2) : ¬ (r i = r j) := (C i n1 o1 a1 a2).2.2.ne (C j n2 o2 b1 b2).2.2 (fun q => hne (Value.int.inj q))

theorem d1_0 : decode prog_141_method_6_code 0 = .ok (.aload_n 0, 1) := by decide +kernel
theorem d1_1 : decode prog_141_method_6_code 1 = .ok (.getstatic 7, 3) := by decide +kernel
theorem d1_4 : decode prog_141_method_6_code 4 = .ok (.if_acmp .eq 17, 3) := by decide +kernel
theorem d1_7 : decode prog_141_method_6_code 7 = .ok (.aload_n 0, 1) := by decide +kernel
theorem d1_8 : decode prog_141_method_6_code 8 = .ok (.getstatic 13, 3) := by decide +kernel
theorem d1_11 : decode prog_141_method_6_code 11 = .ok (.if_acmp .eq 10, 3) := by decide +kernel
theorem d1_14 : decode prog_141_method_6_code 14 = .ok (.aload_n 0, 1) := by decide +kernel
theorem d1_15 : decode prog_141_method_6_code 15 = .ok (.getstatic 16, 3) := by decide +kernel
theorem d1_18 : decode prog_141_method_6_code 18 = .ok (.if_acmp .ne 7, 3) := by decide +kernel
theorem d1_21 : decode prog_141_method_6_code 21 = .ok (.iconst 1, 1) := by decide +kernel
theorem d1_22 : decode prog_141_method_6_code 22 = .ok (.goto 4, 3) := by decide +kernel
theorem d1_25 : decode prog_141_method_6_code 25 = .ok (.iconst 0, 1) := by decide +kernel
theorem d1_26 : decode prog_141_method_6_code 26 = .ok (.ireturn, 1) := by decide +kernel
theorem ef_1 (m : MethodId) (x0 : Addr) : entryFrame m #[(.ref x0)] 1 = mkF m 0 #[.val (.ref x0)] [] := by first | (simp [entryFrame, mkF, argsToLocals, Value.category]; done) | rfl
set_option maxRecDepth 65536 in
set_option maxHeartbeats 40000000 in
theorem rm1 (l : Launch) (Z : State) (a0 : Array Value) (hw : ∀ d ∈ tables_1, d.before a0 Z = true) (ws : List Jvm.Cond) (b : Addr) (v0 : Int32) (h0 : Heap) (n0 : Nat) (r : Nat → Addr) (C0 : Cs Z h0 r) (hv : (b = r 1 ∨ b = r 3 ∨ b = r 4 → v0 = 1) ∧ (¬ b = r 1 ∧ ¬ b = r 3 ∧ ¬ b = r 4 → v0 = 0)) :
    Meets l Z (⟨"com/example/quadloom/quadloom/sparql/SparqlParser$Block", "refusesBlankNodes", "()Z"⟩ : MethodName) prog_141_method_6_code 1 (some .boolean) ({ frames := 0, cells := 0, slots := 0, locals := 0 } : Room) ws #[(.ref b)] h0 (fun v h L => v = some (.int v0) ∧ Fr n0 L ∧ h = h0) := by
  refine Meets.of (plainFor_of_name (by first | (simp [plainName, overriddenIn]; done) | decide +kernel : plainName "com/example/quadloom/quadloom/sparql/SparqlParser$Block" = true)) ?_
  intro p e s m below meth c s₁ X0 hx hby hml hret hlk hnm hZ hown e0
  replace hown : s.vm.findClass "com/example/quadloom/quadloom/sparql/SparqlParser$Block" = some m.cls := hown
  have N0 := Fr.nil n0
  refine Go.cast (ef_1 m b) ?_
  show Go p e s below _ _ _ s₁ (mkF m 0 #[.val (.ref b)] [])
  refine Go.st (fun _ kont => XS.aloadN X0.here hx rfl (hb hby d1_0) rfl rfl kont) ?_
  show Go p e s below _ _ _ s₁ (mkF m 1 #[.val (.ref b)] [(.ref b)])
  obtain ⟨T1, X1, e1, st1⟩ := getS2 X0 hx hZ hown (host := "") (Or.inl (hw _ (List.mem_of_getElem? (i := 9) rfl))) Via.refl e0 (C0 1 "DELETE_DATA" 1 rfl rfl).1 (g := (mkF m 1 #[.val (.ref b)] [(.ref b)])) rfl (hb hby d1_1)
  refine Go.st st1 ?_
  show Go p e s below _ _ _ T1 (mkF m 4 #[.val (.ref b)] [(.ref (r 1)), (.ref b)])
  by_cases hc4_2 : b = (r 1)
  · --
    refine Go.st (fun _ kont => Jvm.RoadKit.acmp (g := (mkF m 4 #[.val (.ref b)] [(.ref (r 1)), (.ref b)])) X1 hx rfl rfl rfl (pc0 := 4) (pc' := 21) (same := true) rfl (hb hby d1_4) rfl (decide_eq_true (congrArg Value.ref hc4_2)) (by decide) (by decide) kont) ?_
    show Go p e s below _ _ _ T1 (mkF m 21 #[.val (.ref b)] [])
    refine Go.st (fun _ kont => XT.iconstV X1.here hx rfl (1 : Int32) (hb hby d1_21) (by decide) kont) ?_
    show Go p e s below _ _ _ T1 (mkF m 22 #[.val (.ref b)] [(.int (1 : Int32))])
    refine Go.st (fun _ kont => XS.goto X1.here hx rfl (pc0 := 22) (pc' := 26) rfl (hb hby d1_22) (by decide) (by decide) kont) ?_
    show Go p e s below _ _ _ T1 (mkF m 26 #[.val (.ref b)] [(.int (1 : Int32))])
    exact Go.retN X1 hx hlk hret (by simp) (hb hby d1_26) (by decide) (by decide) ⟨by rw [hv.1 (Or.inl hc4_2)]; rfl, N0, e1⟩
  · --
    refine Go.st (fun _ kont => Jvm.RoadKit.acmp (g := (mkF m 4 #[.val (.ref b)] [(.ref (r 1)), (.ref b)])) X1 hx rfl rfl rfl (pc0 := 4) (pc' := 7) (same := false) rfl (hb hby d1_4) rfl (decide_eq_false fun q => hc4_2 (Value.ref.inj q)) (by decide) (by decide) kont) ?_
    show Go p e s below _ _ _ T1 (mkF m 7 #[.val (.ref b)] [])
    refine Go.st (fun _ kont => XS.aloadN X1.here hx rfl (hb hby d1_7) rfl rfl kont) ?_
    show Go p e s below _ _ _ T1 (mkF m 8 #[.val (.ref b)] [(.ref b)])
    obtain ⟨T3, X3, e3, st3⟩ := getS2 X1 hx hZ hown (host := "") (Or.inl (hw _ (List.mem_of_getElem? (i := 11) rfl))) Via.refl e1 (C0 3 "DELETE_TEMPLATE" 3 rfl rfl).1 (g := (mkF m 8 #[.val (.ref b)] [(.ref b)])) rfl (hb hby d1_8)
    refine Go.st st3 ?_
    show Go p e s below _ _ _ T3 (mkF m 11 #[.val (.ref b)] [(.ref (r 3)), (.ref b)])
    by_cases hc11_4 : b = (r 3)
    · --
      refine Go.st (fun _ kont => Jvm.RoadKit.acmp (g := (mkF m 11 #[.val (.ref b)] [(.ref (r 3)), (.ref b)])) X3 hx rfl rfl rfl (pc0 := 11) (pc' := 21) (same := true) rfl (hb hby d1_11) rfl (decide_eq_true (congrArg Value.ref hc11_4)) (by decide) (by decide) kont) ?_
      show Go p e s below _ _ _ T3 (mkF m 21 #[.val (.ref b)] [])
      refine Go.st (fun _ kont => XT.iconstV X3.here hx rfl (1 : Int32) (hb hby d1_21) (by decide) kont) ?_
      show Go p e s below _ _ _ T3 (mkF m 22 #[.val (.ref b)] [(.int (1 : Int32))])
      refine Go.st (fun _ kont => XS.goto X3.here hx rfl (pc0 := 22) (pc' := 26) rfl (hb hby d1_22) (by decide) (by decide) kont) ?_
      show Go p e s below _ _ _ T3 (mkF m 26 #[.val (.ref b)] [(.int (1 : Int32))])
      exact Go.retN X3 hx hlk hret (by simp) (hb hby d1_26) (by decide) (by decide) ⟨by rw [hv.1 (Or.inr (Or.inl hc11_4))]; rfl, N0, e3⟩
    · --
      refine Go.st (fun _ kont => Jvm.RoadKit.acmp (g := (mkF m 11 #[.val (.ref b)] [(.ref (r 3)), (.ref b)])) X3 hx rfl rfl rfl (pc0 := 11) (pc' := 14) (same := false) rfl (hb hby d1_11) rfl (decide_eq_false fun q => hc11_4 (Value.ref.inj q)) (by decide) (by decide) kont) ?_
      show Go p e s below _ _ _ T3 (mkF m 14 #[.val (.ref b)] [])
      refine Go.st (fun _ kont => XS.aloadN X3.here hx rfl (hb hby d1_14) rfl rfl kont) ?_
      show Go p e s below _ _ _ T3 (mkF m 15 #[.val (.ref b)] [(.ref b)])
      obtain ⟨T5, X5, e5, st5⟩ := getS2 X3 hx hZ hown (host := "") (Or.inl (hw _ (List.mem_of_getElem? (i := 13) rfl))) Via.refl e3 (C0 4 "DELETE_WHERE" 4 rfl rfl).1 (g := (mkF m 15 #[.val (.ref b)] [(.ref b)])) rfl (hb hby d1_15)
      refine Go.st st5 ?_
      show Go p e s below _ _ _ T5 (mkF m 18 #[.val (.ref b)] [(.ref (r 4)), (.ref b)])
      by_cases hc18_6 : b = (r 4)
      · --
        refine Go.st (fun _ kont => Jvm.RoadKit.acmp (g := (mkF m 18 #[.val (.ref b)] [(.ref (r 4)), (.ref b)])) X5 hx rfl rfl rfl (pc0 := 18) (pc' := 21) (same := true) rfl (hb hby d1_18) rfl (decide_eq_true (congrArg Value.ref hc18_6)) (by decide) (by decide) kont) ?_
        show Go p e s below _ _ _ T5 (mkF m 21 #[.val (.ref b)] [])
        refine Go.st (fun _ kont => XT.iconstV X5.here hx rfl (1 : Int32) (hb hby d1_21) (by decide) kont) ?_
        show Go p e s below _ _ _ T5 (mkF m 22 #[.val (.ref b)] [(.int (1 : Int32))])
        refine Go.st (fun _ kont => XS.goto X5.here hx rfl (pc0 := 22) (pc' := 26) rfl (hb hby d1_22) (by decide) (by decide) kont) ?_
        show Go p e s below _ _ _ T5 (mkF m 26 #[.val (.ref b)] [(.int (1 : Int32))])
        exact Go.retN X5 hx hlk hret (by simp) (hb hby d1_26) (by decide) (by decide) ⟨by rw [hv.1 (Or.inr (Or.inr hc18_6))]; rfl, N0, e5⟩
      · --
        refine Go.st (fun _ kont => Jvm.RoadKit.acmp (g := (mkF m 18 #[.val (.ref b)] [(.ref (r 4)), (.ref b)])) X5 hx rfl rfl rfl (pc0 := 18) (pc' := 25) (same := false) rfl (hb hby d1_18) rfl (decide_eq_false fun q => hc18_6 (Value.ref.inj q)) (by decide) (by decide) kont) ?_
        show Go p e s below _ _ _ T5 (mkF m 25 #[.val (.ref b)] [])
        refine Go.st (fun _ kont => XT.iconstV X5.here hx rfl (0 : Int32) (hb hby d1_25) (by decide) kont) ?_
        show Go p e s below _ _ _ T5 (mkF m 26 #[.val (.ref b)] [(.int (0 : Int32))])
        exact Go.retN X5 hx hlk hret (by simp) (hb hby d1_26) (by decide) (by decide) ⟨by rw [hv.2 ⟨hc4_2, hc11_4, hc18_6⟩]; rfl, N0, e5⟩
theorem pd___Z : parseMethodDescriptor "()Z" = some ⟨[], some .boolean⟩ := by decide +kernel
theorem ef_0 (m : MethodId) (x0 : Int32) : entryFrame m #[(.int x0)] maxLocals = mkF m 0 #[.val (.int x0), .unset, .unset, .unset] [] := by first | (simp [entryFrame, mkF, argsToLocals, Value.category, maxLocals]; done) | rfl
set_option maxRecDepth 65536 in
set_option maxHeartbeats 40000000 in
theorem rm0 (l : Launch) (Z : State) (a0 : Array Value) (hw : ∀ d ∈ tables_1, d.before a0 Z = true) (ws : List Jvm.Cond) (p0 : Int32) (h0 : Heap) (n0 : Nat) (r : Nat → Addr) (C0 : Cs Z h0 r) :
    Meets l Z x code maxLocals ret room_1 ws #[(.int p0)] h0 (fun v h L => v = some (.int 1) ∧ Fr n0 L) := by
  refine Meets.of (plainFor_of_name (by first | (simp [plainName, overriddenIn]; done) | decide +kernel : plainName "com/example/quadloom/quadloom/sparql/BlockRefusesBlankNodesPinLaw" = true)) ?_
  intro p e s m below meth c s₁ X0 hx hby hml hret hlk hnm hZ hown e0
  replace hown : s.vm.findClass "com/example/quadloom/quadloom/sparql/BlockRefusesBlankNodesPinLaw" = some m.cls := hown
  have N0 := Fr.nil n0
  refine Go.cast (ef_0 m p0) ?_
  show Go p e s below _ _ _ s₁ (mkF m 0 #[.val (.int p0), .unset, .unset, .unset] [])
  refine Go.st (fun _ kont => XS.iloadN X0.here hx rfl (hb hby at_0) rfl kont) ?_
  show Go p e s below _ _ _ s₁ (mkF m 1 #[.val (.int p0), .unset, .unset, .unset] [(.int p0)])
  refine Go.st (X0.ldcInt hx hown (mvT hZ (hw _ (List.mem_of_getElem? (i := 0) rfl))) (g := (mkF m 1 #[.val (.int p0), .unset, .unset, .unset] [(.int p0)])) rfl (hb hby at_1)) ?_
  show Go p e s below _ _ _ s₁ (mkF m 3 #[.val (.int p0), .unset, .unset, .unset] [(.int (2147483647 : Int32)), (.int p0)])
  refine Go.st (fun _ kont => XS.iand X0.here hx rfl (hb hby at_3) rfl kont) ?_
  show Go p e s below _ _ _ s₁ (mkF m 4 #[.val (.int p0), .unset, .unset, .unset] [(.int (p0 &&& (2147483647 : Int32)))])
  refine Go.st (fun _ kont => XT.bipushV X0.here hx rfl (6 : Int32) (hb hby at_4) (by decide) kont) ?_
  show Go p e s below _ _ _ s₁ (mkF m 6 #[.val (.int p0), .unset, .unset, .unset] [(.int (6 : Int32)), (.int (p0 &&& (2147483647 : Int32)))])
  refine Go.st (fun _ kont => iremM X0 hx rfl (hb hby at_6) rfl (by decide) kont) ?_
  show Go p e s below _ _ _ s₁ (mkF m 7 #[.val (.int p0), .unset, .unset, .unset] [(.int ((p0 &&& (2147483647 : Int32)) % (6 : Int32)))])
  refine Go.st (fun _ kont => XS.istoreN X0.here hx rfl (hb hby at_7) rfl (l' := #[.val (.int p0), .val (.int ((p0 &&& (2147483647 : Int32)) % (6 : Int32))), .unset, .unset]) rfl kont) ?_
  show Go p e s below _ _ _ s₁ (mkF m 8 #[.val (.int p0), .val (.int ((p0 &&& (2147483647 : Int32)) % (6 : Int32))), .unset, .unset] [])
  obtain ⟨i, hi⟩ : ∃ z : Int32, z = ((p0 &&& (2147483647 : Int32)) % (6 : Int32)) := ⟨_, rfl⟩
  rw [← hi]
  show Go p e s below _ _ _ s₁ (mkF m 8 #[.val (.int p0), .val (.int i), .unset, .unset] [])
  refine Go.st (fun _ kont => XS.iloadN X0.here hx rfl (hb hby at_8) rfl kont) ?_
  show Go p e s below _ _ _ s₁ (mkF m 9 #[.val (.int p0), .val (.int i), .unset, .unset] [(.int i)])
  by_cases hc9_1 : i = (0 : Int32)
  · --
    refine Go.st (fun _ kont => XS.ifNo X0.here hx rfl (hb hby at_9) rfl ((if0 _ _).trans (teq hc9_1).2) kont) ?_
    show Go p e s below _ _ _ s₁ (mkF m 12 #[.val (.int p0), .val (.int i), .unset, .unset] [])
    obtain ⟨T2, X2, e2, st2⟩ := getS2 X0 hx hZ hown (host := "") (Or.inl (hw _ (List.mem_of_getElem? (i := 1) rfl))) Via.refl e0 (C0 0 "INSERT_DATA" 0 rfl rfl).1 (g := (mkF m 12 #[.val (.int p0), .val (.int i), .unset, .unset] [])) rfl (hb hby at_12)
    refine Go.st st2 ?_
    show Go p e s below _ _ _ T2 (mkF m 15 #[.val (.int p0), .val (.int i), .unset, .unset] [(.ref (r 0))])
    refine Go.st (fun _ kont => XS.astoreN X2.here hx rfl (hb hby at_15) rfl rfl (l' := #[.val (.int p0), .val (.int i), .val (.ref (r 0)), .unset]) rfl kont) ?_
    show Go p e s below _ _ _ T2 (mkF m 16 #[.val (.int p0), .val (.int i), .val (.ref (r 0)), .unset] [])
    refine Go.st (fun _ kont => XT.iconstV X2.here hx rfl (0 : Int32) (hb hby at_16) (by decide) kont) ?_
    show Go p e s below _ _ _ T2 (mkF m 17 #[.val (.int p0), .val (.int i), .val (.ref (r 0)), .unset] [(.int (0 : Int32))])
    refine Go.st (fun _ kont => XS.istoreN X2.here hx rfl (hb hby at_17) rfl (l' := #[.val (.int p0), .val (.int i), .val (.ref (r 0)), .val (.int (0 : Int32))]) rfl kont) ?_
    show Go p e s below _ _ _ T2 (mkF m 18 #[.val (.int p0), .val (.int i), .val (.ref (r 0)), .val (.int (0 : Int32))] [])
    refine Go.st (fun _ kont => XS.goto X2.here hx rfl (pc0 := 18) (pc' := 83) rfl (hb hby at_18) (by decide) (by decide) kont) ?_
    show Go p e s below _ _ _ T2 (mkF m 83 #[.val (.int p0), .val (.int i), .val (.ref (r 0)), .val (.int (0 : Int32))] [])
    refine Go.st (fun _ kont => XS.aloadN X2.here hx rfl (hb hby at_83) rfl rfl kont) ?_
    show Go p e s below _ _ _ T2 (mkF m 84 #[.val (.int p0), .val (.int i), .val (.ref (r 0)), .val (.int (0 : Int32))] [(.ref (r 0))])
    refine Go.callV (b := (r 0)) (W := 0) (argsL := []) (rest := []) X2 hx hZ hown (y := (⟨"com/example/quadloom/quadloom/sparql/SparqlParser$Block", "refusesBlankNodes", "()Z"⟩ : MethodName)) (z := (⟨"com/example/quadloom/quadloom/sparql/SparqlParser$Block", "refusesBlankNodes", "()Z"⟩ : MethodName)) (hw _ (List.mem_of_getElem? (i := 4) rfl)) (hw _ (List.mem_of_getElem? (i := 5) rfl)) (notFace_of_selects (args := #[]) (mvT hZ (hw _ (List.mem_of_getElem? (i := 7) rfl)))) (hw _ (List.mem_of_getElem? (i := 7) rfl)) (hw _ (List.mem_of_getElem? (i := 6) rfl)) (hw _ (List.mem_of_getElem? (i := 2) rfl)) (hw _ (List.mem_of_getElem? (i := 8) rfl)) (rm1 l Z a0 hw [] (r 0) (0 : Int32) h0 n0 r C0 ⟨(fun q0 => Or.elim q0 (fun q0 => absurd q0 (C0.ne (i := 0) (j := 1) rfl rfl rfl rfl (by decide))) (fun q0 => Or.elim q0 (fun q0 => absurd q0 (C0.ne (i := 0) (j := 3) rfl rfl rfl rfl (by decide))) (fun q0 => absurd q0 (C0.ne (i := 0) (j := 4) rfl rfl rfl rfl (by decide))))), fun _ => rfl⟩) e2 (C0 0 "INSERT_DATA" 0 rfl rfl).2.1 (by decide) (by decide) (by decide) (by decide) (by decide) (by rw [hml]; rfl) (lenOf pd___Z rfl) (Nat.le_of_eq rfl) (hb hby at_84) ?_
    intro T3 v3 L3 X3 hQ3
    obtain ⟨rfl, N3, E3⟩ := hQ3
    have M3 := Fr.app N0 N3
    show Go p e s below _ _ _ T3 (mkF m 87 #[.val (.int p0), .val (.int i), .val (.ref (r 0)), .val (.int (0 : Int32))] [(.int (0 : Int32))])
    refine Go.st (fun _ kont => XS.iloadN X3.here hx rfl (hb hby at_87) rfl kont) ?_
    show Go p e s below _ _ _ T3 (mkF m 88 #[.val (.int p0), .val (.int i), .val (.ref (r 0)), .val (.int (0 : Int32))] [(.int (0 : Int32)), (.int (0 : Int32))])
    refine Go.st (fun _ kont => XS.icmpNo X3.here hx rfl (hb hby at_88) rfl (teq rfl).2 kont) ?_
    show Go p e s below _ _ _ T3 (mkF m 91 #[.val (.int p0), .val (.int i), .val (.ref (r 0)), .val (.int (0 : Int32))] [])
    refine Go.st (fun _ kont => XT.iconstV X3.here hx rfl (1 : Int32) (hb hby at_91) (by decide) kont) ?_
    show Go p e s below _ _ _ T3 (mkF m 92 #[.val (.int p0), .val (.int i), .val (.ref (r 0)), .val (.int (0 : Int32))] [(.int (1 : Int32))])
    refine Go.st (fun _ kont => XS.goto X3.here hx rfl (pc0 := 92) (pc' := 96) rfl (hb hby at_92) (by decide) (by decide) kont) ?_
    show Go p e s below _ _ _ T3 (mkF m 96 #[.val (.int p0), .val (.int i), .val (.ref (r 0)), .val (.int (0 : Int32))] [(.int (1 : Int32))])
    exact Go.retN X3 hx hlk hret (by simp) (hb hby at_96) (by decide) (by decide) ⟨rfl, M3⟩
  · --
    refine Go.st (fun _ kont => XS.ifYes X0.here hx rfl (pc0 := 9) (pc' := 21) rfl (hb hby at_9) rfl ((if0 _ _).trans (feq hc9_1).2) (by decide) (by decide) kont) ?_
    show Go p e s below _ _ _ s₁ (mkF m 21 #[.val (.int p0), .val (.int i), .unset, .unset] [])
    refine Go.st (fun _ kont => XS.iloadN X0.here hx rfl (hb hby at_21) rfl kont) ?_
    show Go p e s below _ _ _ s₁ (mkF m 22 #[.val (.int p0), .val (.int i), .unset, .unset] [(.int i)])
    refine Go.st (fun _ kont => XT.iconstV X0.here hx rfl (1 : Int32) (hb hby at_22) (by decide) kont) ?_
    show Go p e s below _ _ _ s₁ (mkF m 23 #[.val (.int p0), .val (.int i), .unset, .unset] [(.int (1 : Int32)), (.int i)])
    by_cases hc23_4 : i = (1 : Int32)
    · --
      refine Go.st (fun _ kont => XS.icmpNo X0.here hx rfl (hb hby at_23) rfl (teq hc23_4).2 kont) ?_
      show Go p e s below _ _ _ s₁ (mkF m 26 #[.val (.int p0), .val (.int i), .unset, .unset] [])
      obtain ⟨T5, X5, e5, st5⟩ := getS2 X0 hx hZ hown (host := "") (Or.inl (hw _ (List.mem_of_getElem? (i := 18) rfl))) Via.refl e0 (C0 1 "DELETE_DATA" 1 rfl rfl).1 (g := (mkF m 26 #[.val (.int p0), .val (.int i), .unset, .unset] [])) rfl (hb hby at_26)
      refine Go.st st5 ?_
      show Go p e s below _ _ _ T5 (mkF m 29 #[.val (.int p0), .val (.int i), .unset, .unset] [(.ref (r 1))])
      refine Go.st (fun _ kont => XS.astoreN X5.here hx rfl (hb hby at_29) rfl rfl (l' := #[.val (.int p0), .val (.int i), .val (.ref (r 1)), .unset]) rfl kont) ?_
      show Go p e s below _ _ _ T5 (mkF m 30 #[.val (.int p0), .val (.int i), .val (.ref (r 1)), .unset] [])
      refine Go.st (fun _ kont => XT.iconstV X5.here hx rfl (1 : Int32) (hb hby at_30) (by decide) kont) ?_
      show Go p e s below _ _ _ T5 (mkF m 31 #[.val (.int p0), .val (.int i), .val (.ref (r 1)), .unset] [(.int (1 : Int32))])
      refine Go.st (fun _ kont => XS.istoreN X5.here hx rfl (hb hby at_31) rfl (l' := #[.val (.int p0), .val (.int i), .val (.ref (r 1)), .val (.int (1 : Int32))]) rfl kont) ?_
      show Go p e s below _ _ _ T5 (mkF m 32 #[.val (.int p0), .val (.int i), .val (.ref (r 1)), .val (.int (1 : Int32))] [])
      refine Go.st (fun _ kont => XS.goto X5.here hx rfl (pc0 := 32) (pc' := 83) rfl (hb hby at_32) (by decide) (by decide) kont) ?_
      show Go p e s below _ _ _ T5 (mkF m 83 #[.val (.int p0), .val (.int i), .val (.ref (r 1)), .val (.int (1 : Int32))] [])
      refine Go.st (fun _ kont => XS.aloadN X5.here hx rfl (hb hby at_83) rfl rfl kont) ?_
      show Go p e s below _ _ _ T5 (mkF m 84 #[.val (.int p0), .val (.int i), .val (.ref (r 1)), .val (.int (1 : Int32))] [(.ref (r 1))])
      refine Go.callV (b := (r 1)) (W := 0) (argsL := []) (rest := []) X5 hx hZ hown (y := (⟨"com/example/quadloom/quadloom/sparql/SparqlParser$Block", "refusesBlankNodes", "()Z"⟩ : MethodName)) (z := (⟨"com/example/quadloom/quadloom/sparql/SparqlParser$Block", "refusesBlankNodes", "()Z"⟩ : MethodName)) (hw _ (List.mem_of_getElem? (i := 4) rfl)) (hw _ (List.mem_of_getElem? (i := 5) rfl)) (notFace_of_selects (args := #[]) (mvT hZ (hw _ (List.mem_of_getElem? (i := 7) rfl)))) (hw _ (List.mem_of_getElem? (i := 7) rfl)) (hw _ (List.mem_of_getElem? (i := 6) rfl)) (hw _ (List.mem_of_getElem? (i := 2) rfl)) (hw _ (List.mem_of_getElem? (i := 8) rfl)) (rm1 l Z a0 hw [] (r 1) (1 : Int32) h0 n0 r C0 ⟨fun _ => rfl, fun q => absurd rfl q.1⟩) e5 (C0 1 "DELETE_DATA" 1 rfl rfl).2.1 (by decide) (by decide) (by decide) (by decide) (by decide) (by rw [hml]; rfl) (lenOf pd___Z rfl) (Nat.le_of_eq rfl) (hb hby at_84) ?_
      intro T6 v6 L6 X6 hQ6
      obtain ⟨rfl, N6, E6⟩ := hQ6
      have M6 := Fr.app N0 N6
      show Go p e s below _ _ _ T6 (mkF m 87 #[.val (.int p0), .val (.int i), .val (.ref (r 1)), .val (.int (1 : Int32))] [(.int (1 : Int32))])
      refine Go.st (fun _ kont => XS.iloadN X6.here hx rfl (hb hby at_87) rfl kont) ?_
      show Go p e s below _ _ _ T6 (mkF m 88 #[.val (.int p0), .val (.int i), .val (.ref (r 1)), .val (.int (1 : Int32))] [(.int (1 : Int32)), (.int (1 : Int32))])
      refine Go.st (fun _ kont => XS.icmpNo X6.here hx rfl (hb hby at_88) rfl (teq rfl).2 kont) ?_
      show Go p e s below _ _ _ T6 (mkF m 91 #[.val (.int p0), .val (.int i), .val (.ref (r 1)), .val (.int (1 : Int32))] [])
      refine Go.st (fun _ kont => XT.iconstV X6.here hx rfl (1 : Int32) (hb hby at_91) (by decide) kont) ?_
      show Go p e s below _ _ _ T6 (mkF m 92 #[.val (.int p0), .val (.int i), .val (.ref (r 1)), .val (.int (1 : Int32))] [(.int (1 : Int32))])
      refine Go.st (fun _ kont => XS.goto X6.here hx rfl (pc0 := 92) (pc' := 96) rfl (hb hby at_92) (by decide) (by decide) kont) ?_
      show Go p e s below _ _ _ T6 (mkF m 96 #[.val (.int p0), .val (.int i), .val (.ref (r 1)), .val (.int (1 : Int32))] [(.int (1 : Int32))])
      exact Go.retN X6 hx hlk hret (by simp) (hb hby at_96) (by decide) (by decide) ⟨rfl, M6⟩
    · --
      refine Go.st (fun _ kont => XS.icmpYes X0.here hx rfl (pc0 := 23) (pc' := 35) rfl (hb hby at_23) rfl (feq hc23_4).2 (by decide) (by decide) kont) ?_
      show Go p e s below _ _ _ s₁ (mkF m 35 #[.val (.int p0), .val (.int i), .unset, .unset] [])
      refine Go.st (fun _ kont => XS.iloadN X0.here hx rfl (hb hby at_35) rfl kont) ?_
      show Go p e s below _ _ _ s₁ (mkF m 36 #[.val (.int p0), .val (.int i), .unset, .unset] [(.int i)])
      refine Go.st (fun _ kont => XT.iconstV X0.here hx rfl (2 : Int32) (hb hby at_36) (by decide) kont) ?_
      show Go p e s below _ _ _ s₁ (mkF m 37 #[.val (.int p0), .val (.int i), .unset, .unset] [(.int (2 : Int32)), (.int i)])
      by_cases hc37_7 : i = (2 : Int32)
      · --
        refine Go.st (fun _ kont => XS.icmpNo X0.here hx rfl (hb hby at_37) rfl (teq hc37_7).2 kont) ?_
        show Go p e s below _ _ _ s₁ (mkF m 40 #[.val (.int p0), .val (.int i), .unset, .unset] [])
        obtain ⟨T8, X8, e8, st8⟩ := getS2 X0 hx hZ hown (host := "") (Or.inl (hw _ (List.mem_of_getElem? (i := 16) rfl))) Via.refl e0 (C0 2 "INSERT_TEMPLATE" 2 rfl rfl).1 (g := (mkF m 40 #[.val (.int p0), .val (.int i), .unset, .unset] [])) rfl (hb hby at_40)
        refine Go.st st8 ?_
        show Go p e s below _ _ _ T8 (mkF m 43 #[.val (.int p0), .val (.int i), .unset, .unset] [(.ref (r 2))])
        refine Go.st (fun _ kont => XS.astoreN X8.here hx rfl (hb hby at_43) rfl rfl (l' := #[.val (.int p0), .val (.int i), .val (.ref (r 2)), .unset]) rfl kont) ?_
        show Go p e s below _ _ _ T8 (mkF m 44 #[.val (.int p0), .val (.int i), .val (.ref (r 2)), .unset] [])
        refine Go.st (fun _ kont => XT.iconstV X8.here hx rfl (0 : Int32) (hb hby at_44) (by decide) kont) ?_
        show Go p e s below _ _ _ T8 (mkF m 45 #[.val (.int p0), .val (.int i), .val (.ref (r 2)), .unset] [(.int (0 : Int32))])
        refine Go.st (fun _ kont => XS.istoreN X8.here hx rfl (hb hby at_45) rfl (l' := #[.val (.int p0), .val (.int i), .val (.ref (r 2)), .val (.int (0 : Int32))]) rfl kont) ?_
        show Go p e s below _ _ _ T8 (mkF m 46 #[.val (.int p0), .val (.int i), .val (.ref (r 2)), .val (.int (0 : Int32))] [])
        refine Go.st (fun _ kont => XS.goto X8.here hx rfl (pc0 := 46) (pc' := 83) rfl (hb hby at_46) (by decide) (by decide) kont) ?_
        show Go p e s below _ _ _ T8 (mkF m 83 #[.val (.int p0), .val (.int i), .val (.ref (r 2)), .val (.int (0 : Int32))] [])
        refine Go.st (fun _ kont => XS.aloadN X8.here hx rfl (hb hby at_83) rfl rfl kont) ?_
        show Go p e s below _ _ _ T8 (mkF m 84 #[.val (.int p0), .val (.int i), .val (.ref (r 2)), .val (.int (0 : Int32))] [(.ref (r 2))])
        refine Go.callV (b := (r 2)) (W := 0) (argsL := []) (rest := []) X8 hx hZ hown (y := (⟨"com/example/quadloom/quadloom/sparql/SparqlParser$Block", "refusesBlankNodes", "()Z"⟩ : MethodName)) (z := (⟨"com/example/quadloom/quadloom/sparql/SparqlParser$Block", "refusesBlankNodes", "()Z"⟩ : MethodName)) (hw _ (List.mem_of_getElem? (i := 4) rfl)) (hw _ (List.mem_of_getElem? (i := 5) rfl)) (notFace_of_selects (args := #[]) (mvT hZ (hw _ (List.mem_of_getElem? (i := 7) rfl)))) (hw _ (List.mem_of_getElem? (i := 7) rfl)) (hw _ (List.mem_of_getElem? (i := 6) rfl)) (hw _ (List.mem_of_getElem? (i := 2) rfl)) (hw _ (List.mem_of_getElem? (i := 8) rfl)) (rm1 l Z a0 hw [] (r 2) (0 : Int32) h0 n0 r C0 ⟨(fun q0 => Or.elim q0 (fun q0 => absurd q0 (C0.ne (i := 2) (j := 1) rfl rfl rfl rfl (by decide))) (fun q0 => Or.elim q0 (fun q0 => absurd q0 (C0.ne (i := 2) (j := 3) rfl rfl rfl rfl (by decide))) (fun q0 => absurd q0 (C0.ne (i := 2) (j := 4) rfl rfl rfl rfl (by decide))))), fun _ => rfl⟩) e8 (C0 2 "INSERT_TEMPLATE" 2 rfl rfl).2.1 (by decide) (by decide) (by decide) (by decide) (by decide) (by rw [hml]; rfl) (lenOf pd___Z rfl) (Nat.le_of_eq rfl) (hb hby at_84) ?_
        intro T9 v9 L9 X9 hQ9
        obtain ⟨rfl, N9, E9⟩ := hQ9
        have M9 := Fr.app N0 N9
        show Go p e s below _ _ _ T9 (mkF m 87 #[.val (.int p0), .val (.int i), .val (.ref (r 2)), .val (.int (0 : Int32))] [(.int (0 : Int32))])
        refine Go.st (fun _ kont => XS.iloadN X9.here hx rfl (hb hby at_87) rfl kont) ?_
        show Go p e s below _ _ _ T9 (mkF m 88 #[.val (.int p0), .val (.int i), .val (.ref (r 2)), .val (.int (0 : Int32))] [(.int (0 : Int32)), (.int (0 : Int32))])
        refine Go.st (fun _ kont => XS.icmpNo X9.here hx rfl (hb hby at_88) rfl (teq rfl).2 kont) ?_
        show Go p e s below _ _ _ T9 (mkF m 91 #[.val (.int p0), .val (.int i), .val (.ref (r 2)), .val (.int (0 : Int32))] [])
        refine Go.st (fun _ kont => XT.iconstV X9.here hx rfl (1 : Int32) (hb hby at_91) (by decide) kont) ?_
        show Go p e s below _ _ _ T9 (mkF m 92 #[.val (.int p0), .val (.int i), .val (.ref (r 2)), .val (.int (0 : Int32))] [(.int (1 : Int32))])
        refine Go.st (fun _ kont => XS.goto X9.here hx rfl (pc0 := 92) (pc' := 96) rfl (hb hby at_92) (by decide) (by decide) kont) ?_
        show Go p e s below _ _ _ T9 (mkF m 96 #[.val (.int p0), .val (.int i), .val (.ref (r 2)), .val (.int (0 : Int32))] [(.int (1 : Int32))])
        exact Go.retN X9 hx hlk hret (by simp) (hb hby at_96) (by decide) (by decide) ⟨rfl, M9⟩
      · --
        refine Go.st (fun _ kont => XS.icmpYes X0.here hx rfl (pc0 := 37) (pc' := 49) rfl (hb hby at_37) rfl (feq hc37_7).2 (by decide) (by decide) kont) ?_
        show Go p e s below _ _ _ s₁ (mkF m 49 #[.val (.int p0), .val (.int i), .unset, .unset] [])
        refine Go.st (fun _ kont => XS.iloadN X0.here hx rfl (hb hby at_49) rfl kont) ?_
        show Go p e s below _ _ _ s₁ (mkF m 50 #[.val (.int p0), .val (.int i), .unset, .unset] [(.int i)])
        refine Go.st (fun _ kont => XT.iconstV X0.here hx rfl (3 : Int32) (hb hby at_50) (by decide) kont) ?_
        show Go p e s below _ _ _ s₁ (mkF m 51 #[.val (.int p0), .val (.int i), .unset, .unset] [(.int (3 : Int32)), (.int i)])
        by_cases hc51_10 : i = (3 : Int32)
        · --
          refine Go.st (fun _ kont => XS.icmpNo X0.here hx rfl (hb hby at_51) rfl (teq hc51_10).2 kont) ?_
          show Go p e s below _ _ _ s₁ (mkF m 54 #[.val (.int p0), .val (.int i), .unset, .unset] [])
          obtain ⟨T11, X11, e11, st11⟩ := getS2 X0 hx hZ hown (host := "") (Or.inl (hw _ (List.mem_of_getElem? (i := 15) rfl))) Via.refl e0 (C0 3 "DELETE_TEMPLATE" 3 rfl rfl).1 (g := (mkF m 54 #[.val (.int p0), .val (.int i), .unset, .unset] [])) rfl (hb hby at_54)
          refine Go.st st11 ?_
          show Go p e s below _ _ _ T11 (mkF m 57 #[.val (.int p0), .val (.int i), .unset, .unset] [(.ref (r 3))])
          refine Go.st (fun _ kont => XS.astoreN X11.here hx rfl (hb hby at_57) rfl rfl (l' := #[.val (.int p0), .val (.int i), .val (.ref (r 3)), .unset]) rfl kont) ?_
          show Go p e s below _ _ _ T11 (mkF m 58 #[.val (.int p0), .val (.int i), .val (.ref (r 3)), .unset] [])
          refine Go.st (fun _ kont => XT.iconstV X11.here hx rfl (1 : Int32) (hb hby at_58) (by decide) kont) ?_
          show Go p e s below _ _ _ T11 (mkF m 59 #[.val (.int p0), .val (.int i), .val (.ref (r 3)), .unset] [(.int (1 : Int32))])
          refine Go.st (fun _ kont => XS.istoreN X11.here hx rfl (hb hby at_59) rfl (l' := #[.val (.int p0), .val (.int i), .val (.ref (r 3)), .val (.int (1 : Int32))]) rfl kont) ?_
          show Go p e s below _ _ _ T11 (mkF m 60 #[.val (.int p0), .val (.int i), .val (.ref (r 3)), .val (.int (1 : Int32))] [])
          refine Go.st (fun _ kont => XS.goto X11.here hx rfl (pc0 := 60) (pc' := 83) rfl (hb hby at_60) (by decide) (by decide) kont) ?_
          show Go p e s below _ _ _ T11 (mkF m 83 #[.val (.int p0), .val (.int i), .val (.ref (r 3)), .val (.int (1 : Int32))] [])
          refine Go.st (fun _ kont => XS.aloadN X11.here hx rfl (hb hby at_83) rfl rfl kont) ?_
          show Go p e s below _ _ _ T11 (mkF m 84 #[.val (.int p0), .val (.int i), .val (.ref (r 3)), .val (.int (1 : Int32))] [(.ref (r 3))])
          refine Go.callV (b := (r 3)) (W := 0) (argsL := []) (rest := []) X11 hx hZ hown (y := (⟨"com/example/quadloom/quadloom/sparql/SparqlParser$Block", "refusesBlankNodes", "()Z"⟩ : MethodName)) (z := (⟨"com/example/quadloom/quadloom/sparql/SparqlParser$Block", "refusesBlankNodes", "()Z"⟩ : MethodName)) (hw _ (List.mem_of_getElem? (i := 4) rfl)) (hw _ (List.mem_of_getElem? (i := 5) rfl)) (notFace_of_selects (args := #[]) (mvT hZ (hw _ (List.mem_of_getElem? (i := 7) rfl)))) (hw _ (List.mem_of_getElem? (i := 7) rfl)) (hw _ (List.mem_of_getElem? (i := 6) rfl)) (hw _ (List.mem_of_getElem? (i := 2) rfl)) (hw _ (List.mem_of_getElem? (i := 8) rfl)) (rm1 l Z a0 hw [] (r 3) (1 : Int32) h0 n0 r C0 ⟨fun _ => rfl, fun q => absurd rfl q.2.1⟩) e11 (C0 3 "DELETE_TEMPLATE" 3 rfl rfl).2.1 (by decide) (by decide) (by decide) (by decide) (by decide) (by rw [hml]; rfl) (lenOf pd___Z rfl) (Nat.le_of_eq rfl) (hb hby at_84) ?_
          intro T12 v12 L12 X12 hQ12
          obtain ⟨rfl, N12, E12⟩ := hQ12
          have M12 := Fr.app N0 N12
          show Go p e s below _ _ _ T12 (mkF m 87 #[.val (.int p0), .val (.int i), .val (.ref (r 3)), .val (.int (1 : Int32))] [(.int (1 : Int32))])
          refine Go.st (fun _ kont => XS.iloadN X12.here hx rfl (hb hby at_87) rfl kont) ?_
          show Go p e s below _ _ _ T12 (mkF m 88 #[.val (.int p0), .val (.int i), .val (.ref (r 3)), .val (.int (1 : Int32))] [(.int (1 : Int32)), (.int (1 : Int32))])
          refine Go.st (fun _ kont => XS.icmpNo X12.here hx rfl (hb hby at_88) rfl (teq rfl).2 kont) ?_
          show Go p e s below _ _ _ T12 (mkF m 91 #[.val (.int p0), .val (.int i), .val (.ref (r 3)), .val (.int (1 : Int32))] [])
          refine Go.st (fun _ kont => XT.iconstV X12.here hx rfl (1 : Int32) (hb hby at_91) (by decide) kont) ?_
          show Go p e s below _ _ _ T12 (mkF m 92 #[.val (.int p0), .val (.int i), .val (.ref (r 3)), .val (.int (1 : Int32))] [(.int (1 : Int32))])
          refine Go.st (fun _ kont => XS.goto X12.here hx rfl (pc0 := 92) (pc' := 96) rfl (hb hby at_92) (by decide) (by decide) kont) ?_
          show Go p e s below _ _ _ T12 (mkF m 96 #[.val (.int p0), .val (.int i), .val (.ref (r 3)), .val (.int (1 : Int32))] [(.int (1 : Int32))])
          exact Go.retN X12 hx hlk hret (by simp) (hb hby at_96) (by decide) (by decide) ⟨rfl, M12⟩
        · --
          refine Go.st (fun _ kont => XS.icmpYes X0.here hx rfl (pc0 := 51) (pc' := 63) rfl (hb hby at_51) rfl (feq hc51_10).2 (by decide) (by decide) kont) ?_
          show Go p e s below _ _ _ s₁ (mkF m 63 #[.val (.int p0), .val (.int i), .unset, .unset] [])
          refine Go.st (fun _ kont => XS.iloadN X0.here hx rfl (hb hby at_63) rfl kont) ?_
          show Go p e s below _ _ _ s₁ (mkF m 64 #[.val (.int p0), .val (.int i), .unset, .unset] [(.int i)])
          refine Go.st (fun _ kont => XT.iconstV X0.here hx rfl (4 : Int32) (hb hby at_64) (by decide) kont) ?_
          show Go p e s below _ _ _ s₁ (mkF m 65 #[.val (.int p0), .val (.int i), .unset, .unset] [(.int (4 : Int32)), (.int i)])
          by_cases hc65_13 : i = (4 : Int32)
          · --
            refine Go.st (fun _ kont => XS.icmpNo X0.here hx rfl (hb hby at_65) rfl (teq hc65_13).2 kont) ?_
            show Go p e s below _ _ _ s₁ (mkF m 68 #[.val (.int p0), .val (.int i), .unset, .unset] [])
            obtain ⟨T14, X14, e14, st14⟩ := getS2 X0 hx hZ hown (host := "") (Or.inl (hw _ (List.mem_of_getElem? (i := 21) rfl))) Via.refl e0 (C0 4 "DELETE_WHERE" 4 rfl rfl).1 (g := (mkF m 68 #[.val (.int p0), .val (.int i), .unset, .unset] [])) rfl (hb hby at_68)
            refine Go.st st14 ?_
            show Go p e s below _ _ _ T14 (mkF m 71 #[.val (.int p0), .val (.int i), .unset, .unset] [(.ref (r 4))])
            refine Go.st (fun _ kont => XS.astoreN X14.here hx rfl (hb hby at_71) rfl rfl (l' := #[.val (.int p0), .val (.int i), .val (.ref (r 4)), .unset]) rfl kont) ?_
            show Go p e s below _ _ _ T14 (mkF m 72 #[.val (.int p0), .val (.int i), .val (.ref (r 4)), .unset] [])
            refine Go.st (fun _ kont => XT.iconstV X14.here hx rfl (1 : Int32) (hb hby at_72) (by decide) kont) ?_
            show Go p e s below _ _ _ T14 (mkF m 73 #[.val (.int p0), .val (.int i), .val (.ref (r 4)), .unset] [(.int (1 : Int32))])
            refine Go.st (fun _ kont => XS.istoreN X14.here hx rfl (hb hby at_73) rfl (l' := #[.val (.int p0), .val (.int i), .val (.ref (r 4)), .val (.int (1 : Int32))]) rfl kont) ?_
            show Go p e s below _ _ _ T14 (mkF m 74 #[.val (.int p0), .val (.int i), .val (.ref (r 4)), .val (.int (1 : Int32))] [])
            refine Go.st (fun _ kont => XS.goto X14.here hx rfl (pc0 := 74) (pc' := 83) rfl (hb hby at_74) (by decide) (by decide) kont) ?_
            show Go p e s below _ _ _ T14 (mkF m 83 #[.val (.int p0), .val (.int i), .val (.ref (r 4)), .val (.int (1 : Int32))] [])
            refine Go.st (fun _ kont => XS.aloadN X14.here hx rfl (hb hby at_83) rfl rfl kont) ?_
            show Go p e s below _ _ _ T14 (mkF m 84 #[.val (.int p0), .val (.int i), .val (.ref (r 4)), .val (.int (1 : Int32))] [(.ref (r 4))])
            refine Go.callV (b := (r 4)) (W := 0) (argsL := []) (rest := []) X14 hx hZ hown (y := (⟨"com/example/quadloom/quadloom/sparql/SparqlParser$Block", "refusesBlankNodes", "()Z"⟩ : MethodName)) (z := (⟨"com/example/quadloom/quadloom/sparql/SparqlParser$Block", "refusesBlankNodes", "()Z"⟩ : MethodName)) (hw _ (List.mem_of_getElem? (i := 4) rfl)) (hw _ (List.mem_of_getElem? (i := 5) rfl)) (notFace_of_selects (args := #[]) (mvT hZ (hw _ (List.mem_of_getElem? (i := 7) rfl)))) (hw _ (List.mem_of_getElem? (i := 7) rfl)) (hw _ (List.mem_of_getElem? (i := 6) rfl)) (hw _ (List.mem_of_getElem? (i := 2) rfl)) (hw _ (List.mem_of_getElem? (i := 8) rfl)) (rm1 l Z a0 hw [] (r 4) (1 : Int32) h0 n0 r C0 ⟨fun _ => rfl, fun q => absurd rfl q.2.2⟩) e14 (C0 4 "DELETE_WHERE" 4 rfl rfl).2.1 (by decide) (by decide) (by decide) (by decide) (by decide) (by rw [hml]; rfl) (lenOf pd___Z rfl) (Nat.le_of_eq rfl) (hb hby at_84) ?_
            intro T15 v15 L15 X15 hQ15
            obtain ⟨rfl, N15, E15⟩ := hQ15
            have M15 := Fr.app N0 N15
            show Go p e s below _ _ _ T15 (mkF m 87 #[.val (.int p0), .val (.int i), .val (.ref (r 4)), .val (.int (1 : Int32))] [(.int (1 : Int32))])
            refine Go.st (fun _ kont => XS.iloadN X15.here hx rfl (hb hby at_87) rfl kont) ?_
            show Go p e s below _ _ _ T15 (mkF m 88 #[.val (.int p0), .val (.int i), .val (.ref (r 4)), .val (.int (1 : Int32))] [(.int (1 : Int32)), (.int (1 : Int32))])
            refine Go.st (fun _ kont => XS.icmpNo X15.here hx rfl (hb hby at_88) rfl (teq rfl).2 kont) ?_
            show Go p e s below _ _ _ T15 (mkF m 91 #[.val (.int p0), .val (.int i), .val (.ref (r 4)), .val (.int (1 : Int32))] [])
            refine Go.st (fun _ kont => XT.iconstV X15.here hx rfl (1 : Int32) (hb hby at_91) (by decide) kont) ?_
            show Go p e s below _ _ _ T15 (mkF m 92 #[.val (.int p0), .val (.int i), .val (.ref (r 4)), .val (.int (1 : Int32))] [(.int (1 : Int32))])
            refine Go.st (fun _ kont => XS.goto X15.here hx rfl (pc0 := 92) (pc' := 96) rfl (hb hby at_92) (by decide) (by decide) kont) ?_
            show Go p e s below _ _ _ T15 (mkF m 96 #[.val (.int p0), .val (.int i), .val (.ref (r 4)), .val (.int (1 : Int32))] [(.int (1 : Int32))])
            exact Go.retN X15 hx hlk hret (by simp) (hb hby at_96) (by decide) (by decide) ⟨rfl, M15⟩
          · --
            refine Go.st (fun _ kont => XS.icmpYes X0.here hx rfl (pc0 := 65) (pc' := 77) rfl (hb hby at_65) rfl (feq hc65_13).2 (by decide) (by decide) kont) ?_
            show Go p e s below _ _ _ s₁ (mkF m 77 #[.val (.int p0), .val (.int i), .unset, .unset] [])
            obtain ⟨T16, X16, e16, st16⟩ := getS2 X0 hx hZ hown (host := "") (Or.inl (hw _ (List.mem_of_getElem? (i := 19) rfl))) Via.refl e0 (C0 5 "WHERE" 5 rfl rfl).1 (g := (mkF m 77 #[.val (.int p0), .val (.int i), .unset, .unset] [])) rfl (hb hby at_77)
            refine Go.st st16 ?_
            show Go p e s below _ _ _ T16 (mkF m 80 #[.val (.int p0), .val (.int i), .unset, .unset] [(.ref (r 5))])
            refine Go.st (fun _ kont => XS.astoreN X16.here hx rfl (hb hby at_80) rfl rfl (l' := #[.val (.int p0), .val (.int i), .val (.ref (r 5)), .unset]) rfl kont) ?_
            show Go p e s below _ _ _ T16 (mkF m 81 #[.val (.int p0), .val (.int i), .val (.ref (r 5)), .unset] [])
            refine Go.st (fun _ kont => XT.iconstV X16.here hx rfl (0 : Int32) (hb hby at_81) (by decide) kont) ?_
            show Go p e s below _ _ _ T16 (mkF m 82 #[.val (.int p0), .val (.int i), .val (.ref (r 5)), .unset] [(.int (0 : Int32))])
            refine Go.st (fun _ kont => XS.istoreN X16.here hx rfl (hb hby at_82) rfl (l' := #[.val (.int p0), .val (.int i), .val (.ref (r 5)), .val (.int (0 : Int32))]) rfl kont) ?_
            show Go p e s below _ _ _ T16 (mkF m 83 #[.val (.int p0), .val (.int i), .val (.ref (r 5)), .val (.int (0 : Int32))] [])
            refine Go.st (fun _ kont => XS.aloadN X16.here hx rfl (hb hby at_83) rfl rfl kont) ?_
            show Go p e s below _ _ _ T16 (mkF m 84 #[.val (.int p0), .val (.int i), .val (.ref (r 5)), .val (.int (0 : Int32))] [(.ref (r 5))])
            refine Go.callV (b := (r 5)) (W := 0) (argsL := []) (rest := []) X16 hx hZ hown (y := (⟨"com/example/quadloom/quadloom/sparql/SparqlParser$Block", "refusesBlankNodes", "()Z"⟩ : MethodName)) (z := (⟨"com/example/quadloom/quadloom/sparql/SparqlParser$Block", "refusesBlankNodes", "()Z"⟩ : MethodName)) (hw _ (List.mem_of_getElem? (i := 4) rfl)) (hw _ (List.mem_of_getElem? (i := 5) rfl)) (notFace_of_selects (args := #[]) (mvT hZ (hw _ (List.mem_of_getElem? (i := 7) rfl)))) (hw _ (List.mem_of_getElem? (i := 7) rfl)) (hw _ (List.mem_of_getElem? (i := 6) rfl)) (hw _ (List.mem_of_getElem? (i := 2) rfl)) (hw _ (List.mem_of_getElem? (i := 8) rfl)) (rm1 l Z a0 hw [] (r 5) (0 : Int32) h0 n0 r C0 ⟨(fun q0 => Or.elim q0 (fun q0 => absurd q0 (C0.ne (i := 5) (j := 1) rfl rfl rfl rfl (by decide))) (fun q0 => Or.elim q0 (fun q0 => absurd q0 (C0.ne (i := 5) (j := 3) rfl rfl rfl rfl (by decide))) (fun q0 => absurd q0 (C0.ne (i := 5) (j := 4) rfl rfl rfl rfl (by decide))))), fun _ => rfl⟩) e16 (C0 5 "WHERE" 5 rfl rfl).2.1 (by decide) (by decide) (by decide) (by decide) (by decide) (by rw [hml]; rfl) (lenOf pd___Z rfl) (Nat.le_of_eq rfl) (hb hby at_84) ?_
            intro T17 v17 L17 X17 hQ17
            obtain ⟨rfl, N17, E17⟩ := hQ17
            have M17 := Fr.app N0 N17
            show Go p e s below _ _ _ T17 (mkF m 87 #[.val (.int p0), .val (.int i), .val (.ref (r 5)), .val (.int (0 : Int32))] [(.int (0 : Int32))])
            refine Go.st (fun _ kont => XS.iloadN X17.here hx rfl (hb hby at_87) rfl kont) ?_
            show Go p e s below _ _ _ T17 (mkF m 88 #[.val (.int p0), .val (.int i), .val (.ref (r 5)), .val (.int (0 : Int32))] [(.int (0 : Int32)), (.int (0 : Int32))])
            refine Go.st (fun _ kont => XS.icmpNo X17.here hx rfl (hb hby at_88) rfl (teq rfl).2 kont) ?_
            show Go p e s below _ _ _ T17 (mkF m 91 #[.val (.int p0), .val (.int i), .val (.ref (r 5)), .val (.int (0 : Int32))] [])
            refine Go.st (fun _ kont => XT.iconstV X17.here hx rfl (1 : Int32) (hb hby at_91) (by decide) kont) ?_
            show Go p e s below _ _ _ T17 (mkF m 92 #[.val (.int p0), .val (.int i), .val (.ref (r 5)), .val (.int (0 : Int32))] [(.int (1 : Int32))])
            refine Go.st (fun _ kont => XS.goto X17.here hx rfl (pc0 := 92) (pc' := 96) rfl (hb hby at_92) (by decide) (by decide) kont) ?_
            show Go p e s below _ _ _ T17 (mkF m 96 #[.val (.int p0), .val (.int i), .val (.ref (r 5)), .val (.int (0 : Int32))] [(.int (1 : Int32))])
            exact Go.retN X17 hx hlk hret (by simp) (hb hby at_96) (by decide) (by decide) ⟨rfl, M17⟩
set_option maxRecDepth 65536 in
set_option maxHeartbeats 40000000 in
theorem comes_1 {Post : Tables → Env → Array Value → State → Outcome → State → Prop} (hpost : ∀ tb e args s v u, (limb_1_1.after args s (.returned v) u = true ∧ limb_1_2.after args s (.returned v) u = true ∧ True) → FrameEnd s (.returned v) u (Jvm.fieldLocs frame_1_writes args s ++ Jvm.arrayLocs frame_1_arrays args s ++ Jvm.staticLocs frame_1_statics s) 0 0 → Post tb e args s (.returned v) u) :
    ArmFor flags0 classFile x code maxLocals ret World_1 tables_1 room_1 Calls_1 rest_1 Pre_1 Post := by
  intro l hfl _ _ p e ha hc hk s m args below hf hA hF happ hP
  obtain ⟨hcalls, hrest, hpre⟩ := hP
  obtain ⟨-, -, -, hnamed, -, -, -, hat⟩ := (Spec.applies_iff hf).mp happ
  obtain ⟨hg, hn⟩ := and_e (Cond.before_iff.mp (show (Jvm.Cond.and given_1 narrow_1).before args s = true from hpre))
  obtain ⟨hg_1, hg_1'⟩ := and_e hg
  obtain ⟨w0, rfl⟩ : ∃ w0 : Value, args = #[w0] := by
    have hs : args.size = 1 := by simpa [Cond.value, given_1] using hg_1
    obtain ⟨L⟩ := args
    match L, hs with
    | [w0], _ => exact ⟨w0, rfl⟩
  have hw := fun d (hd : d ∈ tables_1) => atoms_spec (ws := Jvm.Cond.code x code maxLocals ret :: tables_1) hat d (List.mem_cons_of_mem _ hd)
  have hfit : Fit s := fun {y c} hc i hi => by
    obtain ⟨ha, rfl⟩ := Array.getElem?_eq_some_iff.mp hc
    have q := List.all_eq_true.mp ((Array.all_eq_true_iff_forall_mem.mp hF) _ (Array.getElem_mem ha)) i (List.mem_range.mpr hi)
    simpa [Array.getElem?_eq_getElem hi] using q
  obtain ⟨i0, ei0⟩ := is_v hg_1'
  obtain rfl : w0 = (.int i0) := Option.some.inj ei0
  obtain ⟨hn_1, hn_1'⟩ := and_e hn
  obtain ⟨hn_2, hn_2'⟩ := and_e hn_1'
  obtain ⟨hn_3, hn_3'⟩ := and_e hn_2'
  obtain ⟨hn_4, hn_4'⟩ := and_e hn_3'
  obtain ⟨hn_5, hn_5'⟩ := and_e hn_4'
  obtain ⟨hn_6, hn_6'⟩ := and_e hn_5'
  obtain ⟨hn_7, hn_7'⟩ := and_e hn_6'
  obtain ⟨hn_8, hn_8'⟩ := and_e hn_7'
  obtain ⟨hn_9, hn_9'⟩ := and_e hn_8'
  obtain ⟨hn_10, hn_10'⟩ := and_e hn_9'
  obtain ⟨hn_11, hn_11'⟩ := and_e hn_10'
  obtain ⟨r0, re0, rc0⟩ := own_const hn_1 hn_3 (hw _ (List.mem_of_getElem? (i := 2) rfl)) (hw _ (List.mem_of_getElem? (i := 3) rfl))
  obtain ⟨r1, re1, rc1⟩ := own_const hn_2 hn_4 (hw _ (List.mem_of_getElem? (i := 2) rfl)) (hw _ (List.mem_of_getElem? (i := 10) rfl))
  obtain ⟨r2, re2, rc2⟩ := own_const hn_9 hn_10 (hw _ (List.mem_of_getElem? (i := 2) rfl)) (hw _ (List.mem_of_getElem? (i := 17) rfl))
  obtain ⟨r3, re3, rc3⟩ := own_const hn_5 hn_6 (hw _ (List.mem_of_getElem? (i := 2) rfl)) (hw _ (List.mem_of_getElem? (i := 12) rfl))
  obtain ⟨r4, re4, rc4⟩ := own_const hn_7 hn_8 (hw _ (List.mem_of_getElem? (i := 2) rfl)) (hw _ (List.mem_of_getElem? (i := 14) rfl))
  obtain ⟨r5, re5, rc5⟩ := own_const hn_11 hn_11' (hw _ (List.mem_of_getElem? (i := 2) rfl)) (hw _ (List.mem_of_getElem? (i := 20) rfl))
  have C0 : Cs s s.heap (fun i => [r0, r1, r2, r3, r4, r5].getD i 0) := by
    intro i nm o h1 h2
    match i, h1, h2 with
    | 0, h1, h2 => obtain rfl := Option.some.inj h1; obtain rfl := Option.some.inj h2; exact rc0
    | 1, h1, h2 => obtain rfl := Option.some.inj h1; obtain rfl := Option.some.inj h2; exact rc1
    | 2, h1, h2 => obtain rfl := Option.some.inj h1; obtain rfl := Option.some.inj h2; exact rc2
    | 3, h1, h2 => obtain rfl := Option.some.inj h1; obtain rfl := Option.some.inj h2; exact rc3
    | 4, h1, h2 => obtain rfl := Option.some.inj h1; obtain rfl := Option.some.inj h2; exact rc4
    | 5, h1, h2 => obtain rfl := Option.some.inj h1; obtain rfl := Option.some.inj h2; exact rc5
    | k + 6, h1, h2 => simp [nms] at h1
  obtain ⟨n, o, h1, h2, h3, _, L, rfl, ⟨rfl, N⟩, hq⟩ := rm0 l s _ hw tables_1 i0 s.heap s.heap.size (fun i => [r0, r1, r2, r3, r4, r5].getD i 0) C0 p e ha hc hk s m _ below hf ((Spec.applies_iff_loose hf).mp happ).1 ⟨rfl, State.Warmed39.refl s, rfl⟩ trivial
  refine ⟨n, _, h1, h2, h3, hpost _ _ _ _ _ _ ⟨Cond.after_iff.mpr rfl, Cond.after_iff.mpr (eq_i res_at (Term.int_eval (1)) rfl), trivial⟩ ⟨hq.1, hq.2.1, (hq.2.2.sift fun y hy => Or.inr (N y hy)).mono (by decide) (by decide)⟩⟩
theorem main_1_1 : Claimed_1_1 := comes_1 fun _ _ _ _ _ _ h hF => ⟨h.1, hF⟩
theorem main_1_2 : Claimed_1_2 := comes_1 fun _ _ _ _ _ _ h hF => ⟨h.2.1, hF⟩
end Jvm.Pilot.@@N@@
namespace Jvm.Pilot.@@N@@
open Jvm Jvm.ClassFile Sem Op Lib Jvm.Free Jvm.Stand Jvm.Pilot.@@N@@.Jvm.D
/-! MADE BY PROGRAM (witnessworld.py) out of the Statement's table words and the real class files: 12 classes; the members and pool entries that the words name. The judged class is class 1, her method 1. -/
namespace start1
open Jvm.ClassFile
def u (s : String) : CpInfo := .utf8 (stringToUtf16 s)
/-- a pool by its gaps: so many unusable entries, then the entry; so many at the end -/
def gap : Nat → List CpInfo → List CpInfo
  | 0, r => r
  | n + 1, r => .unusable :: gap n r
def poolList (es : List (Nat × CpInfo)) (last : Nat) : List CpInfo := es.foldr (fun e r => gap e.1 (e.2 :: r)) (gap last [])
def pool (es : List (Nat × CpInfo)) (last : Nat) : Array CpInfo := ⟨poolList es last⟩
def fileOf (pool : Array CpInfo) (this : Nat) (attrs : Array Attribute := #[]) (ms : Array MethodInfo := #[]) (fl : Nat := 33) (sup : Nat := 0) (ifs : Array Nat := #[]) (fds : Array FieldInfo := #[]) : ClassFile where
  minorVersion := 0
  majorVersion := 65
  constantPool := pool
  accessFlags := fl
  thisClass := this
  superClass := sup
  interfaces := ifs
  fields := fds
  methods := ms
  attributes := attrs
def plain (name : String) (sup : Option ClassId) : Class where
  name := name
  kind := .ordinary
  loader := none
  accessFlags := 33
  super := sup
  interfaces := #[]
  cf := none
  fields := #[]
  methods := #[]
  instanceTypes := #[]
  staticTypes := #[]
  resolved := #[]
  callSites := []
  init := .initialized
  statics := none
  mirror := none

def pool0 : Array CpInfo := pool [(5, u "<init>"), (0, u "()V"), (1, .class_ 10), (1, u "java/lang/Object")] 113

def k0m0 : Method := { name := "<init>", desc := "()V", sig := { parameters := [], returnType := none }, accessFlags := 1, code := none }
/-- java/lang/Object -/
def k0 : Class := { plain "java/lang/Object" none with
  accessFlags := 33
  interfaces := #[]
  cf := some (fileOf pool0 8 #[] #[{ accessFlags := 1, nameIndex := 5, descriptorIndex := 6, attributes := #[] }] 33 0 #[] #[])
  fields := #[]
  methods := #[k0m0]
  instanceTypes := #[]
  staticTypes := #[]
  resolved := Array.replicate 124 none
  statics := none }

def pool1 : Array CpInfo := pool [(2, .class_ 4), (1, u "java/lang/Object"), (0, u "<init>"), (0, u "()V"), (0, .integer 2147483647), (0, .fieldref 9 10), (0, .class_ 11), (0, .nameAndType 12 13), (0, u "com/example/quadloom/quadloom/sparql/SparqlParser$Block"), (0, u "INSERT_DATA"), (0, u "Lcom/example/quadloom/quadloom/sparql/SparqlParser$Block;"), (0, .fieldref 9 15), (0, .nameAndType 16 13), (0, u "DELETE_DATA"), (0, .fieldref 9 18), (0, .nameAndType 19 13), (0, u "INSERT_TEMPLATE"), (0, .fieldref 9 21), (0, .nameAndType 22 13), (0, u "DELETE_TEMPLATE"), (0, .fieldref 9 24), (0, .nameAndType 25 13), (0, u "DELETE_WHERE"), (0, .fieldref 9 27), (0, .nameAndType 28 13), (0, u "WHERE"), (0, .methodref 9 30), (0, .nameAndType 31 32), (0, u "refusesBlankNodes"), (0, u "()Z"), (0, .class_ 34), (0, u "com/example/quadloom/quadloom/sparql/BlockRefusesBlankNodesPinLaw"), (2, u "law"), (0, u "(I)Z")] 7

def k1m0 : Method := { name := "<init>", desc := "()V", sig := { parameters := [], returnType := none }, accessFlags := 1, code := none }
def k1c1 : Code := { maxStack := 2, maxLocals := 4, code := code, exceptionTable := #[], attributes := #[] }
def k1m1 : Method := { name := "law", desc := "(I)Z", sig := { parameters := [.int], returnType := some .boolean }, accessFlags := 9, code := some k1c1 }
/-- com/example/quadloom/quadloom/sparql/BlockRefusesBlankNodesPinLaw -/
def k1 : Class := { plain "com/example/quadloom/quadloom/sparql/BlockRefusesBlankNodesPinLaw" (some 0) with
  accessFlags := 49
  interfaces := #[]
  cf := some (fileOf pool1 33 #[] #[{ accessFlags := 1, nameIndex := 5, descriptorIndex := 6, attributes := #[] }, { accessFlags := 9, nameIndex := 37, descriptorIndex := 38, attributes := #[] }] 49 2 #[] #[])
  fields := #[]
  methods := #[k1m0, k1m1]
  instanceTypes := #[]
  staticTypes := #[]
  resolved := Array.replicate 46 none
  statics := none }

def pool2 : Array CpInfo := pool [(1, .class_ 2), (0, u "java/lang/constant/Constable"), (0, .class_ 4), (0, u "java/lang/Object")] 6

/-- java/lang/constant/Constable -/
def k2 : Class := { plain "java/lang/constant/Constable" (some 0) with
  accessFlags := 1537
  interfaces := #[]
  cf := some (fileOf pool2 1 #[] #[] 1537 3 #[] #[])
  fields := #[]
  methods := #[]
  instanceTypes := #[]
  staticTypes := #[]
  resolved := Array.replicate 11 none
  statics := none }

def pool3 : Array CpInfo := pool [(1, .class_ 2), (0, u "java/lang/Comparable"), (0, .class_ 4), (0, u "java/lang/Object")] 7

/-- java/lang/Comparable -/
def k3 : Class := { plain "java/lang/Comparable" (some 0) with
  accessFlags := 1537
  interfaces := #[]
  cf := some (fileOf pool3 1 #[] #[] 1537 3 #[] #[])
  fields := #[]
  methods := #[]
  instanceTypes := #[]
  staticTypes := #[]
  resolved := Array.replicate 12 none
  statics := none }

def pool4 : Array CpInfo := pool [(1, .class_ 2), (0, u "java/io/Serializable"), (0, .class_ 4), (0, u "java/lang/Object")] 2

/-- java/io/Serializable -/
def k4 : Class := { plain "java/io/Serializable" (some 0) with
  accessFlags := 1537
  interfaces := #[]
  cf := some (fileOf pool4 1 #[] #[] 1537 3 #[] #[])
  fields := #[]
  methods := #[]
  instanceTypes := #[]
  staticTypes := #[]
  resolved := Array.replicate 7 none
  statics := none }

def pool5 : Array CpInfo := pool [(2, .class_ 4), (1, u "java/lang/Enum"), (0, u "name"), (0, u "Ljava/lang/String;"), (2, u "ordinal"), (0, u "I"), (1, .class_ 14), (1, u "java/lang/Object"), (4, u "hash"), (86, .class_ 108), (1, u "java/lang/Enum$EnumDesc"), (2, .class_ 112), (0, u "java/lang/constant/Constable"), (0, .class_ 114), (0, u "java/lang/Comparable"), (0, .class_ 116), (0, u "java/io/Serializable")] 87

/-- java/lang/Enum -/
def k5 : Class := { plain "java/lang/Enum" (some 0) with
  accessFlags := 1057
  interfaces := #[2, 3, 4]
  cf := some (fileOf pool5 2 #[.nestMembers #[106]] #[] 1057 12 #[111, 113, 115] #[{ accessFlags := 18, nameIndex := 5, descriptorIndex := 6, attributes := #[] }, { accessFlags := 18, nameIndex := 9, descriptorIndex := 10, attributes := #[] }, { accessFlags := 2, nameIndex := 19, descriptorIndex := 10, attributes := #[] }])
  fields := #[{ name := "name", type := (.object "java/lang/String"), accessFlags := 18, slot := 0, constantValue := 0 }, { name := "ordinal", type := .int, accessFlags := 18, slot := 1, constantValue := 0 }, { name := "hash", type := .int, accessFlags := 2, slot := 2, constantValue := 0 }]
  methods := #[]
  instanceTypes := #[(.object "java/lang/String"), .int, .int]
  staticTypes := #[]
  resolved := Array.replicate 204 none
  statics := none }

def pool6 : Array CpInfo := pool [(1, .class_ 2), (0, u "com/example/quadloom/quadloom/sparql/SparqlParser$Block"), (2, u "INSERT_DATA"), (0, u "Lcom/example/quadloom/quadloom/sparql/SparqlParser$Block;"), (0, .fieldref 1 8), (0, .nameAndType 9 6), (0, u "DELETE_DATA"), (2, u "INSERT_TEMPLATE"), (0, .fieldref 1 14), (0, .nameAndType 15 6), (0, u "DELETE_TEMPLATE"), (0, .fieldref 1 17), (0, .nameAndType 18 6), (0, u "DELETE_WHERE"), (2, u "WHERE"), (2, u "$VALUES"), (0, u "[Lcom/example/quadloom/quadloom/sparql/SparqlParser$Block;"), (6, .class_ 34), (1, u "java/lang/Enum"), (8, u "description"), (0, u "Ljava/lang/String;"), (3, u "()Z"), (34, u "refusesBlankNodes"), (6, .class_ 91), (0, u "com/example/quadloom/quadloom/sparql/SparqlParser")] 2

def k6c0 : Code := { maxStack := 2, maxLocals := 1, code := prog_141_method_6_code, exceptionTable := #[], attributes := #[] }
def k6m0 : Method := { name := "refusesBlankNodes", desc := "()Z", sig := { parameters := [], returnType := some .boolean }, accessFlags := 0, code := some k6c0 }
/-- com/example/quadloom/quadloom/sparql/SparqlParser$Block -/
def k6 : Class := { plain "com/example/quadloom/quadloom/sparql/SparqlParser$Block" (some 5) with
  accessFlags := 16433
  interfaces := #[]
  cf := some (fileOf pool6 1 #[.nestHost 90] #[{ accessFlags := 0, nameIndex := 83, descriptorIndex := 48, attributes := #[] }] 16433 32 #[] #[{ accessFlags := 16409, nameIndex := 5, descriptorIndex := 6, attributes := #[] }, { accessFlags := 16409, nameIndex := 9, descriptorIndex := 6, attributes := #[] }, { accessFlags := 16409, nameIndex := 12, descriptorIndex := 6, attributes := #[] }, { accessFlags := 16409, nameIndex := 15, descriptorIndex := 6, attributes := #[] }, { accessFlags := 16409, nameIndex := 18, descriptorIndex := 6, attributes := #[] }, { accessFlags := 16409, nameIndex := 21, descriptorIndex := 6, attributes := #[] }, { accessFlags := 16, nameIndex := 43, descriptorIndex := 44, attributes := #[] }, { accessFlags := 4122, nameIndex := 24, descriptorIndex := 25, attributes := #[] }])
  fields := #[{ name := "INSERT_DATA", type := (.object "com/example/quadloom/quadloom/sparql/SparqlParser$Block"), accessFlags := 16409, slot := 0, constantValue := 0 }, { name := "DELETE_DATA", type := (.object "com/example/quadloom/quadloom/sparql/SparqlParser$Block"), accessFlags := 16409, slot := 1, constantValue := 0 }, { name := "INSERT_TEMPLATE", type := (.object "com/example/quadloom/quadloom/sparql/SparqlParser$Block"), accessFlags := 16409, slot := 2, constantValue := 0 }, { name := "DELETE_TEMPLATE", type := (.object "com/example/quadloom/quadloom/sparql/SparqlParser$Block"), accessFlags := 16409, slot := 3, constantValue := 0 }, { name := "DELETE_WHERE", type := (.object "com/example/quadloom/quadloom/sparql/SparqlParser$Block"), accessFlags := 16409, slot := 4, constantValue := 0 }, { name := "WHERE", type := (.object "com/example/quadloom/quadloom/sparql/SparqlParser$Block"), accessFlags := 16409, slot := 5, constantValue := 0 }, { name := "description", type := (.object "java/lang/String"), accessFlags := 16, slot := 3, constantValue := 0 }, { name := "$VALUES", type := (.array (.object "com/example/quadloom/quadloom/sparql/SparqlParser$Block")), accessFlags := 4122, slot := 6, constantValue := 0 }]
  methods := #[k6m0]
  instanceTypes := #[(.object "java/lang/String"), .int, .int, (.object "java/lang/String")]
  staticTypes := #[(.object "com/example/quadloom/quadloom/sparql/SparqlParser$Block"), (.object "com/example/quadloom/quadloom/sparql/SparqlParser$Block"), (.object "com/example/quadloom/quadloom/sparql/SparqlParser$Block"), (.object "com/example/quadloom/quadloom/sparql/SparqlParser$Block"), (.object "com/example/quadloom/quadloom/sparql/SparqlParser$Block"), (.object "com/example/quadloom/quadloom/sparql/SparqlParser$Block"), (.array (.object "com/example/quadloom/quadloom/sparql/SparqlParser$Block"))]
  resolved := Array.replicate 94 none
  statics := some 0 }

def pool7 : Array CpInfo := pool [(1, u "java/lang/Cloneable"), (0, .class_ 1), (0, u "java/lang/Object"), (0, .class_ 3)] 3

/-- java/lang/Cloneable -/
def k7 : Class := { plain "java/lang/Cloneable" (some 0) with
  accessFlags := 1537
  interfaces := #[]
  cf := some (fileOf pool7 2 #[] #[] 1537 4 #[] #[])
  fields := #[]
  methods := #[]
  instanceTypes := #[]
  staticTypes := #[]
  resolved := Array.replicate 8 none
  statics := none }

/-- the primitive byte -/
def k8 : Class := { plain "byte" none with kind := .primitive 'B', accessFlags := 0x411 }
/-- [B -/
def k9 : Class := { plain "[B" (some 0) with kind := .array 8 .byte, interfaces := #[7, 4], accessFlags := 1041 }

/-- the primitive int -/
def k10 : Class := { plain "int" none with kind := .primitive 'I', accessFlags := 0x411 }
/-- [I -/
def k11 : Class := { plain "[I" (some 0) with kind := .array 10 .int, interfaces := #[7, 4], accessFlags := 1041 }

def heap : Heap := #[{ cls := 6, slots := #[.ref 1, .ref 2, .ref 3, .ref 4, .ref 5, .ref 6, .null], vm := .statics 6 },
  { cls := 6, slots := #[.null, .int 0, .int 0, .null], vm := .none },
  { cls := 6, slots := #[.null, .int 1, .int 0, .null], vm := .none },
  { cls := 6, slots := #[.null, .int 2, .int 0, .null], vm := .none },
  { cls := 6, slots := #[.null, .int 3, .int 0, .null], vm := .none },
  { cls := 6, slots := #[.null, .int 4, .int 0, .null], vm := .none },
  { cls := 6, slots := #[.null, .int 5, .int 0, .null], vm := .none }]
def classes : Array Class := #[k0, k1, k2, k3, k4, k5, k6, k7, k8, k9, k10, k11]
def interned : List (Array UInt16 × Addr) := []
def slotsUsed : Nat := 31
def theMethod : MethodId := ⟨1, 1⟩
def args0 : Array Value := #[.int 5]
def aboutOver (below : List Frame) : State where
  vm := { classes := classes, interned := interned.toArray }
  heap := heap
  slotsUsed := slotsUsed
  threads := #[{ frames := .invoking theMethod args0 :: below }]
def below0 : List Frame := [.native { method := ⟨0, 0⟩, args := #[] }]
def about1 : State := aboutOver below0
def p0 : Program := .bare "" "" ""
def e0 : Env := launch0.env 0 0 0
theorem w_frames : about1.frames = Frame.invoking theMethod args0 :: below0 := rfl
set_option maxRecDepth 65536 in
theorem w_args : argsFit about1.vm theMethod args0 = true := by decide +kernel
set_option maxRecDepth 65536 in
theorem w_heap : heapFits about1 = true := by decide +kernel
set_option maxRecDepth 65536 in
theorem w_runnable : about1.curStatus? = some .runnable := by decide +kernel
set_option maxRecDepth 65536 in
theorem w_alone : about1.alone = true := by decide +kernel
set_option maxRecDepth 65536 in
theorem w_named : about1.methodNamed? x = some theMethod := by decide +kernel
set_option maxRecDepth 65536 in
theorem w_hears : about1.hears theMethod below0 = true := by decide +kernel
set_option maxRecDepth 65536 in
theorem w_ripe : about1.ripe theMethod args0 below0 = true := by decide +kernel
theorem w_running : about1.status = .running := rfl
set_option maxRecDepth 65536 in
theorem w_room : about1.hasRoom e0.platform room_1 = true :=
  launch0.hasRoom_least _ room_1 (by decide +kernel) (by decide +kernel) (by decide +kernel) (by decide +kernel) (by decide +kernel) (by decide +kernel)
theorem allAtoms_all (ts : List Jvm.Cond) (a : Array Jvm.Value) (st : Jvm.State) : (allAtoms ts).before a st = ts.all (fun c => c.before a st) := by
  induction ts with
  | nil => rfl
  | cons c t ih =>
    show (Jvm.Cond.and c (allAtoms t)).before a st = _
    rw [Jvm.Cond.before_and, ih, List.all_cons]
def words1 : List Jvm.Cond := Jvm.Cond.code x code maxLocals ret :: tables_1
/-- a 'code' word, met by the world's own term for the bytes: nothing is compared byte by byte -/
theorem code_word {y : MethodName} {bytes : ByteArray} {mx : Nat} {rt : Option FieldType} {a : Array Value} {s : State} {m : MethodId} {meth : Method} {c : Code} (h1 : s.methodNamed? y = some m) (h2 : s.vm.method? m = some meth) (h3 : meth.code = some c) (h4 : c.code = bytes)
    (h5 : (c.maxLocals == mx && c.exceptionTable.isEmpty && decide (c.maxStack ≤ mostOperands) && decide (meth.sig.returnType = rt) && !meth.locks && decide (parseMethodDescriptor y.desc = some meth.sig)) = true) : (Jvm.Cond.code y bytes mx rt).before a s = true := by
  simp only [Bool.and_eq_true, beq_iff_eq, Bool.not_eq_true', decide_eq_true_eq] at h5
  obtain ⟨⟨⟨⟨⟨g1, g2⟩, g3⟩, g4⟩, g5⟩, g6⟩ := h5
  simp [Cond.before, Cond.holds, Cond.value, h1, h2, h3, h4, g1, g2, g3, g4, g5, g6]
def isCode : Jvm.Cond → Bool
  | .code _ _ _ _ => true
  | _ => false
theorem all_split {L : List Jvm.Cond} {P : Jvm.Cond → Bool} (h1 : L.all (fun c => isCode c || P c) = true) (h2 : ∀ c ∈ L.filter isCode, P c = true) : L.all P = true := by
  refine List.all_eq_true.mpr fun c hc => ?_
  have h := List.all_eq_true.mp h1 c hc
  rcases Bool.eq_false_or_eq_true (isCode c) with hi | hi
  · exact h2 c (List.mem_filter.mpr ⟨hc, hi⟩)
  · simpa [hi] using h
set_option maxRecDepth 65536 in
theorem w_c0 : (Jvm.Cond.code x code maxLocals ret).before args0 about1 = true := code_word (m := ⟨1, 1⟩) (meth := k1m1) (c := k1c1) (by decide +kernel) rfl rfl rfl (by decide +kernel)
set_option maxRecDepth 65536 in
theorem w_c1 : (Jvm.Cond.code ({ cls := "com/example/quadloom/quadloom/sparql/SparqlParser$Block", name := "refusesBlankNodes", desc := "()Z" } : Jvm.MethodName) prog_141_method_6_code (1 : Nat) (Option.some Jvm.ClassFile.FieldType.boolean)).before args0 about1 = true := code_word (m := ⟨6, 0⟩) (meth := k6m0) (c := k6c0) (by decide +kernel) rfl rfl rfl (by decide +kernel)
def codes1 : List Jvm.Cond := [Jvm.Cond.code x code maxLocals ret, Jvm.Cond.code ({ cls := "com/example/quadloom/quadloom/sparql/SparqlParser$Block", name := "refusesBlankNodes", desc := "()Z" } : Jvm.MethodName) prog_141_method_6_code (1 : Nat) (Option.some Jvm.ClassFile.FieldType.boolean)]
set_option maxRecDepth 65536 in
theorem codes_eq : words1.filter isCode = codes1 := rfl
theorem w_codes : ∀ c ∈ words1.filter isCode, c.before args0 about1 = true := by
  rw [codes_eq]
  intro c hc
  simp only [codes1, List.mem_cons, List.not_mem_nil, or_false] at hc
  rcases hc with rfl | rfl
  · exact w_c0
  · exact w_c1
set_option maxRecDepth 65536 in
theorem w_t1 : words1.all (fun c => isCode c || c.before args0 about1) = true := by decide +kernel
theorem w_tables : (allAtoms (Jvm.Cond.code x code maxLocals ret :: tables_1)).before args0 about1 = true := by
  rw [allAtoms_all]
  show words1.all (fun c => c.before args0 about1) = true
  refine all_split ?_ w_codes
  rw [w_t1]
set_option maxRecDepth 65536 in
theorem w_case : (Jvm.Cond.and given_1 narrow_1).before args0 about1 = true := by decide +kernel
theorem w_applies : (headSpec (Jvm.Cond.code x code maxLocals ret :: tables_1) room_1).applies x e0.platform about1 = true :=
  (Spec.applies_iff w_frames).mpr ⟨w_running, w_runnable, w_alone, w_named, w_hears, w_ripe, w_room, w_tables⟩
theorem atStart : AtStart classFile x code maxLocals ret World_1 tables_1 room_1 Calls_1 rest_1 Pre_1 launch0 p0 e0 about1 theMethod args0 below0 :=
  ⟨lists_1, trivial, launch0.admits_env _ _ _, launch0.least_env, fairChoices_fair.cas, fairChoices_fair.clock, w_frames, w_args, w_heap, w_applies, trivial, trivial, w_case⟩
end start1
theorem witness_1 : WitnessClaimed_1 := ⟨start1.p0, start1.e0, start1.about1, start1.theMethod, start1.args0, start1.below0, start1.atStart⟩
end Jvm.Pilot.@@N@@
