import JvmDerived
import JvmDerived.Pilot.@@N@@Statement
import JvmDerived.Pilot.@@N@@Code
set_option linter.unusedVariables false
set_option linter.unusedSimpArgs false
namespace Jvm.OwnKit
open Sem ClassFile Op Lib Jvm.Stand Jvm.Free Jvm.LawKit Jvm.RoadKit
/-- from this pc, with these locals, this stack and this heap, the body returns and Q holds -/
def Go (Z : State) (l : Launch) (R : Room) (B : ByteArray) (ml : Nat) (own : String) (rt : Option FieldType) (mn : String) (pc : Nat) (Ls : Array Slot) (st : List Value) (h : Heap) (L : List Loc) (k n : Nat) (Q : Option Value → Heap → List Loc → Prop) : Prop :=
  ∀ (p : Program) (e : Env) (s : State) (m : MethodId) (args : Array Value) (below : List Frame) (meth : Method) (c : Code) (T : State),
    Stand p l e R s m args below meth c T L k n → p.tables.exec = Jvm.exec → Z.Warmed39 s.vm → c.code = B → c.maxLocals = ml → s.vm.findClass own = some m.cls → meth.sig.returnType = rt → meth.locks = false → meth.name = mn → T.heap = h →
    ∃ s₂ o, Steps p.tables e below (T.setTop (mkF m pc Ls st)) s₂ ∧ s₂.status = .running ∧ Ended s₂ below o ∧ ∃ v L', o = .returned v ∧ Q v s₂.heap L' ∧ FrameEnd s o s₂ L' R.cells R.slots
/-- a callee's contract at these arguments and this heap -/
def Con (l : Launch) (Z : State) (y : MethodName) (B : ByteArray) (ml : Nat) (rt : Option FieldType) (R : Room) (ws : List Jvm.Cond) (as' : Array Value) (h0 : Heap) (Q : Option Value → Heap → List Loc → Prop) : Prop :=
  MetFree l y (head1 (Jvm.Cond.code y B ml rt :: ws) R) (fun a U => a = as' ∧ Z.Warmed39 U.vm ∧ U.heap = h0) (fun _ _ _ _ _ => True) (fun _ U o U' => ∃ v L, o = .returned v ∧ Q v U'.heap L ∧ FrameEnd U o U' L R.cells R.slots)
/-- the law returns true, and nothing old was written -/
def LawQ (n0 : Nat) (v : Option Value) (_ : Heap) (L : List Loc) : Prop := v = some (.int (1 : Int32)) ∧ Fr n0 L
/-- it returns v0, and nothing was written or made -/
def PQ (h0 : Heap) (v0 : Option Value) (v : Option Value) (h : Heap) (L : List Loc) : Prop := v = v0 ∧ h = h0 ∧ L = []
theorem con_of {l : Launch} {Z : State} {y : MethodName} {B : ByteArray} {ml : Nat} {rt : Option FieldType} {R : Room} {ws : List Jvm.Cond} {as' : Array Value} {h0 : Heap} {Q : Option Value → Heap → List Loc → Prop} {Ls : Array Slot}
    (hp : plainFor y = true) (ef : ∀ m, entryFrame m as' ml = mkF m 0 Ls []) (g : Go Z l R B ml y.cls rt y.name 0 Ls [] h0 [] 0 0 Q) : Con l Z y B ml rt R ws as' h0 Q := by
  refine MetFree.of_bodySF hp hisR ?_
  intro p e s m args below meth c s₁ Bd hml0 hP hK
  obtain ⟨rfl, hZ, hh⟩ := hP
  have e0 : s₁.heap = h0 := by rw [← hh, Bd.state]; rfl
  obtain ⟨s₂, o, h1, h2⟩ := g p e s m _ below meth c s₁ (Stand.of_body Bd) Bd.exec hZ Bd.bytes hml0 (findClass_of_methodNamed Bd.named) Bd.returns (BodyLoose.notSynchronized Bd) (name_of_methodNamed Bd.named Bd.method).1 e0
  exact ⟨s₂, o, castTop (ef m) h1, h2⟩
theorem Con.mono {l : Launch} {Z : State} {y : MethodName} {B : ByteArray} {ml : Nat} {rt : Option FieldType} {R : Room} {ws : List Jvm.Cond} {as' : Array Value} {h0 : Heap} {Q Q' : Option Value → Heap → List Loc → Prop} (c : Con l Z y B ml rt R ws as' h0 Q) (q : ∀ v h L, Q v h L → Q' v h L) : Con l Z y B ml rt R ws as' h0 Q' := by
  intro p e ha hc hk s m args below hf happ hP hK
  obtain ⟨n, o, h1, h2, h3, v, L, h4, h5, h6⟩ := c p e ha hc hk s m args below hf happ hP hK
  exact ⟨n, o, h1, h2, h3, v, L, h4, q _ _ _ h5, h6⟩
theorem fr_one {q : Nat} {L : List Loc} {a : Addr} {sl : Nat} (N : Fr q L) (g : q ≤ a) : Fr q (L ++ [⟨a, sl⟩]) := N.app fun y hy => by cases List.mem_singleton.mp hy; exact g
section Rules
variable {Z : State} {l : Launch} {R : Room} {B : ByteArray} {ml : Nat} {own : String} {rt : Option FieldType} {mn : String} {pc pc' : Nat} {Ls : Array Slot} {h : Heap} {L : List Loc} {k n : Nat} {Q : Option Value → Heap → List Loc → Prop} {rest : List Value}
theorem Go.mono {st : List Value} {Q' : Option Value → Heap → List Loc → Prop} (q : ∀ v h L, Q v h L → Q' v h L) (g : Go Z l R B ml own rt mn pc Ls st h L k n Q) : Go Z l R B ml own rt mn pc Ls st h L k n Q' := by
  intro p e s m args below meth c T X hx hZ hby hml hown hrt hlk hnm eT
  obtain ⟨s₂, o, h1, h2, h3, v, L', h4, h5, h6⟩ := g p e s m args below meth c T X hx hZ hby hml hown hrt hlk hnm eT
  exact ⟨s₂, o, h1, h2, h3, v, L', h4, q _ _ _ h5, h6⟩
theorem Go.pure {st st' : List Value} {Ls' : Array Slot} (step : ∀ (p : Program) (e : Env) (below : List Frame) (T : State) (m : MethodId) (c : Code) (target : State), At T m c below → p.tables.exec = Jvm.exec → c.code = B → Steps p.tables e below (T.setTop (mkF m pc' Ls' st')) target → Steps p.tables e below (T.setTop (mkF m pc Ls st)) target)
    (g : Go Z l R B ml own rt mn pc' Ls' st' h L k n Q) : Go Z l R B ml own rt mn pc Ls st h L k n Q := by
  intro p e s m args below meth c T X hx hZ hby hml hown hrt hlk hnm eT
  obtain ⟨s₂, o, h1, h2⟩ := g p e s m args below meth c T X hx hZ hby hml hown hrt hlk hnm eT
  exact ⟨s₂, o, step p e below T m c s₂ X.here hx hby h1, h2⟩
theorem Go.iload {st : List Value} {i : Nat} {v : Int32} (hd : decode B pc = .ok (.iload i, 2)) (hp : pc + 2 = pc') (hl : Ls[i]? = some (.val (.int v))) (g : Go Z l R B ml own rt mn pc' Ls (.int v :: st) h L k n Q) : Go Z l R B ml own rt mn pc Ls st h L k n Q := by
  subst hp; exact Go.pure (fun p e below T m c t hA hx hB hr => XS.iload hA hx rfl (hb hB hd) hl hr) g
theorem Go.iloadN {st : List Value} {i : Fin 4} {v : Int32} (hd : decode B pc = .ok (.iload_n i, 1)) (hp : pc + 1 = pc') (hl : Ls[i.val]? = some (.val (.int v))) (g : Go Z l R B ml own rt mn pc' Ls (.int v :: st) h L k n Q) : Go Z l R B ml own rt mn pc Ls st h L k n Q := by
  subst hp; exact Go.pure (fun p e below T m c t hA hx hB hr => XS.iloadN hA hx rfl (hb hB hd) hl hr) g
theorem Go.lload {st : List Value} {i : Nat} {v : Int64} (hd : decode B pc = .ok (.lload i, 2)) (hp : pc + 2 = pc') (hl : Ls[i]? = some (.val (.long v))) (g : Go Z l R B ml own rt mn pc' Ls (.long v :: st) h L k n Q) : Go Z l R B ml own rt mn pc Ls st h L k n Q := by
  subst hp; exact Go.pure (fun p e below T m c t hA hx hB hr => XS.lload hA hx rfl (hb hB hd) hl hr) g
theorem Go.lloadN {st : List Value} {i : Fin 4} {v : Int64} (hd : decode B pc = .ok (.lload_n i, 1)) (hp : pc + 1 = pc') (hl : Ls[i.val]? = some (.val (.long v))) (g : Go Z l R B ml own rt mn pc' Ls (.long v :: st) h L k n Q) : Go Z l R B ml own rt mn pc Ls st h L k n Q := by
  subst hp; exact Go.pure (fun p e below T m c t hA hx hB hr => XS.lloadN hA hx rfl (hb hB hd) hl hr) g
theorem Go.aload {st : List Value} {i : Nat} {v : Value} (hd : decode B pc = .ok (.aload i, 2)) (hp : pc + 2 = pc') (hl : Ls[i]? = some (.val v)) (hv : v.isRef = true) (g : Go Z l R B ml own rt mn pc' Ls (v :: st) h L k n Q) : Go Z l R B ml own rt mn pc Ls st h L k n Q := by
  subst hp; exact Go.pure (fun p e below T m c t hA hx hB hr => XS.aload hA hx rfl (hb hB hd) hl hv hr) g
theorem Go.aloadN {st : List Value} {i : Fin 4} {v : Value} (hd : decode B pc = .ok (.aload_n i, 1)) (hp : pc + 1 = pc') (hl : Ls[i.val]? = some (.val v)) (hv : v.isRef = true) (g : Go Z l R B ml own rt mn pc' Ls (v :: st) h L k n Q) : Go Z l R B ml own rt mn pc Ls st h L k n Q := by
  subst hp; exact Go.pure (fun p e below T m c t hA hx hB hr => XS.aloadN hA hx rfl (hb hB hd) hl hv hr) g
theorem Go.istore {i : Nat} {v : Int32} {Ls' : Array Slot} (hd : decode B pc = .ok (.istore i, 2)) (hp : pc + 2 = pc') (hl : storeLocals Ls i (.int v) = some Ls') (g : Go Z l R B ml own rt mn pc' Ls' rest h L k n Q) : Go Z l R B ml own rt mn pc Ls (.int v :: rest) h L k n Q := by
  subst hp; exact Go.pure (fun p e below T m c t hA hx hB hr => XS.istore hA hx rfl (hb hB hd) rfl hl hr) g
theorem Go.istoreN {i : Fin 4} {v : Int32} {Ls' : Array Slot} (hd : decode B pc = .ok (.istore_n i, 1)) (hp : pc + 1 = pc') (hl : storeLocals Ls i.val (.int v) = some Ls') (g : Go Z l R B ml own rt mn pc' Ls' rest h L k n Q) : Go Z l R B ml own rt mn pc Ls (.int v :: rest) h L k n Q := by
  subst hp; exact Go.pure (fun p e below T m c t hA hx hB hr => XS.istoreN hA hx rfl (hb hB hd) rfl hl hr) g
theorem Go.lstore {i : Nat} {v : Int64} {Ls' : Array Slot} (hd : decode B pc = .ok (.lstore i, 2)) (hp : pc + 2 = pc') (hl : storeLocals Ls i (.long v) = some Ls') (g : Go Z l R B ml own rt mn pc' Ls' rest h L k n Q) : Go Z l R B ml own rt mn pc Ls (.long v :: rest) h L k n Q := by
  subst hp; exact Go.pure (fun p e below T m c t hA hx hB hr => XS.lstore hA hx rfl (hb hB hd) rfl hl hr) g
theorem Go.lstoreN {i : Fin 4} {v : Int64} {Ls' : Array Slot} (hd : decode B pc = .ok (.lstore_n i, 1)) (hp : pc + 1 = pc') (hl : storeLocals Ls i.val (.long v) = some Ls') (g : Go Z l R B ml own rt mn pc' Ls' rest h L k n Q) : Go Z l R B ml own rt mn pc Ls (.long v :: rest) h L k n Q := by
  subst hp; exact Go.pure (fun p e below T m c t hA hx hB hr => XS.lstoreN hA hx rfl (hb hB hd) rfl hl hr) g
theorem Go.astore {i : Nat} {v : Value} {Ls' : Array Slot} (hd : decode B pc = .ok (.astore i, 2)) (hp : pc + 2 = pc') (hv : v.isRef = true) (hl : storeLocals Ls i v = some Ls') (g : Go Z l R B ml own rt mn pc' Ls' rest h L k n Q) : Go Z l R B ml own rt mn pc Ls (v :: rest) h L k n Q := by
  subst hp; exact Go.pure (fun p e below T m c t hA hx hB hr => XS.astore hA hx rfl (hb hB hd) rfl hv hl hr) g
theorem Go.astoreN {i : Fin 4} {v : Value} {Ls' : Array Slot} (hd : decode B pc = .ok (.astore_n i, 1)) (hp : pc + 1 = pc') (hv : v.isRef = true) (hl : storeLocals Ls i.val v = some Ls') (g : Go Z l R B ml own rt mn pc' Ls' rest h L k n Q) : Go Z l R B ml own rt mn pc Ls (v :: rest) h L k n Q := by
  subst hp; exact Go.pure (fun p e below T m c t hA hx hB hr => XS.astoreN hA hx rfl (hb hB hd) rfl hv hl hr) g
theorem Go.iinc {st : List Value} {i : Nat} {cst : Int} {x z : Int32} {Ls' : Array Slot} (hd : decode B pc = .ok (.iinc i cst, 3)) (hp : pc + 3 = pc') (hv : Ls[i]? = some (.val (.int x))) (hz : x + Int32.ofInt cst = z) (hl : storeLocals Ls i (.int z) = some Ls') (g : Go Z l R B ml own rt mn pc' Ls' st h L k n Q) : Go Z l R B ml own rt mn pc Ls st h L k n Q := by
  subst hz; subst hp; exact Go.pure (fun p e below T m c t hA hx hB hr => XS.iinc hA hx rfl (hb hB hd) hv hl hr) g
theorem Go.iconst {st : List Value} {i : Int} {z : Int32} (hd : decode B pc = .ok (.iconst i, 1)) (hp : pc + 1 = pc') (hz : Int32.ofInt i = z) (g : Go Z l R B ml own rt mn pc' Ls (.int z :: st) h L k n Q) : Go Z l R B ml own rt mn pc Ls st h L k n Q := by
  subst hz; subst hp; exact Go.pure (fun p e below T m c t hA hx hB hr => XS.iconst hA hx rfl (hb hB hd) hr) g
theorem Go.bipush {st : List Value} {i : Int} {z : Int32} (hd : decode B pc = .ok (.bipush i, 2)) (hp : pc + 2 = pc') (hz : (Int8.ofInt i).toInt32 = z) (g : Go Z l R B ml own rt mn pc' Ls (.int z :: st) h L k n Q) : Go Z l R B ml own rt mn pc Ls st h L k n Q := by
  subst hz; subst hp; exact Go.pure (fun p e below T m c t hA hx hB hr => XS.bipush hA hx rfl (hb hB hd) hr) g
theorem Go.sipush {st : List Value} {i : Int} {z : Int32} (hd : decode B pc = .ok (.sipush i, 3)) (hp : pc + 3 = pc') (hz : (Int16.ofInt i).toInt32 = z) (g : Go Z l R B ml own rt mn pc' Ls (.int z :: st) h L k n Q) : Go Z l R B ml own rt mn pc Ls st h L k n Q := by
  subst hz; subst hp; exact Go.pure (fun p e below T m c t hA hx hB hr => XS.sipush hA hx rfl (hb hB hd) hr) g
theorem Go.lconst {st : List Value} {i : Fin 2} {z : Int64} (hd : decode B pc = .ok (.lconst i, 1)) (hp : pc + 1 = pc') (hz : Int64.ofNat i = z) (g : Go Z l R B ml own rt mn pc' Ls (.long z :: st) h L k n Q) : Go Z l R B ml own rt mn pc Ls st h L k n Q := by
  subst hz; subst hp; exact Go.pure (fun p e below T m c t hA hx hB hr => XS.lconst hA hx rfl (hb hB hd) hr) g
theorem Go.aconstNull {st : List Value} (hd : decode B pc = .ok (.aconst_null, 1)) (hp : pc + 1 = pc') (g : Go Z l R B ml own rt mn pc' Ls (.null :: st) h L k n Q) : Go Z l R B ml own rt mn pc Ls st h L k n Q := by
  subst hp; exact Go.pure (fun p e below T m c t hA hx hB hr => XS.aconstNull hA hx rfl (hb hB hd) hr) g
theorem Go.iadd {x y z : Int32} (hd : decode B pc = .ok (.iadd, 1)) (hp : pc + 1 = pc') (hz : x + y = z) (g : Go Z l R B ml own rt mn pc' Ls (.int z :: rest) h L k n Q) : Go Z l R B ml own rt mn pc Ls (.int y :: .int x :: rest) h L k n Q := by
  subst hz; subst hp; exact Go.pure (fun p e below T m c t hA hx hB hr => XS.iadd hA hx rfl (hb hB hd) rfl hr) g
theorem Go.ladd {x y z : Int64} (hd : decode B pc = .ok (.ladd, 1)) (hp : pc + 1 = pc') (hz : x + y = z) (g : Go Z l R B ml own rt mn pc' Ls (.long z :: rest) h L k n Q) : Go Z l R B ml own rt mn pc Ls (.long y :: .long x :: rest) h L k n Q := by
  subst hz; subst hp; exact Go.pure (fun p e below T m c t hA hx hB hr => XS.ladd hA hx rfl (hb hB hd) rfl hr) g
theorem Go.isub {x y z : Int32} (hd : decode B pc = .ok (.isub, 1)) (hp : pc + 1 = pc') (hz : x - y = z) (g : Go Z l R B ml own rt mn pc' Ls (.int z :: rest) h L k n Q) : Go Z l R B ml own rt mn pc Ls (.int y :: .int x :: rest) h L k n Q := by
  subst hz; subst hp; exact Go.pure (fun p e below T m c t hA hx hB hr => XS.isub hA hx rfl (hb hB hd) rfl hr) g
theorem Go.lsub {x y z : Int64} (hd : decode B pc = .ok (.lsub, 1)) (hp : pc + 1 = pc') (hz : x - y = z) (g : Go Z l R B ml own rt mn pc' Ls (.long z :: rest) h L k n Q) : Go Z l R B ml own rt mn pc Ls (.long y :: .long x :: rest) h L k n Q := by
  subst hz; subst hp; exact Go.pure (fun p e below T m c t hA hx hB hr => XS.lsub hA hx rfl (hb hB hd) rfl hr) g
theorem Go.imul {x y z : Int32} (hd : decode B pc = .ok (.imul, 1)) (hp : pc + 1 = pc') (hz : x * y = z) (g : Go Z l R B ml own rt mn pc' Ls (.int z :: rest) h L k n Q) : Go Z l R B ml own rt mn pc Ls (.int y :: .int x :: rest) h L k n Q := by
  subst hz; subst hp; exact Go.pure (fun p e below T m c t hA hx hB hr => XS.imul hA hx rfl (hb hB hd) rfl hr) g
theorem Go.lmul {x y z : Int64} (hd : decode B pc = .ok (.lmul, 1)) (hp : pc + 1 = pc') (hz : x * y = z) (g : Go Z l R B ml own rt mn pc' Ls (.long z :: rest) h L k n Q) : Go Z l R B ml own rt mn pc Ls (.long y :: .long x :: rest) h L k n Q := by
  subst hz; subst hp; exact Go.pure (fun p e below T m c t hA hx hB hr => XS.lmul hA hx rfl (hb hB hd) rfl hr) g
theorem Go.iand {x y z : Int32} (hd : decode B pc = .ok (.iand, 1)) (hp : pc + 1 = pc') (hz : x &&& y = z) (g : Go Z l R B ml own rt mn pc' Ls (.int z :: rest) h L k n Q) : Go Z l R B ml own rt mn pc Ls (.int y :: .int x :: rest) h L k n Q := by
  subst hz; subst hp; exact Go.pure (fun p e below T m c t hA hx hB hr => XS.iand hA hx rfl (hb hB hd) rfl hr) g
theorem Go.land {x y z : Int64} (hd : decode B pc = .ok (.land, 1)) (hp : pc + 1 = pc') (hz : x &&& y = z) (g : Go Z l R B ml own rt mn pc' Ls (.long z :: rest) h L k n Q) : Go Z l R B ml own rt mn pc Ls (.long y :: .long x :: rest) h L k n Q := by
  subst hz; subst hp; exact Go.pure (fun p e below T m c t hA hx hB hr => XS.land hA hx rfl (hb hB hd) rfl hr) g
theorem Go.ior {x y z : Int32} (hd : decode B pc = .ok (.ior, 1)) (hp : pc + 1 = pc') (hz : x ||| y = z) (g : Go Z l R B ml own rt mn pc' Ls (.int z :: rest) h L k n Q) : Go Z l R B ml own rt mn pc Ls (.int y :: .int x :: rest) h L k n Q := by
  subst hz; subst hp; exact Go.pure (fun p e below T m c t hA hx hB hr => XS.ior hA hx rfl (hb hB hd) rfl hr) g
theorem Go.lor {x y z : Int64} (hd : decode B pc = .ok (.lor, 1)) (hp : pc + 1 = pc') (hz : x ||| y = z) (g : Go Z l R B ml own rt mn pc' Ls (.long z :: rest) h L k n Q) : Go Z l R B ml own rt mn pc Ls (.long y :: .long x :: rest) h L k n Q := by
  subst hz; subst hp; exact Go.pure (fun p e below T m c t hA hx hB hr => XS.lor hA hx rfl (hb hB hd) rfl hr) g
theorem Go.ixor {x y z : Int32} (hd : decode B pc = .ok (.ixor, 1)) (hp : pc + 1 = pc') (hz : x ^^^ y = z) (g : Go Z l R B ml own rt mn pc' Ls (.int z :: rest) h L k n Q) : Go Z l R B ml own rt mn pc Ls (.int y :: .int x :: rest) h L k n Q := by
  subst hz; subst hp; exact Go.pure (fun p e below T m c t hA hx hB hr => XS.ixor hA hx rfl (hb hB hd) rfl hr) g
theorem Go.lxor {x y z : Int64} (hd : decode B pc = .ok (.lxor, 1)) (hp : pc + 1 = pc') (hz : x ^^^ y = z) (g : Go Z l R B ml own rt mn pc' Ls (.long z :: rest) h L k n Q) : Go Z l R B ml own rt mn pc Ls (.long y :: .long x :: rest) h L k n Q := by
  subst hz; subst hp; exact Go.pure (fun p e below T m c t hA hx hB hr => XS.lxor hA hx rfl (hb hB hd) rfl hr) g
theorem Go.idiv {x y z : Int32} (hd : decode B pc = .ok (.idiv, 1)) (hp : pc + 1 = pc') (hy : y ≠ 0) (hz : x / y = z) (g : Go Z l R B ml own rt mn pc' Ls (.int z :: rest) h L k n Q) : Go Z l R B ml own rt mn pc Ls (.int y :: .int x :: rest) h L k n Q := by
  subst hz; subst hp; exact Go.pure (fun p e below T m c t hA hx hB hr => XS.idiv hA hx rfl (hb hB hd) rfl hy hr) g
theorem Go.ldiv {x y z : Int64} (hd : decode B pc = .ok (.ldiv, 1)) (hp : pc + 1 = pc') (hy : y ≠ 0) (hz : x / y = z) (g : Go Z l R B ml own rt mn pc' Ls (.long z :: rest) h L k n Q) : Go Z l R B ml own rt mn pc Ls (.long y :: .long x :: rest) h L k n Q := by
  subst hz; subst hp; exact Go.pure (fun p e below T m c t hA hx hB hr => XS.ldiv hA hx rfl (hb hB hd) rfl hy hr) g
theorem Go.irem {x y z : Int32} (hd : decode B pc = .ok (.irem, 1)) (hp : pc + 1 = pc') (hy : y ≠ 0) (hz : x % y = z) (g : Go Z l R B ml own rt mn pc' Ls (.int z :: rest) h L k n Q) : Go Z l R B ml own rt mn pc Ls (.int y :: .int x :: rest) h L k n Q := by
  subst hz; subst hp; exact Go.pure (fun p e below T m c t hA hx hB hr => XS.irem hA hx rfl (hb hB hd) rfl hy (by rw [show x - x / y * y = x % y from irem_eq_mod x y]; exact hr)) g
theorem Go.lrem {x y z : Int64} (hd : decode B pc = .ok (.lrem, 1)) (hp : pc + 1 = pc') (hy : y ≠ 0) (hz : x % y = z) (g : Go Z l R B ml own rt mn pc' Ls (.long z :: rest) h L k n Q) : Go Z l R B ml own rt mn pc Ls (.long y :: .long x :: rest) h L k n Q := by
  subst hz; subst hp; exact Go.pure (fun p e below T m c t hA hx hB hr => XS.lrem hA hx rfl (hb hB hd) rfl hy (by rw [show x - x / y * y = x % y from lrem_mod x y]; exact hr)) g
theorem Go.ishl {x y z : Int32} (hd : decode B pc = .ok (.ishl, 1)) (hp : pc + 1 = pc') (hz : x <<< (y &&& 31) = z) (g : Go Z l R B ml own rt mn pc' Ls (.int z :: rest) h L k n Q) : Go Z l R B ml own rt mn pc Ls (.int y :: .int x :: rest) h L k n Q := by
  subst hz; subst hp; exact Go.pure (fun p e below T m c t hA hx hB hr => XS.ishl hA hx rfl (hb hB hd) rfl hr) g
theorem Go.ishr {x y z : Int32} (hd : decode B pc = .ok (.ishr, 1)) (hp : pc + 1 = pc') (hz : x >>> (y &&& 31) = z) (g : Go Z l R B ml own rt mn pc' Ls (.int z :: rest) h L k n Q) : Go Z l R B ml own rt mn pc Ls (.int y :: .int x :: rest) h L k n Q := by
  subst hz; subst hp; exact Go.pure (fun p e below T m c t hA hx hB hr => XS.ishr hA hx rfl (hb hB hd) rfl hr) g
theorem Go.iushr {x y z : Int32} (hd : decode B pc = .ok (.iushr, 1)) (hp : pc + 1 = pc') (hz : (x.toUInt32 >>> (y &&& 31).toUInt32).toInt32 = z) (g : Go Z l R B ml own rt mn pc' Ls (.int z :: rest) h L k n Q) : Go Z l R B ml own rt mn pc Ls (.int y :: .int x :: rest) h L k n Q := by
  subst hz; subst hp; exact Go.pure (fun p e below T m c t hA hx hB hr => XS.iushr hA hx rfl (hb hB hd) rfl hr) g
theorem Go.lshl {x z : Int64} {y : Int32} (hd : decode B pc = .ok (.lshl, 1)) (hp : pc + 1 = pc') (hz : x <<< (y &&& 0x3f).toInt64 = z) (g : Go Z l R B ml own rt mn pc' Ls (.long z :: rest) h L k n Q) : Go Z l R B ml own rt mn pc Ls (.int y :: .long x :: rest) h L k n Q := by
  subst hz; subst hp; exact Go.pure (fun p e below T m c t hA hx hB hr => XS.lshl hA hx rfl (hb hB hd) rfl hr) g
theorem Go.lshr {x z : Int64} {y : Int32} (hd : decode B pc = .ok (.lshr, 1)) (hp : pc + 1 = pc') (hz : x >>> (y &&& 0x3f).toInt64 = z) (g : Go Z l R B ml own rt mn pc' Ls (.long z :: rest) h L k n Q) : Go Z l R B ml own rt mn pc Ls (.int y :: .long x :: rest) h L k n Q := by
  subst hz; subst hp; exact Go.pure (fun p e below T m c t hA hx hB hr => XS.lshr hA hx rfl (hb hB hd) rfl hr) g
theorem Go.lushr {x z : Int64} {y : Int32} (hd : decode B pc = .ok (.lushr, 1)) (hp : pc + 1 = pc') (hz : (x.toUInt64 >>> (y &&& 0x3f).toInt64.toUInt64).toInt64 = z) (g : Go Z l R B ml own rt mn pc' Ls (.long z :: rest) h L k n Q) : Go Z l R B ml own rt mn pc Ls (.int y :: .long x :: rest) h L k n Q := by
  subst hz; subst hp; exact Go.pure (fun p e below T m c t hA hx hB hr => XS.lushr hA hx rfl (hb hB hd) rfl hr) g
theorem Go.ineg {x : Int32} {z : Int32} (hd : decode B pc = .ok (.ineg, 1)) (hp : pc + 1 = pc') (hz : -x = z) (g : Go Z l R B ml own rt mn pc' Ls (.int z :: rest) h L k n Q) : Go Z l R B ml own rt mn pc Ls (.int x :: rest) h L k n Q := by
  subst hz; subst hp; exact Go.pure (fun p e below T m c t hA hx hB hr => XS.ineg hA hx rfl (hb hB hd) rfl hr) g
theorem Go.lneg {x : Int64} {z : Int64} (hd : decode B pc = .ok (.lneg, 1)) (hp : pc + 1 = pc') (hz : -x = z) (g : Go Z l R B ml own rt mn pc' Ls (.long z :: rest) h L k n Q) : Go Z l R B ml own rt mn pc Ls (.long x :: rest) h L k n Q := by
  subst hz; subst hp; exact Go.pure (fun p e below T m c t hA hx hB hr => XS.lneg hA hx rfl (hb hB hd) rfl hr) g
theorem Go.i2l {x : Int32} {z : Int64} (hd : decode B pc = .ok (.i2l, 1)) (hp : pc + 1 = pc') (hz : x.toInt64 = z) (g : Go Z l R B ml own rt mn pc' Ls (.long z :: rest) h L k n Q) : Go Z l R B ml own rt mn pc Ls (.int x :: rest) h L k n Q := by
  subst hz; subst hp; exact Go.pure (fun p e below T m c t hA hx hB hr => XS.i2l hA hx rfl (hb hB hd) rfl hr) g
theorem Go.l2i {x : Int64} {z : Int32} (hd : decode B pc = .ok (.l2i, 1)) (hp : pc + 1 = pc') (hz : x.toInt32 = z) (g : Go Z l R B ml own rt mn pc' Ls (.int z :: rest) h L k n Q) : Go Z l R B ml own rt mn pc Ls (.long x :: rest) h L k n Q := by
  subst hz; subst hp; exact Go.pure (fun p e below T m c t hA hx hB hr => XS.l2i hA hx rfl (hb hB hd) rfl hr) g
theorem Go.i2b {x : Int32} {z : Int32} (hd : decode B pc = .ok (.i2b, 1)) (hp : pc + 1 = pc') (hz : x.toInt8.toInt32 = z) (g : Go Z l R B ml own rt mn pc' Ls (.int z :: rest) h L k n Q) : Go Z l R B ml own rt mn pc Ls (.int x :: rest) h L k n Q := by
  subst hz; subst hp; exact Go.pure (fun p e below T m c t hA hx hB hr => XS.i2b hA hx rfl (hb hB hd) rfl hr) g
theorem Go.i2s {x : Int32} {z : Int32} (hd : decode B pc = .ok (.i2s, 1)) (hp : pc + 1 = pc') (hz : x.toInt16.toInt32 = z) (g : Go Z l R B ml own rt mn pc' Ls (.int z :: rest) h L k n Q) : Go Z l R B ml own rt mn pc Ls (.int x :: rest) h L k n Q := by
  subst hz; subst hp; exact Go.pure (fun p e below T m c t hA hx hB hr => XS.i2s hA hx rfl (hb hB hd) rfl hr) g
theorem Go.i2c {x : Int32} {z : Int32} (hd : decode B pc = .ok (.i2c, 1)) (hp : pc + 1 = pc') (hz : x.toUInt32.toUInt16.toUInt32.toInt32 = z) (g : Go Z l R B ml own rt mn pc' Ls (.int z :: rest) h L k n Q) : Go Z l R B ml own rt mn pc Ls (.int x :: rest) h L k n Q := by
  subst hz; subst hp; exact Go.pure (fun p e below T m c t hA hx hB hr => XS.i2c hA hx rfl (hb hB hd) rfl hr) g
theorem Go.dup {x : Value} (hd : decode B pc = .ok (.dup, 1)) (hp : pc + 1 = pc') (hc : x.category = 1) (g : Go Z l R B ml own rt mn pc' Ls (x :: x :: rest) h L k n Q) : Go Z l R B ml own rt mn pc Ls (x :: rest) h L k n Q := by
  subst hp; exact Go.pure (fun p e below T m c t hA hx hB hr => XS.dup hA hx rfl (hb hB hd) rfl hc hr) g
theorem Go.dupX1 {x y : Value} (hd : decode B pc = .ok (.dup_x1, 1)) (hp : pc + 1 = pc') (hc : x.category = 1) (hc' : y.category = 1) (g : Go Z l R B ml own rt mn pc' Ls (x :: y :: x :: rest) h L k n Q) : Go Z l R B ml own rt mn pc Ls (x :: y :: rest) h L k n Q := by
  subst hp; exact Go.pure (fun p e below T m c t hA hx hB hr => XS.dupX1 hA hx rfl (hb hB hd) rfl hc hc' hr) g
theorem Go.pop {x : Value} (hd : decode B pc = .ok (.pop, 1)) (hp : pc + 1 = pc') (hc : x.category = 1) (g : Go Z l R B ml own rt mn pc' Ls rest h L k n Q) : Go Z l R B ml own rt mn pc Ls (x :: rest) h L k n Q := by
  subst hp; exact Go.pure (fun p e below T m c t hA hx hB hr => XS.pop hA hx rfl (hb hB hd) rfl hc hr) g
theorem Go.dup2 {x y : Value} (hd : decode B pc = .ok (.dup2, 1)) (hp : pc + 1 = pc') (hc : x.category = 1) (hc' : y.category = 1) (g : Go Z l R B ml own rt mn pc' Ls (x :: y :: x :: y :: rest) h L k n Q) : Go Z l R B ml own rt mn pc Ls (x :: y :: rest) h L k n Q := by
  subst hp; exact Go.pure (fun p e below T m c t hA hx hB hr => XT.dup2 hA hx rfl (hb hB hd) rfl hc hc' hr) g
theorem Go.dup2L {x : Int64} (hd : decode B pc = .ok (.dup2, 1)) (hp : pc + 1 = pc') (g : Go Z l R B ml own rt mn pc' Ls (.long x :: .long x :: rest) h L k n Q) : Go Z l R B ml own rt mn pc Ls (.long x :: rest) h L k n Q := by
  subst hp; exact Go.pure (fun p e below T m c t hA hx hB hr => XT.dup2L hA hx rfl (hb hB hd) rfl hr) g
theorem Go.goto {st : List Value} {o : Int} (hd : decode B pc = .ok (.goto o, 3)) (hp : (pc : Int) + o = (pc' : Int)) (g : Go Z l R B ml own rt mn pc' Ls st h L k n Q) : Go Z l R B ml own rt mn pc Ls st h L k n Q :=
  Go.pure (fun p e below T m c t hA hx hB hr => XS.goto hA hx rfl rfl (hb hB hd) (by rw [hp]; omega) (by rw [hp]; rfl) hr) g
/-- what a branch says when it is taken, and when it isn't -/
def cT : ClassFile.Cond → Int → Int → Prop
  | .lt, x, y => x < y | .ge, x, y => ¬ x < y | .gt, x, y => y < x | .le, x, y => ¬ y < x | .eq, x, y => x = y | .ne, x, y => ¬ x = y
def cF : ClassFile.Cond → Int → Int → Prop
  | .lt, x, y => ¬ x < y | .ge, x, y => x < y | .gt, x, y => ¬ y < x | .le, x, y => y < x | .eq, x, y => ¬ x = y | .ne, x, y => x = y
theorem icT {cd : ClassFile.Cond} {x y : Int32} (q : cT cd x.toInt y.toInt) : if_icmp.holds cd x y = true := by
  cases cd <;> simp only [cT] at q <;> first
    | exact (teq (Int32.toInt_inj.mp q)).1
    | exact (feq (fun r => q (congrArg _ r))).2
    | exact (tlt (Int32.lt_iff_toInt_lt.mpr q)).1
    | exact (flt (fun r => q (Int32.lt_iff_toInt_lt.mp r))).2.1
    | exact (tlt (Int32.lt_iff_toInt_lt.mpr q)).2.2.1
    | exact (flt (fun r => q (Int32.lt_iff_toInt_lt.mp r))).2.2.2
theorem icF {cd : ClassFile.Cond} {x y : Int32} (q : cF cd x.toInt y.toInt) : if_icmp.holds cd x y = false := by
  cases cd <;> simp only [cF] at q <;> first
    | exact (feq (fun r => q (congrArg _ r))).1
    | exact (teq (Int32.toInt_inj.mp q)).2
    | exact (flt (fun r => q (Int32.lt_iff_toInt_lt.mp r))).1
    | exact (tlt (Int32.lt_iff_toInt_lt.mpr q)).2.1
    | exact (flt (fun r => q (Int32.lt_iff_toInt_lt.mp r))).2.2.1
    | exact (tlt (Int32.lt_iff_toInt_lt.mpr q)).2.2.2
theorem lcT {cd : ClassFile.Cond} {x y : Int64} (q : cT cd x.toInt y.toInt) : ifCond.holds cd (lcmpW x y) = true := by
  rw [if0]; refine icT ?_
  have := c_lcmp x y
  have z0 : (0 : Int32).toInt = 0 := rfl
  cases cd <;> simp only [cT, z0] at q ⊢ <;> omega
theorem lcF {cd : ClassFile.Cond} {x y : Int64} (q : cF cd x.toInt y.toInt) : ifCond.holds cd (lcmpW x y) = false := by
  rw [if0]; refine icF ?_
  have := c_lcmp x y
  have z0 : (0 : Int32).toInt = 0 := rfl
  cases cd <;> simp only [cF, z0] at q ⊢ <;> omega
theorem Go.icmpT {cd : ClassFile.Cond} {x y : Int32} {X Y : Int} {o : Int} (hd : decode B pc = .ok (.if_icmp cd o, 3)) (hp : (pc : Int) + o = (pc' : Int)) (hX : x.toInt = X) (hY : y.toInt = Y) (hc : cT cd X Y) (g : Go Z l R B ml own rt mn pc' Ls rest h L k n Q) : Go Z l R B ml own rt mn pc Ls (.int y :: .int x :: rest) h L k n Q := by
  subst hX hY
  exact Go.pure (fun p e below T m c t hA hx hB hr => XS.icmpYes hA hx rfl rfl (hb hB hd) rfl (icT hc) (by rw [hp]; omega) (by rw [hp]; rfl) hr) g
theorem Go.icmpF {cd : ClassFile.Cond} {x y : Int32} {X Y : Int} {o : Int} (hd : decode B pc = .ok (.if_icmp cd o, 3)) (hp : pc + 3 = pc') (hX : x.toInt = X) (hY : y.toInt = Y) (hc : cF cd X Y) (g : Go Z l R B ml own rt mn pc' Ls rest h L k n Q) : Go Z l R B ml own rt mn pc Ls (.int y :: .int x :: rest) h L k n Q := by
  subst hX hY hp
  exact Go.pure (fun p e below T m c t hA hx hB hr => XS.icmpNo hA hx rfl (hb hB hd) rfl (icF hc) hr) g
theorem Go.ifT {cd : ClassFile.Cond} {x : Int32} {X : Int} {o : Int} (hd : decode B pc = .ok (.ifCond cd o, 3)) (hp : (pc : Int) + o = (pc' : Int)) (hX : x.toInt = X) (hc : cT cd X 0) (g : Go Z l R B ml own rt mn pc' Ls rest h L k n Q) : Go Z l R B ml own rt mn pc Ls (.int x :: rest) h L k n Q := by
  subst hX
  exact Go.pure (fun p e below T m c t hA hx hB hr => XS.ifYes hA hx rfl rfl (hb hB hd) rfl ((if0 _ _).trans (icT hc)) (by rw [hp]; omega) (by rw [hp]; rfl) hr) g
theorem Go.ifF {cd : ClassFile.Cond} {x : Int32} {X : Int} {o : Int} (hd : decode B pc = .ok (.ifCond cd o, 3)) (hp : pc + 3 = pc') (hX : x.toInt = X) (hc : cF cd X 0) (g : Go Z l R B ml own rt mn pc' Ls rest h L k n Q) : Go Z l R B ml own rt mn pc Ls (.int x :: rest) h L k n Q := by
  subst hX hp
  exact Go.pure (fun p e below T m c t hA hx hB hr => XS.ifNo hA hx rfl (hb hB hd) rfl ((if0 _ _).trans (icF hc)) hr) g
/-- lcmp and the branch behind it, in one -/
theorem Go.lcmpT {cd : ClassFile.Cond} {x y : Int64} {X Y : Int} {o : Int} {pc1 : Nat} (hd : decode B pc = .ok (.lcmp, 1)) (hd' : decode B pc1 = .ok (.ifCond cd o, 3)) (hp1 : pc + 1 = pc1) (hp : (pc1 : Int) + o = (pc' : Int)) (hX : x.toInt = X) (hY : y.toInt = Y) (hc : cT cd X Y) (g : Go Z l R B ml own rt mn pc' Ls rest h L k n Q) : Go Z l R B ml own rt mn pc Ls (.long y :: .long x :: rest) h L k n Q := by
  subst hX hY hp1
  exact Go.pure (fun p e below T m c t hA hx hB hr => XS.lcmp hA hx rfl (hb hB hd) rfl hr) (Go.pure (pc := pc + 1) (fun p e below T m c t hA hx hB hr => XS.ifYes hA hx rfl rfl (hb hB hd') rfl (lcT hc) (by rw [hp]; omega) (by rw [hp]; rfl) hr) g)
theorem Go.lcmpF {cd : ClassFile.Cond} {x y : Int64} {X Y : Int} {o : Int} {pc1 : Nat} (hd : decode B pc = .ok (.lcmp, 1)) (hd' : decode B pc1 = .ok (.ifCond cd o, 3)) (hp1 : pc + 1 = pc1) (hp : pc1 + 3 = pc') (hX : x.toInt = X) (hY : y.toInt = Y) (hc : cF cd X Y) (g : Go Z l R B ml own rt mn pc' Ls rest h L k n Q) : Go Z l R B ml own rt mn pc Ls (.long y :: .long x :: rest) h L k n Q := by
  subst hX hY hp1 hp
  exact Go.pure (fun p e below T m c t hA hx hB hr => XS.lcmp hA hx rfl (hb hB hd) rfl hr) (Go.pure (pc := pc + 1) (fun p e below T m c t hA hx hB hr => XS.ifNo hA hx rfl (hb hB hd') rfl (lcF hc) hr) g)
/-- one step that asks where the walk stands -/
theorem Go.stand {st st' : List Value} {Ls' : Array Slot} (step : ∀ (p : Program) (e : Env) (s : State) (m : MethodId) (args : Array Value) (below : List Frame) (meth : Method) (c : Code) (T : State) (target : State), Stand p l e R s m args below meth c T L k n → p.tables.exec = Jvm.exec → Z.Warmed39 s.vm → c.code = B → s.vm.findClass own = some m.cls → T.heap = h →
      Steps p.tables e below (T.setTop (mkF m pc' Ls' st')) target → Steps p.tables e below (T.setTop (mkF m pc Ls st)) target)
    (g : Go Z l R B ml own rt mn pc' Ls' st' h L k n Q) : Go Z l R B ml own rt mn pc Ls st h L k n Q := by
  intro p e s m args below meth c T X hx hZ hby hml hown hrt hlk hnm eT
  obtain ⟨s₂, o, h1, h2⟩ := g p e s m args below meth c T X hx hZ hby hml hown hrt hlk hnm eT
  exact ⟨s₂, o, step p e s m args below meth c T s₂ X hx hZ hby hown eT h1, h2⟩
theorem Go.acmp {cd : ACond} {x y : Value} {o : Int} {same : Bool} (hd : decode B pc = .ok (.if_acmp cd o, 3)) (h1 : x.isRef = true) (h2 : y.isRef = true) (hq : decide (x = y) = same) (ho : 0 ≤ (pc : Int) + o) (hp : pc' = if acV cd same = true then ((pc : Int) + o).toNat else pc + 3) (g : Go Z l R B ml own rt mn pc' Ls rest h L k n Q) : Go Z l R B ml own rt mn pc Ls (y :: x :: rest) h L k n Q :=
  Go.stand (fun p e s m args below meth c T t X hx hZ hB hown eT hr => Jvm.RoadKit.acmp (g := mkF m pc Ls (y :: x :: rest)) X hx rfl h1 h2 (pc0 := pc) (pc' := pc') (same := same) rfl (hb hB hd) rfl hq ho hp hr) g
theorem Go.ldcI {a0 : Array Value} {st : List Value} {i : Nat} {v : Int32} (hd : decode B pc = .ok (.ldc i, 2)) (hp : pc + 2 = pc') (w : (Jvm.Cond.constant own i v).before a0 Z = true) (g : Go Z l R B ml own rt mn pc' Ls (.int v :: st) h L k n Q) : Go Z l R B ml own rt mn pc Ls st h L k n Q := by
  subst hp
  exact Go.stand (fun p e s m args below meth c T t X hx hZ hB hown eT hr => X.ldcInt hx hown (mvT hZ w) (g := mkF m pc Ls st) rfl (hb hB hd) _ hr) g
theorem Go.ldcF {a0 : Array Value} {st : List Value} {i : Nat} {v : UInt32} (hd : decode B pc = .ok (.ldc i, 2)) (hp : pc + 2 = pc') (w : (Jvm.Cond.constantFloat own i v).before a0 Z = true) (g : Go Z l R B ml own rt mn pc' Ls (.float v :: st) h L k n Q) : Go Z l R B ml own rt mn pc Ls st h L k n Q := by
  subst hp
  exact Go.stand (fun p e s m args below meth c T t X hx hZ hB hown eT hr => X.ldcFloatC hx hown (mvT hZ w) (g := mkF m pc Ls st) rfl (hb hB hd) _ hr) g
theorem Go.ldc2 {a0 : Array Value} {st : List Value} {i : Nat} {v : Int64} (hd : decode B pc = .ok (.ldc2_w i, 3)) (hp : pc + 3 = pc') (w : (Jvm.Cond.constantLong own i v).before a0 Z = true) (g : Go Z l R B ml own rt mn pc' Ls (.long v :: st) h L k n Q) : Go Z l R B ml own rt mn pc Ls st h L k n Q := by
  subst hp
  exact Go.stand (fun p e s m args below meth c T t X hx hZ hB hown eT hr => X.ldc2Long hx hown (mvT hZ w) (g := mkF m pc Ls st) rfl (hb hB hd) _ hr) g
theorem Go.retI {z : Int32} (hd : decode B pc = .ok (.ireturn, 1)) (hrt' : rt = some .int) (hk : k ≤ R.cells) (hn : n ≤ R.slots) (q : Q (some (.int z)) h L) : Go Z l R B ml own rt mn pc Ls ((.int z) :: rest) h L k n Q := by
  intro p e s m args below meth c T X hx hZ hby hml hown hrt hlk hnm eT
  obtain ⟨fs, hr, hrun, hended, hW, hsame⟩ := X.leave (v := some (.int z)) (fun r => by rw [hrt, hrt'] at r; cases r)
  refine ⟨_, _, retOut X hx (hrt.trans hrt') (show narrow .int (.int z) = .int z from rfl) (Or.inl ⟨rfl, Or.inl rfl, _, rfl⟩) (hb hby hd) hr, hrun, hended, _, _, rfl, ?_, ⟨_, rfl⟩, hW, hsame.mono hk hn⟩
  show Q _ T.heap _
  rw [eT]; exact q
theorem Go.retZ {z : Int32} (hd : decode B pc = .ok (.ireturn, 1)) (hrt' : rt = some .boolean) (hz : z = 0 ∨ z = 1) (hk : k ≤ R.cells) (hn : n ≤ R.slots) (q : Q (some (.int z)) h L) : Go Z l R B ml own rt mn pc Ls ((.int z) :: rest) h L k n Q := by
  intro p e s m args below meth c T X hx hZ hby hml hown hrt hlk hnm eT
  obtain ⟨fs, hr, hrun, hended, hW, hsame⟩ := X.leave (v := some (.int z)) (fun r => by rw [hrt, hrt'] at r; cases r)
  refine ⟨_, _, retOut X hx (hrt.trans hrt') (show narrow .boolean (.int z) = .int z by rcases hz with rfl | rfl <;> rfl) (Or.inl ⟨rfl, Or.inr (Or.inl rfl), _, rfl⟩) (hb hby hd) hr, hrun, hended, _, _, rfl, ?_, ⟨_, rfl⟩, hW, hsame.mono hk hn⟩
  show Q _ T.heap _
  rw [eT]; exact q
theorem Go.retB {z : Int32} (hd : decode B pc = .ok (.ireturn, 1)) (hrt' : rt = some .byte) (hz : z.toInt8.toInt32 = z) (hk : k ≤ R.cells) (hn : n ≤ R.slots) (q : Q (some (.int z)) h L) : Go Z l R B ml own rt mn pc Ls ((.int z) :: rest) h L k n Q := by
  intro p e s m args below meth c T X hx hZ hby hml hown hrt hlk hnm eT
  obtain ⟨fs, hr, hrun, hended, hW, hsame⟩ := X.leave (v := some (.int z)) (fun r => by rw [hrt, hrt'] at r; cases r)
  refine ⟨_, _, retOut X hx (hrt.trans hrt') (show narrow .byte (.int z) = .int z from congrArg Value.int hz) (Or.inl ⟨rfl, Or.inr (Or.inr (Or.inl rfl)), _, rfl⟩) (hb hby hd) hr, hrun, hended, _, _, rfl, ?_, ⟨_, rfl⟩, hW, hsame.mono hk hn⟩
  show Q _ T.heap _
  rw [eT]; exact q
theorem Go.retJ {z : Int64} (hd : decode B pc = .ok (.lreturn, 1)) (hrt' : rt = some .long) (hk : k ≤ R.cells) (hn : n ≤ R.slots) (q : Q (some (.long z)) h L) : Go Z l R B ml own rt mn pc Ls ((.long z) :: rest) h L k n Q := by
  intro p e s m args below meth c T X hx hZ hby hml hown hrt hlk hnm eT
  obtain ⟨fs, hr, hrun, hended, hW, hsame⟩ := X.leave (v := some (.long z)) (fun r => by rw [hrt, hrt'] at r; cases r)
  refine ⟨_, _, retOut X hx (hrt.trans hrt') (show narrow .long (.long z) = .long z from rfl) (Or.inr (Or.inl ⟨rfl, rfl, _, rfl⟩)) (hb hby hd) hr, hrun, hended, _, _, rfl, ?_, ⟨_, rfl⟩, hW, hsame.mono hk hn⟩
  show Q _ T.heap _
  rw [eT]; exact q
theorem Go.retA {z : Value} {t : FieldType} (hd : decode B pc = .ok (.areturn, 1)) (hrt' : rt = some t) (ht : t.isReference = true) (hz : z.isRef = true) (hk : k ≤ R.cells) (hn : n ≤ R.slots) (q : Q (some z) h L) : Go Z l R B ml own rt mn pc Ls (z :: rest) h L k n Q := by
  intro p e s m args below meth c T X hx hZ hby hml hown hrt hlk hnm eT
  obtain ⟨fs, hr, hrun, hended, hW, hsame⟩ := X.leave (v := some z) (fun r => by rw [hrt, hrt'] at r; cases r)
  refine ⟨_, _, retOut X hx (hrt.trans hrt') (show narrow t z = z by rcases ref_cases hz with rfl | ⟨a, rfl⟩ <;> cases t <;> first | rfl | (simp [FieldType.isReference] at ht)) (Or.inr (Or.inr (Or.inr (Or.inr ⟨rfl, ht, hz⟩)))) (hb hby hd) hr, hrun, hended, _, _, rfl, ?_, ⟨_, rfl⟩, hW, hsame.mono hk hn⟩
  show Q _ T.heap _
  rw [eT]; exact q
theorem Go.retV (hd : decode B pc = .ok (.return_, 1)) (hrt' : rt = none) (hk : k ≤ R.cells) (hn : n ≤ R.slots) (q : Q none h L) : Go Z l R B ml own rt mn pc Ls [] h L k n Q := by
  intro p e s m args below meth c T X hx hZ hby hml hown hrt hlk hnm eT
  obtain ⟨fs, hr, hrun, hended, hW, hsame⟩ := X.leave (v := none) (fun _ => rfl)
  refine ⟨_, _, X.returnOut hx (hrt.trans hrt') (hb hby hd) hr, hrun, hended, _, _, rfl, ?_, ⟨_, rfl⟩, hW, hsame.mono hk hn⟩
  show Q _ T.heap _
  rw [eT]; exact q
theorem sel_priv {a0 args : Array Value} {s : State} {y : MethodName} {kk : Nat} (hZ : Z.Warmed39 s.vm) (wi : (Jvm.Cond.instantiable y.cls kk).before a0 Z = true) (wp : (Jvm.Cond.privateMethod y).before a0 Z = true) (w2 : (Jvm.Cond.instanceMethod y).before a0 Z = true) (hy : y.cls ≠ "java/lang/invoke/MethodHandle" ∧ y.cls ≠ "java/lang/invoke/VarHandle") : (Jvm.Cond.selects y.cls y y).before args s = true := by
  have wi' : (Jvm.Cond.instantiable y.cls kk).before args s = true := mvT hZ wi
  obtain ⟨cI, kI, i1, i2, -, i4, -⟩ := Cond.instantiable_spec wi'
  exact selects_self_of_private i1 i2 (Bool.or_eq_false_iff.mp i4).1 (Cond.privateMethod_at (mvP hZ wp (args := #[]))) (mvT hZ w2) hy
theorem Go.callS {a0 : Array Value} {i : Nat} {y : MethodName} {B' : ByteArray} {ml' : Nat} {rt' : Option FieldType} {R' : Room} {Q' : Option Value → Heap → List Loc → Prop} {W : Nat} {argsL : List Value} {st : List Value} {ps : List FieldType} {r : Option FieldType}
    (hd : decode B pc = .ok (.invokestatic i, 3)) (hp : pc + 3 = pc') (w1 : (Jvm.Cond.methodLink own i y).before a0 Z = true) (w2 : (Jvm.Cond.static y).before a0 Z = true) (w3 : (Jvm.Cond.initialized y.cls).before a0 Z = true) (w4 : (Jvm.Cond.code y B' ml' rt').before a0 Z = true) (hy : y.cls ≠ "java/lang/invoke/MethodHandle" ∧ y.cls ≠ "java/lang/invoke/VarHandle")
    (con : Con l Z y B' ml' rt' R' [] argsL.toArray h Q') (hf : R'.frames + 1 ≤ R.frames) (hl : W + (ml' + 11) + R'.locals ≤ R.locals) {k' n' : Nat} (hc : k + R'.cells ≤ R.cells) (hn : n + R'.slots ≤ R.slots) (hk' : k + R'.cells = k') (hn' : n + R'.slots = n') (hsz : Ls.size = ml) (hpd : parseMethodDescriptor y.desc = some ⟨ps, r⟩) (hlen : argsL.length = ps.length) (hst : st = argsL.reverse ++ rest) (hW : (rest.map fun v => v.category).sum ≤ W)
    (g : ∀ v h' L' L'', (∀ q, Fr q L → Fr q L' → Fr q L'') → Q' v h' L' → Go Z l R B ml own rt mn pc' Ls (v.toList ++ rest) h' L'' k' n' Q) : Go Z l R B ml own rt mn pc Ls st h L k n Q := by
  subst hp hk' hn'
  intro p e s m args below meth c T X hx hZ hby hml hown hrt hlk hnm eT
  obtain ⟨v, _, ⟨U, ls, cc, sl⟩, -, X', ⟨Lc, hQ, l1, y1, z1⟩, stp⟩ := Jvm.LawKit.callS X hx (y := y) hown (mvT hZ w1) (mvT hZ w2) (mvT hZ w3) (mvT hZ w4) hy (backOf (W := W) con hZ w4 w3 hf hl) (g := mkF m pc Ls st) rfl (hsz.trans hml.symm) (argsL := argsL) (rest := rest) (lenOf hpd hlen) hst (by show 2 * 0 + _ ≤ _; omega) (hb hby hd) (fun _ _ => ⟨rfl, eT, hc, hn⟩)
  dsimp only [Pt.U, Pt.locs, Pt.cells, Pt.slots] at X' hQ l1 y1 z1 stp
  subst l1 y1 z1
  obtain ⟨s₂, o, h1, h2⟩ := g v U.heap Lc _ (fun q a b => a.app b) hQ p e s m args below meth c U X' hx hZ hby hml hown hrt hlk hnm rfl
  exact ⟨s₂, o, stp _ h1, h2⟩
theorem Go.callS0 {a0 : Array Value} {i : Nat} {y : MethodName} {B' : ByteArray} {ml' : Nat} {rt' : Option FieldType} {R' : Room} {v0 : Option Value} {W : Nat} {argsL : List Value} {st : List Value} {ps : List FieldType} {r : Option FieldType}
    (hd : decode B pc = .ok (.invokestatic i, 3)) (hp : pc + 3 = pc') (w1 : (Jvm.Cond.methodLink own i y).before a0 Z = true) (w2 : (Jvm.Cond.static y).before a0 Z = true) (w3 : (Jvm.Cond.initialized y.cls).before a0 Z = true) (w4 : (Jvm.Cond.code y B' ml' rt').before a0 Z = true) (hy : y.cls ≠ "java/lang/invoke/MethodHandle" ∧ y.cls ≠ "java/lang/invoke/VarHandle")
    (con : Con l Z y B' ml' rt' R' [] argsL.toArray h (PQ h v0)) (hf : R'.frames + 1 ≤ R.frames) (hl : W + (ml' + 11) + R'.locals ≤ R.locals) {st2 : List Value} (hs2 : v0.toList ++ rest = st2) (hc : R'.cells = 0) (hn : R'.slots = 0) (hk : k ≤ R.cells) (hn2 : n ≤ R.slots) (hsz : Ls.size = ml) (hpd : parseMethodDescriptor y.desc = some ⟨ps, r⟩) (hlen : argsL.length = ps.length) (hst : st = argsL.reverse ++ rest) (hW : (rest.map fun v => v.category).sum ≤ W)
    (g : Go Z l R B ml own rt mn pc' Ls st2 h L k n Q) : Go Z l R B ml own rt mn pc Ls st h L k n Q := by
  subst hp hs2
  intro p e s m args below meth c T X hx hZ hby hml hown hrt hlk hnm eT
  obtain ⟨v, _, ⟨U, ls, cc, sl⟩, -, X', ⟨Lc, hQ, l1, y1, z1⟩, stp⟩ := Jvm.LawKit.callS X hx (y := y) hown (mvT hZ w1) (mvT hZ w2) (mvT hZ w3) (mvT hZ w4) hy (backOf (W := W) con hZ w4 w3 hf hl) (g := mkF m pc Ls st) rfl (hsz.trans hml.symm) (argsL := argsL) (rest := rest) (lenOf hpd hlen) hst (by show 2 * 0 + _ ≤ _; omega) (hb hby hd) (fun _ _ => ⟨rfl, eT, (by rw [hc]; exact hk), (by rw [hn]; exact hn2)⟩)
  dsimp only [Pt.U, Pt.locs, Pt.cells, Pt.slots] at X' hQ l1 y1 z1 stp
  obtain ⟨q1, q2, q3⟩ := hQ
  rw [q3, List.append_nil] at l1
  rw [hc, Nat.add_zero] at y1
  rw [hn, Nat.add_zero] at z1
  subst l1 y1 z1
  rw [q1] at stp
  obtain ⟨s₂, o, h1, h2⟩ := g p e s m args below meth c U X' hx hZ hby hml hown hrt hlk hnm q2
  exact ⟨s₂, o, stp _ h1, h2⟩
theorem Go.callI {a0 : Array Value} {i : Nat} {y : MethodName} {B' : ByteArray} {ml' : Nat} {R' : Room} {Q' : Option Value → Heap → List Loc → Prop} {W : Nat} {a : Addr} {argsL : List Value} {st : List Value} {ps : List FieldType} {r : Option FieldType}
    (hd : decode B pc = .ok (.invokespecial i, 3)) (hp : pc + 3 = pc') (hy1 : y.name = "<init>") (w1 : (Jvm.Cond.methodLink own i y).before a0 Z = true) (w2 : (Jvm.Cond.instanceMethod y).before a0 Z = true) (w3 : (Jvm.Cond.initialized y.cls).before a0 Z = true) (w4 : (Jvm.Cond.code y B' ml' none).before a0 Z = true) (hy : y.cls ≠ "java/lang/invoke/MethodHandle" ∧ y.cls ≠ "java/lang/invoke/VarHandle")
    (con : Con l Z y B' ml' none R' [] (.ref a :: argsL).toArray h Q') (hf : R'.frames + 1 ≤ R.frames) (hl : W + (ml' + 11) + R'.locals ≤ R.locals) {k' n' : Nat} (hc : k + R'.cells ≤ R.cells) (hn : n + R'.slots ≤ R.slots) (hk' : k + R'.cells = k') (hn' : n + R'.slots = n') (hsz : Ls.size = ml) (hpd : parseMethodDescriptor y.desc = some ⟨ps, r⟩) (hlen : argsL.length = ps.length) (hst : st = argsL.reverse ++ .ref a :: rest) (hW : (rest.map fun v => v.category).sum ≤ W)
    (g : ∀ v h' L' L'', (∀ q, Fr q L → Fr q L' → Fr q L'') → Q' v h' L' → Go Z l R B ml own rt mn pc' Ls (v.toList ++ rest) h' L'' k' n' Q) : Go Z l R B ml own rt mn pc Ls st h L k n Q := by
  subst hp hk' hn'
  intro p e s m args below meth c T X hx hZ hby hml hown hrt hlk hnm eT
  obtain ⟨v, _, ⟨U, ls, cc, sl⟩, -, X', ⟨Lc, hQ, l1, y1, z1⟩, stp⟩ := X.specialBack hx (y := y) hy1 hown (mvT hZ w1) (mvT hZ w2) (mvT hZ w4) hy (backOf (W := W) con hZ w4 w3 hf hl) (g := mkF m pc Ls st) rfl (hsz.trans hml.symm) (Steps.refl _) (a := a) (argsL := argsL) (rest := rest) (lenOf hpd hlen) hst (by show 2 * 0 + _ ≤ _; omega) (hb hby hd) (fun _ _ => ⟨rfl, eT, hc, hn⟩)
  dsimp only [Pt.U, Pt.locs, Pt.cells, Pt.slots] at X' hQ l1 y1 z1 stp
  subst l1 y1 z1
  obtain ⟨s₂, o, h1, h2⟩ := g v U.heap Lc _ (fun q a b => a.app b) hQ p e s m args below meth c U X' hx hZ hby hml hown hrt hlk hnm rfl
  exact ⟨s₂, o, stp.trans h1, h2⟩
theorem Go.callI0 {a0 : Array Value} {i : Nat} {y : MethodName} {B' : ByteArray} {ml' : Nat} {R' : Room} {v0 : Option Value} {W : Nat} {a : Addr} {argsL : List Value} {st : List Value} {ps : List FieldType} {r : Option FieldType}
    (hd : decode B pc = .ok (.invokespecial i, 3)) (hp : pc + 3 = pc') (hy1 : y.name = "<init>") (w1 : (Jvm.Cond.methodLink own i y).before a0 Z = true) (w2 : (Jvm.Cond.instanceMethod y).before a0 Z = true) (w3 : (Jvm.Cond.initialized y.cls).before a0 Z = true) (w4 : (Jvm.Cond.code y B' ml' none).before a0 Z = true) (hy : y.cls ≠ "java/lang/invoke/MethodHandle" ∧ y.cls ≠ "java/lang/invoke/VarHandle")
    (con : Con l Z y B' ml' none R' [] (.ref a :: argsL).toArray h (PQ h v0)) (hf : R'.frames + 1 ≤ R.frames) (hl : W + (ml' + 11) + R'.locals ≤ R.locals) {st2 : List Value} (hs2 : v0.toList ++ rest = st2) (hc : R'.cells = 0) (hn : R'.slots = 0) (hk : k ≤ R.cells) (hn2 : n ≤ R.slots) (hsz : Ls.size = ml) (hpd : parseMethodDescriptor y.desc = some ⟨ps, r⟩) (hlen : argsL.length = ps.length) (hst : st = argsL.reverse ++ .ref a :: rest) (hW : (rest.map fun v => v.category).sum ≤ W)
    (g : Go Z l R B ml own rt mn pc' Ls st2 h L k n Q) : Go Z l R B ml own rt mn pc Ls st h L k n Q := by
  subst hp hs2
  intro p e s m args below meth c T X hx hZ hby hml hown hrt hlk hnm eT
  obtain ⟨v, _, ⟨U, ls, cc, sl⟩, -, X', ⟨Lc, hQ, l1, y1, z1⟩, stp⟩ := X.specialBack hx (y := y) hy1 hown (mvT hZ w1) (mvT hZ w2) (mvT hZ w4) hy (backOf (W := W) con hZ w4 w3 hf hl) (g := mkF m pc Ls st) rfl (hsz.trans hml.symm) (Steps.refl _) (a := a) (argsL := argsL) (rest := rest) (lenOf hpd hlen) hst (by show 2 * 0 + _ ≤ _; omega) (hb hby hd) (fun _ _ => ⟨rfl, eT, (by rw [hc]; exact hk), (by rw [hn]; exact hn2)⟩)
  dsimp only [Pt.U, Pt.locs, Pt.cells, Pt.slots] at X' hQ l1 y1 z1 stp
  obtain ⟨q1, q2, q3⟩ := hQ
  rw [q3, List.append_nil] at l1
  rw [hc, Nat.add_zero] at y1
  rw [hn, Nat.add_zero] at z1
  subst l1 y1 z1
  rw [q1] at stp
  obtain ⟨s₂, o, h1, h2⟩ := g p e s m args below meth c U X' hx hZ hby hml hown hrt hlk hnm q2
  exact ⟨s₂, o, stp.trans h1, h2⟩
theorem Go.callV {a0 : Array Value} {i : Nat} {C : String} {y z : MethodName} {B' : ByteArray} {ml' : Nat} {rt' : Option FieldType} {R' : Room} {Q' : Option Value → Heap → List Loc → Prop} {W : Nat} {a : Addr} {argsL : List Value} {st : List Value} {ps : List FieldType} {r : Option FieldType}
    (hd : decode B pc = .ok (.invokevirtual i, 3)) (hp : pc + 3 = pc') (w1 : (Jvm.Cond.methodLink own i y).before a0 Z = true) (w2 : (Jvm.Cond.declares y).before a0 Z = true) (nf : ∀ (s : State) (args : Array Value), Z.Warmed39 s.vm → NotFace s y) (w5 : (Jvm.Cond.selects C y z).before a0 Z = true) (w6 : (Jvm.Cond.instanceMethod z).before a0 Z = true) (w3 : (Jvm.Cond.initialized z.cls).before a0 Z = true) (w4 : (Jvm.Cond.code z B' ml' rt').before a0 Z = true) (E : Exa Z h a C) (hy : y.cls ≠ "java/lang/invoke/MethodHandle" ∧ y.cls ≠ "java/lang/invoke/VarHandle")
    (con : Con l Z z B' ml' rt' R' [] (.ref a :: argsL).toArray h Q') (hf : R'.frames + 1 ≤ R.frames) (hl : W + (ml' + 11) + R'.locals ≤ R.locals) {k' n' : Nat} (hc : k + R'.cells ≤ R.cells) (hn : n + R'.slots ≤ R.slots) (hk' : k + R'.cells = k') (hn' : n + R'.slots = n') (hsz : Ls.size = ml) (hpd : parseMethodDescriptor y.desc = some ⟨ps, r⟩) (hlen : argsL.length = ps.length) (hst : st = argsL.reverse ++ .ref a :: rest) (hW : (rest.map fun v => v.category).sum ≤ W)
    (g : ∀ v h' L' L'', (∀ q, Fr q L → Fr q L' → Fr q L'') → Q' v h' L' → Go Z l R B ml own rt mn pc' Ls (v.toList ++ rest) h' L'' k' n' Q) : Go Z l R B ml own rt mn pc Ls st h L k n Q := by
  subst hp hk' hn'
  intro p e s m args below meth c T X hx hZ hby hml hown hrt hlk hnm eT
  obtain ⟨cq, kq, qa, qb, qc⟩ := isOf hZ eT E
  obtain ⟨v, _, ⟨U, ls, cc, sl⟩, -, X', ⟨Lc, hQ, l1, y1, z1⟩, stp⟩ := X.virtualBack hx (y := y) (z := z) hown (mvT hZ w1) (mvT hZ w2) (nf s args hZ) (mvT hZ w5) (mvT hZ w6) hy (backOf (W := W) con hZ w4 w3 hf hl) qa qc (g := mkF m pc Ls st) rfl (hsz.trans hml.symm) (Steps.refl _) (argsL := argsL) (rest := rest) (lenOf hpd hlen) hst (by show 2 * 0 + _ ≤ _; omega) (hb hby hd) (fun _ _ => ⟨rfl, eT, hc, hn⟩)
  dsimp only [Pt.U, Pt.locs, Pt.cells, Pt.slots] at X' hQ l1 y1 z1 stp
  subst l1 y1 z1
  obtain ⟨s₂, o, h1, h2⟩ := g v U.heap Lc _ (fun q a b => a.app b) hQ p e s m args below meth c U X' hx hZ hby hml hown hrt hlk hnm rfl
  exact ⟨s₂, o, stp.trans h1, h2⟩
theorem Go.callV0 {a0 : Array Value} {i : Nat} {C : String} {y z : MethodName} {B' : ByteArray} {ml' : Nat} {rt' : Option FieldType} {R' : Room} {v0 : Option Value} {W : Nat} {a : Addr} {argsL : List Value} {st : List Value} {ps : List FieldType} {r : Option FieldType}
    (hd : decode B pc = .ok (.invokevirtual i, 3)) (hp : pc + 3 = pc') (w1 : (Jvm.Cond.methodLink own i y).before a0 Z = true) (w2 : (Jvm.Cond.declares y).before a0 Z = true) (nf : ∀ (s : State) (args : Array Value), Z.Warmed39 s.vm → NotFace s y) (w5 : (Jvm.Cond.selects C y z).before a0 Z = true) (w6 : (Jvm.Cond.instanceMethod z).before a0 Z = true) (w3 : (Jvm.Cond.initialized z.cls).before a0 Z = true) (w4 : (Jvm.Cond.code z B' ml' rt').before a0 Z = true) (E : Exa Z h a C) (hy : y.cls ≠ "java/lang/invoke/MethodHandle" ∧ y.cls ≠ "java/lang/invoke/VarHandle")
    (con : Con l Z z B' ml' rt' R' [] (.ref a :: argsL).toArray h (PQ h v0)) (hf : R'.frames + 1 ≤ R.frames) (hl : W + (ml' + 11) + R'.locals ≤ R.locals) {st2 : List Value} (hs2 : v0.toList ++ rest = st2) (hc : R'.cells = 0) (hn : R'.slots = 0) (hk : k ≤ R.cells) (hn2 : n ≤ R.slots) (hsz : Ls.size = ml) (hpd : parseMethodDescriptor y.desc = some ⟨ps, r⟩) (hlen : argsL.length = ps.length) (hst : st = argsL.reverse ++ .ref a :: rest) (hW : (rest.map fun v => v.category).sum ≤ W)
    (g : Go Z l R B ml own rt mn pc' Ls st2 h L k n Q) : Go Z l R B ml own rt mn pc Ls st h L k n Q := by
  subst hp hs2
  intro p e s m args below meth c T X hx hZ hby hml hown hrt hlk hnm eT
  obtain ⟨cq, kq, qa, qb, qc⟩ := isOf hZ eT E
  obtain ⟨v, _, ⟨U, ls, cc, sl⟩, -, X', ⟨Lc, hQ, l1, y1, z1⟩, stp⟩ := X.virtualBack hx (y := y) (z := z) hown (mvT hZ w1) (mvT hZ w2) (nf s args hZ) (mvT hZ w5) (mvT hZ w6) hy (backOf (W := W) con hZ w4 w3 hf hl) qa qc (g := mkF m pc Ls st) rfl (hsz.trans hml.symm) (Steps.refl _) (argsL := argsL) (rest := rest) (lenOf hpd hlen) hst (by show 2 * 0 + _ ≤ _; omega) (hb hby hd) (fun _ _ => ⟨rfl, eT, (by rw [hc]; exact hk), (by rw [hn]; exact hn2)⟩)
  dsimp only [Pt.U, Pt.locs, Pt.cells, Pt.slots] at X' hQ l1 y1 z1 stp
  obtain ⟨q1, q2, q3⟩ := hQ
  rw [q3, List.append_nil] at l1
  rw [hc, Nat.add_zero] at y1
  rw [hn, Nat.add_zero] at z1
  subst l1 y1 z1
  rw [q1] at stp
  obtain ⟨s₂, o, h1, h2⟩ := g p e s m args below meth c U X' hx hZ hby hml hown hrt hlk hnm q2
  exact ⟨s₂, o, stp.trans h1, h2⟩
theorem Go.callP {a0 : Array Value} {i : Nat} {C : String} {kk : Nat} {y : MethodName} {B' : ByteArray} {ml' : Nat} {rt' : Option FieldType} {R' : Room} {Q' : Option Value → Heap → List Loc → Prop} {W : Nat} {a : Addr} {argsL : List Value} {st : List Value} {ps : List FieldType} {r : Option FieldType}
    (hd : decode B pc = .ok (.invokevirtual i, 3)) (hp : pc + 3 = pc') (w1 : (Jvm.Cond.methodLink own i y).before a0 Z = true) (w2 : (Jvm.Cond.instanceMethod y).before a0 Z = true) (w5 : (Jvm.Cond.instantiable y.cls kk).before a0 Z = true) (w6 : (Jvm.Cond.privateMethod y).before a0 Z = true) (w3 : (Jvm.Cond.initialized y.cls).before a0 Z = true) (w4 : (Jvm.Cond.code y B' ml' rt').before a0 Z = true) (E : Exa Z h a C) (hy : y.cls ≠ "java/lang/invoke/MethodHandle" ∧ y.cls ≠ "java/lang/invoke/VarHandle")
    (con : Con l Z y B' ml' rt' R' [] (.ref a :: argsL).toArray h Q') (hf : R'.frames + 1 ≤ R.frames) (hl : W + (ml' + 11) + R'.locals ≤ R.locals) {k' n' : Nat} (hc : k + R'.cells ≤ R.cells) (hn : n + R'.slots ≤ R.slots) (hk' : k + R'.cells = k') (hn' : n + R'.slots = n') (hsz : Ls.size = ml) (hpd : parseMethodDescriptor y.desc = some ⟨ps, r⟩) (hlen : argsL.length = ps.length) (hst : st = argsL.reverse ++ .ref a :: rest) (hW : (rest.map fun v => v.category).sum ≤ W)
    (g : ∀ v h' L' L'', (∀ q, Fr q L → Fr q L' → Fr q L'') → Q' v h' L' → Go Z l R B ml own rt mn pc' Ls (v.toList ++ rest) h' L'' k' n' Q) : Go Z l R B ml own rt mn pc Ls st h L k n Q := by
  subst hp hk' hn'
  intro p e s m args below meth c T X hx hZ hby hml hown hrt hlk hnm eT
  obtain ⟨cq, q1, q2⟩ := E.cell
  obtain ⟨v, _, ⟨U, ls, cc, sl⟩, -, X', ⟨Lc, hQ, l1, y1, z1⟩, stp⟩ := X.privateBack hx (y := y) hown (mvT hZ w1) (mvT hZ w2) (sel_priv hZ w5 w6 w2 hy) (Cond.privateMethod_at (mvP hZ w6 (args := #[]))) (mvT hZ w4) hy (backOf (W := W) con hZ w4 w3 hf hl) (g := mkF m pc Ls st) rfl (hsz.trans hml.symm) (Steps.refl _) (a := a) (by rw [eT]; exact q1) q2 (argsL := argsL) (rest := rest) (lenOf hpd hlen) hst (by show 2 * 0 + _ ≤ _; omega) (hb hby hd) (fun _ _ => ⟨rfl, eT, hc, hn⟩)
  dsimp only [Pt.U, Pt.locs, Pt.cells, Pt.slots] at X' hQ l1 y1 z1 stp
  subst l1 y1 z1
  obtain ⟨s₂, o, h1, h2⟩ := g v U.heap Lc _ (fun q a b => a.app b) hQ p e s m args below meth c U X' hx hZ hby hml hown hrt hlk hnm rfl
  exact ⟨s₂, o, stp.trans h1, h2⟩
theorem Go.callP0 {a0 : Array Value} {i : Nat} {C : String} {kk : Nat} {y : MethodName} {B' : ByteArray} {ml' : Nat} {rt' : Option FieldType} {R' : Room} {v0 : Option Value} {W : Nat} {a : Addr} {argsL : List Value} {st : List Value} {ps : List FieldType} {r : Option FieldType}
    (hd : decode B pc = .ok (.invokevirtual i, 3)) (hp : pc + 3 = pc') (w1 : (Jvm.Cond.methodLink own i y).before a0 Z = true) (w2 : (Jvm.Cond.instanceMethod y).before a0 Z = true) (w5 : (Jvm.Cond.instantiable y.cls kk).before a0 Z = true) (w6 : (Jvm.Cond.privateMethod y).before a0 Z = true) (w3 : (Jvm.Cond.initialized y.cls).before a0 Z = true) (w4 : (Jvm.Cond.code y B' ml' rt').before a0 Z = true) (E : Exa Z h a C) (hy : y.cls ≠ "java/lang/invoke/MethodHandle" ∧ y.cls ≠ "java/lang/invoke/VarHandle")
    (con : Con l Z y B' ml' rt' R' [] (.ref a :: argsL).toArray h (PQ h v0)) (hf : R'.frames + 1 ≤ R.frames) (hl : W + (ml' + 11) + R'.locals ≤ R.locals) {st2 : List Value} (hs2 : v0.toList ++ rest = st2) (hc : R'.cells = 0) (hn : R'.slots = 0) (hk : k ≤ R.cells) (hn2 : n ≤ R.slots) (hsz : Ls.size = ml) (hpd : parseMethodDescriptor y.desc = some ⟨ps, r⟩) (hlen : argsL.length = ps.length) (hst : st = argsL.reverse ++ .ref a :: rest) (hW : (rest.map fun v => v.category).sum ≤ W)
    (g : Go Z l R B ml own rt mn pc' Ls st2 h L k n Q) : Go Z l R B ml own rt mn pc Ls st h L k n Q := by
  subst hp hs2
  intro p e s m args below meth c T X hx hZ hby hml hown hrt hlk hnm eT
  obtain ⟨cq, q1, q2⟩ := E.cell
  obtain ⟨v, _, ⟨U, ls, cc, sl⟩, -, X', ⟨Lc, hQ, l1, y1, z1⟩, stp⟩ := X.privateBack hx (y := y) hown (mvT hZ w1) (mvT hZ w2) (sel_priv hZ w5 w6 w2 hy) (Cond.privateMethod_at (mvP hZ w6 (args := #[]))) (mvT hZ w4) hy (backOf (W := W) con hZ w4 w3 hf hl) (g := mkF m pc Ls st) rfl (hsz.trans hml.symm) (Steps.refl _) (a := a) (by rw [eT]; exact q1) q2 (argsL := argsL) (rest := rest) (lenOf hpd hlen) hst (by show 2 * 0 + _ ≤ _; omega) (hb hby hd) (fun _ _ => ⟨rfl, eT, (by rw [hc]; exact hk), (by rw [hn]; exact hn2)⟩)
  dsimp only [Pt.U, Pt.locs, Pt.cells, Pt.slots] at X' hQ l1 y1 z1 stp
  obtain ⟨q1, q2, q3⟩ := hQ
  rw [q3, List.append_nil] at l1
  rw [hc, Nat.add_zero] at y1
  rw [hn, Nat.add_zero] at z1
  subst l1 y1 z1
  rw [q1] at stp
  obtain ⟨s₂, o, h1, h2⟩ := g p e s m args below meth c U X' hx hZ hby hml hown hrt hlk hnm q2
  exact ⟨s₂, o, stp.trans h1, h2⟩
theorem nf_sel {a0 : Array Value} {C : String} {y : MethodName} (w : (Jvm.Cond.selects C y y).before a0 Z = true) : ∀ (s : State) (args : Array Value), Z.Warmed39 s.vm → NotFace s y := fun s args hZ => notFace_of_selects (args := args) (mvT hZ w)
theorem Go.initO {a0 : Array Value} {i : Nat} {W : Nat} {a : Addr} (hd : decode B pc = .ok (.invokespecial i, 3)) (hp : pc + 3 = pc') (w1 : (Jvm.Cond.methodLink own i Lib.objectInit).before a0 Z = true) (w2 : (Jvm.Cond.instanceMethod Lib.objectInit).before a0 Z = true) (w3 : (Jvm.Cond.code Lib.objectInit ⟨#[0xb1]⟩ 1 none).before a0 Z = true) (hf : 1 ≤ R.frames) (hl : W + 12 ≤ R.locals) (hsz : Ls.size = ml) (hW : (rest.map fun v => v.category).sum ≤ W)
    (g : Go Z l R B ml own rt mn pc' Ls rest h L k n Q) : Go Z l R B ml own rt mn pc Ls (.ref a :: rest) h L k n Q := by
  subst hp
  intro p e s m args below meth c T X hx hZ hby hml hown hrt hlk hnm eT
  obtain ⟨T', X', e', stp⟩ := Jvm.RoadKit.initO X hx hZ hown w1 w2 w3 eT (g := mkF m pc Ls (.ref a :: rest)) rfl (hsz.trans hml.symm) rfl (hb hby hd) hf (W := W) (by show 2 * 0 + _ ≤ _; omega) hl
  obtain ⟨s₂, o, h1, h2⟩ := g p e s m args below meth c T' X' hx hZ hby hml hown hrt hlk hnm e'
  exact ⟨s₂, o, stp _ h1, h2⟩
/-! objects -/
theorem Go.newO {a0 : Array Value} {st : List Value} {i sz : Nat} {C : String} {k' n' : Nat} (hd : decode B pc = .ok (.new i, 3)) (hp : pc + 3 = pc') (w : (Jvm.Cond.classLink own i C).before a0 Z = true) (wi : (Jvm.Cond.instantiable C sz).before a0 Z = true) (wz : (Jvm.Cond.initialized C).before a0 Z = true) (hc : k + 1 ≤ R.cells) (hl : n + sz ≤ R.slots) (hk' : k + 1 = k') (hn' : n + sz = n')
    (g : ∀ h' a, a = h.size → Ext h h' → Exa Z h' a C → (∀ {O nm d : String} {ty : FieldType}, Laid Z a0 C O nm d → parseFieldDescriptor d = some ty → Fld Z h' a O nm d (defaultValue ty)) → Go Z l R B ml own rt mn pc' Ls (.ref a :: st) h' L k' n' Q) : Go Z l R B ml own rt mn pc Ls st h L k n Q := by
  subst hp hk' hn'
  intro p e s m args below meth c T X hx hZ hby hml hown hrt hlk hnm eT
  obtain ⟨T', h', X', e', E', A', D', -, stp⟩ := Jvm.RoadKit.newO X hx hZ hown w wi wz eT (g := mkF m pc Ls st) rfl (hb hby hd) hc hl
  obtain ⟨s₂, o, h1, h2⟩ := g h' _ rfl E' A' D' p e s m args below meth c T' X' hx hZ hby hml hown hrt hlk hnm e'
  exact ⟨s₂, o, stp _ h1, h2⟩
theorem Go.getF {a0 : Array Value} {i : Nat} {R0 O f d : String} {a : Addr} {v : Value} (hd : decode B pc = .ok (.getfield i, 3)) (hp : pc + 3 = pc') (w : (Jvm.Cond.fieldLink own i R0 f d).before a0 Z = true) (via : Via Z R0 O f d) (F : Fld Z h a O f d v) (g : Go Z l R B ml own rt mn pc' Ls (v :: rest) h L k n Q) : Go Z l R B ml own rt mn pc Ls (.ref a :: rest) h L k n Q := by
  subst hp
  intro p e s m args below meth c T X hx hZ hby hml hown hrt hlk hnm eT
  obtain ⟨T', X', e', stp⟩ := Jvm.RoadKit.getF X hx hZ hown (host := "") (Or.inl w) via eT F (g := mkF m pc Ls (.ref a :: rest)) rfl rfl (hb hby hd)
  obtain ⟨s₂, o, h1, h2⟩ := g p e s m args below meth c T' X' hx hZ hby hml hown hrt hlk hnm e'
  exact ⟨s₂, o, stp _ h1, h2⟩
theorem Go.putF {a0 : Array Value} {i kk : Nat} {R0 O f d C : String} {a : Addr} {v old : Value} {ty : FieldType} (hd : decode B pc = .ok (.putfield i, 3)) (hp : pc + 3 = pc') (w : (Jvm.Cond.fieldLink own i R0 f d).before a0 Z = true) (via : Via Z R0 O f d) (F : Fld Z h a O f d old) (E : Exa Z h a C) (lw : (Jvm.Cond.lays C O f d).before a0 Z = true ∨ ((Jvm.Cond.laysFinal C O f d).before a0 Z = true ∧ own = O ∧ mn = "<init>")) (wi : (Jvm.Cond.instantiable C kk).before a0 Z = true)
    (hty : parseFieldDescriptor d = some ty) (hn : narrow ty v = v) (hf : fits ty v = true) (g : ∀ h' L', (∀ q, Fr q L → q ≤ a → Fr q L') → Wr h h' a (Jvm.RoadKit.slotOf Z O f d) v → Go Z l R B ml own rt mn pc' Ls rest h' L' k n Q) : Go Z l R B ml own rt mn pc Ls (v :: .ref a :: rest) h L k n Q := by
  subst hp
  intro p e s m args below meth c T X hx hZ hby hml hown hrt hlk hnm eT
  obtain ⟨T', h', X', e', W', stp⟩ := Jvm.RoadKit.putF X hx hZ hown (host := "") (Or.inl w) via eT F E (lw.imp id fun q => ⟨q.1, q.2.1, hnm.trans q.2.2⟩) wi hty hn hf (g := mkF m pc Ls (v :: .ref a :: rest)) rfl rfl (hb hby hd)
  obtain ⟨s₂, o, h1, h2⟩ := g h' _ (fun q N r => fr_one N r) W' p e s m args below meth c T' X' hx hZ hby hml hown hrt hlk hnm e'
  exact ⟨s₂, o, stp _ h1, h2⟩
/-! arrays: the very list of values -/
def Al (Z : State) (h : Heap) (a : Addr) (ty : FieldType) (vs : List Value) : Prop := vs.length < 2 ^ 31 ∧ ∃ c : Cell, Arr Z h a c ty ∧ c.slots = vs.toArray
theorem Al.lt {a : Addr} {ty : FieldType} {vs : List Value} (A : Al Z h a ty vs) : a < h.size := by obtain ⟨-, c, A, -⟩ := A; exact A.lt
theorem Al.ext {h' : Heap} {a : Addr} {ty : FieldType} {vs : List Value} (A : Al Z h a ty vs) (E : Ext h h') : Al Z h' a ty vs := by obtain ⟨q, c, A, r⟩ := A; exact ⟨q, c, A.ext E, r⟩
theorem Al.other {h' : Heap} {a b : Addr} {sl : Nat} {v : Value} {ty : FieldType} {vs : List Value} (A : Al Z h b ty vs) (W : Wr h h' a sl v) (ne : b ≠ a) : Al Z h' b ty vs := by obtain ⟨q, c, A, r⟩ := A; exact ⟨q, c, A.other W ne, r⟩
theorem Al.keep {h' : Heap} {a : Addr} {ty : FieldType} {vs : List Value} {ws : List Addr} (A : Al Z h a ty vs) (K : Keep h h' ws) (q : a ∉ ws) : Al Z h' a ty vs := by obtain ⟨q0, c, A, r⟩ := A; exact ⟨q0, c, ⟨K.2.1 a c A.1 q, A.2⟩, r⟩
theorem Al.set {h' : Heap} {a : Addr} {ty : FieldType} {vs : List Value} {i : Nat} {v : Value} (A : Al Z h a ty vs) (W : Wr h h' a i v) : Al Z h' a ty (vs.set i v) := by
  obtain ⟨q, c, A, r⟩ := A
  refine ⟨by simpa using q, c.setSlot i v, A.same W, ?_⟩
  simp [Cell.setSlot, r]
theorem Al.new {a : Addr} {ty : FieldType} {kc : ClassId} {z : Int32} {N : Nat} (A : Arr Z h a (newA kc ty z) ty) (hz : z.toInt = (N : Int)) : Al Z h a ty (List.replicate N (defaultValue ty)) := by
  have h1 : z.toNatClampNeg = N := by show z.toInt.toNat = N; omega
  have h2 := z.toInt_lt
  refine ⟨by simp; omega, _, A, ?_⟩
  simp [newA, h1]
theorem ne_al {a0 : Array Value} {a b : Addr} {C : String} {kk : Nat} {ty : FieldType} {vs : List Value} (F : Exa Z h a C) (wi : (Jvm.Cond.instantiable C kk).before a0 Z = true) (A : Al Z h b ty vs) : a ≠ b := by obtain ⟨-, c, A, -⟩ := A; exact ne_arr F wi A
theorem in_of {c : Cell} {vs : List Value} {j : Int32} {i : Nat} (r : c.slots = vs.toArray) (hj : j.toInt = (i : Int)) (hi : i < vs.length) : ¬ (j < 0 ∨ c.slots.size ≤ j.toNatClampNeg) := by
  have h1 : j.toNatClampNeg = i := by show j.toInt.toNat = i; omega
  rw [h1, r, Int32.lt_iff_toInt_lt]
  have z0 : (0 : Int32).toInt = 0 := rfl
  rw [z0]
  intro q
  rcases q with q | q
  · omega
  · rw [List.size_toArray] at q; omega
theorem at_of {c : Cell} {vs : List Value} {j : Int32} {i : Nat} {v : Value} (r : c.slots = vs.toArray) (hj : j.toInt = (i : Int)) (hv : vs[i]? = some v) : c.slots[j.toNatClampNeg]? = some v := by
  have h1 : j.toNatClampNeg = i := by show j.toInt.toNat = i; omega
  rw [h1, r]; simpa using hv
theorem Go.iaload {a : Addr} {vs : List Value} {j : Int32} {i : Nat} {v : Value} (hd : decode B pc = .ok (.iaload, 1)) (hp : pc + 1 = pc') (A : Al Z h a .int vs) (hj : j.toInt = (i : Int)) (hv : vs[i]? = some v) (g : Go Z l R B ml own rt mn pc' Ls (v :: rest) h L k n Q) : Go Z l R B ml own rt mn pc Ls (.int j :: .ref a :: rest) h L k n Q := by
  obtain ⟨q, c, A, r⟩ := A
  subst hp
  exact Go.stand (fun p e s m args below meth c' T t X hx hZ hB hown eT hr => X.iaload hx (j := j) (v := v) (by rw [eT]; exact A.1) (State.isArrayOf_alike hZ.alike A.2.1) A.2.2 (in_of r hj (List.getElem?_eq_some_iff.mp hv).1) (at_of r hj hv) (g := mkF m pc Ls (.int j :: .ref a :: rest)) rfl rfl (hb hB hd) _ hr) g
theorem Go.laload {a : Addr} {vs : List Value} {j : Int32} {i : Nat} {v : Value} (hd : decode B pc = .ok (.laload, 1)) (hp : pc + 1 = pc') (A : Al Z h a .long vs) (hj : j.toInt = (i : Int)) (hv : vs[i]? = some v) (g : Go Z l R B ml own rt mn pc' Ls (v :: rest) h L k n Q) : Go Z l R B ml own rt mn pc Ls (.int j :: .ref a :: rest) h L k n Q := by
  obtain ⟨q, c, A, r⟩ := A
  subst hp
  exact Go.stand (fun p e s m args below meth c' T t X hx hZ hB hown eT hr => X.laload hx (j := j) (v := v) (by rw [eT]; exact A.1) (State.isArrayOf_alike hZ.alike A.2.1) A.2.2 (in_of r hj (List.getElem?_eq_some_iff.mp hv).1) (at_of r hj hv) (g := mkF m pc Ls (.int j :: .ref a :: rest)) rfl rfl (hb hB hd) _ hr) g
theorem Go.baloadB {a : Addr} {vs : List Value} {j : Int32} {i : Nat} {v : Value} (hd : decode B pc = .ok (.baload, 1)) (hp : pc + 1 = pc') (A : Al Z h a .byte vs) (hj : j.toInt = (i : Int)) (hv : vs[i]? = some v) (g : Go Z l R B ml own rt mn pc' Ls (v :: rest) h L k n Q) : Go Z l R B ml own rt mn pc Ls (.int j :: .ref a :: rest) h L k n Q := by
  obtain ⟨q, c, A, r⟩ := A
  subst hp
  exact Go.stand (fun p e s m args below meth c' T t X hx hZ hB hown eT hr => X.baloadBytes hx (j := j) (v := v) (by rw [eT]; exact A.1) (State.isArrayOf_alike hZ.alike A.2.1) A.2.2 (in_of r hj (List.getElem?_eq_some_iff.mp hv).1) (at_of r hj hv) (g := mkF m pc Ls (.int j :: .ref a :: rest)) rfl rfl (hb hB hd) _ hr) g
theorem Go.baloadZ {a : Addr} {vs : List Value} {j : Int32} {i : Nat} {v : Value} (hd : decode B pc = .ok (.baload, 1)) (hp : pc + 1 = pc') (A : Al Z h a .boolean vs) (hj : j.toInt = (i : Int)) (hv : vs[i]? = some v) (g : Go Z l R B ml own rt mn pc' Ls (v :: rest) h L k n Q) : Go Z l R B ml own rt mn pc Ls (.int j :: .ref a :: rest) h L k n Q := by
  obtain ⟨q, c, A, r⟩ := A
  subst hp
  exact Go.stand (fun p e s m args below meth c' T t X hx hZ hB hown eT hr => X.baloadBooleans hx (j := j) (v := v) (by rw [eT]; exact A.1) (State.isArrayOf_alike hZ.alike A.2.1) A.2.2 (in_of r hj (List.getElem?_eq_some_iff.mp hv).1) (at_of r hj hv) (g := mkF m pc Ls (.int j :: .ref a :: rest)) rfl rfl (hb hB hd) _ hr) g
theorem Go.iastore {a : Addr} {vs vs' : List Value} {j : Int32} {x : Int32} {i : Nat} {v : Value} (hd : decode B pc = .ok (.iastore, 1)) (hp : pc + 1 = pc') (A : Al Z h a .int vs) (hj : j.toInt = (i : Int)) (hi : i < vs.length) (hv : .int x = v) (hs : vs.set i v = vs') (g : ∀ h' L', (∀ q, Fr q L → q ≤ a → Fr q L') → Wr h h' a i v → Al Z h' a .int vs' → Go Z l R B ml own rt mn pc' Ls rest h' L' k n Q) : Go Z l R B ml own rt mn pc Ls (.int x :: .int j :: .ref a :: rest) h L k n Q := by
  have A' := A
  obtain ⟨q, c, A, r⟩ := A
  subst hp hs
  intro p e s m args below meth c' T X hx hZ hby hml hown hrt hlk hnm eT
  obtain ⟨T', h', X', e', W', stp⟩ := stI X hx hZ eT A (j := j) (in_of r hj hi) (g := mkF m pc Ls (.int x :: .int j :: .ref a :: rest)) rfl rfl (hb hby hd)
  have h1 : j.toNatClampNeg = i := by show j.toInt.toNat = i; omega
  rw [h1] at X' W'
  subst hv
  obtain ⟨s₂, o, h1, h2⟩ := g h' _ (fun q N r => fr_one N r) W' (A'.set W') p e s m args below meth c' T' X' hx hZ hby hml hown hrt hlk hnm e'
  exact ⟨s₂, o, stp _ h1, h2⟩
theorem Go.lastore {a : Addr} {vs vs' : List Value} {j : Int32} {x : Int64} {i : Nat} {v : Value} (hd : decode B pc = .ok (.lastore, 1)) (hp : pc + 1 = pc') (A : Al Z h a .long vs) (hj : j.toInt = (i : Int)) (hi : i < vs.length) (hv : .long x = v) (hs : vs.set i v = vs') (g : ∀ h' L', (∀ q, Fr q L → q ≤ a → Fr q L') → Wr h h' a i v → Al Z h' a .long vs' → Go Z l R B ml own rt mn pc' Ls rest h' L' k n Q) : Go Z l R B ml own rt mn pc Ls (.long x :: .int j :: .ref a :: rest) h L k n Q := by
  have A' := A
  obtain ⟨q, c, A, r⟩ := A
  subst hp hs
  intro p e s m args below meth c' T X hx hZ hby hml hown hrt hlk hnm eT
  obtain ⟨T', h', X', e', W', stp⟩ := stJ X hx hZ eT A (j := j) (in_of r hj hi) (g := mkF m pc Ls (.long x :: .int j :: .ref a :: rest)) rfl rfl (hb hby hd)
  have h1 : j.toNatClampNeg = i := by show j.toInt.toNat = i; omega
  rw [h1] at X' W'
  subst hv
  obtain ⟨s₂, o, h1, h2⟩ := g h' _ (fun q N r => fr_one N r) W' (A'.set W') p e s m args below meth c' T' X' hx hZ hby hml hown hrt hlk hnm e'
  exact ⟨s₂, o, stp _ h1, h2⟩
theorem Go.bastoreB {a : Addr} {vs vs' : List Value} {j : Int32} {x : Int32} {i : Nat} {v : Value} (hd : decode B pc = .ok (.bastore, 1)) (hp : pc + 1 = pc') (A : Al Z h a .byte vs) (hj : j.toInt = (i : Int)) (hi : i < vs.length) (hv : .int (nar .byte x) = v) (hs : vs.set i v = vs') (g : ∀ h' L', (∀ q, Fr q L → q ≤ a → Fr q L') → Wr h h' a i v → Al Z h' a .byte vs' → Go Z l R B ml own rt mn pc' Ls rest h' L' k n Q) : Go Z l R B ml own rt mn pc Ls (.int x :: .int j :: .ref a :: rest) h L k n Q := by
  have A' := A
  obtain ⟨q, c, A, r⟩ := A
  subst hp hs
  intro p e s m args below meth c' T X hx hZ hby hml hown hrt hlk hnm eT
  obtain ⟨T', h', X', e', W', stp⟩ := stB X hx hZ eT A (j := j) (in_of r hj hi) (g := mkF m pc Ls (.int x :: .int j :: .ref a :: rest)) rfl rfl (hb hby hd)
  have h1 : j.toNatClampNeg = i := by show j.toInt.toNat = i; omega
  rw [h1] at X' W'
  subst hv
  obtain ⟨s₂, o, h1, h2⟩ := g h' _ (fun q N r => fr_one N r) W' (A'.set W') p e s m args below meth c' T' X' hx hZ hby hml hown hrt hlk hnm e'
  exact ⟨s₂, o, stp _ h1, h2⟩
theorem Go.bastoreZ {a : Addr} {vs vs' : List Value} {j : Int32} {x : Int32} {i : Nat} {v : Value} (hd : decode B pc = .ok (.bastore, 1)) (hp : pc + 1 = pc') (A : Al Z h a .boolean vs) (hj : j.toInt = (i : Int)) (hi : i < vs.length) (hv : .int (nar .boolean x) = v) (hs : vs.set i v = vs') (g : ∀ h' L', (∀ q, Fr q L → q ≤ a → Fr q L') → Wr h h' a i v → Al Z h' a .boolean vs' → Go Z l R B ml own rt mn pc' Ls rest h' L' k n Q) : Go Z l R B ml own rt mn pc Ls (.int x :: .int j :: .ref a :: rest) h L k n Q := by
  have A' := A
  obtain ⟨q, c, A, r⟩ := A
  subst hp hs
  intro p e s m args below meth c' T X hx hZ hby hml hown hrt hlk hnm eT
  obtain ⟨T', h', X', e', W', stp⟩ := stZ X hx hZ eT A (j := j) (in_of r hj hi) (g := mkF m pc Ls (.int x :: .int j :: .ref a :: rest)) rfl rfl (hb hby hd)
  have h1 : j.toNatClampNeg = i := by show j.toInt.toNat = i; omega
  rw [h1] at X' W'
  subst hv
  obtain ⟨s₂, o, h1, h2⟩ := g h' _ (fun q N r => fr_one N r) W' (A'.set W') p e s m args below meth c' T' X' hx hZ hby hml hown hrt hlk hnm e'
  exact ⟨s₂, o, stp _ h1, h2⟩
theorem Go.arraylength {a : Addr} {ty : FieldType} {vs : List Value} {z : Int32} (hd : decode B pc = .ok (.arraylength, 1)) (hp : pc + 1 = pc') (A : Al Z h a ty vs) (hz : vs.length.toInt32 = z) (g : Go Z l R B ml own rt mn pc' Ls (.int z :: rest) h L k n Q) : Go Z l R B ml own rt mn pc Ls (.ref a :: rest) h L k n Q := by
  obtain ⟨q, c, A, r⟩ := A
  subst hp hz
  refine Go.stand (fun p e s m args below meth c' T t X hx hZ hB hown eT hr => X.arraylength hx (by rw [eT]; exact A.1) (State.isArrayOf_alike hZ.alike A.2.1) (g := mkF m pc Ls (.ref a :: rest)) rfl rfl (hb hB hd) _ ?_) g
  rw [r]; simpa using hr
theorem Go.new_int {a0 : Array Value} {z : Int32} {N : Nat} {k' n' : Nat} {vs : List Value} (hd : decode B pc = .ok (.newarray .int, 2)) (hp : pc + 2 = pc') (w : (Jvm.Cond.arrayClass (.int)).before a0 Z = true) (hz : z.toInt = (N : Int)) (hvs : List.replicate N (defaultValue .int) = vs) (cap : Nat) (hcap : N ≤ cap) (h8 : cap * 8 ≤ 536870912) (hc : k + 1 ≤ R.cells) (hl : n + cap ≤ R.slots) (hk' : k + 1 = k') (hn' : n + cap = n')
    (g : ∀ h' a, a = h.size → Ext h h' → Al Z h' a .int vs → Go Z l R B ml own rt mn pc' Ls (.ref a :: rest) h' L k' n' Q) : Go Z l R B ml own rt mn pc Ls (.int z :: rest) h L k n Q := by
  subst hp hk' hn' hvs
  intro p e s m args below meth c T X hx hZ hby hml hown hrt hlk hnm eT
  have hz0 : ¬ z < 0 := by
    rw [Int32.lt_iff_toInt_lt]; have z0 : (0 : Int32).toInt = 0 := rfl
    omega
  obtain ⟨T', h', cA, X', e', E', A', stp⟩ := newP X hx hZ (aty := .int) w eT (g := mkF m pc Ls (.int z :: rest)) rfl (hb hby hd) rfl hz0 (cap := cap) (by show z.toInt.toNat ≤ cap; omega) h8 hc hl
  obtain ⟨s₂, o, h1, h2⟩ := g h' _ rfl E' (Al.new A' hz) p e s m args below meth c T' X' hx hZ hby hml hown hrt hlk hnm e'
  exact ⟨s₂, o, stp _ h1, h2⟩
theorem Go.new_long {a0 : Array Value} {z : Int32} {N : Nat} {k' n' : Nat} {vs : List Value} (hd : decode B pc = .ok (.newarray .long, 2)) (hp : pc + 2 = pc') (w : (Jvm.Cond.arrayClass (.long)).before a0 Z = true) (hz : z.toInt = (N : Int)) (hvs : List.replicate N (defaultValue .long) = vs) (cap : Nat) (hcap : N ≤ cap) (h8 : cap * 8 ≤ 536870912) (hc : k + 1 ≤ R.cells) (hl : n + cap ≤ R.slots) (hk' : k + 1 = k') (hn' : n + cap = n')
    (g : ∀ h' a, a = h.size → Ext h h' → Al Z h' a .long vs → Go Z l R B ml own rt mn pc' Ls (.ref a :: rest) h' L k' n' Q) : Go Z l R B ml own rt mn pc Ls (.int z :: rest) h L k n Q := by
  subst hp hk' hn' hvs
  intro p e s m args below meth c T X hx hZ hby hml hown hrt hlk hnm eT
  have hz0 : ¬ z < 0 := by
    rw [Int32.lt_iff_toInt_lt]; have z0 : (0 : Int32).toInt = 0 := rfl
    omega
  obtain ⟨T', h', cA, X', e', E', A', stp⟩ := newP X hx hZ (aty := .long) w eT (g := mkF m pc Ls (.int z :: rest)) rfl (hb hby hd) rfl hz0 (cap := cap) (by show z.toInt.toNat ≤ cap; omega) h8 hc hl
  obtain ⟨s₂, o, h1, h2⟩ := g h' _ rfl E' (Al.new A' hz) p e s m args below meth c T' X' hx hZ hby hml hown hrt hlk hnm e'
  exact ⟨s₂, o, stp _ h1, h2⟩
theorem Go.new_byte {a0 : Array Value} {z : Int32} {N : Nat} {k' n' : Nat} {vs : List Value} (hd : decode B pc = .ok (.newarray .byte, 2)) (hp : pc + 2 = pc') (w : (Jvm.Cond.arrayClass (.byte)).before a0 Z = true) (hz : z.toInt = (N : Int)) (hvs : List.replicate N (defaultValue .byte) = vs) (cap : Nat) (hcap : N ≤ cap) (h8 : cap * 8 ≤ 536870912) (hc : k + 1 ≤ R.cells) (hl : n + cap ≤ R.slots) (hk' : k + 1 = k') (hn' : n + cap = n')
    (g : ∀ h' a, a = h.size → Ext h h' → Al Z h' a .byte vs → Go Z l R B ml own rt mn pc' Ls (.ref a :: rest) h' L k' n' Q) : Go Z l R B ml own rt mn pc Ls (.int z :: rest) h L k n Q := by
  subst hp hk' hn' hvs
  intro p e s m args below meth c T X hx hZ hby hml hown hrt hlk hnm eT
  have hz0 : ¬ z < 0 := by
    rw [Int32.lt_iff_toInt_lt]; have z0 : (0 : Int32).toInt = 0 := rfl
    omega
  obtain ⟨T', h', cA, X', e', E', A', stp⟩ := newP X hx hZ (aty := .byte) w eT (g := mkF m pc Ls (.int z :: rest)) rfl (hb hby hd) rfl hz0 (cap := cap) (by show z.toInt.toNat ≤ cap; omega) h8 hc hl
  obtain ⟨s₂, o, h1, h2⟩ := g h' _ rfl E' (Al.new A' hz) p e s m args below meth c T' X' hx hZ hby hml hown hrt hlk hnm e'
  exact ⟨s₂, o, stp _ h1, h2⟩
theorem Go.new_boolean {a0 : Array Value} {z : Int32} {N : Nat} {k' n' : Nat} {vs : List Value} (hd : decode B pc = .ok (.newarray .boolean, 2)) (hp : pc + 2 = pc') (w : (Jvm.Cond.arrayClass (.boolean)).before a0 Z = true) (hz : z.toInt = (N : Int)) (hvs : List.replicate N (defaultValue .boolean) = vs) (cap : Nat) (hcap : N ≤ cap) (h8 : cap * 8 ≤ 536870912) (hc : k + 1 ≤ R.cells) (hl : n + cap ≤ R.slots) (hk' : k + 1 = k') (hn' : n + cap = n')
    (g : ∀ h' a, a = h.size → Ext h h' → Al Z h' a .boolean vs → Go Z l R B ml own rt mn pc' Ls (.ref a :: rest) h' L k' n' Q) : Go Z l R B ml own rt mn pc Ls (.int z :: rest) h L k n Q := by
  subst hp hk' hn' hvs
  intro p e s m args below meth c T X hx hZ hby hml hown hrt hlk hnm eT
  have hz0 : ¬ z < 0 := by
    rw [Int32.lt_iff_toInt_lt]; have z0 : (0 : Int32).toInt = 0 := rfl
    omega
  obtain ⟨T', h', cA, X', e', E', A', stp⟩ := newP X hx hZ (aty := .boolean) w eT (g := mkF m pc Ls (.int z :: rest)) rfl (hb hby hd) rfl hz0 (cap := cap) (by show z.toInt.toNat ≤ cap; omega) h8 hc hl
  obtain ⟨s₂, o, h1, h2⟩ := g h' _ rfl E' (Al.new A' hz) p e s m args below meth c T' X' hx hZ hby hml hown hrt hlk hnm e'
  exact ⟨s₂, o, stp _ h1, h2⟩
theorem iadd_eq {x y : Int32} (h1 : -2147483648 ≤ x.toInt + y.toInt) (h2 : x.toInt + y.toInt < 2147483648) : (x + y).toInt = x.toInt + y.toInt := by
  have e := c_iadd x y
  have r := rng32 (x + y)
  omega
theorem isub_eq {x y : Int32} (h1 : -2147483648 ≤ x.toInt - y.toInt) (h2 : x.toInt - y.toInt < 2147483648) : (x - y).toInt = x.toInt - y.toInt := by
  have e := c_isub x y
  have r := rng32 (x - y)
  omega
theorem ladd_eq {x y : Int64} (h1 : -9223372036854775808 ≤ x.toInt + y.toInt) (h2 : x.toInt + y.toInt < 9223372036854775808) : (x + y).toInt = x.toInt + y.toInt := by
  have e := c_ladd x y
  have r := rng64 (x + y)
  omega
theorem lsub_eq {x y : Int64} (h1 : -9223372036854775808 ≤ x.toInt - y.toInt) (h2 : x.toInt - y.toInt < 9223372036854775808) : (x - y).toInt = x.toInt - y.toInt := by
  have e := c_lsub x y
  have r := rng64 (x - y)
  omega
theorem irem_bd {x y : Int32} (h1 : 0 ≤ x.toInt) (h2 : 0 < y.toInt) : 0 ≤ (x % y).toInt ∧ (x % y).toInt < y.toInt ∧ (x % y).toInt ≤ x.toInt := by
  have q := (c_iremV x y).1 h1 h2
  exact ⟨q.1, q.2.1, q.2.2.1⟩
theorem mask31 (x : Int32) : 0 ≤ (x &&& (2147483647 : Int32)).toInt ∧ (x &&& (2147483647 : Int32)).toInt ≤ 2147483647 := by
  have q := c_and x (2147483647 : Int32) (by decide)
  have k : (2147483647 : Int32).toInt = 2147483647 := by decide
  omega
theorem nar_b8 (x : Int32) : nar .byte x.toInt8.toInt32 = x.toInt8.toInt32 := by
  show x.toInt8.toInt32.toInt8.toInt32 = x.toInt8.toInt32
  rw [Int8.toInt8_toInt32]
end Rules
end Jvm.OwnKit
namespace Jvm.Pilot.@@N@@
open Jvm Jvm.ClassFile Sem Op Lib Jvm.Free Jvm.Stand Jvm.LawKit Jvm.RoadKit Jvm.OwnKit Bundle Jvm.Pilot.@@N@@.Jvm.D
theorem w0 : (Jvm.Cond.constant "com/example/even_keel/evenkeel/plan/MemberNamesNumbersInNameOrderPinLaw" (17 : Nat) (2147483647 : Int32)) ∈ tables_1 := List.mem_of_getElem? (i := 0) rfl
theorem w1 : (Jvm.Cond.arrayClass Jvm.ClassFile.FieldType.int) ∈ tables_1 := List.mem_of_getElem? (i := 1) rfl
theorem w2 : (Jvm.Cond.classLink "com/example/even_keel/evenkeel/plan/MemberNamesNumbersInNameOrderPinLaw" (18 : Nat) "com/example/even_keel/evenkeel/plan/MemberNames") ∈ tables_1 := List.mem_of_getElem? (i := 2) rfl
theorem w3 : (Jvm.Cond.instantiable "com/example/even_keel/evenkeel/plan/MemberNames" (6 : Nat)) ∈ tables_1 := List.mem_of_getElem? (i := 3) rfl
theorem w4 : (Jvm.Cond.initialized "com/example/even_keel/evenkeel/plan/MemberNames") ∈ tables_1 := List.mem_of_getElem? (i := 4) rfl
theorem w5 : (Jvm.Cond.methodLink "com/example/even_keel/evenkeel/plan/MemberNamesNumbersInNameOrderPinLaw" (20 : Nat) ({ cls := "com/example/even_keel/evenkeel/plan/MemberNames", name := "<init>", desc := "(I)V" } : Jvm.MethodName)) ∈ tables_1 := List.mem_of_getElem? (i := 5) rfl
theorem w6 : (Jvm.Cond.instanceMethod ({ cls := "com/example/even_keel/evenkeel/plan/MemberNames", name := "<init>", desc := "(I)V" } : Jvm.MethodName)) ∈ tables_1 := List.mem_of_getElem? (i := 6) rfl
theorem w7 : (Jvm.Cond.code ({ cls := "com/example/even_keel/evenkeel/plan/MemberNames", name := "<init>", desc := "(I)V" } : Jvm.MethodName) prog_104_method_1_code (2 : Nat) (Option.none : Option Jvm.ClassFile.FieldType)) ∈ tables_1 := List.mem_of_getElem? (i := 7) rfl
theorem w8 : (Jvm.Cond.methodLink "com/example/even_keel/evenkeel/plan/MemberNames" (1 : Nat) ({ cls := "java/lang/Object", name := "<init>", desc := "()V" } : Jvm.MethodName)) ∈ tables_1 := List.mem_of_getElem? (i := 8) rfl
theorem w9 : (Jvm.Cond.instanceMethod ({ cls := "java/lang/Object", name := "<init>", desc := "()V" } : Jvm.MethodName)) ∈ tables_1 := List.mem_of_getElem? (i := 9) rfl
theorem w10 : (Jvm.Cond.code ({ cls := "java/lang/Object", name := "<init>", desc := "()V" } : Jvm.MethodName) object_method_1_code (1 : Nat) (Option.none : Option Jvm.ClassFile.FieldType)) ∈ tables_1 := List.mem_of_getElem? (i := 10) rfl
theorem w11 : (Jvm.Cond.fieldLink "com/example/even_keel/evenkeel/plan/MemberNames" (7 : Nat) "com/example/even_keel/evenkeel/plan/MemberNames" "highestTaken" "I") ∈ tables_1 := List.mem_of_getElem? (i := 11) rfl
theorem w12 : (Jvm.Cond.lays "com/example/even_keel/evenkeel/plan/MemberNames" "com/example/even_keel/evenkeel/plan/MemberNames" "highestTaken" "I") ∈ tables_1 := List.mem_of_getElem? (i := 12) rfl
theorem w13 : (Jvm.Cond.classLink "com/example/even_keel/evenkeel/plan/MemberNames" (13 : Nat) "java/util/HashSet") ∈ tables_1 := List.mem_of_getElem? (i := 13) rfl
theorem w14 : (Jvm.Cond.instantiable "java/util/HashSet" (1 : Nat)) ∈ tables_1 := List.mem_of_getElem? (i := 14) rfl
theorem w15 : (Jvm.Cond.initialized "java/util/HashSet") ∈ tables_1 := List.mem_of_getElem? (i := 15) rfl
theorem w16 : (Jvm.Cond.methodLink "com/example/even_keel/evenkeel/plan/MemberNames" (15 : Nat) ({ cls := "java/util/HashSet", name := "<init>", desc := "()V" } : Jvm.MethodName)) ∈ tables_1 := List.mem_of_getElem? (i := 16) rfl
theorem w17 : (Jvm.Cond.instanceMethod ({ cls := "java/util/HashSet", name := "<init>", desc := "()V" } : Jvm.MethodName)) ∈ tables_1 := List.mem_of_getElem? (i := 17) rfl
theorem w18 : (Jvm.Cond.code ({ cls := "java/util/HashSet", name := "<init>", desc := "()V" } : Jvm.MethodName) jdk_93_method_1_code (1 : Nat) (Option.none : Option Jvm.ClassFile.FieldType)) ∈ tables_1 := List.mem_of_getElem? (i := 18) rfl
theorem w19 : (Jvm.Cond.methodLink "java/util/HashSet" (1 : Nat) ({ cls := "java/util/AbstractSet", name := "<init>", desc := "()V" } : Jvm.MethodName)) ∈ tables_1 := List.mem_of_getElem? (i := 19) rfl
theorem w20 : (Jvm.Cond.instanceMethod ({ cls := "java/util/AbstractSet", name := "<init>", desc := "()V" } : Jvm.MethodName)) ∈ tables_1 := List.mem_of_getElem? (i := 20) rfl
theorem w23 : (Jvm.Cond.initialized "java/util/AbstractSet") ∈ tables_1 := List.mem_of_getElem? (i := 23) rfl
theorem w24 : (Jvm.Cond.code ({ cls := "java/util/AbstractSet", name := "<init>", desc := "()V" } : Jvm.MethodName) jdk_91_method_1_code (1 : Nat) (Option.none : Option Jvm.ClassFile.FieldType)) ∈ tables_1 := List.mem_of_getElem? (i := 24) rfl
theorem w25 : (Jvm.Cond.methodLink "java/util/AbstractSet" (1 : Nat) ({ cls := "java/util/AbstractCollection", name := "<init>", desc := "()V" } : Jvm.MethodName)) ∈ tables_1 := List.mem_of_getElem? (i := 25) rfl
theorem w26 : (Jvm.Cond.instanceMethod ({ cls := "java/util/AbstractCollection", name := "<init>", desc := "()V" } : Jvm.MethodName)) ∈ tables_1 := List.mem_of_getElem? (i := 26) rfl
theorem w29 : (Jvm.Cond.initialized "java/util/AbstractCollection") ∈ tables_1 := List.mem_of_getElem? (i := 29) rfl
theorem w30 : (Jvm.Cond.code ({ cls := "java/util/AbstractCollection", name := "<init>", desc := "()V" } : Jvm.MethodName) jdk_22_method_1_code (1 : Nat) (Option.none : Option Jvm.ClassFile.FieldType)) ∈ tables_1 := List.mem_of_getElem? (i := 30) rfl
theorem w31 : (Jvm.Cond.methodLink "java/util/AbstractCollection" (1 : Nat) ({ cls := "java/lang/Object", name := "<init>", desc := "()V" } : Jvm.MethodName)) ∈ tables_1 := List.mem_of_getElem? (i := 31) rfl
theorem w32 : (Jvm.Cond.classLink "java/util/HashSet" (7 : Nat) "java/util/HashMap") ∈ tables_1 := List.mem_of_getElem? (i := 32) rfl
theorem w33 : (Jvm.Cond.instantiable "java/util/HashMap" (8 : Nat)) ∈ tables_1 := List.mem_of_getElem? (i := 33) rfl
theorem w34 : (Jvm.Cond.initialized "java/util/HashMap") ∈ tables_1 := List.mem_of_getElem? (i := 34) rfl
theorem w35 : (Jvm.Cond.methodLink "java/util/HashSet" (9 : Nat) ({ cls := "java/util/HashMap", name := "<init>", desc := "()V" } : Jvm.MethodName)) ∈ tables_1 := List.mem_of_getElem? (i := 35) rfl
theorem w36 : (Jvm.Cond.instanceMethod ({ cls := "java/util/HashMap", name := "<init>", desc := "()V" } : Jvm.MethodName)) ∈ tables_1 := List.mem_of_getElem? (i := 36) rfl
theorem w38 : (Jvm.Cond.code ({ cls := "java/util/HashMap", name := "<init>", desc := "()V" } : Jvm.MethodName) jdk_69_method_7_code (1 : Nat) (Option.none : Option Jvm.ClassFile.FieldType)) ∈ tables_1 := List.mem_of_getElem? (i := 38) rfl
theorem w39 : (Jvm.Cond.methodLink "java/util/HashMap" (43 : Nat) ({ cls := "java/util/AbstractMap", name := "<init>", desc := "()V" } : Jvm.MethodName)) ∈ tables_1 := List.mem_of_getElem? (i := 39) rfl
theorem w40 : (Jvm.Cond.instanceMethod ({ cls := "java/util/AbstractMap", name := "<init>", desc := "()V" } : Jvm.MethodName)) ∈ tables_1 := List.mem_of_getElem? (i := 40) rfl
theorem w43 : (Jvm.Cond.initialized "java/util/AbstractMap") ∈ tables_1 := List.mem_of_getElem? (i := 43) rfl
theorem w44 : (Jvm.Cond.code ({ cls := "java/util/AbstractMap", name := "<init>", desc := "()V" } : Jvm.MethodName) jdk_71_method_1_code (1 : Nat) (Option.none : Option Jvm.ClassFile.FieldType)) ∈ tables_1 := List.mem_of_getElem? (i := 44) rfl
theorem w45 : (Jvm.Cond.methodLink "java/util/AbstractMap" (1 : Nat) ({ cls := "java/lang/Object", name := "<init>", desc := "()V" } : Jvm.MethodName)) ∈ tables_1 := List.mem_of_getElem? (i := 45) rfl
theorem w46 : (Jvm.Cond.constantFloat "java/util/HashMap" (92 : Nat) (1061158912 : UInt32)) ∈ tables_1 := List.mem_of_getElem? (i := 46) rfl
theorem w47 : (Jvm.Cond.fieldLink "java/util/HashMap" (81 : Nat) "java/util/HashMap" "loadFactor" "F") ∈ tables_1 := List.mem_of_getElem? (i := 47) rfl
theorem w48 : (Jvm.Cond.laysFinal "java/util/HashMap" "java/util/HashMap" "loadFactor" "F") ∈ tables_1 := List.mem_of_getElem? (i := 48) rfl
theorem w49 : (Jvm.Cond.fieldLink "java/util/HashSet" (10 : Nat) "java/util/HashSet" "map" "Ljava/util/HashMap;") ∈ tables_1 := List.mem_of_getElem? (i := 49) rfl
theorem w50 : (Jvm.Cond.lays "java/util/HashSet" "java/util/HashSet" "map" "Ljava/util/HashMap;") ∈ tables_1 := List.mem_of_getElem? (i := 50) rfl
theorem w51 : (Jvm.Cond.fieldLink "com/example/even_keel/evenkeel/plan/MemberNames" (16 : Nat) "com/example/even_keel/evenkeel/plan/MemberNames" "others" "Ljava/util/Set;") ∈ tables_1 := List.mem_of_getElem? (i := 51) rfl
theorem w52 : (Jvm.Cond.laysFinal "com/example/even_keel/evenkeel/plan/MemberNames" "com/example/even_keel/evenkeel/plan/MemberNames" "others" "Ljava/util/Set;") ∈ tables_1 := List.mem_of_getElem? (i := 52) rfl
theorem w53 : (Jvm.Cond.fieldLink "com/example/even_keel/evenkeel/plan/MemberNames" (20 : Nat) "com/example/even_keel/evenkeel/plan/MemberNames" "mostNumber" "I") ∈ tables_1 := List.mem_of_getElem? (i := 53) rfl
theorem w54 : (Jvm.Cond.laysFinal "com/example/even_keel/evenkeel/plan/MemberNames" "com/example/even_keel/evenkeel/plan/MemberNames" "mostNumber" "I") ∈ tables_1 := List.mem_of_getElem? (i := 54) rfl
theorem w55 : (Jvm.Cond.arrayClass Jvm.ClassFile.FieldType.boolean) ∈ tables_1 := List.mem_of_getElem? (i := 55) rfl
theorem w56 : (Jvm.Cond.fieldLink "com/example/even_keel/evenkeel/plan/MemberNames" (23 : Nat) "com/example/even_keel/evenkeel/plan/MemberNames" "numbers" "[Z") ∈ tables_1 := List.mem_of_getElem? (i := 56) rfl
theorem w57 : (Jvm.Cond.laysFinal "com/example/even_keel/evenkeel/plan/MemberNames" "com/example/even_keel/evenkeel/plan/MemberNames" "numbers" "[Z") ∈ tables_1 := List.mem_of_getElem? (i := 57) rfl
theorem w58 : (Jvm.Cond.methodLink "com/example/even_keel/evenkeel/plan/MemberNamesNumbersInNameOrderPinLaw" (23 : Nat) ({ cls := "com/example/even_keel/evenkeel/plan/MemberNames", name := "take", desc := "(I)V" } : Jvm.MethodName)) ∈ tables_1 := List.mem_of_getElem? (i := 58) rfl
theorem w59 : (Jvm.Cond.declares ({ cls := "com/example/even_keel/evenkeel/plan/MemberNames", name := "take", desc := "(I)V" } : Jvm.MethodName)) ∈ tables_1 := List.mem_of_getElem? (i := 59) rfl
theorem w60 : (Jvm.Cond.instanceMethod ({ cls := "com/example/even_keel/evenkeel/plan/MemberNames", name := "take", desc := "(I)V" } : Jvm.MethodName)) ∈ tables_1 := List.mem_of_getElem? (i := 60) rfl
theorem w61 : (Jvm.Cond.selects "com/example/even_keel/evenkeel/plan/MemberNames" ({ cls := "com/example/even_keel/evenkeel/plan/MemberNames", name := "take", desc := "(I)V" } : Jvm.MethodName) ({ cls := "com/example/even_keel/evenkeel/plan/MemberNames", name := "take", desc := "(I)V" } : Jvm.MethodName)) ∈ tables_1 := List.mem_of_getElem? (i := 61) rfl
theorem w62 : (Jvm.Cond.code ({ cls := "com/example/even_keel/evenkeel/plan/MemberNames", name := "take", desc := "(I)V" } : Jvm.MethodName) prog_104_method_10_code (2 : Nat) (Option.none : Option Jvm.ClassFile.FieldType)) ∈ tables_1 := List.mem_of_getElem? (i := 62) rfl
theorem w63 : (Jvm.Cond.fieldLink "com/example/even_keel/evenkeel/plan/MemberNames" (75 : Nat) "com/example/even_keel/evenkeel/plan/MemberNames" "numbersTaken" "I") ∈ tables_1 := List.mem_of_getElem? (i := 63) rfl
theorem w64 : (Jvm.Cond.lays "com/example/even_keel/evenkeel/plan/MemberNames" "com/example/even_keel/evenkeel/plan/MemberNames" "numbersTaken" "I") ∈ tables_1 := List.mem_of_getElem? (i := 64) rfl
theorem w65 : (Jvm.Cond.methodLink "com/example/even_keel/evenkeel/plan/MemberNames" (78 : Nat) ({ cls := "java/lang/Math", name := "max", desc := "(II)I" } : Jvm.MethodName)) ∈ tables_1 := List.mem_of_getElem? (i := 65) rfl
theorem w66 : (Jvm.Cond.static ({ cls := "java/lang/Math", name := "max", desc := "(II)I" } : Jvm.MethodName)) ∈ tables_1 := List.mem_of_getElem? (i := 66) rfl
theorem w67 : (Jvm.Cond.initialized "java/lang/Math") ∈ tables_1 := List.mem_of_getElem? (i := 67) rfl
theorem w68 : (Jvm.Cond.code ({ cls := "java/lang/Math", name := "max", desc := "(II)I" } : Jvm.MethodName) jdk_29_method_65_code (2 : Nat) (Option.some Jvm.ClassFile.FieldType.int)) ∈ tables_1 := List.mem_of_getElem? (i := 68) rfl
theorem w69 : (Jvm.Cond.methodLink "com/example/even_keel/evenkeel/plan/MemberNamesNumbersInNameOrderPinLaw" (26 : Nat) ({ cls := "com/example/even_keel/evenkeel/plan/MemberNames", name := "numbersInNameOrder", desc := "()[I" } : Jvm.MethodName)) ∈ tables_1 := List.mem_of_getElem? (i := 69) rfl
theorem w70 : (Jvm.Cond.declares ({ cls := "com/example/even_keel/evenkeel/plan/MemberNames", name := "numbersInNameOrder", desc := "()[I" } : Jvm.MethodName)) ∈ tables_1 := List.mem_of_getElem? (i := 70) rfl
theorem w71 : (Jvm.Cond.instanceMethod ({ cls := "com/example/even_keel/evenkeel/plan/MemberNames", name := "numbersInNameOrder", desc := "()[I" } : Jvm.MethodName)) ∈ tables_1 := List.mem_of_getElem? (i := 71) rfl
theorem w72 : (Jvm.Cond.selects "com/example/even_keel/evenkeel/plan/MemberNames" ({ cls := "com/example/even_keel/evenkeel/plan/MemberNames", name := "numbersInNameOrder", desc := "()[I" } : Jvm.MethodName) ({ cls := "com/example/even_keel/evenkeel/plan/MemberNames", name := "numbersInNameOrder", desc := "()[I" } : Jvm.MethodName)) ∈ tables_1 := List.mem_of_getElem? (i := 72) rfl
theorem w73 : (Jvm.Cond.code ({ cls := "com/example/even_keel/evenkeel/plan/MemberNames", name := "numbersInNameOrder", desc := "()[I" } : Jvm.MethodName) prog_104_method_14_code (7 : Nat) (Option.some (Jvm.ClassFile.FieldType.array Jvm.ClassFile.FieldType.int))) ∈ tables_1 := List.mem_of_getElem? (i := 73) rfl
theorem w74 : (Jvm.Cond.methodLink "com/example/even_keel/evenkeel/plan/MemberNamesNumbersInNameOrderPinLaw" (30 : Nat) ({ cls := "com/example/even_keel/evenkeel/plan/MemberNamesNumbersInNameOrderPinLaw", name := "okAt", desc := "([III[II)Z" } : Jvm.MethodName)) ∈ tables_1 := List.mem_of_getElem? (i := 74) rfl
theorem w75 : (Jvm.Cond.static ({ cls := "com/example/even_keel/evenkeel/plan/MemberNamesNumbersInNameOrderPinLaw", name := "okAt", desc := "([III[II)Z" } : Jvm.MethodName)) ∈ tables_1 := List.mem_of_getElem? (i := 75) rfl
theorem w76 : (Jvm.Cond.initialized "com/example/even_keel/evenkeel/plan/MemberNamesNumbersInNameOrderPinLaw") ∈ tables_1 := List.mem_of_getElem? (i := 76) rfl
theorem w77 : (Jvm.Cond.code ({ cls := "com/example/even_keel/evenkeel/plan/MemberNamesNumbersInNameOrderPinLaw", name := "okAt", desc := "([III[II)Z" } : Jvm.MethodName) method_4_code (7 : Nat) (Option.some Jvm.ClassFile.FieldType.boolean)) ∈ tables_1 := List.mem_of_getElem? (i := 77) rfl
theorem w78 : (Jvm.Cond.methodLink "com/example/even_keel/evenkeel/plan/MemberNamesNumbersInNameOrderPinLaw" (7 : Nat) ({ cls := "com/example/even_keel/evenkeel/plan/MemberNamesNumbersInNameOrderPinLaw", name := "inTaken", desc := "(I[II)Z" } : Jvm.MethodName)) ∈ tables_1 := List.mem_of_getElem? (i := 78) rfl
theorem w79 : (Jvm.Cond.static ({ cls := "com/example/even_keel/evenkeel/plan/MemberNamesNumbersInNameOrderPinLaw", name := "inTaken", desc := "(I[II)Z" } : Jvm.MethodName)) ∈ tables_1 := List.mem_of_getElem? (i := 79) rfl
theorem w80 : (Jvm.Cond.code ({ cls := "com/example/even_keel/evenkeel/plan/MemberNamesNumbersInNameOrderPinLaw", name := "inTaken", desc := "(I[II)Z" } : Jvm.MethodName) method_3_code (3 : Nat) (Option.some Jvm.ClassFile.FieldType.boolean)) ∈ tables_1 := List.mem_of_getElem? (i := 80) rfl
theorem w81 : (Jvm.Cond.constantLong "com/example/even_keel/evenkeel/plan/MemberNames" (56 : Nat) (10 : Int64)) ∈ tables_1 := List.mem_of_getElem? (i := 81) rfl
theorem w82 : (Jvm.Cond.constantLong "com/example/even_keel/evenkeel/plan/MemberNames" (98 : Nat) (9 : Int64)) ∈ tables_1 := List.mem_of_getElem? (i := 82) rfl
theorem w83 : (Jvm.Cond.methodLink "com/example/even_keel/evenkeel/plan/MemberNamesNumbersInNameOrderPinLaw" (13 : Nat) ({ cls := "com/example/even_keel/evenkeel/plan/MemberNamesNumbersInNameOrderPinLaw", name := "key", desc := "(I)I" } : Jvm.MethodName)) ∈ tables_1 := List.mem_of_getElem? (i := 83) rfl
theorem w84 : (Jvm.Cond.static ({ cls := "com/example/even_keel/evenkeel/plan/MemberNamesNumbersInNameOrderPinLaw", name := "key", desc := "(I)I" } : Jvm.MethodName)) ∈ tables_1 := List.mem_of_getElem? (i := 84) rfl
theorem w85 : (Jvm.Cond.code ({ cls := "com/example/even_keel/evenkeel/plan/MemberNamesNumbersInNameOrderPinLaw", name := "key", desc := "(I)I" } : Jvm.MethodName) method_2_code (1 : Nat) (Option.some Jvm.ClassFile.FieldType.int)) ∈ tables_1 := List.mem_of_getElem? (i := 85) rfl
theorem d1_0 : decode prog_104_method_1_code 0 = .ok (.aload_n 0, 1) := by decide +kernel
theorem d1_1 : decode prog_104_method_1_code 1 = .ok (.invokespecial 1, 3) := by decide +kernel
theorem d1_4 : decode prog_104_method_1_code 4 = .ok (.aload_n 0, 1) := by decide +kernel
theorem d1_5 : decode prog_104_method_1_code 5 = .ok (.iconst (-1), 1) := by decide +kernel
theorem d1_6 : decode prog_104_method_1_code 6 = .ok (.putfield 7, 3) := by decide +kernel
theorem d1_9 : decode prog_104_method_1_code 9 = .ok (.aload_n 0, 1) := by decide +kernel
theorem d1_10 : decode prog_104_method_1_code 10 = .ok (.new 13, 3) := by decide +kernel
theorem d1_13 : decode prog_104_method_1_code 13 = .ok (.dup, 1) := by decide +kernel
theorem d1_14 : decode prog_104_method_1_code 14 = .ok (.invokespecial 15, 3) := by decide +kernel
theorem d1_17 : decode prog_104_method_1_code 17 = .ok (.putfield 16, 3) := by decide +kernel
theorem d1_20 : decode prog_104_method_1_code 20 = .ok (.aload_n 0, 1) := by decide +kernel
theorem d1_21 : decode prog_104_method_1_code 21 = .ok (.iload_n 1, 1) := by decide +kernel
theorem d1_22 : decode prog_104_method_1_code 22 = .ok (.putfield 20, 3) := by decide +kernel
theorem d1_25 : decode prog_104_method_1_code 25 = .ok (.aload_n 0, 1) := by decide +kernel
theorem d1_26 : decode prog_104_method_1_code 26 = .ok (.iload_n 1, 1) := by decide +kernel
theorem d1_27 : decode prog_104_method_1_code 27 = .ok (.iconst 1, 1) := by decide +kernel
theorem d1_28 : decode prog_104_method_1_code 28 = .ok (.iadd, 1) := by decide +kernel
theorem d1_29 : decode prog_104_method_1_code 29 = .ok (.newarray .boolean, 2) := by decide +kernel
theorem d1_31 : decode prog_104_method_1_code 31 = .ok (.putfield 23, 3) := by decide +kernel
theorem d1_34 : decode prog_104_method_1_code 34 = .ok (.return_, 1) := by decide +kernel
theorem d3_0 : decode jdk_93_method_1_code 0 = .ok (.aload_n 0, 1) := by decide +kernel
theorem d3_1 : decode jdk_93_method_1_code 1 = .ok (.invokespecial 1, 3) := by decide +kernel
theorem d3_4 : decode jdk_93_method_1_code 4 = .ok (.aload_n 0, 1) := by decide +kernel
theorem d3_5 : decode jdk_93_method_1_code 5 = .ok (.new 7, 3) := by decide +kernel
theorem d3_8 : decode jdk_93_method_1_code 8 = .ok (.dup, 1) := by decide +kernel
theorem d3_9 : decode jdk_93_method_1_code 9 = .ok (.invokespecial 9, 3) := by decide +kernel
theorem d3_12 : decode jdk_93_method_1_code 12 = .ok (.putfield 10, 3) := by decide +kernel
theorem d3_15 : decode jdk_93_method_1_code 15 = .ok (.return_, 1) := by decide +kernel
theorem d4_0 : decode jdk_91_method_1_code 0 = .ok (.aload_n 0, 1) := by decide +kernel
theorem d4_1 : decode jdk_91_method_1_code 1 = .ok (.invokespecial 1, 3) := by decide +kernel
theorem d4_4 : decode jdk_91_method_1_code 4 = .ok (.return_, 1) := by decide +kernel
theorem d5_0 : decode jdk_22_method_1_code 0 = .ok (.aload_n 0, 1) := by decide +kernel
theorem d5_1 : decode jdk_22_method_1_code 1 = .ok (.invokespecial 1, 3) := by decide +kernel
theorem d5_4 : decode jdk_22_method_1_code 4 = .ok (.return_, 1) := by decide +kernel
theorem d6_0 : decode jdk_69_method_7_code 0 = .ok (.aload_n 0, 1) := by decide +kernel
theorem d6_1 : decode jdk_69_method_7_code 1 = .ok (.invokespecial 43, 3) := by decide +kernel
theorem d6_4 : decode jdk_69_method_7_code 4 = .ok (.aload_n 0, 1) := by decide +kernel
theorem d6_5 : decode jdk_69_method_7_code 5 = .ok (.ldc 92, 2) := by decide +kernel
theorem d6_7 : decode jdk_69_method_7_code 7 = .ok (.putfield 81, 3) := by decide +kernel
theorem d6_10 : decode jdk_69_method_7_code 10 = .ok (.return_, 1) := by decide +kernel
theorem d7_0 : decode jdk_71_method_1_code 0 = .ok (.aload_n 0, 1) := by decide +kernel
theorem d7_1 : decode jdk_71_method_1_code 1 = .ok (.invokespecial 1, 3) := by decide +kernel
theorem d7_4 : decode jdk_71_method_1_code 4 = .ok (.return_, 1) := by decide +kernel
theorem d8_0 : decode prog_104_method_10_code 0 = .ok (.aload_n 0, 1) := by decide +kernel
theorem d8_1 : decode prog_104_method_10_code 1 = .ok (.getfield 23, 3) := by decide +kernel
theorem d8_4 : decode prog_104_method_10_code 4 = .ok (.iload_n 1, 1) := by decide +kernel
theorem d8_5 : decode prog_104_method_10_code 5 = .ok (.iconst 1, 1) := by decide +kernel
theorem d8_6 : decode prog_104_method_10_code 6 = .ok (.bastore, 1) := by decide +kernel
theorem d8_7 : decode prog_104_method_10_code 7 = .ok (.aload_n 0, 1) := by decide +kernel
theorem d8_8 : decode prog_104_method_10_code 8 = .ok (.dup, 1) := by decide +kernel
theorem d8_9 : decode prog_104_method_10_code 9 = .ok (.getfield 75, 3) := by decide +kernel
theorem d8_12 : decode prog_104_method_10_code 12 = .ok (.iconst 1, 1) := by decide +kernel
theorem d8_13 : decode prog_104_method_10_code 13 = .ok (.iadd, 1) := by decide +kernel
theorem d8_14 : decode prog_104_method_10_code 14 = .ok (.putfield 75, 3) := by decide +kernel
theorem d8_17 : decode prog_104_method_10_code 17 = .ok (.aload_n 0, 1) := by decide +kernel
theorem d8_18 : decode prog_104_method_10_code 18 = .ok (.aload_n 0, 1) := by decide +kernel
theorem d8_19 : decode prog_104_method_10_code 19 = .ok (.getfield 7, 3) := by decide +kernel
theorem d8_22 : decode prog_104_method_10_code 22 = .ok (.iload_n 1, 1) := by decide +kernel
theorem d8_23 : decode prog_104_method_10_code 23 = .ok (.invokestatic 78, 3) := by decide +kernel
theorem d8_26 : decode prog_104_method_10_code 26 = .ok (.putfield 7, 3) := by decide +kernel
theorem d8_29 : decode prog_104_method_10_code 29 = .ok (.return_, 1) := by decide +kernel
theorem d9_0 : decode jdk_29_method_65_code 0 = .ok (.iload_n 0, 1) := by decide +kernel
theorem d9_1 : decode jdk_29_method_65_code 1 = .ok (.iload_n 1, 1) := by decide +kernel
theorem d9_2 : decode jdk_29_method_65_code 2 = .ok (.if_icmp .lt 7, 3) := by decide +kernel
theorem d9_5 : decode jdk_29_method_65_code 5 = .ok (.iload_n 0, 1) := by decide +kernel
theorem d9_6 : decode jdk_29_method_65_code 6 = .ok (.goto 4, 3) := by decide +kernel
theorem d9_9 : decode jdk_29_method_65_code 9 = .ok (.iload_n 1, 1) := by decide +kernel
theorem d9_10 : decode jdk_29_method_65_code 10 = .ok (.ireturn, 1) := by decide +kernel
theorem d10_0 : decode prog_104_method_14_code 0 = .ok (.aload_n 0, 1) := by decide +kernel
theorem d10_1 : decode prog_104_method_14_code 1 = .ok (.getfield 75, 3) := by decide +kernel
theorem d10_4 : decode prog_104_method_14_code 4 = .ok (.newarray .int, 2) := by decide +kernel
theorem d10_6 : decode prog_104_method_14_code 6 = .ok (.astore_n 1, 1) := by decide +kernel
theorem d10_7 : decode prog_104_method_14_code 7 = .ok (.aload_n 0, 1) := by decide +kernel
theorem d10_8 : decode prog_104_method_14_code 8 = .ok (.getfield 7, 3) := by decide +kernel
theorem d10_11 : decode prog_104_method_14_code 11 = .ok (.istore_n 2, 1) := by decide +kernel
theorem d10_12 : decode prog_104_method_14_code 12 = .ok (.iload_n 2, 1) := by decide +kernel
theorem d10_13 : decode prog_104_method_14_code 13 = .ok (.ifCond .ge 5, 3) := by decide +kernel
theorem d10_16 : decode prog_104_method_14_code 16 = .ok (.aload_n 1, 1) := by decide +kernel
theorem d10_17 : decode prog_104_method_14_code 17 = .ok (.areturn, 1) := by decide +kernel
theorem d10_18 : decode prog_104_method_14_code 18 = .ok (.iconst 0, 1) := by decide +kernel
theorem d10_19 : decode prog_104_method_14_code 19 = .ok (.istore_n 3, 1) := by decide +kernel
theorem d10_20 : decode prog_104_method_14_code 20 = .ok (.aload_n 0, 1) := by decide +kernel
theorem d10_21 : decode prog_104_method_14_code 21 = .ok (.getfield 23, 3) := by decide +kernel
theorem d10_24 : decode prog_104_method_14_code 24 = .ok (.iconst 0, 1) := by decide +kernel
theorem d10_25 : decode prog_104_method_14_code 25 = .ok (.baload, 1) := by decide +kernel
theorem d10_26 : decode prog_104_method_14_code 26 = .ok (.ifCond .eq 10, 3) := by decide +kernel
theorem d10_29 : decode prog_104_method_14_code 29 = .ok (.aload_n 1, 1) := by decide +kernel
theorem d10_30 : decode prog_104_method_14_code 30 = .ok (.iload_n 3, 1) := by decide +kernel
theorem d10_31 : decode prog_104_method_14_code 31 = .ok (.iinc 3 1, 3) := by decide +kernel
theorem d10_34 : decode prog_104_method_14_code 34 = .ok (.iconst 0, 1) := by decide +kernel
theorem d10_35 : decode prog_104_method_14_code 35 = .ok (.iastore, 1) := by decide +kernel
theorem d10_36 : decode prog_104_method_14_code 36 = .ok (.lconst 1, 1) := by decide +kernel
theorem d10_37 : decode prog_104_method_14_code 37 = .ok (.lstore 4, 2) := by decide +kernel
theorem d10_39 : decode prog_104_method_14_code 39 = .ok (.iconst 0, 1) := by decide +kernel
theorem d10_40 : decode prog_104_method_14_code 40 = .ok (.istore 6, 2) := by decide +kernel
theorem d10_42 : decode prog_104_method_14_code 42 = .ok (.iload 6, 2) := by decide +kernel
theorem d10_44 : decode prog_104_method_14_code 44 = .ok (.iload_n 2, 1) := by decide +kernel
theorem d10_45 : decode prog_104_method_14_code 45 = .ok (.if_icmp .ge 92, 3) := by decide +kernel
theorem d10_48 : decode prog_104_method_14_code 48 = .ok (.aload_n 0, 1) := by decide +kernel
theorem d10_49 : decode prog_104_method_14_code 49 = .ok (.getfield 23, 3) := by decide +kernel
theorem d10_52 : decode prog_104_method_14_code 52 = .ok (.lload 4, 2) := by decide +kernel
theorem d10_54 : decode prog_104_method_14_code 54 = .ok (.l2i, 1) := by decide +kernel
theorem d10_55 : decode prog_104_method_14_code 55 = .ok (.baload, 1) := by decide +kernel
theorem d10_56 : decode prog_104_method_14_code 56 = .ok (.ifCond .eq 12, 3) := by decide +kernel
theorem d10_59 : decode prog_104_method_14_code 59 = .ok (.aload_n 1, 1) := by decide +kernel
theorem d10_60 : decode prog_104_method_14_code 60 = .ok (.iload_n 3, 1) := by decide +kernel
theorem d10_61 : decode prog_104_method_14_code 61 = .ok (.iinc 3 1, 3) := by decide +kernel
theorem d10_64 : decode prog_104_method_14_code 64 = .ok (.lload 4, 2) := by decide +kernel
theorem d10_66 : decode prog_104_method_14_code 66 = .ok (.l2i, 1) := by decide +kernel
theorem d10_67 : decode prog_104_method_14_code 67 = .ok (.iastore, 1) := by decide +kernel
theorem d10_68 : decode prog_104_method_14_code 68 = .ok (.ldc2_w 56, 3) := by decide +kernel
theorem d10_71 : decode prog_104_method_14_code 71 = .ok (.lload 4, 2) := by decide +kernel
theorem d10_73 : decode prog_104_method_14_code 73 = .ok (.lmul, 1) := by decide +kernel
theorem d10_74 : decode prog_104_method_14_code 74 = .ok (.iload_n 2, 1) := by decide +kernel
theorem d10_75 : decode prog_104_method_14_code 75 = .ok (.i2l, 1) := by decide +kernel
theorem d10_76 : decode prog_104_method_14_code 76 = .ok (.lcmp, 1) := by decide +kernel
theorem d10_77 : decode prog_104_method_14_code 77 = .ok (.ifCond .gt 14, 3) := by decide +kernel
theorem d10_80 : decode prog_104_method_14_code 80 = .ok (.lload 4, 2) := by decide +kernel
theorem d10_82 : decode prog_104_method_14_code 82 = .ok (.ldc2_w 56, 3) := by decide +kernel
theorem d10_85 : decode prog_104_method_14_code 85 = .ok (.lmul, 1) := by decide +kernel
theorem d10_86 : decode prog_104_method_14_code 86 = .ok (.lstore 4, 2) := by decide +kernel
theorem d10_88 : decode prog_104_method_14_code 88 = .ok (.goto 43, 3) := by decide +kernel
theorem d10_91 : decode prog_104_method_14_code 91 = .ok (.lload 4, 2) := by decide +kernel
theorem d10_93 : decode prog_104_method_14_code 93 = .ok (.ldc2_w 56, 3) := by decide +kernel
theorem d10_96 : decode prog_104_method_14_code 96 = .ok (.lrem, 1) := by decide +kernel
theorem d10_97 : decode prog_104_method_14_code 97 = .ok (.ldc2_w 98, 3) := by decide +kernel
theorem d10_100 : decode prog_104_method_14_code 100 = .ok (.lcmp, 1) := by decide +kernel
theorem d10_101 : decode prog_104_method_14_code 101 = .ok (.ifCond .eq 13, 3) := by decide +kernel
theorem d10_104 : decode prog_104_method_14_code 104 = .ok (.lload 4, 2) := by decide +kernel
theorem d10_106 : decode prog_104_method_14_code 106 = .ok (.lconst 1, 1) := by decide +kernel
theorem d10_107 : decode prog_104_method_14_code 107 = .ok (.ladd, 1) := by decide +kernel
theorem d10_108 : decode prog_104_method_14_code 108 = .ok (.iload_n 2, 1) := by decide +kernel
theorem d10_109 : decode prog_104_method_14_code 109 = .ok (.i2l, 1) := by decide +kernel
theorem d10_110 : decode prog_104_method_14_code 110 = .ok (.lcmp, 1) := by decide +kernel
theorem d10_111 : decode prog_104_method_14_code 111 = .ok (.ifCond .le 14, 3) := by decide +kernel
theorem d10_114 : decode prog_104_method_14_code 114 = .ok (.lload 4, 2) := by decide +kernel
theorem d10_116 : decode prog_104_method_14_code 116 = .ok (.ldc2_w 56, 3) := by decide +kernel
theorem d10_119 : decode prog_104_method_14_code 119 = .ok (.ldiv, 1) := by decide +kernel
theorem d10_120 : decode prog_104_method_14_code 120 = .ok (.lstore 4, 2) := by decide +kernel
theorem d10_122 : decode prog_104_method_14_code 122 = .ok (.goto (-31), 3) := by decide +kernel
theorem d10_125 : decode prog_104_method_14_code 125 = .ok (.lload 4, 2) := by decide +kernel
theorem d10_127 : decode prog_104_method_14_code 127 = .ok (.lconst 1, 1) := by decide +kernel
theorem d10_128 : decode prog_104_method_14_code 128 = .ok (.ladd, 1) := by decide +kernel
theorem d10_129 : decode prog_104_method_14_code 129 = .ok (.lstore 4, 2) := by decide +kernel
theorem d10_131 : decode prog_104_method_14_code 131 = .ok (.iinc 6 1, 3) := by decide +kernel
theorem d10_134 : decode prog_104_method_14_code 134 = .ok (.goto (-92), 3) := by decide +kernel
theorem d10_137 : decode prog_104_method_14_code 137 = .ok (.aload_n 1, 1) := by decide +kernel
theorem d10_138 : decode prog_104_method_14_code 138 = .ok (.areturn, 1) := by decide +kernel
theorem d11_0 : decode method_4_code 0 = .ok (.iload_n 1, 1) := by decide +kernel
theorem d11_1 : decode method_4_code 1 = .ok (.aload_n 0, 1) := by decide +kernel
theorem d11_2 : decode method_4_code 2 = .ok (.arraylength, 1) := by decide +kernel
theorem d11_3 : decode method_4_code 3 = .ok (.if_icmp .lt 5, 3) := by decide +kernel
theorem d11_6 : decode method_4_code 6 = .ok (.iconst 1, 1) := by decide +kernel
theorem d11_7 : decode method_4_code 7 = .ok (.ireturn, 1) := by decide +kernel
theorem d11_8 : decode method_4_code 8 = .ok (.aload_n 0, 1) := by decide +kernel
theorem d11_9 : decode method_4_code 9 = .ok (.iload_n 1, 1) := by decide +kernel
theorem d11_10 : decode method_4_code 10 = .ok (.iaload, 1) := by decide +kernel
theorem d11_11 : decode method_4_code 11 = .ok (.istore 5, 2) := by decide +kernel
theorem d11_13 : decode method_4_code 13 = .ok (.iload 5, 2) := by decide +kernel
theorem d11_15 : decode method_4_code 15 = .ok (.ifCond .lt 9, 3) := by decide +kernel
theorem d11_18 : decode method_4_code 18 = .ok (.iload 5, 2) := by decide +kernel
theorem d11_20 : decode method_4_code 20 = .ok (.iload_n 2, 1) := by decide +kernel
theorem d11_21 : decode method_4_code 21 = .ok (.if_icmp .le 5, 3) := by decide +kernel
theorem d11_26 : decode method_4_code 26 = .ok (.iload 5, 2) := by decide +kernel
theorem d11_28 : decode method_4_code 28 = .ok (.aload_n 3, 1) := by decide +kernel
theorem d11_29 : decode method_4_code 29 = .ok (.iload 4, 2) := by decide +kernel
theorem d11_31 : decode method_4_code 31 = .ok (.invokestatic 7, 3) := by decide +kernel
theorem d11_34 : decode method_4_code 34 = .ok (.ifCond .ne 5, 3) := by decide +kernel
theorem d11_39 : decode method_4_code 39 = .ok (.iload_n 1, 1) := by decide +kernel
theorem d11_40 : decode method_4_code 40 = .ok (.ifCond .le 38, 3) := by decide +kernel
theorem d11_43 : decode method_4_code 43 = .ok (.aload_n 0, 1) := by decide +kernel
theorem d11_44 : decode method_4_code 44 = .ok (.iload_n 1, 1) := by decide +kernel
theorem d11_45 : decode method_4_code 45 = .ok (.iconst 1, 1) := by decide +kernel
theorem d11_46 : decode method_4_code 46 = .ok (.isub, 1) := by decide +kernel
theorem d11_47 : decode method_4_code 47 = .ok (.iaload, 1) := by decide +kernel
theorem d11_48 : decode method_4_code 48 = .ok (.istore 6, 2) := by decide +kernel
theorem d11_50 : decode method_4_code 50 = .ok (.iload 6, 2) := by decide +kernel
theorem d11_52 : decode method_4_code 52 = .ok (.ifCond .lt 9, 3) := by decide +kernel
theorem d11_55 : decode method_4_code 55 = .ok (.iload 6, 2) := by decide +kernel
theorem d11_57 : decode method_4_code 57 = .ok (.iload_n 2, 1) := by decide +kernel
theorem d11_58 : decode method_4_code 58 = .ok (.if_icmp .le 5, 3) := by decide +kernel
theorem d11_63 : decode method_4_code 63 = .ok (.iload 6, 2) := by decide +kernel
theorem d11_65 : decode method_4_code 65 = .ok (.invokestatic 13, 3) := by decide +kernel
theorem d11_68 : decode method_4_code 68 = .ok (.iload 5, 2) := by decide +kernel
theorem d11_70 : decode method_4_code 70 = .ok (.invokestatic 13, 3) := by decide +kernel
theorem d11_73 : decode method_4_code 73 = .ok (.if_icmp .lt 5, 3) := by decide +kernel
theorem d11_78 : decode method_4_code 78 = .ok (.iconst 1, 1) := by decide +kernel
theorem d11_79 : decode method_4_code 79 = .ok (.ireturn, 1) := by decide +kernel
theorem d12_0 : decode method_3_code 0 = .ok (.iload_n 2, 1) := by decide +kernel
theorem d12_1 : decode method_3_code 1 = .ok (.ifCond .le 10, 3) := by decide +kernel
theorem d12_4 : decode method_3_code 4 = .ok (.aload_n 1, 1) := by decide +kernel
theorem d12_5 : decode method_3_code 5 = .ok (.iconst 0, 1) := by decide +kernel
theorem d12_6 : decode method_3_code 6 = .ok (.iaload, 1) := by decide +kernel
theorem d12_7 : decode method_3_code 7 = .ok (.iload_n 0, 1) := by decide +kernel
theorem d12_8 : decode method_3_code 8 = .ok (.if_icmp .eq 39, 3) := by decide +kernel
theorem d12_11 : decode method_3_code 11 = .ok (.iload_n 2, 1) := by decide +kernel
theorem d12_12 : decode method_3_code 12 = .ok (.iconst 1, 1) := by decide +kernel
theorem d12_13 : decode method_3_code 13 = .ok (.if_icmp .le 10, 3) := by decide +kernel
theorem d12_16 : decode method_3_code 16 = .ok (.aload_n 1, 1) := by decide +kernel
theorem d12_17 : decode method_3_code 17 = .ok (.iconst 1, 1) := by decide +kernel
theorem d12_18 : decode method_3_code 18 = .ok (.iaload, 1) := by decide +kernel
theorem d12_19 : decode method_3_code 19 = .ok (.iload_n 0, 1) := by decide +kernel
theorem d12_20 : decode method_3_code 20 = .ok (.if_icmp .eq 27, 3) := by decide +kernel
theorem d12_23 : decode method_3_code 23 = .ok (.iload_n 2, 1) := by decide +kernel
theorem d12_24 : decode method_3_code 24 = .ok (.iconst 2, 1) := by decide +kernel
theorem d12_25 : decode method_3_code 25 = .ok (.if_icmp .le 10, 3) := by decide +kernel
theorem d12_28 : decode method_3_code 28 = .ok (.aload_n 1, 1) := by decide +kernel
theorem d12_29 : decode method_3_code 29 = .ok (.iconst 2, 1) := by decide +kernel
theorem d12_30 : decode method_3_code 30 = .ok (.iaload, 1) := by decide +kernel
theorem d12_31 : decode method_3_code 31 = .ok (.iload_n 0, 1) := by decide +kernel
theorem d12_32 : decode method_3_code 32 = .ok (.if_icmp .eq 15, 3) := by decide +kernel
theorem d12_35 : decode method_3_code 35 = .ok (.iload_n 2, 1) := by decide +kernel
theorem d12_36 : decode method_3_code 36 = .ok (.iconst 3, 1) := by decide +kernel
theorem d12_37 : decode method_3_code 37 = .ok (.if_icmp .le 14, 3) := by decide +kernel
theorem d12_40 : decode method_3_code 40 = .ok (.aload_n 1, 1) := by decide +kernel
theorem d12_41 : decode method_3_code 41 = .ok (.iconst 3, 1) := by decide +kernel
theorem d12_42 : decode method_3_code 42 = .ok (.iaload, 1) := by decide +kernel
theorem d12_43 : decode method_3_code 43 = .ok (.iload_n 0, 1) := by decide +kernel
theorem d12_44 : decode method_3_code 44 = .ok (.if_icmp .ne 7, 3) := by decide +kernel
theorem d12_47 : decode method_3_code 47 = .ok (.iconst 1, 1) := by decide +kernel
theorem d12_48 : decode method_3_code 48 = .ok (.goto 4, 3) := by decide +kernel
theorem d12_51 : decode method_3_code 51 = .ok (.iconst 0, 1) := by decide +kernel
theorem d12_52 : decode method_3_code 52 = .ok (.ireturn, 1) := by decide +kernel
theorem d13_0 : decode method_2_code 0 = .ok (.iload_n 0, 1) := by decide +kernel
theorem d13_1 : decode method_2_code 1 = .ok (.bipush 10, 2) := by decide +kernel
theorem d13_3 : decode method_2_code 3 = .ok (.if_icmp .ge 11, 3) := by decide +kernel
theorem d13_6 : decode method_2_code 6 = .ok (.iload_n 0, 1) := by decide +kernel
theorem d13_7 : decode method_2_code 7 = .ok (.iconst 1, 1) := by decide +kernel
theorem d13_8 : decode method_2_code 8 = .ok (.iadd, 1) := by decide +kernel
theorem d13_9 : decode method_2_code 9 = .ok (.sipush 1331, 3) := by decide +kernel
theorem d13_12 : decode method_2_code 12 = .ok (.imul, 1) := by decide +kernel
theorem d13_13 : decode method_2_code 13 = .ok (.ireturn, 1) := by decide +kernel
theorem d13_14 : decode method_2_code 14 = .ok (.iload_n 0, 1) := by decide +kernel
theorem d13_15 : decode method_2_code 15 = .ok (.bipush 100, 2) := by decide +kernel
theorem d13_17 : decode method_2_code 17 = .ok (.if_icmp .ge 24, 3) := by decide +kernel
theorem d13_20 : decode method_2_code 20 = .ok (.iload_n 0, 1) := by decide +kernel
theorem d13_21 : decode method_2_code 21 = .ok (.bipush 10, 2) := by decide +kernel
theorem d13_23 : decode method_2_code 23 = .ok (.idiv, 1) := by decide +kernel
theorem d13_24 : decode method_2_code 24 = .ok (.iconst 1, 1) := by decide +kernel
theorem d13_25 : decode method_2_code 25 = .ok (.iadd, 1) := by decide +kernel
theorem d13_26 : decode method_2_code 26 = .ok (.sipush 1331, 3) := by decide +kernel
theorem d13_29 : decode method_2_code 29 = .ok (.imul, 1) := by decide +kernel
theorem d13_30 : decode method_2_code 30 = .ok (.iload_n 0, 1) := by decide +kernel
theorem d13_31 : decode method_2_code 31 = .ok (.bipush 10, 2) := by decide +kernel
theorem d13_33 : decode method_2_code 33 = .ok (.irem, 1) := by decide +kernel
theorem d13_34 : decode method_2_code 34 = .ok (.iconst 1, 1) := by decide +kernel
theorem d13_35 : decode method_2_code 35 = .ok (.iadd, 1) := by decide +kernel
theorem d13_36 : decode method_2_code 36 = .ok (.bipush 121, 2) := by decide +kernel
theorem d13_38 : decode method_2_code 38 = .ok (.imul, 1) := by decide +kernel
theorem d13_39 : decode method_2_code 39 = .ok (.iadd, 1) := by decide +kernel
theorem d13_40 : decode method_2_code 40 = .ok (.ireturn, 1) := by decide +kernel
theorem d13_41 : decode method_2_code 41 = .ok (.iload_n 0, 1) := by decide +kernel
theorem d13_42 : decode method_2_code 42 = .ok (.sipush 1000, 3) := by decide +kernel
theorem d13_45 : decode method_2_code 45 = .ok (.if_icmp .ge 37, 3) := by decide +kernel
theorem d13_48 : decode method_2_code 48 = .ok (.iload_n 0, 1) := by decide +kernel
theorem d13_49 : decode method_2_code 49 = .ok (.bipush 100, 2) := by decide +kernel
theorem d13_51 : decode method_2_code 51 = .ok (.idiv, 1) := by decide +kernel
theorem d13_52 : decode method_2_code 52 = .ok (.iconst 1, 1) := by decide +kernel
theorem d13_53 : decode method_2_code 53 = .ok (.iadd, 1) := by decide +kernel
theorem d13_54 : decode method_2_code 54 = .ok (.sipush 1331, 3) := by decide +kernel
theorem d13_57 : decode method_2_code 57 = .ok (.imul, 1) := by decide +kernel
theorem d13_58 : decode method_2_code 58 = .ok (.iload_n 0, 1) := by decide +kernel
theorem d13_59 : decode method_2_code 59 = .ok (.bipush 10, 2) := by decide +kernel
theorem d13_61 : decode method_2_code 61 = .ok (.idiv, 1) := by decide +kernel
theorem d13_62 : decode method_2_code 62 = .ok (.bipush 10, 2) := by decide +kernel
theorem d13_64 : decode method_2_code 64 = .ok (.irem, 1) := by decide +kernel
theorem d13_65 : decode method_2_code 65 = .ok (.iconst 1, 1) := by decide +kernel
theorem d13_66 : decode method_2_code 66 = .ok (.iadd, 1) := by decide +kernel
theorem d13_67 : decode method_2_code 67 = .ok (.bipush 121, 2) := by decide +kernel
theorem d13_69 : decode method_2_code 69 = .ok (.imul, 1) := by decide +kernel
theorem d13_70 : decode method_2_code 70 = .ok (.iadd, 1) := by decide +kernel
theorem d13_71 : decode method_2_code 71 = .ok (.iload_n 0, 1) := by decide +kernel
theorem d13_72 : decode method_2_code 72 = .ok (.bipush 10, 2) := by decide +kernel
theorem d13_74 : decode method_2_code 74 = .ok (.irem, 1) := by decide +kernel
theorem d13_75 : decode method_2_code 75 = .ok (.iconst 1, 1) := by decide +kernel
theorem d13_76 : decode method_2_code 76 = .ok (.iadd, 1) := by decide +kernel
theorem d13_77 : decode method_2_code 77 = .ok (.bipush 11, 2) := by decide +kernel
theorem d13_79 : decode method_2_code 79 = .ok (.imul, 1) := by decide +kernel
theorem d13_80 : decode method_2_code 80 = .ok (.iadd, 1) := by decide +kernel
theorem d13_81 : decode method_2_code 81 = .ok (.ireturn, 1) := by decide +kernel
theorem d13_82 : decode method_2_code 82 = .ok (.iload_n 0, 1) := by decide +kernel
theorem d13_83 : decode method_2_code 83 = .ok (.sipush 1000, 3) := by decide +kernel
theorem d13_86 : decode method_2_code 86 = .ok (.idiv, 1) := by decide +kernel
theorem d13_87 : decode method_2_code 87 = .ok (.iconst 1, 1) := by decide +kernel
theorem d13_88 : decode method_2_code 88 = .ok (.iadd, 1) := by decide +kernel
theorem d13_89 : decode method_2_code 89 = .ok (.sipush 1331, 3) := by decide +kernel
theorem d13_92 : decode method_2_code 92 = .ok (.imul, 1) := by decide +kernel
theorem d13_93 : decode method_2_code 93 = .ok (.iload_n 0, 1) := by decide +kernel
theorem d13_94 : decode method_2_code 94 = .ok (.bipush 100, 2) := by decide +kernel
theorem d13_96 : decode method_2_code 96 = .ok (.idiv, 1) := by decide +kernel
theorem d13_97 : decode method_2_code 97 = .ok (.bipush 10, 2) := by decide +kernel
theorem d13_99 : decode method_2_code 99 = .ok (.irem, 1) := by decide +kernel
theorem d13_100 : decode method_2_code 100 = .ok (.iconst 1, 1) := by decide +kernel
theorem d13_101 : decode method_2_code 101 = .ok (.iadd, 1) := by decide +kernel
theorem d13_102 : decode method_2_code 102 = .ok (.bipush 121, 2) := by decide +kernel
theorem d13_104 : decode method_2_code 104 = .ok (.imul, 1) := by decide +kernel
theorem d13_105 : decode method_2_code 105 = .ok (.iadd, 1) := by decide +kernel
theorem d13_106 : decode method_2_code 106 = .ok (.iload_n 0, 1) := by decide +kernel
theorem d13_107 : decode method_2_code 107 = .ok (.bipush 10, 2) := by decide +kernel
theorem d13_109 : decode method_2_code 109 = .ok (.idiv, 1) := by decide +kernel
theorem d13_110 : decode method_2_code 110 = .ok (.bipush 10, 2) := by decide +kernel
theorem d13_112 : decode method_2_code 112 = .ok (.irem, 1) := by decide +kernel
theorem d13_113 : decode method_2_code 113 = .ok (.iconst 1, 1) := by decide +kernel
theorem d13_114 : decode method_2_code 114 = .ok (.iadd, 1) := by decide +kernel
theorem d13_115 : decode method_2_code 115 = .ok (.bipush 11, 2) := by decide +kernel
theorem d13_117 : decode method_2_code 117 = .ok (.imul, 1) := by decide +kernel
theorem d13_118 : decode method_2_code 118 = .ok (.iadd, 1) := by decide +kernel
theorem d13_119 : decode method_2_code 119 = .ok (.iload_n 0, 1) := by decide +kernel
theorem d13_120 : decode method_2_code 120 = .ok (.bipush 10, 2) := by decide +kernel
theorem d13_122 : decode method_2_code 122 = .ok (.irem, 1) := by decide +kernel
theorem d13_123 : decode method_2_code 123 = .ok (.iconst 1, 1) := by decide +kernel
theorem d13_124 : decode method_2_code 124 = .ok (.iadd, 1) := by decide +kernel
theorem d13_125 : decode method_2_code 125 = .ok (.iadd, 1) := by decide +kernel
theorem d13_126 : decode method_2_code 126 = .ok (.ireturn, 1) := by decide +kernel
theorem pd__28_29V : parseMethodDescriptor "()V" = some ⟨[], none⟩ := by decide +kernel
theorem pd__28_29_5bI : parseMethodDescriptor "()[I" = some ⟨[], some (.array .int)⟩ := by decide +kernel
theorem pd__28I_29I : parseMethodDescriptor "(I)I" = some ⟨[.int], some .int⟩ := by decide +kernel
theorem pd__28I_29V : parseMethodDescriptor "(I)V" = some ⟨[.int], none⟩ := by decide +kernel
theorem pd__28II_29I : parseMethodDescriptor "(II)I" = some ⟨[.int, .int], some .int⟩ := by decide +kernel
theorem pd__28I_5bII_29Z : parseMethodDescriptor "(I[II)Z" = some ⟨[.int, (.array .int), .int], some .boolean⟩ := by decide +kernel
theorem pd__28_5bIII_5bII_29Z : parseMethodDescriptor "([III[II)Z" = some ⟨[(.array .int), .int, .int, (.array .int), .int], some .boolean⟩ := by decide +kernel
/-! the numbers' order, in plain numbers -/
def own_key (k : Nat) : Nat :=
  if k < 10 then (k + 1) * 1331
  else if k < 100 then (k / 10 + 1) * 1331 + (k % 10 + 1) * 121
  else if k < 1000 then (k / 100 + 1) * 1331 + (k / 10 % 10 + 1) * 121 + (k % 10 + 1) * 11
  else (k / 1000 + 1) * 1331 + (k / 100 % 10 + 1) * 121 + (k / 10 % 10 + 1) * 11 + (k % 10 + 1)
def own_w (last : Nat) : Nat → Nat → Nat
  | 0, k => k
  | f + 1, k => if k % 10 = 9 ∨ last < k + 1 then own_w last f (k / 10) else k
def own_nx (last k : Nat) : Nat := if last < 10 * k then own_w last 5 k + 1 else 10 * k
def own_seq (last : Nat) : Nat → Nat
  | 0 => 1
  | t + 1 => own_nx last (own_seq last t)
/-! the same, to be reckoned out by the kernel: from k on (its key is q), t more numbers: each at most last, each with a greater key -/
def own_wB (last : Nat) : Nat → Nat → Nat
  | 0, k => k
  | f + 1, k => cond (Nat.beq (Nat.mod k 10) 9 || Nat.ble last k) (own_wB last f (Nat.div k 10)) k
def own_nxB (last k : Nat) : Nat := cond (Nat.ble (Nat.mul 10 k) last) (Nat.mul 10 k) (Nat.succ (own_wB last 5 k))
def own_keyB (k : Nat) : Nat :=
  cond (Nat.ble k 9) (Nat.mul (Nat.succ k) 1331)
  (cond (Nat.ble k 99) (Nat.add (Nat.mul (Nat.succ (Nat.div k 10)) 1331) (Nat.mul (Nat.succ (Nat.mod k 10)) 121))
  (cond (Nat.ble k 999) (Nat.add (Nat.add (Nat.mul (Nat.succ (Nat.div k 100)) 1331) (Nat.mul (Nat.succ (Nat.mod (Nat.div k 10) 10)) 121)) (Nat.mul (Nat.succ (Nat.mod k 10)) 11))
  (Nat.add (Nat.add (Nat.add (Nat.mul (Nat.succ (Nat.div k 1000)) 1331) (Nat.mul (Nat.succ (Nat.mod (Nat.div k 100) 10)) 121)) (Nat.mul (Nat.succ (Nat.mod (Nat.div k 10) 10)) 11)) (Nat.succ (Nat.mod k 10)))))
def own_go (last : Nat) : Nat → Nat → Nat → Bool
  | 0, _, _ => true
  | t + 1, k, q => match own_nxB last k with
    | 0 => false
    | n + 1 => match own_keyB (Nat.succ n) with
      | 0 => false
      | m + 1 => Nat.ble (Nat.succ n) last && (Nat.ble (Nat.succ q) (Nat.succ m) && own_go last t (Nat.succ n) (Nat.succ m))
def own_all : Nat → Nat → Bool
  | 0, _ => true
  | c + 1, n => own_go n (Nat.pred n) 1 2662 && own_all c (Nat.succ n)
theorem own_cond (b : Bool) (p : Prop) [Decidable p] (h : b = true ↔ p) {α : Type} (x y : α) : cond b x y = if p then x else y := by
  by_cases q : p
  · rw [if_pos q, h.mpr q]; rfl
  · rw [if_neg q]
    cases hb : b with
    | false => rfl
    | true => exact absurd (h.mp hb) q
theorem own_wB_eq (last : Nat) : ∀ (f k : Nat), own_wB last f k = own_w last f k := by
  intro f
  induction f with
  | zero => intro k; rfl
  | succ f ih =>
    intro k
    show cond (Nat.beq (k % 10) 9 || Nat.ble last k) (own_wB last f (k / 10)) k = if k % 10 = 9 ∨ last < k + 1 then own_w last f (k / 10) else k
    rw [ih]
    apply own_cond
    rw [Bool.or_eq_true, Nat.beq_eq, Nat.ble_eq]
    omega
theorem own_nxB_eq (last k : Nat) : own_nxB last k = own_nx last k := by
  show cond (Nat.ble (10 * k) last) (10 * k) (own_wB last 5 k + 1) = _
  unfold own_nx
  rw [own_cond (Nat.ble (10 * k) last) (10 * k ≤ last) (by rw [Nat.ble_eq]), own_wB_eq]
  by_cases h : last < 10 * k
  · rw [if_pos h, if_neg (by omega)]
  · rw [if_neg h, if_pos (by omega)]
theorem own_keyB_eq (k : Nat) : own_keyB k = own_key k := by
  show cond (Nat.ble k 9) ((k + 1) * 1331) (cond (Nat.ble k 99) ((k / 10 + 1) * 1331 + (k % 10 + 1) * 121) (cond (Nat.ble k 999) ((k / 100 + 1) * 1331 + (k / 10 % 10 + 1) * 121 + (k % 10 + 1) * 11) ((k / 1000 + 1) * 1331 + (k / 100 % 10 + 1) * 121 + (k / 10 % 10 + 1) * 11 + (k % 10 + 1)))) = _
  unfold own_key
  rw [own_cond (Nat.ble k 9) (k < 10) (by rw [Nat.ble_eq]; omega), own_cond (Nat.ble k 99) (k < 100) (by rw [Nat.ble_eq]; omega), own_cond (Nat.ble k 999) (k < 1000) (by rw [Nat.ble_eq]; omega)]
theorem own_go_at (last : Nat) : ∀ (t k q : Nat), own_go last t k q = true → q = own_key k → ∀ (s : Nat), own_seq last s = k → ∀ i, i < t → (1 ≤ own_seq last (s + i + 1) ∧ own_seq last (s + i + 1) ≤ last ∧ own_key (own_seq last (s + i)) < own_key (own_seq last (s + i + 1))) := by
  intro t
  induction t with
  | zero => intro k q _ _ s _ i hi; omega
  | succ t ih =>
    intro k q hc hq s hs i hi
    have hn : own_seq last (s + 1) = own_nxB last k := by rw [own_nxB_eq]; show own_nx last (own_seq last s) = _; rw [hs]
    simp only [own_go] at hc
    split at hc
    · cases hc
    · rename_i n hnn
      split at hc
      · cases hc
      · rename_i m hmm
        rw [Bool.and_eq_true, Bool.and_eq_true, Nat.ble_eq, Nat.ble_eq] at hc
        obtain ⟨c2, c3, c4⟩ := hc
        rw [hnn] at hn
        have hm : m + 1 = own_key (n + 1) := by rw [← own_keyB_eq]; exact hmm.symm
        match i with
        | 0 =>
          show 1 ≤ own_seq last (s + 1) ∧ _ ∧ own_key (own_seq last s) < own_key (own_seq last (s + 1))
          rw [hn, hs, ← hq]
          exact ⟨by omega, c2, by rw [← hm]; exact c3⟩
        | i + 1 =>
          have r := ih (n + 1) (m + 1) c4 hm (s + 1) hn i (by omega)
          rw [show s + 1 + i = s + (i + 1) by omega] at r
          exact r
theorem own_all_at : ∀ (c n : Nat), own_all c n = true → ∀ i, i < c → own_go (n + i) (n + i - 1) 1 2662 = true := by
  intro c
  induction c with
  | zero => intro n _ i hi; omega
  | succ c ih =>
    intro n h i hi
    simp only [own_all, Bool.and_eq_true] at h
    match i with
    | 0 => exact h.1
    | i + 1 =>
      have r := ih (n + 1) h.2 i (by omega)
      rw [show n + 1 + i = n + (i + 1) by omega] at r
      exact r
theorem own_all0 : own_all 32 0 = true := by decide +kernel
theorem own_all1 : own_all 32 32 = true := by decide +kernel
theorem own_all2 : own_all 32 64 = true := by decide +kernel
theorem own_all3 : own_all 32 96 = true := by decide +kernel
theorem own_all4 : own_all 32 128 = true := by decide +kernel
theorem own_all5 : own_all 32 160 = true := by decide +kernel
theorem own_all6 : own_all 32 192 = true := by decide +kernel
theorem own_all7 : own_all 32 224 = true := by decide +kernel
theorem own_all8 : own_all 32 256 = true := by decide +kernel
theorem own_all9 : own_all 32 288 = true := by decide +kernel
theorem own_all10 : own_all 32 320 = true := by decide +kernel
theorem own_all11 : own_all 32 352 = true := by decide +kernel
theorem own_all12 : own_all 32 384 = true := by decide +kernel
theorem own_all13 : own_all 32 416 = true := by decide +kernel
theorem own_all14 : own_all 32 448 = true := by decide +kernel
theorem own_all15 : own_all 32 480 = true := by decide +kernel
theorem own_all16 : own_all 32 512 = true := by decide +kernel
theorem own_all17 : own_all 32 544 = true := by decide +kernel
theorem own_all18 : own_all 32 576 = true := by decide +kernel
theorem own_all19 : own_all 32 608 = true := by decide +kernel
theorem own_all20 : own_all 32 640 = true := by decide +kernel
theorem own_all21 : own_all 32 672 = true := by decide +kernel
theorem own_all22 : own_all 32 704 = true := by decide +kernel
theorem own_all23 : own_all 32 736 = true := by decide +kernel
theorem own_all24 : own_all 32 768 = true := by decide +kernel
theorem own_all25 : own_all 32 800 = true := by decide +kernel
theorem own_all26 : own_all 32 832 = true := by decide +kernel
theorem own_all27 : own_all 32 864 = true := by decide +kernel
theorem own_all28 : own_all 32 896 = true := by decide +kernel
theorem own_all29 : own_all 32 928 = true := by decide +kernel
theorem own_all30 : own_all 32 960 = true := by decide +kernel
theorem own_all31 : own_all 32 992 = true := by decide +kernel
theorem own_go_ok (last : Nat) (h : last < 1024) : own_go last (last - 1) 1 2662 = true := by
  have e : last = 32 * (last / 32) + last % 32 := by omega
  have h1 : last % 32 < 32 := by omega
  have h2 : last / 32 < 32 := by omega
  generalize last / 32 = a at *
  generalize last % 32 = b at *
  subst e
  match a, h2 with
  | 0, _ => exact own_all_at 32 0 own_all0 b h1
  | 1, _ => exact own_all_at 32 32 own_all1 b h1
  | 2, _ => exact own_all_at 32 64 own_all2 b h1
  | 3, _ => exact own_all_at 32 96 own_all3 b h1
  | 4, _ => exact own_all_at 32 128 own_all4 b h1
  | 5, _ => exact own_all_at 32 160 own_all5 b h1
  | 6, _ => exact own_all_at 32 192 own_all6 b h1
  | 7, _ => exact own_all_at 32 224 own_all7 b h1
  | 8, _ => exact own_all_at 32 256 own_all8 b h1
  | 9, _ => exact own_all_at 32 288 own_all9 b h1
  | 10, _ => exact own_all_at 32 320 own_all10 b h1
  | 11, _ => exact own_all_at 32 352 own_all11 b h1
  | 12, _ => exact own_all_at 32 384 own_all12 b h1
  | 13, _ => exact own_all_at 32 416 own_all13 b h1
  | 14, _ => exact own_all_at 32 448 own_all14 b h1
  | 15, _ => exact own_all_at 32 480 own_all15 b h1
  | 16, _ => exact own_all_at 32 512 own_all16 b h1
  | 17, _ => exact own_all_at 32 544 own_all17 b h1
  | 18, _ => exact own_all_at 32 576 own_all18 b h1
  | 19, _ => exact own_all_at 32 608 own_all19 b h1
  | 20, _ => exact own_all_at 32 640 own_all20 b h1
  | 21, _ => exact own_all_at 32 672 own_all21 b h1
  | 22, _ => exact own_all_at 32 704 own_all22 b h1
  | 23, _ => exact own_all_at 32 736 own_all23 b h1
  | 24, _ => exact own_all_at 32 768 own_all24 b h1
  | 25, _ => exact own_all_at 32 800 own_all25 b h1
  | 26, _ => exact own_all_at 32 832 own_all26 b h1
  | 27, _ => exact own_all_at 32 864 own_all27 b h1
  | 28, _ => exact own_all_at 32 896 own_all28 b h1
  | 29, _ => exact own_all_at 32 928 own_all29 b h1
  | 30, _ => exact own_all_at 32 960 own_all30 b h1
  | 31, _ => exact own_all_at 32 992 own_all31 b h1
  | a + 32, h => omega
theorem own_seq_ok (last t : Nat) (h1 : last < 1024) (h2 : t < last) : 1 ≤ own_seq last t ∧ own_seq last t ≤ last := by
  match t with
  | 0 => exact ⟨Nat.le_refl _, by show 1 ≤ last; omega⟩
  | t + 1 =>
    have q := own_go_at last (last - 1) 1 2662 (own_go_ok last h1) (by decide) 0 rfl t (by omega)
    rw [Nat.zero_add] at q
    exact ⟨q.1, q.2.1⟩
theorem own_seq_lt (last t : Nat) (h1 : last < 1024) (h2 : t + 1 < last) : own_key (own_seq last t) < own_key (own_seq last (t + 1)) := by
  have q := own_go_at last (last - 1) 1 2662 (own_go_ok last h1) (by decide) 0 rfl t (by omega)
  rw [Nat.zero_add] at q
  exact q.2.2
theorem own_seq_mono (last : Nat) (h1 : last < 1024) : ∀ (d t : Nat), t + d + 1 < last → own_key (own_seq last t) < own_key (own_seq last (t + d + 1)) := by
  intro d
  induction d with
  | zero => intro t h; exact own_seq_lt last t h1 h
  | succ d ih =>
    intro t h
    have q := ih t (by omega)
    have r := own_seq_lt last (t + d + 1) h1 (by omega)
    rw [show t + (d + 1) + 1 = t + d + 1 + 1 by omega]
    omega
/-- what has been seen when t turns are made -/
def own_vis (last : Nat) : Nat → List Nat
  | 0 => [0]
  | t + 1 => own_vis last t ++ [own_seq last t]
theorem own_vis_len (last t : Nat) : (own_vis last t).length = t + 1 := by
  induction t with
  | zero => rfl
  | succ t ih => show (own_vis last t ++ [_]).length = _; rw [List.length_append, ih]; rfl
theorem own_vis_mem (last : Nat) : ∀ (t x : Nat), x ∈ own_vis last t ↔ x = 0 ∨ ∃ i, i < t ∧ x = own_seq last i := by
  intro t
  induction t with
  | zero => intro x; show x ∈ [0] ↔ _; simp
  | succ t ih =>
    intro x
    show x ∈ own_vis last t ++ [own_seq last t] ↔ _
    rw [List.mem_append, ih, List.mem_singleton]
    constructor
    · rintro ((h | ⟨i, h, r⟩) | h)
      · exact Or.inl h
      · exact Or.inr ⟨i, by omega, r⟩
      · exact Or.inr ⟨t, by omega, h⟩
    · rintro (h | ⟨i, h, r⟩)
      · exact Or.inl (Or.inl h)
      · by_cases q : i = t
        · subst q; exact Or.inr r
        · exact Or.inl (Or.inr ⟨i, by omega, r⟩)
theorem own_key0 : ∀ n : Fin 1024, 1 ≤ n.val → own_key 0 < own_key n.val := by decide +kernel
/-- the keys of what has been seen grow -/
theorem own_vis_sorted (last : Nat) (h1 : last < 1024) : ∀ t, t ≤ last → (own_vis last t).Pairwise (fun x y => own_key x < own_key y) := by
  intro t
  induction t with
  | zero => intro _; show [0].Pairwise _; simp
  | succ t ih =>
    intro ht
    show (own_vis last t ++ [own_seq last t]).Pairwise _
    rw [List.pairwise_append]
    refine ⟨ih (by omega), by simp, ?_⟩
    intro x hx y hy
    rw [List.mem_singleton] at hy
    subst hy
    have q := own_seq_ok last t h1 (by omega)
    rcases (own_vis_mem last t x).mp hx with rfl | ⟨i, hi, rfl⟩
    · exact own_key0 ⟨own_seq last t, by omega⟩ q.1
    · have r := own_seq_mono last h1 (t - i - 1) i (by omega)
      rw [show i + (t - i - 1) + 1 = t by omega] at r
      exact r
theorem own_vis_nodup (last : Nat) (h1 : last < 1024) (t : Nat) (ht : t ≤ last) : (own_vis last t).Nodup := by
  refine List.Pairwise.imp ?_ (own_vis_sorted last h1 t ht)
  intro x y h e
  rw [e] at h; omega
/-- a list without doubles within another one is no longer -/
theorem own_len_le : ∀ (l m : List Nat), l.Nodup → (∀ x ∈ l, x ∈ m) → l.length ≤ m.length := by
  intro l
  induction l with
  | nil => intro m _ _; exact Nat.zero_le _
  | cons a t ih =>
    intro m hd hs
    have hd' := List.nodup_cons.mp hd
    have ha : a ∈ m := hs a (List.mem_cons_self ..)
    have q := ih (m.erase a) hd'.2 (fun x hx => by
      refine (List.mem_erase_of_ne ?_).mpr (hs x (List.mem_cons_of_mem _ hx))
      intro e; rw [e] at hx; exact hd'.1 hx)
    rw [List.length_erase_of_mem ha] at q
    have r := List.length_pos_of_mem ha
    show t.length + 1 ≤ m.length
    omega
theorem own_vis_all (last : Nat) (h1 : last < 1024) (x : Nat) (hx : x ≤ last) : x ∈ own_vis last last := by
  apply Classical.byContradiction
  intro hn
  have hs : ∀ y ∈ x :: own_vis last last, y ∈ List.range (last + 1) := by
    intro y hy
    rw [List.mem_range]
    rcases List.mem_cons.mp hy with rfl | hy
    · omega
    · rcases (own_vis_mem last last y).mp hy with rfl | ⟨i, hi, rfl⟩
      · omega
      · have := own_seq_ok last i h1 hi; omega
  have q := own_len_le (x :: own_vis last last) (List.range (last + 1)) (List.nodup_cons.mpr ⟨hn, own_vis_nodup last h1 last (Nat.le_refl _)⟩) hs
  rw [List.length_cons, own_vis_len, List.length_range] at q
  omega
/-- the taken ones among what has been seen -/
def own_got (T : List Nat) (last t : Nat) : List Nat := (own_vis last t).filter (fun k => decide (k ∈ T))
theorem own_got_all (T : List Nat) (last : Nat) (h1 : last < 1024) (hd : T.Nodup) (hT : ∀ x ∈ T, x ≤ last) : (own_got T last last).length = T.length := by
  apply Nat.le_antisymm
  · refine own_len_le _ _ (List.Nodup.sublist List.filter_sublist (own_vis_nodup last h1 last (Nat.le_refl _))) ?_
    intro x hx
    have := (List.mem_filter.mp hx).2
    simpa using this
  · refine own_len_le _ _ hd ?_
    intro x hx
    exact List.mem_filter.mpr ⟨own_vis_all last h1 x (hT x hx), by simpa using hx⟩
theorem own_got_succ (T : List Nat) (last t : Nat) : own_got T last (t + 1) = own_got T last t ++ (if own_seq last t ∈ T then [own_seq last t] else []) := by
  show (own_vis last t ++ [own_seq last t]).filter _ = _
  rw [List.filter_append]
  by_cases h : own_seq last t ∈ T
  · rw [if_pos h]; simp [own_got, h]
  · rw [if_neg h]; simp [own_got, h]
theorem own_got_mono (T : List Nat) (last : Nat) : ∀ (d t : Nat), (own_got T last t).length ≤ (own_got T last (t + d)).length := by
  intro d
  induction d with
  | zero => intro t; exact Nat.le_refl _
  | succ d ih =>
    intro t
    have q := ih t
    rw [show t + (d + 1) = t + d + 1 by omega, own_got_succ, List.length_append]
    omega
theorem own_got_sorted (T : List Nat) (last : Nat) (h1 : last < 1024) : (own_got T last last).Pairwise (fun x y => own_key x < own_key y) := List.Pairwise.filter _ (own_vis_sorted last h1 last (Nat.le_refl _))
def f_c_max (a : Int32) (b : Int32) : Int32 := (if a.toInt < b.toInt then b else a)
set_option maxRecDepth 65536 in
set_option maxHeartbeats 40000000 in
theorem c_max {l : Launch} {Z : State} {a0 : Array Value} (hw : ∀ d ∈ tables_1, d.before a0 Z = true) {h0 : Heap} (a : Int32) (b : Int32) {r : Int32} (hr : f_c_max a b = r) : Con l Z (⟨"java/lang/Math", "max", "(II)I"⟩ : MethodName) jdk_29_method_65_code 2 (some .int) ({ frames := 0, cells := 0, slots := 0, locals := 0 } : Room) [] #[(.int a), (.int b)] h0 (PQ h0 (some (.int r))) := by
  refine con_of (Ls := #[.val (.int a), .val (.int b)]) (by decide +kernel) (fun m => by first | (simp [entryFrame, mkF, argsToLocals, Value.category]; done) | rfl) ?_
  refine Go.iloadN (pc' := 1) d9_0 rfl rfl ?_
  refine Go.iloadN (pc' := 2) d9_1 rfl rfl ?_
  by_cases hc1 : a.toInt < b.toInt
  · refine Go.icmpT (pc' := 9) (X := a.toInt) (Y := b.toInt) d9_2 (by decide) rfl rfl (hc1 : a.toInt < b.toInt) ?_
    refine Go.iloadN (pc' := 10) d9_9 rfl rfl ?_
    refine Go.retI d9_10 rfl (by decide) (by decide) ?_
    refine ⟨congrArg (fun q => some (Value.int q)) ?_, rfl, rfl⟩
    rw [← hr]
    show _ = f_c_max a b
    unfold f_c_max
    rw [if_pos hc1]
  · refine Go.icmpF (pc' := 5) (X := a.toInt) (Y := b.toInt) d9_2 rfl rfl rfl (hc1 : ¬ a.toInt < b.toInt) ?_
    refine Go.iloadN (pc' := 6) d9_5 rfl rfl ?_
    refine Go.goto (pc' := 10) d9_6 (by decide) ?_
    refine Go.retI d9_10 rfl (by decide) (by decide) ?_
    refine ⟨congrArg (fun q => some (Value.int q)) ?_, rfl, rfl⟩
    rw [← hr]
    show _ = f_c_max a b
    unfold f_c_max
    rw [if_neg hc1]
/-! the arrays' lists, and the numbers of Java -/
def own_bits (n : Nat) (T : List Nat) : List Value := (List.range n).map fun k => Value.int (if k ∈ T then (1 : Int32) else (0 : Int32))
theorem own_bits_len (n : Nat) (T : List Nat) : (own_bits n T).length = n := by unfold own_bits; rw [List.length_map, List.length_range]
theorem own_bits_get (n : Nat) (T : List Nat) (i : Nat) : (own_bits n T)[i]? = if i < n then some (Value.int (if i ∈ T then (1 : Int32) else (0 : Int32))) else none := by
  unfold own_bits
  rw [List.getElem?_map]
  by_cases h : i < n
  · rw [if_pos h, List.getElem?_range h]; rfl
  · rw [if_neg h, List.getElem?_eq_none (by rw [List.length_range]; omega)]; rfl
theorem own_bits_nil (n : Nat) : List.replicate n (Value.int (0 : Int32)) = own_bits n [] := by
  apply List.ext_getElem?
  intro i
  rw [own_bits_get, List.getElem?_replicate]
  by_cases h : i < n
  · rw [if_pos h, if_pos h, if_neg (by intro q; cases q)]
  · rw [if_neg h, if_neg h]
theorem own_bits_set (n : Nat) (T : List Nat) (j : Nat) : (own_bits n T).set j (Value.int (1 : Int32)) = own_bits n (j :: T) := by
  apply List.ext_getElem?
  intro i
  rw [List.getElem?_set, own_bits_get, own_bits_get, own_bits_len]
  by_cases h : j = i
  · subst h
    rw [if_pos rfl, if_pos (List.mem_cons_self ..)]
  · rw [if_neg h]
    by_cases q : i ∈ T
    · rw [if_pos q, if_pos (List.mem_cons_of_mem _ q)]
    · rw [if_neg q, if_neg (fun r => (List.mem_cons.mp r).elim (fun e => h e.symm) q)]
theorem own_bits_at1 (n : Nat) (T : List Nat) (j : Nat) (hj : j < n) (hin : j ∈ T) : (own_bits n T)[j]? = some (Value.int (1 : Int32)) := by
  unfold own_bits
  rw [List.getElem?_map, List.getElem?_range hj]
  simp [hin]
theorem own_bits_at0 (n : Nat) (T : List Nat) (j : Nat) (hj : j < n) (hin : ¬ j ∈ T) : (own_bits n T)[j]? = some (Value.int (0 : Int32)) := by
  unfold own_bits
  rw [List.getElem?_map, List.getElem?_range hj]
  simp [hin]
def own_iv (k : Nat) : Value := Value.int (Int32.ofNat k)
def own_fill (es : List Nat) (d : Nat) : List Value := es.map own_iv ++ List.replicate (d - es.length) (Value.int (0 : Int32))
theorem own_fill_len (es : List Nat) (d : Nat) : (own_fill es d).length = es.length + (d - es.length) := by
  unfold own_fill; rw [List.length_append, List.length_map, List.length_replicate]
theorem own_fill_nil (d : Nat) : List.replicate d (Value.int (0 : Int32)) = own_fill [] d := by
  unfold own_fill; simp
theorem own_fill_add (es : List Nat) (d x : Nat) (h : es.length < d) : (own_fill es d).set es.length (own_iv x) = own_fill (es ++ [x]) d := by
  unfold own_fill
  obtain ⟨m, hm⟩ : ∃ m, d - es.length = m + 1 := ⟨d - es.length - 1, by omega⟩
  rw [hm, List.length_append, List.length_singleton, show d - (es.length + 1) = m by omega, List.replicate_succ, List.map_append]
  rw [List.set_append_right _ _ (by rw [List.length_map]; exact Nat.le_refl _), List.length_map, Nat.sub_self]
  simp
theorem own_fill_zero (d : Nat) (h : 1 ≤ d) : (own_fill [] d).set 0 (Value.int (0 : Int32)) = own_fill [0] d := own_fill_add [] d 0 h
theorem own_fill_full (es : List Nat) (d : Nat) (h : es.length = d) : own_fill es d = es.map own_iv := by
  unfold own_fill; rw [h, Nat.sub_self]; simp
theorem own_got_zero (T : List Nat) (last : Nat) : own_got T last 0 = if 0 ∈ T then [0] else [] := by
  show [0].filter _ = _
  by_cases h : 0 ∈ T
  · rw [if_pos h]; simp [h]
  · rw [if_neg h]; simp [h]
theorem own_got_lt (T : List Nat) (last t d : Nat) (hd : (own_got T last last).length = d) (ht : t < last) (hin : own_seq last t ∈ T) : (own_got T last t).length < d := by
  have q := own_got_mono T last (last - (t + 1)) (t + 1)
  rw [show t + 1 + (last - (t + 1)) = last by omega, hd, own_got_succ, if_pos hin, List.length_append, List.length_singleton] at q
  omega
theorem own_of_toInt (x : Int32) (j : Nat) (h : x.toInt = (j : Int)) (hj : j < 1024) : x = Int32.ofNat j := by
  apply Int32.toInt_inj.mp
  rw [h, Int32.toInt_ofNat_of_lt (by omega)]
theorem own_fill_set (T : List Nat) (last t d j : Nat) (x : Int32) (hj : j = own_seq last t) (hin : j ∈ T) (hx : x.toInt = (j : Int)) (hj2 : j < 1024) (hlt : (own_got T last t).length < d) : (own_fill (own_got T last t) d).set (own_got T last t).length (Value.int x) = own_fill (own_got T last (t + 1)) d := by
  rw [own_of_toInt x j hx hj2, own_got_succ, ← hj, if_pos hin]
  exact own_fill_add (own_got T last t) d j hlt
theorem own_div10 (kv : Int64) (k : Nat) (hk : kv.toInt = (k : Int)) : (kv / (10 : Int64)).toInt = ((k / 10 : Nat) : Int) := by
  have q := (c_ldiv kv (10 : Int64) 10 (by decide) (by decide)).1 (by omega)
  rw [q, hk]; rfl
theorem own_rem10 (kv : Int64) (k : Nat) (hk : kv.toInt = (k : Int)) : (kv % (10 : Int64)).toInt = ((k % 10 : Nat) : Int) := by
  have q := (c_lrem kv (10 : Int64) 10 (by decide)).1 (by omega)
  rw [lrem_mod] at q
  rw [q, hk]; rfl
theorem own_succ (kv : Int64) (k : Nat) (hk : kv.toInt = (k : Int)) (h : k < 1000000) : (kv + (1 : Int64)).toInt = ((k + 1 : Nat) : Int) := by
  have e1 := c_ladd kv (1 : Int64)
  have r1 := rng64 (kv + (1 : Int64))
  have k1 : (1 : Int64).toInt = 1 := by decide
  omega
theorem own_mul10 (kv : Int64) (j : Nat) (hk : kv.toInt = (j : Int)) (h : j < 1024) : ((10 : Int64) * kv).toInt = ((10 * j : Nat) : Int) := by
  have e1 := c_lmul (10 : Int64) kv
  have r1 := rng64 ((10 : Int64) * kv)
  have k1 : (10 : Int64).toInt = 10 := by decide
  rw [k1, hk] at e1
  omega
theorem own_mul10' (kv : Int64) (j : Nat) (hk : kv.toInt = (j : Int)) (h : j < 1024) : (kv * (10 : Int64)).toInt = ((10 * j : Nat) : Int) := by
  rw [Int64.mul_comm]; exact own_mul10 kv j hk h
theorem own_l2i (kv : Int64) (j : Nat) (hk : kv.toInt = (j : Int)) (h : j < 1024) : kv.toInt32.toInt = (j : Int) := by
  have e1 := c_l2i kv
  have r1 := rng32 kv.toInt32
  omega
theorem own_w_le (last : Nat) : ∀ (f k : Nat), own_w last f k ≤ k := by
  intro f
  induction f with
  | zero => intro k; exact Nat.le_refl _
  | succ f ih =>
    intro k
    show (if _ then _ else _) ≤ k
    split
    · have := ih (k / 10); omega
    · exact Nat.le_refl _
/-! what is taken before the i-th number is looked at -/
def own_tk (j0 j1 j2 j3 : Nat) (n : Int32) (i : Nat) (T : List Nat) (ct ht : Int32) : Prop :=
  T.Nodup ∧ ct.toInt = (T.length : Int) ∧ T.length ≤ i ∧ (∀ x ∈ T, (0 < i ∧ 0 < n.toInt ∧ x = j0) ∨ (1 < i ∧ 1 < n.toInt ∧ x = j1) ∨ (2 < i ∧ 2 < n.toInt ∧ x = j2) ∨ (3 < i ∧ 3 < n.toInt ∧ x = j3)) ∧
  ((T = [] ∧ ht.toInt = -1) ∨ ∃ last, last ∈ T ∧ ht.toInt = (last : Int) ∧ ∀ x ∈ T, x ≤ last)
theorem own_tk_start (j0 j1 j2 j3 : Nat) (n : Int32) : own_tk j0 j1 j2 j3 n 0 [] (0 : Int32) (-1 : Int32) :=
  ⟨List.nodup_nil, by decide, Nat.le_refl _, (by intro x hx; cases hx), Or.inl ⟨rfl, by decide⟩⟩
theorem own_tk_no {j0 j1 j2 j3 : Nat} {n : Int32} {i : Nat} {T : List Nat} {ct ht : Int32} (h : own_tk j0 j1 j2 j3 n i T ct ht) : own_tk j0 j1 j2 j3 n (i + 1) T ct ht := by
  obtain ⟨h1, h2, h3, h4, h5⟩ := h
  refine ⟨h1, h2, by omega, fun x hx => ?_, h5⟩
  have := h4 x hx
  omega
theorem own_tk_yes {j0 j1 j2 j3 : Nat} {n : Int32} {i : Nat} {T : List Nat} {ct ht v : Int32} {j : Nat} (h : own_tk j0 j1 j2 j3 n i T ct ht) (hv : v.toInt = (j : Int)) (hi : i < 4) (hj : (0 < i + 1 ∧ 0 < n.toInt ∧ j = j0) ∨ (1 < i + 1 ∧ 1 < n.toInt ∧ j = j1) ∨ (2 < i + 1 ∧ 2 < n.toInt ∧ j = j2) ∨ (3 < i + 1 ∧ 3 < n.toInt ∧ j = j3)) (hne : (0 < i → j ≠ j0) ∧ (1 < i → j ≠ j1) ∧ (2 < i → j ≠ j2) ∧ (3 < i → j ≠ j3)) : own_tk j0 j1 j2 j3 n (i + 1) (j :: T) (ct + (1 : Int32)) (f_c_max ht v) := by
  obtain ⟨h1, h2, h3, h4, h5⟩ := h
  have e1 := c_iadd ct (1 : Int32)
  have r1 := rng32 (ct + (1 : Int32))
  have k1 : (1 : Int32).toInt = 1 := by decide
  refine ⟨List.nodup_cons.mpr ⟨fun q => ?_, h1⟩, ?_, ?_, fun x hx => ?_, Or.inr ?_⟩
  · clear h5; have := h4 j q; omega
  · rw [List.length_cons]; omega
  · rw [List.length_cons]; omega
  · rcases List.mem_cons.mp hx with rfl | hx
    · exact hj
    · have := h4 x hx; omega
  · unfold f_c_max
    rcases h5 with ⟨rfl, hm⟩ | ⟨last, hl, hm, hx⟩
    · refine ⟨j, List.mem_cons_self .., ?_, fun x hx => ?_⟩
      · rw [if_pos (by omega)]; exact hv
      · rcases List.mem_cons.mp hx with rfl | hx
        · exact Nat.le_refl _
        · cases hx
    · by_cases q : ht.toInt < v.toInt
      · have hq : last < j := by rw [hv, hm] at q; exact Int.ofNat_lt.mp q
        refine ⟨j, List.mem_cons_self .., by rw [if_pos q]; exact hv, fun x hx' => ?_⟩
        rcases List.mem_cons.mp hx' with e | hx'
        · exact Nat.le_of_eq e
        · exact Nat.le_of_lt (Nat.lt_of_le_of_lt (hx x hx') hq)
      · have hq : j ≤ last := by rw [hv, hm] at q; exact Int.ofNat_le.mp (Int.not_lt.mp q)
        refine ⟨last, List.mem_cons_of_mem _ hl, by rw [if_neg q]; exact hm, fun x hx' => ?_⟩
        rcases List.mem_cons.mp hx' with e | hx'
        · exact e ▸ hq
        · exact hx x hx'
set_option maxRecDepth 65536 in
set_option maxHeartbeats 40000000 in
theorem c_AbstractCollection {l : Launch} {Z : State} {a0 : Array Value} (hw : ∀ d ∈ tables_1, d.before a0 Z = true) {h0 : Heap} (o : Addr) : Con l Z (⟨"java/util/AbstractCollection", "<init>", "()V"⟩ : MethodName) jdk_22_method_1_code 1 none ({ frames := 1, cells := 0, slots := 0, locals := 12 } : Room) [] #[(.ref o)] h0 (PQ h0 none) := by
  refine con_of (Ls := #[.val (.ref o)]) (plainFor_of_name (by first | (simp [plainName, overriddenIn]; done) | decide +kernel)) (fun m => by first | (simp [entryFrame, mkF, argsToLocals, Value.category]; done) | rfl) ?_
  refine Go.aloadN (pc' := 1) d5_0 rfl rfl rfl ?_
  refine Go.initO (pc' := 4) (W := 0) d5_1 rfl (hw _ w31) (hw _ w9) (hw _ w10) (by decide) (by decide) rfl (Nat.le_of_eq rfl) ?_
  refine Go.retV d5_4 rfl (by decide) (by decide) ?_
  exact ⟨rfl, rfl, rfl⟩
set_option maxRecDepth 65536 in
set_option maxHeartbeats 40000000 in
theorem c_AbstractSet {l : Launch} {Z : State} {a0 : Array Value} (hw : ∀ d ∈ tables_1, d.before a0 Z = true) {h0 : Heap} (o : Addr) : Con l Z (⟨"java/util/AbstractSet", "<init>", "()V"⟩ : MethodName) jdk_91_method_1_code 1 none ({ frames := 2, cells := 0, slots := 0, locals := 24 } : Room) [] #[(.ref o)] h0 (PQ h0 none) := by
  refine con_of (Ls := #[.val (.ref o)]) (plainFor_of_name (by first | (simp [plainName, overriddenIn]; done) | decide +kernel)) (fun m => by first | (simp [entryFrame, mkF, argsToLocals, Value.category]; done) | rfl) ?_
  refine Go.aloadN (pc' := 1) d4_0 rfl rfl rfl ?_
  refine Go.callI0 (pc' := 4) (W := 0) (a := o) (argsL := []) (rest := []) (v0 := none) (st2 := []) d4_1 rfl rfl (hw _ w25) (hw _ w26) (hw _ w29) (hw _ w30) (by decide) (c_AbstractCollection hw o) (by decide) (by decide) rfl rfl rfl (by decide) (by decide) rfl pd__28_29V rfl rfl (Nat.le_of_eq rfl) ?_
  refine Go.retV d4_4 rfl (by decide) (by decide) ?_
  exact ⟨rfl, rfl, rfl⟩
set_option maxRecDepth 65536 in
set_option maxHeartbeats 40000000 in
theorem c_AbstractMap {l : Launch} {Z : State} {a0 : Array Value} (hw : ∀ d ∈ tables_1, d.before a0 Z = true) {h0 : Heap} (o : Addr) : Con l Z (⟨"java/util/AbstractMap", "<init>", "()V"⟩ : MethodName) jdk_71_method_1_code 1 none ({ frames := 1, cells := 0, slots := 0, locals := 12 } : Room) [] #[(.ref o)] h0 (PQ h0 none) := by
  refine con_of (Ls := #[.val (.ref o)]) (plainFor_of_name (by first | (simp [plainName, overriddenIn]; done) | decide +kernel)) (fun m => by first | (simp [entryFrame, mkF, argsToLocals, Value.category]; done) | rfl) ?_
  refine Go.aloadN (pc' := 1) d7_0 rfl rfl rfl ?_
  refine Go.initO (pc' := 4) (W := 0) d7_1 rfl (hw _ w45) (hw _ w9) (hw _ w10) (by decide) (by decide) rfl (Nat.le_of_eq rfl) ?_
  refine Go.retV d7_4 rfl (by decide) (by decide) ?_
  exact ⟨rfl, rfl, rfl⟩
set_option maxRecDepth 65536 in
set_option maxHeartbeats 40000000 in
theorem c_hm {l : Launch} {Z : State} {a0 : Array Value} (hw : ∀ d ∈ tables_1, d.before a0 Z = true) {h0 : Heap} {n0 : Nat} (sz0 : n0 ≤ h0.size) (o : Addr) (gn_o : n0 ≤ o) (E_o : Exa Z h0 o "java/util/HashMap") (F_o_loadFactor : Fld Z h0 o "java/util/HashMap" "loadFactor" "F" (.float (0 : UInt32))) : Con l Z (⟨"java/util/HashMap", "<init>", "()V"⟩ : MethodName) jdk_69_method_7_code 1 none ({ frames := 2, cells := 0, slots := 0, locals := 24 } : Room) [] #[(.ref o)] h0 (fun v h L => v = none ∧ Fr n0 L ∧ Keep h0 h [o]) := by
  refine con_of (Ls := #[.val (.ref o)]) (plainFor_of_name (by first | (simp [plainName, overriddenIn]; done) | decide +kernel)) (fun m => by first | (simp [entryFrame, mkF, argsToLocals, Value.category]; done) | rfl) ?_
  have N0 : Fr n0 [] := Fr.nil _
  have K0 : Keep h0 h0 [o] := Keep.refl _ _
  refine Go.aloadN (pc' := 1) d6_0 rfl rfl rfl ?_
  refine Go.callI0 (pc' := 4) (W := 0) (a := o) (argsL := []) (rest := []) (v0 := none) (st2 := []) d6_1 rfl rfl (hw _ w39) (hw _ w40) (hw _ w43) (hw _ w44) (by decide) (c_AbstractMap hw o) (by decide) (by decide) rfl rfl rfl (by decide) (by decide) rfl pd__28_29V rfl rfl (Nat.le_of_eq rfl) ?_
  refine Go.aloadN (pc' := 5) d6_4 rfl rfl rfl ?_
  refine Go.ldcF (pc' := 7) d6_5 rfl (hw _ w46) ?_
  refine Go.putF (pc' := 10) d6_7 rfl (hw _ w47) Via.refl F_o_loadFactor E_o (Or.inr ⟨(hw _ w48), rfl, rfl⟩) (hw _ w33) (ty := .float) (by decide) rfl rfl ?_
  intro h1 L1 NL1 W1
  replace F_o_loadFactor := F_o_loadFactor.same W1
  replace N0 := NL1 _ N0 gn_o
  replace sz0 : n0 ≤ h1.size := by rw [W1.size]; exact sz0
  replace E_o := E_o.wr W1
  replace K0 := K0.wr W1 (Or.inl (by simp))
  refine Go.retV d6_10 rfl (by decide) (by decide) ?_
  exact ⟨rfl, N0, K0⟩
set_option maxRecDepth 65536 in
set_option maxHeartbeats 40000000 in
theorem c_hs {l : Launch} {Z : State} {a0 : Array Value} (hw : ∀ d ∈ tables_1, d.before a0 Z = true) {h0 : Heap} {n0 : Nat} (sz0 : n0 ≤ h0.size) (o : Addr) (gn_o : n0 ≤ o) (E_o : Exa Z h0 o "java/util/HashSet") (F_o_map : Fld Z h0 o "java/util/HashSet" "map" "Ljava/util/HashMap;" .null) : Con l Z (⟨"java/util/HashSet", "<init>", "()V"⟩ : MethodName) jdk_93_method_1_code 1 none ({ frames := 3, cells := 1, slots := 8, locals := 38 } : Room) [] #[(.ref o)] h0 (fun v h L => v = none ∧ Fr n0 L ∧ Keep h0 h [o]) := by
  refine con_of (Ls := #[.val (.ref o)]) (plainFor_of_name (by first | (simp [plainName, overriddenIn]; done) | decide +kernel)) (fun m => by first | (simp [entryFrame, mkF, argsToLocals, Value.category]; done) | rfl) ?_
  have N0 : Fr n0 [] := Fr.nil _
  have K0 : Keep h0 h0 [o] := Keep.refl _ _
  refine Go.aloadN (pc' := 1) d3_0 rfl rfl rfl ?_
  refine Go.callI0 (pc' := 4) (W := 0) (a := o) (argsL := []) (rest := []) (v0 := none) (st2 := []) d3_1 rfl rfl (hw _ w19) (hw _ w20) (hw _ w23) (hw _ w24) (by decide) (c_AbstractSet hw o) (by decide) (by decide) rfl rfl rfl (by decide) (by decide) rfl pd__28_29V rfl rfl (Nat.le_of_eq rfl) ?_
  refine Go.aloadN (pc' := 5) d3_4 rfl rfl rfl ?_
  refine Go.newO (pc' := 8) (k' := 1) (n' := 8) d3_5 rfl (hw _ w32) (hw _ w33) (hw _ w34) (by decide) (by decide) rfl rfl ?_
  intro h1 a1 ha_a1 X1 E_a1 D1
  have ne_o_a1 : o ≠ a1 := Nat.ne_of_lt (by rw [ha_a1]; exact E_o.lt)
  have gn_a1 : n0 ≤ a1 := by rw [ha_a1]; exact sz0
  have hs_a1 : h0.size ≤ a1 := by rw [ha_a1]; exact K0.1
  replace sz0 : n0 ≤ h1.size := Nat.le_trans sz0 X1.1
  replace E_o := E_o.ext X1
  replace F_o_map := F_o_map.ext X1
  replace K0 := K0.ext X1
  have F_a1_loadFactor : Fld Z h1 a1 "java/util/HashMap" "loadFactor" "F" (.float (0 : UInt32)) := D1 (Or.inr (hw _ w48)) (ty := .float) (by decide)
  refine Go.dup (pc' := 9) d3_8 rfl rfl ?_
  refine Go.callI (pc' := 12) (W := 2) (a := a1) (argsL := []) (rest := [(.ref a1), (.ref o)]) (k' := 1) (n' := 8) d3_9 rfl rfl (hw _ w35) (hw _ w36) (hw _ w34) (hw _ w38) (by decide) (c_hm hw sz0 a1 gn_a1 E_a1 F_a1_loadFactor) (by decide) (by decide) (by decide) (by decide) rfl rfl rfl pd__28_29V rfl rfl (Nat.le_of_eq rfl) ?_
  intro v2 h2 P2 L2 NL2 hq2
  obtain ⟨rfl, N2, K2⟩ := hq2
  dsimp only [Option.toList, List.cons_append, List.nil_append]
  replace N0 := NL2 _ N0 N2
  replace sz0 : n0 ≤ h2.size := Nat.le_trans sz0 K2.1
  replace E_o := E_o.keep K2
  replace E_a1 := E_a1.keep K2
  replace F_o_map := F_o_map.keep K2 (ninS ne_o_a1 nin0)
  clear F_a1_loadFactor
  replace K0 := K0.trans K2 ((allS (Or.inr hs_a1) all0))
  refine Go.putF (pc' := 15) d3_12 rfl (hw _ w49) Via.refl F_o_map E_o (Or.inl (hw _ w50)) (hw _ w14) (ty := (.object "java/util/HashMap")) (by decide) rfl rfl ?_
  intro h3 L3 NL3 W3
  replace F_o_map := F_o_map.same W3
  replace N0 := NL3 _ N0 gn_o
  replace sz0 : n0 ≤ h3.size := by rw [W3.size]; exact sz0
  replace E_o := E_o.wr W3
  replace E_a1 := E_a1.wr W3
  replace K0 := K0.wr W3 (Or.inl (by simp))
  refine Go.retV d3_15 rfl (by decide) (by decide) ?_
  exact ⟨rfl, N0, K0⟩
set_option maxRecDepth 65536 in
set_option maxHeartbeats 40000000 in
theorem c_init {l : Launch} {Z : State} {a0 : Array Value} (hw : ∀ d ∈ tables_1, d.before a0 Z = true) {h0 : Heap} {n0 : Nat} (sz0 : n0 ≤ h0.size) (o : Addr) (ms : Int32) (Mn : Nat) (hM : ms.toInt = (Mn : Int)) (hMn : Mn < 1024) (gn_o : n0 ≤ o) (E_o : Exa Z h0 o "com/example/even_keel/evenkeel/plan/MemberNames") (F_o_mostNumber : Fld Z h0 o "com/example/even_keel/evenkeel/plan/MemberNames" "mostNumber" "I" (.int (0 : Int32))) (F_o_numbers : Fld Z h0 o "com/example/even_keel/evenkeel/plan/MemberNames" "numbers" "[Z" .null) (F_o_numbersTaken : Fld Z h0 o "com/example/even_keel/evenkeel/plan/MemberNames" "numbersTaken" "I" (.int (0 : Int32))) (F_o_highestTaken : Fld Z h0 o "com/example/even_keel/evenkeel/plan/MemberNames" "highestTaken" "I" (.int (0 : Int32))) (F_o_others : Fld Z h0 o "com/example/even_keel/evenkeel/plan/MemberNames" "others" "Ljava/util/Set;" .null) : Con l Z (⟨"com/example/even_keel/evenkeel/plan/MemberNames", "<init>", "(I)V"⟩ : MethodName) prog_104_method_1_code 2 none ({ frames := 4, cells := 3, slots := 1033, locals := 52 } : Room) [] #[(.ref o), (.int ms)] h0 (fun v h L => ∃ nb, v = none ∧ h0.size ≤ nb ∧ Fr n0 L ∧ Keep h0 h [o] ∧ Exa Z h o "com/example/even_keel/evenkeel/plan/MemberNames" ∧ Fld Z h o "com/example/even_keel/evenkeel/plan/MemberNames" "numbers" "[Z" (.ref nb) ∧ Fld Z h o "com/example/even_keel/evenkeel/plan/MemberNames" "numbersTaken" "I" (.int (0 : Int32)) ∧ Fld Z h o "com/example/even_keel/evenkeel/plan/MemberNames" "highestTaken" "I" (.int (-1 : Int32)) ∧ Al Z h nb .boolean (own_bits (Mn + 1) [])) := by
  refine con_of (Ls := #[.val (.ref o), .val (.int ms)]) (plainFor_of_name (by first | (simp [plainName, overriddenIn]; done) | decide +kernel)) (fun m => by first | (simp [entryFrame, mkF, argsToLocals, Value.category]; done) | rfl) ?_
  have N0 : Fr n0 [] := Fr.nil _
  have K0 : Keep h0 h0 [o] := Keep.refl _ _
  refine Go.aloadN (pc' := 1) d1_0 rfl rfl rfl ?_
  refine Go.initO (pc' := 4) (W := 0) d1_1 rfl (hw _ w8) (hw _ w9) (hw _ w10) (by decide) (by decide) rfl (Nat.le_of_eq rfl) ?_
  refine Go.aloadN (pc' := 5) d1_4 rfl rfl rfl ?_
  refine Go.iconst (pc' := 6) d1_5 rfl (z := (-1 : Int32)) (by decide) ?_
  refine Go.putF (pc' := 9) d1_6 rfl (hw _ w11) Via.refl F_o_highestTaken E_o (Or.inl (hw _ w12)) (hw _ w3) (ty := .int) (by decide) rfl rfl ?_
  intro h1 L1 NL1 W1
  replace F_o_highestTaken := F_o_highestTaken.same W1
  replace N0 := NL1 _ N0 gn_o
  replace sz0 : n0 ≤ h1.size := by rw [W1.size]; exact sz0
  replace E_o := E_o.wr W1
  replace F_o_mostNumber := F_o_mostNumber.other W1 (Or.inr (slot_ne (Or.inr (hw _ w54)) (Or.inl (hw _ w12)) (by decide) (t := .int) (t' := .int) (by decide) (by decide)))
  replace F_o_numbers := F_o_numbers.other W1 (Or.inr (slot_ne (Or.inr (hw _ w57)) (Or.inl (hw _ w12)) (by decide) (t := (.array .boolean)) (t' := .int) (by decide) (by decide)))
  replace F_o_numbersTaken := F_o_numbersTaken.other W1 (Or.inr (slot_ne (Or.inl (hw _ w64)) (Or.inl (hw _ w12)) (by decide) (t := .int) (t' := .int) (by decide) (by decide)))
  replace F_o_others := F_o_others.other W1 (Or.inr (slot_ne (Or.inr (hw _ w52)) (Or.inl (hw _ w12)) (by decide) (t := (.object "java/util/Set")) (t' := .int) (by decide) (by decide)))
  replace K0 := K0.wr W1 (Or.inl (by simp))
  refine Go.aloadN (pc' := 10) d1_9 rfl rfl rfl ?_
  refine Go.newO (pc' := 13) (k' := 1) (n' := 1) d1_10 rfl (hw _ w13) (hw _ w14) (hw _ w15) (by decide) (by decide) rfl rfl ?_
  intro h2 hset ha_hset X2 E_hset D2
  have ne_o_hset : o ≠ hset := Nat.ne_of_lt (by rw [ha_hset]; exact E_o.lt)
  have gn_hset : n0 ≤ hset := by rw [ha_hset]; exact sz0
  have hs_hset : h0.size ≤ hset := by rw [ha_hset]; exact K0.1
  replace sz0 : n0 ≤ h2.size := Nat.le_trans sz0 X2.1
  replace E_o := E_o.ext X2
  replace F_o_mostNumber := F_o_mostNumber.ext X2
  replace F_o_numbers := F_o_numbers.ext X2
  replace F_o_numbersTaken := F_o_numbersTaken.ext X2
  replace F_o_highestTaken := F_o_highestTaken.ext X2
  replace F_o_others := F_o_others.ext X2
  replace K0 := K0.ext X2
  have F_hset_map : Fld Z h2 hset "java/util/HashSet" "map" "Ljava/util/HashMap;" .null := D2 (Or.inl (hw _ w50)) (ty := (.object "java/util/HashMap")) (by decide)
  refine Go.dup (pc' := 14) d1_13 rfl rfl ?_
  refine Go.callI (pc' := 17) (W := 2) (a := hset) (argsL := []) (rest := [(.ref hset), (.ref o)]) (k' := 2) (n' := 9) d1_14 rfl rfl (hw _ w16) (hw _ w17) (hw _ w15) (hw _ w18) (by decide) (c_hs hw sz0 hset gn_hset E_hset F_hset_map) (by decide) (by decide) (by decide) (by decide) rfl rfl rfl pd__28_29V rfl rfl (Nat.le_of_eq rfl) ?_
  intro v3 h3 P3 L3 NL3 hq3
  obtain ⟨rfl, N3, K3⟩ := hq3
  dsimp only [Option.toList, List.cons_append, List.nil_append]
  replace N0 := NL3 _ N0 N3
  replace sz0 : n0 ≤ h3.size := Nat.le_trans sz0 K3.1
  replace E_o := E_o.keep K3
  replace E_hset := E_hset.keep K3
  replace F_o_mostNumber := F_o_mostNumber.keep K3 (ninS ne_o_hset nin0)
  replace F_o_numbers := F_o_numbers.keep K3 (ninS ne_o_hset nin0)
  replace F_o_numbersTaken := F_o_numbersTaken.keep K3 (ninS ne_o_hset nin0)
  replace F_o_highestTaken := F_o_highestTaken.keep K3 (ninS ne_o_hset nin0)
  replace F_o_others := F_o_others.keep K3 (ninS ne_o_hset nin0)
  clear F_hset_map
  replace K0 := K0.trans K3 ((allS (Or.inr hs_hset) all0))
  refine Go.putF (pc' := 20) d1_17 rfl (hw _ w51) Via.refl F_o_others E_o (Or.inr ⟨(hw _ w52), rfl, rfl⟩) (hw _ w3) (ty := (.object "java/util/Set")) (by decide) rfl rfl ?_
  intro h4 L4 NL4 W4
  replace F_o_others := F_o_others.same W4
  replace N0 := NL4 _ N0 gn_o
  replace sz0 : n0 ≤ h4.size := by rw [W4.size]; exact sz0
  replace E_o := E_o.wr W4
  replace E_hset := E_hset.wr W4
  replace F_o_mostNumber := F_o_mostNumber.other W4 (Or.inr (slot_ne (Or.inr (hw _ w54)) (Or.inr (hw _ w52)) (by decide) (t := .int) (t' := (.object "java/util/Set")) (by decide) (by decide)))
  replace F_o_numbers := F_o_numbers.other W4 (Or.inr (slot_ne (Or.inr (hw _ w57)) (Or.inr (hw _ w52)) (by decide) (t := (.array .boolean)) (t' := (.object "java/util/Set")) (by decide) (by decide)))
  replace F_o_numbersTaken := F_o_numbersTaken.other W4 (Or.inr (slot_ne (Or.inl (hw _ w64)) (Or.inr (hw _ w52)) (by decide) (t := .int) (t' := (.object "java/util/Set")) (by decide) (by decide)))
  replace F_o_highestTaken := F_o_highestTaken.other W4 (Or.inr (slot_ne (Or.inl (hw _ w12)) (Or.inr (hw _ w52)) (by decide) (t := .int) (t' := (.object "java/util/Set")) (by decide) (by decide)))
  replace K0 := K0.wr W4 (Or.inl (by simp))
  refine Go.aloadN (pc' := 21) d1_20 rfl rfl rfl ?_
  refine Go.iloadN (pc' := 22) d1_21 rfl rfl ?_
  refine Go.putF (pc' := 25) d1_22 rfl (hw _ w53) Via.refl F_o_mostNumber E_o (Or.inr ⟨(hw _ w54), rfl, rfl⟩) (hw _ w3) (ty := .int) (by decide) rfl rfl ?_
  intro h5 L5 NL5 W5
  replace F_o_mostNumber := F_o_mostNumber.same W5
  replace N0 := NL5 _ N0 gn_o
  replace sz0 : n0 ≤ h5.size := by rw [W5.size]; exact sz0
  replace E_o := E_o.wr W5
  replace E_hset := E_hset.wr W5
  replace F_o_numbers := F_o_numbers.other W5 (Or.inr (slot_ne (Or.inr (hw _ w57)) (Or.inr (hw _ w54)) (by decide) (t := (.array .boolean)) (t' := .int) (by decide) (by decide)))
  replace F_o_numbersTaken := F_o_numbersTaken.other W5 (Or.inr (slot_ne (Or.inl (hw _ w64)) (Or.inr (hw _ w54)) (by decide) (t := .int) (t' := .int) (by decide) (by decide)))
  replace F_o_highestTaken := F_o_highestTaken.other W5 (Or.inr (slot_ne (Or.inl (hw _ w12)) (Or.inr (hw _ w54)) (by decide) (t := .int) (t' := .int) (by decide) (by decide)))
  replace F_o_others := F_o_others.other W5 (Or.inr (slot_ne (Or.inr (hw _ w52)) (Or.inr (hw _ w54)) (by decide) (t := (.object "java/util/Set")) (t' := .int) (by decide) (by decide)))
  replace K0 := K0.wr W5 (Or.inl (by simp))
  refine Go.aloadN (pc' := 26) d1_25 rfl rfl rfl ?_
  refine Go.iloadN (pc' := 27) d1_26 rfl rfl ?_
  refine Go.iconst (pc' := 28) d1_27 rfl (z := (1 : Int32)) (by decide) ?_
  refine Go.iadd (pc' := 29) d1_28 rfl rfl ?_
  refine Go.new_boolean (pc' := 31) (k' := 3) (n' := 1033) (N := (Mn + 1)) (vs := (List.replicate (Mn + 1) (.int (0 : Int32)))) d1_29 rfl (hw _ w55) (by have e1 := c_iadd ms (1 : Int32); have r1 := rng32 (ms + (1 : Int32)); have k1 : (1 : Int32).toInt = 1 := (by decide); omega) rfl 1024 (by omega) (by decide) (by decide) (by decide) rfl rfl ?_
  intro h6 nb ha_nb X6 A_nb
  have ne_hset_nb : hset ≠ nb := Nat.ne_of_lt (by rw [ha_nb]; exact E_hset.lt)
  have ne_o_nb : o ≠ nb := Nat.ne_of_lt (by rw [ha_nb]; exact E_o.lt)
  have gn_nb : n0 ≤ nb := by rw [ha_nb]; exact sz0
  have hs_nb : h0.size ≤ nb := by rw [ha_nb]; exact K0.1
  replace sz0 : n0 ≤ h6.size := Nat.le_trans sz0 X6.1
  replace E_o := E_o.ext X6
  replace E_hset := E_hset.ext X6
  replace F_o_mostNumber := F_o_mostNumber.ext X6
  replace F_o_numbers := F_o_numbers.ext X6
  replace F_o_numbersTaken := F_o_numbersTaken.ext X6
  replace F_o_highestTaken := F_o_highestTaken.ext X6
  replace F_o_others := F_o_others.ext X6
  replace K0 := K0.ext X6
  refine Go.putF (pc' := 34) d1_31 rfl (hw _ w56) Via.refl F_o_numbers E_o (Or.inr ⟨(hw _ w57), rfl, rfl⟩) (hw _ w3) (ty := (.array .boolean)) (by decide) rfl rfl ?_
  intro h7 L7 NL7 W7
  replace F_o_numbers := F_o_numbers.same W7
  replace N0 := NL7 _ N0 gn_o
  replace sz0 : n0 ≤ h7.size := by rw [W7.size]; exact sz0
  replace E_o := E_o.wr W7
  replace E_hset := E_hset.wr W7
  replace F_o_mostNumber := F_o_mostNumber.other W7 (Or.inr (slot_ne (Or.inr (hw _ w54)) (Or.inr (hw _ w57)) (by decide) (t := .int) (t' := (.array .boolean)) (by decide) (by decide)))
  replace F_o_numbersTaken := F_o_numbersTaken.other W7 (Or.inr (slot_ne (Or.inl (hw _ w64)) (Or.inr (hw _ w57)) (by decide) (t := .int) (t' := (.array .boolean)) (by decide) (by decide)))
  replace F_o_highestTaken := F_o_highestTaken.other W7 (Or.inr (slot_ne (Or.inl (hw _ w12)) (Or.inr (hw _ w57)) (by decide) (t := .int) (t' := (.array .boolean)) (by decide) (by decide)))
  replace F_o_others := F_o_others.other W7 (Or.inr (slot_ne (Or.inr (hw _ w52)) (Or.inr (hw _ w57)) (by decide) (t := (.object "java/util/Set")) (t' := (.array .boolean)) (by decide) (by decide)))
  replace A_nb := A_nb.other W7 (Ne.symm ne_o_nb)
  replace K0 := K0.wr W7 (Or.inl (by simp))
  refine Go.retV d1_34 rfl (by decide) (by decide) ?_
  rw [own_bits_nil] at A_nb
  exact ⟨nb, rfl, hs_nb, N0, K0, E_o, F_o_numbers, F_o_numbersTaken, F_o_highestTaken, A_nb⟩
set_option maxRecDepth 65536 in
set_option maxHeartbeats 40000000 in
theorem c_take {l : Launch} {Z : State} {a0 : Array Value} (hw : ∀ d ∈ tables_1, d.before a0 Z = true) {h0 : Heap} {n0 : Nat} (sz0 : n0 ≤ h0.size) (o nb : Addr) (q ct ht : Int32) (T : List Nat) (Mn j : Nat) (hj : q.toInt = (j : Int)) (hjM : j ≤ Mn) (gn_o : n0 ≤ o) (gn_nb : n0 ≤ nb) (E_o : Exa Z h0 o "com/example/even_keel/evenkeel/plan/MemberNames") (F_o_numbers : Fld Z h0 o "com/example/even_keel/evenkeel/plan/MemberNames" "numbers" "[Z" (.ref nb)) (F_o_numbersTaken : Fld Z h0 o "com/example/even_keel/evenkeel/plan/MemberNames" "numbersTaken" "I" (.int ct)) (F_o_highestTaken : Fld Z h0 o "com/example/even_keel/evenkeel/plan/MemberNames" "highestTaken" "I" (.int ht)) (A_nb : Al Z h0 nb .boolean (own_bits (Mn + 1) T)) : Con l Z (⟨"com/example/even_keel/evenkeel/plan/MemberNames", "take", "(I)V"⟩ : MethodName) prog_104_method_10_code 2 none ({ frames := 1, cells := 0, slots := 0, locals := 14 } : Room) [] #[(.ref o), (.int q)] h0 (fun v h L => v = none ∧ Fr n0 L ∧ Keep h0 h [o, nb] ∧ Exa Z h o "com/example/even_keel/evenkeel/plan/MemberNames" ∧ Fld Z h o "com/example/even_keel/evenkeel/plan/MemberNames" "numbers" "[Z" (.ref nb) ∧ Fld Z h o "com/example/even_keel/evenkeel/plan/MemberNames" "numbersTaken" "I" (.int (ct + (1 : Int32))) ∧ Fld Z h o "com/example/even_keel/evenkeel/plan/MemberNames" "highestTaken" "I" (.int (f_c_max ht q)) ∧ Al Z h nb .boolean (own_bits (Mn + 1) (j :: T))) := by
  refine con_of (Ls := #[.val (.ref o), .val (.int q)]) (plainFor_of_name (by first | (simp [plainName, overriddenIn]; done) | decide +kernel)) (fun m => by first | (simp [entryFrame, mkF, argsToLocals, Value.category]; done) | rfl) ?_
  have N0 : Fr n0 [] := Fr.nil _
  have K0 : Keep h0 h0 [o, nb] := Keep.refl _ _
  have ne_o_nb : o ≠ nb := ne_al E_o (hw _ w3) A_nb
  refine Go.aloadN (pc' := 1) d8_0 rfl rfl rfl ?_
  refine Go.getF (pc' := 4) d8_1 rfl (hw _ w56) Via.refl F_o_numbers ?_
  refine Go.iloadN (pc' := 5) d8_4 rfl rfl ?_
  refine Go.iconst (pc' := 6) d8_5 rfl (z := (1 : Int32)) (by decide) ?_
  refine Go.bastoreZ (pc' := 7) (i := j) (v := (.int (1 : Int32))) (vs' := (own_bits (Mn + 1) (j :: T))) d8_6 rfl A_nb hj (by rw [own_bits_len]; omega) (by decide) (own_bits_set (Mn + 1) T j) ?_
  intro h1 L1 NL1 W1 B1
  replace N0 := NL1 _ N0 gn_nb
  replace sz0 : n0 ≤ h1.size := by rw [W1.size]; exact sz0
  replace E_o := E_o.wr W1
  replace F_o_numbers := F_o_numbers.other W1 (Or.inl ne_o_nb)
  replace F_o_numbersTaken := F_o_numbersTaken.other W1 (Or.inl ne_o_nb)
  replace F_o_highestTaken := F_o_highestTaken.other W1 (Or.inl ne_o_nb)
  replace K0 := K0.wr W1 (Or.inl (by simp))
  clear A_nb; have A_nb := B1
  refine Go.aloadN (pc' := 8) d8_7 rfl rfl rfl ?_
  refine Go.dup (pc' := 9) d8_8 rfl rfl ?_
  refine Go.getF (pc' := 12) d8_9 rfl (hw _ w63) Via.refl F_o_numbersTaken ?_
  refine Go.iconst (pc' := 13) d8_12 rfl (z := (1 : Int32)) (by decide) ?_
  refine Go.iadd (pc' := 14) d8_13 rfl rfl ?_
  refine Go.putF (pc' := 17) d8_14 rfl (hw _ w63) Via.refl F_o_numbersTaken E_o (Or.inl (hw _ w64)) (hw _ w3) (ty := .int) (by decide) rfl rfl ?_
  intro h2 L2 NL2 W2
  replace F_o_numbersTaken := F_o_numbersTaken.same W2
  replace N0 := NL2 _ N0 gn_o
  replace sz0 : n0 ≤ h2.size := by rw [W2.size]; exact sz0
  replace E_o := E_o.wr W2
  replace F_o_numbers := F_o_numbers.other W2 (Or.inr (slot_ne (Or.inr (hw _ w57)) (Or.inl (hw _ w64)) (by decide) (t := (.array .boolean)) (t' := .int) (by decide) (by decide)))
  replace F_o_highestTaken := F_o_highestTaken.other W2 (Or.inr (slot_ne (Or.inl (hw _ w12)) (Or.inl (hw _ w64)) (by decide) (t := .int) (t' := .int) (by decide) (by decide)))
  replace A_nb := A_nb.other W2 (Ne.symm ne_o_nb)
  replace K0 := K0.wr W2 (Or.inl (by simp))
  refine Go.aloadN (pc' := 18) d8_17 rfl rfl rfl ?_
  refine Go.aloadN (pc' := 19) d8_18 rfl rfl rfl ?_
  refine Go.getF (pc' := 22) d8_19 rfl (hw _ w11) Via.refl F_o_highestTaken ?_
  refine Go.iloadN (pc' := 23) d8_22 rfl rfl ?_
  refine Go.callS0 (pc' := 26) (W := 1) (argsL := [(.int ht), (.int q)]) (rest := [(.ref o)]) (v0 := some (.int (f_c_max ht q))) (st2 := [(.int (f_c_max ht q)), (.ref o)]) d8_23 rfl (hw _ w65) (hw _ w66) (hw _ w67) (hw _ w68) (by decide) (c_max hw ht q rfl) (by decide) (by decide) rfl rfl rfl (by decide) (by decide) rfl pd__28II_29I rfl rfl (Nat.le_of_eq rfl) ?_
  refine Go.putF (pc' := 29) d8_26 rfl (hw _ w11) Via.refl F_o_highestTaken E_o (Or.inl (hw _ w12)) (hw _ w3) (ty := .int) (by decide) rfl rfl ?_
  intro h3 L3 NL3 W3
  replace F_o_highestTaken := F_o_highestTaken.same W3
  replace N0 := NL3 _ N0 gn_o
  replace sz0 : n0 ≤ h3.size := by rw [W3.size]; exact sz0
  replace E_o := E_o.wr W3
  replace F_o_numbers := F_o_numbers.other W3 (Or.inr (slot_ne (Or.inr (hw _ w57)) (Or.inl (hw _ w12)) (by decide) (t := (.array .boolean)) (t' := .int) (by decide) (by decide)))
  replace F_o_numbersTaken := F_o_numbersTaken.other W3 (Or.inr (slot_ne (Or.inl (hw _ w64)) (Or.inl (hw _ w12)) (by decide) (t := .int) (t' := .int) (by decide) (by decide)))
  replace A_nb := A_nb.other W3 (Ne.symm ne_o_nb)
  replace K0 := K0.wr W3 (Or.inl (by simp))
  refine Go.retV d8_29 rfl (by decide) (by decide) ?_
  exact ⟨rfl, N0, K0, E_o, F_o_numbers, F_o_numbersTaken, F_o_highestTaken, A_nb⟩
set_option maxRecDepth 65536 in
set_option maxHeartbeats 40000000 in
theorem c_nine {l : Launch} {Z : State} {a0 : Array Value} (hw : ∀ d ∈ tables_1, d.before a0 Z = true) {h0 : Heap} {n0 : Nat} (sz0 : n0 ≤ h0.size) (o nb : Addr) (ct ht : Int32) (T : List Nat) (Mn d : Nat) (hct : ct.toInt = (d : Int)) (hd4 : d ≤ 4) (E_o : Exa Z h0 o "com/example/even_keel/evenkeel/plan/MemberNames") (F_o_numbers : Fld Z h0 o "com/example/even_keel/evenkeel/plan/MemberNames" "numbers" "[Z" (.ref nb)) (F_o_numbersTaken : Fld Z h0 o "com/example/even_keel/evenkeel/plan/MemberNames" "numbersTaken" "I" (.int ct)) (F_o_highestTaken : Fld Z h0 o "com/example/even_keel/evenkeel/plan/MemberNames" "highestTaken" "I" (.int ht)) (A_nb : Al Z h0 nb .boolean (own_bits (Mn + 1) T)) (hneg : ht.toInt < 0) : Con l Z (⟨"com/example/even_keel/evenkeel/plan/MemberNames", "numbersInNameOrder", "()[I"⟩ : MethodName) prog_104_method_14_code 7 (some (.array .int)) ({ frames := 0, cells := 1, slots := 4, locals := 0 } : Room) [] #[(.ref o)] h0 (fun v h L => ∃ r, v = some (.ref r) ∧ h0.size ≤ r ∧ Fr n0 L ∧ Keep h0 h [] ∧ Al Z h r .int (List.replicate d (.int (0 : Int32)))) := by
  refine con_of (Ls := #[.val (.ref o), .unset, .unset, .unset, .unset, .unset, .unset]) (plainFor_of_name (by first | (simp [plainName, overriddenIn]; done) | decide +kernel)) (fun m => by first | (simp [entryFrame, mkF, argsToLocals, Value.category]; done) | rfl) ?_
  have N0 : Fr n0 [] := Fr.nil _
  have K0 : Keep h0 h0 [] := Keep.refl _ _
  have ne_o_nb : o ≠ nb := ne_al E_o (hw _ w3) A_nb
  refine Go.aloadN (pc' := 1) d10_0 rfl rfl rfl ?_
  refine Go.getF (pc' := 4) d10_1 rfl (hw _ w63) Via.refl F_o_numbersTaken ?_
  refine Go.new_int (pc' := 6) (k' := 1) (n' := 4) (N := d) (vs := (List.replicate d (.int (0 : Int32)))) d10_4 rfl (hw _ w1) hct rfl 4 hd4 (by decide) (by decide) (by decide) rfl rfl ?_
  intro h1 r ha_r X1 A_r
  have ne_nb_r : nb ≠ r := Nat.ne_of_lt (by rw [ha_r]; exact A_nb.lt)
  have ne_o_r : o ≠ r := Nat.ne_of_lt (by rw [ha_r]; exact E_o.lt)
  have gn_r : n0 ≤ r := by rw [ha_r]; exact sz0
  have hs_r : h0.size ≤ r := by rw [ha_r]; exact K0.1
  replace sz0 : n0 ≤ h1.size := Nat.le_trans sz0 X1.1
  replace E_o := E_o.ext X1
  replace F_o_numbers := F_o_numbers.ext X1
  replace F_o_numbersTaken := F_o_numbersTaken.ext X1
  replace F_o_highestTaken := F_o_highestTaken.ext X1
  replace A_nb := A_nb.ext X1
  replace K0 := K0.ext X1
  refine Go.astoreN (pc' := 7) d10_6 rfl rfl (Ls' := #[.val (.ref o), .val (.ref r), .unset, .unset, .unset, .unset, .unset]) rfl ?_
  refine Go.aloadN (pc' := 8) d10_7 rfl rfl rfl ?_
  refine Go.getF (pc' := 11) d10_8 rfl (hw _ w11) Via.refl F_o_highestTaken ?_
  refine Go.istoreN (pc' := 12) d10_11 rfl (Ls' := #[.val (.ref o), .val (.ref r), .val (.int ht), .unset, .unset, .unset, .unset]) rfl ?_
  refine Go.iloadN (pc' := 13) d10_12 rfl rfl ?_
  refine Go.ifF (pc' := 16) (X := ht.toInt) d10_13 rfl rfl (hneg : ht.toInt < 0) ?_
  refine Go.aloadN (pc' := 17) d10_16 rfl rfl rfl ?_
  refine Go.retA d10_17 rfl rfl rfl (by decide) (by decide) ?_
  exact ⟨r, rfl, hs_r, N0, K0, A_r⟩
set_option maxRecDepth 65536 in
set_option maxHeartbeats 40000000 in
theorem inner_nino {l : Launch} {Z : State} {a0 : Array Value} (hw : ∀ d ∈ tables_1, d.before a0 Z = true) {h0 : Heap} {n0 : Nat} (o r : Addr) (ht cv tv : Int32) (T : List Nat) (last : Nat) (hl : ht.toInt = (last : Int)) (h : Heap) (L : List Loc) : ∀ (f k : Nat), k < 10 ^ f → k < 1000000 → 1 ≤ last → (∀ kv' : Int64, kv'.toInt = ((own_w last f k : Nat) : Int) → Go Z l ({ frames := 0, cells := 1, slots := 4, locals := 0 } : Room) prog_104_method_14_code 7 "com/example/even_keel/evenkeel/plan/MemberNames" (some (.array .int)) "numbersInNameOrder" 125 #[.val (.ref o), .val (.ref r), .val (.int ht), .val (.int cv), .val (.long kv'), .second, .val (.int tv)] [] h L 1 4 (fun v h L => ∃ r, v = some (.ref r) ∧ h0.size ≤ r ∧ Fr n0 L ∧ Keep h0 h [] ∧ Al Z h r .int ((own_got T last last).map own_iv))) → ∀ kv : Int64, kv.toInt = (k : Int) → Go Z l ({ frames := 0, cells := 1, slots := 4, locals := 0 } : Room) prog_104_method_14_code 7 "com/example/even_keel/evenkeel/plan/MemberNames" (some (.array .int)) "numbersInNameOrder" 91 #[.val (.ref o), .val (.ref r), .val (.int ht), .val (.int cv), .val (.long kv), .second, .val (.int tv)] [] h L 1 4 (fun v h L => ∃ r, v = some (.ref r) ∧ h0.size ≤ r ∧ Fr n0 L ∧ Keep h0 h [] ∧ Al Z h r .int ((own_got T last last).map own_iv)) := by
  intro f
  induction f with
  | zero =>
    intro k hkf hkm hlast H kv hk
    obtain rfl : k = 0 := by simpa using hkf
    refine Go.lload (pc' := 93) d10_91 rfl rfl ?_
    refine Go.ldc2 (pc' := 96) d10_93 rfl (hw _ w81) ?_
    refine Go.lrem (pc' := 97) d10_96 rfl (by decide) rfl ?_
    refine Go.ldc2 (pc' := 100) d10_97 rfl (hw _ w82) ?_
    refine Go.lcmpF (pc' := 104) (X := (kv % (10 : Int64)).toInt) (Y := (9 : Int)) d10_100 d10_101 rfl rfl rfl (by decide) (by rw [own_rem10 kv 0 hk]; omega : ¬ (kv % (10 : Int64)).toInt = (9 : Int)) ?_
    refine Go.lload (pc' := 106) d10_104 rfl rfl ?_
    refine Go.lconst (pc' := 107) d10_106 rfl (z := (1 : Int64)) (by decide) ?_
    refine Go.ladd (pc' := 108) d10_107 rfl rfl ?_
    refine Go.iloadN (pc' := 109) d10_108 rfl rfl ?_
    refine Go.i2l (pc' := 110) d10_109 rfl rfl ?_
    refine Go.lcmpT (pc' := 125) (X := (kv + (1 : Int64)).toInt) (Y := ht.toInt64.toInt) d10_110 d10_111 rfl (by decide) rfl rfl (by rw [own_succ kv 0 hk (by omega), Int32.toInt_toInt64]; omega : ¬ ht.toInt64.toInt < (kv + (1 : Int64)).toInt) ?_
    exact H kv (by rw [hk]; rfl)
  | succ f ih =>
    intro k hkf hkm hlast H kv hk
    have hkf' : k < 10 * 10 ^ f := by rw [Nat.pow_succ] at hkf; omega
    have hq : k / 10 < 10 ^ f := by omega
    replace ih := fun k h2 => ih k (show k < 10 ^ f from h2)
    have e9 : (9 : Int64).toInt = 9 := by decide
    have er := own_rem10 kv k hk
    have es := own_succ kv k hk (by omega)
    have el : ht.toInt64.toInt = (last : Int) := by rw [Int32.toInt_toInt64]; exact hl
    refine Go.lload (pc' := 93) d10_91 rfl rfl ?_
    refine Go.ldc2 (pc' := 96) d10_93 rfl (hw _ w81) ?_
    refine Go.lrem (pc' := 97) d10_96 rfl (by decide) rfl ?_
    refine Go.ldc2 (pc' := 100) d10_97 rfl (hw _ w82) ?_
    by_cases hc1 : (kv % (10 : Int64)).toInt = (9 : Int)
    · refine Go.lcmpT (pc' := 114) (X := (kv % (10 : Int64)).toInt) (Y := (9 : Int)) d10_100 d10_101 rfl (by decide) rfl (by decide) (hc1 : (kv % (10 : Int64)).toInt = (9 : Int)) ?_
      refine Go.lload (pc' := 116) d10_114 rfl rfl ?_
      refine Go.ldc2 (pc' := 119) d10_116 rfl (hw _ w81) ?_
      refine Go.ldiv (pc' := 120) d10_119 rfl (by decide) rfl ?_
      generalize hv_k2 : (kv / (10 : Int64)) = k2
      refine Go.lstore (pc' := 122) d10_120 rfl (Ls' := #[.val (.ref o), .val (.ref r), .val (.int ht), .val (.int cv), .val (.long k2), .second, .val (.int tv)]) rfl ?_
      refine Go.goto (pc' := 91) d10_122 (by decide) ?_
      refine ih (k / 10) hq (by omega) hlast ?_ k2 (by rw [← hv_k2]; exact own_div10 kv k hk)
      intro kv' hkv'
      refine H kv' ?_
      rw [hkv']
      show ((own_w last f (k / 10) : Nat) : Int) = ((if _ then _ else _ : Nat) : Int)
      rw [if_pos (by omega)]
    · refine Go.lcmpF (pc' := 104) (X := (kv % (10 : Int64)).toInt) (Y := (9 : Int)) d10_100 d10_101 rfl rfl rfl (by decide) (hc1 : ¬ (kv % (10 : Int64)).toInt = (9 : Int)) ?_
      refine Go.lload (pc' := 106) d10_104 rfl rfl ?_
      refine Go.lconst (pc' := 107) d10_106 rfl (z := (1 : Int64)) (by decide) ?_
      refine Go.ladd (pc' := 108) d10_107 rfl rfl ?_
      refine Go.iloadN (pc' := 109) d10_108 rfl rfl ?_
      refine Go.i2l (pc' := 110) d10_109 rfl rfl ?_
      by_cases hc2 : ht.toInt64.toInt < (kv + (1 : Int64)).toInt
      · refine Go.lcmpF (pc' := 114) (X := (kv + (1 : Int64)).toInt) (Y := ht.toInt64.toInt) d10_110 d10_111 rfl rfl rfl rfl (hc2 : ht.toInt64.toInt < (kv + (1 : Int64)).toInt) ?_
        refine Go.lload (pc' := 116) d10_114 rfl rfl ?_
        refine Go.ldc2 (pc' := 119) d10_116 rfl (hw _ w81) ?_
        refine Go.ldiv (pc' := 120) d10_119 rfl (by decide) rfl ?_
        generalize hv_k2 : (kv / (10 : Int64)) = k2
        refine Go.lstore (pc' := 122) d10_120 rfl (Ls' := #[.val (.ref o), .val (.ref r), .val (.int ht), .val (.int cv), .val (.long k2), .second, .val (.int tv)]) rfl ?_
        refine Go.goto (pc' := 91) d10_122 (by decide) ?_
        refine ih (k / 10) hq (by omega) hlast ?_ k2 (by rw [← hv_k2]; exact own_div10 kv k hk)
        intro kv' hkv'
        refine H kv' ?_
        rw [hkv']
        show ((own_w last f (k / 10) : Nat) : Int) = ((if _ then _ else _ : Nat) : Int)
        rw [if_pos (by omega)]
      · refine Go.lcmpT (pc' := 125) (X := (kv + (1 : Int64)).toInt) (Y := ht.toInt64.toInt) d10_110 d10_111 rfl (by decide) rfl rfl (hc2 : ¬ ht.toInt64.toInt < (kv + (1 : Int64)).toInt) ?_
        refine H kv ?_
        rw [hk]
        show (k : Int) = ((if _ then _ else _ : Nat) : Int)
        rw [if_neg (by omega)]
set_option maxRecDepth 65536 in
set_option maxHeartbeats 40000000 in
theorem loop_nino {l : Launch} {Z : State} {a0 : Array Value} (hw : ∀ d ∈ tables_1, d.before a0 Z = true) {h0 : Heap} {n0 : Nat} (o nb r : Addr) (ct ht : Int32) (T : List Nat) (Mn d last : Nat) (hl : ht.toInt = (last : Int)) (hlM : last ≤ Mn) (hMn : Mn < 1024) (hd : (own_got T last last).length = d) (hd4 : d ≤ 4) (hs_r : h0.size ≤ r) (gn_r : n0 ≤ r) (ne_o_r : o ≠ r) (ne_nb_r : nb ≠ r) : ∀ (m : Nat) (t : Nat) (cv : Int32) (kv : Int64) (tv : Int32) (h : Heap) (L : List Loc), t + m = last → cv.toInt = (((own_got T last t).length : Nat) : Int) → kv.toInt = ((own_seq last t : Nat) : Int) → tv.toInt = (t : Int) → Fr n0 L → n0 ≤ h.size → Keep h0 h [] → Exa Z h o "com/example/even_keel/evenkeel/plan/MemberNames" → Fld Z h o "com/example/even_keel/evenkeel/plan/MemberNames" "numbers" "[Z" (.ref nb) → Fld Z h o "com/example/even_keel/evenkeel/plan/MemberNames" "numbersTaken" "I" (.int ct) → Fld Z h o "com/example/even_keel/evenkeel/plan/MemberNames" "highestTaken" "I" (.int ht) → Al Z h nb .boolean (own_bits (Mn + 1) T) → Al Z h r .int (own_fill (own_got T last t) d) → Go Z l ({ frames := 0, cells := 1, slots := 4, locals := 0 } : Room) prog_104_method_14_code 7 "com/example/even_keel/evenkeel/plan/MemberNames" (some (.array .int)) "numbersInNameOrder" 42 #[.val (.ref o), .val (.ref r), .val (.int ht), .val (.int cv), .val (.long kv), .second, .val (.int tv)] [] h L 1 4 (fun v h L => ∃ r, v = some (.ref r) ∧ h0.size ≤ r ∧ Fr n0 L ∧ Keep h0 h [] ∧ Al Z h r .int ((own_got T last last).map own_iv)) := by
  intro m
  induction m with
  | zero =>
    intro t cv kv tv h L htm hcv hk htv N0 sz0 K0 E_o F_o_numbers F_o_numbersTaken F_o_highestTaken A_nb A_r
    have ne_o_nb : o ≠ nb := ne_al E_o (hw _ w3) A_nb
    refine Go.iload (pc' := 44) d10_42 rfl rfl ?_
    refine Go.iloadN (pc' := 45) d10_44 rfl rfl ?_
    refine Go.icmpT (pc' := 137) (X := tv.toInt) (Y := ht.toInt) d10_45 (by decide) rfl rfl (by omega : ¬ tv.toInt < ht.toInt) ?_
    refine Go.aloadN (pc' := 138) d10_137 rfl rfl rfl ?_
    refine Go.retA d10_138 rfl rfl rfl (by decide) (by decide) ?_
    refine ⟨r, rfl, hs_r, N0, K0, ?_⟩
    have : t = last := by omega
    subst this
    rw [own_fill_full _ _ hd] at A_r
    exact A_r
  | succ m ih =>
    intro t cv kv tv h L htm hcv hk htv N0 sz0 K0 E_o F_o_numbers F_o_numbersTaken F_o_highestTaken A_nb A_r
    by_cases hin : own_seq last t ∈ T
    · have hlt : (own_got T last t).length < d := own_got_lt T last t d hd (by omega) hin
      have ne_o_nb : o ≠ nb := ne_al E_o (hw _ w3) A_nb
      refine Go.iload (pc' := 44) d10_42 rfl rfl ?_
      refine Go.iloadN (pc' := 45) d10_44 rfl rfl ?_
      refine Go.icmpF (pc' := 48) (X := tv.toInt) (Y := ht.toInt) d10_45 rfl rfl rfl (by omega : tv.toInt < ht.toInt) ?_
      have hsq := own_seq_ok last t (by omega) (by omega)
      obtain ⟨j, hj⟩ : ∃ j, j = own_seq last t := ⟨_, rfl⟩
      rw [← hj] at hk hsq hin
      have hk32 := own_l2i kv j hk (by omega)
      refine Go.aloadN (pc' := 49) d10_48 rfl rfl rfl ?_
      refine Go.getF (pc' := 52) d10_49 rfl (hw _ w56) Via.refl F_o_numbers ?_
      refine Go.lload (pc' := 54) d10_52 rfl rfl ?_
      refine Go.l2i (pc' := 55) d10_54 rfl rfl ?_
      refine Go.baloadZ (pc' := 56) d10_55 rfl (i := j) (v := (.int (1 : Int32))) A_nb hk32 (own_bits_at1 (Mn + 1) T j (by omega) hin) ?_
      refine Go.ifF (pc' := 59) (X := (1 : Int)) d10_56 rfl (by decide) (by decide : ¬ (1 : Int) = 0) ?_
      refine Go.aloadN (pc' := 60) d10_59 rfl rfl rfl ?_
      refine Go.iloadN (pc' := 61) d10_60 rfl rfl ?_
      obtain ⟨v_c, hv_v_c⟩ : ∃ v : Int32, (cv + (1 : Int32)) = v := ⟨_, rfl⟩
      refine Go.iinc (pc' := 64) d10_61 rfl rfl (z := v_c) hv_v_c (Ls' := #[.val (.ref o), .val (.ref r), .val (.int ht), .val (.int v_c), .val (.long kv), .second, .val (.int tv)]) rfl ?_
      refine Go.lload (pc' := 66) d10_64 rfl rfl ?_
      refine Go.l2i (pc' := 67) d10_66 rfl rfl ?_
      refine Go.iastore (pc' := 68) (i := (own_got T last t).length) (v := (.int kv.toInt32)) (vs' := (own_fill (own_got T last (t + 1)) d)) d10_67 rfl A_r hcv (by rw [own_fill_len]; omega) rfl (own_fill_set T last t d j kv.toInt32 hj hin hk32 (by omega) hlt) ?_
      intro h1 L1 NL1 W1 B1
      replace N0 := NL1 _ N0 gn_r
      replace sz0 : n0 ≤ h1.size := by rw [W1.size]; exact sz0
      replace E_o := E_o.wr W1
      replace F_o_numbers := F_o_numbers.other W1 (Or.inl ne_o_r)
      replace F_o_numbersTaken := F_o_numbersTaken.other W1 (Or.inl ne_o_r)
      replace F_o_highestTaken := F_o_highestTaken.other W1 (Or.inl ne_o_r)
      replace A_nb := A_nb.other W1 ne_nb_r
      replace K0 := K0.wr W1 (Or.inr hs_r)
      clear A_r; have A_r := B1
      have hgl : (own_got T last (t + 1)).length = (own_got T last t).length + 1 := by rw [own_got_succ, ← hj, if_pos hin]; simp
      have hcv2 : v_c.toInt = (((own_got T last (t + 1)).length : Nat) : Int) := by rw [hgl, ← hv_v_c]; have e1 := c_iadd cv (1 : Int32); have r1 := rng32 (cv + (1 : Int32)); have k1 : (1 : Int32).toInt = 1 := (by decide); omega
      have e10 : (10 : Int64).toInt = 10 := by decide
      have em := own_mul10 kv j hk (by omega)
      have em' := own_mul10' kv j hk (by omega)
      have el : ht.toInt64.toInt = (last : Int) := by rw [Int32.toInt_toInt64]; exact hl
      have hnx : own_seq last (t + 1) = own_nx last j := by rw [hj]; rfl
      refine Go.ldc2 (pc' := 71) d10_68 rfl (hw _ w81) ?_
      refine Go.lload (pc' := 73) d10_71 rfl rfl ?_
      refine Go.lmul (pc' := 74) d10_73 rfl rfl ?_
      refine Go.iloadN (pc' := 75) d10_74 rfl rfl ?_
      refine Go.i2l (pc' := 76) d10_75 rfl rfl ?_
      by_cases hc2 : ht.toInt64.toInt < ((10 : Int64) * kv).toInt
      · refine Go.lcmpT (pc' := 91) (X := ((10 : Int64) * kv).toInt) (Y := ht.toInt64.toInt) d10_76 d10_77 rfl (by decide) rfl rfl (hc2 : ht.toInt64.toInt < ((10 : Int64) * kv).toInt) ?_
        refine inner_nino hw o r ht v_c tv T last hl h1 L1 5 j (by omega) (by omega) (by omega) ?_ kv hk
        intro kw hkw
        refine Go.lload (pc' := 127) d10_125 rfl rfl ?_
        refine Go.lconst (pc' := 128) d10_127 rfl (z := (1 : Int64)) (by decide) ?_
        refine Go.ladd (pc' := 129) d10_128 rfl rfl ?_
        generalize hv_k3 : (kw + (1 : Int64)) = k3
        refine Go.lstore (pc' := 131) d10_129 rfl (Ls' := #[.val (.ref o), .val (.ref r), .val (.int ht), .val (.int v_c), .val (.long k3), .second, .val (.int tv)]) rfl ?_
        obtain ⟨t2, hv_t2⟩ : ∃ v : Int32, (tv + (1 : Int32)) = v := ⟨_, rfl⟩
        refine Go.iinc (pc' := 134) d10_131 rfl rfl (z := t2) hv_t2 (Ls' := #[.val (.ref o), .val (.ref r), .val (.int ht), .val (.int v_c), .val (.long k3), .second, .val (.int t2)]) rfl ?_
        refine Go.goto (pc' := 42) d10_134 (by decide) ?_
        refine ih (t + 1) v_c k3 t2 h1 L1 (by omega) hcv2 ?_ ?_ N0 sz0 K0 E_o F_o_numbers F_o_numbersTaken F_o_highestTaken A_nb A_r
        · rw [hnx]; rw [← hv_k3, own_succ kw (own_w last 5 j) hkw (by have := own_w_le last 5 j; omega)]; unfold own_nx; rw [if_pos (by omega)]
        · rw [← hv_t2]; have e1 := c_iadd tv (1 : Int32); have r1 := rng32 (tv + (1 : Int32)); have k1 : (1 : Int32).toInt = 1 := (by decide); omega
      · refine Go.lcmpF (pc' := 80) (X := ((10 : Int64) * kv).toInt) (Y := ht.toInt64.toInt) d10_76 d10_77 rfl rfl rfl rfl (hc2 : ¬ ht.toInt64.toInt < ((10 : Int64) * kv).toInt) ?_
        refine Go.lload (pc' := 82) d10_80 rfl rfl ?_
        refine Go.ldc2 (pc' := 85) d10_82 rfl (hw _ w81) ?_
        refine Go.lmul (pc' := 86) d10_85 rfl rfl ?_
        generalize hv_k4 : (kv * (10 : Int64)) = k4
        refine Go.lstore (pc' := 88) d10_86 rfl (Ls' := #[.val (.ref o), .val (.ref r), .val (.int ht), .val (.int v_c), .val (.long k4), .second, .val (.int tv)]) rfl ?_
        refine Go.goto (pc' := 131) d10_88 (by decide) ?_
        obtain ⟨t2, hv_t2⟩ : ∃ v : Int32, (tv + (1 : Int32)) = v := ⟨_, rfl⟩
        refine Go.iinc (pc' := 134) d10_131 rfl rfl (z := t2) hv_t2 (Ls' := #[.val (.ref o), .val (.ref r), .val (.int ht), .val (.int v_c), .val (.long k4), .second, .val (.int t2)]) rfl ?_
        refine Go.goto (pc' := 42) d10_134 (by decide) ?_
        refine ih (t + 1) v_c k4 t2 h1 L1 (by omega) hcv2 ?_ ?_ N0 sz0 K0 E_o F_o_numbers F_o_numbersTaken F_o_highestTaken A_nb A_r
        · rw [hnx]; rw [← hv_k4, em']; unfold own_nx; rw [if_neg (by omega)]
        · rw [← hv_t2]; have e1 := c_iadd tv (1 : Int32); have r1 := rng32 (tv + (1 : Int32)); have k1 : (1 : Int32).toInt = 1 := (by decide); omega
    · have _ := hin
      have ne_o_nb : o ≠ nb := ne_al E_o (hw _ w3) A_nb
      refine Go.iload (pc' := 44) d10_42 rfl rfl ?_
      refine Go.iloadN (pc' := 45) d10_44 rfl rfl ?_
      refine Go.icmpF (pc' := 48) (X := tv.toInt) (Y := ht.toInt) d10_45 rfl rfl rfl (by omega : tv.toInt < ht.toInt) ?_
      have hsq := own_seq_ok last t (by omega) (by omega)
      obtain ⟨j, hj⟩ : ∃ j, j = own_seq last t := ⟨_, rfl⟩
      rw [← hj] at hk hsq hin
      have hk32 := own_l2i kv j hk (by omega)
      refine Go.aloadN (pc' := 49) d10_48 rfl rfl rfl ?_
      refine Go.getF (pc' := 52) d10_49 rfl (hw _ w56) Via.refl F_o_numbers ?_
      refine Go.lload (pc' := 54) d10_52 rfl rfl ?_
      refine Go.l2i (pc' := 55) d10_54 rfl rfl ?_
      refine Go.baloadZ (pc' := 56) d10_55 rfl (i := j) (v := (.int (0 : Int32))) A_nb hk32 (own_bits_at0 (Mn + 1) T j (by omega) hin) ?_
      refine Go.ifT (pc' := 68) (X := (0 : Int)) d10_56 (by decide) (by decide) (by decide : (0 : Int) = 0) ?_
      have hgot : own_got T last (t + 1) = own_got T last t := by rw [own_got_succ, ← hj, if_neg hin, List.append_nil]
      rw [← hgot] at A_r hcv
      have e10 : (10 : Int64).toInt = 10 := by decide
      have em := own_mul10 kv j hk (by omega)
      have em' := own_mul10' kv j hk (by omega)
      have el : ht.toInt64.toInt = (last : Int) := by rw [Int32.toInt_toInt64]; exact hl
      have hnx : own_seq last (t + 1) = own_nx last j := by rw [hj]; rfl
      refine Go.ldc2 (pc' := 71) d10_68 rfl (hw _ w81) ?_
      refine Go.lload (pc' := 73) d10_71 rfl rfl ?_
      refine Go.lmul (pc' := 74) d10_73 rfl rfl ?_
      refine Go.iloadN (pc' := 75) d10_74 rfl rfl ?_
      refine Go.i2l (pc' := 76) d10_75 rfl rfl ?_
      by_cases hc1 : ht.toInt64.toInt < ((10 : Int64) * kv).toInt
      · refine Go.lcmpT (pc' := 91) (X := ((10 : Int64) * kv).toInt) (Y := ht.toInt64.toInt) d10_76 d10_77 rfl (by decide) rfl rfl (hc1 : ht.toInt64.toInt < ((10 : Int64) * kv).toInt) ?_
        refine inner_nino hw o r ht cv tv T last hl h L 5 j (by omega) (by omega) (by omega) ?_ kv hk
        intro kw hkw
        refine Go.lload (pc' := 127) d10_125 rfl rfl ?_
        refine Go.lconst (pc' := 128) d10_127 rfl (z := (1 : Int64)) (by decide) ?_
        refine Go.ladd (pc' := 129) d10_128 rfl rfl ?_
        generalize hv_k3 : (kw + (1 : Int64)) = k3
        refine Go.lstore (pc' := 131) d10_129 rfl (Ls' := #[.val (.ref o), .val (.ref r), .val (.int ht), .val (.int cv), .val (.long k3), .second, .val (.int tv)]) rfl ?_
        obtain ⟨t2, hv_t2⟩ : ∃ v : Int32, (tv + (1 : Int32)) = v := ⟨_, rfl⟩
        refine Go.iinc (pc' := 134) d10_131 rfl rfl (z := t2) hv_t2 (Ls' := #[.val (.ref o), .val (.ref r), .val (.int ht), .val (.int cv), .val (.long k3), .second, .val (.int t2)]) rfl ?_
        refine Go.goto (pc' := 42) d10_134 (by decide) ?_
        refine ih (t + 1) cv k3 t2 h L (by omega) hcv ?_ ?_ N0 sz0 K0 E_o F_o_numbers F_o_numbersTaken F_o_highestTaken A_nb A_r
        · rw [hnx]; rw [← hv_k3, own_succ kw (own_w last 5 j) hkw (by have := own_w_le last 5 j; omega)]; unfold own_nx; rw [if_pos (by omega)]
        · rw [← hv_t2]; have e1 := c_iadd tv (1 : Int32); have r1 := rng32 (tv + (1 : Int32)); have k1 : (1 : Int32).toInt = 1 := (by decide); omega
      · refine Go.lcmpF (pc' := 80) (X := ((10 : Int64) * kv).toInt) (Y := ht.toInt64.toInt) d10_76 d10_77 rfl rfl rfl rfl (hc1 : ¬ ht.toInt64.toInt < ((10 : Int64) * kv).toInt) ?_
        refine Go.lload (pc' := 82) d10_80 rfl rfl ?_
        refine Go.ldc2 (pc' := 85) d10_82 rfl (hw _ w81) ?_
        refine Go.lmul (pc' := 86) d10_85 rfl rfl ?_
        generalize hv_k4 : (kv * (10 : Int64)) = k4
        refine Go.lstore (pc' := 88) d10_86 rfl (Ls' := #[.val (.ref o), .val (.ref r), .val (.int ht), .val (.int cv), .val (.long k4), .second, .val (.int tv)]) rfl ?_
        refine Go.goto (pc' := 131) d10_88 (by decide) ?_
        obtain ⟨t2, hv_t2⟩ : ∃ v : Int32, (tv + (1 : Int32)) = v := ⟨_, rfl⟩
        refine Go.iinc (pc' := 134) d10_131 rfl rfl (z := t2) hv_t2 (Ls' := #[.val (.ref o), .val (.ref r), .val (.int ht), .val (.int cv), .val (.long k4), .second, .val (.int t2)]) rfl ?_
        refine Go.goto (pc' := 42) d10_134 (by decide) ?_
        refine ih (t + 1) cv k4 t2 h L (by omega) hcv ?_ ?_ N0 sz0 K0 E_o F_o_numbers F_o_numbersTaken F_o_highestTaken A_nb A_r
        · rw [hnx]; rw [← hv_k4, em']; unfold own_nx; rw [if_neg (by omega)]
        · rw [← hv_t2]; have e1 := c_iadd tv (1 : Int32); have r1 := rng32 (tv + (1 : Int32)); have k1 : (1 : Int32).toInt = 1 := (by decide); omega
set_option maxRecDepth 65536 in
set_option maxHeartbeats 40000000 in
theorem c_nino {l : Launch} {Z : State} {a0 : Array Value} (hw : ∀ d ∈ tables_1, d.before a0 Z = true) {h0 : Heap} {n0 : Nat} (sz0 : n0 ≤ h0.size) (o nb : Addr) (ct ht : Int32) (T : List Nat) (Mn d last : Nat) (hct : ct.toInt = (d : Int)) (hd4 : d ≤ 4) (hl : ht.toInt = (last : Int)) (hlM : last ≤ Mn) (hMn : Mn < 1024) (hd : (own_got T last last).length = d) (E_o : Exa Z h0 o "com/example/even_keel/evenkeel/plan/MemberNames") (F_o_numbers : Fld Z h0 o "com/example/even_keel/evenkeel/plan/MemberNames" "numbers" "[Z" (.ref nb)) (F_o_numbersTaken : Fld Z h0 o "com/example/even_keel/evenkeel/plan/MemberNames" "numbersTaken" "I" (.int ct)) (F_o_highestTaken : Fld Z h0 o "com/example/even_keel/evenkeel/plan/MemberNames" "highestTaken" "I" (.int ht)) (A_nb : Al Z h0 nb .boolean (own_bits (Mn + 1) T)) : Con l Z (⟨"com/example/even_keel/evenkeel/plan/MemberNames", "numbersInNameOrder", "()[I"⟩ : MethodName) prog_104_method_14_code 7 (some (.array .int)) ({ frames := 0, cells := 1, slots := 4, locals := 0 } : Room) [] #[(.ref o)] h0 (fun v h L => ∃ r, v = some (.ref r) ∧ h0.size ≤ r ∧ Fr n0 L ∧ Keep h0 h [] ∧ Al Z h r .int ((own_got T last last).map own_iv)) := by
  refine con_of (Ls := #[.val (.ref o), .unset, .unset, .unset, .unset, .unset, .unset]) (plainFor_of_name (by first | (simp [plainName, overriddenIn]; done) | decide +kernel)) (fun m => by first | (simp [entryFrame, mkF, argsToLocals, Value.category]; done) | rfl) ?_
  have N0 : Fr n0 [] := Fr.nil _
  have K0 : Keep h0 h0 [] := Keep.refl _ _
  have ne_o_nb : o ≠ nb := ne_al E_o (hw _ w3) A_nb
  refine Go.aloadN (pc' := 1) d10_0 rfl rfl rfl ?_
  refine Go.getF (pc' := 4) d10_1 rfl (hw _ w63) Via.refl F_o_numbersTaken ?_
  refine Go.new_int (pc' := 6) (k' := 1) (n' := 4) (N := d) (vs := (List.replicate d (.int (0 : Int32)))) d10_4 rfl (hw _ w1) hct rfl 4 hd4 (by decide) (by decide) (by decide) rfl rfl ?_
  intro h1 r ha_r X1 A_r
  have ne_nb_r : nb ≠ r := Nat.ne_of_lt (by rw [ha_r]; exact A_nb.lt)
  have ne_o_r : o ≠ r := Nat.ne_of_lt (by rw [ha_r]; exact E_o.lt)
  have gn_r : n0 ≤ r := by rw [ha_r]; exact sz0
  have hs_r : h0.size ≤ r := by rw [ha_r]; exact K0.1
  replace sz0 : n0 ≤ h1.size := Nat.le_trans sz0 X1.1
  replace E_o := E_o.ext X1
  replace F_o_numbers := F_o_numbers.ext X1
  replace F_o_numbersTaken := F_o_numbersTaken.ext X1
  replace F_o_highestTaken := F_o_highestTaken.ext X1
  replace A_nb := A_nb.ext X1
  replace K0 := K0.ext X1
  refine Go.astoreN (pc' := 7) d10_6 rfl rfl (Ls' := #[.val (.ref o), .val (.ref r), .unset, .unset, .unset, .unset, .unset]) rfl ?_
  refine Go.aloadN (pc' := 8) d10_7 rfl rfl rfl ?_
  refine Go.getF (pc' := 11) d10_8 rfl (hw _ w11) Via.refl F_o_highestTaken ?_
  refine Go.istoreN (pc' := 12) d10_11 rfl (Ls' := #[.val (.ref o), .val (.ref r), .val (.int ht), .unset, .unset, .unset, .unset]) rfl ?_
  refine Go.iloadN (pc' := 13) d10_12 rfl rfl ?_
  refine Go.ifT (pc' := 18) (X := ht.toInt) d10_13 (by decide) rfl (by omega : ¬ ht.toInt < 0) ?_
  rw [own_fill_nil] at A_r
  by_cases h0T : 0 ∈ T
  · have hg0 : own_got T last 0 = [0] := by rw [own_got_zero, if_pos h0T]
    refine Go.iconst (pc' := 19) d10_18 rfl (z := (0 : Int32)) (by decide) ?_
    refine Go.istoreN (pc' := 20) d10_19 rfl (Ls' := #[.val (.ref o), .val (.ref r), .val (.int ht), .val (.int (0 : Int32)), .unset, .unset, .unset]) rfl ?_
    refine Go.aloadN (pc' := 21) d10_20 rfl rfl rfl ?_
    refine Go.getF (pc' := 24) d10_21 rfl (hw _ w56) Via.refl F_o_numbers ?_
    refine Go.iconst (pc' := 25) d10_24 rfl (z := (0 : Int32)) (by decide) ?_
    refine Go.baloadZ (pc' := 26) d10_25 rfl (i := 0) (v := (.int (1 : Int32))) A_nb (by decide) (own_bits_at1 (Mn + 1) T 0 (by omega) h0T) ?_
    refine Go.ifF (pc' := 29) (X := (1 : Int)) d10_26 rfl (by decide) (by decide : ¬ (1 : Int) = 0) ?_
    refine Go.aloadN (pc' := 30) d10_29 rfl rfl rfl ?_
    refine Go.iloadN (pc' := 31) d10_30 rfl rfl ?_
    refine Go.iinc (pc' := 34) d10_31 rfl rfl (z := (1 : Int32)) (by decide) (Ls' := #[.val (.ref o), .val (.ref r), .val (.int ht), .val (.int (1 : Int32)), .unset, .unset, .unset]) rfl ?_
    refine Go.iconst (pc' := 35) d10_34 rfl (z := (0 : Int32)) (by decide) ?_
    refine Go.iastore (pc' := 36) (i := 0) (v := (.int (0 : Int32))) (vs' := (own_fill [0] d)) d10_35 rfl A_r (by decide) (by rw [own_fill_len]; have q := own_got_mono T last last 0; rw [Nat.zero_add, hg0, hd] at q; simp at q ⊢; omega) rfl (own_fill_zero d (by have q := own_got_mono T last last 0; rw [Nat.zero_add, hg0, hd] at q; simpa using q)) ?_
    intro h2 L2 NL2 W2 B2
    replace N0 := NL2 _ N0 gn_r
    replace sz0 : n0 ≤ h2.size := by rw [W2.size]; exact sz0
    replace E_o := E_o.wr W2
    replace F_o_numbers := F_o_numbers.other W2 (Or.inl ne_o_r)
    replace F_o_numbersTaken := F_o_numbersTaken.other W2 (Or.inl ne_o_r)
    replace F_o_highestTaken := F_o_highestTaken.other W2 (Or.inl ne_o_r)
    replace A_nb := A_nb.other W2 ne_nb_r
    replace K0 := K0.wr W2 (Or.inr hs_r)
    clear A_r; have A_r := B2
    refine Go.lconst (pc' := 37) d10_36 rfl (z := (1 : Int64)) (by decide) ?_
    refine Go.lstore (pc' := 39) d10_37 rfl (Ls' := #[.val (.ref o), .val (.ref r), .val (.int ht), .val (.int (1 : Int32)), .val (.long (1 : Int64)), .second, .unset]) rfl ?_
    refine Go.iconst (pc' := 40) d10_39 rfl (z := (0 : Int32)) (by decide) ?_
    refine Go.istore (pc' := 42) d10_40 rfl (Ls' := #[.val (.ref o), .val (.ref r), .val (.int ht), .val (.int (1 : Int32)), .val (.long (1 : Int64)), .second, .val (.int (0 : Int32))]) rfl ?_
    rw [← hg0] at A_r
    refine loop_nino hw o nb r ct ht T Mn d last hl hlM hMn hd hd4 hs_r gn_r ne_o_r ne_nb_r last 0 (1 : Int32) (1 : Int64) (0 : Int32) h2 L2 (by omega) (by rw [hg0]; decide) (show (1 : Int64).toInt = ((1 : Nat) : Int) from by decide) (by decide) N0 sz0 K0 E_o F_o_numbers F_o_numbersTaken F_o_highestTaken A_nb A_r
  · have hg0 : own_got T last 0 = [] := by rw [own_got_zero, if_neg h0T]
    refine Go.iconst (pc' := 19) d10_18 rfl (z := (0 : Int32)) (by decide) ?_
    refine Go.istoreN (pc' := 20) d10_19 rfl (Ls' := #[.val (.ref o), .val (.ref r), .val (.int ht), .val (.int (0 : Int32)), .unset, .unset, .unset]) rfl ?_
    refine Go.aloadN (pc' := 21) d10_20 rfl rfl rfl ?_
    refine Go.getF (pc' := 24) d10_21 rfl (hw _ w56) Via.refl F_o_numbers ?_
    refine Go.iconst (pc' := 25) d10_24 rfl (z := (0 : Int32)) (by decide) ?_
    refine Go.baloadZ (pc' := 26) d10_25 rfl (i := 0) (v := (.int (0 : Int32))) A_nb (by decide) (own_bits_at0 (Mn + 1) T 0 (by omega) h0T) ?_
    refine Go.ifT (pc' := 36) (X := (0 : Int)) d10_26 (by decide) (by decide) (by decide : (0 : Int) = 0) ?_
    refine Go.lconst (pc' := 37) d10_36 rfl (z := (1 : Int64)) (by decide) ?_
    refine Go.lstore (pc' := 39) d10_37 rfl (Ls' := #[.val (.ref o), .val (.ref r), .val (.int ht), .val (.int (0 : Int32)), .val (.long (1 : Int64)), .second, .unset]) rfl ?_
    refine Go.iconst (pc' := 40) d10_39 rfl (z := (0 : Int32)) (by decide) ?_
    refine Go.istore (pc' := 42) d10_40 rfl (Ls' := #[.val (.ref o), .val (.ref r), .val (.int ht), .val (.int (0 : Int32)), .val (.long (1 : Int64)), .second, .val (.int (0 : Int32))]) rfl ?_
    rw [← hg0] at A_r
    refine loop_nino hw o nb r ct ht T Mn d last hl hlM hMn hd hd4 hs_r gn_r ne_o_r ne_nb_r last 0 (0 : Int32) (1 : Int64) (0 : Int32) h1 [] (by omega) (by rw [hg0]; decide) (show (1 : Int64).toInt = ((1 : Nat) : Int) from by decide) (by decide) N0 sz0 K0 E_o F_o_numbers F_o_numbersTaken F_o_highestTaken A_nb A_r
def f_c_key (k : Int32) : Int32 := (if k.toInt < (10 : Int) then ((k + (1 : Int32)) * (1331 : Int32)) else (if k.toInt < (100 : Int) then ((((k / (10 : Int32)) + (1 : Int32)) * (1331 : Int32)) + (((k % (10 : Int32)) + (1 : Int32)) * (121 : Int32))) else (if k.toInt < (1000 : Int) then (((((k / (100 : Int32)) + (1 : Int32)) * (1331 : Int32)) + ((((k / (10 : Int32)) % (10 : Int32)) + (1 : Int32)) * (121 : Int32))) + (((k % (10 : Int32)) + (1 : Int32)) * (11 : Int32))) else ((((((k / (1000 : Int32)) + (1 : Int32)) * (1331 : Int32)) + ((((k / (100 : Int32)) % (10 : Int32)) + (1 : Int32)) * (121 : Int32))) + ((((k / (10 : Int32)) % (10 : Int32)) + (1 : Int32)) * (11 : Int32))) + ((k % (10 : Int32)) + (1 : Int32))))))
set_option maxRecDepth 65536 in
set_option maxHeartbeats 40000000 in
theorem c_key {l : Launch} {Z : State} {a0 : Array Value} (hw : ∀ d ∈ tables_1, d.before a0 Z = true) {h0 : Heap} (k : Int32) {r : Int32} (hr : f_c_key k = r) : Con l Z (⟨"com/example/even_keel/evenkeel/plan/MemberNamesNumbersInNameOrderPinLaw", "key", "(I)I"⟩ : MethodName) method_2_code 1 (some .int) ({ frames := 0, cells := 0, slots := 0, locals := 0 } : Room) [] #[(.int k)] h0 (PQ h0 (some (.int r))) := by
  refine con_of (Ls := #[.val (.int k)]) (plainFor_of_name (by first | (simp [plainName, overriddenIn]; done) | decide +kernel)) (fun m => by first | (simp [entryFrame, mkF, argsToLocals, Value.category]; done) | rfl) ?_
  refine Go.iloadN (pc' := 1) d13_0 rfl rfl ?_
  refine Go.bipush (pc' := 3) d13_1 rfl (z := (10 : Int32)) (by decide) ?_
  by_cases hc1 : k.toInt < (10 : Int)
  · refine Go.icmpF (pc' := 6) (X := k.toInt) (Y := (10 : Int)) d13_3 rfl rfl (by decide) (hc1 : k.toInt < (10 : Int)) ?_
    refine Go.iloadN (pc' := 7) d13_6 rfl rfl ?_
    refine Go.iconst (pc' := 8) d13_7 rfl (z := (1 : Int32)) (by decide) ?_
    refine Go.iadd (pc' := 9) d13_8 rfl rfl ?_
    refine Go.sipush (pc' := 12) d13_9 rfl (z := (1331 : Int32)) (by decide) ?_
    refine Go.imul (pc' := 13) d13_12 rfl rfl ?_
    refine Go.retI d13_13 rfl (by decide) (by decide) ?_
    refine ⟨congrArg (fun q => some (Value.int q)) ?_, rfl, rfl⟩
    rw [← hr]
    show _ = f_c_key k
    unfold f_c_key
    rw [if_pos hc1]
  · refine Go.icmpT (pc' := 14) (X := k.toInt) (Y := (10 : Int)) d13_3 (by decide) rfl (by decide) (hc1 : ¬ k.toInt < (10 : Int)) ?_
    refine Go.iloadN (pc' := 15) d13_14 rfl rfl ?_
    refine Go.bipush (pc' := 17) d13_15 rfl (z := (100 : Int32)) (by decide) ?_
    by_cases hc2 : k.toInt < (100 : Int)
    · refine Go.icmpF (pc' := 20) (X := k.toInt) (Y := (100 : Int)) d13_17 rfl rfl (by decide) (hc2 : k.toInt < (100 : Int)) ?_
      refine Go.iloadN (pc' := 21) d13_20 rfl rfl ?_
      refine Go.bipush (pc' := 23) d13_21 rfl (z := (10 : Int32)) (by decide) ?_
      refine Go.idiv (pc' := 24) d13_23 rfl (by decide) rfl ?_
      refine Go.iconst (pc' := 25) d13_24 rfl (z := (1 : Int32)) (by decide) ?_
      refine Go.iadd (pc' := 26) d13_25 rfl rfl ?_
      refine Go.sipush (pc' := 29) d13_26 rfl (z := (1331 : Int32)) (by decide) ?_
      refine Go.imul (pc' := 30) d13_29 rfl rfl ?_
      refine Go.iloadN (pc' := 31) d13_30 rfl rfl ?_
      refine Go.bipush (pc' := 33) d13_31 rfl (z := (10 : Int32)) (by decide) ?_
      refine Go.irem (pc' := 34) d13_33 rfl (by decide) rfl ?_
      refine Go.iconst (pc' := 35) d13_34 rfl (z := (1 : Int32)) (by decide) ?_
      refine Go.iadd (pc' := 36) d13_35 rfl rfl ?_
      refine Go.bipush (pc' := 38) d13_36 rfl (z := (121 : Int32)) (by decide) ?_
      refine Go.imul (pc' := 39) d13_38 rfl rfl ?_
      refine Go.iadd (pc' := 40) d13_39 rfl rfl ?_
      refine Go.retI d13_40 rfl (by decide) (by decide) ?_
      refine ⟨congrArg (fun q => some (Value.int q)) ?_, rfl, rfl⟩
      rw [← hr]
      show _ = f_c_key k
      unfold f_c_key
      rw [if_neg hc1, if_pos hc2]
    · refine Go.icmpT (pc' := 41) (X := k.toInt) (Y := (100 : Int)) d13_17 (by decide) rfl (by decide) (hc2 : ¬ k.toInt < (100 : Int)) ?_
      refine Go.iloadN (pc' := 42) d13_41 rfl rfl ?_
      refine Go.sipush (pc' := 45) d13_42 rfl (z := (1000 : Int32)) (by decide) ?_
      by_cases hc3 : k.toInt < (1000 : Int)
      · refine Go.icmpF (pc' := 48) (X := k.toInt) (Y := (1000 : Int)) d13_45 rfl rfl (by decide) (hc3 : k.toInt < (1000 : Int)) ?_
        refine Go.iloadN (pc' := 49) d13_48 rfl rfl ?_
        refine Go.bipush (pc' := 51) d13_49 rfl (z := (100 : Int32)) (by decide) ?_
        refine Go.idiv (pc' := 52) d13_51 rfl (by decide) rfl ?_
        refine Go.iconst (pc' := 53) d13_52 rfl (z := (1 : Int32)) (by decide) ?_
        refine Go.iadd (pc' := 54) d13_53 rfl rfl ?_
        refine Go.sipush (pc' := 57) d13_54 rfl (z := (1331 : Int32)) (by decide) ?_
        refine Go.imul (pc' := 58) d13_57 rfl rfl ?_
        refine Go.iloadN (pc' := 59) d13_58 rfl rfl ?_
        refine Go.bipush (pc' := 61) d13_59 rfl (z := (10 : Int32)) (by decide) ?_
        refine Go.idiv (pc' := 62) d13_61 rfl (by decide) rfl ?_
        refine Go.bipush (pc' := 64) d13_62 rfl (z := (10 : Int32)) (by decide) ?_
        refine Go.irem (pc' := 65) d13_64 rfl (by decide) rfl ?_
        refine Go.iconst (pc' := 66) d13_65 rfl (z := (1 : Int32)) (by decide) ?_
        refine Go.iadd (pc' := 67) d13_66 rfl rfl ?_
        refine Go.bipush (pc' := 69) d13_67 rfl (z := (121 : Int32)) (by decide) ?_
        refine Go.imul (pc' := 70) d13_69 rfl rfl ?_
        refine Go.iadd (pc' := 71) d13_70 rfl rfl ?_
        refine Go.iloadN (pc' := 72) d13_71 rfl rfl ?_
        refine Go.bipush (pc' := 74) d13_72 rfl (z := (10 : Int32)) (by decide) ?_
        refine Go.irem (pc' := 75) d13_74 rfl (by decide) rfl ?_
        refine Go.iconst (pc' := 76) d13_75 rfl (z := (1 : Int32)) (by decide) ?_
        refine Go.iadd (pc' := 77) d13_76 rfl rfl ?_
        refine Go.bipush (pc' := 79) d13_77 rfl (z := (11 : Int32)) (by decide) ?_
        refine Go.imul (pc' := 80) d13_79 rfl rfl ?_
        refine Go.iadd (pc' := 81) d13_80 rfl rfl ?_
        refine Go.retI d13_81 rfl (by decide) (by decide) ?_
        refine ⟨congrArg (fun q => some (Value.int q)) ?_, rfl, rfl⟩
        rw [← hr]
        show _ = f_c_key k
        unfold f_c_key
        rw [if_neg hc1, if_neg hc2, if_pos hc3]
      · refine Go.icmpT (pc' := 82) (X := k.toInt) (Y := (1000 : Int)) d13_45 (by decide) rfl (by decide) (hc3 : ¬ k.toInt < (1000 : Int)) ?_
        refine Go.iloadN (pc' := 83) d13_82 rfl rfl ?_
        refine Go.sipush (pc' := 86) d13_83 rfl (z := (1000 : Int32)) (by decide) ?_
        refine Go.idiv (pc' := 87) d13_86 rfl (by decide) rfl ?_
        refine Go.iconst (pc' := 88) d13_87 rfl (z := (1 : Int32)) (by decide) ?_
        refine Go.iadd (pc' := 89) d13_88 rfl rfl ?_
        refine Go.sipush (pc' := 92) d13_89 rfl (z := (1331 : Int32)) (by decide) ?_
        refine Go.imul (pc' := 93) d13_92 rfl rfl ?_
        refine Go.iloadN (pc' := 94) d13_93 rfl rfl ?_
        refine Go.bipush (pc' := 96) d13_94 rfl (z := (100 : Int32)) (by decide) ?_
        refine Go.idiv (pc' := 97) d13_96 rfl (by decide) rfl ?_
        refine Go.bipush (pc' := 99) d13_97 rfl (z := (10 : Int32)) (by decide) ?_
        refine Go.irem (pc' := 100) d13_99 rfl (by decide) rfl ?_
        refine Go.iconst (pc' := 101) d13_100 rfl (z := (1 : Int32)) (by decide) ?_
        refine Go.iadd (pc' := 102) d13_101 rfl rfl ?_
        refine Go.bipush (pc' := 104) d13_102 rfl (z := (121 : Int32)) (by decide) ?_
        refine Go.imul (pc' := 105) d13_104 rfl rfl ?_
        refine Go.iadd (pc' := 106) d13_105 rfl rfl ?_
        refine Go.iloadN (pc' := 107) d13_106 rfl rfl ?_
        refine Go.bipush (pc' := 109) d13_107 rfl (z := (10 : Int32)) (by decide) ?_
        refine Go.idiv (pc' := 110) d13_109 rfl (by decide) rfl ?_
        refine Go.bipush (pc' := 112) d13_110 rfl (z := (10 : Int32)) (by decide) ?_
        refine Go.irem (pc' := 113) d13_112 rfl (by decide) rfl ?_
        refine Go.iconst (pc' := 114) d13_113 rfl (z := (1 : Int32)) (by decide) ?_
        refine Go.iadd (pc' := 115) d13_114 rfl rfl ?_
        refine Go.bipush (pc' := 117) d13_115 rfl (z := (11 : Int32)) (by decide) ?_
        refine Go.imul (pc' := 118) d13_117 rfl rfl ?_
        refine Go.iadd (pc' := 119) d13_118 rfl rfl ?_
        refine Go.iloadN (pc' := 120) d13_119 rfl rfl ?_
        refine Go.bipush (pc' := 122) d13_120 rfl (z := (10 : Int32)) (by decide) ?_
        refine Go.irem (pc' := 123) d13_122 rfl (by decide) rfl ?_
        refine Go.iconst (pc' := 124) d13_123 rfl (z := (1 : Int32)) (by decide) ?_
        refine Go.iadd (pc' := 125) d13_124 rfl rfl ?_
        refine Go.iadd (pc' := 126) d13_125 rfl rfl ?_
        refine Go.retI d13_126 rfl (by decide) (by decide) ?_
        refine ⟨congrArg (fun q => some (Value.int q)) ?_, rfl, rfl⟩
        rw [← hr]
        show _ = f_c_key k
        unfold f_c_key
        rw [if_neg hc1, if_neg hc2, if_neg hc3]
set_option maxRecDepth 65536 in
set_option maxHeartbeats 40000000 in
theorem c_in {l : Launch} {Z : State} {a0 : Array Value} (hw : ∀ d ∈ tables_1, d.before a0 Z = true) {h0 : Heap} (vs : Addr) (v n x0 x1 x2 x3 : Int32) (A_vs : Al Z h0 vs .int [(.int x0), (.int x1), (.int x2), (.int x3)]) (hin : (0 < n.toInt ∧ x0.toInt = v.toInt) ∨ (1 < n.toInt ∧ x1.toInt = v.toInt) ∨ (2 < n.toInt ∧ x2.toInt = v.toInt) ∨ (3 < n.toInt ∧ x3.toInt = v.toInt)) : Con l Z (⟨"com/example/even_keel/evenkeel/plan/MemberNamesNumbersInNameOrderPinLaw", "inTaken", "(I[II)Z"⟩ : MethodName) method_3_code 3 (some .boolean) ({ frames := 0, cells := 0, slots := 0, locals := 0 } : Room) [] #[(.int v), (.ref vs), (.int n)] h0 (PQ h0 (some (.int (1 : Int32)))) := by
  refine con_of (Ls := #[.val (.int v), .val (.ref vs), .val (.int n)]) (plainFor_of_name (by first | (simp [plainName, overriddenIn]; done) | decide +kernel)) (fun m => by first | (simp [entryFrame, mkF, argsToLocals, Value.category]; done) | rfl) ?_
  refine Go.iloadN (pc' := 1) d12_0 rfl rfl ?_
  by_cases hc1 : (0 : Int) < n.toInt
  · refine Go.ifF (pc' := 4) (X := n.toInt) d12_1 rfl rfl (hc1 : 0 < n.toInt) ?_
    refine Go.aloadN (pc' := 5) d12_4 rfl rfl rfl ?_
    refine Go.iconst (pc' := 6) d12_5 rfl (z := (0 : Int32)) (by decide) ?_
    refine Go.iaload (pc' := 7) d12_6 rfl (i := 0) (v := (.int x0)) A_vs (by decide) rfl ?_
    refine Go.iloadN (pc' := 8) d12_7 rfl rfl ?_
    by_cases hc2 : x0.toInt = v.toInt
    · refine Go.icmpT (pc' := 47) (X := x0.toInt) (Y := v.toInt) d12_8 (by decide) rfl rfl (hc2 : x0.toInt = v.toInt) ?_
      refine Go.iconst (pc' := 48) d12_47 rfl (z := (1 : Int32)) (by decide) ?_
      refine Go.goto (pc' := 52) d12_48 (by decide) ?_
      refine Go.retZ d12_52 rfl (by decide) (by decide) (by decide) ?_
      exact ⟨rfl, rfl, rfl⟩
    · refine Go.icmpF (pc' := 11) (X := x0.toInt) (Y := v.toInt) d12_8 rfl rfl rfl (hc2 : ¬ x0.toInt = v.toInt) ?_
      refine Go.iloadN (pc' := 12) d12_11 rfl rfl ?_
      refine Go.iconst (pc' := 13) d12_12 rfl (z := (1 : Int32)) (by decide) ?_
      by_cases hc3 : (1 : Int) < n.toInt
      · refine Go.icmpF (pc' := 16) (X := n.toInt) (Y := (1 : Int)) d12_13 rfl rfl (by decide) (hc3 : (1 : Int) < n.toInt) ?_
        refine Go.aloadN (pc' := 17) d12_16 rfl rfl rfl ?_
        refine Go.iconst (pc' := 18) d12_17 rfl (z := (1 : Int32)) (by decide) ?_
        refine Go.iaload (pc' := 19) d12_18 rfl (i := 1) (v := (.int x1)) A_vs (by decide) rfl ?_
        refine Go.iloadN (pc' := 20) d12_19 rfl rfl ?_
        by_cases hc4 : x1.toInt = v.toInt
        · refine Go.icmpT (pc' := 47) (X := x1.toInt) (Y := v.toInt) d12_20 (by decide) rfl rfl (hc4 : x1.toInt = v.toInt) ?_
          refine Go.iconst (pc' := 48) d12_47 rfl (z := (1 : Int32)) (by decide) ?_
          refine Go.goto (pc' := 52) d12_48 (by decide) ?_
          refine Go.retZ d12_52 rfl (by decide) (by decide) (by decide) ?_
          exact ⟨rfl, rfl, rfl⟩
        · refine Go.icmpF (pc' := 23) (X := x1.toInt) (Y := v.toInt) d12_20 rfl rfl rfl (hc4 : ¬ x1.toInt = v.toInt) ?_
          refine Go.iloadN (pc' := 24) d12_23 rfl rfl ?_
          refine Go.iconst (pc' := 25) d12_24 rfl (z := (2 : Int32)) (by decide) ?_
          by_cases hc5 : (2 : Int) < n.toInt
          · refine Go.icmpF (pc' := 28) (X := n.toInt) (Y := (2 : Int)) d12_25 rfl rfl (by decide) (hc5 : (2 : Int) < n.toInt) ?_
            refine Go.aloadN (pc' := 29) d12_28 rfl rfl rfl ?_
            refine Go.iconst (pc' := 30) d12_29 rfl (z := (2 : Int32)) (by decide) ?_
            refine Go.iaload (pc' := 31) d12_30 rfl (i := 2) (v := (.int x2)) A_vs (by decide) rfl ?_
            refine Go.iloadN (pc' := 32) d12_31 rfl rfl ?_
            by_cases hc6 : x2.toInt = v.toInt
            · refine Go.icmpT (pc' := 47) (X := x2.toInt) (Y := v.toInt) d12_32 (by decide) rfl rfl (hc6 : x2.toInt = v.toInt) ?_
              refine Go.iconst (pc' := 48) d12_47 rfl (z := (1 : Int32)) (by decide) ?_
              refine Go.goto (pc' := 52) d12_48 (by decide) ?_
              refine Go.retZ d12_52 rfl (by decide) (by decide) (by decide) ?_
              exact ⟨rfl, rfl, rfl⟩
            · refine Go.icmpF (pc' := 35) (X := x2.toInt) (Y := v.toInt) d12_32 rfl rfl rfl (hc6 : ¬ x2.toInt = v.toInt) ?_
              refine Go.iloadN (pc' := 36) d12_35 rfl rfl ?_
              refine Go.iconst (pc' := 37) d12_36 rfl (z := (3 : Int32)) (by decide) ?_
              by_cases hc7 : (3 : Int) < n.toInt
              · refine Go.icmpF (pc' := 40) (X := n.toInt) (Y := (3 : Int)) d12_37 rfl rfl (by decide) (hc7 : (3 : Int) < n.toInt) ?_
                refine Go.aloadN (pc' := 41) d12_40 rfl rfl rfl ?_
                refine Go.iconst (pc' := 42) d12_41 rfl (z := (3 : Int32)) (by decide) ?_
                refine Go.iaload (pc' := 43) d12_42 rfl (i := 3) (v := (.int x3)) A_vs (by decide) rfl ?_
                refine Go.iloadN (pc' := 44) d12_43 rfl rfl ?_
                by_cases hc8 : x3.toInt = v.toInt
                · refine Go.icmpF (pc' := 47) (X := x3.toInt) (Y := v.toInt) d12_44 rfl rfl rfl (hc8 : x3.toInt = v.toInt) ?_
                  refine Go.iconst (pc' := 48) d12_47 rfl (z := (1 : Int32)) (by decide) ?_
                  refine Go.goto (pc' := 52) d12_48 (by decide) ?_
                  refine Go.retZ d12_52 rfl (by decide) (by decide) (by decide) ?_
                  exact ⟨rfl, rfl, rfl⟩
                · refine Go.icmpT (pc' := 51) (X := x3.toInt) (Y := v.toInt) d12_44 (by decide) rfl rfl (hc8 : ¬ x3.toInt = v.toInt) ?_
                  refine Go.iconst (pc' := 52) d12_51 rfl (z := (0 : Int32)) (by decide) ?_
                  refine Go.retZ d12_52 rfl (by decide) (by decide) (by decide) ?_
                  exfalso; omega
              · refine Go.icmpT (pc' := 51) (X := n.toInt) (Y := (3 : Int)) d12_37 (by decide) rfl (by decide) (hc7 : ¬ (3 : Int) < n.toInt) ?_
                refine Go.iconst (pc' := 52) d12_51 rfl (z := (0 : Int32)) (by decide) ?_
                refine Go.retZ d12_52 rfl (by decide) (by decide) (by decide) ?_
                exfalso; omega
          · refine Go.icmpT (pc' := 35) (X := n.toInt) (Y := (2 : Int)) d12_25 (by decide) rfl (by decide) (hc5 : ¬ (2 : Int) < n.toInt) ?_
            refine Go.iloadN (pc' := 36) d12_35 rfl rfl ?_
            refine Go.iconst (pc' := 37) d12_36 rfl (z := (3 : Int32)) (by decide) ?_
            by_cases hc9 : (3 : Int) < n.toInt
            · refine Go.icmpF (pc' := 40) (X := n.toInt) (Y := (3 : Int)) d12_37 rfl rfl (by decide) (hc9 : (3 : Int) < n.toInt) ?_
              refine Go.aloadN (pc' := 41) d12_40 rfl rfl rfl ?_
              refine Go.iconst (pc' := 42) d12_41 rfl (z := (3 : Int32)) (by decide) ?_
              refine Go.iaload (pc' := 43) d12_42 rfl (i := 3) (v := (.int x3)) A_vs (by decide) rfl ?_
              refine Go.iloadN (pc' := 44) d12_43 rfl rfl ?_
              by_cases hc10 : x3.toInt = v.toInt
              · refine Go.icmpF (pc' := 47) (X := x3.toInt) (Y := v.toInt) d12_44 rfl rfl rfl (hc10 : x3.toInt = v.toInt) ?_
                refine Go.iconst (pc' := 48) d12_47 rfl (z := (1 : Int32)) (by decide) ?_
                refine Go.goto (pc' := 52) d12_48 (by decide) ?_
                refine Go.retZ d12_52 rfl (by decide) (by decide) (by decide) ?_
                exact ⟨rfl, rfl, rfl⟩
              · refine Go.icmpT (pc' := 51) (X := x3.toInt) (Y := v.toInt) d12_44 (by decide) rfl rfl (hc10 : ¬ x3.toInt = v.toInt) ?_
                refine Go.iconst (pc' := 52) d12_51 rfl (z := (0 : Int32)) (by decide) ?_
                refine Go.retZ d12_52 rfl (by decide) (by decide) (by decide) ?_
                exfalso; omega
            · refine Go.icmpT (pc' := 51) (X := n.toInt) (Y := (3 : Int)) d12_37 (by decide) rfl (by decide) (hc9 : ¬ (3 : Int) < n.toInt) ?_
              refine Go.iconst (pc' := 52) d12_51 rfl (z := (0 : Int32)) (by decide) ?_
              refine Go.retZ d12_52 rfl (by decide) (by decide) (by decide) ?_
              exfalso; omega
      · refine Go.icmpT (pc' := 23) (X := n.toInt) (Y := (1 : Int)) d12_13 (by decide) rfl (by decide) (hc3 : ¬ (1 : Int) < n.toInt) ?_
        refine Go.iloadN (pc' := 24) d12_23 rfl rfl ?_
        refine Go.iconst (pc' := 25) d12_24 rfl (z := (2 : Int32)) (by decide) ?_
        by_cases hc11 : (2 : Int) < n.toInt
        · refine Go.icmpF (pc' := 28) (X := n.toInt) (Y := (2 : Int)) d12_25 rfl rfl (by decide) (hc11 : (2 : Int) < n.toInt) ?_
          refine Go.aloadN (pc' := 29) d12_28 rfl rfl rfl ?_
          refine Go.iconst (pc' := 30) d12_29 rfl (z := (2 : Int32)) (by decide) ?_
          refine Go.iaload (pc' := 31) d12_30 rfl (i := 2) (v := (.int x2)) A_vs (by decide) rfl ?_
          refine Go.iloadN (pc' := 32) d12_31 rfl rfl ?_
          by_cases hc12 : x2.toInt = v.toInt
          · refine Go.icmpT (pc' := 47) (X := x2.toInt) (Y := v.toInt) d12_32 (by decide) rfl rfl (hc12 : x2.toInt = v.toInt) ?_
            refine Go.iconst (pc' := 48) d12_47 rfl (z := (1 : Int32)) (by decide) ?_
            refine Go.goto (pc' := 52) d12_48 (by decide) ?_
            refine Go.retZ d12_52 rfl (by decide) (by decide) (by decide) ?_
            exact ⟨rfl, rfl, rfl⟩
          · refine Go.icmpF (pc' := 35) (X := x2.toInt) (Y := v.toInt) d12_32 rfl rfl rfl (hc12 : ¬ x2.toInt = v.toInt) ?_
            refine Go.iloadN (pc' := 36) d12_35 rfl rfl ?_
            refine Go.iconst (pc' := 37) d12_36 rfl (z := (3 : Int32)) (by decide) ?_
            by_cases hc13 : (3 : Int) < n.toInt
            · refine Go.icmpF (pc' := 40) (X := n.toInt) (Y := (3 : Int)) d12_37 rfl rfl (by decide) (hc13 : (3 : Int) < n.toInt) ?_
              refine Go.aloadN (pc' := 41) d12_40 rfl rfl rfl ?_
              refine Go.iconst (pc' := 42) d12_41 rfl (z := (3 : Int32)) (by decide) ?_
              refine Go.iaload (pc' := 43) d12_42 rfl (i := 3) (v := (.int x3)) A_vs (by decide) rfl ?_
              refine Go.iloadN (pc' := 44) d12_43 rfl rfl ?_
              by_cases hc14 : x3.toInt = v.toInt
              · refine Go.icmpF (pc' := 47) (X := x3.toInt) (Y := v.toInt) d12_44 rfl rfl rfl (hc14 : x3.toInt = v.toInt) ?_
                refine Go.iconst (pc' := 48) d12_47 rfl (z := (1 : Int32)) (by decide) ?_
                refine Go.goto (pc' := 52) d12_48 (by decide) ?_
                refine Go.retZ d12_52 rfl (by decide) (by decide) (by decide) ?_
                exact ⟨rfl, rfl, rfl⟩
              · refine Go.icmpT (pc' := 51) (X := x3.toInt) (Y := v.toInt) d12_44 (by decide) rfl rfl (hc14 : ¬ x3.toInt = v.toInt) ?_
                refine Go.iconst (pc' := 52) d12_51 rfl (z := (0 : Int32)) (by decide) ?_
                refine Go.retZ d12_52 rfl (by decide) (by decide) (by decide) ?_
                exfalso; omega
            · refine Go.icmpT (pc' := 51) (X := n.toInt) (Y := (3 : Int)) d12_37 (by decide) rfl (by decide) (hc13 : ¬ (3 : Int) < n.toInt) ?_
              refine Go.iconst (pc' := 52) d12_51 rfl (z := (0 : Int32)) (by decide) ?_
              refine Go.retZ d12_52 rfl (by decide) (by decide) (by decide) ?_
              exfalso; omega
        · refine Go.icmpT (pc' := 35) (X := n.toInt) (Y := (2 : Int)) d12_25 (by decide) rfl (by decide) (hc11 : ¬ (2 : Int) < n.toInt) ?_
          refine Go.iloadN (pc' := 36) d12_35 rfl rfl ?_
          refine Go.iconst (pc' := 37) d12_36 rfl (z := (3 : Int32)) (by decide) ?_
          by_cases hc15 : (3 : Int) < n.toInt
          · refine Go.icmpF (pc' := 40) (X := n.toInt) (Y := (3 : Int)) d12_37 rfl rfl (by decide) (hc15 : (3 : Int) < n.toInt) ?_
            refine Go.aloadN (pc' := 41) d12_40 rfl rfl rfl ?_
            refine Go.iconst (pc' := 42) d12_41 rfl (z := (3 : Int32)) (by decide) ?_
            refine Go.iaload (pc' := 43) d12_42 rfl (i := 3) (v := (.int x3)) A_vs (by decide) rfl ?_
            refine Go.iloadN (pc' := 44) d12_43 rfl rfl ?_
            by_cases hc16 : x3.toInt = v.toInt
            · refine Go.icmpF (pc' := 47) (X := x3.toInt) (Y := v.toInt) d12_44 rfl rfl rfl (hc16 : x3.toInt = v.toInt) ?_
              refine Go.iconst (pc' := 48) d12_47 rfl (z := (1 : Int32)) (by decide) ?_
              refine Go.goto (pc' := 52) d12_48 (by decide) ?_
              refine Go.retZ d12_52 rfl (by decide) (by decide) (by decide) ?_
              exact ⟨rfl, rfl, rfl⟩
            · refine Go.icmpT (pc' := 51) (X := x3.toInt) (Y := v.toInt) d12_44 (by decide) rfl rfl (hc16 : ¬ x3.toInt = v.toInt) ?_
              refine Go.iconst (pc' := 52) d12_51 rfl (z := (0 : Int32)) (by decide) ?_
              refine Go.retZ d12_52 rfl (by decide) (by decide) (by decide) ?_
              exfalso; omega
          · refine Go.icmpT (pc' := 51) (X := n.toInt) (Y := (3 : Int)) d12_37 (by decide) rfl (by decide) (hc15 : ¬ (3 : Int) < n.toInt) ?_
            refine Go.iconst (pc' := 52) d12_51 rfl (z := (0 : Int32)) (by decide) ?_
            refine Go.retZ d12_52 rfl (by decide) (by decide) (by decide) ?_
            exfalso; omega
  · refine Go.ifT (pc' := 11) (X := n.toInt) d12_1 (by decide) rfl (hc1 : ¬ 0 < n.toInt) ?_
    refine Go.iloadN (pc' := 12) d12_11 rfl rfl ?_
    refine Go.iconst (pc' := 13) d12_12 rfl (z := (1 : Int32)) (by decide) ?_
    by_cases hc17 : (1 : Int) < n.toInt
    · refine Go.icmpF (pc' := 16) (X := n.toInt) (Y := (1 : Int)) d12_13 rfl rfl (by decide) (hc17 : (1 : Int) < n.toInt) ?_
      refine Go.aloadN (pc' := 17) d12_16 rfl rfl rfl ?_
      refine Go.iconst (pc' := 18) d12_17 rfl (z := (1 : Int32)) (by decide) ?_
      refine Go.iaload (pc' := 19) d12_18 rfl (i := 1) (v := (.int x1)) A_vs (by decide) rfl ?_
      refine Go.iloadN (pc' := 20) d12_19 rfl rfl ?_
      by_cases hc18 : x1.toInt = v.toInt
      · refine Go.icmpT (pc' := 47) (X := x1.toInt) (Y := v.toInt) d12_20 (by decide) rfl rfl (hc18 : x1.toInt = v.toInt) ?_
        refine Go.iconst (pc' := 48) d12_47 rfl (z := (1 : Int32)) (by decide) ?_
        refine Go.goto (pc' := 52) d12_48 (by decide) ?_
        refine Go.retZ d12_52 rfl (by decide) (by decide) (by decide) ?_
        exact ⟨rfl, rfl, rfl⟩
      · refine Go.icmpF (pc' := 23) (X := x1.toInt) (Y := v.toInt) d12_20 rfl rfl rfl (hc18 : ¬ x1.toInt = v.toInt) ?_
        refine Go.iloadN (pc' := 24) d12_23 rfl rfl ?_
        refine Go.iconst (pc' := 25) d12_24 rfl (z := (2 : Int32)) (by decide) ?_
        by_cases hc19 : (2 : Int) < n.toInt
        · refine Go.icmpF (pc' := 28) (X := n.toInt) (Y := (2 : Int)) d12_25 rfl rfl (by decide) (hc19 : (2 : Int) < n.toInt) ?_
          refine Go.aloadN (pc' := 29) d12_28 rfl rfl rfl ?_
          refine Go.iconst (pc' := 30) d12_29 rfl (z := (2 : Int32)) (by decide) ?_
          refine Go.iaload (pc' := 31) d12_30 rfl (i := 2) (v := (.int x2)) A_vs (by decide) rfl ?_
          refine Go.iloadN (pc' := 32) d12_31 rfl rfl ?_
          by_cases hc20 : x2.toInt = v.toInt
          · refine Go.icmpT (pc' := 47) (X := x2.toInt) (Y := v.toInt) d12_32 (by decide) rfl rfl (hc20 : x2.toInt = v.toInt) ?_
            refine Go.iconst (pc' := 48) d12_47 rfl (z := (1 : Int32)) (by decide) ?_
            refine Go.goto (pc' := 52) d12_48 (by decide) ?_
            refine Go.retZ d12_52 rfl (by decide) (by decide) (by decide) ?_
            exact ⟨rfl, rfl, rfl⟩
          · refine Go.icmpF (pc' := 35) (X := x2.toInt) (Y := v.toInt) d12_32 rfl rfl rfl (hc20 : ¬ x2.toInt = v.toInt) ?_
            refine Go.iloadN (pc' := 36) d12_35 rfl rfl ?_
            refine Go.iconst (pc' := 37) d12_36 rfl (z := (3 : Int32)) (by decide) ?_
            by_cases hc21 : (3 : Int) < n.toInt
            · refine Go.icmpF (pc' := 40) (X := n.toInt) (Y := (3 : Int)) d12_37 rfl rfl (by decide) (hc21 : (3 : Int) < n.toInt) ?_
              refine Go.aloadN (pc' := 41) d12_40 rfl rfl rfl ?_
              refine Go.iconst (pc' := 42) d12_41 rfl (z := (3 : Int32)) (by decide) ?_
              refine Go.iaload (pc' := 43) d12_42 rfl (i := 3) (v := (.int x3)) A_vs (by decide) rfl ?_
              refine Go.iloadN (pc' := 44) d12_43 rfl rfl ?_
              by_cases hc22 : x3.toInt = v.toInt
              · refine Go.icmpF (pc' := 47) (X := x3.toInt) (Y := v.toInt) d12_44 rfl rfl rfl (hc22 : x3.toInt = v.toInt) ?_
                refine Go.iconst (pc' := 48) d12_47 rfl (z := (1 : Int32)) (by decide) ?_
                refine Go.goto (pc' := 52) d12_48 (by decide) ?_
                refine Go.retZ d12_52 rfl (by decide) (by decide) (by decide) ?_
                exact ⟨rfl, rfl, rfl⟩
              · refine Go.icmpT (pc' := 51) (X := x3.toInt) (Y := v.toInt) d12_44 (by decide) rfl rfl (hc22 : ¬ x3.toInt = v.toInt) ?_
                refine Go.iconst (pc' := 52) d12_51 rfl (z := (0 : Int32)) (by decide) ?_
                refine Go.retZ d12_52 rfl (by decide) (by decide) (by decide) ?_
                exfalso; omega
            · refine Go.icmpT (pc' := 51) (X := n.toInt) (Y := (3 : Int)) d12_37 (by decide) rfl (by decide) (hc21 : ¬ (3 : Int) < n.toInt) ?_
              refine Go.iconst (pc' := 52) d12_51 rfl (z := (0 : Int32)) (by decide) ?_
              refine Go.retZ d12_52 rfl (by decide) (by decide) (by decide) ?_
              exfalso; omega
        · refine Go.icmpT (pc' := 35) (X := n.toInt) (Y := (2 : Int)) d12_25 (by decide) rfl (by decide) (hc19 : ¬ (2 : Int) < n.toInt) ?_
          refine Go.iloadN (pc' := 36) d12_35 rfl rfl ?_
          refine Go.iconst (pc' := 37) d12_36 rfl (z := (3 : Int32)) (by decide) ?_
          by_cases hc23 : (3 : Int) < n.toInt
          · refine Go.icmpF (pc' := 40) (X := n.toInt) (Y := (3 : Int)) d12_37 rfl rfl (by decide) (hc23 : (3 : Int) < n.toInt) ?_
            refine Go.aloadN (pc' := 41) d12_40 rfl rfl rfl ?_
            refine Go.iconst (pc' := 42) d12_41 rfl (z := (3 : Int32)) (by decide) ?_
            refine Go.iaload (pc' := 43) d12_42 rfl (i := 3) (v := (.int x3)) A_vs (by decide) rfl ?_
            refine Go.iloadN (pc' := 44) d12_43 rfl rfl ?_
            by_cases hc24 : x3.toInt = v.toInt
            · refine Go.icmpF (pc' := 47) (X := x3.toInt) (Y := v.toInt) d12_44 rfl rfl rfl (hc24 : x3.toInt = v.toInt) ?_
              refine Go.iconst (pc' := 48) d12_47 rfl (z := (1 : Int32)) (by decide) ?_
              refine Go.goto (pc' := 52) d12_48 (by decide) ?_
              refine Go.retZ d12_52 rfl (by decide) (by decide) (by decide) ?_
              exact ⟨rfl, rfl, rfl⟩
            · refine Go.icmpT (pc' := 51) (X := x3.toInt) (Y := v.toInt) d12_44 (by decide) rfl rfl (hc24 : ¬ x3.toInt = v.toInt) ?_
              refine Go.iconst (pc' := 52) d12_51 rfl (z := (0 : Int32)) (by decide) ?_
              refine Go.retZ d12_52 rfl (by decide) (by decide) (by decide) ?_
              exfalso; omega
          · refine Go.icmpT (pc' := 51) (X := n.toInt) (Y := (3 : Int)) d12_37 (by decide) rfl (by decide) (hc23 : ¬ (3 : Int) < n.toInt) ?_
            refine Go.iconst (pc' := 52) d12_51 rfl (z := (0 : Int32)) (by decide) ?_
            refine Go.retZ d12_52 rfl (by decide) (by decide) (by decide) ?_
            exfalso; omega
    · refine Go.icmpT (pc' := 23) (X := n.toInt) (Y := (1 : Int)) d12_13 (by decide) rfl (by decide) (hc17 : ¬ (1 : Int) < n.toInt) ?_
      refine Go.iloadN (pc' := 24) d12_23 rfl rfl ?_
      refine Go.iconst (pc' := 25) d12_24 rfl (z := (2 : Int32)) (by decide) ?_
      by_cases hc25 : (2 : Int) < n.toInt
      · refine Go.icmpF (pc' := 28) (X := n.toInt) (Y := (2 : Int)) d12_25 rfl rfl (by decide) (hc25 : (2 : Int) < n.toInt) ?_
        refine Go.aloadN (pc' := 29) d12_28 rfl rfl rfl ?_
        refine Go.iconst (pc' := 30) d12_29 rfl (z := (2 : Int32)) (by decide) ?_
        refine Go.iaload (pc' := 31) d12_30 rfl (i := 2) (v := (.int x2)) A_vs (by decide) rfl ?_
        refine Go.iloadN (pc' := 32) d12_31 rfl rfl ?_
        by_cases hc26 : x2.toInt = v.toInt
        · refine Go.icmpT (pc' := 47) (X := x2.toInt) (Y := v.toInt) d12_32 (by decide) rfl rfl (hc26 : x2.toInt = v.toInt) ?_
          refine Go.iconst (pc' := 48) d12_47 rfl (z := (1 : Int32)) (by decide) ?_
          refine Go.goto (pc' := 52) d12_48 (by decide) ?_
          refine Go.retZ d12_52 rfl (by decide) (by decide) (by decide) ?_
          exact ⟨rfl, rfl, rfl⟩
        · refine Go.icmpF (pc' := 35) (X := x2.toInt) (Y := v.toInt) d12_32 rfl rfl rfl (hc26 : ¬ x2.toInt = v.toInt) ?_
          refine Go.iloadN (pc' := 36) d12_35 rfl rfl ?_
          refine Go.iconst (pc' := 37) d12_36 rfl (z := (3 : Int32)) (by decide) ?_
          by_cases hc27 : (3 : Int) < n.toInt
          · refine Go.icmpF (pc' := 40) (X := n.toInt) (Y := (3 : Int)) d12_37 rfl rfl (by decide) (hc27 : (3 : Int) < n.toInt) ?_
            refine Go.aloadN (pc' := 41) d12_40 rfl rfl rfl ?_
            refine Go.iconst (pc' := 42) d12_41 rfl (z := (3 : Int32)) (by decide) ?_
            refine Go.iaload (pc' := 43) d12_42 rfl (i := 3) (v := (.int x3)) A_vs (by decide) rfl ?_
            refine Go.iloadN (pc' := 44) d12_43 rfl rfl ?_
            by_cases hc28 : x3.toInt = v.toInt
            · refine Go.icmpF (pc' := 47) (X := x3.toInt) (Y := v.toInt) d12_44 rfl rfl rfl (hc28 : x3.toInt = v.toInt) ?_
              refine Go.iconst (pc' := 48) d12_47 rfl (z := (1 : Int32)) (by decide) ?_
              refine Go.goto (pc' := 52) d12_48 (by decide) ?_
              refine Go.retZ d12_52 rfl (by decide) (by decide) (by decide) ?_
              exact ⟨rfl, rfl, rfl⟩
            · refine Go.icmpT (pc' := 51) (X := x3.toInt) (Y := v.toInt) d12_44 (by decide) rfl rfl (hc28 : ¬ x3.toInt = v.toInt) ?_
              refine Go.iconst (pc' := 52) d12_51 rfl (z := (0 : Int32)) (by decide) ?_
              refine Go.retZ d12_52 rfl (by decide) (by decide) (by decide) ?_
              exfalso; omega
          · refine Go.icmpT (pc' := 51) (X := n.toInt) (Y := (3 : Int)) d12_37 (by decide) rfl (by decide) (hc27 : ¬ (3 : Int) < n.toInt) ?_
            refine Go.iconst (pc' := 52) d12_51 rfl (z := (0 : Int32)) (by decide) ?_
            refine Go.retZ d12_52 rfl (by decide) (by decide) (by decide) ?_
            exfalso; omega
      · refine Go.icmpT (pc' := 35) (X := n.toInt) (Y := (2 : Int)) d12_25 (by decide) rfl (by decide) (hc25 : ¬ (2 : Int) < n.toInt) ?_
        refine Go.iloadN (pc' := 36) d12_35 rfl rfl ?_
        refine Go.iconst (pc' := 37) d12_36 rfl (z := (3 : Int32)) (by decide) ?_
        by_cases hc29 : (3 : Int) < n.toInt
        · refine Go.icmpF (pc' := 40) (X := n.toInt) (Y := (3 : Int)) d12_37 rfl rfl (by decide) (hc29 : (3 : Int) < n.toInt) ?_
          refine Go.aloadN (pc' := 41) d12_40 rfl rfl rfl ?_
          refine Go.iconst (pc' := 42) d12_41 rfl (z := (3 : Int32)) (by decide) ?_
          refine Go.iaload (pc' := 43) d12_42 rfl (i := 3) (v := (.int x3)) A_vs (by decide) rfl ?_
          refine Go.iloadN (pc' := 44) d12_43 rfl rfl ?_
          by_cases hc30 : x3.toInt = v.toInt
          · refine Go.icmpF (pc' := 47) (X := x3.toInt) (Y := v.toInt) d12_44 rfl rfl rfl (hc30 : x3.toInt = v.toInt) ?_
            refine Go.iconst (pc' := 48) d12_47 rfl (z := (1 : Int32)) (by decide) ?_
            refine Go.goto (pc' := 52) d12_48 (by decide) ?_
            refine Go.retZ d12_52 rfl (by decide) (by decide) (by decide) ?_
            exact ⟨rfl, rfl, rfl⟩
          · refine Go.icmpT (pc' := 51) (X := x3.toInt) (Y := v.toInt) d12_44 (by decide) rfl rfl (hc30 : ¬ x3.toInt = v.toInt) ?_
            refine Go.iconst (pc' := 52) d12_51 rfl (z := (0 : Int32)) (by decide) ?_
            refine Go.retZ d12_52 rfl (by decide) (by decide) (by decide) ?_
            exfalso; omega
        · refine Go.icmpT (pc' := 51) (X := n.toInt) (Y := (3 : Int)) d12_37 (by decide) rfl (by decide) (hc29 : ¬ (3 : Int) < n.toInt) ?_
          refine Go.iconst (pc' := 52) d12_51 rfl (z := (0 : Int32)) (by decide) ?_
          refine Go.retZ d12_52 rfl (by decide) (by decide) (by decide) ?_
          exfalso; omega
set_option maxRecDepth 65536 in
set_option maxHeartbeats 40000000 in
theorem c_out0 {l : Launch} {Z : State} {a0 : Array Value} (hw : ∀ d ∈ tables_1, d.before a0 Z = true) {h0 : Heap} (r vs : Addr) (ms n zr x0 x1 x2 x3 : Int32) (rs : List Int32) (A_r : Al Z h0 r .int (rs.map Value.int)) (A_vs : Al Z h0 vs .int [(.int x0), (.int x1), (.int x2), (.int x3)]) (hzr : (rs.map Value.int).length.toInt32 = zr) (hout : ¬ 0 < zr.toInt) : Con l Z (⟨"com/example/even_keel/evenkeel/plan/MemberNamesNumbersInNameOrderPinLaw", "okAt", "([III[II)Z"⟩ : MethodName) method_4_code 7 (some .boolean) ({ frames := 0, cells := 0, slots := 0, locals := 0 } : Room) [] #[(.ref r), (.int (0 : Int32)), (.int ms), (.ref vs), (.int n)] h0 (PQ h0 (some (.int (1 : Int32)))) := by
  refine con_of (Ls := #[.val (.ref r), .val (.int (0 : Int32)), .val (.int ms), .val (.ref vs), .val (.int n), .unset, .unset]) (plainFor_of_name (by first | (simp [plainName, overriddenIn]; done) | decide +kernel)) (fun m => by first | (simp [entryFrame, mkF, argsToLocals, Value.category]; done) | rfl) ?_
  refine Go.iloadN (pc' := 1) d11_0 rfl rfl ?_
  refine Go.aloadN (pc' := 2) d11_1 rfl rfl rfl ?_
  refine Go.arraylength (pc' := 3) d11_2 rfl A_r (z := zr) hzr ?_
  refine Go.icmpF (pc' := 6) (X := (0 : Int)) (Y := zr.toInt) d11_3 rfl (by decide) rfl (hout : ¬ (0 : Int) < zr.toInt) ?_
  refine Go.iconst (pc' := 7) d11_6 rfl (z := (1 : Int32)) (by decide) ?_
  refine Go.retZ d11_7 rfl (by decide) (by decide) (by decide) ?_
  exact ⟨rfl, rfl, rfl⟩
set_option maxRecDepth 65536 in
set_option maxHeartbeats 40000000 in
theorem c_ok0 {l : Launch} {Z : State} {a0 : Array Value} (hw : ∀ d ∈ tables_1, d.before a0 Z = true) {h0 : Heap} (r vs : Addr) (ms n zr v x0 x1 x2 x3 : Int32) (rs : List Int32) (A_r : Al Z h0 r .int (rs.map Value.int)) (A_vs : Al Z h0 vs .int [(.int x0), (.int x1), (.int x2), (.int x3)]) (hzr : (rs.map Value.int).length.toInt32 = zr) (hinn : 0 < zr.toInt) (hv : rs[0]? = some v) (hv1 : ¬ v.toInt < 0) (hv2 : ¬ ms.toInt < v.toInt) (hin : (0 < n.toInt ∧ x0.toInt = v.toInt) ∨ (1 < n.toInt ∧ x1.toInt = v.toInt) ∨ (2 < n.toInt ∧ x2.toInt = v.toInt) ∨ (3 < n.toInt ∧ x3.toInt = v.toInt)) : Con l Z (⟨"com/example/even_keel/evenkeel/plan/MemberNamesNumbersInNameOrderPinLaw", "okAt", "([III[II)Z"⟩ : MethodName) method_4_code 7 (some .boolean) ({ frames := 1, cells := 0, slots := 0, locals := 14 } : Room) [] #[(.ref r), (.int (0 : Int32)), (.int ms), (.ref vs), (.int n)] h0 (PQ h0 (some (.int (1 : Int32)))) := by
  refine con_of (Ls := #[.val (.ref r), .val (.int (0 : Int32)), .val (.int ms), .val (.ref vs), .val (.int n), .unset, .unset]) (plainFor_of_name (by first | (simp [plainName, overriddenIn]; done) | decide +kernel)) (fun m => by first | (simp [entryFrame, mkF, argsToLocals, Value.category]; done) | rfl) ?_
  refine Go.iloadN (pc' := 1) d11_0 rfl rfl ?_
  refine Go.aloadN (pc' := 2) d11_1 rfl rfl rfl ?_
  refine Go.arraylength (pc' := 3) d11_2 rfl A_r (z := zr) hzr ?_
  refine Go.icmpT (pc' := 8) (X := (0 : Int)) (Y := zr.toInt) d11_3 (by decide) (by decide) rfl (hinn : (0 : Int) < zr.toInt) ?_
  refine Go.aloadN (pc' := 9) d11_8 rfl rfl rfl ?_
  refine Go.iloadN (pc' := 10) d11_9 rfl rfl ?_
  refine Go.iaload (pc' := 11) d11_10 rfl (i := 0) (v := (.int v)) A_r (by decide) (by rw [List.getElem?_map, hv]; rfl) ?_
  refine Go.istore (pc' := 13) d11_11 rfl (Ls' := #[.val (.ref r), .val (.int (0 : Int32)), .val (.int ms), .val (.ref vs), .val (.int n), .val (.int v), .unset]) rfl ?_
  refine Go.iload (pc' := 15) d11_13 rfl rfl ?_
  refine Go.ifF (pc' := 18) (X := v.toInt) d11_15 rfl rfl (hv1 : ¬ v.toInt < 0) ?_
  refine Go.iload (pc' := 20) d11_18 rfl rfl ?_
  refine Go.iloadN (pc' := 21) d11_20 rfl rfl ?_
  refine Go.icmpT (pc' := 26) (X := v.toInt) (Y := ms.toInt) d11_21 (by decide) rfl rfl (hv2 : ¬ ms.toInt < v.toInt) ?_
  refine Go.iload (pc' := 28) d11_26 rfl rfl ?_
  refine Go.aloadN (pc' := 29) d11_28 rfl rfl rfl ?_
  refine Go.iload (pc' := 31) d11_29 rfl rfl ?_
  refine Go.callS0 (pc' := 34) (W := 0) (argsL := [(.int v), (.ref vs), (.int n)]) (rest := []) (v0 := some (.int (1 : Int32))) (st2 := [(.int (1 : Int32))]) d11_31 rfl (hw _ w78) (hw _ w79) (hw _ w76) (hw _ w80) (by decide) (c_in hw vs v n x0 x1 x2 x3 A_vs hin) (by decide) (by decide) rfl rfl rfl (by decide) (by decide) rfl pd__28I_5bII_29Z rfl rfl (Nat.le_of_eq rfl) ?_
  refine Go.ifT (pc' := 39) (X := (1 : Int)) d11_34 (by decide) (by decide) (by decide : ¬ (1 : Int) = 0) ?_
  refine Go.iloadN (pc' := 40) d11_39 rfl rfl ?_
  refine Go.ifT (pc' := 78) (X := (0 : Int)) d11_40 (by decide) (by decide) (by decide : ¬ 0 < (0 : Int)) ?_
  refine Go.iconst (pc' := 79) d11_78 rfl (z := (1 : Int32)) (by decide) ?_
  refine Go.retZ d11_79 rfl (by decide) (by decide) (by decide) ?_
  exact ⟨rfl, rfl, rfl⟩
set_option maxRecDepth 65536 in
set_option maxHeartbeats 40000000 in
theorem c_out1 {l : Launch} {Z : State} {a0 : Array Value} (hw : ∀ d ∈ tables_1, d.before a0 Z = true) {h0 : Heap} (r vs : Addr) (ms n zr x0 x1 x2 x3 : Int32) (rs : List Int32) (A_r : Al Z h0 r .int (rs.map Value.int)) (A_vs : Al Z h0 vs .int [(.int x0), (.int x1), (.int x2), (.int x3)]) (hzr : (rs.map Value.int).length.toInt32 = zr) (hout : ¬ 1 < zr.toInt) : Con l Z (⟨"com/example/even_keel/evenkeel/plan/MemberNamesNumbersInNameOrderPinLaw", "okAt", "([III[II)Z"⟩ : MethodName) method_4_code 7 (some .boolean) ({ frames := 0, cells := 0, slots := 0, locals := 0 } : Room) [] #[(.ref r), (.int (1 : Int32)), (.int ms), (.ref vs), (.int n)] h0 (PQ h0 (some (.int (1 : Int32)))) := by
  refine con_of (Ls := #[.val (.ref r), .val (.int (1 : Int32)), .val (.int ms), .val (.ref vs), .val (.int n), .unset, .unset]) (plainFor_of_name (by first | (simp [plainName, overriddenIn]; done) | decide +kernel)) (fun m => by first | (simp [entryFrame, mkF, argsToLocals, Value.category]; done) | rfl) ?_
  refine Go.iloadN (pc' := 1) d11_0 rfl rfl ?_
  refine Go.aloadN (pc' := 2) d11_1 rfl rfl rfl ?_
  refine Go.arraylength (pc' := 3) d11_2 rfl A_r (z := zr) hzr ?_
  refine Go.icmpF (pc' := 6) (X := (1 : Int)) (Y := zr.toInt) d11_3 rfl (by decide) rfl (hout : ¬ (1 : Int) < zr.toInt) ?_
  refine Go.iconst (pc' := 7) d11_6 rfl (z := (1 : Int32)) (by decide) ?_
  refine Go.retZ d11_7 rfl (by decide) (by decide) (by decide) ?_
  exact ⟨rfl, rfl, rfl⟩
set_option maxRecDepth 65536 in
set_option maxHeartbeats 40000000 in
theorem c_ok1 {l : Launch} {Z : State} {a0 : Array Value} (hw : ∀ d ∈ tables_1, d.before a0 Z = true) {h0 : Heap} (r vs : Addr) (ms n zr v u x0 x1 x2 x3 : Int32) (rs : List Int32) (A_r : Al Z h0 r .int (rs.map Value.int)) (A_vs : Al Z h0 vs .int [(.int x0), (.int x1), (.int x2), (.int x3)]) (hzr : (rs.map Value.int).length.toInt32 = zr) (hinn : 1 < zr.toInt) (hv : rs[1]? = some v) (hv1 : ¬ v.toInt < 0) (hv2 : ¬ ms.toInt < v.toInt) (hin : (0 < n.toInt ∧ x0.toInt = v.toInt) ∨ (1 < n.toInt ∧ x1.toInt = v.toInt) ∨ (2 < n.toInt ∧ x2.toInt = v.toInt) ∨ (3 < n.toInt ∧ x3.toInt = v.toInt)) (hu : rs[0]? = some u) (hu1 : ¬ u.toInt < 0) (hu2 : ¬ ms.toInt < u.toInt) (huv : (f_c_key u).toInt < (f_c_key v).toInt) : Con l Z (⟨"com/example/even_keel/evenkeel/plan/MemberNamesNumbersInNameOrderPinLaw", "okAt", "([III[II)Z"⟩ : MethodName) method_4_code 7 (some .boolean) ({ frames := 1, cells := 0, slots := 0, locals := 14 } : Room) [] #[(.ref r), (.int (1 : Int32)), (.int ms), (.ref vs), (.int n)] h0 (PQ h0 (some (.int (1 : Int32)))) := by
  refine con_of (Ls := #[.val (.ref r), .val (.int (1 : Int32)), .val (.int ms), .val (.ref vs), .val (.int n), .unset, .unset]) (plainFor_of_name (by first | (simp [plainName, overriddenIn]; done) | decide +kernel)) (fun m => by first | (simp [entryFrame, mkF, argsToLocals, Value.category]; done) | rfl) ?_
  refine Go.iloadN (pc' := 1) d11_0 rfl rfl ?_
  refine Go.aloadN (pc' := 2) d11_1 rfl rfl rfl ?_
  refine Go.arraylength (pc' := 3) d11_2 rfl A_r (z := zr) hzr ?_
  refine Go.icmpT (pc' := 8) (X := (1 : Int)) (Y := zr.toInt) d11_3 (by decide) (by decide) rfl (hinn : (1 : Int) < zr.toInt) ?_
  refine Go.aloadN (pc' := 9) d11_8 rfl rfl rfl ?_
  refine Go.iloadN (pc' := 10) d11_9 rfl rfl ?_
  refine Go.iaload (pc' := 11) d11_10 rfl (i := 1) (v := (.int v)) A_r (by decide) (by rw [List.getElem?_map, hv]; rfl) ?_
  refine Go.istore (pc' := 13) d11_11 rfl (Ls' := #[.val (.ref r), .val (.int (1 : Int32)), .val (.int ms), .val (.ref vs), .val (.int n), .val (.int v), .unset]) rfl ?_
  refine Go.iload (pc' := 15) d11_13 rfl rfl ?_
  refine Go.ifF (pc' := 18) (X := v.toInt) d11_15 rfl rfl (hv1 : ¬ v.toInt < 0) ?_
  refine Go.iload (pc' := 20) d11_18 rfl rfl ?_
  refine Go.iloadN (pc' := 21) d11_20 rfl rfl ?_
  refine Go.icmpT (pc' := 26) (X := v.toInt) (Y := ms.toInt) d11_21 (by decide) rfl rfl (hv2 : ¬ ms.toInt < v.toInt) ?_
  refine Go.iload (pc' := 28) d11_26 rfl rfl ?_
  refine Go.aloadN (pc' := 29) d11_28 rfl rfl rfl ?_
  refine Go.iload (pc' := 31) d11_29 rfl rfl ?_
  refine Go.callS0 (pc' := 34) (W := 0) (argsL := [(.int v), (.ref vs), (.int n)]) (rest := []) (v0 := some (.int (1 : Int32))) (st2 := [(.int (1 : Int32))]) d11_31 rfl (hw _ w78) (hw _ w79) (hw _ w76) (hw _ w80) (by decide) (c_in hw vs v n x0 x1 x2 x3 A_vs hin) (by decide) (by decide) rfl rfl rfl (by decide) (by decide) rfl pd__28I_5bII_29Z rfl rfl (Nat.le_of_eq rfl) ?_
  refine Go.ifT (pc' := 39) (X := (1 : Int)) d11_34 (by decide) (by decide) (by decide : ¬ (1 : Int) = 0) ?_
  refine Go.iloadN (pc' := 40) d11_39 rfl rfl ?_
  refine Go.ifF (pc' := 43) (X := (1 : Int)) d11_40 rfl (by decide) (by decide : 0 < (1 : Int)) ?_
  refine Go.aloadN (pc' := 44) d11_43 rfl rfl rfl ?_
  refine Go.iloadN (pc' := 45) d11_44 rfl rfl ?_
  refine Go.iconst (pc' := 46) d11_45 rfl (z := (1 : Int32)) (by decide) ?_
  refine Go.isub (pc' := 47) d11_46 rfl (z := (0 : Int32)) (by decide) ?_
  refine Go.iaload (pc' := 48) d11_47 rfl (i := 0) (v := (.int u)) A_r (by decide) (by rw [List.getElem?_map, hu]; rfl) ?_
  refine Go.istore (pc' := 50) d11_48 rfl (Ls' := #[.val (.ref r), .val (.int (1 : Int32)), .val (.int ms), .val (.ref vs), .val (.int n), .val (.int v), .val (.int u)]) rfl ?_
  refine Go.iload (pc' := 52) d11_50 rfl rfl ?_
  refine Go.ifF (pc' := 55) (X := u.toInt) d11_52 rfl rfl (hu1 : ¬ u.toInt < 0) ?_
  refine Go.iload (pc' := 57) d11_55 rfl rfl ?_
  refine Go.iloadN (pc' := 58) d11_57 rfl rfl ?_
  refine Go.icmpT (pc' := 63) (X := u.toInt) (Y := ms.toInt) d11_58 (by decide) rfl rfl (hu2 : ¬ ms.toInt < u.toInt) ?_
  refine Go.iload (pc' := 65) d11_63 rfl rfl ?_
  refine Go.callS0 (pc' := 68) (W := 0) (argsL := [(.int u)]) (rest := []) (v0 := some (.int (f_c_key u))) (st2 := [(.int (f_c_key u))]) d11_65 rfl (hw _ w83) (hw _ w84) (hw _ w76) (hw _ w85) (by decide) (c_key hw u rfl) (by decide) (by decide) rfl rfl rfl (by decide) (by decide) rfl pd__28I_29I rfl rfl (Nat.le_of_eq rfl) ?_
  refine Go.iload (pc' := 70) d11_68 rfl rfl ?_
  refine Go.callS0 (pc' := 73) (W := 1) (argsL := [(.int v)]) (rest := [(.int (f_c_key u))]) (v0 := some (.int (f_c_key v))) (st2 := [(.int (f_c_key v)), (.int (f_c_key u))]) d11_70 rfl (hw _ w83) (hw _ w84) (hw _ w76) (hw _ w85) (by decide) (c_key hw v rfl) (by decide) (by decide) rfl rfl rfl (by decide) (by decide) rfl pd__28I_29I rfl rfl (Nat.le_of_eq rfl) ?_
  refine Go.icmpT (pc' := 78) (X := (f_c_key u).toInt) (Y := (f_c_key v).toInt) d11_73 (by decide) rfl rfl (huv : (f_c_key u).toInt < (f_c_key v).toInt) ?_
  refine Go.iconst (pc' := 79) d11_78 rfl (z := (1 : Int32)) (by decide) ?_
  refine Go.retZ d11_79 rfl (by decide) (by decide) (by decide) ?_
  exact ⟨rfl, rfl, rfl⟩
set_option maxRecDepth 65536 in
set_option maxHeartbeats 40000000 in
theorem c_out2 {l : Launch} {Z : State} {a0 : Array Value} (hw : ∀ d ∈ tables_1, d.before a0 Z = true) {h0 : Heap} (r vs : Addr) (ms n zr x0 x1 x2 x3 : Int32) (rs : List Int32) (A_r : Al Z h0 r .int (rs.map Value.int)) (A_vs : Al Z h0 vs .int [(.int x0), (.int x1), (.int x2), (.int x3)]) (hzr : (rs.map Value.int).length.toInt32 = zr) (hout : ¬ 2 < zr.toInt) : Con l Z (⟨"com/example/even_keel/evenkeel/plan/MemberNamesNumbersInNameOrderPinLaw", "okAt", "([III[II)Z"⟩ : MethodName) method_4_code 7 (some .boolean) ({ frames := 0, cells := 0, slots := 0, locals := 0 } : Room) [] #[(.ref r), (.int (2 : Int32)), (.int ms), (.ref vs), (.int n)] h0 (PQ h0 (some (.int (1 : Int32)))) := by
  refine con_of (Ls := #[.val (.ref r), .val (.int (2 : Int32)), .val (.int ms), .val (.ref vs), .val (.int n), .unset, .unset]) (plainFor_of_name (by first | (simp [plainName, overriddenIn]; done) | decide +kernel)) (fun m => by first | (simp [entryFrame, mkF, argsToLocals, Value.category]; done) | rfl) ?_
  refine Go.iloadN (pc' := 1) d11_0 rfl rfl ?_
  refine Go.aloadN (pc' := 2) d11_1 rfl rfl rfl ?_
  refine Go.arraylength (pc' := 3) d11_2 rfl A_r (z := zr) hzr ?_
  refine Go.icmpF (pc' := 6) (X := (2 : Int)) (Y := zr.toInt) d11_3 rfl (by decide) rfl (hout : ¬ (2 : Int) < zr.toInt) ?_
  refine Go.iconst (pc' := 7) d11_6 rfl (z := (1 : Int32)) (by decide) ?_
  refine Go.retZ d11_7 rfl (by decide) (by decide) (by decide) ?_
  exact ⟨rfl, rfl, rfl⟩
set_option maxRecDepth 65536 in
set_option maxHeartbeats 40000000 in
theorem c_ok2 {l : Launch} {Z : State} {a0 : Array Value} (hw : ∀ d ∈ tables_1, d.before a0 Z = true) {h0 : Heap} (r vs : Addr) (ms n zr v u x0 x1 x2 x3 : Int32) (rs : List Int32) (A_r : Al Z h0 r .int (rs.map Value.int)) (A_vs : Al Z h0 vs .int [(.int x0), (.int x1), (.int x2), (.int x3)]) (hzr : (rs.map Value.int).length.toInt32 = zr) (hinn : 2 < zr.toInt) (hv : rs[2]? = some v) (hv1 : ¬ v.toInt < 0) (hv2 : ¬ ms.toInt < v.toInt) (hin : (0 < n.toInt ∧ x0.toInt = v.toInt) ∨ (1 < n.toInt ∧ x1.toInt = v.toInt) ∨ (2 < n.toInt ∧ x2.toInt = v.toInt) ∨ (3 < n.toInt ∧ x3.toInt = v.toInt)) (hu : rs[1]? = some u) (hu1 : ¬ u.toInt < 0) (hu2 : ¬ ms.toInt < u.toInt) (huv : (f_c_key u).toInt < (f_c_key v).toInt) : Con l Z (⟨"com/example/even_keel/evenkeel/plan/MemberNamesNumbersInNameOrderPinLaw", "okAt", "([III[II)Z"⟩ : MethodName) method_4_code 7 (some .boolean) ({ frames := 1, cells := 0, slots := 0, locals := 14 } : Room) [] #[(.ref r), (.int (2 : Int32)), (.int ms), (.ref vs), (.int n)] h0 (PQ h0 (some (.int (1 : Int32)))) := by
  refine con_of (Ls := #[.val (.ref r), .val (.int (2 : Int32)), .val (.int ms), .val (.ref vs), .val (.int n), .unset, .unset]) (plainFor_of_name (by first | (simp [plainName, overriddenIn]; done) | decide +kernel)) (fun m => by first | (simp [entryFrame, mkF, argsToLocals, Value.category]; done) | rfl) ?_
  refine Go.iloadN (pc' := 1) d11_0 rfl rfl ?_
  refine Go.aloadN (pc' := 2) d11_1 rfl rfl rfl ?_
  refine Go.arraylength (pc' := 3) d11_2 rfl A_r (z := zr) hzr ?_
  refine Go.icmpT (pc' := 8) (X := (2 : Int)) (Y := zr.toInt) d11_3 (by decide) (by decide) rfl (hinn : (2 : Int) < zr.toInt) ?_
  refine Go.aloadN (pc' := 9) d11_8 rfl rfl rfl ?_
  refine Go.iloadN (pc' := 10) d11_9 rfl rfl ?_
  refine Go.iaload (pc' := 11) d11_10 rfl (i := 2) (v := (.int v)) A_r (by decide) (by rw [List.getElem?_map, hv]; rfl) ?_
  refine Go.istore (pc' := 13) d11_11 rfl (Ls' := #[.val (.ref r), .val (.int (2 : Int32)), .val (.int ms), .val (.ref vs), .val (.int n), .val (.int v), .unset]) rfl ?_
  refine Go.iload (pc' := 15) d11_13 rfl rfl ?_
  refine Go.ifF (pc' := 18) (X := v.toInt) d11_15 rfl rfl (hv1 : ¬ v.toInt < 0) ?_
  refine Go.iload (pc' := 20) d11_18 rfl rfl ?_
  refine Go.iloadN (pc' := 21) d11_20 rfl rfl ?_
  refine Go.icmpT (pc' := 26) (X := v.toInt) (Y := ms.toInt) d11_21 (by decide) rfl rfl (hv2 : ¬ ms.toInt < v.toInt) ?_
  refine Go.iload (pc' := 28) d11_26 rfl rfl ?_
  refine Go.aloadN (pc' := 29) d11_28 rfl rfl rfl ?_
  refine Go.iload (pc' := 31) d11_29 rfl rfl ?_
  refine Go.callS0 (pc' := 34) (W := 0) (argsL := [(.int v), (.ref vs), (.int n)]) (rest := []) (v0 := some (.int (1 : Int32))) (st2 := [(.int (1 : Int32))]) d11_31 rfl (hw _ w78) (hw _ w79) (hw _ w76) (hw _ w80) (by decide) (c_in hw vs v n x0 x1 x2 x3 A_vs hin) (by decide) (by decide) rfl rfl rfl (by decide) (by decide) rfl pd__28I_5bII_29Z rfl rfl (Nat.le_of_eq rfl) ?_
  refine Go.ifT (pc' := 39) (X := (1 : Int)) d11_34 (by decide) (by decide) (by decide : ¬ (1 : Int) = 0) ?_
  refine Go.iloadN (pc' := 40) d11_39 rfl rfl ?_
  refine Go.ifF (pc' := 43) (X := (2 : Int)) d11_40 rfl (by decide) (by decide : 0 < (2 : Int)) ?_
  refine Go.aloadN (pc' := 44) d11_43 rfl rfl rfl ?_
  refine Go.iloadN (pc' := 45) d11_44 rfl rfl ?_
  refine Go.iconst (pc' := 46) d11_45 rfl (z := (1 : Int32)) (by decide) ?_
  refine Go.isub (pc' := 47) d11_46 rfl (z := (1 : Int32)) (by decide) ?_
  refine Go.iaload (pc' := 48) d11_47 rfl (i := 1) (v := (.int u)) A_r (by decide) (by rw [List.getElem?_map, hu]; rfl) ?_
  refine Go.istore (pc' := 50) d11_48 rfl (Ls' := #[.val (.ref r), .val (.int (2 : Int32)), .val (.int ms), .val (.ref vs), .val (.int n), .val (.int v), .val (.int u)]) rfl ?_
  refine Go.iload (pc' := 52) d11_50 rfl rfl ?_
  refine Go.ifF (pc' := 55) (X := u.toInt) d11_52 rfl rfl (hu1 : ¬ u.toInt < 0) ?_
  refine Go.iload (pc' := 57) d11_55 rfl rfl ?_
  refine Go.iloadN (pc' := 58) d11_57 rfl rfl ?_
  refine Go.icmpT (pc' := 63) (X := u.toInt) (Y := ms.toInt) d11_58 (by decide) rfl rfl (hu2 : ¬ ms.toInt < u.toInt) ?_
  refine Go.iload (pc' := 65) d11_63 rfl rfl ?_
  refine Go.callS0 (pc' := 68) (W := 0) (argsL := [(.int u)]) (rest := []) (v0 := some (.int (f_c_key u))) (st2 := [(.int (f_c_key u))]) d11_65 rfl (hw _ w83) (hw _ w84) (hw _ w76) (hw _ w85) (by decide) (c_key hw u rfl) (by decide) (by decide) rfl rfl rfl (by decide) (by decide) rfl pd__28I_29I rfl rfl (Nat.le_of_eq rfl) ?_
  refine Go.iload (pc' := 70) d11_68 rfl rfl ?_
  refine Go.callS0 (pc' := 73) (W := 1) (argsL := [(.int v)]) (rest := [(.int (f_c_key u))]) (v0 := some (.int (f_c_key v))) (st2 := [(.int (f_c_key v)), (.int (f_c_key u))]) d11_70 rfl (hw _ w83) (hw _ w84) (hw _ w76) (hw _ w85) (by decide) (c_key hw v rfl) (by decide) (by decide) rfl rfl rfl (by decide) (by decide) rfl pd__28I_29I rfl rfl (Nat.le_of_eq rfl) ?_
  refine Go.icmpT (pc' := 78) (X := (f_c_key u).toInt) (Y := (f_c_key v).toInt) d11_73 (by decide) rfl rfl (huv : (f_c_key u).toInt < (f_c_key v).toInt) ?_
  refine Go.iconst (pc' := 79) d11_78 rfl (z := (1 : Int32)) (by decide) ?_
  refine Go.retZ d11_79 rfl (by decide) (by decide) (by decide) ?_
  exact ⟨rfl, rfl, rfl⟩
set_option maxRecDepth 65536 in
set_option maxHeartbeats 40000000 in
theorem c_out3 {l : Launch} {Z : State} {a0 : Array Value} (hw : ∀ d ∈ tables_1, d.before a0 Z = true) {h0 : Heap} (r vs : Addr) (ms n zr x0 x1 x2 x3 : Int32) (rs : List Int32) (A_r : Al Z h0 r .int (rs.map Value.int)) (A_vs : Al Z h0 vs .int [(.int x0), (.int x1), (.int x2), (.int x3)]) (hzr : (rs.map Value.int).length.toInt32 = zr) (hout : ¬ 3 < zr.toInt) : Con l Z (⟨"com/example/even_keel/evenkeel/plan/MemberNamesNumbersInNameOrderPinLaw", "okAt", "([III[II)Z"⟩ : MethodName) method_4_code 7 (some .boolean) ({ frames := 0, cells := 0, slots := 0, locals := 0 } : Room) [] #[(.ref r), (.int (3 : Int32)), (.int ms), (.ref vs), (.int n)] h0 (PQ h0 (some (.int (1 : Int32)))) := by
  refine con_of (Ls := #[.val (.ref r), .val (.int (3 : Int32)), .val (.int ms), .val (.ref vs), .val (.int n), .unset, .unset]) (plainFor_of_name (by first | (simp [plainName, overriddenIn]; done) | decide +kernel)) (fun m => by first | (simp [entryFrame, mkF, argsToLocals, Value.category]; done) | rfl) ?_
  refine Go.iloadN (pc' := 1) d11_0 rfl rfl ?_
  refine Go.aloadN (pc' := 2) d11_1 rfl rfl rfl ?_
  refine Go.arraylength (pc' := 3) d11_2 rfl A_r (z := zr) hzr ?_
  refine Go.icmpF (pc' := 6) (X := (3 : Int)) (Y := zr.toInt) d11_3 rfl (by decide) rfl (hout : ¬ (3 : Int) < zr.toInt) ?_
  refine Go.iconst (pc' := 7) d11_6 rfl (z := (1 : Int32)) (by decide) ?_
  refine Go.retZ d11_7 rfl (by decide) (by decide) (by decide) ?_
  exact ⟨rfl, rfl, rfl⟩
set_option maxRecDepth 65536 in
set_option maxHeartbeats 40000000 in
theorem c_ok3 {l : Launch} {Z : State} {a0 : Array Value} (hw : ∀ d ∈ tables_1, d.before a0 Z = true) {h0 : Heap} (r vs : Addr) (ms n zr v u x0 x1 x2 x3 : Int32) (rs : List Int32) (A_r : Al Z h0 r .int (rs.map Value.int)) (A_vs : Al Z h0 vs .int [(.int x0), (.int x1), (.int x2), (.int x3)]) (hzr : (rs.map Value.int).length.toInt32 = zr) (hinn : 3 < zr.toInt) (hv : rs[3]? = some v) (hv1 : ¬ v.toInt < 0) (hv2 : ¬ ms.toInt < v.toInt) (hin : (0 < n.toInt ∧ x0.toInt = v.toInt) ∨ (1 < n.toInt ∧ x1.toInt = v.toInt) ∨ (2 < n.toInt ∧ x2.toInt = v.toInt) ∨ (3 < n.toInt ∧ x3.toInt = v.toInt)) (hu : rs[2]? = some u) (hu1 : ¬ u.toInt < 0) (hu2 : ¬ ms.toInt < u.toInt) (huv : (f_c_key u).toInt < (f_c_key v).toInt) : Con l Z (⟨"com/example/even_keel/evenkeel/plan/MemberNamesNumbersInNameOrderPinLaw", "okAt", "([III[II)Z"⟩ : MethodName) method_4_code 7 (some .boolean) ({ frames := 1, cells := 0, slots := 0, locals := 14 } : Room) [] #[(.ref r), (.int (3 : Int32)), (.int ms), (.ref vs), (.int n)] h0 (PQ h0 (some (.int (1 : Int32)))) := by
  refine con_of (Ls := #[.val (.ref r), .val (.int (3 : Int32)), .val (.int ms), .val (.ref vs), .val (.int n), .unset, .unset]) (plainFor_of_name (by first | (simp [plainName, overriddenIn]; done) | decide +kernel)) (fun m => by first | (simp [entryFrame, mkF, argsToLocals, Value.category]; done) | rfl) ?_
  refine Go.iloadN (pc' := 1) d11_0 rfl rfl ?_
  refine Go.aloadN (pc' := 2) d11_1 rfl rfl rfl ?_
  refine Go.arraylength (pc' := 3) d11_2 rfl A_r (z := zr) hzr ?_
  refine Go.icmpT (pc' := 8) (X := (3 : Int)) (Y := zr.toInt) d11_3 (by decide) (by decide) rfl (hinn : (3 : Int) < zr.toInt) ?_
  refine Go.aloadN (pc' := 9) d11_8 rfl rfl rfl ?_
  refine Go.iloadN (pc' := 10) d11_9 rfl rfl ?_
  refine Go.iaload (pc' := 11) d11_10 rfl (i := 3) (v := (.int v)) A_r (by decide) (by rw [List.getElem?_map, hv]; rfl) ?_
  refine Go.istore (pc' := 13) d11_11 rfl (Ls' := #[.val (.ref r), .val (.int (3 : Int32)), .val (.int ms), .val (.ref vs), .val (.int n), .val (.int v), .unset]) rfl ?_
  refine Go.iload (pc' := 15) d11_13 rfl rfl ?_
  refine Go.ifF (pc' := 18) (X := v.toInt) d11_15 rfl rfl (hv1 : ¬ v.toInt < 0) ?_
  refine Go.iload (pc' := 20) d11_18 rfl rfl ?_
  refine Go.iloadN (pc' := 21) d11_20 rfl rfl ?_
  refine Go.icmpT (pc' := 26) (X := v.toInt) (Y := ms.toInt) d11_21 (by decide) rfl rfl (hv2 : ¬ ms.toInt < v.toInt) ?_
  refine Go.iload (pc' := 28) d11_26 rfl rfl ?_
  refine Go.aloadN (pc' := 29) d11_28 rfl rfl rfl ?_
  refine Go.iload (pc' := 31) d11_29 rfl rfl ?_
  refine Go.callS0 (pc' := 34) (W := 0) (argsL := [(.int v), (.ref vs), (.int n)]) (rest := []) (v0 := some (.int (1 : Int32))) (st2 := [(.int (1 : Int32))]) d11_31 rfl (hw _ w78) (hw _ w79) (hw _ w76) (hw _ w80) (by decide) (c_in hw vs v n x0 x1 x2 x3 A_vs hin) (by decide) (by decide) rfl rfl rfl (by decide) (by decide) rfl pd__28I_5bII_29Z rfl rfl (Nat.le_of_eq rfl) ?_
  refine Go.ifT (pc' := 39) (X := (1 : Int)) d11_34 (by decide) (by decide) (by decide : ¬ (1 : Int) = 0) ?_
  refine Go.iloadN (pc' := 40) d11_39 rfl rfl ?_
  refine Go.ifF (pc' := 43) (X := (3 : Int)) d11_40 rfl (by decide) (by decide : 0 < (3 : Int)) ?_
  refine Go.aloadN (pc' := 44) d11_43 rfl rfl rfl ?_
  refine Go.iloadN (pc' := 45) d11_44 rfl rfl ?_
  refine Go.iconst (pc' := 46) d11_45 rfl (z := (1 : Int32)) (by decide) ?_
  refine Go.isub (pc' := 47) d11_46 rfl (z := (2 : Int32)) (by decide) ?_
  refine Go.iaload (pc' := 48) d11_47 rfl (i := 2) (v := (.int u)) A_r (by decide) (by rw [List.getElem?_map, hu]; rfl) ?_
  refine Go.istore (pc' := 50) d11_48 rfl (Ls' := #[.val (.ref r), .val (.int (3 : Int32)), .val (.int ms), .val (.ref vs), .val (.int n), .val (.int v), .val (.int u)]) rfl ?_
  refine Go.iload (pc' := 52) d11_50 rfl rfl ?_
  refine Go.ifF (pc' := 55) (X := u.toInt) d11_52 rfl rfl (hu1 : ¬ u.toInt < 0) ?_
  refine Go.iload (pc' := 57) d11_55 rfl rfl ?_
  refine Go.iloadN (pc' := 58) d11_57 rfl rfl ?_
  refine Go.icmpT (pc' := 63) (X := u.toInt) (Y := ms.toInt) d11_58 (by decide) rfl rfl (hu2 : ¬ ms.toInt < u.toInt) ?_
  refine Go.iload (pc' := 65) d11_63 rfl rfl ?_
  refine Go.callS0 (pc' := 68) (W := 0) (argsL := [(.int u)]) (rest := []) (v0 := some (.int (f_c_key u))) (st2 := [(.int (f_c_key u))]) d11_65 rfl (hw _ w83) (hw _ w84) (hw _ w76) (hw _ w85) (by decide) (c_key hw u rfl) (by decide) (by decide) rfl rfl rfl (by decide) (by decide) rfl pd__28I_29I rfl rfl (Nat.le_of_eq rfl) ?_
  refine Go.iload (pc' := 70) d11_68 rfl rfl ?_
  refine Go.callS0 (pc' := 73) (W := 1) (argsL := [(.int v)]) (rest := [(.int (f_c_key u))]) (v0 := some (.int (f_c_key v))) (st2 := [(.int (f_c_key v)), (.int (f_c_key u))]) d11_70 rfl (hw _ w83) (hw _ w84) (hw _ w76) (hw _ w85) (by decide) (c_key hw v rfl) (by decide) (by decide) rfl rfl rfl (by decide) (by decide) rfl pd__28I_29I rfl rfl (Nat.le_of_eq rfl) ?_
  refine Go.icmpT (pc' := 78) (X := (f_c_key u).toInt) (Y := (f_c_key v).toInt) d11_73 (by decide) rfl rfl (huv : (f_c_key u).toInt < (f_c_key v).toInt) ?_
  refine Go.iconst (pc' := 79) d11_78 rfl (z := (1 : Int32)) (by decide) ?_
  refine Go.retZ d11_79 rfl (by decide) (by decide) (by decide) ?_
  exact ⟨rfl, rfl, rfl⟩
theorem own_fkeys : ∀ n : Fin 1024, (f_c_key (Int32.ofNat n.val)).toInt = (own_key n.val : Int) := by decide +kernel
theorem own_fkey (g : Nat) (h : g < 1024) : (f_c_key (Int32.ofNat g)).toInt = (own_key g : Int) := own_fkeys ⟨g, h⟩
theorem own_len4 (G : List Nat) (h : G.length ≤ 4) : G = [] ∨ (∃ a, G = [a]) ∨ (∃ a b, G = [a, b]) ∨ (∃ a b d, G = [a, b, d]) ∨ (∃ a b d e, G = [a, b, d, e]) := by
  match G, h with
  | [], _ => exact Or.inl rfl
  | [a], _ => exact Or.inr (Or.inl ⟨a, rfl⟩)
  | [a, b], _ => exact Or.inr (Or.inr (Or.inl ⟨a, b, rfl⟩))
  | [a, b, d], _ => exact Or.inr (Or.inr (Or.inr (Or.inl ⟨a, b, d, rfl⟩)))
  | [a, b, d, e], _ => exact Or.inr (Or.inr (Or.inr (Or.inr ⟨a, b, d, e, rfl⟩)))
  | a :: b :: d :: e :: f :: t, h => simp at h
def own_fl (f : Int32) (P : Prop) : Prop := (f.toInt = 1 ∧ P) ∨ (f.toInt = 0 ∧ ¬ P)
theorem own_fl1 {P : Prop} (h : P) : own_fl (1 : Int32) P := Or.inl ⟨by decide, h⟩
theorem own_fl0 {P : Prop} (h : ¬ P) : own_fl (0 : Int32) P := Or.inr ⟨by decide, h⟩
theorem own_fl_of {f : Int32} {P : Prop} (h : own_fl f P) (q : ¬ f.toInt = (0 : Int)) : P := h.elim (fun a => a.2) (fun a => absurd a.1 q)
def own_in (v0 v1 v2 v3 n v : Int32) : Prop := (0 < n.toInt ∧ v0.toInt = v.toInt) ∨ (1 < n.toInt ∧ v1.toInt = v.toInt) ∨ (2 < n.toInt ∧ v2.toInt = v.toInt) ∨ (3 < n.toInt ∧ v3.toInt = v.toInt)
theorem own_in_of {v0 v1 v2 v3 n : Int32} {Mn j0 j1 j2 j3 g : Nat} (hMn : Mn < 1024) (hj0 : v0.toInt = (j0 : Int)) (hj1 : v1.toInt = (j1 : Int)) (hj2 : v2.toInt = (j2 : Int)) (hj3 : v3.toInt = (j3 : Int)) (hjM0 : j0 ≤ Mn) (hjM1 : j1 ≤ Mn) (hjM2 : j2 ≤ Mn) (hjM3 : j3 ≤ Mn) (m : (0 < 4 ∧ 0 < n.toInt ∧ g = j0) ∨ (1 < 4 ∧ 1 < n.toInt ∧ g = j1) ∨ (2 < 4 ∧ 2 < n.toInt ∧ g = j2) ∨ (3 < 4 ∧ 3 < n.toInt ∧ g = j3)) : g ≤ Mn ∧ (Int32.ofNat g).toInt = (g : Int) ∧ own_in v0 v1 v2 v3 n (Int32.ofNat g) := by
  have b : g ≤ Mn := by rcases m with h | h | h | h <;> omega
  have u : (Int32.ofNat g).toInt = (g : Int) := Int32.toInt_ofNat_of_lt (by omega)
  refine ⟨b, u, ?_⟩
  rcases m with h | h | h | h
  · exact Or.inl ⟨h.2.1, by rw [u, hj0, h.2.2]⟩
  · exact Or.inr (Or.inl ⟨h.2.1, by rw [u, hj1, h.2.2]⟩)
  · exact Or.inr (Or.inr (Or.inl ⟨h.2.1, by rw [u, hj2, h.2.2]⟩))
  · exact Or.inr (Or.inr (Or.inr ⟨h.2.1, by rw [u, hj3, h.2.2]⟩))
set_option maxRecDepth 65536 in
set_option maxHeartbeats 40000000 in
theorem law_con {l : Launch} {Z : State} {a0 : Array Value} (hw : ∀ d ∈ tables_1, d.before a0 Z = true) {h0 : Heap} {n0 : Nat} (sz0 : n0 ≤ h0.size) (mq : Int32) (ga : Int32) (gb : Int32) (gc : Int32) (gd : Int32) (fq : Int32) : Con l Z x code maxLocals ret room_1 tables_1 #[(.int mq), (.int ga), (.int gb), (.int gc), (.int gd), (.int fq)] h0 (LawQ n0) := by
  refine con_of (Ls := #[.val (.int mq), .val (.int ga), .val (.int gb), .val (.int gc), .val (.int gd), .val (.int fq), .unset, .unset, .unset, .unset, .unset, .unset, .unset, .unset, .unset, .unset]) (plainFor_of_name (by first | (simp [plainName, overriddenIn]; done) | decide +kernel)) (fun m => by first | (simp [entryFrame, mkF, argsToLocals, Value.category, maxLocals]; done) | rfl) ?_
  have N0 : Fr n0 [] := Fr.nil _
  refine Go.iloadN (pc' := 1) at_0 rfl rfl ?_
  refine Go.sipush (pc' := 4) at_1 rfl (z := (1023 : Int32)) (by decide) ?_
  refine Go.iand (pc' := 5) at_4 rfl rfl ?_
  generalize hv_ms : (mq &&& (1023 : Int32)) = ms
  refine Go.istore (pc' := 7) at_5 rfl (Ls' := #[.val (.int mq), .val (.int ga), .val (.int gb), .val (.int gc), .val (.int gd), .val (.int fq), .val (.int ms), .unset, .unset, .unset, .unset, .unset, .unset, .unset, .unset, .unset]) rfl ?_
  have mm : (mq &&& (1023 : Int32)).toInt = mq.toInt % (2 ^ 10 : Nat) := c_mask mq 1023 10 (by decide) (by decide)
  rw [hv_ms] at mm
  obtain ⟨Mn, hM, hMn⟩ : ∃ Mn : Nat, ms.toInt = (Mn : Int) ∧ Mn < 1024 := ⟨ms.toInt.toNat, by omega, by omega⟩
  have k1 : (1 : Int32).toInt = 1 := by decide
  have k5 : (5 : Int32).toInt = 5 := by decide
  clear mm
  refine Go.iload (pc' := 9) at_7 rfl rfl ?_
  refine Go.ldcI (pc' := 11) at_9 rfl (hw _ w0) ?_
  refine Go.iand (pc' := 12) at_11 rfl rfl ?_
  refine Go.iconst (pc' := 13) at_12 rfl (z := (5 : Int32)) (by decide) ?_
  refine Go.irem (pc' := 14) at_13 rfl (by decide) rfl ?_
  generalize hv_n : ((fq &&& (2147483647 : Int32)) % (5 : Int32)) = n
  refine Go.istore (pc' := 16) at_14 rfl (Ls' := #[.val (.int mq), .val (.int ga), .val (.int gb), .val (.int gc), .val (.int gd), .val (.int fq), .val (.int ms), .val (.int n), .unset, .unset, .unset, .unset, .unset, .unset, .unset, .unset]) rfl ?_
  have mf : (fq &&& (2147483647 : Int32)).toInt = fq.toInt % (2 ^ 31 : Nat) := c_mask fq 2147483647 31 (by decide) (by decide)
  have qf := (c_iremV (fq &&& (2147483647 : Int32)) (5 : Int32)).1 (by omega) (by omega)
  rw [hv_n] at qf
  have hn0 : 0 ≤ n.toInt ∧ n.toInt ≤ 4 := by omega
  clear mf qf
  refine Go.iconst (pc' := 17) at_16 rfl (z := (4 : Int32)) (by decide) ?_
  refine Go.new_int (pc' := 19) (k' := 1) (n' := 4) (N := 4) (vs := [(.int (0 : Int32)), (.int (0 : Int32)), (.int (0 : Int32)), (.int (0 : Int32))]) at_17 rfl (hw _ w1) (by decide) rfl 4 (Nat.le_refl _) (by decide) (by decide) (by decide) rfl rfl ?_
  intro h1 arr ha_arr X1 A_arr
  have gn_arr : n0 ≤ arr := by rw [ha_arr]; exact sz0
  replace sz0 : n0 ≤ h1.size := Nat.le_trans sz0 X1.1
  refine Go.astore (pc' := 21) at_19 rfl rfl (Ls' := #[.val (.int mq), .val (.int ga), .val (.int gb), .val (.int gc), .val (.int gd), .val (.int fq), .val (.int ms), .val (.int n), .val (.ref arr), .unset, .unset, .unset, .unset, .unset, .unset, .unset]) rfl ?_
  refine Go.aload (pc' := 23) at_21 rfl rfl rfl ?_
  refine Go.iconst (pc' := 24) at_23 rfl (z := (0 : Int32)) (by decide) ?_
  refine Go.iloadN (pc' := 25) at_24 rfl rfl ?_
  refine Go.ldcI (pc' := 27) at_25 rfl (hw _ w0) ?_
  refine Go.iand (pc' := 28) at_27 rfl rfl ?_
  refine Go.iload (pc' := 30) at_28 rfl rfl ?_
  refine Go.iconst (pc' := 31) at_30 rfl (z := (1 : Int32)) (by decide) ?_
  refine Go.iadd (pc' := 32) at_31 rfl rfl ?_
  have e10 := c_iadd ms (1 : Int32)
  have r10 := rng32 (ms + (1 : Int32))
  have m0 : (ga &&& (2147483647 : Int32)).toInt = ga.toInt % (2 ^ 31 : Nat) := c_mask ga 2147483647 31 (by decide) (by decide)
  have q0 := (c_iremV (ga &&& (2147483647 : Int32)) (ms + (1 : Int32))).1 (by omega) (by omega)
  refine Go.irem (pc' := 33) at_32 rfl (fun q => by have z0 : (0 : Int32).toInt = 0 := (by decide); rw [q] at e10; omega) rfl ?_
  generalize hv_v0 : ((ga &&& (2147483647 : Int32)) % (ms + (1 : Int32))) = v0 at *
  obtain ⟨j0, hj0, hjM0⟩ : ∃ j : Nat, v0.toInt = (j : Int) ∧ j ≤ Mn := ⟨v0.toInt.toNat, by omega, by omega⟩
  clear m0 q0
  refine Go.iastore (pc' := 34) (i := 0) (v := (.int v0)) (vs' := [(.int v0), (.int (0 : Int32)), (.int (0 : Int32)), (.int (0 : Int32))]) at_33 rfl A_arr (by decide) (Nat.le_of_ble_eq_true rfl) rfl rfl ?_
  intro h2 L2 NL2 W2 B2
  replace N0 := NL2 _ N0 gn_arr
  replace sz0 : n0 ≤ h2.size := by rw [W2.size]; exact sz0
  clear A_arr; have A_arr := B2
  refine Go.aload (pc' := 36) at_34 rfl rfl rfl ?_
  refine Go.iconst (pc' := 37) at_36 rfl (z := (1 : Int32)) (by decide) ?_
  refine Go.iloadN (pc' := 38) at_37 rfl rfl ?_
  refine Go.ldcI (pc' := 40) at_38 rfl (hw _ w0) ?_
  refine Go.iand (pc' := 41) at_40 rfl rfl ?_
  refine Go.iload (pc' := 43) at_41 rfl rfl ?_
  refine Go.iconst (pc' := 44) at_43 rfl (z := (1 : Int32)) (by decide) ?_
  refine Go.iadd (pc' := 45) at_44 rfl rfl ?_
  have m1 : (gb &&& (2147483647 : Int32)).toInt = gb.toInt % (2 ^ 31 : Nat) := c_mask gb 2147483647 31 (by decide) (by decide)
  have q1 := (c_iremV (gb &&& (2147483647 : Int32)) (ms + (1 : Int32))).1 (by omega) (by omega)
  refine Go.irem (pc' := 46) at_45 rfl (fun q => by have z0 : (0 : Int32).toInt = 0 := (by decide); rw [q] at e10; omega) rfl ?_
  generalize hv_v1 : ((gb &&& (2147483647 : Int32)) % (ms + (1 : Int32))) = v1 at *
  obtain ⟨j1, hj1, hjM1⟩ : ∃ j : Nat, v1.toInt = (j : Int) ∧ j ≤ Mn := ⟨v1.toInt.toNat, by omega, by omega⟩
  clear m1 q1
  refine Go.iastore (pc' := 47) (i := 1) (v := (.int v1)) (vs' := [(.int v0), (.int v1), (.int (0 : Int32)), (.int (0 : Int32))]) at_46 rfl A_arr (by decide) (Nat.le_of_ble_eq_true rfl) rfl rfl ?_
  intro h3 L3 NL3 W3 B3
  replace N0 := NL3 _ N0 gn_arr
  replace sz0 : n0 ≤ h3.size := by rw [W3.size]; exact sz0
  clear A_arr; have A_arr := B3
  refine Go.aload (pc' := 49) at_47 rfl rfl rfl ?_
  refine Go.iconst (pc' := 50) at_49 rfl (z := (2 : Int32)) (by decide) ?_
  refine Go.iloadN (pc' := 51) at_50 rfl rfl ?_
  refine Go.ldcI (pc' := 53) at_51 rfl (hw _ w0) ?_
  refine Go.iand (pc' := 54) at_53 rfl rfl ?_
  refine Go.iload (pc' := 56) at_54 rfl rfl ?_
  refine Go.iconst (pc' := 57) at_56 rfl (z := (1 : Int32)) (by decide) ?_
  refine Go.iadd (pc' := 58) at_57 rfl rfl ?_
  have m2 : (gc &&& (2147483647 : Int32)).toInt = gc.toInt % (2 ^ 31 : Nat) := c_mask gc 2147483647 31 (by decide) (by decide)
  have q2 := (c_iremV (gc &&& (2147483647 : Int32)) (ms + (1 : Int32))).1 (by omega) (by omega)
  refine Go.irem (pc' := 59) at_58 rfl (fun q => by have z0 : (0 : Int32).toInt = 0 := (by decide); rw [q] at e10; omega) rfl ?_
  generalize hv_v2 : ((gc &&& (2147483647 : Int32)) % (ms + (1 : Int32))) = v2 at *
  obtain ⟨j2, hj2, hjM2⟩ : ∃ j : Nat, v2.toInt = (j : Int) ∧ j ≤ Mn := ⟨v2.toInt.toNat, by omega, by omega⟩
  clear m2 q2
  refine Go.iastore (pc' := 60) (i := 2) (v := (.int v2)) (vs' := [(.int v0), (.int v1), (.int v2), (.int (0 : Int32))]) at_59 rfl A_arr (by decide) (Nat.le_of_ble_eq_true rfl) rfl rfl ?_
  intro h4 L4 NL4 W4 B4
  replace N0 := NL4 _ N0 gn_arr
  replace sz0 : n0 ≤ h4.size := by rw [W4.size]; exact sz0
  clear A_arr; have A_arr := B4
  refine Go.aload (pc' := 62) at_60 rfl rfl rfl ?_
  refine Go.iconst (pc' := 63) at_62 rfl (z := (3 : Int32)) (by decide) ?_
  refine Go.iload (pc' := 65) at_63 rfl rfl ?_
  refine Go.ldcI (pc' := 67) at_65 rfl (hw _ w0) ?_
  refine Go.iand (pc' := 68) at_67 rfl rfl ?_
  refine Go.iload (pc' := 70) at_68 rfl rfl ?_
  refine Go.iconst (pc' := 71) at_70 rfl (z := (1 : Int32)) (by decide) ?_
  refine Go.iadd (pc' := 72) at_71 rfl rfl ?_
  have m3 : (gd &&& (2147483647 : Int32)).toInt = gd.toInt % (2 ^ 31 : Nat) := c_mask gd 2147483647 31 (by decide) (by decide)
  have q3 := (c_iremV (gd &&& (2147483647 : Int32)) (ms + (1 : Int32))).1 (by omega) (by omega)
  refine Go.irem (pc' := 73) at_72 rfl (fun q => by have z0 : (0 : Int32).toInt = 0 := (by decide); rw [q] at e10; omega) rfl ?_
  generalize hv_v3 : ((gd &&& (2147483647 : Int32)) % (ms + (1 : Int32))) = v3 at *
  obtain ⟨j3, hj3, hjM3⟩ : ∃ j : Nat, v3.toInt = (j : Int) ∧ j ≤ Mn := ⟨v3.toInt.toNat, by omega, by omega⟩
  clear m3 q3 e10 r10
  refine Go.iastore (pc' := 74) (i := 3) (v := (.int v3)) (vs' := [(.int v0), (.int v1), (.int v2), (.int v3)]) at_73 rfl A_arr (by decide) (Nat.le_of_ble_eq_true rfl) rfl rfl ?_
  intro h5 L5 NL5 W5 B5
  replace N0 := NL5 _ N0 gn_arr
  replace sz0 : n0 ≤ h5.size := by rw [W5.size]; exact sz0
  clear A_arr; have A_arr := B5
  have J84 : ∀ f0 : Int32, own_fl f0 (0 < n.toInt) → Go Z l room_1 code maxLocals x.cls ret x.name 84 #[.val (.int mq), .val (.int ga), .val (.int gb), .val (.int gc), .val (.int gd), .val (.int fq), .val (.int ms), .val (.int n), .val (.ref arr), .unset, .unset, .unset, .unset, .unset, .unset, .unset] [(.int f0)] h5 L5 1 4 (LawQ n0) := by
    intro f0 hf0
    refine Go.istore (pc' := 86) at_84 rfl (Ls' := #[.val (.int mq), .val (.int ga), .val (.int gb), .val (.int gc), .val (.int gd), .val (.int fq), .val (.int ms), .val (.int n), .val (.ref arr), .val (.int f0), .unset, .unset, .unset, .unset, .unset, .unset]) rfl ?_
    have J108 : ∀ f1 : Int32, own_fl f1 (1 < n.toInt ∧ ¬ v1.toInt = v0.toInt) → Go Z l room_1 code maxLocals x.cls ret x.name 108 #[.val (.int mq), .val (.int ga), .val (.int gb), .val (.int gc), .val (.int gd), .val (.int fq), .val (.int ms), .val (.int n), .val (.ref arr), .val (.int f0), .unset, .unset, .unset, .unset, .unset, .unset] [(.int f1)] h5 L5 1 4 (LawQ n0) := by
      intro f1 hf1
      refine Go.istore (pc' := 110) at_108 rfl (Ls' := #[.val (.int mq), .val (.int ga), .val (.int gb), .val (.int gc), .val (.int gd), .val (.int fq), .val (.int ms), .val (.int n), .val (.ref arr), .val (.int f0), .val (.int f1), .unset, .unset, .unset, .unset, .unset]) rfl ?_
      have J143 : ∀ f2 : Int32, own_fl f2 (2 < n.toInt ∧ ¬ v2.toInt = v0.toInt ∧ ¬ v2.toInt = v1.toInt) → Go Z l room_1 code maxLocals x.cls ret x.name 143 #[.val (.int mq), .val (.int ga), .val (.int gb), .val (.int gc), .val (.int gd), .val (.int fq), .val (.int ms), .val (.int n), .val (.ref arr), .val (.int f0), .val (.int f1), .unset, .unset, .unset, .unset, .unset] [(.int f2)] h5 L5 1 4 (LawQ n0) := by
        intro f2 hf2
        refine Go.istore (pc' := 145) at_143 rfl (Ls' := #[.val (.int mq), .val (.int ga), .val (.int gb), .val (.int gc), .val (.int gd), .val (.int fq), .val (.int ms), .val (.int n), .val (.ref arr), .val (.int f0), .val (.int f1), .val (.int f2), .unset, .unset, .unset, .unset]) rfl ?_
        have J189 : ∀ f3 : Int32, own_fl f3 (3 < n.toInt ∧ ¬ v3.toInt = v0.toInt ∧ ¬ v3.toInt = v1.toInt ∧ ¬ v3.toInt = v2.toInt) → Go Z l room_1 code maxLocals x.cls ret x.name 189 #[.val (.int mq), .val (.int ga), .val (.int gb), .val (.int gc), .val (.int gd), .val (.int fq), .val (.int ms), .val (.int n), .val (.ref arr), .val (.int f0), .val (.int f1), .val (.int f2), .unset, .unset, .unset, .unset] [(.int f3)] h5 L5 1 4 (LawQ n0) := by
          intro f3 hf3
          refine Go.istore (pc' := 191) at_189 rfl (Ls' := #[.val (.int mq), .val (.int ga), .val (.int gb), .val (.int gc), .val (.int gd), .val (.int fq), .val (.int ms), .val (.int n), .val (.ref arr), .val (.int f0), .val (.int f1), .val (.int f2), .val (.int f3), .unset, .unset, .unset]) rfl ?_
          refine Go.newO (pc' := 194) (k' := 2) (n' := 10) at_191 rfl (hw _ w2) (hw _ w3) (hw _ w4) (by decide) (by decide) rfl rfl ?_
          intro h6 obj ha_obj X6 E_obj D6
          have ne_arr_obj : arr ≠ obj := Nat.ne_of_lt (by rw [ha_obj]; exact A_arr.lt)
          have gn_obj : n0 ≤ obj := by rw [ha_obj]; exact sz0
          replace sz0 : n0 ≤ h6.size := Nat.le_trans sz0 X6.1
          replace A_arr := A_arr.ext X6
          have F_obj_highestTaken : Fld Z h6 obj "com/example/even_keel/evenkeel/plan/MemberNames" "highestTaken" "I" (.int (0 : Int32)) := D6 (Or.inl (hw _ w12)) (ty := .int) (by decide)
          have F_obj_others : Fld Z h6 obj "com/example/even_keel/evenkeel/plan/MemberNames" "others" "Ljava/util/Set;" .null := D6 (Or.inr (hw _ w52)) (ty := (.object "java/util/Set")) (by decide)
          have F_obj_mostNumber : Fld Z h6 obj "com/example/even_keel/evenkeel/plan/MemberNames" "mostNumber" "I" (.int (0 : Int32)) := D6 (Or.inr (hw _ w54)) (ty := .int) (by decide)
          have F_obj_numbers : Fld Z h6 obj "com/example/even_keel/evenkeel/plan/MemberNames" "numbers" "[Z" .null := D6 (Or.inr (hw _ w57)) (ty := (.array .boolean)) (by decide)
          have F_obj_numbersTaken : Fld Z h6 obj "com/example/even_keel/evenkeel/plan/MemberNames" "numbersTaken" "I" (.int (0 : Int32)) := D6 (Or.inl (hw _ w64)) (ty := .int) (by decide)
          refine Go.dup (pc' := 195) at_194 rfl rfl ?_
          refine Go.iload (pc' := 197) at_195 rfl rfl ?_
          refine Go.callI (pc' := 200) (W := 1) (a := obj) (argsL := [(.int ms)]) (rest := [(.ref obj)]) (k' := 5) (n' := 1043) at_197 rfl rfl (hw _ w5) (hw _ w6) (hw _ w4) (hw _ w7) (by decide) (c_init hw sz0 obj ms Mn hM hMn gn_obj E_obj F_obj_mostNumber F_obj_numbers F_obj_numbersTaken F_obj_highestTaken F_obj_others) (by decide) (by decide) (by decide) (by decide) rfl rfl rfl pd__28I_29V rfl rfl (Nat.le_of_eq rfl) ?_
          intro v7 h7 P7 L7 NL7 hq7
          obtain ⟨nb, rfl, ge_nb, N7, K7, E_obj_7, F_obj_numbers_7, F_obj_numbersTaken_7, F_obj_highestTaken_7, A_nb_7⟩ := hq7
          dsimp only [Option.toList, List.cons_append, List.nil_append]
          have ne_arr_nb : arr ≠ nb := Nat.ne_of_lt (Nat.lt_of_lt_of_le A_arr.lt ge_nb)
          have ne_obj_nb : obj ≠ nb := Nat.ne_of_lt (Nat.lt_of_lt_of_le E_obj.lt ge_nb)
          have gn_nb : n0 ≤ nb := Nat.le_trans sz0 ge_nb
          replace N0 := NL7 _ N0 N7
          replace sz0 : n0 ≤ h7.size := Nat.le_trans sz0 K7.1
          clear E_obj
          clear F_obj_highestTaken
          clear F_obj_others
          clear F_obj_mostNumber
          clear F_obj_numbers
          clear F_obj_numbersTaken
          replace A_arr := A_arr.keep K7 (ninS ne_arr_obj nin0)
          have E_obj := E_obj_7; clear E_obj_7
          have F_obj_numbers := F_obj_numbers_7; clear F_obj_numbers_7
          have F_obj_numbersTaken := F_obj_numbersTaken_7; clear F_obj_numbersTaken_7
          have F_obj_highestTaken := F_obj_highestTaken_7; clear F_obj_highestTaken_7
          have A_nb := A_nb_7; clear A_nb_7
          refine Go.astore (pc' := 202) at_200 rfl rfl (Ls' := #[.val (.int mq), .val (.int ga), .val (.int gb), .val (.int gc), .val (.int gd), .val (.int fq), .val (.int ms), .val (.int n), .val (.ref arr), .val (.int f0), .val (.int f1), .val (.int f2), .val (.int f3), .val (.ref obj), .unset, .unset]) rfl ?_
          have T273 : ∀ (h : Heap) (L : List Loc) (T : List Nat) (ct ht : Int32), own_tk j0 j1 j2 j3 n 4 T ct ht → Fr n0 L → n0 ≤ h.size → Exa Z h obj "com/example/even_keel/evenkeel/plan/MemberNames" → Fld Z h obj "com/example/even_keel/evenkeel/plan/MemberNames" "numbers" "[Z" (.ref nb) → Fld Z h obj "com/example/even_keel/evenkeel/plan/MemberNames" "numbersTaken" "I" (.int ct) → Fld Z h obj "com/example/even_keel/evenkeel/plan/MemberNames" "highestTaken" "I" (.int ht) → Al Z h nb .boolean (own_bits (Mn + 1) T) → Al Z h arr .int [(.int v0), (.int v1), (.int v2), (.int v3)] → Go Z l room_1 code maxLocals x.cls ret x.name 273 #[.val (.int mq), .val (.int ga), .val (.int gb), .val (.int gc), .val (.int gd), .val (.int fq), .val (.int ms), .val (.int n), .val (.ref arr), .val (.int f0), .val (.int f1), .val (.int f2), .val (.int f3), .val (.ref obj), .val (.int ct), .unset] [] h L 5 1043 (LawQ n0) := by
            intro h L T ct ht hT N0 sz0 E_obj F_obj_numbers F_obj_numbersTaken F_obj_highestTaken A_nb A_arr
            clear hf0 hf1 hf2 hf3
            obtain ⟨t1, t2, t3, t4, t5⟩ := hT
            rcases t5 with ⟨rfl, hneg⟩ | ⟨last, tl, hl, tmax⟩
            · have hct : ct.toInt = ((0 : Nat) : Int) := t2
              have hneg' : ht.toInt < 0 := by omega
              refine Go.aload (pc' := 275) at_273 rfl rfl rfl ?_
              refine Go.callV (pc' := 278) (W := 0) (a := obj) (argsL := []) (rest := []) (k' := 6) (n' := 1047) at_275 rfl (hw _ w69) (hw _ w70) (nf_sel (hw _ w72)) (hw _ w72) (hw _ w71) (hw _ w4) (hw _ w73) E_obj (by decide) (c_nine hw sz0 obj nb ct ht [] Mn 0 hct (by decide) E_obj F_obj_numbers F_obj_numbersTaken F_obj_highestTaken A_nb hneg') (by decide) (by decide) (by decide) (by decide) rfl rfl rfl pd__28_29_5bI rfl rfl (Nat.le_of_eq rfl) ?_
              intro v8 h8 P8 L8 NL8 hq8
              obtain ⟨res, rfl, ge_res, N8, K8, A_res_8⟩ := hq8
              dsimp only [Option.toList, List.cons_append, List.nil_append]
              have ne_arr_res : arr ≠ res := Nat.ne_of_lt (Nat.lt_of_lt_of_le A_arr.lt ge_res)
              have ne_nb_res : nb ≠ res := Nat.ne_of_lt (Nat.lt_of_lt_of_le A_nb.lt ge_res)
              have ne_obj_res : obj ≠ res := Nat.ne_of_lt (Nat.lt_of_lt_of_le E_obj.lt ge_res)
              have gn_res : n0 ≤ res := Nat.le_trans sz0 ge_res
              replace N0 := NL8 _ N0 N8
              replace sz0 : n0 ≤ h8.size := Nat.le_trans sz0 K8.1
              replace E_obj := E_obj.keep K8
              replace F_obj_highestTaken := F_obj_highestTaken.keep K8 nin0
              replace F_obj_numbers := F_obj_numbers.keep K8 nin0
              replace F_obj_numbersTaken := F_obj_numbersTaken.keep K8 nin0
              replace A_arr := A_arr.keep K8 nin0
              replace A_nb := A_nb.keep K8 nin0
              have A_res := A_res_8; clear A_res_8
              refine Go.astore (pc' := 280) at_278 rfl rfl (Ls' := #[.val (.int mq), .val (.int ga), .val (.int gb), .val (.int gc), .val (.int gd), .val (.int fq), .val (.int ms), .val (.int n), .val (.ref arr), .val (.int f0), .val (.int f1), .val (.int f2), .val (.int f3), .val (.ref obj), .val (.int ct), .val (.ref res)]) rfl ?_
              refine Go.aload (pc' := 282) at_280 rfl rfl rfl ?_
              refine Go.arraylength (pc' := 283) at_282 rfl A_res (z := (0 : Int32)) rfl ?_
              refine Go.iload (pc' := 285) at_283 rfl rfl ?_
              refine Go.icmpT (pc' := 290) (X := (0 : Int)) (Y := ct.toInt) at_285 (by decide) (by decide) rfl (by omega : (0 : Int) = ct.toInt) ?_
              refine Go.aload (pc' := 292) at_290 rfl rfl rfl ?_
              refine Go.iconst (pc' := 293) at_292 rfl (z := (0 : Int32)) (by decide) ?_
              refine Go.iload (pc' := 295) at_293 rfl rfl ?_
              refine Go.aload (pc' := 297) at_295 rfl rfl rfl ?_
              refine Go.iload (pc' := 299) at_297 rfl rfl ?_
              refine Go.callS0 (pc' := 302) (W := 0) (argsL := [(.ref res), (.int (0 : Int32)), (.int ms), (.ref arr), (.int n)]) (rest := []) (v0 := some (.int (1 : Int32))) (st2 := [(.int (1 : Int32))]) at_299 rfl (hw _ w74) (hw _ w75) (hw _ w76) (hw _ w77) (by decide) (c_out0 hw res arr ms n (0 : Int32) v0 v1 v2 v3 ([] : List Int32) A_res A_arr rfl (by decide)) (by decide) (by decide) rfl rfl rfl (by decide) (by decide) rfl pd__28_5bIII_5bII_29Z rfl rfl (Nat.le_of_eq rfl) ?_
              refine Go.ifF (pc' := 305) (X := (1 : Int)) at_302 rfl (by decide) (by decide : ¬ (1 : Int) = 0) ?_
              refine Go.aload (pc' := 307) at_305 rfl rfl rfl ?_
              refine Go.iconst (pc' := 308) at_307 rfl (z := (1 : Int32)) (by decide) ?_
              refine Go.iload (pc' := 310) at_308 rfl rfl ?_
              refine Go.aload (pc' := 312) at_310 rfl rfl rfl ?_
              refine Go.iload (pc' := 314) at_312 rfl rfl ?_
              refine Go.callS0 (pc' := 317) (W := 0) (argsL := [(.ref res), (.int (1 : Int32)), (.int ms), (.ref arr), (.int n)]) (rest := []) (v0 := some (.int (1 : Int32))) (st2 := [(.int (1 : Int32))]) at_314 rfl (hw _ w74) (hw _ w75) (hw _ w76) (hw _ w77) (by decide) (c_out1 hw res arr ms n (0 : Int32) v0 v1 v2 v3 ([] : List Int32) A_res A_arr rfl (by decide)) (by decide) (by decide) rfl rfl rfl (by decide) (by decide) rfl pd__28_5bIII_5bII_29Z rfl rfl (Nat.le_of_eq rfl) ?_
              refine Go.ifF (pc' := 320) (X := (1 : Int)) at_317 rfl (by decide) (by decide : ¬ (1 : Int) = 0) ?_
              refine Go.aload (pc' := 322) at_320 rfl rfl rfl ?_
              refine Go.iconst (pc' := 323) at_322 rfl (z := (2 : Int32)) (by decide) ?_
              refine Go.iload (pc' := 325) at_323 rfl rfl ?_
              refine Go.aload (pc' := 327) at_325 rfl rfl rfl ?_
              refine Go.iload (pc' := 329) at_327 rfl rfl ?_
              refine Go.callS0 (pc' := 332) (W := 0) (argsL := [(.ref res), (.int (2 : Int32)), (.int ms), (.ref arr), (.int n)]) (rest := []) (v0 := some (.int (1 : Int32))) (st2 := [(.int (1 : Int32))]) at_329 rfl (hw _ w74) (hw _ w75) (hw _ w76) (hw _ w77) (by decide) (c_out2 hw res arr ms n (0 : Int32) v0 v1 v2 v3 ([] : List Int32) A_res A_arr rfl (by decide)) (by decide) (by decide) rfl rfl rfl (by decide) (by decide) rfl pd__28_5bIII_5bII_29Z rfl rfl (Nat.le_of_eq rfl) ?_
              refine Go.ifF (pc' := 335) (X := (1 : Int)) at_332 rfl (by decide) (by decide : ¬ (1 : Int) = 0) ?_
              refine Go.aload (pc' := 337) at_335 rfl rfl rfl ?_
              refine Go.iconst (pc' := 338) at_337 rfl (z := (3 : Int32)) (by decide) ?_
              refine Go.iload (pc' := 340) at_338 rfl rfl ?_
              refine Go.aload (pc' := 342) at_340 rfl rfl rfl ?_
              refine Go.iload (pc' := 344) at_342 rfl rfl ?_
              refine Go.callS0 (pc' := 347) (W := 0) (argsL := [(.ref res), (.int (3 : Int32)), (.int ms), (.ref arr), (.int n)]) (rest := []) (v0 := some (.int (1 : Int32))) (st2 := [(.int (1 : Int32))]) at_344 rfl (hw _ w74) (hw _ w75) (hw _ w76) (hw _ w77) (by decide) (c_out3 hw res arr ms n (0 : Int32) v0 v1 v2 v3 ([] : List Int32) A_res A_arr rfl (by decide)) (by decide) (by decide) rfl rfl rfl (by decide) (by decide) rfl pd__28_5bIII_5bII_29Z rfl rfl (Nat.le_of_eq rfl) ?_
              refine Go.ifF (pc' := 350) (X := (1 : Int)) at_347 rfl (by decide) (by decide : ¬ (1 : Int) = 0) ?_
              refine Go.iconst (pc' := 351) at_350 rfl (z := (1 : Int32)) (by decide) ?_
              refine Go.goto (pc' := 355) at_351 (by decide) ?_
              refine Go.retZ at_355 rfl (by decide) (by decide) (by decide) ?_
              exact ⟨rfl, N0⟩
            · have hlM : last ≤ Mn := by have := t4 last tl; omega
              have hgl := own_got_all T last (by omega) t1 tmax
              have hsrt := own_got_sorted T last (by omega)
              have hmem : ∀ x ∈ own_got T last last, x ∈ T := fun x hx => by simpa using (List.mem_filter.mp hx).2
              refine Go.aload (pc' := 275) at_273 rfl rfl rfl ?_
              refine Go.callV (pc' := 278) (W := 0) (a := obj) (argsL := []) (rest := []) (k' := 6) (n' := 1047) at_275 rfl (hw _ w69) (hw _ w70) (nf_sel (hw _ w72)) (hw _ w72) (hw _ w71) (hw _ w4) (hw _ w73) E_obj (by decide) (c_nino hw sz0 obj nb ct ht T Mn T.length last t2 (by omega) hl hlM hMn hgl E_obj F_obj_numbers F_obj_numbersTaken F_obj_highestTaken A_nb) (by decide) (by decide) (by decide) (by decide) rfl rfl rfl pd__28_29_5bI rfl rfl (Nat.le_of_eq rfl) ?_
              intro v9 h9 P9 L9 NL9 hq9
              obtain ⟨res, rfl, ge_res, N9, K9, A_res_9⟩ := hq9
              dsimp only [Option.toList, List.cons_append, List.nil_append]
              have ne_arr_res : arr ≠ res := Nat.ne_of_lt (Nat.lt_of_lt_of_le A_arr.lt ge_res)
              have ne_nb_res : nb ≠ res := Nat.ne_of_lt (Nat.lt_of_lt_of_le A_nb.lt ge_res)
              have ne_obj_res : obj ≠ res := Nat.ne_of_lt (Nat.lt_of_lt_of_le E_obj.lt ge_res)
              have gn_res : n0 ≤ res := Nat.le_trans sz0 ge_res
              replace N0 := NL9 _ N0 N9
              replace sz0 : n0 ≤ h9.size := Nat.le_trans sz0 K9.1
              replace E_obj := E_obj.keep K9
              replace F_obj_highestTaken := F_obj_highestTaken.keep K9 nin0
              replace F_obj_numbers := F_obj_numbers.keep K9 nin0
              replace F_obj_numbersTaken := F_obj_numbersTaken.keep K9 nin0
              replace A_arr := A_arr.keep K9 nin0
              replace A_nb := A_nb.keep K9 nin0
              have A_res := A_res_9; clear A_res_9
              generalize own_got T last last = G at *
              rcases own_len4 G (by omega) with rfl | ⟨g0, rfl⟩ | ⟨g0, g1, rfl⟩ | ⟨g0, g1, g2, rfl⟩ | ⟨g0, g1, g2, g3, rfl⟩
              · replace hgl : 0 = T.length := hgl
                have := List.length_pos_of_mem tl
                omega
              · replace hgl : 1 = T.length := hgl
                obtain ⟨b0, u0, i0⟩ := own_in_of hMn hj0 hj1 hj2 hj3 hjM0 hjM1 hjM2 hjM3 (t4 g0 (hmem g0 (by simp)))
                refine Go.astore (pc' := 280) at_278 rfl rfl (Ls' := #[.val (.int mq), .val (.int ga), .val (.int gb), .val (.int gc), .val (.int gd), .val (.int fq), .val (.int ms), .val (.int n), .val (.ref arr), .val (.int f0), .val (.int f1), .val (.int f2), .val (.int f3), .val (.ref obj), .val (.int ct), .val (.ref res)]) rfl ?_
                refine Go.aload (pc' := 282) at_280 rfl rfl rfl ?_
                refine Go.arraylength (pc' := 283) at_282 rfl A_res (z := (1 : Int32)) rfl ?_
                refine Go.iload (pc' := 285) at_283 rfl rfl ?_
                refine Go.icmpT (pc' := 290) (X := (1 : Int)) (Y := ct.toInt) at_285 (by decide) (by decide) rfl (by omega : (1 : Int) = ct.toInt) ?_
                refine Go.aload (pc' := 292) at_290 rfl rfl rfl ?_
                refine Go.iconst (pc' := 293) at_292 rfl (z := (0 : Int32)) (by decide) ?_
                refine Go.iload (pc' := 295) at_293 rfl rfl ?_
                refine Go.aload (pc' := 297) at_295 rfl rfl rfl ?_
                refine Go.iload (pc' := 299) at_297 rfl rfl ?_
                refine Go.callS0 (pc' := 302) (W := 0) (argsL := [(.ref res), (.int (0 : Int32)), (.int ms), (.ref arr), (.int n)]) (rest := []) (v0 := some (.int (1 : Int32))) (st2 := [(.int (1 : Int32))]) at_299 rfl (hw _ w74) (hw _ w75) (hw _ w76) (hw _ w77) (by decide) (c_ok0 hw res arr ms n (1 : Int32) (Int32.ofNat g0) v0 v1 v2 v3 ([Int32.ofNat g0] : List Int32) A_res A_arr rfl (by decide) rfl (by omega) (by omega) i0) (by decide) (by decide) rfl rfl rfl (by decide) (by decide) rfl pd__28_5bIII_5bII_29Z rfl rfl (Nat.le_of_eq rfl) ?_
                refine Go.ifF (pc' := 305) (X := (1 : Int)) at_302 rfl (by decide) (by decide : ¬ (1 : Int) = 0) ?_
                refine Go.aload (pc' := 307) at_305 rfl rfl rfl ?_
                refine Go.iconst (pc' := 308) at_307 rfl (z := (1 : Int32)) (by decide) ?_
                refine Go.iload (pc' := 310) at_308 rfl rfl ?_
                refine Go.aload (pc' := 312) at_310 rfl rfl rfl ?_
                refine Go.iload (pc' := 314) at_312 rfl rfl ?_
                refine Go.callS0 (pc' := 317) (W := 0) (argsL := [(.ref res), (.int (1 : Int32)), (.int ms), (.ref arr), (.int n)]) (rest := []) (v0 := some (.int (1 : Int32))) (st2 := [(.int (1 : Int32))]) at_314 rfl (hw _ w74) (hw _ w75) (hw _ w76) (hw _ w77) (by decide) (c_out1 hw res arr ms n (1 : Int32) v0 v1 v2 v3 ([Int32.ofNat g0] : List Int32) A_res A_arr rfl (by decide)) (by decide) (by decide) rfl rfl rfl (by decide) (by decide) rfl pd__28_5bIII_5bII_29Z rfl rfl (Nat.le_of_eq rfl) ?_
                refine Go.ifF (pc' := 320) (X := (1 : Int)) at_317 rfl (by decide) (by decide : ¬ (1 : Int) = 0) ?_
                refine Go.aload (pc' := 322) at_320 rfl rfl rfl ?_
                refine Go.iconst (pc' := 323) at_322 rfl (z := (2 : Int32)) (by decide) ?_
                refine Go.iload (pc' := 325) at_323 rfl rfl ?_
                refine Go.aload (pc' := 327) at_325 rfl rfl rfl ?_
                refine Go.iload (pc' := 329) at_327 rfl rfl ?_
                refine Go.callS0 (pc' := 332) (W := 0) (argsL := [(.ref res), (.int (2 : Int32)), (.int ms), (.ref arr), (.int n)]) (rest := []) (v0 := some (.int (1 : Int32))) (st2 := [(.int (1 : Int32))]) at_329 rfl (hw _ w74) (hw _ w75) (hw _ w76) (hw _ w77) (by decide) (c_out2 hw res arr ms n (1 : Int32) v0 v1 v2 v3 ([Int32.ofNat g0] : List Int32) A_res A_arr rfl (by decide)) (by decide) (by decide) rfl rfl rfl (by decide) (by decide) rfl pd__28_5bIII_5bII_29Z rfl rfl (Nat.le_of_eq rfl) ?_
                refine Go.ifF (pc' := 335) (X := (1 : Int)) at_332 rfl (by decide) (by decide : ¬ (1 : Int) = 0) ?_
                refine Go.aload (pc' := 337) at_335 rfl rfl rfl ?_
                refine Go.iconst (pc' := 338) at_337 rfl (z := (3 : Int32)) (by decide) ?_
                refine Go.iload (pc' := 340) at_338 rfl rfl ?_
                refine Go.aload (pc' := 342) at_340 rfl rfl rfl ?_
                refine Go.iload (pc' := 344) at_342 rfl rfl ?_
                refine Go.callS0 (pc' := 347) (W := 0) (argsL := [(.ref res), (.int (3 : Int32)), (.int ms), (.ref arr), (.int n)]) (rest := []) (v0 := some (.int (1 : Int32))) (st2 := [(.int (1 : Int32))]) at_344 rfl (hw _ w74) (hw _ w75) (hw _ w76) (hw _ w77) (by decide) (c_out3 hw res arr ms n (1 : Int32) v0 v1 v2 v3 ([Int32.ofNat g0] : List Int32) A_res A_arr rfl (by decide)) (by decide) (by decide) rfl rfl rfl (by decide) (by decide) rfl pd__28_5bIII_5bII_29Z rfl rfl (Nat.le_of_eq rfl) ?_
                refine Go.ifF (pc' := 350) (X := (1 : Int)) at_347 rfl (by decide) (by decide : ¬ (1 : Int) = 0) ?_
                refine Go.iconst (pc' := 351) at_350 rfl (z := (1 : Int32)) (by decide) ?_
                refine Go.goto (pc' := 355) at_351 (by decide) ?_
                refine Go.retZ at_355 rfl (by decide) (by decide) (by decide) ?_
                exact ⟨rfl, N0⟩
              · replace hgl : 2 = T.length := hgl
                obtain ⟨b0, u0, i0⟩ := own_in_of hMn hj0 hj1 hj2 hj3 hjM0 hjM1 hjM2 hjM3 (t4 g0 (hmem g0 (by simp)))
                obtain ⟨b1, u1, i1⟩ := own_in_of hMn hj0 hj1 hj2 hj3 hjM0 hjM1 hjM2 hjM3 (t4 g1 (hmem g1 (by simp)))
                have s1 : own_key g0 < own_key g1 := by simp [List.pairwise_cons] at hsrt; omega
                refine Go.astore (pc' := 280) at_278 rfl rfl (Ls' := #[.val (.int mq), .val (.int ga), .val (.int gb), .val (.int gc), .val (.int gd), .val (.int fq), .val (.int ms), .val (.int n), .val (.ref arr), .val (.int f0), .val (.int f1), .val (.int f2), .val (.int f3), .val (.ref obj), .val (.int ct), .val (.ref res)]) rfl ?_
                refine Go.aload (pc' := 282) at_280 rfl rfl rfl ?_
                refine Go.arraylength (pc' := 283) at_282 rfl A_res (z := (2 : Int32)) rfl ?_
                refine Go.iload (pc' := 285) at_283 rfl rfl ?_
                refine Go.icmpT (pc' := 290) (X := (2 : Int)) (Y := ct.toInt) at_285 (by decide) (by decide) rfl (by omega : (2 : Int) = ct.toInt) ?_
                refine Go.aload (pc' := 292) at_290 rfl rfl rfl ?_
                refine Go.iconst (pc' := 293) at_292 rfl (z := (0 : Int32)) (by decide) ?_
                refine Go.iload (pc' := 295) at_293 rfl rfl ?_
                refine Go.aload (pc' := 297) at_295 rfl rfl rfl ?_
                refine Go.iload (pc' := 299) at_297 rfl rfl ?_
                refine Go.callS0 (pc' := 302) (W := 0) (argsL := [(.ref res), (.int (0 : Int32)), (.int ms), (.ref arr), (.int n)]) (rest := []) (v0 := some (.int (1 : Int32))) (st2 := [(.int (1 : Int32))]) at_299 rfl (hw _ w74) (hw _ w75) (hw _ w76) (hw _ w77) (by decide) (c_ok0 hw res arr ms n (2 : Int32) (Int32.ofNat g0) v0 v1 v2 v3 ([Int32.ofNat g0, Int32.ofNat g1] : List Int32) A_res A_arr rfl (by decide) rfl (by omega) (by omega) i0) (by decide) (by decide) rfl rfl rfl (by decide) (by decide) rfl pd__28_5bIII_5bII_29Z rfl rfl (Nat.le_of_eq rfl) ?_
                refine Go.ifF (pc' := 305) (X := (1 : Int)) at_302 rfl (by decide) (by decide : ¬ (1 : Int) = 0) ?_
                refine Go.aload (pc' := 307) at_305 rfl rfl rfl ?_
                refine Go.iconst (pc' := 308) at_307 rfl (z := (1 : Int32)) (by decide) ?_
                refine Go.iload (pc' := 310) at_308 rfl rfl ?_
                refine Go.aload (pc' := 312) at_310 rfl rfl rfl ?_
                refine Go.iload (pc' := 314) at_312 rfl rfl ?_
                refine Go.callS0 (pc' := 317) (W := 0) (argsL := [(.ref res), (.int (1 : Int32)), (.int ms), (.ref arr), (.int n)]) (rest := []) (v0 := some (.int (1 : Int32))) (st2 := [(.int (1 : Int32))]) at_314 rfl (hw _ w74) (hw _ w75) (hw _ w76) (hw _ w77) (by decide) (c_ok1 hw res arr ms n (2 : Int32) (Int32.ofNat g1) (Int32.ofNat g0) v0 v1 v2 v3 ([Int32.ofNat g0, Int32.ofNat g1] : List Int32) A_res A_arr rfl (by decide) rfl (by omega) (by omega) i1 rfl (by omega) (by omega) (by rw [own_fkey g0 (by omega), own_fkey g1 (by omega)]; omega)) (by decide) (by decide) rfl rfl rfl (by decide) (by decide) rfl pd__28_5bIII_5bII_29Z rfl rfl (Nat.le_of_eq rfl) ?_
                refine Go.ifF (pc' := 320) (X := (1 : Int)) at_317 rfl (by decide) (by decide : ¬ (1 : Int) = 0) ?_
                refine Go.aload (pc' := 322) at_320 rfl rfl rfl ?_
                refine Go.iconst (pc' := 323) at_322 rfl (z := (2 : Int32)) (by decide) ?_
                refine Go.iload (pc' := 325) at_323 rfl rfl ?_
                refine Go.aload (pc' := 327) at_325 rfl rfl rfl ?_
                refine Go.iload (pc' := 329) at_327 rfl rfl ?_
                refine Go.callS0 (pc' := 332) (W := 0) (argsL := [(.ref res), (.int (2 : Int32)), (.int ms), (.ref arr), (.int n)]) (rest := []) (v0 := some (.int (1 : Int32))) (st2 := [(.int (1 : Int32))]) at_329 rfl (hw _ w74) (hw _ w75) (hw _ w76) (hw _ w77) (by decide) (c_out2 hw res arr ms n (2 : Int32) v0 v1 v2 v3 ([Int32.ofNat g0, Int32.ofNat g1] : List Int32) A_res A_arr rfl (by decide)) (by decide) (by decide) rfl rfl rfl (by decide) (by decide) rfl pd__28_5bIII_5bII_29Z rfl rfl (Nat.le_of_eq rfl) ?_
                refine Go.ifF (pc' := 335) (X := (1 : Int)) at_332 rfl (by decide) (by decide : ¬ (1 : Int) = 0) ?_
                refine Go.aload (pc' := 337) at_335 rfl rfl rfl ?_
                refine Go.iconst (pc' := 338) at_337 rfl (z := (3 : Int32)) (by decide) ?_
                refine Go.iload (pc' := 340) at_338 rfl rfl ?_
                refine Go.aload (pc' := 342) at_340 rfl rfl rfl ?_
                refine Go.iload (pc' := 344) at_342 rfl rfl ?_
                refine Go.callS0 (pc' := 347) (W := 0) (argsL := [(.ref res), (.int (3 : Int32)), (.int ms), (.ref arr), (.int n)]) (rest := []) (v0 := some (.int (1 : Int32))) (st2 := [(.int (1 : Int32))]) at_344 rfl (hw _ w74) (hw _ w75) (hw _ w76) (hw _ w77) (by decide) (c_out3 hw res arr ms n (2 : Int32) v0 v1 v2 v3 ([Int32.ofNat g0, Int32.ofNat g1] : List Int32) A_res A_arr rfl (by decide)) (by decide) (by decide) rfl rfl rfl (by decide) (by decide) rfl pd__28_5bIII_5bII_29Z rfl rfl (Nat.le_of_eq rfl) ?_
                refine Go.ifF (pc' := 350) (X := (1 : Int)) at_347 rfl (by decide) (by decide : ¬ (1 : Int) = 0) ?_
                refine Go.iconst (pc' := 351) at_350 rfl (z := (1 : Int32)) (by decide) ?_
                refine Go.goto (pc' := 355) at_351 (by decide) ?_
                refine Go.retZ at_355 rfl (by decide) (by decide) (by decide) ?_
                exact ⟨rfl, N0⟩
              · replace hgl : 3 = T.length := hgl
                obtain ⟨b0, u0, i0⟩ := own_in_of hMn hj0 hj1 hj2 hj3 hjM0 hjM1 hjM2 hjM3 (t4 g0 (hmem g0 (by simp)))
                obtain ⟨b1, u1, i1⟩ := own_in_of hMn hj0 hj1 hj2 hj3 hjM0 hjM1 hjM2 hjM3 (t4 g1 (hmem g1 (by simp)))
                obtain ⟨b2, u2, i2⟩ := own_in_of hMn hj0 hj1 hj2 hj3 hjM0 hjM1 hjM2 hjM3 (t4 g2 (hmem g2 (by simp)))
                have s1 : own_key g0 < own_key g1 := by simp [List.pairwise_cons] at hsrt; omega
                have s2 : own_key g1 < own_key g2 := by simp [List.pairwise_cons] at hsrt; omega
                refine Go.astore (pc' := 280) at_278 rfl rfl (Ls' := #[.val (.int mq), .val (.int ga), .val (.int gb), .val (.int gc), .val (.int gd), .val (.int fq), .val (.int ms), .val (.int n), .val (.ref arr), .val (.int f0), .val (.int f1), .val (.int f2), .val (.int f3), .val (.ref obj), .val (.int ct), .val (.ref res)]) rfl ?_
                refine Go.aload (pc' := 282) at_280 rfl rfl rfl ?_
                refine Go.arraylength (pc' := 283) at_282 rfl A_res (z := (3 : Int32)) rfl ?_
                refine Go.iload (pc' := 285) at_283 rfl rfl ?_
                refine Go.icmpT (pc' := 290) (X := (3 : Int)) (Y := ct.toInt) at_285 (by decide) (by decide) rfl (by omega : (3 : Int) = ct.toInt) ?_
                refine Go.aload (pc' := 292) at_290 rfl rfl rfl ?_
                refine Go.iconst (pc' := 293) at_292 rfl (z := (0 : Int32)) (by decide) ?_
                refine Go.iload (pc' := 295) at_293 rfl rfl ?_
                refine Go.aload (pc' := 297) at_295 rfl rfl rfl ?_
                refine Go.iload (pc' := 299) at_297 rfl rfl ?_
                refine Go.callS0 (pc' := 302) (W := 0) (argsL := [(.ref res), (.int (0 : Int32)), (.int ms), (.ref arr), (.int n)]) (rest := []) (v0 := some (.int (1 : Int32))) (st2 := [(.int (1 : Int32))]) at_299 rfl (hw _ w74) (hw _ w75) (hw _ w76) (hw _ w77) (by decide) (c_ok0 hw res arr ms n (3 : Int32) (Int32.ofNat g0) v0 v1 v2 v3 ([Int32.ofNat g0, Int32.ofNat g1, Int32.ofNat g2] : List Int32) A_res A_arr rfl (by decide) rfl (by omega) (by omega) i0) (by decide) (by decide) rfl rfl rfl (by decide) (by decide) rfl pd__28_5bIII_5bII_29Z rfl rfl (Nat.le_of_eq rfl) ?_
                refine Go.ifF (pc' := 305) (X := (1 : Int)) at_302 rfl (by decide) (by decide : ¬ (1 : Int) = 0) ?_
                refine Go.aload (pc' := 307) at_305 rfl rfl rfl ?_
                refine Go.iconst (pc' := 308) at_307 rfl (z := (1 : Int32)) (by decide) ?_
                refine Go.iload (pc' := 310) at_308 rfl rfl ?_
                refine Go.aload (pc' := 312) at_310 rfl rfl rfl ?_
                refine Go.iload (pc' := 314) at_312 rfl rfl ?_
                refine Go.callS0 (pc' := 317) (W := 0) (argsL := [(.ref res), (.int (1 : Int32)), (.int ms), (.ref arr), (.int n)]) (rest := []) (v0 := some (.int (1 : Int32))) (st2 := [(.int (1 : Int32))]) at_314 rfl (hw _ w74) (hw _ w75) (hw _ w76) (hw _ w77) (by decide) (c_ok1 hw res arr ms n (3 : Int32) (Int32.ofNat g1) (Int32.ofNat g0) v0 v1 v2 v3 ([Int32.ofNat g0, Int32.ofNat g1, Int32.ofNat g2] : List Int32) A_res A_arr rfl (by decide) rfl (by omega) (by omega) i1 rfl (by omega) (by omega) (by rw [own_fkey g0 (by omega), own_fkey g1 (by omega)]; omega)) (by decide) (by decide) rfl rfl rfl (by decide) (by decide) rfl pd__28_5bIII_5bII_29Z rfl rfl (Nat.le_of_eq rfl) ?_
                refine Go.ifF (pc' := 320) (X := (1 : Int)) at_317 rfl (by decide) (by decide : ¬ (1 : Int) = 0) ?_
                refine Go.aload (pc' := 322) at_320 rfl rfl rfl ?_
                refine Go.iconst (pc' := 323) at_322 rfl (z := (2 : Int32)) (by decide) ?_
                refine Go.iload (pc' := 325) at_323 rfl rfl ?_
                refine Go.aload (pc' := 327) at_325 rfl rfl rfl ?_
                refine Go.iload (pc' := 329) at_327 rfl rfl ?_
                refine Go.callS0 (pc' := 332) (W := 0) (argsL := [(.ref res), (.int (2 : Int32)), (.int ms), (.ref arr), (.int n)]) (rest := []) (v0 := some (.int (1 : Int32))) (st2 := [(.int (1 : Int32))]) at_329 rfl (hw _ w74) (hw _ w75) (hw _ w76) (hw _ w77) (by decide) (c_ok2 hw res arr ms n (3 : Int32) (Int32.ofNat g2) (Int32.ofNat g1) v0 v1 v2 v3 ([Int32.ofNat g0, Int32.ofNat g1, Int32.ofNat g2] : List Int32) A_res A_arr rfl (by decide) rfl (by omega) (by omega) i2 rfl (by omega) (by omega) (by rw [own_fkey g1 (by omega), own_fkey g2 (by omega)]; omega)) (by decide) (by decide) rfl rfl rfl (by decide) (by decide) rfl pd__28_5bIII_5bII_29Z rfl rfl (Nat.le_of_eq rfl) ?_
                refine Go.ifF (pc' := 335) (X := (1 : Int)) at_332 rfl (by decide) (by decide : ¬ (1 : Int) = 0) ?_
                refine Go.aload (pc' := 337) at_335 rfl rfl rfl ?_
                refine Go.iconst (pc' := 338) at_337 rfl (z := (3 : Int32)) (by decide) ?_
                refine Go.iload (pc' := 340) at_338 rfl rfl ?_
                refine Go.aload (pc' := 342) at_340 rfl rfl rfl ?_
                refine Go.iload (pc' := 344) at_342 rfl rfl ?_
                refine Go.callS0 (pc' := 347) (W := 0) (argsL := [(.ref res), (.int (3 : Int32)), (.int ms), (.ref arr), (.int n)]) (rest := []) (v0 := some (.int (1 : Int32))) (st2 := [(.int (1 : Int32))]) at_344 rfl (hw _ w74) (hw _ w75) (hw _ w76) (hw _ w77) (by decide) (c_out3 hw res arr ms n (3 : Int32) v0 v1 v2 v3 ([Int32.ofNat g0, Int32.ofNat g1, Int32.ofNat g2] : List Int32) A_res A_arr rfl (by decide)) (by decide) (by decide) rfl rfl rfl (by decide) (by decide) rfl pd__28_5bIII_5bII_29Z rfl rfl (Nat.le_of_eq rfl) ?_
                refine Go.ifF (pc' := 350) (X := (1 : Int)) at_347 rfl (by decide) (by decide : ¬ (1 : Int) = 0) ?_
                refine Go.iconst (pc' := 351) at_350 rfl (z := (1 : Int32)) (by decide) ?_
                refine Go.goto (pc' := 355) at_351 (by decide) ?_
                refine Go.retZ at_355 rfl (by decide) (by decide) (by decide) ?_
                exact ⟨rfl, N0⟩
              · replace hgl : 4 = T.length := hgl
                obtain ⟨b0, u0, i0⟩ := own_in_of hMn hj0 hj1 hj2 hj3 hjM0 hjM1 hjM2 hjM3 (t4 g0 (hmem g0 (by simp)))
                obtain ⟨b1, u1, i1⟩ := own_in_of hMn hj0 hj1 hj2 hj3 hjM0 hjM1 hjM2 hjM3 (t4 g1 (hmem g1 (by simp)))
                obtain ⟨b2, u2, i2⟩ := own_in_of hMn hj0 hj1 hj2 hj3 hjM0 hjM1 hjM2 hjM3 (t4 g2 (hmem g2 (by simp)))
                obtain ⟨b3, u3, i3⟩ := own_in_of hMn hj0 hj1 hj2 hj3 hjM0 hjM1 hjM2 hjM3 (t4 g3 (hmem g3 (by simp)))
                have s1 : own_key g0 < own_key g1 := by simp [List.pairwise_cons] at hsrt; omega
                have s2 : own_key g1 < own_key g2 := by simp [List.pairwise_cons] at hsrt; omega
                have s3 : own_key g2 < own_key g3 := by simp [List.pairwise_cons] at hsrt; omega
                refine Go.astore (pc' := 280) at_278 rfl rfl (Ls' := #[.val (.int mq), .val (.int ga), .val (.int gb), .val (.int gc), .val (.int gd), .val (.int fq), .val (.int ms), .val (.int n), .val (.ref arr), .val (.int f0), .val (.int f1), .val (.int f2), .val (.int f3), .val (.ref obj), .val (.int ct), .val (.ref res)]) rfl ?_
                refine Go.aload (pc' := 282) at_280 rfl rfl rfl ?_
                refine Go.arraylength (pc' := 283) at_282 rfl A_res (z := (4 : Int32)) rfl ?_
                refine Go.iload (pc' := 285) at_283 rfl rfl ?_
                refine Go.icmpT (pc' := 290) (X := (4 : Int)) (Y := ct.toInt) at_285 (by decide) (by decide) rfl (by omega : (4 : Int) = ct.toInt) ?_
                refine Go.aload (pc' := 292) at_290 rfl rfl rfl ?_
                refine Go.iconst (pc' := 293) at_292 rfl (z := (0 : Int32)) (by decide) ?_
                refine Go.iload (pc' := 295) at_293 rfl rfl ?_
                refine Go.aload (pc' := 297) at_295 rfl rfl rfl ?_
                refine Go.iload (pc' := 299) at_297 rfl rfl ?_
                refine Go.callS0 (pc' := 302) (W := 0) (argsL := [(.ref res), (.int (0 : Int32)), (.int ms), (.ref arr), (.int n)]) (rest := []) (v0 := some (.int (1 : Int32))) (st2 := [(.int (1 : Int32))]) at_299 rfl (hw _ w74) (hw _ w75) (hw _ w76) (hw _ w77) (by decide) (c_ok0 hw res arr ms n (4 : Int32) (Int32.ofNat g0) v0 v1 v2 v3 ([Int32.ofNat g0, Int32.ofNat g1, Int32.ofNat g2, Int32.ofNat g3] : List Int32) A_res A_arr rfl (by decide) rfl (by omega) (by omega) i0) (by decide) (by decide) rfl rfl rfl (by decide) (by decide) rfl pd__28_5bIII_5bII_29Z rfl rfl (Nat.le_of_eq rfl) ?_
                refine Go.ifF (pc' := 305) (X := (1 : Int)) at_302 rfl (by decide) (by decide : ¬ (1 : Int) = 0) ?_
                refine Go.aload (pc' := 307) at_305 rfl rfl rfl ?_
                refine Go.iconst (pc' := 308) at_307 rfl (z := (1 : Int32)) (by decide) ?_
                refine Go.iload (pc' := 310) at_308 rfl rfl ?_
                refine Go.aload (pc' := 312) at_310 rfl rfl rfl ?_
                refine Go.iload (pc' := 314) at_312 rfl rfl ?_
                refine Go.callS0 (pc' := 317) (W := 0) (argsL := [(.ref res), (.int (1 : Int32)), (.int ms), (.ref arr), (.int n)]) (rest := []) (v0 := some (.int (1 : Int32))) (st2 := [(.int (1 : Int32))]) at_314 rfl (hw _ w74) (hw _ w75) (hw _ w76) (hw _ w77) (by decide) (c_ok1 hw res arr ms n (4 : Int32) (Int32.ofNat g1) (Int32.ofNat g0) v0 v1 v2 v3 ([Int32.ofNat g0, Int32.ofNat g1, Int32.ofNat g2, Int32.ofNat g3] : List Int32) A_res A_arr rfl (by decide) rfl (by omega) (by omega) i1 rfl (by omega) (by omega) (by rw [own_fkey g0 (by omega), own_fkey g1 (by omega)]; omega)) (by decide) (by decide) rfl rfl rfl (by decide) (by decide) rfl pd__28_5bIII_5bII_29Z rfl rfl (Nat.le_of_eq rfl) ?_
                refine Go.ifF (pc' := 320) (X := (1 : Int)) at_317 rfl (by decide) (by decide : ¬ (1 : Int) = 0) ?_
                refine Go.aload (pc' := 322) at_320 rfl rfl rfl ?_
                refine Go.iconst (pc' := 323) at_322 rfl (z := (2 : Int32)) (by decide) ?_
                refine Go.iload (pc' := 325) at_323 rfl rfl ?_
                refine Go.aload (pc' := 327) at_325 rfl rfl rfl ?_
                refine Go.iload (pc' := 329) at_327 rfl rfl ?_
                refine Go.callS0 (pc' := 332) (W := 0) (argsL := [(.ref res), (.int (2 : Int32)), (.int ms), (.ref arr), (.int n)]) (rest := []) (v0 := some (.int (1 : Int32))) (st2 := [(.int (1 : Int32))]) at_329 rfl (hw _ w74) (hw _ w75) (hw _ w76) (hw _ w77) (by decide) (c_ok2 hw res arr ms n (4 : Int32) (Int32.ofNat g2) (Int32.ofNat g1) v0 v1 v2 v3 ([Int32.ofNat g0, Int32.ofNat g1, Int32.ofNat g2, Int32.ofNat g3] : List Int32) A_res A_arr rfl (by decide) rfl (by omega) (by omega) i2 rfl (by omega) (by omega) (by rw [own_fkey g1 (by omega), own_fkey g2 (by omega)]; omega)) (by decide) (by decide) rfl rfl rfl (by decide) (by decide) rfl pd__28_5bIII_5bII_29Z rfl rfl (Nat.le_of_eq rfl) ?_
                refine Go.ifF (pc' := 335) (X := (1 : Int)) at_332 rfl (by decide) (by decide : ¬ (1 : Int) = 0) ?_
                refine Go.aload (pc' := 337) at_335 rfl rfl rfl ?_
                refine Go.iconst (pc' := 338) at_337 rfl (z := (3 : Int32)) (by decide) ?_
                refine Go.iload (pc' := 340) at_338 rfl rfl ?_
                refine Go.aload (pc' := 342) at_340 rfl rfl rfl ?_
                refine Go.iload (pc' := 344) at_342 rfl rfl ?_
                refine Go.callS0 (pc' := 347) (W := 0) (argsL := [(.ref res), (.int (3 : Int32)), (.int ms), (.ref arr), (.int n)]) (rest := []) (v0 := some (.int (1 : Int32))) (st2 := [(.int (1 : Int32))]) at_344 rfl (hw _ w74) (hw _ w75) (hw _ w76) (hw _ w77) (by decide) (c_ok3 hw res arr ms n (4 : Int32) (Int32.ofNat g3) (Int32.ofNat g2) v0 v1 v2 v3 ([Int32.ofNat g0, Int32.ofNat g1, Int32.ofNat g2, Int32.ofNat g3] : List Int32) A_res A_arr rfl (by decide) rfl (by omega) (by omega) i3 rfl (by omega) (by omega) (by rw [own_fkey g2 (by omega), own_fkey g3 (by omega)]; omega)) (by decide) (by decide) rfl rfl rfl (by decide) (by decide) rfl pd__28_5bIII_5bII_29Z rfl rfl (Nat.le_of_eq rfl) ?_
                refine Go.ifF (pc' := 350) (X := (1 : Int)) at_347 rfl (by decide) (by decide : ¬ (1 : Int) = 0) ?_
                refine Go.iconst (pc' := 351) at_350 rfl (z := (1 : Int32)) (by decide) ?_
                refine Go.goto (pc' := 355) at_351 (by decide) ?_
                refine Go.retZ at_355 rfl (by decide) (by decide) (by decide) ?_
                exact ⟨rfl, N0⟩
          have T256 : ∀ (h : Heap) (L : List Loc) (T : List Nat) (ct ht : Int32), own_tk j0 j1 j2 j3 n 3 T ct ht → Fr n0 L → n0 ≤ h.size → Exa Z h obj "com/example/even_keel/evenkeel/plan/MemberNames" → Fld Z h obj "com/example/even_keel/evenkeel/plan/MemberNames" "numbers" "[Z" (.ref nb) → Fld Z h obj "com/example/even_keel/evenkeel/plan/MemberNames" "numbersTaken" "I" (.int ct) → Fld Z h obj "com/example/even_keel/evenkeel/plan/MemberNames" "highestTaken" "I" (.int ht) → Al Z h nb .boolean (own_bits (Mn + 1) T) → Al Z h arr .int [(.int v0), (.int v1), (.int v2), (.int v3)] → Go Z l room_1 code maxLocals x.cls ret x.name 256 #[.val (.int mq), .val (.int ga), .val (.int gb), .val (.int gc), .val (.int gd), .val (.int fq), .val (.int ms), .val (.int n), .val (.ref arr), .val (.int f0), .val (.int f1), .val (.int f2), .val (.int f3), .val (.ref obj), .val (.int ct), .unset] [] h L 5 1043 (LawQ n0) := by
            intro h L T ct ht hT N0 sz0 E_obj F_obj_numbers F_obj_numbersTaken F_obj_highestTaken A_nb A_arr
            refine Go.iload (pc' := 258) at_256 rfl rfl ?_
            by_cases hc10 : f3.toInt = (0 : Int)
            · refine Go.ifT (pc' := 273) (X := f3.toInt) at_258 (by decide) rfl (hc10 : f3.toInt = 0) ?_
              exact T273 h L T ct ht (own_tk_no hT) N0 sz0 E_obj F_obj_numbers F_obj_numbersTaken F_obj_highestTaken A_nb A_arr
            · refine Go.ifF (pc' := 261) (X := f3.toInt) at_258 rfl rfl (hc10 : ¬ f3.toInt = 0) ?_
              refine Go.aload (pc' := 263) at_261 rfl rfl rfl ?_
              refine Go.aload (pc' := 265) at_263 rfl rfl rfl ?_
              refine Go.iconst (pc' := 266) at_265 rfl (z := (3 : Int32)) (by decide) ?_
              refine Go.iaload (pc' := 267) at_266 rfl (i := 3) (v := (.int v3)) A_arr (by decide) rfl ?_
              refine Go.callV (pc' := 270) (W := 0) (a := obj) (argsL := [(.int v3)]) (rest := []) (k' := 5) (n' := 1043) at_267 rfl (hw _ w58) (hw _ w59) (nf_sel (hw _ w61)) (hw _ w61) (hw _ w60) (hw _ w4) (hw _ w62) E_obj (by decide) (c_take hw sz0 obj nb v3 ct ht T Mn j3 hj3 hjM3 gn_obj gn_nb E_obj F_obj_numbers F_obj_numbersTaken F_obj_highestTaken A_nb) (by decide) (by decide) (by decide) (by decide) rfl rfl rfl pd__28I_29V rfl rfl (Nat.le_of_eq rfl) ?_
              intro v11 h11 P11 L11 NL11 hq11
              obtain ⟨rfl, N11, K11, E_obj_11, F_obj_numbers_11, F_obj_numbersTaken_11, F_obj_highestTaken_11, A_nb_11⟩ := hq11
              dsimp only [Option.toList, List.cons_append, List.nil_append]
              replace N0 := NL11 _ N0 N11
              replace sz0 : n0 ≤ h11.size := Nat.le_trans sz0 K11.1
              clear E_obj
              clear F_obj_highestTaken
              clear F_obj_numbers
              clear F_obj_numbersTaken
              replace A_arr := A_arr.keep K11 (ninS ne_arr_obj (ninS ne_arr_nb nin0))
              clear A_nb
              have E_obj := E_obj_11; clear E_obj_11
              have F_obj_numbers := F_obj_numbers_11; clear F_obj_numbers_11
              have F_obj_numbersTaken := F_obj_numbersTaken_11; clear F_obj_numbersTaken_11
              have F_obj_highestTaken := F_obj_highestTaken_11; clear F_obj_highestTaken_11
              have A_nb := A_nb_11; clear A_nb_11
              obtain ⟨v12, hv_v12⟩ : ∃ v : Int32, (ct + (1 : Int32)) = v := ⟨_, rfl⟩
              refine Go.iinc (pc' := 273) at_270 rfl rfl (z := v12) hv_v12 (Ls' := #[.val (.int mq), .val (.int ga), .val (.int gb), .val (.int gc), .val (.int gd), .val (.int fq), .val (.int ms), .val (.int n), .val (.ref arr), .val (.int f0), .val (.int f1), .val (.int f2), .val (.int f3), .val (.ref obj), .val (.int v12), .unset]) rfl ?_
              subst hv_v12
              have hP := own_fl_of hf3 (by assumption)
              exact T273 h11 L11 (j3 :: T) (ct + (1 : Int32)) (f_c_max ht v3) (own_tk_yes hT hj3 (by decide) (Or.inr (Or.inr (Or.inr (⟨by decide, by omega, rfl⟩)))) ⟨fun _ => by omega, fun _ => by omega, fun _ => by omega, fun q => absurd q (by decide)⟩) N0 sz0 E_obj F_obj_numbers F_obj_numbersTaken F_obj_highestTaken A_nb A_arr
          have T239 : ∀ (h : Heap) (L : List Loc) (T : List Nat) (ct ht : Int32), own_tk j0 j1 j2 j3 n 2 T ct ht → Fr n0 L → n0 ≤ h.size → Exa Z h obj "com/example/even_keel/evenkeel/plan/MemberNames" → Fld Z h obj "com/example/even_keel/evenkeel/plan/MemberNames" "numbers" "[Z" (.ref nb) → Fld Z h obj "com/example/even_keel/evenkeel/plan/MemberNames" "numbersTaken" "I" (.int ct) → Fld Z h obj "com/example/even_keel/evenkeel/plan/MemberNames" "highestTaken" "I" (.int ht) → Al Z h nb .boolean (own_bits (Mn + 1) T) → Al Z h arr .int [(.int v0), (.int v1), (.int v2), (.int v3)] → Go Z l room_1 code maxLocals x.cls ret x.name 239 #[.val (.int mq), .val (.int ga), .val (.int gb), .val (.int gc), .val (.int gd), .val (.int fq), .val (.int ms), .val (.int n), .val (.ref arr), .val (.int f0), .val (.int f1), .val (.int f2), .val (.int f3), .val (.ref obj), .val (.int ct), .unset] [] h L 5 1043 (LawQ n0) := by
            intro h L T ct ht hT N0 sz0 E_obj F_obj_numbers F_obj_numbersTaken F_obj_highestTaken A_nb A_arr
            refine Go.iload (pc' := 241) at_239 rfl rfl ?_
            by_cases hc13 : f2.toInt = (0 : Int)
            · refine Go.ifT (pc' := 256) (X := f2.toInt) at_241 (by decide) rfl (hc13 : f2.toInt = 0) ?_
              exact T256 h L T ct ht (own_tk_no hT) N0 sz0 E_obj F_obj_numbers F_obj_numbersTaken F_obj_highestTaken A_nb A_arr
            · refine Go.ifF (pc' := 244) (X := f2.toInt) at_241 rfl rfl (hc13 : ¬ f2.toInt = 0) ?_
              refine Go.aload (pc' := 246) at_244 rfl rfl rfl ?_
              refine Go.aload (pc' := 248) at_246 rfl rfl rfl ?_
              refine Go.iconst (pc' := 249) at_248 rfl (z := (2 : Int32)) (by decide) ?_
              refine Go.iaload (pc' := 250) at_249 rfl (i := 2) (v := (.int v2)) A_arr (by decide) rfl ?_
              refine Go.callV (pc' := 253) (W := 0) (a := obj) (argsL := [(.int v2)]) (rest := []) (k' := 5) (n' := 1043) at_250 rfl (hw _ w58) (hw _ w59) (nf_sel (hw _ w61)) (hw _ w61) (hw _ w60) (hw _ w4) (hw _ w62) E_obj (by decide) (c_take hw sz0 obj nb v2 ct ht T Mn j2 hj2 hjM2 gn_obj gn_nb E_obj F_obj_numbers F_obj_numbersTaken F_obj_highestTaken A_nb) (by decide) (by decide) (by decide) (by decide) rfl rfl rfl pd__28I_29V rfl rfl (Nat.le_of_eq rfl) ?_
              intro v14 h14 P14 L14 NL14 hq14
              obtain ⟨rfl, N14, K14, E_obj_14, F_obj_numbers_14, F_obj_numbersTaken_14, F_obj_highestTaken_14, A_nb_14⟩ := hq14
              dsimp only [Option.toList, List.cons_append, List.nil_append]
              replace N0 := NL14 _ N0 N14
              replace sz0 : n0 ≤ h14.size := Nat.le_trans sz0 K14.1
              clear E_obj
              clear F_obj_highestTaken
              clear F_obj_numbers
              clear F_obj_numbersTaken
              replace A_arr := A_arr.keep K14 (ninS ne_arr_obj (ninS ne_arr_nb nin0))
              clear A_nb
              have E_obj := E_obj_14; clear E_obj_14
              have F_obj_numbers := F_obj_numbers_14; clear F_obj_numbers_14
              have F_obj_numbersTaken := F_obj_numbersTaken_14; clear F_obj_numbersTaken_14
              have F_obj_highestTaken := F_obj_highestTaken_14; clear F_obj_highestTaken_14
              have A_nb := A_nb_14; clear A_nb_14
              obtain ⟨v15, hv_v15⟩ : ∃ v : Int32, (ct + (1 : Int32)) = v := ⟨_, rfl⟩
              refine Go.iinc (pc' := 256) at_253 rfl rfl (z := v15) hv_v15 (Ls' := #[.val (.int mq), .val (.int ga), .val (.int gb), .val (.int gc), .val (.int gd), .val (.int fq), .val (.int ms), .val (.int n), .val (.ref arr), .val (.int f0), .val (.int f1), .val (.int f2), .val (.int f3), .val (.ref obj), .val (.int v15), .unset]) rfl ?_
              subst hv_v15
              have hP := own_fl_of hf2 (by assumption)
              exact T256 h14 L14 (j2 :: T) (ct + (1 : Int32)) (f_c_max ht v2) (own_tk_yes hT hj2 (by decide) (Or.inr (Or.inr (Or.inl ⟨by decide, by omega, rfl⟩))) ⟨fun _ => by omega, fun _ => by omega, fun q => absurd q (by decide), fun q => absurd q (by decide)⟩) N0 sz0 E_obj F_obj_numbers F_obj_numbersTaken F_obj_highestTaken A_nb A_arr
          have T222 : ∀ (h : Heap) (L : List Loc) (T : List Nat) (ct ht : Int32), own_tk j0 j1 j2 j3 n 1 T ct ht → Fr n0 L → n0 ≤ h.size → Exa Z h obj "com/example/even_keel/evenkeel/plan/MemberNames" → Fld Z h obj "com/example/even_keel/evenkeel/plan/MemberNames" "numbers" "[Z" (.ref nb) → Fld Z h obj "com/example/even_keel/evenkeel/plan/MemberNames" "numbersTaken" "I" (.int ct) → Fld Z h obj "com/example/even_keel/evenkeel/plan/MemberNames" "highestTaken" "I" (.int ht) → Al Z h nb .boolean (own_bits (Mn + 1) T) → Al Z h arr .int [(.int v0), (.int v1), (.int v2), (.int v3)] → Go Z l room_1 code maxLocals x.cls ret x.name 222 #[.val (.int mq), .val (.int ga), .val (.int gb), .val (.int gc), .val (.int gd), .val (.int fq), .val (.int ms), .val (.int n), .val (.ref arr), .val (.int f0), .val (.int f1), .val (.int f2), .val (.int f3), .val (.ref obj), .val (.int ct), .unset] [] h L 5 1043 (LawQ n0) := by
            intro h L T ct ht hT N0 sz0 E_obj F_obj_numbers F_obj_numbersTaken F_obj_highestTaken A_nb A_arr
            refine Go.iload (pc' := 224) at_222 rfl rfl ?_
            by_cases hc16 : f1.toInt = (0 : Int)
            · refine Go.ifT (pc' := 239) (X := f1.toInt) at_224 (by decide) rfl (hc16 : f1.toInt = 0) ?_
              exact T239 h L T ct ht (own_tk_no hT) N0 sz0 E_obj F_obj_numbers F_obj_numbersTaken F_obj_highestTaken A_nb A_arr
            · refine Go.ifF (pc' := 227) (X := f1.toInt) at_224 rfl rfl (hc16 : ¬ f1.toInt = 0) ?_
              refine Go.aload (pc' := 229) at_227 rfl rfl rfl ?_
              refine Go.aload (pc' := 231) at_229 rfl rfl rfl ?_
              refine Go.iconst (pc' := 232) at_231 rfl (z := (1 : Int32)) (by decide) ?_
              refine Go.iaload (pc' := 233) at_232 rfl (i := 1) (v := (.int v1)) A_arr (by decide) rfl ?_
              refine Go.callV (pc' := 236) (W := 0) (a := obj) (argsL := [(.int v1)]) (rest := []) (k' := 5) (n' := 1043) at_233 rfl (hw _ w58) (hw _ w59) (nf_sel (hw _ w61)) (hw _ w61) (hw _ w60) (hw _ w4) (hw _ w62) E_obj (by decide) (c_take hw sz0 obj nb v1 ct ht T Mn j1 hj1 hjM1 gn_obj gn_nb E_obj F_obj_numbers F_obj_numbersTaken F_obj_highestTaken A_nb) (by decide) (by decide) (by decide) (by decide) rfl rfl rfl pd__28I_29V rfl rfl (Nat.le_of_eq rfl) ?_
              intro v17 h17 P17 L17 NL17 hq17
              obtain ⟨rfl, N17, K17, E_obj_17, F_obj_numbers_17, F_obj_numbersTaken_17, F_obj_highestTaken_17, A_nb_17⟩ := hq17
              dsimp only [Option.toList, List.cons_append, List.nil_append]
              replace N0 := NL17 _ N0 N17
              replace sz0 : n0 ≤ h17.size := Nat.le_trans sz0 K17.1
              clear E_obj
              clear F_obj_highestTaken
              clear F_obj_numbers
              clear F_obj_numbersTaken
              replace A_arr := A_arr.keep K17 (ninS ne_arr_obj (ninS ne_arr_nb nin0))
              clear A_nb
              have E_obj := E_obj_17; clear E_obj_17
              have F_obj_numbers := F_obj_numbers_17; clear F_obj_numbers_17
              have F_obj_numbersTaken := F_obj_numbersTaken_17; clear F_obj_numbersTaken_17
              have F_obj_highestTaken := F_obj_highestTaken_17; clear F_obj_highestTaken_17
              have A_nb := A_nb_17; clear A_nb_17
              obtain ⟨v18, hv_v18⟩ : ∃ v : Int32, (ct + (1 : Int32)) = v := ⟨_, rfl⟩
              refine Go.iinc (pc' := 239) at_236 rfl rfl (z := v18) hv_v18 (Ls' := #[.val (.int mq), .val (.int ga), .val (.int gb), .val (.int gc), .val (.int gd), .val (.int fq), .val (.int ms), .val (.int n), .val (.ref arr), .val (.int f0), .val (.int f1), .val (.int f2), .val (.int f3), .val (.ref obj), .val (.int v18), .unset]) rfl ?_
              subst hv_v18
              have hP := own_fl_of hf1 (by assumption)
              exact T239 h17 L17 (j1 :: T) (ct + (1 : Int32)) (f_c_max ht v1) (own_tk_yes hT hj1 (by decide) (Or.inr (Or.inl ⟨by decide, by omega, rfl⟩)) ⟨fun _ => by omega, fun q => absurd q (by decide), fun q => absurd q (by decide), fun q => absurd q (by decide)⟩) N0 sz0 E_obj F_obj_numbers F_obj_numbersTaken F_obj_highestTaken A_nb A_arr
          have T205 : ∀ (h : Heap) (L : List Loc) (T : List Nat) (ct ht : Int32), own_tk j0 j1 j2 j3 n 0 T ct ht → Fr n0 L → n0 ≤ h.size → Exa Z h obj "com/example/even_keel/evenkeel/plan/MemberNames" → Fld Z h obj "com/example/even_keel/evenkeel/plan/MemberNames" "numbers" "[Z" (.ref nb) → Fld Z h obj "com/example/even_keel/evenkeel/plan/MemberNames" "numbersTaken" "I" (.int ct) → Fld Z h obj "com/example/even_keel/evenkeel/plan/MemberNames" "highestTaken" "I" (.int ht) → Al Z h nb .boolean (own_bits (Mn + 1) T) → Al Z h arr .int [(.int v0), (.int v1), (.int v2), (.int v3)] → Go Z l room_1 code maxLocals x.cls ret x.name 205 #[.val (.int mq), .val (.int ga), .val (.int gb), .val (.int gc), .val (.int gd), .val (.int fq), .val (.int ms), .val (.int n), .val (.ref arr), .val (.int f0), .val (.int f1), .val (.int f2), .val (.int f3), .val (.ref obj), .val (.int ct), .unset] [] h L 5 1043 (LawQ n0) := by
            intro h L T ct ht hT N0 sz0 E_obj F_obj_numbers F_obj_numbersTaken F_obj_highestTaken A_nb A_arr
            refine Go.iload (pc' := 207) at_205 rfl rfl ?_
            by_cases hc19 : f0.toInt = (0 : Int)
            · refine Go.ifT (pc' := 222) (X := f0.toInt) at_207 (by decide) rfl (hc19 : f0.toInt = 0) ?_
              exact T222 h L T ct ht (own_tk_no hT) N0 sz0 E_obj F_obj_numbers F_obj_numbersTaken F_obj_highestTaken A_nb A_arr
            · refine Go.ifF (pc' := 210) (X := f0.toInt) at_207 rfl rfl (hc19 : ¬ f0.toInt = 0) ?_
              refine Go.aload (pc' := 212) at_210 rfl rfl rfl ?_
              refine Go.aload (pc' := 214) at_212 rfl rfl rfl ?_
              refine Go.iconst (pc' := 215) at_214 rfl (z := (0 : Int32)) (by decide) ?_
              refine Go.iaload (pc' := 216) at_215 rfl (i := 0) (v := (.int v0)) A_arr (by decide) rfl ?_
              refine Go.callV (pc' := 219) (W := 0) (a := obj) (argsL := [(.int v0)]) (rest := []) (k' := 5) (n' := 1043) at_216 rfl (hw _ w58) (hw _ w59) (nf_sel (hw _ w61)) (hw _ w61) (hw _ w60) (hw _ w4) (hw _ w62) E_obj (by decide) (c_take hw sz0 obj nb v0 ct ht T Mn j0 hj0 hjM0 gn_obj gn_nb E_obj F_obj_numbers F_obj_numbersTaken F_obj_highestTaken A_nb) (by decide) (by decide) (by decide) (by decide) rfl rfl rfl pd__28I_29V rfl rfl (Nat.le_of_eq rfl) ?_
              intro v20 h20 P20 L20 NL20 hq20
              obtain ⟨rfl, N20, K20, E_obj_20, F_obj_numbers_20, F_obj_numbersTaken_20, F_obj_highestTaken_20, A_nb_20⟩ := hq20
              dsimp only [Option.toList, List.cons_append, List.nil_append]
              replace N0 := NL20 _ N0 N20
              replace sz0 : n0 ≤ h20.size := Nat.le_trans sz0 K20.1
              clear E_obj
              clear F_obj_highestTaken
              clear F_obj_numbers
              clear F_obj_numbersTaken
              replace A_arr := A_arr.keep K20 (ninS ne_arr_obj (ninS ne_arr_nb nin0))
              clear A_nb
              have E_obj := E_obj_20; clear E_obj_20
              have F_obj_numbers := F_obj_numbers_20; clear F_obj_numbers_20
              have F_obj_numbersTaken := F_obj_numbersTaken_20; clear F_obj_numbersTaken_20
              have F_obj_highestTaken := F_obj_highestTaken_20; clear F_obj_highestTaken_20
              have A_nb := A_nb_20; clear A_nb_20
              obtain ⟨v21, hv_v21⟩ : ∃ v : Int32, (ct + (1 : Int32)) = v := ⟨_, rfl⟩
              refine Go.iinc (pc' := 222) at_219 rfl rfl (z := v21) hv_v21 (Ls' := #[.val (.int mq), .val (.int ga), .val (.int gb), .val (.int gc), .val (.int gd), .val (.int fq), .val (.int ms), .val (.int n), .val (.ref arr), .val (.int f0), .val (.int f1), .val (.int f2), .val (.int f3), .val (.ref obj), .val (.int v21), .unset]) rfl ?_
              subst hv_v21
              have hP := own_fl_of hf0 (by assumption)
              exact T222 h20 L20 (j0 :: T) (ct + (1 : Int32)) (f_c_max ht v0) (own_tk_yes hT hj0 (by decide) (Or.inl ⟨by decide, by omega, rfl⟩) ⟨fun q => absurd q (by decide), fun q => absurd q (by decide), fun q => absurd q (by decide), fun q => absurd q (by decide)⟩) N0 sz0 E_obj F_obj_numbers F_obj_numbersTaken F_obj_highestTaken A_nb A_arr
          refine Go.iconst (pc' := 203) at_202 rfl (z := (0 : Int32)) (by decide) ?_
          refine Go.istore (pc' := 205) at_203 rfl (Ls' := #[.val (.int mq), .val (.int ga), .val (.int gb), .val (.int gc), .val (.int gd), .val (.int fq), .val (.int ms), .val (.int n), .val (.ref arr), .val (.int f0), .val (.int f1), .val (.int f2), .val (.int f3), .val (.ref obj), .val (.int (0 : Int32)), .unset]) rfl ?_
          exact T205 h7 L7 [] (0 : Int32) (-1 : Int32) (own_tk_start _ _ _ _ _) N0 sz0 E_obj F_obj_numbers F_obj_numbersTaken F_obj_highestTaken A_nb A_arr
        refine Go.iload (pc' := 147) at_145 rfl rfl ?_
        refine Go.iconst (pc' := 148) at_147 rfl (z := (3 : Int32)) (by decide) ?_
        by_cases hc22 : (3 : Int) < n.toInt
        · refine Go.icmpF (pc' := 151) (X := n.toInt) (Y := (3 : Int)) at_148 rfl rfl (by decide) (hc22 : (3 : Int) < n.toInt) ?_
          refine Go.aload (pc' := 153) at_151 rfl rfl rfl ?_
          refine Go.iconst (pc' := 154) at_153 rfl (z := (3 : Int32)) (by decide) ?_
          refine Go.iaload (pc' := 155) at_154 rfl (i := 3) (v := (.int v3)) A_arr (by decide) rfl ?_
          refine Go.aload (pc' := 157) at_155 rfl rfl rfl ?_
          refine Go.iconst (pc' := 158) at_157 rfl (z := (0 : Int32)) (by decide) ?_
          refine Go.iaload (pc' := 159) at_158 rfl (i := 0) (v := (.int v0)) A_arr (by decide) rfl ?_
          by_cases hc23 : v3.toInt = v0.toInt
          · refine Go.icmpT (pc' := 188) (X := v3.toInt) (Y := v0.toInt) at_159 (by decide) rfl rfl (hc23 : v3.toInt = v0.toInt) ?_
            refine Go.iconst (pc' := 189) at_188 rfl (z := (0 : Int32)) (by decide) ?_
            exact J189 (0 : Int32) (own_fl0 (by omega))
          · refine Go.icmpF (pc' := 162) (X := v3.toInt) (Y := v0.toInt) at_159 rfl rfl rfl (hc23 : ¬ v3.toInt = v0.toInt) ?_
            refine Go.aload (pc' := 164) at_162 rfl rfl rfl ?_
            refine Go.iconst (pc' := 165) at_164 rfl (z := (3 : Int32)) (by decide) ?_
            refine Go.iaload (pc' := 166) at_165 rfl (i := 3) (v := (.int v3)) A_arr (by decide) rfl ?_
            refine Go.aload (pc' := 168) at_166 rfl rfl rfl ?_
            refine Go.iconst (pc' := 169) at_168 rfl (z := (1 : Int32)) (by decide) ?_
            refine Go.iaload (pc' := 170) at_169 rfl (i := 1) (v := (.int v1)) A_arr (by decide) rfl ?_
            by_cases hc24 : v3.toInt = v1.toInt
            · refine Go.icmpT (pc' := 188) (X := v3.toInt) (Y := v1.toInt) at_170 (by decide) rfl rfl (hc24 : v3.toInt = v1.toInt) ?_
              refine Go.iconst (pc' := 189) at_188 rfl (z := (0 : Int32)) (by decide) ?_
              exact J189 (0 : Int32) (own_fl0 (by omega))
            · refine Go.icmpF (pc' := 173) (X := v3.toInt) (Y := v1.toInt) at_170 rfl rfl rfl (hc24 : ¬ v3.toInt = v1.toInt) ?_
              refine Go.aload (pc' := 175) at_173 rfl rfl rfl ?_
              refine Go.iconst (pc' := 176) at_175 rfl (z := (3 : Int32)) (by decide) ?_
              refine Go.iaload (pc' := 177) at_176 rfl (i := 3) (v := (.int v3)) A_arr (by decide) rfl ?_
              refine Go.aload (pc' := 179) at_177 rfl rfl rfl ?_
              refine Go.iconst (pc' := 180) at_179 rfl (z := (2 : Int32)) (by decide) ?_
              refine Go.iaload (pc' := 181) at_180 rfl (i := 2) (v := (.int v2)) A_arr (by decide) rfl ?_
              by_cases hc25 : v3.toInt = v2.toInt
              · refine Go.icmpT (pc' := 188) (X := v3.toInt) (Y := v2.toInt) at_181 (by decide) rfl rfl (hc25 : v3.toInt = v2.toInt) ?_
                refine Go.iconst (pc' := 189) at_188 rfl (z := (0 : Int32)) (by decide) ?_
                exact J189 (0 : Int32) (own_fl0 (by omega))
              · refine Go.icmpF (pc' := 184) (X := v3.toInt) (Y := v2.toInt) at_181 rfl rfl rfl (hc25 : ¬ v3.toInt = v2.toInt) ?_
                refine Go.iconst (pc' := 185) at_184 rfl (z := (1 : Int32)) (by decide) ?_
                refine Go.goto (pc' := 189) at_185 (by decide) ?_
                exact J189 (1 : Int32) (own_fl1 (by omega))
        · refine Go.icmpT (pc' := 188) (X := n.toInt) (Y := (3 : Int)) at_148 (by decide) rfl (by decide) (hc22 : ¬ (3 : Int) < n.toInt) ?_
          refine Go.iconst (pc' := 189) at_188 rfl (z := (0 : Int32)) (by decide) ?_
          exact J189 (0 : Int32) (own_fl0 (by omega))
      refine Go.iload (pc' := 112) at_110 rfl rfl ?_
      refine Go.iconst (pc' := 113) at_112 rfl (z := (2 : Int32)) (by decide) ?_
      by_cases hc26 : (2 : Int) < n.toInt
      · refine Go.icmpF (pc' := 116) (X := n.toInt) (Y := (2 : Int)) at_113 rfl rfl (by decide) (hc26 : (2 : Int) < n.toInt) ?_
        refine Go.aload (pc' := 118) at_116 rfl rfl rfl ?_
        refine Go.iconst (pc' := 119) at_118 rfl (z := (2 : Int32)) (by decide) ?_
        refine Go.iaload (pc' := 120) at_119 rfl (i := 2) (v := (.int v2)) A_arr (by decide) rfl ?_
        refine Go.aload (pc' := 122) at_120 rfl rfl rfl ?_
        refine Go.iconst (pc' := 123) at_122 rfl (z := (0 : Int32)) (by decide) ?_
        refine Go.iaload (pc' := 124) at_123 rfl (i := 0) (v := (.int v0)) A_arr (by decide) rfl ?_
        by_cases hc27 : v2.toInt = v0.toInt
        · refine Go.icmpT (pc' := 142) (X := v2.toInt) (Y := v0.toInt) at_124 (by decide) rfl rfl (hc27 : v2.toInt = v0.toInt) ?_
          refine Go.iconst (pc' := 143) at_142 rfl (z := (0 : Int32)) (by decide) ?_
          exact J143 (0 : Int32) (own_fl0 (by omega))
        · refine Go.icmpF (pc' := 127) (X := v2.toInt) (Y := v0.toInt) at_124 rfl rfl rfl (hc27 : ¬ v2.toInt = v0.toInt) ?_
          refine Go.aload (pc' := 129) at_127 rfl rfl rfl ?_
          refine Go.iconst (pc' := 130) at_129 rfl (z := (2 : Int32)) (by decide) ?_
          refine Go.iaload (pc' := 131) at_130 rfl (i := 2) (v := (.int v2)) A_arr (by decide) rfl ?_
          refine Go.aload (pc' := 133) at_131 rfl rfl rfl ?_
          refine Go.iconst (pc' := 134) at_133 rfl (z := (1 : Int32)) (by decide) ?_
          refine Go.iaload (pc' := 135) at_134 rfl (i := 1) (v := (.int v1)) A_arr (by decide) rfl ?_
          by_cases hc28 : v2.toInt = v1.toInt
          · refine Go.icmpT (pc' := 142) (X := v2.toInt) (Y := v1.toInt) at_135 (by decide) rfl rfl (hc28 : v2.toInt = v1.toInt) ?_
            refine Go.iconst (pc' := 143) at_142 rfl (z := (0 : Int32)) (by decide) ?_
            exact J143 (0 : Int32) (own_fl0 (by omega))
          · refine Go.icmpF (pc' := 138) (X := v2.toInt) (Y := v1.toInt) at_135 rfl rfl rfl (hc28 : ¬ v2.toInt = v1.toInt) ?_
            refine Go.iconst (pc' := 139) at_138 rfl (z := (1 : Int32)) (by decide) ?_
            refine Go.goto (pc' := 143) at_139 (by decide) ?_
            exact J143 (1 : Int32) (own_fl1 (by omega))
      · refine Go.icmpT (pc' := 142) (X := n.toInt) (Y := (2 : Int)) at_113 (by decide) rfl (by decide) (hc26 : ¬ (2 : Int) < n.toInt) ?_
        refine Go.iconst (pc' := 143) at_142 rfl (z := (0 : Int32)) (by decide) ?_
        exact J143 (0 : Int32) (own_fl0 (by omega))
    refine Go.iload (pc' := 88) at_86 rfl rfl ?_
    refine Go.iconst (pc' := 89) at_88 rfl (z := (1 : Int32)) (by decide) ?_
    by_cases hc29 : (1 : Int) < n.toInt
    · refine Go.icmpF (pc' := 92) (X := n.toInt) (Y := (1 : Int)) at_89 rfl rfl (by decide) (hc29 : (1 : Int) < n.toInt) ?_
      refine Go.aload (pc' := 94) at_92 rfl rfl rfl ?_
      refine Go.iconst (pc' := 95) at_94 rfl (z := (1 : Int32)) (by decide) ?_
      refine Go.iaload (pc' := 96) at_95 rfl (i := 1) (v := (.int v1)) A_arr (by decide) rfl ?_
      refine Go.aload (pc' := 98) at_96 rfl rfl rfl ?_
      refine Go.iconst (pc' := 99) at_98 rfl (z := (0 : Int32)) (by decide) ?_
      refine Go.iaload (pc' := 100) at_99 rfl (i := 0) (v := (.int v0)) A_arr (by decide) rfl ?_
      by_cases hc30 : v1.toInt = v0.toInt
      · refine Go.icmpT (pc' := 107) (X := v1.toInt) (Y := v0.toInt) at_100 (by decide) rfl rfl (hc30 : v1.toInt = v0.toInt) ?_
        refine Go.iconst (pc' := 108) at_107 rfl (z := (0 : Int32)) (by decide) ?_
        exact J108 (0 : Int32) (own_fl0 (by omega))
      · refine Go.icmpF (pc' := 103) (X := v1.toInt) (Y := v0.toInt) at_100 rfl rfl rfl (hc30 : ¬ v1.toInt = v0.toInt) ?_
        refine Go.iconst (pc' := 104) at_103 rfl (z := (1 : Int32)) (by decide) ?_
        refine Go.goto (pc' := 108) at_104 (by decide) ?_
        exact J108 (1 : Int32) (own_fl1 (by omega))
    · refine Go.icmpT (pc' := 107) (X := n.toInt) (Y := (1 : Int)) at_89 (by decide) rfl (by decide) (hc29 : ¬ (1 : Int) < n.toInt) ?_
      refine Go.iconst (pc' := 108) at_107 rfl (z := (0 : Int32)) (by decide) ?_
      exact J108 (0 : Int32) (own_fl0 (by omega))
  refine Go.iload (pc' := 76) at_74 rfl rfl ?_
  by_cases hc31 : (0 : Int) < n.toInt
  · refine Go.ifF (pc' := 79) (X := n.toInt) at_76 rfl rfl (hc31 : 0 < n.toInt) ?_
    refine Go.iconst (pc' := 80) at_79 rfl (z := (1 : Int32)) (by decide) ?_
    refine Go.goto (pc' := 84) at_80 (by decide) ?_
    exact J84 (1 : Int32) (own_fl1 (by omega))
  · refine Go.ifT (pc' := 83) (X := n.toInt) at_76 (by decide) rfl (hc31 : ¬ 0 < n.toInt) ?_
    refine Go.iconst (pc' := 84) at_83 rfl (z := (0 : Int32)) (by decide) ?_
    exact J84 (0 : Int32) (own_fl0 (by omega))
set_option maxRecDepth 65536 in
set_option maxHeartbeats 40000000 in
theorem comes_1 {Post : Tables → Env → Array Value → State → Outcome → State → Prop} (hpost : ∀ tb e args s v u, (limb_1_1.after args s (.returned v) u = true ∧ limb_1_2.after args s (.returned v) u = true ∧ True) → FrameEnd s (.returned v) u (Jvm.fieldLocs frame_1_writes args s ++ Jvm.arrayLocs frame_1_arrays args s ++ Jvm.staticLocs frame_1_statics s) 24 2176 → Post tb e args s (.returned v) u) :
    ArmFor flags0 classFile x code maxLocals ret World_1 tables_1 room_1 Calls_1 rest_1 Pre_1 Post := by
  intro l hfl _ _ p e ha hc hk s m args below hf hA hF happ hP
  obtain ⟨hcalls, hrest, hpre⟩ := hP
  obtain ⟨-, -, -, hnamed, -, -, -, hat⟩ := (Spec.applies_iff hf).mp happ
  obtain ⟨hg, hn⟩ := and_e (Cond.before_iff.mp (show (Jvm.Cond.and given_1 narrow_1).before args s = true from hpre))
  obtain ⟨h1, h2⟩ := and_e hg
  obtain ⟨w0, w1, w2, w3, w4, w5, rfl⟩ : ∃ w0 w1 w2 w3 w4 w5 : Value, args = #[w0, w1, w2, w3, w4, w5] := by
    have hs : args.size = 6 := by simpa [Cond.value, given_1] using h1
    obtain ⟨L⟩ := args
    match L, hs with
    | [w0, w1, w2, w3, w4, w5], _ => exact ⟨w0, w1, w2, w3, w4, w5, rfl⟩
  have hw := fun d (hd : d ∈ tables_1) => atoms_spec (ws := Jvm.Cond.code x code maxLocals ret :: tables_1) hat d (List.mem_cons_of_mem _ hd)
  obtain ⟨q0, h2⟩ := and_e h2
  obtain ⟨i0, e0⟩ := is_v q0
  obtain rfl : w0 = (.int i0) := Option.some.inj e0
  obtain ⟨q1, h2⟩ := and_e h2
  obtain ⟨i1, e1⟩ := is_v q1
  obtain rfl : w1 = (.int i1) := Option.some.inj e1
  obtain ⟨q2, h2⟩ := and_e h2
  obtain ⟨i2, e2⟩ := is_v q2
  obtain rfl : w2 = (.int i2) := Option.some.inj e2
  obtain ⟨q3, h2⟩ := and_e h2
  obtain ⟨i3, e3⟩ := is_v q3
  obtain rfl : w3 = (.int i3) := Option.some.inj e3
  obtain ⟨q4, h2⟩ := and_e h2
  obtain ⟨i4, e4⟩ := is_v q4
  obtain rfl : w4 = (.int i4) := Option.some.inj e4
  have q5 := h2
  obtain ⟨i5, e5⟩ := is_v q5
  obtain rfl : w5 = (.int i5) := Option.some.inj e5
  obtain ⟨n, o, h1, h2, h3, _, L, rfl, ⟨rfl, N⟩, hq⟩ := law_con (l := l) hw (h0 := s.heap) (n0 := s.heap.size) (Nat.le_refl _) i0 i1 i2 i3 i4 i5 p e ha hc hk s m _ below hf ((Spec.applies_iff_loose hf).mp happ).1 ⟨rfl, State.Warmed39.refl s, rfl⟩ trivial
  refine ⟨n, _, h1, h2, h3, hpost _ _ _ _ _ _ ⟨Cond.after_iff.mpr rfl, Cond.after_iff.mpr (eq_i res_at (Term.int_eval (1)) rfl), trivial⟩ ⟨hq.1, hq.2.1, (hq.2.2.sift fun y hy => Or.inr (N y hy)).mono (by decide) (by decide)⟩⟩
theorem main_1_1 : Claimed_1_1 := comes_1 fun _ _ _ _ _ _ h hF => ⟨h.1, hF⟩
theorem main_1_2 : Claimed_1_2 := comes_1 fun _ _ _ _ _ _ h hF => ⟨h.2.1, hF⟩
end Jvm.Pilot.@@N@@
namespace Jvm.Pilot.@@N@@
open Jvm Jvm.ClassFile Sem Op Lib Jvm.Free Jvm.Stand Jvm.Pilot.@@N@@.Jvm.D
/-! MADE BY PROGRAM (witnessworld.py) out of the Statement's table words and the real class files: 21 classes; the members and pool entries that the words name. The judged class is class 1, her method 4. -/
namespace start1
open Jvm.ClassFile
def u (s : String) : CpInfo := .utf8 (stringToUtf16 s)
/-- a pool by its gaps: so many unusable entries, then the entry; so many at the end -/
def gap : Nat → List CpInfo → List CpInfo
  | 0, r => r
  | n + 1, r => .unusable :: gap n r
def poolList (es : List (Nat × CpInfo)) (last : Nat) : List CpInfo := es.foldr (fun e r => gap e.1 (e.2 :: r)) (gap last [])
def pool (es : List (Nat × CpInfo)) (last : Nat) : Array CpInfo := ⟨poolList es last⟩
def fileOf (pool : Array CpInfo) (this : Nat) (attrs : Array Attribute := #[]) (ms : Array MethodInfo := #[]) (fl : Nat := 33) (sup : Nat := 0) (ifs : Array Nat := #[]) (fds : Array FieldInfo := #[]) : ClassFile where
  minorVersion := 0
  majorVersion := 65
  constantPool := pool
  accessFlags := fl
  thisClass := this
  superClass := sup
  interfaces := ifs
  fields := fds
  methods := ms
  attributes := attrs
def plain (name : String) (sup : Option ClassId) : Class where
  name := name
  kind := .ordinary
  loader := none
  accessFlags := 33
  super := sup
  interfaces := #[]
  cf := none
  fields := #[]
  methods := #[]
  instanceTypes := #[]
  staticTypes := #[]
  resolved := #[]
  callSites := []
  init := .initialized
  statics := none
  mirror := none

def pool0 : Array CpInfo := pool [(5, u "<init>"), (0, u "()V"), (1, .class_ 10), (1, u "java/lang/Object")] 113

def k0c0 : Code := { maxStack := 0, maxLocals := 1, code := object_method_1_code, exceptionTable := #[], attributes := #[] }
def k0m0 : Method := { name := "<init>", desc := "()V", sig := { parameters := [], returnType := none }, accessFlags := 1, code := some k0c0 }
/-- java/lang/Object -/
def k0 : Class := { plain "java/lang/Object" none with
  accessFlags := 33
  interfaces := #[]
  cf := some (fileOf pool0 8 #[] #[{ accessFlags := 1, nameIndex := 5, descriptorIndex := 6, attributes := #[] }] 33 0 #[] #[])
  fields := #[]
  methods := #[k0m0]
  instanceTypes := #[]
  staticTypes := #[]
  resolved := Array.replicate 124 none
  statics := none }

def pool1 : Array CpInfo := pool [(2, .class_ 4), (1, u "java/lang/Object"), (0, u "<init>"), (0, u "()V"), (0, .methodref 8 9), (0, .class_ 10), (0, .nameAndType 11 12), (0, u "com/example/even_keel/evenkeel/plan/MemberNamesNumbersInNameOrderPinLaw"), (0, u "inTaken"), (0, u "(I[II)Z"), (0, .methodref 8 14), (0, .nameAndType 15 16), (0, u "key"), (0, u "(I)I"), (0, .integer 2147483647), (0, .class_ 19), (0, u "com/example/even_keel/evenkeel/plan/MemberNames"), (0, .methodref 18 21), (0, .nameAndType 5 22), (0, u "(I)V"), (0, .methodref 18 24), (0, .nameAndType 25 22), (0, u "take"), (0, .methodref 18 27), (0, .nameAndType 28 29), (0, u "numbersInNameOrder"), (0, u "()[I"), (0, .methodref 8 31), (0, .nameAndType 32 33), (0, u "okAt"), (0, u "([III[II)Z"), (3, u "law"), (0, u "(IIIIII)Z")] 4

def k1m0 : Method := { name := "<init>", desc := "()V", sig := { parameters := [], returnType := none }, accessFlags := 1, code := none }
def k1c1 : Code := { maxStack := 3, maxLocals := 1, code := method_2_code, exceptionTable := #[], attributes := #[] }
def k1m1 : Method := { name := "key", desc := "(I)I", sig := { parameters := [.int], returnType := some .int }, accessFlags := 10, code := some k1c1 }
def k1c2 : Code := { maxStack := 2, maxLocals := 3, code := method_3_code, exceptionTable := #[], attributes := #[] }
def k1m2 : Method := { name := "inTaken", desc := "(I[II)Z", sig := { parameters := [.int, (.array .int), .int], returnType := some .boolean }, accessFlags := 10, code := some k1c2 }
def k1c3 : Code := { maxStack := 3, maxLocals := 7, code := method_4_code, exceptionTable := #[], attributes := #[] }
def k1m3 : Method := { name := "okAt", desc := "([III[II)Z", sig := { parameters := [(.array .int), .int, .int, (.array .int), .int], returnType := some .boolean }, accessFlags := 10, code := some k1c3 }
def k1c4 : Code := { maxStack := 5, maxLocals := 16, code := code, exceptionTable := #[], attributes := #[] }
def k1m4 : Method := { name := "law", desc := "(IIIIII)Z", sig := { parameters := [.int, .int, .int, .int, .int, .int], returnType := some .boolean }, accessFlags := 9, code := some k1c4 }
/-- com/example/even_keel/evenkeel/plan/MemberNamesNumbersInNameOrderPinLaw -/
def k1 : Class := { plain "com/example/even_keel/evenkeel/plan/MemberNamesNumbersInNameOrderPinLaw" (some 0) with
  accessFlags := 49
  interfaces := #[]
  cf := some (fileOf pool1 8 #[] #[{ accessFlags := 1, nameIndex := 5, descriptorIndex := 6, attributes := #[] }, { accessFlags := 10, nameIndex := 15, descriptorIndex := 16, attributes := #[] }, { accessFlags := 10, nameIndex := 11, descriptorIndex := 12, attributes := #[] }, { accessFlags := 10, nameIndex := 32, descriptorIndex := 33, attributes := #[] }, { accessFlags := 9, nameIndex := 37, descriptorIndex := 38, attributes := #[] }] 49 2 #[] #[])
  fields := #[]
  methods := #[k1m0, k1m1, k1m2, k1m3, k1m4]
  instanceTypes := #[]
  staticTypes := #[]
  resolved := Array.replicate 43 none
  statics := none }

def pool2 : Array CpInfo := pool [(1, .methodref 2 3), (0, .class_ 4), (0, .nameAndType 5 6), (0, u "java/lang/Object"), (0, u "<init>"), (0, u "()V"), (0, .fieldref 8 9), (0, .class_ 10), (0, .nameAndType 11 12), (0, u "com/example/even_keel/evenkeel/plan/MemberNames"), (0, u "highestTaken"), (0, u "I"), (0, .class_ 14), (0, u "java/util/HashSet"), (0, .methodref 13 3), (0, .fieldref 8 17), (0, .nameAndType 18 19), (0, u "others"), (0, u "Ljava/util/Set;"), (0, .fieldref 8 21), (0, .nameAndType 22 12), (0, u "mostNumber"), (0, .fieldref 8 24), (0, .nameAndType 25 26), (0, u "numbers"), (0, u "[Z"), (15, .class_ 44), (1, u "java/lang/Math"), (1, u "(II)I"), (9, .long 10), (16, u "take"), (0, u "(I)V"), (0, .fieldref 8 76), (0, .nameAndType 77 12), (0, u "numbersTaken"), (0, .methodref 42 79), (0, .nameAndType 80 46), (0, u "max"), (2, u "firstFree"), (8, u "numbersInNameOrder"), (0, u "()[I"), (4, .long 9)] 37

def k2c0 : Code := { maxStack := 3, maxLocals := 2, code := prog_104_method_1_code, exceptionTable := #[], attributes := #[] }
def k2m0 : Method := { name := "<init>", desc := "(I)V", sig := { parameters := [.int], returnType := none }, accessFlags := 1, code := some k2c0 }
def k2c1 : Code := { maxStack := 3, maxLocals := 2, code := prog_104_method_10_code, exceptionTable := #[], attributes := #[] }
def k2m1 : Method := { name := "take", desc := "(I)V", sig := { parameters := [.int], returnType := none }, accessFlags := 0, code := some k2c1 }
def k2c2 : Code := { maxStack := 4, maxLocals := 7, code := prog_104_method_14_code, exceptionTable := #[], attributes := #[] }
def k2m2 : Method := { name := "numbersInNameOrder", desc := "()[I", sig := { parameters := [], returnType := some (.array .int) }, accessFlags := 0, code := some k2c2 }
/-- com/example/even_keel/evenkeel/plan/MemberNames -/
def k2 : Class := { plain "com/example/even_keel/evenkeel/plan/MemberNames" (some 0) with
  accessFlags := 49
  interfaces := #[]
  cf := some (fileOf pool2 8 #[] #[{ accessFlags := 1, nameIndex := 5, descriptorIndex := 74, attributes := #[] }, { accessFlags := 0, nameIndex := 73, descriptorIndex := 74, attributes := #[] }, { accessFlags := 0, nameIndex := 92, descriptorIndex := 93, attributes := #[] }] 49 2 #[] #[{ accessFlags := 18, nameIndex := 22, descriptorIndex := 12, attributes := #[] }, { accessFlags := 18, nameIndex := 25, descriptorIndex := 26, attributes := #[] }, { accessFlags := 2, nameIndex := 77, descriptorIndex := 12, attributes := #[] }, { accessFlags := 2, nameIndex := 11, descriptorIndex := 12, attributes := #[] }, { accessFlags := 18, nameIndex := 18, descriptorIndex := 19, attributes := #[] }, { accessFlags := 2, nameIndex := 83, descriptorIndex := 12, attributes := #[] }])
  fields := #[{ name := "mostNumber", type := .int, accessFlags := 18, slot := 0, constantValue := 0 }, { name := "numbers", type := (.array .boolean), accessFlags := 18, slot := 1, constantValue := 0 }, { name := "numbersTaken", type := .int, accessFlags := 2, slot := 2, constantValue := 0 }, { name := "highestTaken", type := .int, accessFlags := 2, slot := 3, constantValue := 0 }, { name := "others", type := (.object "java/util/Set"), accessFlags := 18, slot := 4, constantValue := 0 }, { name := "firstFree", type := .int, accessFlags := 2, slot := 5, constantValue := 0 }]
  methods := #[k2m0, k2m1, k2m2]
  instanceTypes := #[.int, (.array .boolean), .int, .int, (.object "java/util/Set"), .int]
  staticTypes := #[]
  resolved := Array.replicate 136 none
  statics := none }

def pool3 : Array CpInfo := pool [(8, .class_ 10), (1, u "java/lang/Iterable"), (24, .class_ 36), (0, u "java/lang/Object")] 25

/-- java/lang/Iterable -/
def k3 : Class := { plain "java/lang/Iterable" (some 0) with
  accessFlags := 1537
  interfaces := #[]
  cf := some (fileOf pool3 8 #[] #[] 1537 35 #[] #[])
  fields := #[]
  methods := #[]
  instanceTypes := #[]
  staticTypes := #[]
  resolved := Array.replicate 62 none
  statics := none }

def pool4 : Array CpInfo := pool [(10, .class_ 12), (1, u "java/util/Collection"), (47, .class_ 61), (0, u "java/lang/Object"), (0, .class_ 63), (0, u "java/lang/Iterable")] 51

/-- java/util/Collection -/
def k4 : Class := { plain "java/util/Collection" (some 0) with
  accessFlags := 1537
  interfaces := #[3]
  cf := some (fileOf pool4 10 #[] #[] 1537 60 #[62] #[])
  fields := #[]
  methods := #[]
  instanceTypes := #[]
  staticTypes := #[]
  resolved := Array.replicate 115 none
  statics := none }

def pool5 : Array CpInfo := pool [(1, .methodref 2 3), (0, .class_ 4), (0, .nameAndType 5 6), (0, u "java/lang/Object"), (0, u "<init>"), (0, u "()V"), (1, .class_ 10), (1, u "java/util/AbstractCollection"), (66, .class_ 78), (0, u "java/util/Collection")] 81

def k5c0 : Code := { maxStack := 1, maxLocals := 1, code := jdk_22_method_1_code, exceptionTable := #[], attributes := #[] }
def k5m0 : Method := { name := "<init>", desc := "()V", sig := { parameters := [], returnType := none }, accessFlags := 4, code := some k5c0 }
/-- java/util/AbstractCollection -/
def k5 : Class := { plain "java/util/AbstractCollection" (some 0) with
  accessFlags := 1057
  interfaces := #[4]
  cf := some (fileOf pool5 8 #[] #[{ accessFlags := 4, nameIndex := 5, descriptorIndex := 6, attributes := #[] }] 1057 2 #[77] #[])
  fields := #[]
  methods := #[k5m0]
  instanceTypes := #[]
  staticTypes := #[]
  resolved := Array.replicate 160 none
  statics := none }

def pool6 : Array CpInfo := pool [(26, .class_ 27), (0, u "java/lang/Object"), (5, .class_ 34), (0, u "java/util/Set"), (1, .class_ 38), (1, u "java/util/Collection")] 105

/-- java/util/Set -/
def k6 : Class := { plain "java/util/Set" (some 0) with
  accessFlags := 1537
  interfaces := #[4]
  cf := some (fileOf pool6 33 #[] #[] 1537 26 #[36] #[])
  fields := #[]
  methods := #[]
  instanceTypes := #[]
  staticTypes := #[]
  resolved := Array.replicate 144 none
  statics := none }

def pool7 : Array CpInfo := pool [(1, .methodref 2 3), (0, .class_ 4), (0, .nameAndType 5 6), (0, u "java/util/AbstractCollection"), (0, u "<init>"), (0, u "()V"), (0, .class_ 8), (0, u "java/util/Set"), (7, .class_ 17), (0, u "java/util/AbstractSet")] 78

def k7c0 : Code := { maxStack := 1, maxLocals := 1, code := jdk_91_method_1_code, exceptionTable := #[], attributes := #[] }
def k7m0 : Method := { name := "<init>", desc := "()V", sig := { parameters := [], returnType := none }, accessFlags := 4, code := some k7c0 }
/-- java/util/AbstractSet -/
def k7 : Class := { plain "java/util/AbstractSet" (some 5) with
  accessFlags := 1057
  interfaces := #[6]
  cf := some (fileOf pool7 16 #[] #[{ accessFlags := 4, nameIndex := 5, descriptorIndex := 6, attributes := #[] }] 1057 2 #[7] #[])
  fields := #[]
  methods := #[k7m0]
  instanceTypes := #[]
  staticTypes := #[]
  resolved := Array.replicate 96 none
  statics := none }

def pool8 : Array CpInfo := pool [(1, .class_ 2), (0, u "java/lang/Cloneable"), (0, .class_ 4), (0, u "java/lang/Object")] 2

/-- java/lang/Cloneable -/
def k8 : Class := { plain "java/lang/Cloneable" (some 0) with
  accessFlags := 1537
  interfaces := #[]
  cf := some (fileOf pool8 1 #[] #[] 1537 3 #[] #[])
  fields := #[]
  methods := #[]
  instanceTypes := #[]
  staticTypes := #[]
  resolved := Array.replicate 7 none
  statics := none }

def pool9 : Array CpInfo := pool [(1, .class_ 2), (0, u "java/io/Serializable"), (0, .class_ 4), (0, u "java/lang/Object")] 2

/-- java/io/Serializable -/
def k9 : Class := { plain "java/io/Serializable" (some 0) with
  accessFlags := 1537
  interfaces := #[]
  cf := some (fileOf pool9 1 #[] #[] 1537 3 #[] #[])
  fields := #[]
  methods := #[]
  instanceTypes := #[]
  staticTypes := #[]
  resolved := Array.replicate 7 none
  statics := none }

def pool10 : Array CpInfo := pool [(1, .methodref 2 3), (0, .class_ 4), (0, .nameAndType 5 6), (0, u "java/util/AbstractSet"), (0, u "<init>"), (0, u "()V"), (0, .class_ 8), (0, u "java/util/HashMap"), (0, .methodref 7 3), (0, .fieldref 11 12), (0, .class_ 13), (0, .nameAndType 14 15), (0, u "java/util/HashSet"), (0, u "map"), (0, u "Ljava/util/HashMap;"), (34, .class_ 52), (1, u "java/util/Set"), (13, u "PRESENT"), (0, u "Ljava/lang/Object;"), (158, .class_ 227), (0, u "java/lang/Cloneable"), (0, .class_ 229), (0, u "java/io/Serializable"), (0, u "serialVersionUID"), (0, u "J")] 71

def k10c0 : Code := { maxStack := 3, maxLocals := 1, code := jdk_93_method_1_code, exceptionTable := #[], attributes := #[] }
def k10m0 : Method := { name := "<init>", desc := "()V", sig := { parameters := [], returnType := none }, accessFlags := 1, code := some k10c0 }
/-- java/util/HashSet -/
def k10 : Class := { plain "java/util/HashSet" (some 7) with
  accessFlags := 33
  interfaces := #[6, 8, 9]
  cf := some (fileOf pool10 11 #[] #[{ accessFlags := 1, nameIndex := 5, descriptorIndex := 6, attributes := #[] }] 33 2 #[50, 226, 228] #[{ accessFlags := 24, nameIndex := 230, descriptorIndex := 231, attributes := #[] }, { accessFlags := 128, nameIndex := 14, descriptorIndex := 15, attributes := #[] }, { accessFlags := 24, nameIndex := 66, descriptorIndex := 67, attributes := #[] }])
  fields := #[{ name := "serialVersionUID", type := .long, accessFlags := 24, slot := 0, constantValue := 0 }, { name := "map", type := (.object "java/util/HashMap"), accessFlags := 128, slot := 0, constantValue := 0 }, { name := "PRESENT", type := (.object "java/lang/Object"), accessFlags := 24, slot := 1, constantValue := 0 }]
  methods := #[k10m0]
  instanceTypes := #[(.object "java/util/HashMap")]
  staticTypes := #[.long, (.object "java/lang/Object")]
  resolved := Array.replicate 303 none
  statics := none }

def pool11 : Array CpInfo := pool [(2, .class_ 4), (1, u "java/util/Map"), (31, .class_ 37), (0, u "java/util/Map$Entry"), (55, .class_ 94), (0, u "java/lang/Object")] 168

/-- java/util/Map -/
def k11 : Class := { plain "java/util/Map" (some 0) with
  accessFlags := 1537
  interfaces := #[]
  cf := some (fileOf pool11 2 #[.nestMembers #[36]] #[] 1537 93 #[] #[])
  fields := #[]
  methods := #[]
  instanceTypes := #[]
  staticTypes := #[]
  resolved := Array.replicate 263 none
  statics := none }

def pool12 : Array CpInfo := pool [(1, .methodref 2 3), (0, .class_ 4), (0, .nameAndType 5 6), (0, u "java/lang/Object"), (0, u "<init>"), (0, u "()V"), (1, .class_ 10), (1, u "java/util/AbstractMap"), (42, .class_ 54), (0, u "java/util/Map"), (9, u "keySet"), (0, u "Ljava/util/Set;"), (0, .class_ 67), (0, u "java/util/AbstractMap$1"), (5, u "values"), (0, u "Ljava/util/Collection;"), (0, .class_ 76), (0, u "java/util/AbstractMap$2"), (104, .class_ 182), (0, u "java/util/AbstractMap$ViewCollection"), (0, .class_ 184), (0, u "java/util/AbstractMap$SimpleImmutableEntry"), (0, .class_ 186), (0, u "java/util/AbstractMap$SimpleEntry"), (0, .class_ 188), (0, u "java/util/AbstractMap$2$1"), (0, .class_ 190), (0, u "java/util/AbstractMap$1$1")] 5

def k12c0 : Code := { maxStack := 1, maxLocals := 1, code := jdk_71_method_1_code, exceptionTable := #[], attributes := #[] }
def k12m0 : Method := { name := "<init>", desc := "()V", sig := { parameters := [], returnType := none }, accessFlags := 4, code := some k12c0 }
/-- java/util/AbstractMap -/
def k12 : Class := { plain "java/util/AbstractMap" (some 0) with
  accessFlags := 1057
  interfaces := #[11]
  cf := some (fileOf pool12 8 #[.nestMembers #[181, 183, 185, 75, 187, 66, 189]] #[{ accessFlags := 4, nameIndex := 5, descriptorIndex := 6, attributes := #[] }] 1057 2 #[53] #[{ accessFlags := 128, nameIndex := 64, descriptorIndex := 65, attributes := #[] }, { accessFlags := 128, nameIndex := 73, descriptorIndex := 74, attributes := #[] }])
  fields := #[{ name := "keySet", type := (.object "java/util/Set"), accessFlags := 128, slot := 0, constantValue := 0 }, { name := "values", type := (.object "java/util/Collection"), accessFlags := 128, slot := 1, constantValue := 0 }]
  methods := #[k12m0]
  instanceTypes := #[(.object "java/util/Set"), (.object "java/util/Collection")]
  staticTypes := #[]
  resolved := Array.replicate 196 none
  statics := none }

def pool13 : Array CpInfo := pool [(40, .class_ 41), (0, u "java/util/HashMap"), (1, .methodref 44 45), (0, .class_ 46), (0, .nameAndType 47 48), (0, u "java/util/AbstractMap"), (0, u "<init>"), (0, u "()V"), (32, .fieldref 40 82), (0, .nameAndType 83 84), (0, u "loadFactor"), (0, u "F"), (5, u "threshold"), (0, u "I"), (0, .float 1061158912), (8, .class_ 103), (1, u "java/util/Map"), (0, u "size"), (2, u "table"), (0, u "[Ljava/util/HashMap$Node;"), (14, u "entrySet"), (39, .class_ 165), (1, u "java/util/HashMap$Node"), (14, .class_ 181), (0, u "java/util/HashMap$TreeNode"), (22, u "modCount"), (37, u "Ljava/util/Set;"), (0, .class_ 244), (0, u "java/util/HashMap$KeySet"), (18, .class_ 264), (0, u "java/util/HashMap$Values"), (3, .class_ 269), (0, u "java/util/HashMap$EntrySet"), (76, .class_ 348), (1, u "java/util/HashMap$UnsafeHolder"), (43, .class_ 393), (0, u "java/lang/Cloneable"), (0, .class_ 395), (0, u "java/io/Serializable"), (0, u "serialVersionUID"), (0, u "J"), (3, u "DEFAULT_INITIAL_CAPACITY"), (1, u "MAXIMUM_CAPACITY"), (0, u "DEFAULT_LOAD_FACTOR"), (0, u "TREEIFY_THRESHOLD"), (1, u "UNTREEIFY_THRESHOLD"), (1, u "MIN_TREEIFY_CAPACITY"), (186, .class_ 597), (0, u "java/util/HashMap$EntrySpliterator"), (0, .class_ 599), (0, u "java/util/HashMap$ValueSpliterator"), (0, .class_ 601), (0, u "java/util/HashMap$KeySpliterator"), (0, .class_ 603), (0, u "java/util/HashMap$HashMapSpliterator"), (0, .class_ 605), (0, u "java/util/HashMap$EntryIterator"), (0, .class_ 607), (0, u "java/util/HashMap$ValueIterator"), (0, .class_ 609), (0, u "java/util/HashMap$KeyIterator"), (0, .class_ 611), (0, u "java/util/HashMap$HashIterator")] 17

def k13c0 : Code := { maxStack := 2, maxLocals := 1, code := jdk_69_method_7_code, exceptionTable := #[], attributes := #[] }
def k13m0 : Method := { name := "<init>", desc := "()V", sig := { parameters := [], returnType := none }, accessFlags := 1, code := some k13c0 }
/-- java/util/HashMap -/
def k13 : Class := { plain "java/util/HashMap" (some 12) with
  accessFlags := 33
  interfaces := #[11, 8, 9]
  cf := some (fileOf pool13 40 #[.nestMembers #[180, 596, 598, 600, 602, 604, 606, 608, 610, 346, 268, 263, 243, 163]] #[{ accessFlags := 1, nameIndex := 47, descriptorIndex := 48, attributes := #[] }] 33 44 #[101, 392, 394] #[{ accessFlags := 26, nameIndex := 396, descriptorIndex := 397, attributes := #[] }, { accessFlags := 24, nameIndex := 401, descriptorIndex := 91, attributes := #[] }, { accessFlags := 24, nameIndex := 403, descriptorIndex := 91, attributes := #[] }, { accessFlags := 24, nameIndex := 404, descriptorIndex := 84, attributes := #[] }, { accessFlags := 24, nameIndex := 405, descriptorIndex := 91, attributes := #[] }, { accessFlags := 24, nameIndex := 407, descriptorIndex := 91, attributes := #[] }, { accessFlags := 24, nameIndex := 409, descriptorIndex := 91, attributes := #[] }, { accessFlags := 128, nameIndex := 107, descriptorIndex := 108, attributes := #[] }, { accessFlags := 128, nameIndex := 123, descriptorIndex := 242, attributes := #[] }, { accessFlags := 128, nameIndex := 104, descriptorIndex := 91, attributes := #[] }, { accessFlags := 128, nameIndex := 204, descriptorIndex := 91, attributes := #[] }, { accessFlags := 0, nameIndex := 90, descriptorIndex := 91, attributes := #[] }, { accessFlags := 16, nameIndex := 83, descriptorIndex := 84, attributes := #[] }])
  fields := #[{ name := "serialVersionUID", type := .long, accessFlags := 26, slot := 0, constantValue := 0 }, { name := "DEFAULT_INITIAL_CAPACITY", type := .int, accessFlags := 24, slot := 1, constantValue := 0 }, { name := "MAXIMUM_CAPACITY", type := .int, accessFlags := 24, slot := 2, constantValue := 0 }, { name := "DEFAULT_LOAD_FACTOR", type := .float, accessFlags := 24, slot := 3, constantValue := 0 }, { name := "TREEIFY_THRESHOLD", type := .int, accessFlags := 24, slot := 4, constantValue := 0 }, { name := "UNTREEIFY_THRESHOLD", type := .int, accessFlags := 24, slot := 5, constantValue := 0 }, { name := "MIN_TREEIFY_CAPACITY", type := .int, accessFlags := 24, slot := 6, constantValue := 0 }, { name := "table", type := (.array (.object "java/util/HashMap$Node")), accessFlags := 128, slot := 2, constantValue := 0 }, { name := "entrySet", type := (.object "java/util/Set"), accessFlags := 128, slot := 3, constantValue := 0 }, { name := "size", type := .int, accessFlags := 128, slot := 4, constantValue := 0 }, { name := "modCount", type := .int, accessFlags := 128, slot := 5, constantValue := 0 }, { name := "threshold", type := .int, accessFlags := 0, slot := 6, constantValue := 0 }, { name := "loadFactor", type := .float, accessFlags := 16, slot := 7, constantValue := 0 }]
  methods := #[k13m0]
  instanceTypes := #[(.object "java/util/Set"), (.object "java/util/Collection"), (.array (.object "java/util/HashMap$Node")), (.object "java/util/Set"), .int, .int, .int, .float]
  staticTypes := #[.long, .int, .int, .float, .int, .int, .int]
  resolved := Array.replicate 629 none
  statics := none }

def pool14 : Array CpInfo := pool [(1, .class_ 2), (0, u "java/lang/Math"), (1, .class_ 6), (1, u "java/lang/Object"), (0, u "<init>"), (0, u "()V"), (89, .class_ 100), (1, u "java/lang/Math$RandomNumberGeneratorHolder"), (71, u "negativeZeroFloatBits"), (0, u "J"), (2, u "negativeZeroDoubleBits"), (21, u "max"), (46, u "$assertionsDisabled"), (0, u "Z"), (88, u "(II)I"), (2, u "twoToTheDoubleScaleDown"), (0, u "D"), (4, u "twoToTheDoubleScaleUp"), (9, u "E"), (3, u "PI"), (2, u "TAU"), (2, u "DEGREES_TO_RADIANS"), (0, u "RADIANS_TO_DEGREES")] 94

def k14m0 : Method := { name := "<init>", desc := "()V", sig := { parameters := [], returnType := none }, accessFlags := 2, code := none }
def k14c1 : Code := { maxStack := 2, maxLocals := 2, code := jdk_29_method_65_code, exceptionTable := #[], attributes := #[] }
def k14m1 : Method := { name := "max", desc := "(II)I", sig := { parameters := [.int, .int], returnType := some .int }, accessFlags := 9, code := some k14c1 }
/-- java/lang/Math -/
def k14 : Class := { plain "java/lang/Math" (some 0) with
  accessFlags := 49
  interfaces := #[]
  cf := some (fileOf pool14 1 #[.nestMembers #[98]] #[{ accessFlags := 2, nameIndex := 7, descriptorIndex := 8, attributes := #[] }, { accessFlags := 9, nameIndex := 198, descriptorIndex := 335, attributes := #[] }] 49 4 #[] #[{ accessFlags := 25, nameIndex := 354, descriptorIndex := 339, attributes := #[] }, { accessFlags := 25, nameIndex := 358, descriptorIndex := 339, attributes := #[] }, { accessFlags := 25, nameIndex := 361, descriptorIndex := 339, attributes := #[] }, { accessFlags := 26, nameIndex := 364, descriptorIndex := 339, attributes := #[] }, { accessFlags := 26, nameIndex := 365, descriptorIndex := 339, attributes := #[] }, { accessFlags := 26, nameIndex := 172, descriptorIndex := 173, attributes := #[] }, { accessFlags := 26, nameIndex := 176, descriptorIndex := 173, attributes := #[] }, { accessFlags := 8, nameIndex := 344, descriptorIndex := 339, attributes := #[] }, { accessFlags := 8, nameIndex := 338, descriptorIndex := 339, attributes := #[] }, { accessFlags := 4120, nameIndex := 245, descriptorIndex := 246, attributes := #[] }])
  fields := #[{ name := "E", type := .double, accessFlags := 25, slot := 0, constantValue := 0 }, { name := "PI", type := .double, accessFlags := 25, slot := 1, constantValue := 0 }, { name := "TAU", type := .double, accessFlags := 25, slot := 2, constantValue := 0 }, { name := "DEGREES_TO_RADIANS", type := .double, accessFlags := 26, slot := 3, constantValue := 0 }, { name := "RADIANS_TO_DEGREES", type := .double, accessFlags := 26, slot := 4, constantValue := 0 }, { name := "negativeZeroFloatBits", type := .long, accessFlags := 26, slot := 5, constantValue := 0 }, { name := "negativeZeroDoubleBits", type := .long, accessFlags := 26, slot := 6, constantValue := 0 }, { name := "twoToTheDoubleScaleUp", type := .double, accessFlags := 8, slot := 7, constantValue := 0 }, { name := "twoToTheDoubleScaleDown", type := .double, accessFlags := 8, slot := 8, constantValue := 0 }, { name := "$assertionsDisabled", type := .boolean, accessFlags := 4120, slot := 9, constantValue := 0 }]
  methods := #[k14m0, k14m1]
  instanceTypes := #[]
  staticTypes := #[.double, .double, .double, .double, .double, .long, .long, .double, .double, .boolean]
  resolved := Array.replicate 460 none
  statics := none }

/-- the primitive boolean -/
def k15 : Class := { plain "boolean" none with kind := .primitive 'Z', accessFlags := 0x411 }
/-- [Z -/
def k16 : Class := { plain "[Z" (some 0) with kind := .array 15 .boolean, interfaces := #[8, 9], accessFlags := 1041 }

/-- the primitive byte -/
def k17 : Class := { plain "byte" none with kind := .primitive 'B', accessFlags := 0x411 }
/-- [B -/
def k18 : Class := { plain "[B" (some 0) with kind := .array 17 .byte, interfaces := #[8, 9], accessFlags := 1041 }

/-- the primitive int -/
def k19 : Class := { plain "int" none with kind := .primitive 'I', accessFlags := 0x411 }
/-- [I -/
def k20 : Class := { plain "[I" (some 0) with kind := .array 19 .int, interfaces := #[8, 9], accessFlags := 1041 }

def heap : Heap := #[]
def classes : Array Class := #[k0, k1, k2, k3, k4, k5, k6, k7, k8, k9, k10, k11, k12, k13, k14, k15, k16, k17, k18, k19, k20]
def interned : List (Array UInt16 × Addr) := []
def slotsUsed : Nat := 0
def theMethod : MethodId := ⟨1, 4⟩
def args0 : Array Value := #[.int 3, .int 4, .int 5, .int 6, .int 7, .int 8]
def aboutOver (below : List Frame) : State where
  vm := { classes := classes, interned := interned.toArray }
  heap := heap
  slotsUsed := slotsUsed
  threads := #[{ frames := .invoking theMethod args0 :: below }]
def below0 : List Frame := [.native { method := ⟨0, 0⟩, args := #[] }]
def about1 : State := aboutOver below0
def p0 : Program := .bare "" "" ""
def e0 : Env := launch0.env 0 0 0
theorem w_frames : about1.frames = Frame.invoking theMethod args0 :: below0 := rfl
set_option maxRecDepth 65536 in
theorem w_args : argsFit about1.vm theMethod args0 = true := by decide +kernel
set_option maxRecDepth 65536 in
theorem w_heap : heapFits about1 = true := by decide +kernel
set_option maxRecDepth 65536 in
theorem w_runnable : about1.curStatus? = some .runnable := by decide +kernel
set_option maxRecDepth 65536 in
theorem w_alone : about1.alone = true := by decide +kernel
set_option maxRecDepth 65536 in
theorem w_named : about1.methodNamed? x = some theMethod := by decide +kernel
set_option maxRecDepth 65536 in
theorem w_hears : about1.hears theMethod below0 = true := by decide +kernel
set_option maxRecDepth 65536 in
theorem w_ripe : about1.ripe theMethod args0 below0 = true := by decide +kernel
theorem w_running : about1.status = .running := rfl
set_option maxRecDepth 65536 in
theorem w_room : about1.hasRoom e0.platform room_1 = true :=
  launch0.hasRoom_least _ room_1 (by decide +kernel) (by decide +kernel) (by decide +kernel) (by decide +kernel) (by decide +kernel) (by decide +kernel)
theorem allAtoms_all (ts : List Jvm.Cond) (a : Array Jvm.Value) (st : Jvm.State) : (allAtoms ts).before a st = ts.all (fun c => c.before a st) := by
  induction ts with
  | nil => rfl
  | cons c t ih =>
    show (Jvm.Cond.and c (allAtoms t)).before a st = _
    rw [Jvm.Cond.before_and, ih, List.all_cons]
def words1 : List Jvm.Cond := Jvm.Cond.code x code maxLocals ret :: tables_1
/-- a 'code' word, met by the world's own term for the bytes: nothing is compared byte by byte -/
theorem code_word {y : MethodName} {bytes : ByteArray} {mx : Nat} {rt : Option FieldType} {a : Array Value} {s : State} {m : MethodId} {meth : Method} {c : Code} (h1 : s.methodNamed? y = some m) (h2 : s.vm.method? m = some meth) (h3 : meth.code = some c) (h4 : c.code = bytes)
    (h5 : (c.maxLocals == mx && c.exceptionTable.isEmpty && decide (c.maxStack ≤ mostOperands) && decide (meth.sig.returnType = rt) && !meth.locks && decide (parseMethodDescriptor y.desc = some meth.sig)) = true) : (Jvm.Cond.code y bytes mx rt).before a s = true := by
  simp only [Bool.and_eq_true, beq_iff_eq, Bool.not_eq_true', decide_eq_true_eq] at h5
  obtain ⟨⟨⟨⟨⟨g1, g2⟩, g3⟩, g4⟩, g5⟩, g6⟩ := h5
  simp [Cond.before, Cond.holds, Cond.value, h1, h2, h3, h4, g1, g2, g3, g4, g5, g6]
def isCode : Jvm.Cond → Bool
  | .code _ _ _ _ => true
  | _ => false
theorem all_split {L : List Jvm.Cond} {P : Jvm.Cond → Bool} (h1 : L.all (fun c => isCode c || P c) = true) (h2 : ∀ c ∈ L.filter isCode, P c = true) : L.all P = true := by
  refine List.all_eq_true.mpr fun c hc => ?_
  have h := List.all_eq_true.mp h1 c hc
  rcases Bool.eq_false_or_eq_true (isCode c) with hi | hi
  · exact h2 c (List.mem_filter.mpr ⟨hc, hi⟩)
  · simpa [hi] using h
set_option maxRecDepth 65536 in
theorem w_c0 : (Jvm.Cond.code x code maxLocals ret).before args0 about1 = true := code_word (m := ⟨1, 4⟩) (meth := k1m4) (c := k1c4) (by decide +kernel) rfl rfl rfl (by decide +kernel)
set_option maxRecDepth 65536 in
theorem w_c1 : (Jvm.Cond.code ({ cls := "com/example/even_keel/evenkeel/plan/MemberNames", name := "<init>", desc := "(I)V" } : Jvm.MethodName) prog_104_method_1_code (2 : Nat) (Option.none : Option Jvm.ClassFile.FieldType)).before args0 about1 = true := code_word (m := ⟨2, 0⟩) (meth := k2m0) (c := k2c0) (by decide +kernel) rfl rfl rfl (by decide +kernel)
set_option maxRecDepth 65536 in
theorem w_c2 : (Jvm.Cond.code ({ cls := "java/lang/Object", name := "<init>", desc := "()V" } : Jvm.MethodName) object_method_1_code (1 : Nat) (Option.none : Option Jvm.ClassFile.FieldType)).before args0 about1 = true := code_word (m := ⟨0, 0⟩) (meth := k0m0) (c := k0c0) (by decide +kernel) rfl rfl rfl (by decide +kernel)
set_option maxRecDepth 65536 in
theorem w_c3 : (Jvm.Cond.code ({ cls := "java/util/HashSet", name := "<init>", desc := "()V" } : Jvm.MethodName) jdk_93_method_1_code (1 : Nat) (Option.none : Option Jvm.ClassFile.FieldType)).before args0 about1 = true := code_word (m := ⟨10, 0⟩) (meth := k10m0) (c := k10c0) (by decide +kernel) rfl rfl rfl (by decide +kernel)
set_option maxRecDepth 65536 in
theorem w_c4 : (Jvm.Cond.code ({ cls := "java/util/AbstractSet", name := "<init>", desc := "()V" } : Jvm.MethodName) jdk_91_method_1_code (1 : Nat) (Option.none : Option Jvm.ClassFile.FieldType)).before args0 about1 = true := code_word (m := ⟨7, 0⟩) (meth := k7m0) (c := k7c0) (by decide +kernel) rfl rfl rfl (by decide +kernel)
set_option maxRecDepth 65536 in
theorem w_c5 : (Jvm.Cond.code ({ cls := "java/util/AbstractCollection", name := "<init>", desc := "()V" } : Jvm.MethodName) jdk_22_method_1_code (1 : Nat) (Option.none : Option Jvm.ClassFile.FieldType)).before args0 about1 = true := code_word (m := ⟨5, 0⟩) (meth := k5m0) (c := k5c0) (by decide +kernel) rfl rfl rfl (by decide +kernel)
set_option maxRecDepth 65536 in
theorem w_c6 : (Jvm.Cond.code ({ cls := "java/util/HashMap", name := "<init>", desc := "()V" } : Jvm.MethodName) jdk_69_method_7_code (1 : Nat) (Option.none : Option Jvm.ClassFile.FieldType)).before args0 about1 = true := code_word (m := ⟨13, 0⟩) (meth := k13m0) (c := k13c0) (by decide +kernel) rfl rfl rfl (by decide +kernel)
set_option maxRecDepth 65536 in
theorem w_c7 : (Jvm.Cond.code ({ cls := "java/util/AbstractMap", name := "<init>", desc := "()V" } : Jvm.MethodName) jdk_71_method_1_code (1 : Nat) (Option.none : Option Jvm.ClassFile.FieldType)).before args0 about1 = true := code_word (m := ⟨12, 0⟩) (meth := k12m0) (c := k12c0) (by decide +kernel) rfl rfl rfl (by decide +kernel)
set_option maxRecDepth 65536 in
theorem w_c8 : (Jvm.Cond.code ({ cls := "com/example/even_keel/evenkeel/plan/MemberNames", name := "take", desc := "(I)V" } : Jvm.MethodName) prog_104_method_10_code (2 : Nat) (Option.none : Option Jvm.ClassFile.FieldType)).before args0 about1 = true := code_word (m := ⟨2, 1⟩) (meth := k2m1) (c := k2c1) (by decide +kernel) rfl rfl rfl (by decide +kernel)
set_option maxRecDepth 65536 in
theorem w_c9 : (Jvm.Cond.code ({ cls := "java/lang/Math", name := "max", desc := "(II)I" } : Jvm.MethodName) jdk_29_method_65_code (2 : Nat) (Option.some Jvm.ClassFile.FieldType.int)).before args0 about1 = true := code_word (m := ⟨14, 1⟩) (meth := k14m1) (c := k14c1) (by decide +kernel) rfl rfl rfl (by decide +kernel)
set_option maxRecDepth 65536 in
theorem w_c10 : (Jvm.Cond.code ({ cls := "com/example/even_keel/evenkeel/plan/MemberNames", name := "numbersInNameOrder", desc := "()[I" } : Jvm.MethodName) prog_104_method_14_code (7 : Nat) (Option.some (Jvm.ClassFile.FieldType.array Jvm.ClassFile.FieldType.int))).before args0 about1 = true := code_word (m := ⟨2, 2⟩) (meth := k2m2) (c := k2c2) (by decide +kernel) rfl rfl rfl (by decide +kernel)
set_option maxRecDepth 65536 in
theorem w_c11 : (Jvm.Cond.code ({ cls := "com/example/even_keel/evenkeel/plan/MemberNamesNumbersInNameOrderPinLaw", name := "okAt", desc := "([III[II)Z" } : Jvm.MethodName) method_4_code (7 : Nat) (Option.some Jvm.ClassFile.FieldType.boolean)).before args0 about1 = true := code_word (m := ⟨1, 3⟩) (meth := k1m3) (c := k1c3) (by decide +kernel) rfl rfl rfl (by decide +kernel)
set_option maxRecDepth 65536 in
theorem w_c12 : (Jvm.Cond.code ({ cls := "com/example/even_keel/evenkeel/plan/MemberNamesNumbersInNameOrderPinLaw", name := "inTaken", desc := "(I[II)Z" } : Jvm.MethodName) method_3_code (3 : Nat) (Option.some Jvm.ClassFile.FieldType.boolean)).before args0 about1 = true := code_word (m := ⟨1, 2⟩) (meth := k1m2) (c := k1c2) (by decide +kernel) rfl rfl rfl (by decide +kernel)
set_option maxRecDepth 65536 in
theorem w_c13 : (Jvm.Cond.code ({ cls := "com/example/even_keel/evenkeel/plan/MemberNamesNumbersInNameOrderPinLaw", name := "key", desc := "(I)I" } : Jvm.MethodName) method_2_code (1 : Nat) (Option.some Jvm.ClassFile.FieldType.int)).before args0 about1 = true := code_word (m := ⟨1, 1⟩) (meth := k1m1) (c := k1c1) (by decide +kernel) rfl rfl rfl (by decide +kernel)
def codes1 : List Jvm.Cond := [Jvm.Cond.code x code maxLocals ret, Jvm.Cond.code ({ cls := "com/example/even_keel/evenkeel/plan/MemberNames", name := "<init>", desc := "(I)V" } : Jvm.MethodName) prog_104_method_1_code (2 : Nat) (Option.none : Option Jvm.ClassFile.FieldType), Jvm.Cond.code ({ cls := "java/lang/Object", name := "<init>", desc := "()V" } : Jvm.MethodName) object_method_1_code (1 : Nat) (Option.none : Option Jvm.ClassFile.FieldType), Jvm.Cond.code ({ cls := "java/util/HashSet", name := "<init>", desc := "()V" } : Jvm.MethodName) jdk_93_method_1_code (1 : Nat) (Option.none : Option Jvm.ClassFile.FieldType), Jvm.Cond.code ({ cls := "java/util/AbstractSet", name := "<init>", desc := "()V" } : Jvm.MethodName) jdk_91_method_1_code (1 : Nat) (Option.none : Option Jvm.ClassFile.FieldType), Jvm.Cond.code ({ cls := "java/util/AbstractCollection", name := "<init>", desc := "()V" } : Jvm.MethodName) jdk_22_method_1_code (1 : Nat) (Option.none : Option Jvm.ClassFile.FieldType), Jvm.Cond.code ({ cls := "java/util/HashMap", name := "<init>", desc := "()V" } : Jvm.MethodName) jdk_69_method_7_code (1 : Nat) (Option.none : Option Jvm.ClassFile.FieldType), Jvm.Cond.code ({ cls := "java/util/AbstractMap", name := "<init>", desc := "()V" } : Jvm.MethodName) jdk_71_method_1_code (1 : Nat) (Option.none : Option Jvm.ClassFile.FieldType), Jvm.Cond.code ({ cls := "com/example/even_keel/evenkeel/plan/MemberNames", name := "take", desc := "(I)V" } : Jvm.MethodName) prog_104_method_10_code (2 : Nat) (Option.none : Option Jvm.ClassFile.FieldType), Jvm.Cond.code ({ cls := "java/lang/Math", name := "max", desc := "(II)I" } : Jvm.MethodName) jdk_29_method_65_code (2 : Nat) (Option.some Jvm.ClassFile.FieldType.int), Jvm.Cond.code ({ cls := "com/example/even_keel/evenkeel/plan/MemberNames", name := "numbersInNameOrder", desc := "()[I" } : Jvm.MethodName) prog_104_method_14_code (7 : Nat) (Option.some (Jvm.ClassFile.FieldType.array Jvm.ClassFile.FieldType.int)), Jvm.Cond.code ({ cls := "com/example/even_keel/evenkeel/plan/MemberNamesNumbersInNameOrderPinLaw", name := "okAt", desc := "([III[II)Z" } : Jvm.MethodName) method_4_code (7 : Nat) (Option.some Jvm.ClassFile.FieldType.boolean), Jvm.Cond.code ({ cls := "com/example/even_keel/evenkeel/plan/MemberNamesNumbersInNameOrderPinLaw", name := "inTaken", desc := "(I[II)Z" } : Jvm.MethodName) method_3_code (3 : Nat) (Option.some Jvm.ClassFile.FieldType.boolean), Jvm.Cond.code ({ cls := "com/example/even_keel/evenkeel/plan/MemberNamesNumbersInNameOrderPinLaw", name := "key", desc := "(I)I" } : Jvm.MethodName) method_2_code (1 : Nat) (Option.some Jvm.ClassFile.FieldType.int)]
set_option maxRecDepth 65536 in
theorem codes_eq : words1.filter isCode = codes1 := rfl
theorem w_codes : ∀ c ∈ words1.filter isCode, c.before args0 about1 = true := by
  rw [codes_eq]
  intro c hc
  simp only [codes1, List.mem_cons, List.not_mem_nil, or_false] at hc
  rcases hc with rfl | rfl | rfl | rfl | rfl | rfl | rfl | rfl | rfl | rfl | rfl | rfl | rfl | rfl
  · exact w_c0
  · exact w_c1
  · exact w_c2
  · exact w_c3
  · exact w_c4
  · exact w_c5
  · exact w_c6
  · exact w_c7
  · exact w_c8
  · exact w_c9
  · exact w_c10
  · exact w_c11
  · exact w_c12
  · exact w_c13
set_option maxRecDepth 65536 in
theorem w_t1 : (words1.take 24).all (fun c => isCode c || c.before args0 about1) = true := by decide +kernel
set_option maxRecDepth 65536 in
theorem w_t2 : ((words1.drop 24).take 24).all (fun c => isCode c || c.before args0 about1) = true := by decide +kernel
set_option maxRecDepth 65536 in
theorem w_t3 : (((words1.drop 24).drop 24).take 24).all (fun c => isCode c || c.before args0 about1) = true := by decide +kernel
set_option maxRecDepth 65536 in
theorem w_t4 : (((words1.drop 24).drop 24).drop 24).all (fun c => isCode c || c.before args0 about1) = true := by decide +kernel
theorem w_tables : (allAtoms (Jvm.Cond.code x code maxLocals ret :: tables_1)).before args0 about1 = true := by
  rw [allAtoms_all]
  show words1.all (fun c => c.before args0 about1) = true
  refine all_split ?_ w_codes
  rw [← List.take_append_drop 24 words1, List.all_append, w_t1, ← List.take_append_drop 24 (words1.drop 24), List.all_append, w_t2, ← List.take_append_drop 24 ((words1.drop 24).drop 24), List.all_append, w_t3, w_t4]
  rfl
set_option maxRecDepth 65536 in
theorem w_case : (Jvm.Cond.and given_1 narrow_1).before args0 about1 = true := by decide +kernel
theorem w_applies : (headSpec (Jvm.Cond.code x code maxLocals ret :: tables_1) room_1).applies x e0.platform about1 = true :=
  (Spec.applies_iff w_frames).mpr ⟨w_running, w_runnable, w_alone, w_named, w_hears, w_ripe, w_room, w_tables⟩
theorem atStart : AtStart classFile x code maxLocals ret World_1 tables_1 room_1 Calls_1 rest_1 Pre_1 launch0 p0 e0 about1 theMethod args0 below0 :=
  ⟨lists_1, trivial, launch0.admits_env _ _ _, launch0.least_env, fairChoices_fair.cas, fairChoices_fair.clock, w_frames, w_args, w_heap, w_applies, trivial, trivial, w_case⟩
end start1
theorem witness_1 : WitnessClaimed_1 := ⟨start1.p0, start1.e0, start1.about1, start1.theMethod, start1.args0, start1.below0, start1.atStart⟩
end Jvm.Pilot.@@N@@
