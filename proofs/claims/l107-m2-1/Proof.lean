import JvmDerived
import JvmDerived.Pilot.@@N@@Statement
import JvmDerived.Pilot.@@N@@Code
set_option linter.unusedVariables false
set_option linter.unusedSimpArgs false
namespace Jvm.OwnKit
open Sem ClassFile Op Lib Jvm.Stand Jvm.Free Jvm.LawKit Jvm.RoadKit
/-- from this pc, with these locals, this stack and this heap, the body returns and Q holds -/
def Go (Z : State) (l : Launch) (R : Room) (B : ByteArray) (ml : Nat) (own : String) (rt : Option FieldType) (mn : String) (pc : Nat) (Ls : Array Slot) (st : List Value) (h : Heap) (L : List Loc) (k n : Nat) (Q : Option Value → Heap → List Loc → Prop) : Prop :=
  ∀ (p : Program) (e : Env) (s : State) (m : MethodId) (args : Array Value) (below : List Frame) (meth : Method) (c : Code) (T : State),
    Stand p l e R s m args below meth c T L k n → p.tables.exec = Jvm.exec → Z.Warmed39 s.vm → c.code = B → c.maxLocals = ml → s.vm.findClass own = some m.cls → meth.sig.returnType = rt → meth.locks = false → meth.name = mn → T.heap = h →
    ∃ s₂ o, Steps p.tables e below (T.setTop (mkF m pc Ls st)) s₂ ∧ s₂.status = .running ∧ Ended s₂ below o ∧ ∃ v L', o = .returned v ∧ Q v s₂.heap L' ∧ FrameEnd s o s₂ L' R.cells R.slots
/-- a callee's contract at these arguments and this heap -/
def Con (l : Launch) (Z : State) (y : MethodName) (B : ByteArray) (ml : Nat) (rt : Option FieldType) (R : Room) (ws : List Jvm.Cond) (as' : Array Value) (h0 : Heap) (Q : Option Value → Heap → List Loc → Prop) : Prop :=
  MetFree l y (head1 (Jvm.Cond.code y B ml rt :: ws) R) (fun a U => a = as' ∧ Z.Warmed39 U.vm ∧ U.heap = h0) (fun _ _ _ _ _ => True) (fun _ U o U' => ∃ v L, o = .returned v ∧ Q v U'.heap L ∧ FrameEnd U o U' L R.cells R.slots)
/-- the law returns true, and nothing old was written -/
def LawQ (n0 : Nat) (v : Option Value) (_ : Heap) (L : List Loc) : Prop := v = some (.int (1 : Int32)) ∧ Fr n0 L
/-- it returns v0, and nothing was written or made -/
def PQ (h0 : Heap) (v0 : Option Value) (v : Option Value) (h : Heap) (L : List Loc) : Prop := v = v0 ∧ h = h0 ∧ L = []
theorem con_of {l : Launch} {Z : State} {y : MethodName} {B : ByteArray} {ml : Nat} {rt : Option FieldType} {R : Room} {ws : List Jvm.Cond} {as' : Array Value} {h0 : Heap} {Q : Option Value → Heap → List Loc → Prop} {Ls : Array Slot}
    (hp : plainFor y = true) (ef : ∀ m, entryFrame m as' ml = mkF m 0 Ls []) (g : Go Z l R B ml y.cls rt y.name 0 Ls [] h0 [] 0 0 Q) : Con l Z y B ml rt R ws as' h0 Q := by
  refine MetFree.of_bodySF hp hisR ?_
  intro p e s m args below meth c s₁ Bd hml0 hP hK
  obtain ⟨rfl, hZ, hh⟩ := hP
  have e0 : s₁.heap = h0 := by rw [← hh, Bd.state]; rfl
  obtain ⟨s₂, o, h1, h2⟩ := g p e s m _ below meth c s₁ (Stand.of_body Bd) Bd.exec hZ Bd.bytes hml0 (findClass_of_methodNamed Bd.named) Bd.returns (BodyLoose.notSynchronized Bd) (name_of_methodNamed Bd.named Bd.method).1 e0
  exact ⟨s₂, o, castTop (ef m) h1, h2⟩
theorem Con.mono {l : Launch} {Z : State} {y : MethodName} {B : ByteArray} {ml : Nat} {rt : Option FieldType} {R : Room} {ws : List Jvm.Cond} {as' : Array Value} {h0 : Heap} {Q Q' : Option Value → Heap → List Loc → Prop} (c : Con l Z y B ml rt R ws as' h0 Q) (q : ∀ v h L, Q v h L → Q' v h L) : Con l Z y B ml rt R ws as' h0 Q' := by
  intro p e ha hc hk s m args below hf happ hP hK
  obtain ⟨n, o, h1, h2, h3, v, L, h4, h5, h6⟩ := c p e ha hc hk s m args below hf happ hP hK
  exact ⟨n, o, h1, h2, h3, v, L, h4, q _ _ _ h5, h6⟩
theorem fr_one {q : Nat} {L : List Loc} {a : Addr} {sl : Nat} (N : Fr q L) (g : q ≤ a) : Fr q (L ++ [⟨a, sl⟩]) := N.app fun y hy => by cases List.mem_singleton.mp hy; exact g
section Rules
variable {Z : State} {l : Launch} {R : Room} {B : ByteArray} {ml : Nat} {own : String} {rt : Option FieldType} {mn : String} {pc pc' : Nat} {Ls : Array Slot} {h : Heap} {L : List Loc} {k n : Nat} {Q : Option Value → Heap → List Loc → Prop} {rest : List Value}
theorem Go.mono {st : List Value} {Q' : Option Value → Heap → List Loc → Prop} (q : ∀ v h L, Q v h L → Q' v h L) (g : Go Z l R B ml own rt mn pc Ls st h L k n Q) : Go Z l R B ml own rt mn pc Ls st h L k n Q' := by
  intro p e s m args below meth c T X hx hZ hby hml hown hrt hlk hnm eT
  obtain ⟨s₂, o, h1, h2, h3, v, L', h4, h5, h6⟩ := g p e s m args below meth c T X hx hZ hby hml hown hrt hlk hnm eT
  exact ⟨s₂, o, h1, h2, h3, v, L', h4, q _ _ _ h5, h6⟩
theorem Go.pure {st st' : List Value} {Ls' : Array Slot} (step : ∀ (p : Program) (e : Env) (below : List Frame) (T : State) (m : MethodId) (c : Code) (target : State), At T m c below → p.tables.exec = Jvm.exec → c.code = B → Steps p.tables e below (T.setTop (mkF m pc' Ls' st')) target → Steps p.tables e below (T.setTop (mkF m pc Ls st)) target)
    (g : Go Z l R B ml own rt mn pc' Ls' st' h L k n Q) : Go Z l R B ml own rt mn pc Ls st h L k n Q := by
  intro p e s m args below meth c T X hx hZ hby hml hown hrt hlk hnm eT
  obtain ⟨s₂, o, h1, h2⟩ := g p e s m args below meth c T X hx hZ hby hml hown hrt hlk hnm eT
  exact ⟨s₂, o, step p e below T m c s₂ X.here hx hby h1, h2⟩
theorem Go.iload {st : List Value} {i : Nat} {v : Int32} (hd : decode B pc = .ok (.iload i, 2)) (hp : pc + 2 = pc') (hl : Ls[i]? = some (.val (.int v))) (g : Go Z l R B ml own rt mn pc' Ls (.int v :: st) h L k n Q) : Go Z l R B ml own rt mn pc Ls st h L k n Q := by
  subst hp; exact Go.pure (fun p e below T m c t hA hx hB hr => XS.iload hA hx rfl (hb hB hd) hl hr) g
theorem Go.iloadN {st : List Value} {i : Fin 4} {v : Int32} (hd : decode B pc = .ok (.iload_n i, 1)) (hp : pc + 1 = pc') (hl : Ls[i.val]? = some (.val (.int v))) (g : Go Z l R B ml own rt mn pc' Ls (.int v :: st) h L k n Q) : Go Z l R B ml own rt mn pc Ls st h L k n Q := by
  subst hp; exact Go.pure (fun p e below T m c t hA hx hB hr => XS.iloadN hA hx rfl (hb hB hd) hl hr) g
theorem Go.lload {st : List Value} {i : Nat} {v : Int64} (hd : decode B pc = .ok (.lload i, 2)) (hp : pc + 2 = pc') (hl : Ls[i]? = some (.val (.long v))) (g : Go Z l R B ml own rt mn pc' Ls (.long v :: st) h L k n Q) : Go Z l R B ml own rt mn pc Ls st h L k n Q := by
  subst hp; exact Go.pure (fun p e below T m c t hA hx hB hr => XS.lload hA hx rfl (hb hB hd) hl hr) g
theorem Go.lloadN {st : List Value} {i : Fin 4} {v : Int64} (hd : decode B pc = .ok (.lload_n i, 1)) (hp : pc + 1 = pc') (hl : Ls[i.val]? = some (.val (.long v))) (g : Go Z l R B ml own rt mn pc' Ls (.long v :: st) h L k n Q) : Go Z l R B ml own rt mn pc Ls st h L k n Q := by
  subst hp; exact Go.pure (fun p e below T m c t hA hx hB hr => XS.lloadN hA hx rfl (hb hB hd) hl hr) g
theorem Go.aload {st : List Value} {i : Nat} {v : Value} (hd : decode B pc = .ok (.aload i, 2)) (hp : pc + 2 = pc') (hl : Ls[i]? = some (.val v)) (hv : v.isRef = true) (g : Go Z l R B ml own rt mn pc' Ls (v :: st) h L k n Q) : Go Z l R B ml own rt mn pc Ls st h L k n Q := by
  subst hp; exact Go.pure (fun p e below T m c t hA hx hB hr => XS.aload hA hx rfl (hb hB hd) hl hv hr) g
theorem Go.aloadN {st : List Value} {i : Fin 4} {v : Value} (hd : decode B pc = .ok (.aload_n i, 1)) (hp : pc + 1 = pc') (hl : Ls[i.val]? = some (.val v)) (hv : v.isRef = true) (g : Go Z l R B ml own rt mn pc' Ls (v :: st) h L k n Q) : Go Z l R B ml own rt mn pc Ls st h L k n Q := by
  subst hp; exact Go.pure (fun p e below T m c t hA hx hB hr => XS.aloadN hA hx rfl (hb hB hd) hl hv hr) g
theorem Go.istore {i : Nat} {v : Int32} {Ls' : Array Slot} (hd : decode B pc = .ok (.istore i, 2)) (hp : pc + 2 = pc') (hl : storeLocals Ls i (.int v) = some Ls') (g : Go Z l R B ml own rt mn pc' Ls' rest h L k n Q) : Go Z l R B ml own rt mn pc Ls (.int v :: rest) h L k n Q := by
  subst hp; exact Go.pure (fun p e below T m c t hA hx hB hr => XS.istore hA hx rfl (hb hB hd) rfl hl hr) g
theorem Go.istoreN {i : Fin 4} {v : Int32} {Ls' : Array Slot} (hd : decode B pc = .ok (.istore_n i, 1)) (hp : pc + 1 = pc') (hl : storeLocals Ls i.val (.int v) = some Ls') (g : Go Z l R B ml own rt mn pc' Ls' rest h L k n Q) : Go Z l R B ml own rt mn pc Ls (.int v :: rest) h L k n Q := by
  subst hp; exact Go.pure (fun p e below T m c t hA hx hB hr => XS.istoreN hA hx rfl (hb hB hd) rfl hl hr) g
theorem Go.lstore {i : Nat} {v : Int64} {Ls' : Array Slot} (hd : decode B pc = .ok (.lstore i, 2)) (hp : pc + 2 = pc') (hl : storeLocals Ls i (.long v) = some Ls') (g : Go Z l R B ml own rt mn pc' Ls' rest h L k n Q) : Go Z l R B ml own rt mn pc Ls (.long v :: rest) h L k n Q := by
  subst hp; exact Go.pure (fun p e below T m c t hA hx hB hr => XS.lstore hA hx rfl (hb hB hd) rfl hl hr) g
theorem Go.lstoreN {i : Fin 4} {v : Int64} {Ls' : Array Slot} (hd : decode B pc = .ok (.lstore_n i, 1)) (hp : pc + 1 = pc') (hl : storeLocals Ls i.val (.long v) = some Ls') (g : Go Z l R B ml own rt mn pc' Ls' rest h L k n Q) : Go Z l R B ml own rt mn pc Ls (.long v :: rest) h L k n Q := by
  subst hp; exact Go.pure (fun p e below T m c t hA hx hB hr => XS.lstoreN hA hx rfl (hb hB hd) rfl hl hr) g
theorem Go.astore {i : Nat} {v : Value} {Ls' : Array Slot} (hd : decode B pc = .ok (.astore i, 2)) (hp : pc + 2 = pc') (hv : v.isRef = true) (hl : storeLocals Ls i v = some Ls') (g : Go Z l R B ml own rt mn pc' Ls' rest h L k n Q) : Go Z l R B ml own rt mn pc Ls (v :: rest) h L k n Q := by
  subst hp; exact Go.pure (fun p e below T m c t hA hx hB hr => XS.astore hA hx rfl (hb hB hd) rfl hv hl hr) g
theorem Go.astoreN {i : Fin 4} {v : Value} {Ls' : Array Slot} (hd : decode B pc = .ok (.astore_n i, 1)) (hp : pc + 1 = pc') (hv : v.isRef = true) (hl : storeLocals Ls i.val v = some Ls') (g : Go Z l R B ml own rt mn pc' Ls' rest h L k n Q) : Go Z l R B ml own rt mn pc Ls (v :: rest) h L k n Q := by
  subst hp; exact Go.pure (fun p e below T m c t hA hx hB hr => XS.astoreN hA hx rfl (hb hB hd) rfl hv hl hr) g
theorem Go.iinc {st : List Value} {i : Nat} {cst : Int} {x z : Int32} {Ls' : Array Slot} (hd : decode B pc = .ok (.iinc i cst, 3)) (hp : pc + 3 = pc') (hv : Ls[i]? = some (.val (.int x))) (hz : x + Int32.ofInt cst = z) (hl : storeLocals Ls i (.int z) = some Ls') (g : Go Z l R B ml own rt mn pc' Ls' st h L k n Q) : Go Z l R B ml own rt mn pc Ls st h L k n Q := by
  subst hz; subst hp; exact Go.pure (fun p e below T m c t hA hx hB hr => XS.iinc hA hx rfl (hb hB hd) hv hl hr) g
theorem Go.iconst {st : List Value} {i : Int} {z : Int32} (hd : decode B pc = .ok (.iconst i, 1)) (hp : pc + 1 = pc') (hz : Int32.ofInt i = z) (g : Go Z l R B ml own rt mn pc' Ls (.int z :: st) h L k n Q) : Go Z l R B ml own rt mn pc Ls st h L k n Q := by
  subst hz; subst hp; exact Go.pure (fun p e below T m c t hA hx hB hr => XS.iconst hA hx rfl (hb hB hd) hr) g
theorem Go.bipush {st : List Value} {i : Int} {z : Int32} (hd : decode B pc = .ok (.bipush i, 2)) (hp : pc + 2 = pc') (hz : (Int8.ofInt i).toInt32 = z) (g : Go Z l R B ml own rt mn pc' Ls (.int z :: st) h L k n Q) : Go Z l R B ml own rt mn pc Ls st h L k n Q := by
  subst hz; subst hp; exact Go.pure (fun p e below T m c t hA hx hB hr => XS.bipush hA hx rfl (hb hB hd) hr) g
theorem Go.sipush {st : List Value} {i : Int} {z : Int32} (hd : decode B pc = .ok (.sipush i, 3)) (hp : pc + 3 = pc') (hz : (Int16.ofInt i).toInt32 = z) (g : Go Z l R B ml own rt mn pc' Ls (.int z :: st) h L k n Q) : Go Z l R B ml own rt mn pc Ls st h L k n Q := by
  subst hz; subst hp; exact Go.pure (fun p e below T m c t hA hx hB hr => XS.sipush hA hx rfl (hb hB hd) hr) g
theorem Go.lconst {st : List Value} {i : Fin 2} {z : Int64} (hd : decode B pc = .ok (.lconst i, 1)) (hp : pc + 1 = pc') (hz : Int64.ofNat i = z) (g : Go Z l R B ml own rt mn pc' Ls (.long z :: st) h L k n Q) : Go Z l R B ml own rt mn pc Ls st h L k n Q := by
  subst hz; subst hp; exact Go.pure (fun p e below T m c t hA hx hB hr => XS.lconst hA hx rfl (hb hB hd) hr) g
theorem Go.aconstNull {st : List Value} (hd : decode B pc = .ok (.aconst_null, 1)) (hp : pc + 1 = pc') (g : Go Z l R B ml own rt mn pc' Ls (.null :: st) h L k n Q) : Go Z l R B ml own rt mn pc Ls st h L k n Q := by
  subst hp; exact Go.pure (fun p e below T m c t hA hx hB hr => XS.aconstNull hA hx rfl (hb hB hd) hr) g
theorem Go.iadd {x y z : Int32} (hd : decode B pc = .ok (.iadd, 1)) (hp : pc + 1 = pc') (hz : x + y = z) (g : Go Z l R B ml own rt mn pc' Ls (.int z :: rest) h L k n Q) : Go Z l R B ml own rt mn pc Ls (.int y :: .int x :: rest) h L k n Q := by
  subst hz; subst hp; exact Go.pure (fun p e below T m c t hA hx hB hr => XS.iadd hA hx rfl (hb hB hd) rfl hr) g
theorem Go.ladd {x y z : Int64} (hd : decode B pc = .ok (.ladd, 1)) (hp : pc + 1 = pc') (hz : x + y = z) (g : Go Z l R B ml own rt mn pc' Ls (.long z :: rest) h L k n Q) : Go Z l R B ml own rt mn pc Ls (.long y :: .long x :: rest) h L k n Q := by
  subst hz; subst hp; exact Go.pure (fun p e below T m c t hA hx hB hr => XS.ladd hA hx rfl (hb hB hd) rfl hr) g
theorem Go.isub {x y z : Int32} (hd : decode B pc = .ok (.isub, 1)) (hp : pc + 1 = pc') (hz : x - y = z) (g : Go Z l R B ml own rt mn pc' Ls (.int z :: rest) h L k n Q) : Go Z l R B ml own rt mn pc Ls (.int y :: .int x :: rest) h L k n Q := by
  subst hz; subst hp; exact Go.pure (fun p e below T m c t hA hx hB hr => XS.isub hA hx rfl (hb hB hd) rfl hr) g
theorem Go.lsub {x y z : Int64} (hd : decode B pc = .ok (.lsub, 1)) (hp : pc + 1 = pc') (hz : x - y = z) (g : Go Z l R B ml own rt mn pc' Ls (.long z :: rest) h L k n Q) : Go Z l R B ml own rt mn pc Ls (.long y :: .long x :: rest) h L k n Q := by
  subst hz; subst hp; exact Go.pure (fun p e below T m c t hA hx hB hr => XS.lsub hA hx rfl (hb hB hd) rfl hr) g
theorem Go.imul {x y z : Int32} (hd : decode B pc = .ok (.imul, 1)) (hp : pc + 1 = pc') (hz : x * y = z) (g : Go Z l R B ml own rt mn pc' Ls (.int z :: rest) h L k n Q) : Go Z l R B ml own rt mn pc Ls (.int y :: .int x :: rest) h L k n Q := by
  subst hz; subst hp; exact Go.pure (fun p e below T m c t hA hx hB hr => XS.imul hA hx rfl (hb hB hd) rfl hr) g
theorem Go.lmul {x y z : Int64} (hd : decode B pc = .ok (.lmul, 1)) (hp : pc + 1 = pc') (hz : x * y = z) (g : Go Z l R B ml own rt mn pc' Ls (.long z :: rest) h L k n Q) : Go Z l R B ml own rt mn pc Ls (.long y :: .long x :: rest) h L k n Q := by
  subst hz; subst hp; exact Go.pure (fun p e below T m c t hA hx hB hr => XS.lmul hA hx rfl (hb hB hd) rfl hr) g
theorem Go.iand {x y z : Int32} (hd : decode B pc = .ok (.iand, 1)) (hp : pc + 1 = pc') (hz : x &&& y = z) (g : Go Z l R B ml own rt mn pc' Ls (.int z :: rest) h L k n Q) : Go Z l R B ml own rt mn pc Ls (.int y :: .int x :: rest) h L k n Q := by
  subst hz; subst hp; exact Go.pure (fun p e below T m c t hA hx hB hr => XS.iand hA hx rfl (hb hB hd) rfl hr) g
theorem Go.land {x y z : Int64} (hd : decode B pc = .ok (.land, 1)) (hp : pc + 1 = pc') (hz : x &&& y = z) (g : Go Z l R B ml own rt mn pc' Ls (.long z :: rest) h L k n Q) : Go Z l R B ml own rt mn pc Ls (.long y :: .long x :: rest) h L k n Q := by
  subst hz; subst hp; exact Go.pure (fun p e below T m c t hA hx hB hr => XS.land hA hx rfl (hb hB hd) rfl hr) g
theorem Go.ior {x y z : Int32} (hd : decode B pc = .ok (.ior, 1)) (hp : pc + 1 = pc') (hz : x ||| y = z) (g : Go Z l R B ml own rt mn pc' Ls (.int z :: rest) h L k n Q) : Go Z l R B ml own rt mn pc Ls (.int y :: .int x :: rest) h L k n Q := by
  subst hz; subst hp; exact Go.pure (fun p e below T m c t hA hx hB hr => XS.ior hA hx rfl (hb hB hd) rfl hr) g
theorem Go.lor {x y z : Int64} (hd : decode B pc = .ok (.lor, 1)) (hp : pc + 1 = pc') (hz : x ||| y = z) (g : Go Z l R B ml own rt mn pc' Ls (.long z :: rest) h L k n Q) : Go Z l R B ml own rt mn pc Ls (.long y :: .long x :: rest) h L k n Q := by
  subst hz; subst hp; exact Go.pure (fun p e below T m c t hA hx hB hr => XS.lor hA hx rfl (hb hB hd) rfl hr) g
theorem Go.ixor {x y z : Int32} (hd : decode B pc = .ok (.ixor, 1)) (hp : pc + 1 = pc') (hz : x ^^^ y = z) (g : Go Z l R B ml own rt mn pc' Ls (.int z :: rest) h L k n Q) : Go Z l R B ml own rt mn pc Ls (.int y :: .int x :: rest) h L k n Q := by
  subst hz; subst hp; exact Go.pure (fun p e below T m c t hA hx hB hr => XS.ixor hA hx rfl (hb hB hd) rfl hr) g
theorem Go.lxor {x y z : Int64} (hd : decode B pc = .ok (.lxor, 1)) (hp : pc + 1 = pc') (hz : x ^^^ y = z) (g : Go Z l R B ml own rt mn pc' Ls (.long z :: rest) h L k n Q) : Go Z l R B ml own rt mn pc Ls (.long y :: .long x :: rest) h L k n Q := by
  subst hz; subst hp; exact Go.pure (fun p e below T m c t hA hx hB hr => XS.lxor hA hx rfl (hb hB hd) rfl hr) g
theorem Go.idiv {x y z : Int32} (hd : decode B pc = .ok (.idiv, 1)) (hp : pc + 1 = pc') (hy : y ≠ 0) (hz : x / y = z) (g : Go Z l R B ml own rt mn pc' Ls (.int z :: rest) h L k n Q) : Go Z l R B ml own rt mn pc Ls (.int y :: .int x :: rest) h L k n Q := by
  subst hz; subst hp; exact Go.pure (fun p e below T m c t hA hx hB hr => XS.idiv hA hx rfl (hb hB hd) rfl hy hr) g
theorem Go.ldiv {x y z : Int64} (hd : decode B pc = .ok (.ldiv, 1)) (hp : pc + 1 = pc') (hy : y ≠ 0) (hz : x / y = z) (g : Go Z l R B ml own rt mn pc' Ls (.long z :: rest) h L k n Q) : Go Z l R B ml own rt mn pc Ls (.long y :: .long x :: rest) h L k n Q := by
  subst hz; subst hp; exact Go.pure (fun p e below T m c t hA hx hB hr => XS.ldiv hA hx rfl (hb hB hd) rfl hy hr) g
theorem Go.irem {x y z : Int32} (hd : decode B pc = .ok (.irem, 1)) (hp : pc + 1 = pc') (hy : y ≠ 0) (hz : x % y = z) (g : Go Z l R B ml own rt mn pc' Ls (.int z :: rest) h L k n Q) : Go Z l R B ml own rt mn pc Ls (.int y :: .int x :: rest) h L k n Q := by
  subst hz; subst hp; exact Go.pure (fun p e below T m c t hA hx hB hr => XS.irem hA hx rfl (hb hB hd) rfl hy (by rw [show x - x / y * y = x % y from irem_eq_mod x y]; exact hr)) g
theorem Go.lrem {x y z : Int64} (hd : decode B pc = .ok (.lrem, 1)) (hp : pc + 1 = pc') (hy : y ≠ 0) (hz : x % y = z) (g : Go Z l R B ml own rt mn pc' Ls (.long z :: rest) h L k n Q) : Go Z l R B ml own rt mn pc Ls (.long y :: .long x :: rest) h L k n Q := by
  subst hz; subst hp; exact Go.pure (fun p e below T m c t hA hx hB hr => XS.lrem hA hx rfl (hb hB hd) rfl hy (by rw [show x - x / y * y = x % y from lrem_mod x y]; exact hr)) g
theorem Go.ishl {x y z : Int32} (hd : decode B pc = .ok (.ishl, 1)) (hp : pc + 1 = pc') (hz : x <<< (y &&& 31) = z) (g : Go Z l R B ml own rt mn pc' Ls (.int z :: rest) h L k n Q) : Go Z l R B ml own rt mn pc Ls (.int y :: .int x :: rest) h L k n Q := by
  subst hz; subst hp; exact Go.pure (fun p e below T m c t hA hx hB hr => XS.ishl hA hx rfl (hb hB hd) rfl hr) g
theorem Go.ishr {x y z : Int32} (hd : decode B pc = .ok (.ishr, 1)) (hp : pc + 1 = pc') (hz : x >>> (y &&& 31) = z) (g : Go Z l R B ml own rt mn pc' Ls (.int z :: rest) h L k n Q) : Go Z l R B ml own rt mn pc Ls (.int y :: .int x :: rest) h L k n Q := by
  subst hz; subst hp; exact Go.pure (fun p e below T m c t hA hx hB hr => XS.ishr hA hx rfl (hb hB hd) rfl hr) g
theorem Go.iushr {x y z : Int32} (hd : decode B pc = .ok (.iushr, 1)) (hp : pc + 1 = pc') (hz : (x.toUInt32 >>> (y &&& 31).toUInt32).toInt32 = z) (g : Go Z l R B ml own rt mn pc' Ls (.int z :: rest) h L k n Q) : Go Z l R B ml own rt mn pc Ls (.int y :: .int x :: rest) h L k n Q := by
  subst hz; subst hp; exact Go.pure (fun p e below T m c t hA hx hB hr => XS.iushr hA hx rfl (hb hB hd) rfl hr) g
theorem Go.lshl {x z : Int64} {y : Int32} (hd : decode B pc = .ok (.lshl, 1)) (hp : pc + 1 = pc') (hz : x <<< (y &&& 0x3f).toInt64 = z) (g : Go Z l R B ml own rt mn pc' Ls (.long z :: rest) h L k n Q) : Go Z l R B ml own rt mn pc Ls (.int y :: .long x :: rest) h L k n Q := by
  subst hz; subst hp; exact Go.pure (fun p e below T m c t hA hx hB hr => XS.lshl hA hx rfl (hb hB hd) rfl hr) g
theorem Go.lshr {x z : Int64} {y : Int32} (hd : decode B pc = .ok (.lshr, 1)) (hp : pc + 1 = pc') (hz : x >>> (y &&& 0x3f).toInt64 = z) (g : Go Z l R B ml own rt mn pc' Ls (.long z :: rest) h L k n Q) : Go Z l R B ml own rt mn pc Ls (.int y :: .long x :: rest) h L k n Q := by
  subst hz; subst hp; exact Go.pure (fun p e below T m c t hA hx hB hr => XS.lshr hA hx rfl (hb hB hd) rfl hr) g
theorem Go.lushr {x z : Int64} {y : Int32} (hd : decode B pc = .ok (.lushr, 1)) (hp : pc + 1 = pc') (hz : (x.toUInt64 >>> (y &&& 0x3f).toInt64.toUInt64).toInt64 = z) (g : Go Z l R B ml own rt mn pc' Ls (.long z :: rest) h L k n Q) : Go Z l R B ml own rt mn pc Ls (.int y :: .long x :: rest) h L k n Q := by
  subst hz; subst hp; exact Go.pure (fun p e below T m c t hA hx hB hr => XS.lushr hA hx rfl (hb hB hd) rfl hr) g
theorem Go.ineg {x : Int32} {z : Int32} (hd : decode B pc = .ok (.ineg, 1)) (hp : pc + 1 = pc') (hz : -x = z) (g : Go Z l R B ml own rt mn pc' Ls (.int z :: rest) h L k n Q) : Go Z l R B ml own rt mn pc Ls (.int x :: rest) h L k n Q := by
  subst hz; subst hp; exact Go.pure (fun p e below T m c t hA hx hB hr => XS.ineg hA hx rfl (hb hB hd) rfl hr) g
theorem Go.lneg {x : Int64} {z : Int64} (hd : decode B pc = .ok (.lneg, 1)) (hp : pc + 1 = pc') (hz : -x = z) (g : Go Z l R B ml own rt mn pc' Ls (.long z :: rest) h L k n Q) : Go Z l R B ml own rt mn pc Ls (.long x :: rest) h L k n Q := by
  subst hz; subst hp; exact Go.pure (fun p e below T m c t hA hx hB hr => XS.lneg hA hx rfl (hb hB hd) rfl hr) g
theorem Go.i2l {x : Int32} {z : Int64} (hd : decode B pc = .ok (.i2l, 1)) (hp : pc + 1 = pc') (hz : x.toInt64 = z) (g : Go Z l R B ml own rt mn pc' Ls (.long z :: rest) h L k n Q) : Go Z l R B ml own rt mn pc Ls (.int x :: rest) h L k n Q := by
  subst hz; subst hp; exact Go.pure (fun p e below T m c t hA hx hB hr => XS.i2l hA hx rfl (hb hB hd) rfl hr) g
theorem Go.l2i {x : Int64} {z : Int32} (hd : decode B pc = .ok (.l2i, 1)) (hp : pc + 1 = pc') (hz : x.toInt32 = z) (g : Go Z l R B ml own rt mn pc' Ls (.int z :: rest) h L k n Q) : Go Z l R B ml own rt mn pc Ls (.long x :: rest) h L k n Q := by
  subst hz; subst hp; exact Go.pure (fun p e below T m c t hA hx hB hr => XS.l2i hA hx rfl (hb hB hd) rfl hr) g
theorem Go.i2b {x : Int32} {z : Int32} (hd : decode B pc = .ok (.i2b, 1)) (hp : pc + 1 = pc') (hz : x.toInt8.toInt32 = z) (g : Go Z l R B ml own rt mn pc' Ls (.int z :: rest) h L k n Q) : Go Z l R B ml own rt mn pc Ls (.int x :: rest) h L k n Q := by
  subst hz; subst hp; exact Go.pure (fun p e below T m c t hA hx hB hr => XS.i2b hA hx rfl (hb hB hd) rfl hr) g
theorem Go.i2s {x : Int32} {z : Int32} (hd : decode B pc = .ok (.i2s, 1)) (hp : pc + 1 = pc') (hz : x.toInt16.toInt32 = z) (g : Go Z l R B ml own rt mn pc' Ls (.int z :: rest) h L k n Q) : Go Z l R B ml own rt mn pc Ls (.int x :: rest) h L k n Q := by
  subst hz; subst hp; exact Go.pure (fun p e below T m c t hA hx hB hr => XS.i2s hA hx rfl (hb hB hd) rfl hr) g
theorem Go.i2c {x : Int32} {z : Int32} (hd : decode B pc = .ok (.i2c, 1)) (hp : pc + 1 = pc') (hz : x.toUInt32.toUInt16.toUInt32.toInt32 = z) (g : Go Z l R B ml own rt mn pc' Ls (.int z :: rest) h L k n Q) : Go Z l R B ml own rt mn pc Ls (.int x :: rest) h L k n Q := by
  subst hz; subst hp; exact Go.pure (fun p e below T m c t hA hx hB hr => XS.i2c hA hx rfl (hb hB hd) rfl hr) g
theorem Go.dup {x : Value} (hd : decode B pc = .ok (.dup, 1)) (hp : pc + 1 = pc') (hc : x.category = 1) (g : Go Z l R B ml own rt mn pc' Ls (x :: x :: rest) h L k n Q) : Go Z l R B ml own rt mn pc Ls (x :: rest) h L k n Q := by
  subst hp; exact Go.pure (fun p e below T m c t hA hx hB hr => XS.dup hA hx rfl (hb hB hd) rfl hc hr) g
theorem Go.dupX1 {x y : Value} (hd : decode B pc = .ok (.dup_x1, 1)) (hp : pc + 1 = pc') (hc : x.category = 1) (hc' : y.category = 1) (g : Go Z l R B ml own rt mn pc' Ls (x :: y :: x :: rest) h L k n Q) : Go Z l R B ml own rt mn pc Ls (x :: y :: rest) h L k n Q := by
  subst hp; exact Go.pure (fun p e below T m c t hA hx hB hr => XS.dupX1 hA hx rfl (hb hB hd) rfl hc hc' hr) g
theorem Go.pop {x : Value} (hd : decode B pc = .ok (.pop, 1)) (hp : pc + 1 = pc') (hc : x.category = 1) (g : Go Z l R B ml own rt mn pc' Ls rest h L k n Q) : Go Z l R B ml own rt mn pc Ls (x :: rest) h L k n Q := by
  subst hp; exact Go.pure (fun p e below T m c t hA hx hB hr => XS.pop hA hx rfl (hb hB hd) rfl hc hr) g
theorem Go.dup2 {x y : Value} (hd : decode B pc = .ok (.dup2, 1)) (hp : pc + 1 = pc') (hc : x.category = 1) (hc' : y.category = 1) (g : Go Z l R B ml own rt mn pc' Ls (x :: y :: x :: y :: rest) h L k n Q) : Go Z l R B ml own rt mn pc Ls (x :: y :: rest) h L k n Q := by
  subst hp; exact Go.pure (fun p e below T m c t hA hx hB hr => XT.dup2 hA hx rfl (hb hB hd) rfl hc hc' hr) g
theorem Go.dup2L {x : Int64} (hd : decode B pc = .ok (.dup2, 1)) (hp : pc + 1 = pc') (g : Go Z l R B ml own rt mn pc' Ls (.long x :: .long x :: rest) h L k n Q) : Go Z l R B ml own rt mn pc Ls (.long x :: rest) h L k n Q := by
  subst hp; exact Go.pure (fun p e below T m c t hA hx hB hr => XT.dup2L hA hx rfl (hb hB hd) rfl hr) g
theorem Go.goto {st : List Value} {o : Int} (hd : decode B pc = .ok (.goto o, 3)) (hp : (pc : Int) + o = (pc' : Int)) (g : Go Z l R B ml own rt mn pc' Ls st h L k n Q) : Go Z l R B ml own rt mn pc Ls st h L k n Q :=
  Go.pure (fun p e below T m c t hA hx hB hr => XS.goto hA hx rfl rfl (hb hB hd) (by rw [hp]; omega) (by rw [hp]; rfl) hr) g
/-- what a branch says when it is taken, and when it isn't -/
def cT : ClassFile.Cond → Int → Int → Prop
  | .lt, x, y => x < y | .ge, x, y => ¬ x < y | .gt, x, y => y < x | .le, x, y => ¬ y < x | .eq, x, y => x = y | .ne, x, y => ¬ x = y
def cF : ClassFile.Cond → Int → Int → Prop
  | .lt, x, y => ¬ x < y | .ge, x, y => x < y | .gt, x, y => ¬ y < x | .le, x, y => y < x | .eq, x, y => ¬ x = y | .ne, x, y => x = y
theorem icT {cd : ClassFile.Cond} {x y : Int32} (q : cT cd x.toInt y.toInt) : if_icmp.holds cd x y = true := by
  cases cd <;> simp only [cT] at q <;> first
    | exact (teq (Int32.toInt_inj.mp q)).1
    | exact (feq (fun r => q (congrArg _ r))).2
    | exact (tlt (Int32.lt_iff_toInt_lt.mpr q)).1
    | exact (flt (fun r => q (Int32.lt_iff_toInt_lt.mp r))).2.1
    | exact (tlt (Int32.lt_iff_toInt_lt.mpr q)).2.2.1
    | exact (flt (fun r => q (Int32.lt_iff_toInt_lt.mp r))).2.2.2
theorem icF {cd : ClassFile.Cond} {x y : Int32} (q : cF cd x.toInt y.toInt) : if_icmp.holds cd x y = false := by
  cases cd <;> simp only [cF] at q <;> first
    | exact (feq (fun r => q (congrArg _ r))).1
    | exact (teq (Int32.toInt_inj.mp q)).2
    | exact (flt (fun r => q (Int32.lt_iff_toInt_lt.mp r))).1
    | exact (tlt (Int32.lt_iff_toInt_lt.mpr q)).2.1
    | exact (flt (fun r => q (Int32.lt_iff_toInt_lt.mp r))).2.2.1
    | exact (tlt (Int32.lt_iff_toInt_lt.mpr q)).2.2.2
theorem lcT {cd : ClassFile.Cond} {x y : Int64} (q : cT cd x.toInt y.toInt) : ifCond.holds cd (lcmpW x y) = true := by
  rw [if0]; refine icT ?_
  have := c_lcmp x y
  have z0 : (0 : Int32).toInt = 0 := rfl
  cases cd <;> simp only [cT, z0] at q ⊢ <;> omega
theorem lcF {cd : ClassFile.Cond} {x y : Int64} (q : cF cd x.toInt y.toInt) : ifCond.holds cd (lcmpW x y) = false := by
  rw [if0]; refine icF ?_
  have := c_lcmp x y
  have z0 : (0 : Int32).toInt = 0 := rfl
  cases cd <;> simp only [cF, z0] at q ⊢ <;> omega
theorem Go.icmpT {cd : ClassFile.Cond} {x y : Int32} {X Y : Int} {o : Int} (hd : decode B pc = .ok (.if_icmp cd o, 3)) (hp : (pc : Int) + o = (pc' : Int)) (hX : x.toInt = X) (hY : y.toInt = Y) (hc : cT cd X Y) (g : Go Z l R B ml own rt mn pc' Ls rest h L k n Q) : Go Z l R B ml own rt mn pc Ls (.int y :: .int x :: rest) h L k n Q := by
  subst hX hY
  exact Go.pure (fun p e below T m c t hA hx hB hr => XS.icmpYes hA hx rfl rfl (hb hB hd) rfl (icT hc) (by rw [hp]; omega) (by rw [hp]; rfl) hr) g
theorem Go.icmpF {cd : ClassFile.Cond} {x y : Int32} {X Y : Int} {o : Int} (hd : decode B pc = .ok (.if_icmp cd o, 3)) (hp : pc + 3 = pc') (hX : x.toInt = X) (hY : y.toInt = Y) (hc : cF cd X Y) (g : Go Z l R B ml own rt mn pc' Ls rest h L k n Q) : Go Z l R B ml own rt mn pc Ls (.int y :: .int x :: rest) h L k n Q := by
  subst hX hY hp
  exact Go.pure (fun p e below T m c t hA hx hB hr => XS.icmpNo hA hx rfl (hb hB hd) rfl (icF hc) hr) g
theorem Go.ifT {cd : ClassFile.Cond} {x : Int32} {X : Int} {o : Int} (hd : decode B pc = .ok (.ifCond cd o, 3)) (hp : (pc : Int) + o = (pc' : Int)) (hX : x.toInt = X) (hc : cT cd X 0) (g : Go Z l R B ml own rt mn pc' Ls rest h L k n Q) : Go Z l R B ml own rt mn pc Ls (.int x :: rest) h L k n Q := by
  subst hX
  exact Go.pure (fun p e below T m c t hA hx hB hr => XS.ifYes hA hx rfl rfl (hb hB hd) rfl ((if0 _ _).trans (icT hc)) (by rw [hp]; omega) (by rw [hp]; rfl) hr) g
theorem Go.ifF {cd : ClassFile.Cond} {x : Int32} {X : Int} {o : Int} (hd : decode B pc = .ok (.ifCond cd o, 3)) (hp : pc + 3 = pc') (hX : x.toInt = X) (hc : cF cd X 0) (g : Go Z l R B ml own rt mn pc' Ls rest h L k n Q) : Go Z l R B ml own rt mn pc Ls (.int x :: rest) h L k n Q := by
  subst hX hp
  exact Go.pure (fun p e below T m c t hA hx hB hr => XS.ifNo hA hx rfl (hb hB hd) rfl ((if0 _ _).trans (icF hc)) hr) g
/-- lcmp and the branch behind it, in one -/
theorem Go.lcmpT {cd : ClassFile.Cond} {x y : Int64} {X Y : Int} {o : Int} {pc1 : Nat} (hd : decode B pc = .ok (.lcmp, 1)) (hd' : decode B pc1 = .ok (.ifCond cd o, 3)) (hp1 : pc + 1 = pc1) (hp : (pc1 : Int) + o = (pc' : Int)) (hX : x.toInt = X) (hY : y.toInt = Y) (hc : cT cd X Y) (g : Go Z l R B ml own rt mn pc' Ls rest h L k n Q) : Go Z l R B ml own rt mn pc Ls (.long y :: .long x :: rest) h L k n Q := by
  subst hX hY hp1
  exact Go.pure (fun p e below T m c t hA hx hB hr => XS.lcmp hA hx rfl (hb hB hd) rfl hr) (Go.pure (pc := pc + 1) (fun p e below T m c t hA hx hB hr => XS.ifYes hA hx rfl rfl (hb hB hd') rfl (lcT hc) (by rw [hp]; omega) (by rw [hp]; rfl) hr) g)
theorem Go.lcmpF {cd : ClassFile.Cond} {x y : Int64} {X Y : Int} {o : Int} {pc1 : Nat} (hd : decode B pc = .ok (.lcmp, 1)) (hd' : decode B pc1 = .ok (.ifCond cd o, 3)) (hp1 : pc + 1 = pc1) (hp : pc1 + 3 = pc') (hX : x.toInt = X) (hY : y.toInt = Y) (hc : cF cd X Y) (g : Go Z l R B ml own rt mn pc' Ls rest h L k n Q) : Go Z l R B ml own rt mn pc Ls (.long y :: .long x :: rest) h L k n Q := by
  subst hX hY hp1 hp
  exact Go.pure (fun p e below T m c t hA hx hB hr => XS.lcmp hA hx rfl (hb hB hd) rfl hr) (Go.pure (pc := pc + 1) (fun p e below T m c t hA hx hB hr => XS.ifNo hA hx rfl (hb hB hd') rfl (lcF hc) hr) g)
/-- one step that asks where the walk stands -/
theorem Go.stand {st st' : List Value} {Ls' : Array Slot} (step : ∀ (p : Program) (e : Env) (s : State) (m : MethodId) (args : Array Value) (below : List Frame) (meth : Method) (c : Code) (T : State) (target : State), Stand p l e R s m args below meth c T L k n → p.tables.exec = Jvm.exec → Z.Warmed39 s.vm → c.code = B → s.vm.findClass own = some m.cls → T.heap = h →
      Steps p.tables e below (T.setTop (mkF m pc' Ls' st')) target → Steps p.tables e below (T.setTop (mkF m pc Ls st)) target)
    (g : Go Z l R B ml own rt mn pc' Ls' st' h L k n Q) : Go Z l R B ml own rt mn pc Ls st h L k n Q := by
  intro p e s m args below meth c T X hx hZ hby hml hown hrt hlk hnm eT
  obtain ⟨s₂, o, h1, h2⟩ := g p e s m args below meth c T X hx hZ hby hml hown hrt hlk hnm eT
  exact ⟨s₂, o, step p e s m args below meth c T s₂ X hx hZ hby hown eT h1, h2⟩
theorem Go.acmp {cd : ACond} {x y : Value} {o : Int} {same : Bool} (hd : decode B pc = .ok (.if_acmp cd o, 3)) (h1 : x.isRef = true) (h2 : y.isRef = true) (hq : decide (x = y) = same) (ho : 0 ≤ (pc : Int) + o) (hp : pc' = if acV cd same = true then ((pc : Int) + o).toNat else pc + 3) (g : Go Z l R B ml own rt mn pc' Ls rest h L k n Q) : Go Z l R B ml own rt mn pc Ls (y :: x :: rest) h L k n Q :=
  Go.stand (fun p e s m args below meth c T t X hx hZ hB hown eT hr => Jvm.RoadKit.acmp (g := mkF m pc Ls (y :: x :: rest)) X hx rfl h1 h2 (pc0 := pc) (pc' := pc') (same := same) rfl (hb hB hd) rfl hq ho hp hr) g
theorem Go.ldcI {a0 : Array Value} {st : List Value} {i : Nat} {v : Int32} (hd : decode B pc = .ok (.ldc i, 2)) (hp : pc + 2 = pc') (w : (Jvm.Cond.constant own i v).before a0 Z = true) (g : Go Z l R B ml own rt mn pc' Ls (.int v :: st) h L k n Q) : Go Z l R B ml own rt mn pc Ls st h L k n Q := by
  subst hp
  exact Go.stand (fun p e s m args below meth c T t X hx hZ hB hown eT hr => X.ldcInt hx hown (mvT hZ w) (g := mkF m pc Ls st) rfl (hb hB hd) _ hr) g
theorem Go.ldcF {a0 : Array Value} {st : List Value} {i : Nat} {v : UInt32} (hd : decode B pc = .ok (.ldc i, 2)) (hp : pc + 2 = pc') (w : (Jvm.Cond.constantFloat own i v).before a0 Z = true) (g : Go Z l R B ml own rt mn pc' Ls (.float v :: st) h L k n Q) : Go Z l R B ml own rt mn pc Ls st h L k n Q := by
  subst hp
  exact Go.stand (fun p e s m args below meth c T t X hx hZ hB hown eT hr => X.ldcFloatC hx hown (mvT hZ w) (g := mkF m pc Ls st) rfl (hb hB hd) _ hr) g
theorem Go.ldc2 {a0 : Array Value} {st : List Value} {i : Nat} {v : Int64} (hd : decode B pc = .ok (.ldc2_w i, 3)) (hp : pc + 3 = pc') (w : (Jvm.Cond.constantLong own i v).before a0 Z = true) (g : Go Z l R B ml own rt mn pc' Ls (.long v :: st) h L k n Q) : Go Z l R B ml own rt mn pc Ls st h L k n Q := by
  subst hp
  exact Go.stand (fun p e s m args below meth c T t X hx hZ hB hown eT hr => X.ldc2Long hx hown (mvT hZ w) (g := mkF m pc Ls st) rfl (hb hB hd) _ hr) g
theorem Go.retI {z : Int32} (hd : decode B pc = .ok (.ireturn, 1)) (hrt' : rt = some .int) (hk : k ≤ R.cells) (hn : n ≤ R.slots) (q : Q (some (.int z)) h L) : Go Z l R B ml own rt mn pc Ls ((.int z) :: rest) h L k n Q := by
  intro p e s m args below meth c T X hx hZ hby hml hown hrt hlk hnm eT
  obtain ⟨fs, hr, hrun, hended, hW, hsame⟩ := X.leave (v := some (.int z)) (fun r => by rw [hrt, hrt'] at r; cases r)
  refine ⟨_, _, retOut X hx (hrt.trans hrt') (show narrow .int (.int z) = .int z from rfl) (Or.inl ⟨rfl, Or.inl rfl, _, rfl⟩) (hb hby hd) hr, hrun, hended, _, _, rfl, ?_, ⟨_, rfl⟩, hW, hsame.mono hk hn⟩
  show Q _ T.heap _
  rw [eT]; exact q
theorem Go.retZ {z : Int32} (hd : decode B pc = .ok (.ireturn, 1)) (hrt' : rt = some .boolean) (hz : z = 0 ∨ z = 1) (hk : k ≤ R.cells) (hn : n ≤ R.slots) (q : Q (some (.int z)) h L) : Go Z l R B ml own rt mn pc Ls ((.int z) :: rest) h L k n Q := by
  intro p e s m args below meth c T X hx hZ hby hml hown hrt hlk hnm eT
  obtain ⟨fs, hr, hrun, hended, hW, hsame⟩ := X.leave (v := some (.int z)) (fun r => by rw [hrt, hrt'] at r; cases r)
  refine ⟨_, _, retOut X hx (hrt.trans hrt') (show narrow .boolean (.int z) = .int z by rcases hz with rfl | rfl <;> rfl) (Or.inl ⟨rfl, Or.inr (Or.inl rfl), _, rfl⟩) (hb hby hd) hr, hrun, hended, _, _, rfl, ?_, ⟨_, rfl⟩, hW, hsame.mono hk hn⟩
  show Q _ T.heap _
  rw [eT]; exact q
theorem Go.retB {z : Int32} (hd : decode B pc = .ok (.ireturn, 1)) (hrt' : rt = some .byte) (hz : z.toInt8.toInt32 = z) (hk : k ≤ R.cells) (hn : n ≤ R.slots) (q : Q (some (.int z)) h L) : Go Z l R B ml own rt mn pc Ls ((.int z) :: rest) h L k n Q := by
  intro p e s m args below meth c T X hx hZ hby hml hown hrt hlk hnm eT
  obtain ⟨fs, hr, hrun, hended, hW, hsame⟩ := X.leave (v := some (.int z)) (fun r => by rw [hrt, hrt'] at r; cases r)
  refine ⟨_, _, retOut X hx (hrt.trans hrt') (show narrow .byte (.int z) = .int z from congrArg Value.int hz) (Or.inl ⟨rfl, Or.inr (Or.inr (Or.inl rfl)), _, rfl⟩) (hb hby hd) hr, hrun, hended, _, _, rfl, ?_, ⟨_, rfl⟩, hW, hsame.mono hk hn⟩
  show Q _ T.heap _
  rw [eT]; exact q
theorem Go.retJ {z : Int64} (hd : decode B pc = .ok (.lreturn, 1)) (hrt' : rt = some .long) (hk : k ≤ R.cells) (hn : n ≤ R.slots) (q : Q (some (.long z)) h L) : Go Z l R B ml own rt mn pc Ls ((.long z) :: rest) h L k n Q := by
  intro p e s m args below meth c T X hx hZ hby hml hown hrt hlk hnm eT
  obtain ⟨fs, hr, hrun, hended, hW, hsame⟩ := X.leave (v := some (.long z)) (fun r => by rw [hrt, hrt'] at r; cases r)
  refine ⟨_, _, retOut X hx (hrt.trans hrt') (show narrow .long (.long z) = .long z from rfl) (Or.inr (Or.inl ⟨rfl, rfl, _, rfl⟩)) (hb hby hd) hr, hrun, hended, _, _, rfl, ?_, ⟨_, rfl⟩, hW, hsame.mono hk hn⟩
  show Q _ T.heap _
  rw [eT]; exact q
theorem Go.retA {z : Value} {t : FieldType} (hd : decode B pc = .ok (.areturn, 1)) (hrt' : rt = some t) (ht : t.isReference = true) (hz : z.isRef = true) (hk : k ≤ R.cells) (hn : n ≤ R.slots) (q : Q (some z) h L) : Go Z l R B ml own rt mn pc Ls (z :: rest) h L k n Q := by
  intro p e s m args below meth c T X hx hZ hby hml hown hrt hlk hnm eT
  obtain ⟨fs, hr, hrun, hended, hW, hsame⟩ := X.leave (v := some z) (fun r => by rw [hrt, hrt'] at r; cases r)
  refine ⟨_, _, retOut X hx (hrt.trans hrt') (show narrow t z = z by rcases ref_cases hz with rfl | ⟨a, rfl⟩ <;> cases t <;> first | rfl | (simp [FieldType.isReference] at ht)) (Or.inr (Or.inr (Or.inr (Or.inr ⟨rfl, ht, hz⟩)))) (hb hby hd) hr, hrun, hended, _, _, rfl, ?_, ⟨_, rfl⟩, hW, hsame.mono hk hn⟩
  show Q _ T.heap _
  rw [eT]; exact q
theorem Go.retV (hd : decode B pc = .ok (.return_, 1)) (hrt' : rt = none) (hk : k ≤ R.cells) (hn : n ≤ R.slots) (q : Q none h L) : Go Z l R B ml own rt mn pc Ls [] h L k n Q := by
  intro p e s m args below meth c T X hx hZ hby hml hown hrt hlk hnm eT
  obtain ⟨fs, hr, hrun, hended, hW, hsame⟩ := X.leave (v := none) (fun _ => rfl)
  refine ⟨_, _, X.returnOut hx (hrt.trans hrt') (hb hby hd) hr, hrun, hended, _, _, rfl, ?_, ⟨_, rfl⟩, hW, hsame.mono hk hn⟩
  show Q _ T.heap _
  rw [eT]; exact q
theorem sel_priv {a0 args : Array Value} {s : State} {y : MethodName} {kk : Nat} (hZ : Z.Warmed39 s.vm) (wi : (Jvm.Cond.instantiable y.cls kk).before a0 Z = true) (wp : (Jvm.Cond.privateMethod y).before a0 Z = true) (w2 : (Jvm.Cond.instanceMethod y).before a0 Z = true) (hy : y.cls ≠ "java/lang/invoke/MethodHandle" ∧ y.cls ≠ "java/lang/invoke/VarHandle") : (Jvm.Cond.selects y.cls y y).before args s = true := by
  have wi' : (Jvm.Cond.instantiable y.cls kk).before args s = true := mvT hZ wi
  obtain ⟨cI, kI, i1, i2, -, i4, -⟩ := Cond.instantiable_spec wi'
  exact selects_self_of_private i1 i2 (Bool.or_eq_false_iff.mp i4).1 (Cond.privateMethod_at (mvP hZ wp (args := #[]))) (mvT hZ w2) hy
theorem Go.callS {a0 : Array Value} {i : Nat} {y : MethodName} {B' : ByteArray} {ml' : Nat} {rt' : Option FieldType} {R' : Room} {Q' : Option Value → Heap → List Loc → Prop} {W : Nat} {argsL : List Value} {st : List Value} {ps : List FieldType} {r : Option FieldType}
    (hd : decode B pc = .ok (.invokestatic i, 3)) (hp : pc + 3 = pc') (w1 : (Jvm.Cond.methodLink own i y).before a0 Z = true) (w2 : (Jvm.Cond.static y).before a0 Z = true) (w3 : (Jvm.Cond.initialized y.cls).before a0 Z = true) (w4 : (Jvm.Cond.code y B' ml' rt').before a0 Z = true) (hy : y.cls ≠ "java/lang/invoke/MethodHandle" ∧ y.cls ≠ "java/lang/invoke/VarHandle")
    (con : Con l Z y B' ml' rt' R' [] argsL.toArray h Q') (hf : R'.frames + 1 ≤ R.frames) (hl : W + (ml' + 11) + R'.locals ≤ R.locals) {k' n' : Nat} (hc : k + R'.cells ≤ R.cells) (hn : n + R'.slots ≤ R.slots) (hk' : k + R'.cells = k') (hn' : n + R'.slots = n') (hsz : Ls.size = ml) (hpd : parseMethodDescriptor y.desc = some ⟨ps, r⟩) (hlen : argsL.length = ps.length) (hst : st = argsL.reverse ++ rest) (hW : (rest.map fun v => v.category).sum ≤ W)
    (g : ∀ v h' L' L'', (∀ q, Fr q L → Fr q L' → Fr q L'') → Q' v h' L' → Go Z l R B ml own rt mn pc' Ls (v.toList ++ rest) h' L'' k' n' Q) : Go Z l R B ml own rt mn pc Ls st h L k n Q := by
  subst hp hk' hn'
  intro p e s m args below meth c T X hx hZ hby hml hown hrt hlk hnm eT
  obtain ⟨v, _, ⟨U, ls, cc, sl⟩, -, X', ⟨Lc, hQ, l1, y1, z1⟩, stp⟩ := Jvm.LawKit.callS X hx (y := y) hown (mvT hZ w1) (mvT hZ w2) (mvT hZ w3) (mvT hZ w4) hy (backOf (W := W) con hZ w4 w3 hf hl) (g := mkF m pc Ls st) rfl (hsz.trans hml.symm) (argsL := argsL) (rest := rest) (lenOf hpd hlen) hst (by show 2 * 0 + _ ≤ _; omega) (hb hby hd) (fun _ _ => ⟨rfl, eT, hc, hn⟩)
  dsimp only [Pt.U, Pt.locs, Pt.cells, Pt.slots] at X' hQ l1 y1 z1 stp
  subst l1 y1 z1
  obtain ⟨s₂, o, h1, h2⟩ := g v U.heap Lc _ (fun q a b => a.app b) hQ p e s m args below meth c U X' hx hZ hby hml hown hrt hlk hnm rfl
  exact ⟨s₂, o, stp _ h1, h2⟩
theorem Go.callS0 {a0 : Array Value} {i : Nat} {y : MethodName} {B' : ByteArray} {ml' : Nat} {rt' : Option FieldType} {R' : Room} {v0 : Option Value} {W : Nat} {argsL : List Value} {st : List Value} {ps : List FieldType} {r : Option FieldType}
    (hd : decode B pc = .ok (.invokestatic i, 3)) (hp : pc + 3 = pc') (w1 : (Jvm.Cond.methodLink own i y).before a0 Z = true) (w2 : (Jvm.Cond.static y).before a0 Z = true) (w3 : (Jvm.Cond.initialized y.cls).before a0 Z = true) (w4 : (Jvm.Cond.code y B' ml' rt').before a0 Z = true) (hy : y.cls ≠ "java/lang/invoke/MethodHandle" ∧ y.cls ≠ "java/lang/invoke/VarHandle")
    (con : Con l Z y B' ml' rt' R' [] argsL.toArray h (PQ h v0)) (hf : R'.frames + 1 ≤ R.frames) (hl : W + (ml' + 11) + R'.locals ≤ R.locals) {st2 : List Value} (hs2 : v0.toList ++ rest = st2) (hc : R'.cells = 0) (hn : R'.slots = 0) (hk : k ≤ R.cells) (hn2 : n ≤ R.slots) (hsz : Ls.size = ml) (hpd : parseMethodDescriptor y.desc = some ⟨ps, r⟩) (hlen : argsL.length = ps.length) (hst : st = argsL.reverse ++ rest) (hW : (rest.map fun v => v.category).sum ≤ W)
    (g : Go Z l R B ml own rt mn pc' Ls st2 h L k n Q) : Go Z l R B ml own rt mn pc Ls st h L k n Q := by
  subst hp hs2
  intro p e s m args below meth c T X hx hZ hby hml hown hrt hlk hnm eT
  obtain ⟨v, _, ⟨U, ls, cc, sl⟩, -, X', ⟨Lc, hQ, l1, y1, z1⟩, stp⟩ := Jvm.LawKit.callS X hx (y := y) hown (mvT hZ w1) (mvT hZ w2) (mvT hZ w3) (mvT hZ w4) hy (backOf (W := W) con hZ w4 w3 hf hl) (g := mkF m pc Ls st) rfl (hsz.trans hml.symm) (argsL := argsL) (rest := rest) (lenOf hpd hlen) hst (by show 2 * 0 + _ ≤ _; omega) (hb hby hd) (fun _ _ => ⟨rfl, eT, (by rw [hc]; exact hk), (by rw [hn]; exact hn2)⟩)
  dsimp only [Pt.U, Pt.locs, Pt.cells, Pt.slots] at X' hQ l1 y1 z1 stp
  obtain ⟨q1, q2, q3⟩ := hQ
  rw [q3, List.append_nil] at l1
  rw [hc, Nat.add_zero] at y1
  rw [hn, Nat.add_zero] at z1
  subst l1 y1 z1
  rw [q1] at stp
  obtain ⟨s₂, o, h1, h2⟩ := g p e s m args below meth c U X' hx hZ hby hml hown hrt hlk hnm q2
  exact ⟨s₂, o, stp _ h1, h2⟩
theorem Go.callI {a0 : Array Value} {i : Nat} {y : MethodName} {B' : ByteArray} {ml' : Nat} {R' : Room} {Q' : Option Value → Heap → List Loc → Prop} {W : Nat} {a : Addr} {argsL : List Value} {st : List Value} {ps : List FieldType} {r : Option FieldType}
    (hd : decode B pc = .ok (.invokespecial i, 3)) (hp : pc + 3 = pc') (hy1 : y.name = "<init>") (w1 : (Jvm.Cond.methodLink own i y).before a0 Z = true) (w2 : (Jvm.Cond.instanceMethod y).before a0 Z = true) (w3 : (Jvm.Cond.initialized y.cls).before a0 Z = true) (w4 : (Jvm.Cond.code y B' ml' none).before a0 Z = true) (hy : y.cls ≠ "java/lang/invoke/MethodHandle" ∧ y.cls ≠ "java/lang/invoke/VarHandle")
    (con : Con l Z y B' ml' none R' [] (.ref a :: argsL).toArray h Q') (hf : R'.frames + 1 ≤ R.frames) (hl : W + (ml' + 11) + R'.locals ≤ R.locals) {k' n' : Nat} (hc : k + R'.cells ≤ R.cells) (hn : n + R'.slots ≤ R.slots) (hk' : k + R'.cells = k') (hn' : n + R'.slots = n') (hsz : Ls.size = ml) (hpd : parseMethodDescriptor y.desc = some ⟨ps, r⟩) (hlen : argsL.length = ps.length) (hst : st = argsL.reverse ++ .ref a :: rest) (hW : (rest.map fun v => v.category).sum ≤ W)
    (g : ∀ v h' L' L'', (∀ q, Fr q L → Fr q L' → Fr q L'') → Q' v h' L' → Go Z l R B ml own rt mn pc' Ls (v.toList ++ rest) h' L'' k' n' Q) : Go Z l R B ml own rt mn pc Ls st h L k n Q := by
  subst hp hk' hn'
  intro p e s m args below meth c T X hx hZ hby hml hown hrt hlk hnm eT
  obtain ⟨v, _, ⟨U, ls, cc, sl⟩, -, X', ⟨Lc, hQ, l1, y1, z1⟩, stp⟩ := X.specialBack hx (y := y) hy1 hown (mvT hZ w1) (mvT hZ w2) (mvT hZ w4) hy (backOf (W := W) con hZ w4 w3 hf hl) (g := mkF m pc Ls st) rfl (hsz.trans hml.symm) (Steps.refl _) (a := a) (argsL := argsL) (rest := rest) (lenOf hpd hlen) hst (by show 2 * 0 + _ ≤ _; omega) (hb hby hd) (fun _ _ => ⟨rfl, eT, hc, hn⟩)
  dsimp only [Pt.U, Pt.locs, Pt.cells, Pt.slots] at X' hQ l1 y1 z1 stp
  subst l1 y1 z1
  obtain ⟨s₂, o, h1, h2⟩ := g v U.heap Lc _ (fun q a b => a.app b) hQ p e s m args below meth c U X' hx hZ hby hml hown hrt hlk hnm rfl
  exact ⟨s₂, o, stp.trans h1, h2⟩
theorem Go.callI0 {a0 : Array Value} {i : Nat} {y : MethodName} {B' : ByteArray} {ml' : Nat} {R' : Room} {v0 : Option Value} {W : Nat} {a : Addr} {argsL : List Value} {st : List Value} {ps : List FieldType} {r : Option FieldType}
    (hd : decode B pc = .ok (.invokespecial i, 3)) (hp : pc + 3 = pc') (hy1 : y.name = "<init>") (w1 : (Jvm.Cond.methodLink own i y).before a0 Z = true) (w2 : (Jvm.Cond.instanceMethod y).before a0 Z = true) (w3 : (Jvm.Cond.initialized y.cls).before a0 Z = true) (w4 : (Jvm.Cond.code y B' ml' none).before a0 Z = true) (hy : y.cls ≠ "java/lang/invoke/MethodHandle" ∧ y.cls ≠ "java/lang/invoke/VarHandle")
    (con : Con l Z y B' ml' none R' [] (.ref a :: argsL).toArray h (PQ h v0)) (hf : R'.frames + 1 ≤ R.frames) (hl : W + (ml' + 11) + R'.locals ≤ R.locals) {st2 : List Value} (hs2 : v0.toList ++ rest = st2) (hc : R'.cells = 0) (hn : R'.slots = 0) (hk : k ≤ R.cells) (hn2 : n ≤ R.slots) (hsz : Ls.size = ml) (hpd : parseMethodDescriptor y.desc = some ⟨ps, r⟩) (hlen : argsL.length = ps.length) (hst : st = argsL.reverse ++ .ref a :: rest) (hW : (rest.map fun v => v.category).sum ≤ W)
    (g : Go Z l R B ml own rt mn pc' Ls st2 h L k n Q) : Go Z l R B ml own rt mn pc Ls st h L k n Q := by
  subst hp hs2
  intro p e s m args below meth c T X hx hZ hby hml hown hrt hlk hnm eT
  obtain ⟨v, _, ⟨U, ls, cc, sl⟩, -, X', ⟨Lc, hQ, l1, y1, z1⟩, stp⟩ := X.specialBack hx (y := y) hy1 hown (mvT hZ w1) (mvT hZ w2) (mvT hZ w4) hy (backOf (W := W) con hZ w4 w3 hf hl) (g := mkF m pc Ls st) rfl (hsz.trans hml.symm) (Steps.refl _) (a := a) (argsL := argsL) (rest := rest) (lenOf hpd hlen) hst (by show 2 * 0 + _ ≤ _; omega) (hb hby hd) (fun _ _ => ⟨rfl, eT, (by rw [hc]; exact hk), (by rw [hn]; exact hn2)⟩)
  dsimp only [Pt.U, Pt.locs, Pt.cells, Pt.slots] at X' hQ l1 y1 z1 stp
  obtain ⟨q1, q2, q3⟩ := hQ
  rw [q3, List.append_nil] at l1
  rw [hc, Nat.add_zero] at y1
  rw [hn, Nat.add_zero] at z1
  subst l1 y1 z1
  rw [q1] at stp
  obtain ⟨s₂, o, h1, h2⟩ := g p e s m args below meth c U X' hx hZ hby hml hown hrt hlk hnm q2
  exact ⟨s₂, o, stp.trans h1, h2⟩
theorem Go.callV {a0 : Array Value} {i : Nat} {C : String} {y z : MethodName} {B' : ByteArray} {ml' : Nat} {rt' : Option FieldType} {R' : Room} {Q' : Option Value → Heap → List Loc → Prop} {W : Nat} {a : Addr} {argsL : List Value} {st : List Value} {ps : List FieldType} {r : Option FieldType}
    (hd : decode B pc = .ok (.invokevirtual i, 3)) (hp : pc + 3 = pc') (w1 : (Jvm.Cond.methodLink own i y).before a0 Z = true) (w2 : (Jvm.Cond.declares y).before a0 Z = true) (nf : ∀ (s : State) (args : Array Value), Z.Warmed39 s.vm → NotFace s y) (w5 : (Jvm.Cond.selects C y z).before a0 Z = true) (w6 : (Jvm.Cond.instanceMethod z).before a0 Z = true) (w3 : (Jvm.Cond.initialized z.cls).before a0 Z = true) (w4 : (Jvm.Cond.code z B' ml' rt').before a0 Z = true) (E : Exa Z h a C) (hy : y.cls ≠ "java/lang/invoke/MethodHandle" ∧ y.cls ≠ "java/lang/invoke/VarHandle")
    (con : Con l Z z B' ml' rt' R' [] (.ref a :: argsL).toArray h Q') (hf : R'.frames + 1 ≤ R.frames) (hl : W + (ml' + 11) + R'.locals ≤ R.locals) {k' n' : Nat} (hc : k + R'.cells ≤ R.cells) (hn : n + R'.slots ≤ R.slots) (hk' : k + R'.cells = k') (hn' : n + R'.slots = n') (hsz : Ls.size = ml) (hpd : parseMethodDescriptor y.desc = some ⟨ps, r⟩) (hlen : argsL.length = ps.length) (hst : st = argsL.reverse ++ .ref a :: rest) (hW : (rest.map fun v => v.category).sum ≤ W)
    (g : ∀ v h' L' L'', (∀ q, Fr q L → Fr q L' → Fr q L'') → Q' v h' L' → Go Z l R B ml own rt mn pc' Ls (v.toList ++ rest) h' L'' k' n' Q) : Go Z l R B ml own rt mn pc Ls st h L k n Q := by
  subst hp hk' hn'
  intro p e s m args below meth c T X hx hZ hby hml hown hrt hlk hnm eT
  obtain ⟨cq, kq, qa, qb, qc⟩ := isOf hZ eT E
  obtain ⟨v, _, ⟨U, ls, cc, sl⟩, -, X', ⟨Lc, hQ, l1, y1, z1⟩, stp⟩ := X.virtualBack hx (y := y) (z := z) hown (mvT hZ w1) (mvT hZ w2) (nf s args hZ) (mvT hZ w5) (mvT hZ w6) hy (backOf (W := W) con hZ w4 w3 hf hl) qa qc (g := mkF m pc Ls st) rfl (hsz.trans hml.symm) (Steps.refl _) (argsL := argsL) (rest := rest) (lenOf hpd hlen) hst (by show 2 * 0 + _ ≤ _; omega) (hb hby hd) (fun _ _ => ⟨rfl, eT, hc, hn⟩)
  dsimp only [Pt.U, Pt.locs, Pt.cells, Pt.slots] at X' hQ l1 y1 z1 stp
  subst l1 y1 z1
  obtain ⟨s₂, o, h1, h2⟩ := g v U.heap Lc _ (fun q a b => a.app b) hQ p e s m args below meth c U X' hx hZ hby hml hown hrt hlk hnm rfl
  exact ⟨s₂, o, stp.trans h1, h2⟩
theorem Go.callV0 {a0 : Array Value} {i : Nat} {C : String} {y z : MethodName} {B' : ByteArray} {ml' : Nat} {rt' : Option FieldType} {R' : Room} {v0 : Option Value} {W : Nat} {a : Addr} {argsL : List Value} {st : List Value} {ps : List FieldType} {r : Option FieldType}
    (hd : decode B pc = .ok (.invokevirtual i, 3)) (hp : pc + 3 = pc') (w1 : (Jvm.Cond.methodLink own i y).before a0 Z = true) (w2 : (Jvm.Cond.declares y).before a0 Z = true) (nf : ∀ (s : State) (args : Array Value), Z.Warmed39 s.vm → NotFace s y) (w5 : (Jvm.Cond.selects C y z).before a0 Z = true) (w6 : (Jvm.Cond.instanceMethod z).before a0 Z = true) (w3 : (Jvm.Cond.initialized z.cls).before a0 Z = true) (w4 : (Jvm.Cond.code z B' ml' rt').before a0 Z = true) (E : Exa Z h a C) (hy : y.cls ≠ "java/lang/invoke/MethodHandle" ∧ y.cls ≠ "java/lang/invoke/VarHandle")
    (con : Con l Z z B' ml' rt' R' [] (.ref a :: argsL).toArray h (PQ h v0)) (hf : R'.frames + 1 ≤ R.frames) (hl : W + (ml' + 11) + R'.locals ≤ R.locals) {st2 : List Value} (hs2 : v0.toList ++ rest = st2) (hc : R'.cells = 0) (hn : R'.slots = 0) (hk : k ≤ R.cells) (hn2 : n ≤ R.slots) (hsz : Ls.size = ml) (hpd : parseMethodDescriptor y.desc = some ⟨ps, r⟩) (hlen : argsL.length = ps.length) (hst : st = argsL.reverse ++ .ref a :: rest) (hW : (rest.map fun v => v.category).sum ≤ W)
    (g : Go Z l R B ml own rt mn pc' Ls st2 h L k n Q) : Go Z l R B ml own rt mn pc Ls st h L k n Q := by
  subst hp hs2
  intro p e s m args below meth c T X hx hZ hby hml hown hrt hlk hnm eT
  obtain ⟨cq, kq, qa, qb, qc⟩ := isOf hZ eT E
  obtain ⟨v, _, ⟨U, ls, cc, sl⟩, -, X', ⟨Lc, hQ, l1, y1, z1⟩, stp⟩ := X.virtualBack hx (y := y) (z := z) hown (mvT hZ w1) (mvT hZ w2) (nf s args hZ) (mvT hZ w5) (mvT hZ w6) hy (backOf (W := W) con hZ w4 w3 hf hl) qa qc (g := mkF m pc Ls st) rfl (hsz.trans hml.symm) (Steps.refl _) (argsL := argsL) (rest := rest) (lenOf hpd hlen) hst (by show 2 * 0 + _ ≤ _; omega) (hb hby hd) (fun _ _ => ⟨rfl, eT, (by rw [hc]; exact hk), (by rw [hn]; exact hn2)⟩)
  dsimp only [Pt.U, Pt.locs, Pt.cells, Pt.slots] at X' hQ l1 y1 z1 stp
  obtain ⟨q1, q2, q3⟩ := hQ
  rw [q3, List.append_nil] at l1
  rw [hc, Nat.add_zero] at y1
  rw [hn, Nat.add_zero] at z1
  subst l1 y1 z1
  rw [q1] at stp
  obtain ⟨s₂, o, h1, h2⟩ := g p e s m args below meth c U X' hx hZ hby hml hown hrt hlk hnm q2
  exact ⟨s₂, o, stp.trans h1, h2⟩
theorem Go.callP {a0 : Array Value} {i : Nat} {C : String} {kk : Nat} {y : MethodName} {B' : ByteArray} {ml' : Nat} {rt' : Option FieldType} {R' : Room} {Q' : Option Value → Heap → List Loc → Prop} {W : Nat} {a : Addr} {argsL : List Value} {st : List Value} {ps : List FieldType} {r : Option FieldType}
    (hd : decode B pc = .ok (.invokevirtual i, 3)) (hp : pc + 3 = pc') (w1 : (Jvm.Cond.methodLink own i y).before a0 Z = true) (w2 : (Jvm.Cond.instanceMethod y).before a0 Z = true) (w5 : (Jvm.Cond.instantiable y.cls kk).before a0 Z = true) (w6 : (Jvm.Cond.privateMethod y).before a0 Z = true) (w3 : (Jvm.Cond.initialized y.cls).before a0 Z = true) (w4 : (Jvm.Cond.code y B' ml' rt').before a0 Z = true) (E : Exa Z h a C) (hy : y.cls ≠ "java/lang/invoke/MethodHandle" ∧ y.cls ≠ "java/lang/invoke/VarHandle")
    (con : Con l Z y B' ml' rt' R' [] (.ref a :: argsL).toArray h Q') (hf : R'.frames + 1 ≤ R.frames) (hl : W + (ml' + 11) + R'.locals ≤ R.locals) {k' n' : Nat} (hc : k + R'.cells ≤ R.cells) (hn : n + R'.slots ≤ R.slots) (hk' : k + R'.cells = k') (hn' : n + R'.slots = n') (hsz : Ls.size = ml) (hpd : parseMethodDescriptor y.desc = some ⟨ps, r⟩) (hlen : argsL.length = ps.length) (hst : st = argsL.reverse ++ .ref a :: rest) (hW : (rest.map fun v => v.category).sum ≤ W)
    (g : ∀ v h' L' L'', (∀ q, Fr q L → Fr q L' → Fr q L'') → Q' v h' L' → Go Z l R B ml own rt mn pc' Ls (v.toList ++ rest) h' L'' k' n' Q) : Go Z l R B ml own rt mn pc Ls st h L k n Q := by
  subst hp hk' hn'
  intro p e s m args below meth c T X hx hZ hby hml hown hrt hlk hnm eT
  obtain ⟨cq, q1, q2⟩ := E.cell
  obtain ⟨v, _, ⟨U, ls, cc, sl⟩, -, X', ⟨Lc, hQ, l1, y1, z1⟩, stp⟩ := X.privateBack hx (y := y) hown (mvT hZ w1) (mvT hZ w2) (sel_priv hZ w5 w6 w2 hy) (Cond.privateMethod_at (mvP hZ w6 (args := #[]))) (mvT hZ w4) hy (backOf (W := W) con hZ w4 w3 hf hl) (g := mkF m pc Ls st) rfl (hsz.trans hml.symm) (Steps.refl _) (a := a) (by rw [eT]; exact q1) q2 (argsL := argsL) (rest := rest) (lenOf hpd hlen) hst (by show 2 * 0 + _ ≤ _; omega) (hb hby hd) (fun _ _ => ⟨rfl, eT, hc, hn⟩)
  dsimp only [Pt.U, Pt.locs, Pt.cells, Pt.slots] at X' hQ l1 y1 z1 stp
  subst l1 y1 z1
  obtain ⟨s₂, o, h1, h2⟩ := g v U.heap Lc _ (fun q a b => a.app b) hQ p e s m args below meth c U X' hx hZ hby hml hown hrt hlk hnm rfl
  exact ⟨s₂, o, stp.trans h1, h2⟩
theorem Go.callP0 {a0 : Array Value} {i : Nat} {C : String} {kk : Nat} {y : MethodName} {B' : ByteArray} {ml' : Nat} {rt' : Option FieldType} {R' : Room} {v0 : Option Value} {W : Nat} {a : Addr} {argsL : List Value} {st : List Value} {ps : List FieldType} {r : Option FieldType}
    (hd : decode B pc = .ok (.invokevirtual i, 3)) (hp : pc + 3 = pc') (w1 : (Jvm.Cond.methodLink own i y).before a0 Z = true) (w2 : (Jvm.Cond.instanceMethod y).before a0 Z = true) (w5 : (Jvm.Cond.instantiable y.cls kk).before a0 Z = true) (w6 : (Jvm.Cond.privateMethod y).before a0 Z = true) (w3 : (Jvm.Cond.initialized y.cls).before a0 Z = true) (w4 : (Jvm.Cond.code y B' ml' rt').before a0 Z = true) (E : Exa Z h a C) (hy : y.cls ≠ "java/lang/invoke/MethodHandle" ∧ y.cls ≠ "java/lang/invoke/VarHandle")
    (con : Con l Z y B' ml' rt' R' [] (.ref a :: argsL).toArray h (PQ h v0)) (hf : R'.frames + 1 ≤ R.frames) (hl : W + (ml' + 11) + R'.locals ≤ R.locals) {st2 : List Value} (hs2 : v0.toList ++ rest = st2) (hc : R'.cells = 0) (hn : R'.slots = 0) (hk : k ≤ R.cells) (hn2 : n ≤ R.slots) (hsz : Ls.size = ml) (hpd : parseMethodDescriptor y.desc = some ⟨ps, r⟩) (hlen : argsL.length = ps.length) (hst : st = argsL.reverse ++ .ref a :: rest) (hW : (rest.map fun v => v.category).sum ≤ W)
    (g : Go Z l R B ml own rt mn pc' Ls st2 h L k n Q) : Go Z l R B ml own rt mn pc Ls st h L k n Q := by
  subst hp hs2
  intro p e s m args below meth c T X hx hZ hby hml hown hrt hlk hnm eT
  obtain ⟨cq, q1, q2⟩ := E.cell
  obtain ⟨v, _, ⟨U, ls, cc, sl⟩, -, X', ⟨Lc, hQ, l1, y1, z1⟩, stp⟩ := X.privateBack hx (y := y) hown (mvT hZ w1) (mvT hZ w2) (sel_priv hZ w5 w6 w2 hy) (Cond.privateMethod_at (mvP hZ w6 (args := #[]))) (mvT hZ w4) hy (backOf (W := W) con hZ w4 w3 hf hl) (g := mkF m pc Ls st) rfl (hsz.trans hml.symm) (Steps.refl _) (a := a) (by rw [eT]; exact q1) q2 (argsL := argsL) (rest := rest) (lenOf hpd hlen) hst (by show 2 * 0 + _ ≤ _; omega) (hb hby hd) (fun _ _ => ⟨rfl, eT, (by rw [hc]; exact hk), (by rw [hn]; exact hn2)⟩)
  dsimp only [Pt.U, Pt.locs, Pt.cells, Pt.slots] at X' hQ l1 y1 z1 stp
  obtain ⟨q1, q2, q3⟩ := hQ
  rw [q3, List.append_nil] at l1
  rw [hc, Nat.add_zero] at y1
  rw [hn, Nat.add_zero] at z1
  subst l1 y1 z1
  rw [q1] at stp
  obtain ⟨s₂, o, h1, h2⟩ := g p e s m args below meth c U X' hx hZ hby hml hown hrt hlk hnm q2
  exact ⟨s₂, o, stp.trans h1, h2⟩
theorem nf_sel {a0 : Array Value} {C : String} {y : MethodName} (w : (Jvm.Cond.selects C y y).before a0 Z = true) : ∀ (s : State) (args : Array Value), Z.Warmed39 s.vm → NotFace s y := fun s args hZ => notFace_of_selects (args := args) (mvT hZ w)
theorem Go.initO {a0 : Array Value} {i : Nat} {W : Nat} {a : Addr} (hd : decode B pc = .ok (.invokespecial i, 3)) (hp : pc + 3 = pc') (w1 : (Jvm.Cond.methodLink own i Lib.objectInit).before a0 Z = true) (w2 : (Jvm.Cond.instanceMethod Lib.objectInit).before a0 Z = true) (w3 : (Jvm.Cond.code Lib.objectInit ⟨#[0xb1]⟩ 1 none).before a0 Z = true) (hf : 1 ≤ R.frames) (hl : W + 12 ≤ R.locals) (hsz : Ls.size = ml) (hW : (rest.map fun v => v.category).sum ≤ W)
    (g : Go Z l R B ml own rt mn pc' Ls rest h L k n Q) : Go Z l R B ml own rt mn pc Ls (.ref a :: rest) h L k n Q := by
  subst hp
  intro p e s m args below meth c T X hx hZ hby hml hown hrt hlk hnm eT
  obtain ⟨T', X', e', stp⟩ := Jvm.RoadKit.initO X hx hZ hown w1 w2 w3 eT (g := mkF m pc Ls (.ref a :: rest)) rfl (hsz.trans hml.symm) rfl (hb hby hd) hf (W := W) (by show 2 * 0 + _ ≤ _; omega) hl
  obtain ⟨s₂, o, h1, h2⟩ := g p e s m args below meth c T' X' hx hZ hby hml hown hrt hlk hnm e'
  exact ⟨s₂, o, stp _ h1, h2⟩
/-! objects -/
theorem Go.newO {a0 : Array Value} {st : List Value} {i sz : Nat} {C : String} {k' n' : Nat} (hd : decode B pc = .ok (.new i, 3)) (hp : pc + 3 = pc') (w : (Jvm.Cond.classLink own i C).before a0 Z = true) (wi : (Jvm.Cond.instantiable C sz).before a0 Z = true) (wz : (Jvm.Cond.initialized C).before a0 Z = true) (hc : k + 1 ≤ R.cells) (hl : n + sz ≤ R.slots) (hk' : k + 1 = k') (hn' : n + sz = n')
    (g : ∀ h' a, a = h.size → Ext h h' → Exa Z h' a C → (∀ {O nm d : String} {ty : FieldType}, Laid Z a0 C O nm d → parseFieldDescriptor d = some ty → Fld Z h' a O nm d (defaultValue ty)) → Go Z l R B ml own rt mn pc' Ls (.ref a :: st) h' L k' n' Q) : Go Z l R B ml own rt mn pc Ls st h L k n Q := by
  subst hp hk' hn'
  intro p e s m args below meth c T X hx hZ hby hml hown hrt hlk hnm eT
  obtain ⟨T', h', X', e', E', A', D', -, stp⟩ := Jvm.RoadKit.newO X hx hZ hown w wi wz eT (g := mkF m pc Ls st) rfl (hb hby hd) hc hl
  obtain ⟨s₂, o, h1, h2⟩ := g h' _ rfl E' A' D' p e s m args below meth c T' X' hx hZ hby hml hown hrt hlk hnm e'
  exact ⟨s₂, o, stp _ h1, h2⟩
theorem Go.getF {a0 : Array Value} {i : Nat} {R0 O f d : String} {a : Addr} {v : Value} (hd : decode B pc = .ok (.getfield i, 3)) (hp : pc + 3 = pc') (w : (Jvm.Cond.fieldLink own i R0 f d).before a0 Z = true) (via : Via Z R0 O f d) (F : Fld Z h a O f d v) (g : Go Z l R B ml own rt mn pc' Ls (v :: rest) h L k n Q) : Go Z l R B ml own rt mn pc Ls (.ref a :: rest) h L k n Q := by
  subst hp
  intro p e s m args below meth c T X hx hZ hby hml hown hrt hlk hnm eT
  obtain ⟨T', X', e', stp⟩ := Jvm.RoadKit.getF X hx hZ hown (host := "") (Or.inl w) via eT F (g := mkF m pc Ls (.ref a :: rest)) rfl rfl (hb hby hd)
  obtain ⟨s₂, o, h1, h2⟩ := g p e s m args below meth c T' X' hx hZ hby hml hown hrt hlk hnm e'
  exact ⟨s₂, o, stp _ h1, h2⟩
theorem Go.putF {a0 : Array Value} {i kk : Nat} {R0 O f d C : String} {a : Addr} {v old : Value} {ty : FieldType} (hd : decode B pc = .ok (.putfield i, 3)) (hp : pc + 3 = pc') (w : (Jvm.Cond.fieldLink own i R0 f d).before a0 Z = true) (via : Via Z R0 O f d) (F : Fld Z h a O f d old) (E : Exa Z h a C) (lw : (Jvm.Cond.lays C O f d).before a0 Z = true ∨ ((Jvm.Cond.laysFinal C O f d).before a0 Z = true ∧ own = O ∧ mn = "<init>")) (wi : (Jvm.Cond.instantiable C kk).before a0 Z = true)
    (hty : parseFieldDescriptor d = some ty) (hn : narrow ty v = v) (hf : fits ty v = true) (g : ∀ h' L', (∀ q, Fr q L → q ≤ a → Fr q L') → Wr h h' a (Jvm.RoadKit.slotOf Z O f d) v → Go Z l R B ml own rt mn pc' Ls rest h' L' k n Q) : Go Z l R B ml own rt mn pc Ls (v :: .ref a :: rest) h L k n Q := by
  subst hp
  intro p e s m args below meth c T X hx hZ hby hml hown hrt hlk hnm eT
  obtain ⟨T', h', X', e', W', stp⟩ := Jvm.RoadKit.putF X hx hZ hown (host := "") (Or.inl w) via eT F E (lw.imp id fun q => ⟨q.1, q.2.1, hnm.trans q.2.2⟩) wi hty hn hf (g := mkF m pc Ls (v :: .ref a :: rest)) rfl rfl (hb hby hd)
  obtain ⟨s₂, o, h1, h2⟩ := g h' _ (fun q N r => fr_one N r) W' p e s m args below meth c T' X' hx hZ hby hml hown hrt hlk hnm e'
  exact ⟨s₂, o, stp _ h1, h2⟩
/-! arrays: the very list of values -/
def Al (Z : State) (h : Heap) (a : Addr) (ty : FieldType) (vs : List Value) : Prop := vs.length < 2 ^ 31 ∧ ∃ c : Cell, Arr Z h a c ty ∧ c.slots = vs.toArray
theorem Al.lt {a : Addr} {ty : FieldType} {vs : List Value} (A : Al Z h a ty vs) : a < h.size := by obtain ⟨-, c, A, -⟩ := A; exact A.lt
theorem Al.ext {h' : Heap} {a : Addr} {ty : FieldType} {vs : List Value} (A : Al Z h a ty vs) (E : Ext h h') : Al Z h' a ty vs := by obtain ⟨q, c, A, r⟩ := A; exact ⟨q, c, A.ext E, r⟩
theorem Al.other {h' : Heap} {a b : Addr} {sl : Nat} {v : Value} {ty : FieldType} {vs : List Value} (A : Al Z h b ty vs) (W : Wr h h' a sl v) (ne : b ≠ a) : Al Z h' b ty vs := by obtain ⟨q, c, A, r⟩ := A; exact ⟨q, c, A.other W ne, r⟩
theorem Al.keep {h' : Heap} {a : Addr} {ty : FieldType} {vs : List Value} {ws : List Addr} (A : Al Z h a ty vs) (K : Keep h h' ws) (q : a ∉ ws) : Al Z h' a ty vs := by obtain ⟨q0, c, A, r⟩ := A; exact ⟨q0, c, ⟨K.2.1 a c A.1 q, A.2⟩, r⟩
theorem Al.set {h' : Heap} {a : Addr} {ty : FieldType} {vs : List Value} {i : Nat} {v : Value} (A : Al Z h a ty vs) (W : Wr h h' a i v) : Al Z h' a ty (vs.set i v) := by
  obtain ⟨q, c, A, r⟩ := A
  refine ⟨by simpa using q, c.setSlot i v, A.same W, ?_⟩
  simp [Cell.setSlot, r]
theorem Al.new {a : Addr} {ty : FieldType} {kc : ClassId} {z : Int32} {N : Nat} (A : Arr Z h a (newA kc ty z) ty) (hz : z.toInt = (N : Int)) : Al Z h a ty (List.replicate N (defaultValue ty)) := by
  have h1 : z.toNatClampNeg = N := by show z.toInt.toNat = N; omega
  have h2 := z.toInt_lt
  refine ⟨by simp; omega, _, A, ?_⟩
  simp [newA, h1]
theorem ne_al {a0 : Array Value} {a b : Addr} {C : String} {kk : Nat} {ty : FieldType} {vs : List Value} (F : Exa Z h a C) (wi : (Jvm.Cond.instantiable C kk).before a0 Z = true) (A : Al Z h b ty vs) : a ≠ b := by obtain ⟨-, c, A, -⟩ := A; exact ne_arr F wi A
theorem in_of {c : Cell} {vs : List Value} {j : Int32} {i : Nat} (r : c.slots = vs.toArray) (hj : j.toInt = (i : Int)) (hi : i < vs.length) : ¬ (j < 0 ∨ c.slots.size ≤ j.toNatClampNeg) := by
  have h1 : j.toNatClampNeg = i := by show j.toInt.toNat = i; omega
  rw [h1, r, Int32.lt_iff_toInt_lt]
  have z0 : (0 : Int32).toInt = 0 := rfl
  rw [z0]
  intro q
  rcases q with q | q
  · omega
  · rw [List.size_toArray] at q; omega
theorem at_of {c : Cell} {vs : List Value} {j : Int32} {i : Nat} {v : Value} (r : c.slots = vs.toArray) (hj : j.toInt = (i : Int)) (hv : vs[i]? = some v) : c.slots[j.toNatClampNeg]? = some v := by
  have h1 : j.toNatClampNeg = i := by show j.toInt.toNat = i; omega
  rw [h1, r]; simpa using hv
theorem Go.iaload {a : Addr} {vs : List Value} {j : Int32} {i : Nat} {v : Value} (hd : decode B pc = .ok (.iaload, 1)) (hp : pc + 1 = pc') (A : Al Z h a .int vs) (hj : j.toInt = (i : Int)) (hv : vs[i]? = some v) (g : Go Z l R B ml own rt mn pc' Ls (v :: rest) h L k n Q) : Go Z l R B ml own rt mn pc Ls (.int j :: .ref a :: rest) h L k n Q := by
  obtain ⟨q, c, A, r⟩ := A
  subst hp
  exact Go.stand (fun p e s m args below meth c' T t X hx hZ hB hown eT hr => X.iaload hx (j := j) (v := v) (by rw [eT]; exact A.1) (State.isArrayOf_alike hZ.alike A.2.1) A.2.2 (in_of r hj (List.getElem?_eq_some_iff.mp hv).1) (at_of r hj hv) (g := mkF m pc Ls (.int j :: .ref a :: rest)) rfl rfl (hb hB hd) _ hr) g
theorem Go.laload {a : Addr} {vs : List Value} {j : Int32} {i : Nat} {v : Value} (hd : decode B pc = .ok (.laload, 1)) (hp : pc + 1 = pc') (A : Al Z h a .long vs) (hj : j.toInt = (i : Int)) (hv : vs[i]? = some v) (g : Go Z l R B ml own rt mn pc' Ls (v :: rest) h L k n Q) : Go Z l R B ml own rt mn pc Ls (.int j :: .ref a :: rest) h L k n Q := by
  obtain ⟨q, c, A, r⟩ := A
  subst hp
  exact Go.stand (fun p e s m args below meth c' T t X hx hZ hB hown eT hr => X.laload hx (j := j) (v := v) (by rw [eT]; exact A.1) (State.isArrayOf_alike hZ.alike A.2.1) A.2.2 (in_of r hj (List.getElem?_eq_some_iff.mp hv).1) (at_of r hj hv) (g := mkF m pc Ls (.int j :: .ref a :: rest)) rfl rfl (hb hB hd) _ hr) g
theorem Go.baloadB {a : Addr} {vs : List Value} {j : Int32} {i : Nat} {v : Value} (hd : decode B pc = .ok (.baload, 1)) (hp : pc + 1 = pc') (A : Al Z h a .byte vs) (hj : j.toInt = (i : Int)) (hv : vs[i]? = some v) (g : Go Z l R B ml own rt mn pc' Ls (v :: rest) h L k n Q) : Go Z l R B ml own rt mn pc Ls (.int j :: .ref a :: rest) h L k n Q := by
  obtain ⟨q, c, A, r⟩ := A
  subst hp
  exact Go.stand (fun p e s m args below meth c' T t X hx hZ hB hown eT hr => X.baloadBytes hx (j := j) (v := v) (by rw [eT]; exact A.1) (State.isArrayOf_alike hZ.alike A.2.1) A.2.2 (in_of r hj (List.getElem?_eq_some_iff.mp hv).1) (at_of r hj hv) (g := mkF m pc Ls (.int j :: .ref a :: rest)) rfl rfl (hb hB hd) _ hr) g
theorem Go.baloadZ {a : Addr} {vs : List Value} {j : Int32} {i : Nat} {v : Value} (hd : decode B pc = .ok (.baload, 1)) (hp : pc + 1 = pc') (A : Al Z h a .boolean vs) (hj : j.toInt = (i : Int)) (hv : vs[i]? = some v) (g : Go Z l R B ml own rt mn pc' Ls (v :: rest) h L k n Q) : Go Z l R B ml own rt mn pc Ls (.int j :: .ref a :: rest) h L k n Q := by
  obtain ⟨q, c, A, r⟩ := A
  subst hp
  exact Go.stand (fun p e s m args below meth c' T t X hx hZ hB hown eT hr => X.baloadBooleans hx (j := j) (v := v) (by rw [eT]; exact A.1) (State.isArrayOf_alike hZ.alike A.2.1) A.2.2 (in_of r hj (List.getElem?_eq_some_iff.mp hv).1) (at_of r hj hv) (g := mkF m pc Ls (.int j :: .ref a :: rest)) rfl rfl (hb hB hd) _ hr) g
theorem Go.iastore {a : Addr} {vs vs' : List Value} {j : Int32} {x : Int32} {i : Nat} {v : Value} (hd : decode B pc = .ok (.iastore, 1)) (hp : pc + 1 = pc') (A : Al Z h a .int vs) (hj : j.toInt = (i : Int)) (hi : i < vs.length) (hv : .int x = v) (hs : vs.set i v = vs') (g : ∀ h' L', (∀ q, Fr q L → q ≤ a → Fr q L') → Wr h h' a i v → Al Z h' a .int vs' → Go Z l R B ml own rt mn pc' Ls rest h' L' k n Q) : Go Z l R B ml own rt mn pc Ls (.int x :: .int j :: .ref a :: rest) h L k n Q := by
  have A' := A
  obtain ⟨q, c, A, r⟩ := A
  subst hp hs
  intro p e s m args below meth c' T X hx hZ hby hml hown hrt hlk hnm eT
  obtain ⟨T', h', X', e', W', stp⟩ := stI X hx hZ eT A (j := j) (in_of r hj hi) (g := mkF m pc Ls (.int x :: .int j :: .ref a :: rest)) rfl rfl (hb hby hd)
  have h1 : j.toNatClampNeg = i := by show j.toInt.toNat = i; omega
  rw [h1] at X' W'
  subst hv
  obtain ⟨s₂, o, h1, h2⟩ := g h' _ (fun q N r => fr_one N r) W' (A'.set W') p e s m args below meth c' T' X' hx hZ hby hml hown hrt hlk hnm e'
  exact ⟨s₂, o, stp _ h1, h2⟩
theorem Go.lastore {a : Addr} {vs vs' : List Value} {j : Int32} {x : Int64} {i : Nat} {v : Value} (hd : decode B pc = .ok (.lastore, 1)) (hp : pc + 1 = pc') (A : Al Z h a .long vs) (hj : j.toInt = (i : Int)) (hi : i < vs.length) (hv : .long x = v) (hs : vs.set i v = vs') (g : ∀ h' L', (∀ q, Fr q L → q ≤ a → Fr q L') → Wr h h' a i v → Al Z h' a .long vs' → Go Z l R B ml own rt mn pc' Ls rest h' L' k n Q) : Go Z l R B ml own rt mn pc Ls (.long x :: .int j :: .ref a :: rest) h L k n Q := by
  have A' := A
  obtain ⟨q, c, A, r⟩ := A
  subst hp hs
  intro p e s m args below meth c' T X hx hZ hby hml hown hrt hlk hnm eT
  obtain ⟨T', h', X', e', W', stp⟩ := stJ X hx hZ eT A (j := j) (in_of r hj hi) (g := mkF m pc Ls (.long x :: .int j :: .ref a :: rest)) rfl rfl (hb hby hd)
  have h1 : j.toNatClampNeg = i := by show j.toInt.toNat = i; omega
  rw [h1] at X' W'
  subst hv
  obtain ⟨s₂, o, h1, h2⟩ := g h' _ (fun q N r => fr_one N r) W' (A'.set W') p e s m args below meth c' T' X' hx hZ hby hml hown hrt hlk hnm e'
  exact ⟨s₂, o, stp _ h1, h2⟩
theorem Go.bastoreB {a : Addr} {vs vs' : List Value} {j : Int32} {x : Int32} {i : Nat} {v : Value} (hd : decode B pc = .ok (.bastore, 1)) (hp : pc + 1 = pc') (A : Al Z h a .byte vs) (hj : j.toInt = (i : Int)) (hi : i < vs.length) (hv : .int (nar .byte x) = v) (hs : vs.set i v = vs') (g : ∀ h' L', (∀ q, Fr q L → q ≤ a → Fr q L') → Wr h h' a i v → Al Z h' a .byte vs' → Go Z l R B ml own rt mn pc' Ls rest h' L' k n Q) : Go Z l R B ml own rt mn pc Ls (.int x :: .int j :: .ref a :: rest) h L k n Q := by
  have A' := A
  obtain ⟨q, c, A, r⟩ := A
  subst hp hs
  intro p e s m args below meth c' T X hx hZ hby hml hown hrt hlk hnm eT
  obtain ⟨T', h', X', e', W', stp⟩ := stB X hx hZ eT A (j := j) (in_of r hj hi) (g := mkF m pc Ls (.int x :: .int j :: .ref a :: rest)) rfl rfl (hb hby hd)
  have h1 : j.toNatClampNeg = i := by show j.toInt.toNat = i; omega
  rw [h1] at X' W'
  subst hv
  obtain ⟨s₂, o, h1, h2⟩ := g h' _ (fun q N r => fr_one N r) W' (A'.set W') p e s m args below meth c' T' X' hx hZ hby hml hown hrt hlk hnm e'
  exact ⟨s₂, o, stp _ h1, h2⟩
theorem Go.bastoreZ {a : Addr} {vs vs' : List Value} {j : Int32} {x : Int32} {i : Nat} {v : Value} (hd : decode B pc = .ok (.bastore, 1)) (hp : pc + 1 = pc') (A : Al Z h a .boolean vs) (hj : j.toInt = (i : Int)) (hi : i < vs.length) (hv : .int (nar .boolean x) = v) (hs : vs.set i v = vs') (g : ∀ h' L', (∀ q, Fr q L → q ≤ a → Fr q L') → Wr h h' a i v → Al Z h' a .boolean vs' → Go Z l R B ml own rt mn pc' Ls rest h' L' k n Q) : Go Z l R B ml own rt mn pc Ls (.int x :: .int j :: .ref a :: rest) h L k n Q := by
  have A' := A
  obtain ⟨q, c, A, r⟩ := A
  subst hp hs
  intro p e s m args below meth c' T X hx hZ hby hml hown hrt hlk hnm eT
  obtain ⟨T', h', X', e', W', stp⟩ := stZ X hx hZ eT A (j := j) (in_of r hj hi) (g := mkF m pc Ls (.int x :: .int j :: .ref a :: rest)) rfl rfl (hb hby hd)
  have h1 : j.toNatClampNeg = i := by show j.toInt.toNat = i; omega
  rw [h1] at X' W'
  subst hv
  obtain ⟨s₂, o, h1, h2⟩ := g h' _ (fun q N r => fr_one N r) W' (A'.set W') p e s m args below meth c' T' X' hx hZ hby hml hown hrt hlk hnm e'
  exact ⟨s₂, o, stp _ h1, h2⟩
theorem Go.arraylength {a : Addr} {ty : FieldType} {vs : List Value} {z : Int32} (hd : decode B pc = .ok (.arraylength, 1)) (hp : pc + 1 = pc') (A : Al Z h a ty vs) (hz : vs.length.toInt32 = z) (g : Go Z l R B ml own rt mn pc' Ls (.int z :: rest) h L k n Q) : Go Z l R B ml own rt mn pc Ls (.ref a :: rest) h L k n Q := by
  obtain ⟨q, c, A, r⟩ := A
  subst hp hz
  refine Go.stand (fun p e s m args below meth c' T t X hx hZ hB hown eT hr => X.arraylength hx (by rw [eT]; exact A.1) (State.isArrayOf_alike hZ.alike A.2.1) (g := mkF m pc Ls (.ref a :: rest)) rfl rfl (hb hB hd) _ ?_) g
  rw [r]; simpa using hr
theorem Go.new_int {a0 : Array Value} {z : Int32} {N : Nat} {k' n' : Nat} {vs : List Value} (hd : decode B pc = .ok (.newarray .int, 2)) (hp : pc + 2 = pc') (w : (Jvm.Cond.arrayClass (.int)).before a0 Z = true) (hz : z.toInt = (N : Int)) (hvs : List.replicate N (defaultValue .int) = vs) (cap : Nat) (hcap : N ≤ cap) (h8 : cap * 8 ≤ 536870912) (hc : k + 1 ≤ R.cells) (hl : n + cap ≤ R.slots) (hk' : k + 1 = k') (hn' : n + cap = n')
    (g : ∀ h' a, a = h.size → Ext h h' → Al Z h' a .int vs → Go Z l R B ml own rt mn pc' Ls (.ref a :: rest) h' L k' n' Q) : Go Z l R B ml own rt mn pc Ls (.int z :: rest) h L k n Q := by
  subst hp hk' hn' hvs
  intro p e s m args below meth c T X hx hZ hby hml hown hrt hlk hnm eT
  have hz0 : ¬ z < 0 := by
    rw [Int32.lt_iff_toInt_lt]; have z0 : (0 : Int32).toInt = 0 := rfl
    omega
  obtain ⟨T', h', cA, X', e', E', A', stp⟩ := newP X hx hZ (aty := .int) w eT (g := mkF m pc Ls (.int z :: rest)) rfl (hb hby hd) rfl hz0 (cap := cap) (by show z.toInt.toNat ≤ cap; omega) h8 hc hl
  obtain ⟨s₂, o, h1, h2⟩ := g h' _ rfl E' (Al.new A' hz) p e s m args below meth c T' X' hx hZ hby hml hown hrt hlk hnm e'
  exact ⟨s₂, o, stp _ h1, h2⟩
theorem Go.new_long {a0 : Array Value} {z : Int32} {N : Nat} {k' n' : Nat} {vs : List Value} (hd : decode B pc = .ok (.newarray .long, 2)) (hp : pc + 2 = pc') (w : (Jvm.Cond.arrayClass (.long)).before a0 Z = true) (hz : z.toInt = (N : Int)) (hvs : List.replicate N (defaultValue .long) = vs) (cap : Nat) (hcap : N ≤ cap) (h8 : cap * 8 ≤ 536870912) (hc : k + 1 ≤ R.cells) (hl : n + cap ≤ R.slots) (hk' : k + 1 = k') (hn' : n + cap = n')
    (g : ∀ h' a, a = h.size → Ext h h' → Al Z h' a .long vs → Go Z l R B ml own rt mn pc' Ls (.ref a :: rest) h' L k' n' Q) : Go Z l R B ml own rt mn pc Ls (.int z :: rest) h L k n Q := by
  subst hp hk' hn' hvs
  intro p e s m args below meth c T X hx hZ hby hml hown hrt hlk hnm eT
  have hz0 : ¬ z < 0 := by
    rw [Int32.lt_iff_toInt_lt]; have z0 : (0 : Int32).toInt = 0 := rfl
    omega
  obtain ⟨T', h', cA, X', e', E', A', stp⟩ := newP X hx hZ (aty := .long) w eT (g := mkF m pc Ls (.int z :: rest)) rfl (hb hby hd) rfl hz0 (cap := cap) (by show z.toInt.toNat ≤ cap; omega) h8 hc hl
  obtain ⟨s₂, o, h1, h2⟩ := g h' _ rfl E' (Al.new A' hz) p e s m args below meth c T' X' hx hZ hby hml hown hrt hlk hnm e'
  exact ⟨s₂, o, stp _ h1, h2⟩
theorem Go.new_byte {a0 : Array Value} {z : Int32} {N : Nat} {k' n' : Nat} {vs : List Value} (hd : decode B pc = .ok (.newarray .byte, 2)) (hp : pc + 2 = pc') (w : (Jvm.Cond.arrayClass (.byte)).before a0 Z = true) (hz : z.toInt = (N : Int)) (hvs : List.replicate N (defaultValue .byte) = vs) (cap : Nat) (hcap : N ≤ cap) (h8 : cap * 8 ≤ 536870912) (hc : k + 1 ≤ R.cells) (hl : n + cap ≤ R.slots) (hk' : k + 1 = k') (hn' : n + cap = n')
    (g : ∀ h' a, a = h.size → Ext h h' → Al Z h' a .byte vs → Go Z l R B ml own rt mn pc' Ls (.ref a :: rest) h' L k' n' Q) : Go Z l R B ml own rt mn pc Ls (.int z :: rest) h L k n Q := by
  subst hp hk' hn' hvs
  intro p e s m args below meth c T X hx hZ hby hml hown hrt hlk hnm eT
  have hz0 : ¬ z < 0 := by
    rw [Int32.lt_iff_toInt_lt]; have z0 : (0 : Int32).toInt = 0 := rfl
    omega
  obtain ⟨T', h', cA, X', e', E', A', stp⟩ := newP X hx hZ (aty := .byte) w eT (g := mkF m pc Ls (.int z :: rest)) rfl (hb hby hd) rfl hz0 (cap := cap) (by show z.toInt.toNat ≤ cap; omega) h8 hc hl
  obtain ⟨s₂, o, h1, h2⟩ := g h' _ rfl E' (Al.new A' hz) p e s m args below meth c T' X' hx hZ hby hml hown hrt hlk hnm e'
  exact ⟨s₂, o, stp _ h1, h2⟩
theorem Go.new_boolean {a0 : Array Value} {z : Int32} {N : Nat} {k' n' : Nat} {vs : List Value} (hd : decode B pc = .ok (.newarray .boolean, 2)) (hp : pc + 2 = pc') (w : (Jvm.Cond.arrayClass (.boolean)).before a0 Z = true) (hz : z.toInt = (N : Int)) (hvs : List.replicate N (defaultValue .boolean) = vs) (cap : Nat) (hcap : N ≤ cap) (h8 : cap * 8 ≤ 536870912) (hc : k + 1 ≤ R.cells) (hl : n + cap ≤ R.slots) (hk' : k + 1 = k') (hn' : n + cap = n')
    (g : ∀ h' a, a = h.size → Ext h h' → Al Z h' a .boolean vs → Go Z l R B ml own rt mn pc' Ls (.ref a :: rest) h' L k' n' Q) : Go Z l R B ml own rt mn pc Ls (.int z :: rest) h L k n Q := by
  subst hp hk' hn' hvs
  intro p e s m args below meth c T X hx hZ hby hml hown hrt hlk hnm eT
  have hz0 : ¬ z < 0 := by
    rw [Int32.lt_iff_toInt_lt]; have z0 : (0 : Int32).toInt = 0 := rfl
    omega
  obtain ⟨T', h', cA, X', e', E', A', stp⟩ := newP X hx hZ (aty := .boolean) w eT (g := mkF m pc Ls (.int z :: rest)) rfl (hb hby hd) rfl hz0 (cap := cap) (by show z.toInt.toNat ≤ cap; omega) h8 hc hl
  obtain ⟨s₂, o, h1, h2⟩ := g h' _ rfl E' (Al.new A' hz) p e s m args below meth c T' X' hx hZ hby hml hown hrt hlk hnm e'
  exact ⟨s₂, o, stp _ h1, h2⟩
theorem iadd_eq {x y : Int32} (h1 : -2147483648 ≤ x.toInt + y.toInt) (h2 : x.toInt + y.toInt < 2147483648) : (x + y).toInt = x.toInt + y.toInt := by
  have e := c_iadd x y
  have r := rng32 (x + y)
  omega
theorem isub_eq {x y : Int32} (h1 : -2147483648 ≤ x.toInt - y.toInt) (h2 : x.toInt - y.toInt < 2147483648) : (x - y).toInt = x.toInt - y.toInt := by
  have e := c_isub x y
  have r := rng32 (x - y)
  omega
theorem ladd_eq {x y : Int64} (h1 : -9223372036854775808 ≤ x.toInt + y.toInt) (h2 : x.toInt + y.toInt < 9223372036854775808) : (x + y).toInt = x.toInt + y.toInt := by
  have e := c_ladd x y
  have r := rng64 (x + y)
  omega
theorem lsub_eq {x y : Int64} (h1 : -9223372036854775808 ≤ x.toInt - y.toInt) (h2 : x.toInt - y.toInt < 9223372036854775808) : (x - y).toInt = x.toInt - y.toInt := by
  have e := c_lsub x y
  have r := rng64 (x - y)
  omega
theorem irem_bd {x y : Int32} (h1 : 0 ≤ x.toInt) (h2 : 0 < y.toInt) : 0 ≤ (x % y).toInt ∧ (x % y).toInt < y.toInt ∧ (x % y).toInt ≤ x.toInt := by
  have q := (c_iremV x y).1 h1 h2
  exact ⟨q.1, q.2.1, q.2.2.1⟩
theorem mask31 (x : Int32) : 0 ≤ (x &&& (2147483647 : Int32)).toInt ∧ (x &&& (2147483647 : Int32)).toInt ≤ 2147483647 := by
  have q := c_and x (2147483647 : Int32) (by decide)
  have k : (2147483647 : Int32).toInt = 2147483647 := by decide
  omega
theorem nar_b8 (x : Int32) : nar .byte x.toInt8.toInt32 = x.toInt8.toInt32 := by
  show x.toInt8.toInt32.toInt8.toInt32 = x.toInt8.toInt32
  rw [Int8.toInt8_toInt32]
end Rules
end Jvm.OwnKit
namespace Jvm.Pilot.@@N@@
open Jvm Jvm.ClassFile Sem Op Lib Jvm.Free Jvm.Stand Jvm.LawKit Jvm.RoadKit Jvm.OwnKit Bundle Jvm.Pilot.@@N@@.Jvm.D
theorem w0 : (Jvm.Cond.arrayClass Jvm.ClassFile.FieldType.int) ∈ tables_1 := List.mem_of_getElem? (i := 0) rfl
theorem w1 : (Jvm.Cond.classLink "com/example/even_keel/evenkeel/scale/IntMinHeapTakeLeastPinLaw" (7 : Nat) "com/example/even_keel/evenkeel/scale/IntMinHeap") ∈ tables_1 := List.mem_of_getElem? (i := 1) rfl
theorem w2 : (Jvm.Cond.instantiable "com/example/even_keel/evenkeel/scale/IntMinHeap" (2 : Nat)) ∈ tables_1 := List.mem_of_getElem? (i := 2) rfl
theorem w3 : (Jvm.Cond.initialized "com/example/even_keel/evenkeel/scale/IntMinHeap") ∈ tables_1 := List.mem_of_getElem? (i := 3) rfl
theorem w4 : (Jvm.Cond.methodLink "com/example/even_keel/evenkeel/scale/IntMinHeapTakeLeastPinLaw" (9 : Nat) ({ cls := "com/example/even_keel/evenkeel/scale/IntMinHeap", name := "<init>", desc := "(I)V" } : Jvm.MethodName)) ∈ tables_1 := List.mem_of_getElem? (i := 4) rfl
theorem w5 : (Jvm.Cond.instanceMethod ({ cls := "com/example/even_keel/evenkeel/scale/IntMinHeap", name := "<init>", desc := "(I)V" } : Jvm.MethodName)) ∈ tables_1 := List.mem_of_getElem? (i := 5) rfl
theorem w6 : (Jvm.Cond.code ({ cls := "com/example/even_keel/evenkeel/scale/IntMinHeap", name := "<init>", desc := "(I)V" } : Jvm.MethodName) prog_167_method_1_code (2 : Nat) (Option.none : Option Jvm.ClassFile.FieldType)) ∈ tables_1 := List.mem_of_getElem? (i := 6) rfl
theorem w7 : (Jvm.Cond.methodLink "com/example/even_keel/evenkeel/scale/IntMinHeap" (1 : Nat) ({ cls := "java/lang/Object", name := "<init>", desc := "()V" } : Jvm.MethodName)) ∈ tables_1 := List.mem_of_getElem? (i := 7) rfl
theorem w8 : (Jvm.Cond.instanceMethod ({ cls := "java/lang/Object", name := "<init>", desc := "()V" } : Jvm.MethodName)) ∈ tables_1 := List.mem_of_getElem? (i := 8) rfl
theorem w9 : (Jvm.Cond.code ({ cls := "java/lang/Object", name := "<init>", desc := "()V" } : Jvm.MethodName) object_method_1_code (1 : Nat) (Option.none : Option Jvm.ClassFile.FieldType)) ∈ tables_1 := List.mem_of_getElem? (i := 9) rfl
theorem w10 : (Jvm.Cond.fieldLink "com/example/even_keel/evenkeel/scale/IntMinHeap" (7 : Nat) "com/example/even_keel/evenkeel/scale/IntMinHeap" "values" "[I") ∈ tables_1 := List.mem_of_getElem? (i := 10) rfl
theorem w11 : (Jvm.Cond.laysFinal "com/example/even_keel/evenkeel/scale/IntMinHeap" "com/example/even_keel/evenkeel/scale/IntMinHeap" "values" "[I") ∈ tables_1 := List.mem_of_getElem? (i := 11) rfl
theorem w12 : (Jvm.Cond.methodLink "com/example/even_keel/evenkeel/scale/IntMinHeapTakeLeastPinLaw" (12 : Nat) ({ cls := "com/example/even_keel/evenkeel/scale/IntMinHeap", name := "add", desc := "(I)V" } : Jvm.MethodName)) ∈ tables_1 := List.mem_of_getElem? (i := 12) rfl
theorem w13 : (Jvm.Cond.declares ({ cls := "com/example/even_keel/evenkeel/scale/IntMinHeap", name := "add", desc := "(I)V" } : Jvm.MethodName)) ∈ tables_1 := List.mem_of_getElem? (i := 13) rfl
theorem w14 : (Jvm.Cond.instanceMethod ({ cls := "com/example/even_keel/evenkeel/scale/IntMinHeap", name := "add", desc := "(I)V" } : Jvm.MethodName)) ∈ tables_1 := List.mem_of_getElem? (i := 14) rfl
theorem w15 : (Jvm.Cond.selects "com/example/even_keel/evenkeel/scale/IntMinHeap" ({ cls := "com/example/even_keel/evenkeel/scale/IntMinHeap", name := "add", desc := "(I)V" } : Jvm.MethodName) ({ cls := "com/example/even_keel/evenkeel/scale/IntMinHeap", name := "add", desc := "(I)V" } : Jvm.MethodName)) ∈ tables_1 := List.mem_of_getElem? (i := 15) rfl
theorem w16 : (Jvm.Cond.code ({ cls := "com/example/even_keel/evenkeel/scale/IntMinHeap", name := "add", desc := "(I)V" } : Jvm.MethodName) prog_167_method_5_code (4 : Nat) (Option.none : Option Jvm.ClassFile.FieldType)) ∈ tables_1 := List.mem_of_getElem? (i := 16) rfl
theorem w17 : (Jvm.Cond.fieldLink "com/example/even_keel/evenkeel/scale/IntMinHeap" (13 : Nat) "com/example/even_keel/evenkeel/scale/IntMinHeap" "size" "I") ∈ tables_1 := List.mem_of_getElem? (i := 17) rfl
theorem w18 : (Jvm.Cond.lays "com/example/even_keel/evenkeel/scale/IntMinHeap" "com/example/even_keel/evenkeel/scale/IntMinHeap" "size" "I") ∈ tables_1 := List.mem_of_getElem? (i := 18) rfl
theorem w19 : (Jvm.Cond.methodLink "com/example/even_keel/evenkeel/scale/IntMinHeapTakeLeastPinLaw" (15 : Nat) ({ cls := "com/example/even_keel/evenkeel/scale/IntMinHeap", name := "takeLeast", desc := "()I" } : Jvm.MethodName)) ∈ tables_1 := List.mem_of_getElem? (i := 19) rfl
theorem w20 : (Jvm.Cond.declares ({ cls := "com/example/even_keel/evenkeel/scale/IntMinHeap", name := "takeLeast", desc := "()I" } : Jvm.MethodName)) ∈ tables_1 := List.mem_of_getElem? (i := 20) rfl
theorem w21 : (Jvm.Cond.instanceMethod ({ cls := "com/example/even_keel/evenkeel/scale/IntMinHeap", name := "takeLeast", desc := "()I" } : Jvm.MethodName)) ∈ tables_1 := List.mem_of_getElem? (i := 21) rfl
theorem w22 : (Jvm.Cond.selects "com/example/even_keel/evenkeel/scale/IntMinHeap" ({ cls := "com/example/even_keel/evenkeel/scale/IntMinHeap", name := "takeLeast", desc := "()I" } : Jvm.MethodName) ({ cls := "com/example/even_keel/evenkeel/scale/IntMinHeap", name := "takeLeast", desc := "()I" } : Jvm.MethodName)) ∈ tables_1 := List.mem_of_getElem? (i := 22) rfl
theorem w23 : (Jvm.Cond.code ({ cls := "com/example/even_keel/evenkeel/scale/IntMinHeap", name := "takeLeast", desc := "()I" } : Jvm.MethodName) prog_167_method_6_code (5 : Nat) (Option.some Jvm.ClassFile.FieldType.int)) ∈ tables_1 := List.mem_of_getElem? (i := 23) rfl
theorem w24 : (Jvm.Cond.methodLink "com/example/even_keel/evenkeel/scale/IntMinHeapTakeLeastPinLaw" (19 : Nat) ({ cls := "com/example/even_keel/evenkeel/scale/IntMinHeapTakeLeastPinLaw", name := "count", desc := "([II)I" } : Jvm.MethodName)) ∈ tables_1 := List.mem_of_getElem? (i := 24) rfl
theorem w25 : (Jvm.Cond.static ({ cls := "com/example/even_keel/evenkeel/scale/IntMinHeapTakeLeastPinLaw", name := "count", desc := "([II)I" } : Jvm.MethodName)) ∈ tables_1 := List.mem_of_getElem? (i := 25) rfl
theorem w26 : (Jvm.Cond.initialized "com/example/even_keel/evenkeel/scale/IntMinHeapTakeLeastPinLaw") ∈ tables_1 := List.mem_of_getElem? (i := 26) rfl
theorem w27 : (Jvm.Cond.code ({ cls := "com/example/even_keel/evenkeel/scale/IntMinHeapTakeLeastPinLaw", name := "count", desc := "([II)I" } : Jvm.MethodName) method_2_code (3 : Nat) (Option.some Jvm.ClassFile.FieldType.int)) ∈ tables_1 := List.mem_of_getElem? (i := 27) rfl
theorem d1_0 : decode prog_167_method_1_code 0 = .ok (.aload_n 0, 1) := by decide +kernel
theorem d1_1 : decode prog_167_method_1_code 1 = .ok (.invokespecial 1, 3) := by decide +kernel
theorem d1_4 : decode prog_167_method_1_code 4 = .ok (.aload_n 0, 1) := by decide +kernel
theorem d1_5 : decode prog_167_method_1_code 5 = .ok (.iload_n 1, 1) := by decide +kernel
theorem d1_6 : decode prog_167_method_1_code 6 = .ok (.newarray .int, 2) := by decide +kernel
theorem d1_8 : decode prog_167_method_1_code 8 = .ok (.putfield 7, 3) := by decide +kernel
theorem d1_11 : decode prog_167_method_1_code 11 = .ok (.return_, 1) := by decide +kernel
theorem d3_0 : decode prog_167_method_5_code 0 = .ok (.aload_n 0, 1) := by decide +kernel
theorem d3_1 : decode prog_167_method_5_code 1 = .ok (.dup, 1) := by decide +kernel
theorem d3_2 : decode prog_167_method_5_code 2 = .ok (.getfield 13, 3) := by decide +kernel
theorem d3_5 : decode prog_167_method_5_code 5 = .ok (.dup_x1, 1) := by decide +kernel
theorem d3_6 : decode prog_167_method_5_code 6 = .ok (.iconst 1, 1) := by decide +kernel
theorem d3_7 : decode prog_167_method_5_code 7 = .ok (.iadd, 1) := by decide +kernel
theorem d3_8 : decode prog_167_method_5_code 8 = .ok (.putfield 13, 3) := by decide +kernel
theorem d3_11 : decode prog_167_method_5_code 11 = .ok (.istore_n 2, 1) := by decide +kernel
theorem d3_12 : decode prog_167_method_5_code 12 = .ok (.iload_n 2, 1) := by decide +kernel
theorem d3_13 : decode prog_167_method_5_code 13 = .ok (.ifCond .le 39, 3) := by decide +kernel
theorem d3_16 : decode prog_167_method_5_code 16 = .ok (.iload_n 2, 1) := by decide +kernel
theorem d3_17 : decode prog_167_method_5_code 17 = .ok (.iconst 1, 1) := by decide +kernel
theorem d3_18 : decode prog_167_method_5_code 18 = .ok (.isub, 1) := by decide +kernel
theorem d3_19 : decode prog_167_method_5_code 19 = .ok (.iconst 2, 1) := by decide +kernel
theorem d3_20 : decode prog_167_method_5_code 20 = .ok (.idiv, 1) := by decide +kernel
theorem d3_21 : decode prog_167_method_5_code 21 = .ok (.istore_n 3, 1) := by decide +kernel
theorem d3_22 : decode prog_167_method_5_code 22 = .ok (.aload_n 0, 1) := by decide +kernel
theorem d3_23 : decode prog_167_method_5_code 23 = .ok (.getfield 7, 3) := by decide +kernel
theorem d3_26 : decode prog_167_method_5_code 26 = .ok (.iload_n 3, 1) := by decide +kernel
theorem d3_27 : decode prog_167_method_5_code 27 = .ok (.iaload, 1) := by decide +kernel
theorem d3_28 : decode prog_167_method_5_code 28 = .ok (.iload_n 1, 1) := by decide +kernel
theorem d3_29 : decode prog_167_method_5_code 29 = .ok (.if_icmp .ge 6, 3) := by decide +kernel
theorem d3_32 : decode prog_167_method_5_code 32 = .ok (.goto 20, 3) := by decide +kernel
theorem d3_35 : decode prog_167_method_5_code 35 = .ok (.aload_n 0, 1) := by decide +kernel
theorem d3_36 : decode prog_167_method_5_code 36 = .ok (.getfield 7, 3) := by decide +kernel
theorem d3_39 : decode prog_167_method_5_code 39 = .ok (.iload_n 2, 1) := by decide +kernel
theorem d3_40 : decode prog_167_method_5_code 40 = .ok (.aload_n 0, 1) := by decide +kernel
theorem d3_41 : decode prog_167_method_5_code 41 = .ok (.getfield 7, 3) := by decide +kernel
theorem d3_44 : decode prog_167_method_5_code 44 = .ok (.iload_n 3, 1) := by decide +kernel
theorem d3_45 : decode prog_167_method_5_code 45 = .ok (.iaload, 1) := by decide +kernel
theorem d3_46 : decode prog_167_method_5_code 46 = .ok (.iastore, 1) := by decide +kernel
theorem d3_47 : decode prog_167_method_5_code 47 = .ok (.iload_n 3, 1) := by decide +kernel
theorem d3_48 : decode prog_167_method_5_code 48 = .ok (.istore_n 2, 1) := by decide +kernel
theorem d3_49 : decode prog_167_method_5_code 49 = .ok (.goto (-37), 3) := by decide +kernel
theorem d3_52 : decode prog_167_method_5_code 52 = .ok (.aload_n 0, 1) := by decide +kernel
theorem d3_53 : decode prog_167_method_5_code 53 = .ok (.getfield 7, 3) := by decide +kernel
theorem d3_56 : decode prog_167_method_5_code 56 = .ok (.iload_n 2, 1) := by decide +kernel
theorem d3_57 : decode prog_167_method_5_code 57 = .ok (.iload_n 1, 1) := by decide +kernel
theorem d3_58 : decode prog_167_method_5_code 58 = .ok (.iastore, 1) := by decide +kernel
theorem d3_59 : decode prog_167_method_5_code 59 = .ok (.return_, 1) := by decide +kernel
theorem d4_0 : decode prog_167_method_6_code 0 = .ok (.aload_n 0, 1) := by decide +kernel
theorem d4_1 : decode prog_167_method_6_code 1 = .ok (.getfield 7, 3) := by decide +kernel
theorem d4_4 : decode prog_167_method_6_code 4 = .ok (.iconst 0, 1) := by decide +kernel
theorem d4_5 : decode prog_167_method_6_code 5 = .ok (.iaload, 1) := by decide +kernel
theorem d4_6 : decode prog_167_method_6_code 6 = .ok (.istore_n 1, 1) := by decide +kernel
theorem d4_7 : decode prog_167_method_6_code 7 = .ok (.aload_n 0, 1) := by decide +kernel
theorem d4_8 : decode prog_167_method_6_code 8 = .ok (.getfield 7, 3) := by decide +kernel
theorem d4_11 : decode prog_167_method_6_code 11 = .ok (.aload_n 0, 1) := by decide +kernel
theorem d4_12 : decode prog_167_method_6_code 12 = .ok (.dup, 1) := by decide +kernel
theorem d4_13 : decode prog_167_method_6_code 13 = .ok (.getfield 13, 3) := by decide +kernel
theorem d4_16 : decode prog_167_method_6_code 16 = .ok (.iconst 1, 1) := by decide +kernel
theorem d4_17 : decode prog_167_method_6_code 17 = .ok (.isub, 1) := by decide +kernel
theorem d4_18 : decode prog_167_method_6_code 18 = .ok (.dup_x1, 1) := by decide +kernel
theorem d4_19 : decode prog_167_method_6_code 19 = .ok (.putfield 13, 3) := by decide +kernel
theorem d4_22 : decode prog_167_method_6_code 22 = .ok (.iaload, 1) := by decide +kernel
theorem d4_23 : decode prog_167_method_6_code 23 = .ok (.istore_n 2, 1) := by decide +kernel
theorem d4_24 : decode prog_167_method_6_code 24 = .ok (.iconst 0, 1) := by decide +kernel
theorem d4_25 : decode prog_167_method_6_code 25 = .ok (.istore_n 3, 1) := by decide +kernel
theorem d4_26 : decode prog_167_method_6_code 26 = .ok (.iconst 2, 1) := by decide +kernel
theorem d4_27 : decode prog_167_method_6_code 27 = .ok (.iload_n 3, 1) := by decide +kernel
theorem d4_28 : decode prog_167_method_6_code 28 = .ok (.imul, 1) := by decide +kernel
theorem d4_29 : decode prog_167_method_6_code 29 = .ok (.iconst 1, 1) := by decide +kernel
theorem d4_30 : decode prog_167_method_6_code 30 = .ok (.iadd, 1) := by decide +kernel
theorem d4_31 : decode prog_167_method_6_code 31 = .ok (.istore 4, 2) := by decide +kernel
theorem d4_33 : decode prog_167_method_6_code 33 = .ok (.iload 4, 2) := by decide +kernel
theorem d4_35 : decode prog_167_method_6_code 35 = .ok (.aload_n 0, 1) := by decide +kernel
theorem d4_36 : decode prog_167_method_6_code 36 = .ok (.getfield 13, 3) := by decide +kernel
theorem d4_39 : decode prog_167_method_6_code 39 = .ok (.if_icmp .lt 6, 3) := by decide +kernel
theorem d4_42 : decode prog_167_method_6_code 42 = .ok (.goto 69, 3) := by decide +kernel
theorem d4_45 : decode prog_167_method_6_code 45 = .ok (.iload 4, 2) := by decide +kernel
theorem d4_47 : decode prog_167_method_6_code 47 = .ok (.iconst 1, 1) := by decide +kernel
theorem d4_48 : decode prog_167_method_6_code 48 = .ok (.iadd, 1) := by decide +kernel
theorem d4_49 : decode prog_167_method_6_code 49 = .ok (.aload_n 0, 1) := by decide +kernel
theorem d4_50 : decode prog_167_method_6_code 50 = .ok (.getfield 13, 3) := by decide +kernel
theorem d4_53 : decode prog_167_method_6_code 53 = .ok (.if_icmp .ge 25, 3) := by decide +kernel
theorem d4_56 : decode prog_167_method_6_code 56 = .ok (.aload_n 0, 1) := by decide +kernel
theorem d4_57 : decode prog_167_method_6_code 57 = .ok (.getfield 7, 3) := by decide +kernel
theorem d4_60 : decode prog_167_method_6_code 60 = .ok (.iload 4, 2) := by decide +kernel
theorem d4_62 : decode prog_167_method_6_code 62 = .ok (.iconst 1, 1) := by decide +kernel
theorem d4_63 : decode prog_167_method_6_code 63 = .ok (.iadd, 1) := by decide +kernel
theorem d4_64 : decode prog_167_method_6_code 64 = .ok (.iaload, 1) := by decide +kernel
theorem d4_65 : decode prog_167_method_6_code 65 = .ok (.aload_n 0, 1) := by decide +kernel
theorem d4_66 : decode prog_167_method_6_code 66 = .ok (.getfield 7, 3) := by decide +kernel
theorem d4_69 : decode prog_167_method_6_code 69 = .ok (.iload 4, 2) := by decide +kernel
theorem d4_71 : decode prog_167_method_6_code 71 = .ok (.iaload, 1) := by decide +kernel
theorem d4_72 : decode prog_167_method_6_code 72 = .ok (.if_icmp .ge 6, 3) := by decide +kernel
theorem d4_75 : decode prog_167_method_6_code 75 = .ok (.iinc 4 1, 3) := by decide +kernel
theorem d4_78 : decode prog_167_method_6_code 78 = .ok (.iload_n 2, 1) := by decide +kernel
theorem d4_79 : decode prog_167_method_6_code 79 = .ok (.aload_n 0, 1) := by decide +kernel
theorem d4_80 : decode prog_167_method_6_code 80 = .ok (.getfield 7, 3) := by decide +kernel
theorem d4_83 : decode prog_167_method_6_code 83 = .ok (.iload 4, 2) := by decide +kernel
theorem d4_85 : decode prog_167_method_6_code 85 = .ok (.iaload, 1) := by decide +kernel
theorem d4_86 : decode prog_167_method_6_code 86 = .ok (.if_icmp .ge 6, 3) := by decide +kernel
theorem d4_89 : decode prog_167_method_6_code 89 = .ok (.goto 22, 3) := by decide +kernel
theorem d4_92 : decode prog_167_method_6_code 92 = .ok (.aload_n 0, 1) := by decide +kernel
theorem d4_93 : decode prog_167_method_6_code 93 = .ok (.getfield 7, 3) := by decide +kernel
theorem d4_96 : decode prog_167_method_6_code 96 = .ok (.iload_n 3, 1) := by decide +kernel
theorem d4_97 : decode prog_167_method_6_code 97 = .ok (.aload_n 0, 1) := by decide +kernel
theorem d4_98 : decode prog_167_method_6_code 98 = .ok (.getfield 7, 3) := by decide +kernel
theorem d4_101 : decode prog_167_method_6_code 101 = .ok (.iload 4, 2) := by decide +kernel
theorem d4_103 : decode prog_167_method_6_code 103 = .ok (.iaload, 1) := by decide +kernel
theorem d4_104 : decode prog_167_method_6_code 104 = .ok (.iastore, 1) := by decide +kernel
theorem d4_105 : decode prog_167_method_6_code 105 = .ok (.iload 4, 2) := by decide +kernel
theorem d4_107 : decode prog_167_method_6_code 107 = .ok (.istore_n 3, 1) := by decide +kernel
theorem d4_108 : decode prog_167_method_6_code 108 = .ok (.goto (-82), 3) := by decide +kernel
theorem d4_111 : decode prog_167_method_6_code 111 = .ok (.aload_n 0, 1) := by decide +kernel
theorem d4_112 : decode prog_167_method_6_code 112 = .ok (.getfield 13, 3) := by decide +kernel
theorem d4_115 : decode prog_167_method_6_code 115 = .ok (.ifCond .le 10, 3) := by decide +kernel
theorem d4_118 : decode prog_167_method_6_code 118 = .ok (.aload_n 0, 1) := by decide +kernel
theorem d4_119 : decode prog_167_method_6_code 119 = .ok (.getfield 7, 3) := by decide +kernel
theorem d4_122 : decode prog_167_method_6_code 122 = .ok (.iload_n 3, 1) := by decide +kernel
theorem d4_123 : decode prog_167_method_6_code 123 = .ok (.iload_n 2, 1) := by decide +kernel
theorem d4_124 : decode prog_167_method_6_code 124 = .ok (.iastore, 1) := by decide +kernel
theorem d4_125 : decode prog_167_method_6_code 125 = .ok (.iload_n 1, 1) := by decide +kernel
theorem d4_126 : decode prog_167_method_6_code 126 = .ok (.ireturn, 1) := by decide +kernel
theorem d5_0 : decode method_2_code 0 = .ok (.iconst 0, 1) := by decide +kernel
theorem d5_1 : decode method_2_code 1 = .ok (.istore_n 2, 1) := by decide +kernel
theorem d5_2 : decode method_2_code 2 = .ok (.aload_n 0, 1) := by decide +kernel
theorem d5_3 : decode method_2_code 3 = .ok (.iconst 0, 1) := by decide +kernel
theorem d5_4 : decode method_2_code 4 = .ok (.iaload, 1) := by decide +kernel
theorem d5_5 : decode method_2_code 5 = .ok (.iload_n 1, 1) := by decide +kernel
theorem d5_6 : decode method_2_code 6 = .ok (.if_icmp .ne 7, 3) := by decide +kernel
theorem d5_9 : decode method_2_code 9 = .ok (.iload_n 2, 1) := by decide +kernel
theorem d5_10 : decode method_2_code 10 = .ok (.iconst 1, 1) := by decide +kernel
theorem d5_11 : decode method_2_code 11 = .ok (.iadd, 1) := by decide +kernel
theorem d5_12 : decode method_2_code 12 = .ok (.istore_n 2, 1) := by decide +kernel
theorem d5_13 : decode method_2_code 13 = .ok (.aload_n 0, 1) := by decide +kernel
theorem d5_14 : decode method_2_code 14 = .ok (.iconst 1, 1) := by decide +kernel
theorem d5_15 : decode method_2_code 15 = .ok (.iaload, 1) := by decide +kernel
theorem d5_16 : decode method_2_code 16 = .ok (.iload_n 1, 1) := by decide +kernel
theorem d5_17 : decode method_2_code 17 = .ok (.if_icmp .ne 7, 3) := by decide +kernel
theorem d5_20 : decode method_2_code 20 = .ok (.iload_n 2, 1) := by decide +kernel
theorem d5_21 : decode method_2_code 21 = .ok (.iconst 1, 1) := by decide +kernel
theorem d5_22 : decode method_2_code 22 = .ok (.iadd, 1) := by decide +kernel
theorem d5_23 : decode method_2_code 23 = .ok (.istore_n 2, 1) := by decide +kernel
theorem d5_24 : decode method_2_code 24 = .ok (.aload_n 0, 1) := by decide +kernel
theorem d5_25 : decode method_2_code 25 = .ok (.iconst 2, 1) := by decide +kernel
theorem d5_26 : decode method_2_code 26 = .ok (.iaload, 1) := by decide +kernel
theorem d5_27 : decode method_2_code 27 = .ok (.iload_n 1, 1) := by decide +kernel
theorem d5_28 : decode method_2_code 28 = .ok (.if_icmp .ne 7, 3) := by decide +kernel
theorem d5_31 : decode method_2_code 31 = .ok (.iload_n 2, 1) := by decide +kernel
theorem d5_32 : decode method_2_code 32 = .ok (.iconst 1, 1) := by decide +kernel
theorem d5_33 : decode method_2_code 33 = .ok (.iadd, 1) := by decide +kernel
theorem d5_34 : decode method_2_code 34 = .ok (.istore_n 2, 1) := by decide +kernel
theorem d5_35 : decode method_2_code 35 = .ok (.aload_n 0, 1) := by decide +kernel
theorem d5_36 : decode method_2_code 36 = .ok (.iconst 3, 1) := by decide +kernel
theorem d5_37 : decode method_2_code 37 = .ok (.iaload, 1) := by decide +kernel
theorem d5_38 : decode method_2_code 38 = .ok (.iload_n 1, 1) := by decide +kernel
theorem d5_39 : decode method_2_code 39 = .ok (.if_icmp .ne 7, 3) := by decide +kernel
theorem d5_42 : decode method_2_code 42 = .ok (.iload_n 2, 1) := by decide +kernel
theorem d5_43 : decode method_2_code 43 = .ok (.iconst 1, 1) := by decide +kernel
theorem d5_44 : decode method_2_code 44 = .ok (.iadd, 1) := by decide +kernel
theorem d5_45 : decode method_2_code 45 = .ok (.istore_n 2, 1) := by decide +kernel
theorem d5_46 : decode method_2_code 46 = .ok (.aload_n 0, 1) := by decide +kernel
theorem d5_47 : decode method_2_code 47 = .ok (.iconst 4, 1) := by decide +kernel
theorem d5_48 : decode method_2_code 48 = .ok (.iaload, 1) := by decide +kernel
theorem d5_49 : decode method_2_code 49 = .ok (.iload_n 1, 1) := by decide +kernel
theorem d5_50 : decode method_2_code 50 = .ok (.if_icmp .ne 7, 3) := by decide +kernel
theorem d5_53 : decode method_2_code 53 = .ok (.iload_n 2, 1) := by decide +kernel
theorem d5_54 : decode method_2_code 54 = .ok (.iconst 1, 1) := by decide +kernel
theorem d5_55 : decode method_2_code 55 = .ok (.iadd, 1) := by decide +kernel
theorem d5_56 : decode method_2_code 56 = .ok (.istore_n 2, 1) := by decide +kernel
theorem d5_57 : decode method_2_code 57 = .ok (.iload_n 2, 1) := by decide +kernel
theorem d5_58 : decode method_2_code 58 = .ok (.ireturn, 1) := by decide +kernel
theorem pd__28_29I : parseMethodDescriptor "()I" = some ⟨[], some .int⟩ := by decide +kernel
theorem pd__28I_29V : parseMethodDescriptor "(I)V" = some ⟨[.int], none⟩ := by decide +kernel
theorem pd__28_5bII_29I : parseMethodDescriptor "([II)I" = some ⟨[(.array .int), .int], some .int⟩ := by decide +kernel
def own_c (z : Int32) : List Int32 → Nat
  | [] => 0
  | b :: t => (if b.toInt = z.toInt then 1 else 0) + own_c z t
def own_k (z : Int32) (s : Int32) : List Int32 → Int32
  | [] => s
  | b :: t => own_k z (if b.toInt = z.toInt then s + (1 : Int32) else s) t
def own_add (s : Int32) : Nat → Int32
  | 0 => s
  | n + 1 => own_add (s + (1 : Int32)) n
theorem own_kc (z : Int32) (l : List Int32) : ∀ s, own_k z s l = own_add s (own_c z l) := by
  induction l with
  | nil => intro s; rfl
  | cons b t ih =>
    intro s
    show own_k z (if _ then _ else _) t = own_add s ((if _ then _ else _) + own_c z t)
    by_cases h : b.toInt = z.toInt
    · rw [if_pos h, if_pos h, ih, Nat.add_comm]; rfl
    · rw [if_neg h, if_neg h, ih, Nat.zero_add]
theorem own_cons (z b : Int32) (t : List Int32) : own_c z (b :: t) = (if b.toInt = z.toInt then 1 else 0) + own_c z t := rfl
theorem own_nil (z : Int32) : own_c z [] = 0 := rfl
set_option maxRecDepth 65536 in
set_option maxHeartbeats 40000000 in
theorem c_init {l : Launch} {Z : State} {a0 : Array Value} (hw : ∀ d ∈ tables_1, d.before a0 Z = true) {h0 : Heap} {n0 : Nat} (sz0 : n0 ≤ h0.size) (o : Addr) (gn_o : n0 ≤ o) (E_o : Exa Z h0 o "com/example/even_keel/evenkeel/scale/IntMinHeap") (F_o_values : Fld Z h0 o "com/example/even_keel/evenkeel/scale/IntMinHeap" "values" "[I" .null) (F_o_size : Fld Z h0 o "com/example/even_keel/evenkeel/scale/IntMinHeap" "size" "I" (.int (0 : Int32))) : Con l Z (⟨"com/example/even_keel/evenkeel/scale/IntMinHeap", "<init>", "(I)V"⟩ : MethodName) prog_167_method_1_code 2 none ({ frames := 1, cells := 1, slots := 5, locals := 12 } : Room) [] #[(.ref o), (.int (5 : Int32))] h0 (fun v h L => ∃ a, v = none ∧ h0.size ≤ a ∧ Fr n0 L ∧ Keep h0 h [o] ∧ Exa Z h o "com/example/even_keel/evenkeel/scale/IntMinHeap" ∧ Fld Z h o "com/example/even_keel/evenkeel/scale/IntMinHeap" "values" "[I" (.ref a) ∧ Fld Z h o "com/example/even_keel/evenkeel/scale/IntMinHeap" "size" "I" (.int (0 : Int32)) ∧ Al Z h a .int [(.int (0 : Int32)), (.int (0 : Int32)), (.int (0 : Int32)), (.int (0 : Int32)), (.int (0 : Int32))]) := by
  refine con_of (Ls := #[.val (.ref o), .val (.int (5 : Int32))]) (plainFor_of_name (by first | (simp [plainName, overriddenIn]; done) | decide +kernel)) (fun m => by first | rfl | (simp [entryFrame, mkF, argsToLocals, Value.category]; done)) ?_
  have N0 : Fr n0 [] := Fr.nil _
  have K0 : Keep h0 h0 [o] := Keep.refl _ _
  refine Go.aloadN (pc' := 1) d1_0 rfl rfl rfl ?_
  refine Go.initO (pc' := 4) (W := 0) d1_1 rfl (hw _ w7) (hw _ w8) (hw _ w9) (by decide) (by decide) rfl (Nat.le_of_eq rfl) ?_
  refine Go.aloadN (pc' := 5) d1_4 rfl rfl rfl ?_
  refine Go.iloadN (pc' := 6) d1_5 rfl rfl ?_
  refine Go.new_int (pc' := 8) (k' := 1) (n' := 5) (N := 5) (vs := [(.int (0 : Int32)), (.int (0 : Int32)), (.int (0 : Int32)), (.int (0 : Int32)), (.int (0 : Int32))]) d1_6 rfl (hw _ w0) (by decide) rfl 5 (Nat.le_refl _) (by decide) (by decide) (by decide) rfl rfl ?_
  intro h1 a ha_a X1 A_a
  have ne_o_a : o ≠ a := Nat.ne_of_lt (by rw [ha_a]; exact E_o.lt)
  have gn_a : n0 ≤ a := by rw [ha_a]; exact sz0
  have hs_a : h0.size ≤ a := by rw [ha_a]; exact K0.1
  replace sz0 : n0 ≤ h1.size := Nat.le_trans sz0 X1.1
  replace E_o := E_o.ext X1
  replace F_o_values := F_o_values.ext X1
  replace F_o_size := F_o_size.ext X1
  replace K0 := K0.ext X1
  refine Go.putF (pc' := 11) d1_8 rfl (hw _ w10) Via.refl F_o_values E_o (Or.inr ⟨(hw _ w11), rfl, rfl⟩) (hw _ w2) (ty := (.array .int)) (by decide) rfl rfl ?_
  intro h2 L2 NL2 W2
  replace F_o_values := F_o_values.same W2
  replace N0 := NL2 _ N0 gn_o
  replace sz0 : n0 ≤ h2.size := by rw [W2.size]; exact sz0
  replace E_o := E_o.wr W2
  replace F_o_size := F_o_size.other W2 (Or.inr (slot_ne (Or.inl (hw _ w18)) (Or.inr (hw _ w11)) (by decide) (t := .int) (t' := (.array .int)) (by decide) (by decide)))
  replace A_a := A_a.other W2 (Ne.symm ne_o_a)
  replace K0 := K0.wr W2 (Or.inl (by simp))
  refine Go.retV d1_11 rfl (by decide) (by decide) ?_
  exact ⟨a, rfl, hs_a, N0, K0, E_o, F_o_values, F_o_size, A_a⟩
set_option maxRecDepth 65536 in
set_option maxHeartbeats 40000000 in
theorem c_add0 {l : Launch} {Z : State} {a0 : Array Value} (hw : ∀ d ∈ tables_1, d.before a0 Z = true) {h0 : Heap} {n0 : Nat} (sz0 : n0 ≤ h0.size) (o a : Addr) (u x0 x1 x2 x3 x4 : Int32) (gn_o : n0 ≤ o) (gn_a : n0 ≤ a) (E_o : Exa Z h0 o "com/example/even_keel/evenkeel/scale/IntMinHeap") (F_o_values : Fld Z h0 o "com/example/even_keel/evenkeel/scale/IntMinHeap" "values" "[I" (.ref a)) (F_o_size : Fld Z h0 o "com/example/even_keel/evenkeel/scale/IntMinHeap" "size" "I" (.int (0 : Int32))) (A_a : Al Z h0 a .int [(.int x0), (.int x1), (.int x2), (.int x3), (.int x4)]) (hH : True) : Con l Z (⟨"com/example/even_keel/evenkeel/scale/IntMinHeap", "add", "(I)V"⟩ : MethodName) prog_167_method_5_code 4 none ({ frames := 0, cells := 0, slots := 0, locals := 0 } : Room) [] #[(.ref o), (.int u)] h0 (fun v h L => ∃ y0 y1 y2 y3 y4 : Int32, v = none ∧ Fr n0 L ∧ Keep h0 h [o, a] ∧ Exa Z h o "com/example/even_keel/evenkeel/scale/IntMinHeap" ∧ Fld Z h o "com/example/even_keel/evenkeel/scale/IntMinHeap" "values" "[I" (.ref a) ∧ Fld Z h o "com/example/even_keel/evenkeel/scale/IntMinHeap" "size" "I" (.int (1 : Int32)) ∧ Al Z h a .int [(.int y0), (.int y1), (.int y2), (.int y3), (.int y4)] ∧ (True) ∧ ∀ z, own_c z [y0] = (if u.toInt = z.toInt then 1 else 0) + own_c z []) := by
  refine con_of (Ls := #[.val (.ref o), .val (.int u), .unset, .unset]) (plainFor_of_name (by first | (simp [plainName, overriddenIn]; done) | decide +kernel)) (fun m => by first | rfl | (simp [entryFrame, mkF, argsToLocals, Value.category]; done)) ?_
  have N0 : Fr n0 [] := Fr.nil _
  have K0 : Keep h0 h0 [o, a] := Keep.refl _ _
  have ne_o_a : o ≠ a := ne_al E_o (hw _ w2) A_a
  refine Go.aloadN (pc' := 1) d3_0 rfl rfl rfl ?_
  refine Go.dup (pc' := 2) d3_1 rfl rfl ?_
  refine Go.getF (pc' := 5) d3_2 rfl (hw _ w17) Via.refl F_o_size ?_
  refine Go.dupX1 (pc' := 6) d3_5 rfl rfl rfl ?_
  refine Go.iconst (pc' := 7) d3_6 rfl (z := (1 : Int32)) (by decide) ?_
  refine Go.iadd (pc' := 8) d3_7 rfl (z := (1 : Int32)) (by decide) ?_
  refine Go.putF (pc' := 11) d3_8 rfl (hw _ w17) Via.refl F_o_size E_o (Or.inl (hw _ w18)) (hw _ w2) (ty := .int) (by decide) rfl rfl ?_
  intro h1 L1 NL1 W1
  replace F_o_size := F_o_size.same W1
  replace N0 := NL1 _ N0 gn_o
  replace sz0 : n0 ≤ h1.size := by rw [W1.size]; exact sz0
  replace E_o := E_o.wr W1
  replace F_o_values := F_o_values.other W1 (Or.inr (slot_ne (Or.inr (hw _ w11)) (Or.inl (hw _ w18)) (by decide) (t := (.array .int)) (t' := .int) (by decide) (by decide)))
  replace A_a := A_a.other W1 (Ne.symm ne_o_a)
  replace K0 := K0.wr W1 (Or.inl (by simp))
  refine Go.istoreN (pc' := 12) d3_11 rfl (Ls' := #[.val (.ref o), .val (.int u), .val (.int (0 : Int32)), .unset]) rfl ?_
  refine Go.iloadN (pc' := 13) d3_12 rfl rfl ?_
  refine Go.ifT (pc' := 52) (X := (0 : Int)) d3_13 (by decide) (by decide) (by decide : ¬ 0 < (0 : Int)) ?_
  refine Go.aloadN (pc' := 53) d3_52 rfl rfl rfl ?_
  refine Go.getF (pc' := 56) d3_53 rfl (hw _ w10) Via.refl F_o_values ?_
  refine Go.iloadN (pc' := 57) d3_56 rfl rfl ?_
  refine Go.iloadN (pc' := 58) d3_57 rfl rfl ?_
  refine Go.iastore (pc' := 59) (i := 0) (v := (.int u)) (vs' := [(.int u), (.int x1), (.int x2), (.int x3), (.int x4)]) d3_58 rfl A_a (by decide) (Nat.le_of_ble_eq_true rfl) rfl rfl ?_
  intro h2 L2 NL2 W2 B2
  replace N0 := NL2 _ N0 gn_a
  replace sz0 : n0 ≤ h2.size := by rw [W2.size]; exact sz0
  replace E_o := E_o.wr W2
  replace F_o_values := F_o_values.other W2 (Or.inl ne_o_a)
  replace F_o_size := F_o_size.other W2 (Or.inl ne_o_a)
  replace K0 := K0.wr W2 (Or.inl (by simp))
  clear A_a; have A_a := B2
  refine Go.retV d3_59 rfl (by decide) (by decide) ?_
  exact ⟨u, x1, x2, x3, x4, rfl, N0, K0, E_o, F_o_values, F_o_size, A_a, trivial, (by intro z; simp only [own_cons, own_nil] <;> omega)⟩
set_option maxRecDepth 65536 in
set_option maxHeartbeats 40000000 in
theorem c_add1 {l : Launch} {Z : State} {a0 : Array Value} (hw : ∀ d ∈ tables_1, d.before a0 Z = true) {h0 : Heap} {n0 : Nat} (sz0 : n0 ≤ h0.size) (o a : Addr) (u x0 x1 x2 x3 x4 : Int32) (gn_o : n0 ≤ o) (gn_a : n0 ≤ a) (E_o : Exa Z h0 o "com/example/even_keel/evenkeel/scale/IntMinHeap") (F_o_values : Fld Z h0 o "com/example/even_keel/evenkeel/scale/IntMinHeap" "values" "[I" (.ref a)) (F_o_size : Fld Z h0 o "com/example/even_keel/evenkeel/scale/IntMinHeap" "size" "I" (.int (1 : Int32))) (A_a : Al Z h0 a .int [(.int x0), (.int x1), (.int x2), (.int x3), (.int x4)]) (hH : True) : Con l Z (⟨"com/example/even_keel/evenkeel/scale/IntMinHeap", "add", "(I)V"⟩ : MethodName) prog_167_method_5_code 4 none ({ frames := 0, cells := 0, slots := 0, locals := 0 } : Room) [] #[(.ref o), (.int u)] h0 (fun v h L => ∃ y0 y1 y2 y3 y4 : Int32, v = none ∧ Fr n0 L ∧ Keep h0 h [o, a] ∧ Exa Z h o "com/example/even_keel/evenkeel/scale/IntMinHeap" ∧ Fld Z h o "com/example/even_keel/evenkeel/scale/IntMinHeap" "values" "[I" (.ref a) ∧ Fld Z h o "com/example/even_keel/evenkeel/scale/IntMinHeap" "size" "I" (.int (2 : Int32)) ∧ Al Z h a .int [(.int y0), (.int y1), (.int y2), (.int y3), (.int y4)] ∧ (y0.toInt ≤ y1.toInt) ∧ ∀ z, own_c z [y0, y1] = (if u.toInt = z.toInt then 1 else 0) + own_c z [x0]) := by
  refine con_of (Ls := #[.val (.ref o), .val (.int u), .unset, .unset]) (plainFor_of_name (by first | (simp [plainName, overriddenIn]; done) | decide +kernel)) (fun m => by first | rfl | (simp [entryFrame, mkF, argsToLocals, Value.category]; done)) ?_
  have N0 : Fr n0 [] := Fr.nil _
  have K0 : Keep h0 h0 [o, a] := Keep.refl _ _
  have ne_o_a : o ≠ a := ne_al E_o (hw _ w2) A_a
  refine Go.aloadN (pc' := 1) d3_0 rfl rfl rfl ?_
  refine Go.dup (pc' := 2) d3_1 rfl rfl ?_
  refine Go.getF (pc' := 5) d3_2 rfl (hw _ w17) Via.refl F_o_size ?_
  refine Go.dupX1 (pc' := 6) d3_5 rfl rfl rfl ?_
  refine Go.iconst (pc' := 7) d3_6 rfl (z := (1 : Int32)) (by decide) ?_
  refine Go.iadd (pc' := 8) d3_7 rfl (z := (2 : Int32)) (by decide) ?_
  refine Go.putF (pc' := 11) d3_8 rfl (hw _ w17) Via.refl F_o_size E_o (Or.inl (hw _ w18)) (hw _ w2) (ty := .int) (by decide) rfl rfl ?_
  intro h1 L1 NL1 W1
  replace F_o_size := F_o_size.same W1
  replace N0 := NL1 _ N0 gn_o
  replace sz0 : n0 ≤ h1.size := by rw [W1.size]; exact sz0
  replace E_o := E_o.wr W1
  replace F_o_values := F_o_values.other W1 (Or.inr (slot_ne (Or.inr (hw _ w11)) (Or.inl (hw _ w18)) (by decide) (t := (.array .int)) (t' := .int) (by decide) (by decide)))
  replace A_a := A_a.other W1 (Ne.symm ne_o_a)
  replace K0 := K0.wr W1 (Or.inl (by simp))
  refine Go.istoreN (pc' := 12) d3_11 rfl (Ls' := #[.val (.ref o), .val (.int u), .val (.int (1 : Int32)), .unset]) rfl ?_
  refine Go.iloadN (pc' := 13) d3_12 rfl rfl ?_
  refine Go.ifF (pc' := 16) (X := (1 : Int)) d3_13 rfl (by decide) (by decide : 0 < (1 : Int)) ?_
  refine Go.iloadN (pc' := 17) d3_16 rfl rfl ?_
  refine Go.iconst (pc' := 18) d3_17 rfl (z := (1 : Int32)) (by decide) ?_
  refine Go.isub (pc' := 19) d3_18 rfl (z := (0 : Int32)) (by decide) ?_
  refine Go.iconst (pc' := 20) d3_19 rfl (z := (2 : Int32)) (by decide) ?_
  refine Go.idiv (pc' := 21) d3_20 rfl (by decide) (z := (0 : Int32)) (by decide) ?_
  refine Go.istoreN (pc' := 22) d3_21 rfl (Ls' := #[.val (.ref o), .val (.int u), .val (.int (1 : Int32)), .val (.int (0 : Int32))]) rfl ?_
  refine Go.aloadN (pc' := 23) d3_22 rfl rfl rfl ?_
  refine Go.getF (pc' := 26) d3_23 rfl (hw _ w10) Via.refl F_o_values ?_
  refine Go.iloadN (pc' := 27) d3_26 rfl rfl ?_
  refine Go.iaload (pc' := 28) d3_27 rfl (i := 0) (v := (.int x0)) A_a (by decide) rfl ?_
  refine Go.iloadN (pc' := 29) d3_28 rfl rfl ?_
  by_cases hc2 : x0.toInt < u.toInt
  · refine Go.icmpF (pc' := 32) (X := x0.toInt) (Y := u.toInt) d3_29 rfl rfl rfl (hc2 : x0.toInt < u.toInt) ?_
    refine Go.goto (pc' := 52) d3_32 (by decide) ?_
    refine Go.aloadN (pc' := 53) d3_52 rfl rfl rfl ?_
    refine Go.getF (pc' := 56) d3_53 rfl (hw _ w10) Via.refl F_o_values ?_
    refine Go.iloadN (pc' := 57) d3_56 rfl rfl ?_
    refine Go.iloadN (pc' := 58) d3_57 rfl rfl ?_
    refine Go.iastore (pc' := 59) (i := 1) (v := (.int u)) (vs' := [(.int x0), (.int u), (.int x2), (.int x3), (.int x4)]) d3_58 rfl A_a (by decide) (Nat.le_of_ble_eq_true rfl) rfl rfl ?_
    intro h3 L3 NL3 W3 B3
    replace N0 := NL3 _ N0 gn_a
    replace sz0 : n0 ≤ h3.size := by rw [W3.size]; exact sz0
    replace E_o := E_o.wr W3
    replace F_o_values := F_o_values.other W3 (Or.inl ne_o_a)
    replace F_o_size := F_o_size.other W3 (Or.inl ne_o_a)
    replace K0 := K0.wr W3 (Or.inl (by simp))
    clear A_a; have A_a := B3
    refine Go.retV d3_59 rfl (by decide) (by decide) ?_
    exact ⟨x0, u, x2, x3, x4, rfl, N0, K0, E_o, F_o_values, F_o_size, A_a, by omega, (by intro z; simp only [own_cons, own_nil] <;> omega)⟩
  · refine Go.icmpT (pc' := 35) (X := x0.toInt) (Y := u.toInt) d3_29 (by decide) rfl rfl (hc2 : ¬ x0.toInt < u.toInt) ?_
    refine Go.aloadN (pc' := 36) d3_35 rfl rfl rfl ?_
    refine Go.getF (pc' := 39) d3_36 rfl (hw _ w10) Via.refl F_o_values ?_
    refine Go.iloadN (pc' := 40) d3_39 rfl rfl ?_
    refine Go.aloadN (pc' := 41) d3_40 rfl rfl rfl ?_
    refine Go.getF (pc' := 44) d3_41 rfl (hw _ w10) Via.refl F_o_values ?_
    refine Go.iloadN (pc' := 45) d3_44 rfl rfl ?_
    refine Go.iaload (pc' := 46) d3_45 rfl (i := 0) (v := (.int x0)) A_a (by decide) rfl ?_
    refine Go.iastore (pc' := 47) (i := 1) (v := (.int x0)) (vs' := [(.int x0), (.int x0), (.int x2), (.int x3), (.int x4)]) d3_46 rfl A_a (by decide) (Nat.le_of_ble_eq_true rfl) rfl rfl ?_
    intro h4 L4 NL4 W4 B4
    replace N0 := NL4 _ N0 gn_a
    replace sz0 : n0 ≤ h4.size := by rw [W4.size]; exact sz0
    replace E_o := E_o.wr W4
    replace F_o_values := F_o_values.other W4 (Or.inl ne_o_a)
    replace F_o_size := F_o_size.other W4 (Or.inl ne_o_a)
    replace K0 := K0.wr W4 (Or.inl (by simp))
    clear A_a; have A_a := B4
    refine Go.iloadN (pc' := 48) d3_47 rfl rfl ?_
    refine Go.istoreN (pc' := 49) d3_48 rfl (Ls' := #[.val (.ref o), .val (.int u), .val (.int (0 : Int32)), .val (.int (0 : Int32))]) rfl ?_
    refine Go.goto (pc' := 12) d3_49 (by decide) ?_
    refine Go.iloadN (pc' := 13) d3_12 rfl rfl ?_
    refine Go.ifT (pc' := 52) (X := (0 : Int)) d3_13 (by decide) (by decide) (by decide : ¬ 0 < (0 : Int)) ?_
    refine Go.aloadN (pc' := 53) d3_52 rfl rfl rfl ?_
    refine Go.getF (pc' := 56) d3_53 rfl (hw _ w10) Via.refl F_o_values ?_
    refine Go.iloadN (pc' := 57) d3_56 rfl rfl ?_
    refine Go.iloadN (pc' := 58) d3_57 rfl rfl ?_
    refine Go.iastore (pc' := 59) (i := 0) (v := (.int u)) (vs' := [(.int u), (.int x0), (.int x2), (.int x3), (.int x4)]) d3_58 rfl A_a (by decide) (Nat.le_of_ble_eq_true rfl) rfl rfl ?_
    intro h5 L5 NL5 W5 B5
    replace N0 := NL5 _ N0 gn_a
    replace sz0 : n0 ≤ h5.size := by rw [W5.size]; exact sz0
    replace E_o := E_o.wr W5
    replace F_o_values := F_o_values.other W5 (Or.inl ne_o_a)
    replace F_o_size := F_o_size.other W5 (Or.inl ne_o_a)
    replace K0 := K0.wr W5 (Or.inl (by simp))
    clear A_a; have A_a := B5
    refine Go.retV d3_59 rfl (by decide) (by decide) ?_
    exact ⟨u, x0, x2, x3, x4, rfl, N0, K0, E_o, F_o_values, F_o_size, A_a, by omega, (by intro z; simp only [own_cons, own_nil] <;> omega)⟩
set_option maxRecDepth 65536 in
set_option maxHeartbeats 40000000 in
theorem c_add2 {l : Launch} {Z : State} {a0 : Array Value} (hw : ∀ d ∈ tables_1, d.before a0 Z = true) {h0 : Heap} {n0 : Nat} (sz0 : n0 ≤ h0.size) (o a : Addr) (u x0 x1 x2 x3 x4 : Int32) (gn_o : n0 ≤ o) (gn_a : n0 ≤ a) (E_o : Exa Z h0 o "com/example/even_keel/evenkeel/scale/IntMinHeap") (F_o_values : Fld Z h0 o "com/example/even_keel/evenkeel/scale/IntMinHeap" "values" "[I" (.ref a)) (F_o_size : Fld Z h0 o "com/example/even_keel/evenkeel/scale/IntMinHeap" "size" "I" (.int (2 : Int32))) (A_a : Al Z h0 a .int [(.int x0), (.int x1), (.int x2), (.int x3), (.int x4)]) (hH : x0.toInt ≤ x1.toInt) : Con l Z (⟨"com/example/even_keel/evenkeel/scale/IntMinHeap", "add", "(I)V"⟩ : MethodName) prog_167_method_5_code 4 none ({ frames := 0, cells := 0, slots := 0, locals := 0 } : Room) [] #[(.ref o), (.int u)] h0 (fun v h L => ∃ y0 y1 y2 y3 y4 : Int32, v = none ∧ Fr n0 L ∧ Keep h0 h [o, a] ∧ Exa Z h o "com/example/even_keel/evenkeel/scale/IntMinHeap" ∧ Fld Z h o "com/example/even_keel/evenkeel/scale/IntMinHeap" "values" "[I" (.ref a) ∧ Fld Z h o "com/example/even_keel/evenkeel/scale/IntMinHeap" "size" "I" (.int (3 : Int32)) ∧ Al Z h a .int [(.int y0), (.int y1), (.int y2), (.int y3), (.int y4)] ∧ (y0.toInt ≤ y1.toInt ∧ y0.toInt ≤ y2.toInt) ∧ ∀ z, own_c z [y0, y1, y2] = (if u.toInt = z.toInt then 1 else 0) + own_c z [x0, x1]) := by
  refine con_of (Ls := #[.val (.ref o), .val (.int u), .unset, .unset]) (plainFor_of_name (by first | (simp [plainName, overriddenIn]; done) | decide +kernel)) (fun m => by first | rfl | (simp [entryFrame, mkF, argsToLocals, Value.category]; done)) ?_
  have N0 : Fr n0 [] := Fr.nil _
  have K0 : Keep h0 h0 [o, a] := Keep.refl _ _
  have ne_o_a : o ≠ a := ne_al E_o (hw _ w2) A_a
  refine Go.aloadN (pc' := 1) d3_0 rfl rfl rfl ?_
  refine Go.dup (pc' := 2) d3_1 rfl rfl ?_
  refine Go.getF (pc' := 5) d3_2 rfl (hw _ w17) Via.refl F_o_size ?_
  refine Go.dupX1 (pc' := 6) d3_5 rfl rfl rfl ?_
  refine Go.iconst (pc' := 7) d3_6 rfl (z := (1 : Int32)) (by decide) ?_
  refine Go.iadd (pc' := 8) d3_7 rfl (z := (3 : Int32)) (by decide) ?_
  refine Go.putF (pc' := 11) d3_8 rfl (hw _ w17) Via.refl F_o_size E_o (Or.inl (hw _ w18)) (hw _ w2) (ty := .int) (by decide) rfl rfl ?_
  intro h1 L1 NL1 W1
  replace F_o_size := F_o_size.same W1
  replace N0 := NL1 _ N0 gn_o
  replace sz0 : n0 ≤ h1.size := by rw [W1.size]; exact sz0
  replace E_o := E_o.wr W1
  replace F_o_values := F_o_values.other W1 (Or.inr (slot_ne (Or.inr (hw _ w11)) (Or.inl (hw _ w18)) (by decide) (t := (.array .int)) (t' := .int) (by decide) (by decide)))
  replace A_a := A_a.other W1 (Ne.symm ne_o_a)
  replace K0 := K0.wr W1 (Or.inl (by simp))
  refine Go.istoreN (pc' := 12) d3_11 rfl (Ls' := #[.val (.ref o), .val (.int u), .val (.int (2 : Int32)), .unset]) rfl ?_
  refine Go.iloadN (pc' := 13) d3_12 rfl rfl ?_
  refine Go.ifF (pc' := 16) (X := (2 : Int)) d3_13 rfl (by decide) (by decide : 0 < (2 : Int)) ?_
  refine Go.iloadN (pc' := 17) d3_16 rfl rfl ?_
  refine Go.iconst (pc' := 18) d3_17 rfl (z := (1 : Int32)) (by decide) ?_
  refine Go.isub (pc' := 19) d3_18 rfl (z := (1 : Int32)) (by decide) ?_
  refine Go.iconst (pc' := 20) d3_19 rfl (z := (2 : Int32)) (by decide) ?_
  refine Go.idiv (pc' := 21) d3_20 rfl (by decide) (z := (0 : Int32)) (by decide) ?_
  refine Go.istoreN (pc' := 22) d3_21 rfl (Ls' := #[.val (.ref o), .val (.int u), .val (.int (2 : Int32)), .val (.int (0 : Int32))]) rfl ?_
  refine Go.aloadN (pc' := 23) d3_22 rfl rfl rfl ?_
  refine Go.getF (pc' := 26) d3_23 rfl (hw _ w10) Via.refl F_o_values ?_
  refine Go.iloadN (pc' := 27) d3_26 rfl rfl ?_
  refine Go.iaload (pc' := 28) d3_27 rfl (i := 0) (v := (.int x0)) A_a (by decide) rfl ?_
  refine Go.iloadN (pc' := 29) d3_28 rfl rfl ?_
  by_cases hc2 : x0.toInt < u.toInt
  · refine Go.icmpF (pc' := 32) (X := x0.toInt) (Y := u.toInt) d3_29 rfl rfl rfl (hc2 : x0.toInt < u.toInt) ?_
    refine Go.goto (pc' := 52) d3_32 (by decide) ?_
    refine Go.aloadN (pc' := 53) d3_52 rfl rfl rfl ?_
    refine Go.getF (pc' := 56) d3_53 rfl (hw _ w10) Via.refl F_o_values ?_
    refine Go.iloadN (pc' := 57) d3_56 rfl rfl ?_
    refine Go.iloadN (pc' := 58) d3_57 rfl rfl ?_
    refine Go.iastore (pc' := 59) (i := 2) (v := (.int u)) (vs' := [(.int x0), (.int x1), (.int u), (.int x3), (.int x4)]) d3_58 rfl A_a (by decide) (Nat.le_of_ble_eq_true rfl) rfl rfl ?_
    intro h3 L3 NL3 W3 B3
    replace N0 := NL3 _ N0 gn_a
    replace sz0 : n0 ≤ h3.size := by rw [W3.size]; exact sz0
    replace E_o := E_o.wr W3
    replace F_o_values := F_o_values.other W3 (Or.inl ne_o_a)
    replace F_o_size := F_o_size.other W3 (Or.inl ne_o_a)
    replace K0 := K0.wr W3 (Or.inl (by simp))
    clear A_a; have A_a := B3
    refine Go.retV d3_59 rfl (by decide) (by decide) ?_
    exact ⟨x0, x1, u, x3, x4, rfl, N0, K0, E_o, F_o_values, F_o_size, A_a, by omega, (by intro z; simp only [own_cons, own_nil] <;> omega)⟩
  · refine Go.icmpT (pc' := 35) (X := x0.toInt) (Y := u.toInt) d3_29 (by decide) rfl rfl (hc2 : ¬ x0.toInt < u.toInt) ?_
    refine Go.aloadN (pc' := 36) d3_35 rfl rfl rfl ?_
    refine Go.getF (pc' := 39) d3_36 rfl (hw _ w10) Via.refl F_o_values ?_
    refine Go.iloadN (pc' := 40) d3_39 rfl rfl ?_
    refine Go.aloadN (pc' := 41) d3_40 rfl rfl rfl ?_
    refine Go.getF (pc' := 44) d3_41 rfl (hw _ w10) Via.refl F_o_values ?_
    refine Go.iloadN (pc' := 45) d3_44 rfl rfl ?_
    refine Go.iaload (pc' := 46) d3_45 rfl (i := 0) (v := (.int x0)) A_a (by decide) rfl ?_
    refine Go.iastore (pc' := 47) (i := 2) (v := (.int x0)) (vs' := [(.int x0), (.int x1), (.int x0), (.int x3), (.int x4)]) d3_46 rfl A_a (by decide) (Nat.le_of_ble_eq_true rfl) rfl rfl ?_
    intro h4 L4 NL4 W4 B4
    replace N0 := NL4 _ N0 gn_a
    replace sz0 : n0 ≤ h4.size := by rw [W4.size]; exact sz0
    replace E_o := E_o.wr W4
    replace F_o_values := F_o_values.other W4 (Or.inl ne_o_a)
    replace F_o_size := F_o_size.other W4 (Or.inl ne_o_a)
    replace K0 := K0.wr W4 (Or.inl (by simp))
    clear A_a; have A_a := B4
    refine Go.iloadN (pc' := 48) d3_47 rfl rfl ?_
    refine Go.istoreN (pc' := 49) d3_48 rfl (Ls' := #[.val (.ref o), .val (.int u), .val (.int (0 : Int32)), .val (.int (0 : Int32))]) rfl ?_
    refine Go.goto (pc' := 12) d3_49 (by decide) ?_
    refine Go.iloadN (pc' := 13) d3_12 rfl rfl ?_
    refine Go.ifT (pc' := 52) (X := (0 : Int)) d3_13 (by decide) (by decide) (by decide : ¬ 0 < (0 : Int)) ?_
    refine Go.aloadN (pc' := 53) d3_52 rfl rfl rfl ?_
    refine Go.getF (pc' := 56) d3_53 rfl (hw _ w10) Via.refl F_o_values ?_
    refine Go.iloadN (pc' := 57) d3_56 rfl rfl ?_
    refine Go.iloadN (pc' := 58) d3_57 rfl rfl ?_
    refine Go.iastore (pc' := 59) (i := 0) (v := (.int u)) (vs' := [(.int u), (.int x1), (.int x0), (.int x3), (.int x4)]) d3_58 rfl A_a (by decide) (Nat.le_of_ble_eq_true rfl) rfl rfl ?_
    intro h5 L5 NL5 W5 B5
    replace N0 := NL5 _ N0 gn_a
    replace sz0 : n0 ≤ h5.size := by rw [W5.size]; exact sz0
    replace E_o := E_o.wr W5
    replace F_o_values := F_o_values.other W5 (Or.inl ne_o_a)
    replace F_o_size := F_o_size.other W5 (Or.inl ne_o_a)
    replace K0 := K0.wr W5 (Or.inl (by simp))
    clear A_a; have A_a := B5
    refine Go.retV d3_59 rfl (by decide) (by decide) ?_
    exact ⟨u, x1, x0, x3, x4, rfl, N0, K0, E_o, F_o_values, F_o_size, A_a, by omega, (by intro z; simp only [own_cons, own_nil] <;> omega)⟩
set_option maxRecDepth 65536 in
set_option maxHeartbeats 40000000 in
theorem c_add3 {l : Launch} {Z : State} {a0 : Array Value} (hw : ∀ d ∈ tables_1, d.before a0 Z = true) {h0 : Heap} {n0 : Nat} (sz0 : n0 ≤ h0.size) (o a : Addr) (u x0 x1 x2 x3 x4 : Int32) (gn_o : n0 ≤ o) (gn_a : n0 ≤ a) (E_o : Exa Z h0 o "com/example/even_keel/evenkeel/scale/IntMinHeap") (F_o_values : Fld Z h0 o "com/example/even_keel/evenkeel/scale/IntMinHeap" "values" "[I" (.ref a)) (F_o_size : Fld Z h0 o "com/example/even_keel/evenkeel/scale/IntMinHeap" "size" "I" (.int (3 : Int32))) (A_a : Al Z h0 a .int [(.int x0), (.int x1), (.int x2), (.int x3), (.int x4)]) (hH : x0.toInt ≤ x1.toInt ∧ x0.toInt ≤ x2.toInt) : Con l Z (⟨"com/example/even_keel/evenkeel/scale/IntMinHeap", "add", "(I)V"⟩ : MethodName) prog_167_method_5_code 4 none ({ frames := 0, cells := 0, slots := 0, locals := 0 } : Room) [] #[(.ref o), (.int u)] h0 (fun v h L => ∃ y0 y1 y2 y3 y4 : Int32, v = none ∧ Fr n0 L ∧ Keep h0 h [o, a] ∧ Exa Z h o "com/example/even_keel/evenkeel/scale/IntMinHeap" ∧ Fld Z h o "com/example/even_keel/evenkeel/scale/IntMinHeap" "values" "[I" (.ref a) ∧ Fld Z h o "com/example/even_keel/evenkeel/scale/IntMinHeap" "size" "I" (.int (4 : Int32)) ∧ Al Z h a .int [(.int y0), (.int y1), (.int y2), (.int y3), (.int y4)] ∧ (y0.toInt ≤ y1.toInt ∧ y0.toInt ≤ y2.toInt ∧ y1.toInt ≤ y3.toInt) ∧ ∀ z, own_c z [y0, y1, y2, y3] = (if u.toInt = z.toInt then 1 else 0) + own_c z [x0, x1, x2]) := by
  refine con_of (Ls := #[.val (.ref o), .val (.int u), .unset, .unset]) (plainFor_of_name (by first | (simp [plainName, overriddenIn]; done) | decide +kernel)) (fun m => by first | rfl | (simp [entryFrame, mkF, argsToLocals, Value.category]; done)) ?_
  have N0 : Fr n0 [] := Fr.nil _
  have K0 : Keep h0 h0 [o, a] := Keep.refl _ _
  have ne_o_a : o ≠ a := ne_al E_o (hw _ w2) A_a
  refine Go.aloadN (pc' := 1) d3_0 rfl rfl rfl ?_
  refine Go.dup (pc' := 2) d3_1 rfl rfl ?_
  refine Go.getF (pc' := 5) d3_2 rfl (hw _ w17) Via.refl F_o_size ?_
  refine Go.dupX1 (pc' := 6) d3_5 rfl rfl rfl ?_
  refine Go.iconst (pc' := 7) d3_6 rfl (z := (1 : Int32)) (by decide) ?_
  refine Go.iadd (pc' := 8) d3_7 rfl (z := (4 : Int32)) (by decide) ?_
  refine Go.putF (pc' := 11) d3_8 rfl (hw _ w17) Via.refl F_o_size E_o (Or.inl (hw _ w18)) (hw _ w2) (ty := .int) (by decide) rfl rfl ?_
  intro h1 L1 NL1 W1
  replace F_o_size := F_o_size.same W1
  replace N0 := NL1 _ N0 gn_o
  replace sz0 : n0 ≤ h1.size := by rw [W1.size]; exact sz0
  replace E_o := E_o.wr W1
  replace F_o_values := F_o_values.other W1 (Or.inr (slot_ne (Or.inr (hw _ w11)) (Or.inl (hw _ w18)) (by decide) (t := (.array .int)) (t' := .int) (by decide) (by decide)))
  replace A_a := A_a.other W1 (Ne.symm ne_o_a)
  replace K0 := K0.wr W1 (Or.inl (by simp))
  refine Go.istoreN (pc' := 12) d3_11 rfl (Ls' := #[.val (.ref o), .val (.int u), .val (.int (3 : Int32)), .unset]) rfl ?_
  refine Go.iloadN (pc' := 13) d3_12 rfl rfl ?_
  refine Go.ifF (pc' := 16) (X := (3 : Int)) d3_13 rfl (by decide) (by decide : 0 < (3 : Int)) ?_
  refine Go.iloadN (pc' := 17) d3_16 rfl rfl ?_
  refine Go.iconst (pc' := 18) d3_17 rfl (z := (1 : Int32)) (by decide) ?_
  refine Go.isub (pc' := 19) d3_18 rfl (z := (2 : Int32)) (by decide) ?_
  refine Go.iconst (pc' := 20) d3_19 rfl (z := (2 : Int32)) (by decide) ?_
  refine Go.idiv (pc' := 21) d3_20 rfl (by decide) (z := (1 : Int32)) (by decide) ?_
  refine Go.istoreN (pc' := 22) d3_21 rfl (Ls' := #[.val (.ref o), .val (.int u), .val (.int (3 : Int32)), .val (.int (1 : Int32))]) rfl ?_
  refine Go.aloadN (pc' := 23) d3_22 rfl rfl rfl ?_
  refine Go.getF (pc' := 26) d3_23 rfl (hw _ w10) Via.refl F_o_values ?_
  refine Go.iloadN (pc' := 27) d3_26 rfl rfl ?_
  refine Go.iaload (pc' := 28) d3_27 rfl (i := 1) (v := (.int x1)) A_a (by decide) rfl ?_
  refine Go.iloadN (pc' := 29) d3_28 rfl rfl ?_
  by_cases hc2 : x1.toInt < u.toInt
  · refine Go.icmpF (pc' := 32) (X := x1.toInt) (Y := u.toInt) d3_29 rfl rfl rfl (hc2 : x1.toInt < u.toInt) ?_
    refine Go.goto (pc' := 52) d3_32 (by decide) ?_
    refine Go.aloadN (pc' := 53) d3_52 rfl rfl rfl ?_
    refine Go.getF (pc' := 56) d3_53 rfl (hw _ w10) Via.refl F_o_values ?_
    refine Go.iloadN (pc' := 57) d3_56 rfl rfl ?_
    refine Go.iloadN (pc' := 58) d3_57 rfl rfl ?_
    refine Go.iastore (pc' := 59) (i := 3) (v := (.int u)) (vs' := [(.int x0), (.int x1), (.int x2), (.int u), (.int x4)]) d3_58 rfl A_a (by decide) (Nat.le_of_ble_eq_true rfl) rfl rfl ?_
    intro h3 L3 NL3 W3 B3
    replace N0 := NL3 _ N0 gn_a
    replace sz0 : n0 ≤ h3.size := by rw [W3.size]; exact sz0
    replace E_o := E_o.wr W3
    replace F_o_values := F_o_values.other W3 (Or.inl ne_o_a)
    replace F_o_size := F_o_size.other W3 (Or.inl ne_o_a)
    replace K0 := K0.wr W3 (Or.inl (by simp))
    clear A_a; have A_a := B3
    refine Go.retV d3_59 rfl (by decide) (by decide) ?_
    exact ⟨x0, x1, x2, u, x4, rfl, N0, K0, E_o, F_o_values, F_o_size, A_a, by omega, (by intro z; simp only [own_cons, own_nil] <;> omega)⟩
  · refine Go.icmpT (pc' := 35) (X := x1.toInt) (Y := u.toInt) d3_29 (by decide) rfl rfl (hc2 : ¬ x1.toInt < u.toInt) ?_
    refine Go.aloadN (pc' := 36) d3_35 rfl rfl rfl ?_
    refine Go.getF (pc' := 39) d3_36 rfl (hw _ w10) Via.refl F_o_values ?_
    refine Go.iloadN (pc' := 40) d3_39 rfl rfl ?_
    refine Go.aloadN (pc' := 41) d3_40 rfl rfl rfl ?_
    refine Go.getF (pc' := 44) d3_41 rfl (hw _ w10) Via.refl F_o_values ?_
    refine Go.iloadN (pc' := 45) d3_44 rfl rfl ?_
    refine Go.iaload (pc' := 46) d3_45 rfl (i := 1) (v := (.int x1)) A_a (by decide) rfl ?_
    refine Go.iastore (pc' := 47) (i := 3) (v := (.int x1)) (vs' := [(.int x0), (.int x1), (.int x2), (.int x1), (.int x4)]) d3_46 rfl A_a (by decide) (Nat.le_of_ble_eq_true rfl) rfl rfl ?_
    intro h4 L4 NL4 W4 B4
    replace N0 := NL4 _ N0 gn_a
    replace sz0 : n0 ≤ h4.size := by rw [W4.size]; exact sz0
    replace E_o := E_o.wr W4
    replace F_o_values := F_o_values.other W4 (Or.inl ne_o_a)
    replace F_o_size := F_o_size.other W4 (Or.inl ne_o_a)
    replace K0 := K0.wr W4 (Or.inl (by simp))
    clear A_a; have A_a := B4
    refine Go.iloadN (pc' := 48) d3_47 rfl rfl ?_
    refine Go.istoreN (pc' := 49) d3_48 rfl (Ls' := #[.val (.ref o), .val (.int u), .val (.int (1 : Int32)), .val (.int (1 : Int32))]) rfl ?_
    refine Go.goto (pc' := 12) d3_49 (by decide) ?_
    refine Go.iloadN (pc' := 13) d3_12 rfl rfl ?_
    refine Go.ifF (pc' := 16) (X := (1 : Int)) d3_13 rfl (by decide) (by decide : 0 < (1 : Int)) ?_
    refine Go.iloadN (pc' := 17) d3_16 rfl rfl ?_
    refine Go.iconst (pc' := 18) d3_17 rfl (z := (1 : Int32)) (by decide) ?_
    refine Go.isub (pc' := 19) d3_18 rfl (z := (0 : Int32)) (by decide) ?_
    refine Go.iconst (pc' := 20) d3_19 rfl (z := (2 : Int32)) (by decide) ?_
    refine Go.idiv (pc' := 21) d3_20 rfl (by decide) (z := (0 : Int32)) (by decide) ?_
    refine Go.istoreN (pc' := 22) d3_21 rfl (Ls' := #[.val (.ref o), .val (.int u), .val (.int (1 : Int32)), .val (.int (0 : Int32))]) rfl ?_
    refine Go.aloadN (pc' := 23) d3_22 rfl rfl rfl ?_
    refine Go.getF (pc' := 26) d3_23 rfl (hw _ w10) Via.refl F_o_values ?_
    refine Go.iloadN (pc' := 27) d3_26 rfl rfl ?_
    refine Go.iaload (pc' := 28) d3_27 rfl (i := 0) (v := (.int x0)) A_a (by decide) rfl ?_
    refine Go.iloadN (pc' := 29) d3_28 rfl rfl ?_
    by_cases hc5 : x0.toInt < u.toInt
    · refine Go.icmpF (pc' := 32) (X := x0.toInt) (Y := u.toInt) d3_29 rfl rfl rfl (hc5 : x0.toInt < u.toInt) ?_
      refine Go.goto (pc' := 52) d3_32 (by decide) ?_
      refine Go.aloadN (pc' := 53) d3_52 rfl rfl rfl ?_
      refine Go.getF (pc' := 56) d3_53 rfl (hw _ w10) Via.refl F_o_values ?_
      refine Go.iloadN (pc' := 57) d3_56 rfl rfl ?_
      refine Go.iloadN (pc' := 58) d3_57 rfl rfl ?_
      refine Go.iastore (pc' := 59) (i := 1) (v := (.int u)) (vs' := [(.int x0), (.int u), (.int x2), (.int x1), (.int x4)]) d3_58 rfl A_a (by decide) (Nat.le_of_ble_eq_true rfl) rfl rfl ?_
      intro h6 L6 NL6 W6 B6
      replace N0 := NL6 _ N0 gn_a
      replace sz0 : n0 ≤ h6.size := by rw [W6.size]; exact sz0
      replace E_o := E_o.wr W6
      replace F_o_values := F_o_values.other W6 (Or.inl ne_o_a)
      replace F_o_size := F_o_size.other W6 (Or.inl ne_o_a)
      replace K0 := K0.wr W6 (Or.inl (by simp))
      clear A_a; have A_a := B6
      refine Go.retV d3_59 rfl (by decide) (by decide) ?_
      exact ⟨x0, u, x2, x1, x4, rfl, N0, K0, E_o, F_o_values, F_o_size, A_a, by omega, (by intro z; simp only [own_cons, own_nil] <;> omega)⟩
    · refine Go.icmpT (pc' := 35) (X := x0.toInt) (Y := u.toInt) d3_29 (by decide) rfl rfl (hc5 : ¬ x0.toInt < u.toInt) ?_
      refine Go.aloadN (pc' := 36) d3_35 rfl rfl rfl ?_
      refine Go.getF (pc' := 39) d3_36 rfl (hw _ w10) Via.refl F_o_values ?_
      refine Go.iloadN (pc' := 40) d3_39 rfl rfl ?_
      refine Go.aloadN (pc' := 41) d3_40 rfl rfl rfl ?_
      refine Go.getF (pc' := 44) d3_41 rfl (hw _ w10) Via.refl F_o_values ?_
      refine Go.iloadN (pc' := 45) d3_44 rfl rfl ?_
      refine Go.iaload (pc' := 46) d3_45 rfl (i := 0) (v := (.int x0)) A_a (by decide) rfl ?_
      refine Go.iastore (pc' := 47) (i := 1) (v := (.int x0)) (vs' := [(.int x0), (.int x0), (.int x2), (.int x1), (.int x4)]) d3_46 rfl A_a (by decide) (Nat.le_of_ble_eq_true rfl) rfl rfl ?_
      intro h7 L7 NL7 W7 B7
      replace N0 := NL7 _ N0 gn_a
      replace sz0 : n0 ≤ h7.size := by rw [W7.size]; exact sz0
      replace E_o := E_o.wr W7
      replace F_o_values := F_o_values.other W7 (Or.inl ne_o_a)
      replace F_o_size := F_o_size.other W7 (Or.inl ne_o_a)
      replace K0 := K0.wr W7 (Or.inl (by simp))
      clear A_a; have A_a := B7
      refine Go.iloadN (pc' := 48) d3_47 rfl rfl ?_
      refine Go.istoreN (pc' := 49) d3_48 rfl (Ls' := #[.val (.ref o), .val (.int u), .val (.int (0 : Int32)), .val (.int (0 : Int32))]) rfl ?_
      refine Go.goto (pc' := 12) d3_49 (by decide) ?_
      refine Go.iloadN (pc' := 13) d3_12 rfl rfl ?_
      refine Go.ifT (pc' := 52) (X := (0 : Int)) d3_13 (by decide) (by decide) (by decide : ¬ 0 < (0 : Int)) ?_
      refine Go.aloadN (pc' := 53) d3_52 rfl rfl rfl ?_
      refine Go.getF (pc' := 56) d3_53 rfl (hw _ w10) Via.refl F_o_values ?_
      refine Go.iloadN (pc' := 57) d3_56 rfl rfl ?_
      refine Go.iloadN (pc' := 58) d3_57 rfl rfl ?_
      refine Go.iastore (pc' := 59) (i := 0) (v := (.int u)) (vs' := [(.int u), (.int x0), (.int x2), (.int x1), (.int x4)]) d3_58 rfl A_a (by decide) (Nat.le_of_ble_eq_true rfl) rfl rfl ?_
      intro h8 L8 NL8 W8 B8
      replace N0 := NL8 _ N0 gn_a
      replace sz0 : n0 ≤ h8.size := by rw [W8.size]; exact sz0
      replace E_o := E_o.wr W8
      replace F_o_values := F_o_values.other W8 (Or.inl ne_o_a)
      replace F_o_size := F_o_size.other W8 (Or.inl ne_o_a)
      replace K0 := K0.wr W8 (Or.inl (by simp))
      clear A_a; have A_a := B8
      refine Go.retV d3_59 rfl (by decide) (by decide) ?_
      exact ⟨u, x0, x2, x1, x4, rfl, N0, K0, E_o, F_o_values, F_o_size, A_a, by omega, (by intro z; simp only [own_cons, own_nil] <;> omega)⟩
set_option maxRecDepth 65536 in
set_option maxHeartbeats 40000000 in
theorem c_add4 {l : Launch} {Z : State} {a0 : Array Value} (hw : ∀ d ∈ tables_1, d.before a0 Z = true) {h0 : Heap} {n0 : Nat} (sz0 : n0 ≤ h0.size) (o a : Addr) (u x0 x1 x2 x3 x4 : Int32) (gn_o : n0 ≤ o) (gn_a : n0 ≤ a) (E_o : Exa Z h0 o "com/example/even_keel/evenkeel/scale/IntMinHeap") (F_o_values : Fld Z h0 o "com/example/even_keel/evenkeel/scale/IntMinHeap" "values" "[I" (.ref a)) (F_o_size : Fld Z h0 o "com/example/even_keel/evenkeel/scale/IntMinHeap" "size" "I" (.int (4 : Int32))) (A_a : Al Z h0 a .int [(.int x0), (.int x1), (.int x2), (.int x3), (.int x4)]) (hH : x0.toInt ≤ x1.toInt ∧ x0.toInt ≤ x2.toInt ∧ x1.toInt ≤ x3.toInt) : Con l Z (⟨"com/example/even_keel/evenkeel/scale/IntMinHeap", "add", "(I)V"⟩ : MethodName) prog_167_method_5_code 4 none ({ frames := 0, cells := 0, slots := 0, locals := 0 } : Room) [] #[(.ref o), (.int u)] h0 (fun v h L => ∃ y0 y1 y2 y3 y4 : Int32, v = none ∧ Fr n0 L ∧ Keep h0 h [o, a] ∧ Exa Z h o "com/example/even_keel/evenkeel/scale/IntMinHeap" ∧ Fld Z h o "com/example/even_keel/evenkeel/scale/IntMinHeap" "values" "[I" (.ref a) ∧ Fld Z h o "com/example/even_keel/evenkeel/scale/IntMinHeap" "size" "I" (.int (5 : Int32)) ∧ Al Z h a .int [(.int y0), (.int y1), (.int y2), (.int y3), (.int y4)] ∧ (y0.toInt ≤ y1.toInt ∧ y0.toInt ≤ y2.toInt ∧ y1.toInt ≤ y3.toInt ∧ y1.toInt ≤ y4.toInt) ∧ ∀ z, own_c z [y0, y1, y2, y3, y4] = (if u.toInt = z.toInt then 1 else 0) + own_c z [x0, x1, x2, x3]) := by
  refine con_of (Ls := #[.val (.ref o), .val (.int u), .unset, .unset]) (plainFor_of_name (by first | (simp [plainName, overriddenIn]; done) | decide +kernel)) (fun m => by first | rfl | (simp [entryFrame, mkF, argsToLocals, Value.category]; done)) ?_
  have N0 : Fr n0 [] := Fr.nil _
  have K0 : Keep h0 h0 [o, a] := Keep.refl _ _
  have ne_o_a : o ≠ a := ne_al E_o (hw _ w2) A_a
  refine Go.aloadN (pc' := 1) d3_0 rfl rfl rfl ?_
  refine Go.dup (pc' := 2) d3_1 rfl rfl ?_
  refine Go.getF (pc' := 5) d3_2 rfl (hw _ w17) Via.refl F_o_size ?_
  refine Go.dupX1 (pc' := 6) d3_5 rfl rfl rfl ?_
  refine Go.iconst (pc' := 7) d3_6 rfl (z := (1 : Int32)) (by decide) ?_
  refine Go.iadd (pc' := 8) d3_7 rfl (z := (5 : Int32)) (by decide) ?_
  refine Go.putF (pc' := 11) d3_8 rfl (hw _ w17) Via.refl F_o_size E_o (Or.inl (hw _ w18)) (hw _ w2) (ty := .int) (by decide) rfl rfl ?_
  intro h1 L1 NL1 W1
  replace F_o_size := F_o_size.same W1
  replace N0 := NL1 _ N0 gn_o
  replace sz0 : n0 ≤ h1.size := by rw [W1.size]; exact sz0
  replace E_o := E_o.wr W1
  replace F_o_values := F_o_values.other W1 (Or.inr (slot_ne (Or.inr (hw _ w11)) (Or.inl (hw _ w18)) (by decide) (t := (.array .int)) (t' := .int) (by decide) (by decide)))
  replace A_a := A_a.other W1 (Ne.symm ne_o_a)
  replace K0 := K0.wr W1 (Or.inl (by simp))
  refine Go.istoreN (pc' := 12) d3_11 rfl (Ls' := #[.val (.ref o), .val (.int u), .val (.int (4 : Int32)), .unset]) rfl ?_
  refine Go.iloadN (pc' := 13) d3_12 rfl rfl ?_
  refine Go.ifF (pc' := 16) (X := (4 : Int)) d3_13 rfl (by decide) (by decide : 0 < (4 : Int)) ?_
  refine Go.iloadN (pc' := 17) d3_16 rfl rfl ?_
  refine Go.iconst (pc' := 18) d3_17 rfl (z := (1 : Int32)) (by decide) ?_
  refine Go.isub (pc' := 19) d3_18 rfl (z := (3 : Int32)) (by decide) ?_
  refine Go.iconst (pc' := 20) d3_19 rfl (z := (2 : Int32)) (by decide) ?_
  refine Go.idiv (pc' := 21) d3_20 rfl (by decide) (z := (1 : Int32)) (by decide) ?_
  refine Go.istoreN (pc' := 22) d3_21 rfl (Ls' := #[.val (.ref o), .val (.int u), .val (.int (4 : Int32)), .val (.int (1 : Int32))]) rfl ?_
  refine Go.aloadN (pc' := 23) d3_22 rfl rfl rfl ?_
  refine Go.getF (pc' := 26) d3_23 rfl (hw _ w10) Via.refl F_o_values ?_
  refine Go.iloadN (pc' := 27) d3_26 rfl rfl ?_
  refine Go.iaload (pc' := 28) d3_27 rfl (i := 1) (v := (.int x1)) A_a (by decide) rfl ?_
  refine Go.iloadN (pc' := 29) d3_28 rfl rfl ?_
  by_cases hc2 : x1.toInt < u.toInt
  · refine Go.icmpF (pc' := 32) (X := x1.toInt) (Y := u.toInt) d3_29 rfl rfl rfl (hc2 : x1.toInt < u.toInt) ?_
    refine Go.goto (pc' := 52) d3_32 (by decide) ?_
    refine Go.aloadN (pc' := 53) d3_52 rfl rfl rfl ?_
    refine Go.getF (pc' := 56) d3_53 rfl (hw _ w10) Via.refl F_o_values ?_
    refine Go.iloadN (pc' := 57) d3_56 rfl rfl ?_
    refine Go.iloadN (pc' := 58) d3_57 rfl rfl ?_
    refine Go.iastore (pc' := 59) (i := 4) (v := (.int u)) (vs' := [(.int x0), (.int x1), (.int x2), (.int x3), (.int u)]) d3_58 rfl A_a (by decide) (Nat.le_of_ble_eq_true rfl) rfl rfl ?_
    intro h3 L3 NL3 W3 B3
    replace N0 := NL3 _ N0 gn_a
    replace sz0 : n0 ≤ h3.size := by rw [W3.size]; exact sz0
    replace E_o := E_o.wr W3
    replace F_o_values := F_o_values.other W3 (Or.inl ne_o_a)
    replace F_o_size := F_o_size.other W3 (Or.inl ne_o_a)
    replace K0 := K0.wr W3 (Or.inl (by simp))
    clear A_a; have A_a := B3
    refine Go.retV d3_59 rfl (by decide) (by decide) ?_
    exact ⟨x0, x1, x2, x3, u, rfl, N0, K0, E_o, F_o_values, F_o_size, A_a, by omega, (by intro z; simp only [own_cons, own_nil] <;> omega)⟩
  · refine Go.icmpT (pc' := 35) (X := x1.toInt) (Y := u.toInt) d3_29 (by decide) rfl rfl (hc2 : ¬ x1.toInt < u.toInt) ?_
    refine Go.aloadN (pc' := 36) d3_35 rfl rfl rfl ?_
    refine Go.getF (pc' := 39) d3_36 rfl (hw _ w10) Via.refl F_o_values ?_
    refine Go.iloadN (pc' := 40) d3_39 rfl rfl ?_
    refine Go.aloadN (pc' := 41) d3_40 rfl rfl rfl ?_
    refine Go.getF (pc' := 44) d3_41 rfl (hw _ w10) Via.refl F_o_values ?_
    refine Go.iloadN (pc' := 45) d3_44 rfl rfl ?_
    refine Go.iaload (pc' := 46) d3_45 rfl (i := 1) (v := (.int x1)) A_a (by decide) rfl ?_
    refine Go.iastore (pc' := 47) (i := 4) (v := (.int x1)) (vs' := [(.int x0), (.int x1), (.int x2), (.int x3), (.int x1)]) d3_46 rfl A_a (by decide) (Nat.le_of_ble_eq_true rfl) rfl rfl ?_
    intro h4 L4 NL4 W4 B4
    replace N0 := NL4 _ N0 gn_a
    replace sz0 : n0 ≤ h4.size := by rw [W4.size]; exact sz0
    replace E_o := E_o.wr W4
    replace F_o_values := F_o_values.other W4 (Or.inl ne_o_a)
    replace F_o_size := F_o_size.other W4 (Or.inl ne_o_a)
    replace K0 := K0.wr W4 (Or.inl (by simp))
    clear A_a; have A_a := B4
    refine Go.iloadN (pc' := 48) d3_47 rfl rfl ?_
    refine Go.istoreN (pc' := 49) d3_48 rfl (Ls' := #[.val (.ref o), .val (.int u), .val (.int (1 : Int32)), .val (.int (1 : Int32))]) rfl ?_
    refine Go.goto (pc' := 12) d3_49 (by decide) ?_
    refine Go.iloadN (pc' := 13) d3_12 rfl rfl ?_
    refine Go.ifF (pc' := 16) (X := (1 : Int)) d3_13 rfl (by decide) (by decide : 0 < (1 : Int)) ?_
    refine Go.iloadN (pc' := 17) d3_16 rfl rfl ?_
    refine Go.iconst (pc' := 18) d3_17 rfl (z := (1 : Int32)) (by decide) ?_
    refine Go.isub (pc' := 19) d3_18 rfl (z := (0 : Int32)) (by decide) ?_
    refine Go.iconst (pc' := 20) d3_19 rfl (z := (2 : Int32)) (by decide) ?_
    refine Go.idiv (pc' := 21) d3_20 rfl (by decide) (z := (0 : Int32)) (by decide) ?_
    refine Go.istoreN (pc' := 22) d3_21 rfl (Ls' := #[.val (.ref o), .val (.int u), .val (.int (1 : Int32)), .val (.int (0 : Int32))]) rfl ?_
    refine Go.aloadN (pc' := 23) d3_22 rfl rfl rfl ?_
    refine Go.getF (pc' := 26) d3_23 rfl (hw _ w10) Via.refl F_o_values ?_
    refine Go.iloadN (pc' := 27) d3_26 rfl rfl ?_
    refine Go.iaload (pc' := 28) d3_27 rfl (i := 0) (v := (.int x0)) A_a (by decide) rfl ?_
    refine Go.iloadN (pc' := 29) d3_28 rfl rfl ?_
    by_cases hc5 : x0.toInt < u.toInt
    · refine Go.icmpF (pc' := 32) (X := x0.toInt) (Y := u.toInt) d3_29 rfl rfl rfl (hc5 : x0.toInt < u.toInt) ?_
      refine Go.goto (pc' := 52) d3_32 (by decide) ?_
      refine Go.aloadN (pc' := 53) d3_52 rfl rfl rfl ?_
      refine Go.getF (pc' := 56) d3_53 rfl (hw _ w10) Via.refl F_o_values ?_
      refine Go.iloadN (pc' := 57) d3_56 rfl rfl ?_
      refine Go.iloadN (pc' := 58) d3_57 rfl rfl ?_
      refine Go.iastore (pc' := 59) (i := 1) (v := (.int u)) (vs' := [(.int x0), (.int u), (.int x2), (.int x3), (.int x1)]) d3_58 rfl A_a (by decide) (Nat.le_of_ble_eq_true rfl) rfl rfl ?_
      intro h6 L6 NL6 W6 B6
      replace N0 := NL6 _ N0 gn_a
      replace sz0 : n0 ≤ h6.size := by rw [W6.size]; exact sz0
      replace E_o := E_o.wr W6
      replace F_o_values := F_o_values.other W6 (Or.inl ne_o_a)
      replace F_o_size := F_o_size.other W6 (Or.inl ne_o_a)
      replace K0 := K0.wr W6 (Or.inl (by simp))
      clear A_a; have A_a := B6
      refine Go.retV d3_59 rfl (by decide) (by decide) ?_
      exact ⟨x0, u, x2, x3, x1, rfl, N0, K0, E_o, F_o_values, F_o_size, A_a, by omega, (by intro z; simp only [own_cons, own_nil] <;> omega)⟩
    · refine Go.icmpT (pc' := 35) (X := x0.toInt) (Y := u.toInt) d3_29 (by decide) rfl rfl (hc5 : ¬ x0.toInt < u.toInt) ?_
      refine Go.aloadN (pc' := 36) d3_35 rfl rfl rfl ?_
      refine Go.getF (pc' := 39) d3_36 rfl (hw _ w10) Via.refl F_o_values ?_
      refine Go.iloadN (pc' := 40) d3_39 rfl rfl ?_
      refine Go.aloadN (pc' := 41) d3_40 rfl rfl rfl ?_
      refine Go.getF (pc' := 44) d3_41 rfl (hw _ w10) Via.refl F_o_values ?_
      refine Go.iloadN (pc' := 45) d3_44 rfl rfl ?_
      refine Go.iaload (pc' := 46) d3_45 rfl (i := 0) (v := (.int x0)) A_a (by decide) rfl ?_
      refine Go.iastore (pc' := 47) (i := 1) (v := (.int x0)) (vs' := [(.int x0), (.int x0), (.int x2), (.int x3), (.int x1)]) d3_46 rfl A_a (by decide) (Nat.le_of_ble_eq_true rfl) rfl rfl ?_
      intro h7 L7 NL7 W7 B7
      replace N0 := NL7 _ N0 gn_a
      replace sz0 : n0 ≤ h7.size := by rw [W7.size]; exact sz0
      replace E_o := E_o.wr W7
      replace F_o_values := F_o_values.other W7 (Or.inl ne_o_a)
      replace F_o_size := F_o_size.other W7 (Or.inl ne_o_a)
      replace K0 := K0.wr W7 (Or.inl (by simp))
      clear A_a; have A_a := B7
      refine Go.iloadN (pc' := 48) d3_47 rfl rfl ?_
      refine Go.istoreN (pc' := 49) d3_48 rfl (Ls' := #[.val (.ref o), .val (.int u), .val (.int (0 : Int32)), .val (.int (0 : Int32))]) rfl ?_
      refine Go.goto (pc' := 12) d3_49 (by decide) ?_
      refine Go.iloadN (pc' := 13) d3_12 rfl rfl ?_
      refine Go.ifT (pc' := 52) (X := (0 : Int)) d3_13 (by decide) (by decide) (by decide : ¬ 0 < (0 : Int)) ?_
      refine Go.aloadN (pc' := 53) d3_52 rfl rfl rfl ?_
      refine Go.getF (pc' := 56) d3_53 rfl (hw _ w10) Via.refl F_o_values ?_
      refine Go.iloadN (pc' := 57) d3_56 rfl rfl ?_
      refine Go.iloadN (pc' := 58) d3_57 rfl rfl ?_
      refine Go.iastore (pc' := 59) (i := 0) (v := (.int u)) (vs' := [(.int u), (.int x0), (.int x2), (.int x3), (.int x1)]) d3_58 rfl A_a (by decide) (Nat.le_of_ble_eq_true rfl) rfl rfl ?_
      intro h8 L8 NL8 W8 B8
      replace N0 := NL8 _ N0 gn_a
      replace sz0 : n0 ≤ h8.size := by rw [W8.size]; exact sz0
      replace E_o := E_o.wr W8
      replace F_o_values := F_o_values.other W8 (Or.inl ne_o_a)
      replace F_o_size := F_o_size.other W8 (Or.inl ne_o_a)
      replace K0 := K0.wr W8 (Or.inl (by simp))
      clear A_a; have A_a := B8
      refine Go.retV d3_59 rfl (by decide) (by decide) ?_
      exact ⟨u, x0, x2, x3, x1, rfl, N0, K0, E_o, F_o_values, F_o_size, A_a, by omega, (by intro z; simp only [own_cons, own_nil] <;> omega)⟩
set_option maxRecDepth 65536 in
set_option maxHeartbeats 40000000 in
theorem c_take5 {l : Launch} {Z : State} {a0 : Array Value} (hw : ∀ d ∈ tables_1, d.before a0 Z = true) {h0 : Heap} {n0 : Nat} (sz0 : n0 ≤ h0.size) (o a : Addr) (x0 x1 x2 x3 x4 : Int32) (gn_o : n0 ≤ o) (gn_a : n0 ≤ a) (E_o : Exa Z h0 o "com/example/even_keel/evenkeel/scale/IntMinHeap") (F_o_values : Fld Z h0 o "com/example/even_keel/evenkeel/scale/IntMinHeap" "values" "[I" (.ref a)) (F_o_size : Fld Z h0 o "com/example/even_keel/evenkeel/scale/IntMinHeap" "size" "I" (.int (5 : Int32))) (A_a : Al Z h0 a .int [(.int x0), (.int x1), (.int x2), (.int x3), (.int x4)]) (hH : x0.toInt ≤ x1.toInt ∧ x0.toInt ≤ x2.toInt ∧ x1.toInt ≤ x3.toInt ∧ x1.toInt ≤ x4.toInt) : Con l Z (⟨"com/example/even_keel/evenkeel/scale/IntMinHeap", "takeLeast", "()I"⟩ : MethodName) prog_167_method_6_code 5 (some .int) ({ frames := 0, cells := 0, slots := 0, locals := 0 } : Room) [] #[(.ref o)] h0 (fun v h L => ∃ y0 y1 y2 y3 y4 : Int32, v = some (.int x0) ∧ Fr n0 L ∧ Keep h0 h [o, a] ∧ Exa Z h o "com/example/even_keel/evenkeel/scale/IntMinHeap" ∧ Fld Z h o "com/example/even_keel/evenkeel/scale/IntMinHeap" "values" "[I" (.ref a) ∧ Fld Z h o "com/example/even_keel/evenkeel/scale/IntMinHeap" "size" "I" (.int (4 : Int32)) ∧ Al Z h a .int [(.int y0), (.int y1), (.int y2), (.int y3), (.int y4)] ∧ (y0.toInt ≤ y1.toInt ∧ y0.toInt ≤ y2.toInt ∧ y1.toInt ≤ y3.toInt) ∧ (x0.toInt ≤ y0.toInt) ∧ ∀ z, own_c z [x0, x1, x2, x3, x4] = (if x0.toInt = z.toInt then 1 else 0) + own_c z [y0, y1, y2, y3]) := by
  refine con_of (Ls := #[.val (.ref o), .unset, .unset, .unset, .unset]) (plainFor_of_name (by first | (simp [plainName, overriddenIn]; done) | decide +kernel)) (fun m => by first | rfl | (simp [entryFrame, mkF, argsToLocals, Value.category]; done)) ?_
  have N0 : Fr n0 [] := Fr.nil _
  have K0 : Keep h0 h0 [o, a] := Keep.refl _ _
  have ne_o_a : o ≠ a := ne_al E_o (hw _ w2) A_a
  refine Go.aloadN (pc' := 1) d4_0 rfl rfl rfl ?_
  refine Go.getF (pc' := 4) d4_1 rfl (hw _ w10) Via.refl F_o_values ?_
  refine Go.iconst (pc' := 5) d4_4 rfl (z := (0 : Int32)) (by decide) ?_
  refine Go.iaload (pc' := 6) d4_5 rfl (i := 0) (v := (.int x0)) A_a (by decide) rfl ?_
  refine Go.istoreN (pc' := 7) d4_6 rfl (Ls' := #[.val (.ref o), .val (.int x0), .unset, .unset, .unset]) rfl ?_
  refine Go.aloadN (pc' := 8) d4_7 rfl rfl rfl ?_
  refine Go.getF (pc' := 11) d4_8 rfl (hw _ w10) Via.refl F_o_values ?_
  refine Go.aloadN (pc' := 12) d4_11 rfl rfl rfl ?_
  refine Go.dup (pc' := 13) d4_12 rfl rfl ?_
  refine Go.getF (pc' := 16) d4_13 rfl (hw _ w17) Via.refl F_o_size ?_
  refine Go.iconst (pc' := 17) d4_16 rfl (z := (1 : Int32)) (by decide) ?_
  refine Go.isub (pc' := 18) d4_17 rfl (z := (4 : Int32)) (by decide) ?_
  refine Go.dupX1 (pc' := 19) d4_18 rfl rfl rfl ?_
  refine Go.putF (pc' := 22) d4_19 rfl (hw _ w17) Via.refl F_o_size E_o (Or.inl (hw _ w18)) (hw _ w2) (ty := .int) (by decide) rfl rfl ?_
  intro h1 L1 NL1 W1
  replace F_o_size := F_o_size.same W1
  replace N0 := NL1 _ N0 gn_o
  replace sz0 : n0 ≤ h1.size := by rw [W1.size]; exact sz0
  replace E_o := E_o.wr W1
  replace F_o_values := F_o_values.other W1 (Or.inr (slot_ne (Or.inr (hw _ w11)) (Or.inl (hw _ w18)) (by decide) (t := (.array .int)) (t' := .int) (by decide) (by decide)))
  replace A_a := A_a.other W1 (Ne.symm ne_o_a)
  replace K0 := K0.wr W1 (Or.inl (by simp))
  refine Go.iaload (pc' := 23) d4_22 rfl (i := 4) (v := (.int x4)) A_a (by decide) rfl ?_
  refine Go.istoreN (pc' := 24) d4_23 rfl (Ls' := #[.val (.ref o), .val (.int x0), .val (.int x4), .unset, .unset]) rfl ?_
  refine Go.iconst (pc' := 25) d4_24 rfl (z := (0 : Int32)) (by decide) ?_
  refine Go.istoreN (pc' := 26) d4_25 rfl (Ls' := #[.val (.ref o), .val (.int x0), .val (.int x4), .val (.int (0 : Int32)), .unset]) rfl ?_
  refine Go.iconst (pc' := 27) d4_26 rfl (z := (2 : Int32)) (by decide) ?_
  refine Go.iloadN (pc' := 28) d4_27 rfl rfl ?_
  refine Go.imul (pc' := 29) d4_28 rfl (z := (0 : Int32)) (by decide) ?_
  refine Go.iconst (pc' := 30) d4_29 rfl (z := (1 : Int32)) (by decide) ?_
  refine Go.iadd (pc' := 31) d4_30 rfl (z := (1 : Int32)) (by decide) ?_
  refine Go.istore (pc' := 33) d4_31 rfl (Ls' := #[.val (.ref o), .val (.int x0), .val (.int x4), .val (.int (0 : Int32)), .val (.int (1 : Int32))]) rfl ?_
  refine Go.iload (pc' := 35) d4_33 rfl rfl ?_
  refine Go.aloadN (pc' := 36) d4_35 rfl rfl rfl ?_
  refine Go.getF (pc' := 39) d4_36 rfl (hw _ w17) Via.refl F_o_size ?_
  refine Go.icmpT (pc' := 45) (X := (1 : Int)) (Y := (4 : Int)) d4_39 (by decide) (by decide) (by decide) (by decide : (1 : Int) < (4 : Int)) ?_
  refine Go.iload (pc' := 47) d4_45 rfl rfl ?_
  refine Go.iconst (pc' := 48) d4_47 rfl (z := (1 : Int32)) (by decide) ?_
  refine Go.iadd (pc' := 49) d4_48 rfl (z := (2 : Int32)) (by decide) ?_
  refine Go.aloadN (pc' := 50) d4_49 rfl rfl rfl ?_
  refine Go.getF (pc' := 53) d4_50 rfl (hw _ w17) Via.refl F_o_size ?_
  refine Go.icmpF (pc' := 56) (X := (2 : Int)) (Y := (4 : Int)) d4_53 rfl (by decide) (by decide) (by decide : (2 : Int) < (4 : Int)) ?_
  refine Go.aloadN (pc' := 57) d4_56 rfl rfl rfl ?_
  refine Go.getF (pc' := 60) d4_57 rfl (hw _ w10) Via.refl F_o_values ?_
  refine Go.iload (pc' := 62) d4_60 rfl rfl ?_
  refine Go.iconst (pc' := 63) d4_62 rfl (z := (1 : Int32)) (by decide) ?_
  refine Go.iadd (pc' := 64) d4_63 rfl (z := (2 : Int32)) (by decide) ?_
  refine Go.iaload (pc' := 65) d4_64 rfl (i := 2) (v := (.int x2)) A_a (by decide) rfl ?_
  refine Go.aloadN (pc' := 66) d4_65 rfl rfl rfl ?_
  refine Go.getF (pc' := 69) d4_66 rfl (hw _ w10) Via.refl F_o_values ?_
  refine Go.iload (pc' := 71) d4_69 rfl rfl ?_
  refine Go.iaload (pc' := 72) d4_71 rfl (i := 1) (v := (.int x1)) A_a (by decide) rfl ?_
  by_cases hc2 : x2.toInt < x1.toInt
  · refine Go.icmpF (pc' := 75) (X := x2.toInt) (Y := x1.toInt) d4_72 rfl rfl rfl (hc2 : x2.toInt < x1.toInt) ?_
    refine Go.iinc (pc' := 78) d4_75 rfl rfl (z := (2 : Int32)) (by decide) (Ls' := #[.val (.ref o), .val (.int x0), .val (.int x4), .val (.int (0 : Int32)), .val (.int (2 : Int32))]) rfl ?_
    refine Go.iloadN (pc' := 79) d4_78 rfl rfl ?_
    refine Go.aloadN (pc' := 80) d4_79 rfl rfl rfl ?_
    refine Go.getF (pc' := 83) d4_80 rfl (hw _ w10) Via.refl F_o_values ?_
    refine Go.iload (pc' := 85) d4_83 rfl rfl ?_
    refine Go.iaload (pc' := 86) d4_85 rfl (i := 2) (v := (.int x2)) A_a (by decide) rfl ?_
    by_cases hc3 : x4.toInt < x2.toInt
    · refine Go.icmpF (pc' := 89) (X := x4.toInt) (Y := x2.toInt) d4_86 rfl rfl rfl (hc3 : x4.toInt < x2.toInt) ?_
      refine Go.goto (pc' := 111) d4_89 (by decide) ?_
      refine Go.aloadN (pc' := 112) d4_111 rfl rfl rfl ?_
      refine Go.getF (pc' := 115) d4_112 rfl (hw _ w17) Via.refl F_o_size ?_
      refine Go.ifF (pc' := 118) (X := (4 : Int)) d4_115 rfl (by decide) (by decide : 0 < (4 : Int)) ?_
      refine Go.aloadN (pc' := 119) d4_118 rfl rfl rfl ?_
      refine Go.getF (pc' := 122) d4_119 rfl (hw _ w10) Via.refl F_o_values ?_
      refine Go.iloadN (pc' := 123) d4_122 rfl rfl ?_
      refine Go.iloadN (pc' := 124) d4_123 rfl rfl ?_
      refine Go.iastore (pc' := 125) (i := 0) (v := (.int x4)) (vs' := [(.int x4), (.int x1), (.int x2), (.int x3), (.int x4)]) d4_124 rfl A_a (by decide) (Nat.le_of_ble_eq_true rfl) rfl rfl ?_
      intro h4 L4 NL4 W4 B4
      replace N0 := NL4 _ N0 gn_a
      replace sz0 : n0 ≤ h4.size := by rw [W4.size]; exact sz0
      replace E_o := E_o.wr W4
      replace F_o_values := F_o_values.other W4 (Or.inl ne_o_a)
      replace F_o_size := F_o_size.other W4 (Or.inl ne_o_a)
      replace K0 := K0.wr W4 (Or.inl (by simp))
      clear A_a; have A_a := B4
      refine Go.iloadN (pc' := 126) d4_125 rfl rfl ?_
      refine Go.retI d4_126 rfl (by decide) (by decide) ?_
      exact ⟨x4, x1, x2, x3, x4, rfl, N0, K0, E_o, F_o_values, F_o_size, A_a, by omega, by omega, (by intro z; simp only [own_cons, own_nil] <;> omega)⟩
    · refine Go.icmpT (pc' := 92) (X := x4.toInt) (Y := x2.toInt) d4_86 (by decide) rfl rfl (hc3 : ¬ x4.toInt < x2.toInt) ?_
      refine Go.aloadN (pc' := 93) d4_92 rfl rfl rfl ?_
      refine Go.getF (pc' := 96) d4_93 rfl (hw _ w10) Via.refl F_o_values ?_
      refine Go.iloadN (pc' := 97) d4_96 rfl rfl ?_
      refine Go.aloadN (pc' := 98) d4_97 rfl rfl rfl ?_
      refine Go.getF (pc' := 101) d4_98 rfl (hw _ w10) Via.refl F_o_values ?_
      refine Go.iload (pc' := 103) d4_101 rfl rfl ?_
      refine Go.iaload (pc' := 104) d4_103 rfl (i := 2) (v := (.int x2)) A_a (by decide) rfl ?_
      refine Go.iastore (pc' := 105) (i := 0) (v := (.int x2)) (vs' := [(.int x2), (.int x1), (.int x2), (.int x3), (.int x4)]) d4_104 rfl A_a (by decide) (Nat.le_of_ble_eq_true rfl) rfl rfl ?_
      intro h5 L5 NL5 W5 B5
      replace N0 := NL5 _ N0 gn_a
      replace sz0 : n0 ≤ h5.size := by rw [W5.size]; exact sz0
      replace E_o := E_o.wr W5
      replace F_o_values := F_o_values.other W5 (Or.inl ne_o_a)
      replace F_o_size := F_o_size.other W5 (Or.inl ne_o_a)
      replace K0 := K0.wr W5 (Or.inl (by simp))
      clear A_a; have A_a := B5
      refine Go.iload (pc' := 107) d4_105 rfl rfl ?_
      refine Go.istoreN (pc' := 108) d4_107 rfl (Ls' := #[.val (.ref o), .val (.int x0), .val (.int x4), .val (.int (2 : Int32)), .val (.int (2 : Int32))]) rfl ?_
      refine Go.goto (pc' := 26) d4_108 (by decide) ?_
      refine Go.iconst (pc' := 27) d4_26 rfl (z := (2 : Int32)) (by decide) ?_
      refine Go.iloadN (pc' := 28) d4_27 rfl rfl ?_
      refine Go.imul (pc' := 29) d4_28 rfl (z := (4 : Int32)) (by decide) ?_
      refine Go.iconst (pc' := 30) d4_29 rfl (z := (1 : Int32)) (by decide) ?_
      refine Go.iadd (pc' := 31) d4_30 rfl (z := (5 : Int32)) (by decide) ?_
      refine Go.istore (pc' := 33) d4_31 rfl (Ls' := #[.val (.ref o), .val (.int x0), .val (.int x4), .val (.int (2 : Int32)), .val (.int (5 : Int32))]) rfl ?_
      refine Go.iload (pc' := 35) d4_33 rfl rfl ?_
      refine Go.aloadN (pc' := 36) d4_35 rfl rfl rfl ?_
      refine Go.getF (pc' := 39) d4_36 rfl (hw _ w17) Via.refl F_o_size ?_
      refine Go.icmpF (pc' := 42) (X := (5 : Int)) (Y := (4 : Int)) d4_39 rfl (by decide) (by decide) (by decide : ¬ (5 : Int) < (4 : Int)) ?_
      refine Go.goto (pc' := 111) d4_42 (by decide) ?_
      refine Go.aloadN (pc' := 112) d4_111 rfl rfl rfl ?_
      refine Go.getF (pc' := 115) d4_112 rfl (hw _ w17) Via.refl F_o_size ?_
      refine Go.ifF (pc' := 118) (X := (4 : Int)) d4_115 rfl (by decide) (by decide : 0 < (4 : Int)) ?_
      refine Go.aloadN (pc' := 119) d4_118 rfl rfl rfl ?_
      refine Go.getF (pc' := 122) d4_119 rfl (hw _ w10) Via.refl F_o_values ?_
      refine Go.iloadN (pc' := 123) d4_122 rfl rfl ?_
      refine Go.iloadN (pc' := 124) d4_123 rfl rfl ?_
      refine Go.iastore (pc' := 125) (i := 2) (v := (.int x4)) (vs' := [(.int x2), (.int x1), (.int x4), (.int x3), (.int x4)]) d4_124 rfl A_a (by decide) (Nat.le_of_ble_eq_true rfl) rfl rfl ?_
      intro h6 L6 NL6 W6 B6
      replace N0 := NL6 _ N0 gn_a
      replace sz0 : n0 ≤ h6.size := by rw [W6.size]; exact sz0
      replace E_o := E_o.wr W6
      replace F_o_values := F_o_values.other W6 (Or.inl ne_o_a)
      replace F_o_size := F_o_size.other W6 (Or.inl ne_o_a)
      replace K0 := K0.wr W6 (Or.inl (by simp))
      clear A_a; have A_a := B6
      refine Go.iloadN (pc' := 126) d4_125 rfl rfl ?_
      refine Go.retI d4_126 rfl (by decide) (by decide) ?_
      exact ⟨x2, x1, x4, x3, x4, rfl, N0, K0, E_o, F_o_values, F_o_size, A_a, by omega, by omega, (by intro z; simp only [own_cons, own_nil] <;> omega)⟩
  · refine Go.icmpT (pc' := 78) (X := x2.toInt) (Y := x1.toInt) d4_72 (by decide) rfl rfl (hc2 : ¬ x2.toInt < x1.toInt) ?_
    refine Go.iloadN (pc' := 79) d4_78 rfl rfl ?_
    refine Go.aloadN (pc' := 80) d4_79 rfl rfl rfl ?_
    refine Go.getF (pc' := 83) d4_80 rfl (hw _ w10) Via.refl F_o_values ?_
    refine Go.iload (pc' := 85) d4_83 rfl rfl ?_
    refine Go.iaload (pc' := 86) d4_85 rfl (i := 1) (v := (.int x1)) A_a (by decide) rfl ?_
    by_cases hc7 : x4.toInt < x1.toInt
    · refine Go.icmpF (pc' := 89) (X := x4.toInt) (Y := x1.toInt) d4_86 rfl rfl rfl (hc7 : x4.toInt < x1.toInt) ?_
      refine Go.goto (pc' := 111) d4_89 (by decide) ?_
      refine Go.aloadN (pc' := 112) d4_111 rfl rfl rfl ?_
      refine Go.getF (pc' := 115) d4_112 rfl (hw _ w17) Via.refl F_o_size ?_
      refine Go.ifF (pc' := 118) (X := (4 : Int)) d4_115 rfl (by decide) (by decide : 0 < (4 : Int)) ?_
      refine Go.aloadN (pc' := 119) d4_118 rfl rfl rfl ?_
      refine Go.getF (pc' := 122) d4_119 rfl (hw _ w10) Via.refl F_o_values ?_
      refine Go.iloadN (pc' := 123) d4_122 rfl rfl ?_
      refine Go.iloadN (pc' := 124) d4_123 rfl rfl ?_
      refine Go.iastore (pc' := 125) (i := 0) (v := (.int x4)) (vs' := [(.int x4), (.int x1), (.int x2), (.int x3), (.int x4)]) d4_124 rfl A_a (by decide) (Nat.le_of_ble_eq_true rfl) rfl rfl ?_
      intro h8 L8 NL8 W8 B8
      replace N0 := NL8 _ N0 gn_a
      replace sz0 : n0 ≤ h8.size := by rw [W8.size]; exact sz0
      replace E_o := E_o.wr W8
      replace F_o_values := F_o_values.other W8 (Or.inl ne_o_a)
      replace F_o_size := F_o_size.other W8 (Or.inl ne_o_a)
      replace K0 := K0.wr W8 (Or.inl (by simp))
      clear A_a; have A_a := B8
      refine Go.iloadN (pc' := 126) d4_125 rfl rfl ?_
      refine Go.retI d4_126 rfl (by decide) (by decide) ?_
      exact ⟨x4, x1, x2, x3, x4, rfl, N0, K0, E_o, F_o_values, F_o_size, A_a, by omega, by omega, (by intro z; simp only [own_cons, own_nil] <;> omega)⟩
    · refine Go.icmpT (pc' := 92) (X := x4.toInt) (Y := x1.toInt) d4_86 (by decide) rfl rfl (hc7 : ¬ x4.toInt < x1.toInt) ?_
      refine Go.aloadN (pc' := 93) d4_92 rfl rfl rfl ?_
      refine Go.getF (pc' := 96) d4_93 rfl (hw _ w10) Via.refl F_o_values ?_
      refine Go.iloadN (pc' := 97) d4_96 rfl rfl ?_
      refine Go.aloadN (pc' := 98) d4_97 rfl rfl rfl ?_
      refine Go.getF (pc' := 101) d4_98 rfl (hw _ w10) Via.refl F_o_values ?_
      refine Go.iload (pc' := 103) d4_101 rfl rfl ?_
      refine Go.iaload (pc' := 104) d4_103 rfl (i := 1) (v := (.int x1)) A_a (by decide) rfl ?_
      refine Go.iastore (pc' := 105) (i := 0) (v := (.int x1)) (vs' := [(.int x1), (.int x1), (.int x2), (.int x3), (.int x4)]) d4_104 rfl A_a (by decide) (Nat.le_of_ble_eq_true rfl) rfl rfl ?_
      intro h9 L9 NL9 W9 B9
      replace N0 := NL9 _ N0 gn_a
      replace sz0 : n0 ≤ h9.size := by rw [W9.size]; exact sz0
      replace E_o := E_o.wr W9
      replace F_o_values := F_o_values.other W9 (Or.inl ne_o_a)
      replace F_o_size := F_o_size.other W9 (Or.inl ne_o_a)
      replace K0 := K0.wr W9 (Or.inl (by simp))
      clear A_a; have A_a := B9
      refine Go.iload (pc' := 107) d4_105 rfl rfl ?_
      refine Go.istoreN (pc' := 108) d4_107 rfl (Ls' := #[.val (.ref o), .val (.int x0), .val (.int x4), .val (.int (1 : Int32)), .val (.int (1 : Int32))]) rfl ?_
      refine Go.goto (pc' := 26) d4_108 (by decide) ?_
      refine Go.iconst (pc' := 27) d4_26 rfl (z := (2 : Int32)) (by decide) ?_
      refine Go.iloadN (pc' := 28) d4_27 rfl rfl ?_
      refine Go.imul (pc' := 29) d4_28 rfl (z := (2 : Int32)) (by decide) ?_
      refine Go.iconst (pc' := 30) d4_29 rfl (z := (1 : Int32)) (by decide) ?_
      refine Go.iadd (pc' := 31) d4_30 rfl (z := (3 : Int32)) (by decide) ?_
      refine Go.istore (pc' := 33) d4_31 rfl (Ls' := #[.val (.ref o), .val (.int x0), .val (.int x4), .val (.int (1 : Int32)), .val (.int (3 : Int32))]) rfl ?_
      refine Go.iload (pc' := 35) d4_33 rfl rfl ?_
      refine Go.aloadN (pc' := 36) d4_35 rfl rfl rfl ?_
      refine Go.getF (pc' := 39) d4_36 rfl (hw _ w17) Via.refl F_o_size ?_
      refine Go.icmpT (pc' := 45) (X := (3 : Int)) (Y := (4 : Int)) d4_39 (by decide) (by decide) (by decide) (by decide : (3 : Int) < (4 : Int)) ?_
      refine Go.iload (pc' := 47) d4_45 rfl rfl ?_
      refine Go.iconst (pc' := 48) d4_47 rfl (z := (1 : Int32)) (by decide) ?_
      refine Go.iadd (pc' := 49) d4_48 rfl (z := (4 : Int32)) (by decide) ?_
      refine Go.aloadN (pc' := 50) d4_49 rfl rfl rfl ?_
      refine Go.getF (pc' := 53) d4_50 rfl (hw _ w17) Via.refl F_o_size ?_
      refine Go.icmpT (pc' := 78) (X := (4 : Int)) (Y := (4 : Int)) d4_53 (by decide) (by decide) (by decide) (by decide : ¬ (4 : Int) < (4 : Int)) ?_
      refine Go.iloadN (pc' := 79) d4_78 rfl rfl ?_
      refine Go.aloadN (pc' := 80) d4_79 rfl rfl rfl ?_
      refine Go.getF (pc' := 83) d4_80 rfl (hw _ w10) Via.refl F_o_values ?_
      refine Go.iload (pc' := 85) d4_83 rfl rfl ?_
      refine Go.iaload (pc' := 86) d4_85 rfl (i := 3) (v := (.int x3)) A_a (by decide) rfl ?_
      by_cases hc10 : x4.toInt < x3.toInt
      · refine Go.icmpF (pc' := 89) (X := x4.toInt) (Y := x3.toInt) d4_86 rfl rfl rfl (hc10 : x4.toInt < x3.toInt) ?_
        refine Go.goto (pc' := 111) d4_89 (by decide) ?_
        refine Go.aloadN (pc' := 112) d4_111 rfl rfl rfl ?_
        refine Go.getF (pc' := 115) d4_112 rfl (hw _ w17) Via.refl F_o_size ?_
        refine Go.ifF (pc' := 118) (X := (4 : Int)) d4_115 rfl (by decide) (by decide : 0 < (4 : Int)) ?_
        refine Go.aloadN (pc' := 119) d4_118 rfl rfl rfl ?_
        refine Go.getF (pc' := 122) d4_119 rfl (hw _ w10) Via.refl F_o_values ?_
        refine Go.iloadN (pc' := 123) d4_122 rfl rfl ?_
        refine Go.iloadN (pc' := 124) d4_123 rfl rfl ?_
        refine Go.iastore (pc' := 125) (i := 1) (v := (.int x4)) (vs' := [(.int x1), (.int x4), (.int x2), (.int x3), (.int x4)]) d4_124 rfl A_a (by decide) (Nat.le_of_ble_eq_true rfl) rfl rfl ?_
        intro h11 L11 NL11 W11 B11
        replace N0 := NL11 _ N0 gn_a
        replace sz0 : n0 ≤ h11.size := by rw [W11.size]; exact sz0
        replace E_o := E_o.wr W11
        replace F_o_values := F_o_values.other W11 (Or.inl ne_o_a)
        replace F_o_size := F_o_size.other W11 (Or.inl ne_o_a)
        replace K0 := K0.wr W11 (Or.inl (by simp))
        clear A_a; have A_a := B11
        refine Go.iloadN (pc' := 126) d4_125 rfl rfl ?_
        refine Go.retI d4_126 rfl (by decide) (by decide) ?_
        exact ⟨x1, x4, x2, x3, x4, rfl, N0, K0, E_o, F_o_values, F_o_size, A_a, by omega, by omega, (by intro z; simp only [own_cons, own_nil] <;> omega)⟩
      · refine Go.icmpT (pc' := 92) (X := x4.toInt) (Y := x3.toInt) d4_86 (by decide) rfl rfl (hc10 : ¬ x4.toInt < x3.toInt) ?_
        refine Go.aloadN (pc' := 93) d4_92 rfl rfl rfl ?_
        refine Go.getF (pc' := 96) d4_93 rfl (hw _ w10) Via.refl F_o_values ?_
        refine Go.iloadN (pc' := 97) d4_96 rfl rfl ?_
        refine Go.aloadN (pc' := 98) d4_97 rfl rfl rfl ?_
        refine Go.getF (pc' := 101) d4_98 rfl (hw _ w10) Via.refl F_o_values ?_
        refine Go.iload (pc' := 103) d4_101 rfl rfl ?_
        refine Go.iaload (pc' := 104) d4_103 rfl (i := 3) (v := (.int x3)) A_a (by decide) rfl ?_
        refine Go.iastore (pc' := 105) (i := 1) (v := (.int x3)) (vs' := [(.int x1), (.int x3), (.int x2), (.int x3), (.int x4)]) d4_104 rfl A_a (by decide) (Nat.le_of_ble_eq_true rfl) rfl rfl ?_
        intro h12 L12 NL12 W12 B12
        replace N0 := NL12 _ N0 gn_a
        replace sz0 : n0 ≤ h12.size := by rw [W12.size]; exact sz0
        replace E_o := E_o.wr W12
        replace F_o_values := F_o_values.other W12 (Or.inl ne_o_a)
        replace F_o_size := F_o_size.other W12 (Or.inl ne_o_a)
        replace K0 := K0.wr W12 (Or.inl (by simp))
        clear A_a; have A_a := B12
        refine Go.iload (pc' := 107) d4_105 rfl rfl ?_
        refine Go.istoreN (pc' := 108) d4_107 rfl (Ls' := #[.val (.ref o), .val (.int x0), .val (.int x4), .val (.int (3 : Int32)), .val (.int (3 : Int32))]) rfl ?_
        refine Go.goto (pc' := 26) d4_108 (by decide) ?_
        refine Go.iconst (pc' := 27) d4_26 rfl (z := (2 : Int32)) (by decide) ?_
        refine Go.iloadN (pc' := 28) d4_27 rfl rfl ?_
        refine Go.imul (pc' := 29) d4_28 rfl (z := (6 : Int32)) (by decide) ?_
        refine Go.iconst (pc' := 30) d4_29 rfl (z := (1 : Int32)) (by decide) ?_
        refine Go.iadd (pc' := 31) d4_30 rfl (z := (7 : Int32)) (by decide) ?_
        refine Go.istore (pc' := 33) d4_31 rfl (Ls' := #[.val (.ref o), .val (.int x0), .val (.int x4), .val (.int (3 : Int32)), .val (.int (7 : Int32))]) rfl ?_
        refine Go.iload (pc' := 35) d4_33 rfl rfl ?_
        refine Go.aloadN (pc' := 36) d4_35 rfl rfl rfl ?_
        refine Go.getF (pc' := 39) d4_36 rfl (hw _ w17) Via.refl F_o_size ?_
        refine Go.icmpF (pc' := 42) (X := (7 : Int)) (Y := (4 : Int)) d4_39 rfl (by decide) (by decide) (by decide : ¬ (7 : Int) < (4 : Int)) ?_
        refine Go.goto (pc' := 111) d4_42 (by decide) ?_
        refine Go.aloadN (pc' := 112) d4_111 rfl rfl rfl ?_
        refine Go.getF (pc' := 115) d4_112 rfl (hw _ w17) Via.refl F_o_size ?_
        refine Go.ifF (pc' := 118) (X := (4 : Int)) d4_115 rfl (by decide) (by decide : 0 < (4 : Int)) ?_
        refine Go.aloadN (pc' := 119) d4_118 rfl rfl rfl ?_
        refine Go.getF (pc' := 122) d4_119 rfl (hw _ w10) Via.refl F_o_values ?_
        refine Go.iloadN (pc' := 123) d4_122 rfl rfl ?_
        refine Go.iloadN (pc' := 124) d4_123 rfl rfl ?_
        refine Go.iastore (pc' := 125) (i := 3) (v := (.int x4)) (vs' := [(.int x1), (.int x3), (.int x2), (.int x4), (.int x4)]) d4_124 rfl A_a (by decide) (Nat.le_of_ble_eq_true rfl) rfl rfl ?_
        intro h13 L13 NL13 W13 B13
        replace N0 := NL13 _ N0 gn_a
        replace sz0 : n0 ≤ h13.size := by rw [W13.size]; exact sz0
        replace E_o := E_o.wr W13
        replace F_o_values := F_o_values.other W13 (Or.inl ne_o_a)
        replace F_o_size := F_o_size.other W13 (Or.inl ne_o_a)
        replace K0 := K0.wr W13 (Or.inl (by simp))
        clear A_a; have A_a := B13
        refine Go.iloadN (pc' := 126) d4_125 rfl rfl ?_
        refine Go.retI d4_126 rfl (by decide) (by decide) ?_
        exact ⟨x1, x3, x2, x4, x4, rfl, N0, K0, E_o, F_o_values, F_o_size, A_a, by omega, by omega, (by intro z; simp only [own_cons, own_nil] <;> omega)⟩
set_option maxRecDepth 65536 in
set_option maxHeartbeats 40000000 in
theorem c_take4 {l : Launch} {Z : State} {a0 : Array Value} (hw : ∀ d ∈ tables_1, d.before a0 Z = true) {h0 : Heap} {n0 : Nat} (sz0 : n0 ≤ h0.size) (o a : Addr) (x0 x1 x2 x3 x4 : Int32) (gn_o : n0 ≤ o) (gn_a : n0 ≤ a) (E_o : Exa Z h0 o "com/example/even_keel/evenkeel/scale/IntMinHeap") (F_o_values : Fld Z h0 o "com/example/even_keel/evenkeel/scale/IntMinHeap" "values" "[I" (.ref a)) (F_o_size : Fld Z h0 o "com/example/even_keel/evenkeel/scale/IntMinHeap" "size" "I" (.int (4 : Int32))) (A_a : Al Z h0 a .int [(.int x0), (.int x1), (.int x2), (.int x3), (.int x4)]) (hH : x0.toInt ≤ x1.toInt ∧ x0.toInt ≤ x2.toInt ∧ x1.toInt ≤ x3.toInt) : Con l Z (⟨"com/example/even_keel/evenkeel/scale/IntMinHeap", "takeLeast", "()I"⟩ : MethodName) prog_167_method_6_code 5 (some .int) ({ frames := 0, cells := 0, slots := 0, locals := 0 } : Room) [] #[(.ref o)] h0 (fun v h L => ∃ y0 y1 y2 y3 y4 : Int32, v = some (.int x0) ∧ Fr n0 L ∧ Keep h0 h [o, a] ∧ Exa Z h o "com/example/even_keel/evenkeel/scale/IntMinHeap" ∧ Fld Z h o "com/example/even_keel/evenkeel/scale/IntMinHeap" "values" "[I" (.ref a) ∧ Fld Z h o "com/example/even_keel/evenkeel/scale/IntMinHeap" "size" "I" (.int (3 : Int32)) ∧ Al Z h a .int [(.int y0), (.int y1), (.int y2), (.int y3), (.int y4)] ∧ (y0.toInt ≤ y1.toInt ∧ y0.toInt ≤ y2.toInt) ∧ (x0.toInt ≤ y0.toInt) ∧ ∀ z, own_c z [x0, x1, x2, x3] = (if x0.toInt = z.toInt then 1 else 0) + own_c z [y0, y1, y2]) := by
  refine con_of (Ls := #[.val (.ref o), .unset, .unset, .unset, .unset]) (plainFor_of_name (by first | (simp [plainName, overriddenIn]; done) | decide +kernel)) (fun m => by first | rfl | (simp [entryFrame, mkF, argsToLocals, Value.category]; done)) ?_
  have N0 : Fr n0 [] := Fr.nil _
  have K0 : Keep h0 h0 [o, a] := Keep.refl _ _
  have ne_o_a : o ≠ a := ne_al E_o (hw _ w2) A_a
  refine Go.aloadN (pc' := 1) d4_0 rfl rfl rfl ?_
  refine Go.getF (pc' := 4) d4_1 rfl (hw _ w10) Via.refl F_o_values ?_
  refine Go.iconst (pc' := 5) d4_4 rfl (z := (0 : Int32)) (by decide) ?_
  refine Go.iaload (pc' := 6) d4_5 rfl (i := 0) (v := (.int x0)) A_a (by decide) rfl ?_
  refine Go.istoreN (pc' := 7) d4_6 rfl (Ls' := #[.val (.ref o), .val (.int x0), .unset, .unset, .unset]) rfl ?_
  refine Go.aloadN (pc' := 8) d4_7 rfl rfl rfl ?_
  refine Go.getF (pc' := 11) d4_8 rfl (hw _ w10) Via.refl F_o_values ?_
  refine Go.aloadN (pc' := 12) d4_11 rfl rfl rfl ?_
  refine Go.dup (pc' := 13) d4_12 rfl rfl ?_
  refine Go.getF (pc' := 16) d4_13 rfl (hw _ w17) Via.refl F_o_size ?_
  refine Go.iconst (pc' := 17) d4_16 rfl (z := (1 : Int32)) (by decide) ?_
  refine Go.isub (pc' := 18) d4_17 rfl (z := (3 : Int32)) (by decide) ?_
  refine Go.dupX1 (pc' := 19) d4_18 rfl rfl rfl ?_
  refine Go.putF (pc' := 22) d4_19 rfl (hw _ w17) Via.refl F_o_size E_o (Or.inl (hw _ w18)) (hw _ w2) (ty := .int) (by decide) rfl rfl ?_
  intro h1 L1 NL1 W1
  replace F_o_size := F_o_size.same W1
  replace N0 := NL1 _ N0 gn_o
  replace sz0 : n0 ≤ h1.size := by rw [W1.size]; exact sz0
  replace E_o := E_o.wr W1
  replace F_o_values := F_o_values.other W1 (Or.inr (slot_ne (Or.inr (hw _ w11)) (Or.inl (hw _ w18)) (by decide) (t := (.array .int)) (t' := .int) (by decide) (by decide)))
  replace A_a := A_a.other W1 (Ne.symm ne_o_a)
  replace K0 := K0.wr W1 (Or.inl (by simp))
  refine Go.iaload (pc' := 23) d4_22 rfl (i := 3) (v := (.int x3)) A_a (by decide) rfl ?_
  refine Go.istoreN (pc' := 24) d4_23 rfl (Ls' := #[.val (.ref o), .val (.int x0), .val (.int x3), .unset, .unset]) rfl ?_
  refine Go.iconst (pc' := 25) d4_24 rfl (z := (0 : Int32)) (by decide) ?_
  refine Go.istoreN (pc' := 26) d4_25 rfl (Ls' := #[.val (.ref o), .val (.int x0), .val (.int x3), .val (.int (0 : Int32)), .unset]) rfl ?_
  refine Go.iconst (pc' := 27) d4_26 rfl (z := (2 : Int32)) (by decide) ?_
  refine Go.iloadN (pc' := 28) d4_27 rfl rfl ?_
  refine Go.imul (pc' := 29) d4_28 rfl (z := (0 : Int32)) (by decide) ?_
  refine Go.iconst (pc' := 30) d4_29 rfl (z := (1 : Int32)) (by decide) ?_
  refine Go.iadd (pc' := 31) d4_30 rfl (z := (1 : Int32)) (by decide) ?_
  refine Go.istore (pc' := 33) d4_31 rfl (Ls' := #[.val (.ref o), .val (.int x0), .val (.int x3), .val (.int (0 : Int32)), .val (.int (1 : Int32))]) rfl ?_
  refine Go.iload (pc' := 35) d4_33 rfl rfl ?_
  refine Go.aloadN (pc' := 36) d4_35 rfl rfl rfl ?_
  refine Go.getF (pc' := 39) d4_36 rfl (hw _ w17) Via.refl F_o_size ?_
  refine Go.icmpT (pc' := 45) (X := (1 : Int)) (Y := (3 : Int)) d4_39 (by decide) (by decide) (by decide) (by decide : (1 : Int) < (3 : Int)) ?_
  refine Go.iload (pc' := 47) d4_45 rfl rfl ?_
  refine Go.iconst (pc' := 48) d4_47 rfl (z := (1 : Int32)) (by decide) ?_
  refine Go.iadd (pc' := 49) d4_48 rfl (z := (2 : Int32)) (by decide) ?_
  refine Go.aloadN (pc' := 50) d4_49 rfl rfl rfl ?_
  refine Go.getF (pc' := 53) d4_50 rfl (hw _ w17) Via.refl F_o_size ?_
  refine Go.icmpF (pc' := 56) (X := (2 : Int)) (Y := (3 : Int)) d4_53 rfl (by decide) (by decide) (by decide : (2 : Int) < (3 : Int)) ?_
  refine Go.aloadN (pc' := 57) d4_56 rfl rfl rfl ?_
  refine Go.getF (pc' := 60) d4_57 rfl (hw _ w10) Via.refl F_o_values ?_
  refine Go.iload (pc' := 62) d4_60 rfl rfl ?_
  refine Go.iconst (pc' := 63) d4_62 rfl (z := (1 : Int32)) (by decide) ?_
  refine Go.iadd (pc' := 64) d4_63 rfl (z := (2 : Int32)) (by decide) ?_
  refine Go.iaload (pc' := 65) d4_64 rfl (i := 2) (v := (.int x2)) A_a (by decide) rfl ?_
  refine Go.aloadN (pc' := 66) d4_65 rfl rfl rfl ?_
  refine Go.getF (pc' := 69) d4_66 rfl (hw _ w10) Via.refl F_o_values ?_
  refine Go.iload (pc' := 71) d4_69 rfl rfl ?_
  refine Go.iaload (pc' := 72) d4_71 rfl (i := 1) (v := (.int x1)) A_a (by decide) rfl ?_
  by_cases hc2 : x2.toInt < x1.toInt
  · refine Go.icmpF (pc' := 75) (X := x2.toInt) (Y := x1.toInt) d4_72 rfl rfl rfl (hc2 : x2.toInt < x1.toInt) ?_
    refine Go.iinc (pc' := 78) d4_75 rfl rfl (z := (2 : Int32)) (by decide) (Ls' := #[.val (.ref o), .val (.int x0), .val (.int x3), .val (.int (0 : Int32)), .val (.int (2 : Int32))]) rfl ?_
    refine Go.iloadN (pc' := 79) d4_78 rfl rfl ?_
    refine Go.aloadN (pc' := 80) d4_79 rfl rfl rfl ?_
    refine Go.getF (pc' := 83) d4_80 rfl (hw _ w10) Via.refl F_o_values ?_
    refine Go.iload (pc' := 85) d4_83 rfl rfl ?_
    refine Go.iaload (pc' := 86) d4_85 rfl (i := 2) (v := (.int x2)) A_a (by decide) rfl ?_
    by_cases hc3 : x3.toInt < x2.toInt
    · refine Go.icmpF (pc' := 89) (X := x3.toInt) (Y := x2.toInt) d4_86 rfl rfl rfl (hc3 : x3.toInt < x2.toInt) ?_
      refine Go.goto (pc' := 111) d4_89 (by decide) ?_
      refine Go.aloadN (pc' := 112) d4_111 rfl rfl rfl ?_
      refine Go.getF (pc' := 115) d4_112 rfl (hw _ w17) Via.refl F_o_size ?_
      refine Go.ifF (pc' := 118) (X := (3 : Int)) d4_115 rfl (by decide) (by decide : 0 < (3 : Int)) ?_
      refine Go.aloadN (pc' := 119) d4_118 rfl rfl rfl ?_
      refine Go.getF (pc' := 122) d4_119 rfl (hw _ w10) Via.refl F_o_values ?_
      refine Go.iloadN (pc' := 123) d4_122 rfl rfl ?_
      refine Go.iloadN (pc' := 124) d4_123 rfl rfl ?_
      refine Go.iastore (pc' := 125) (i := 0) (v := (.int x3)) (vs' := [(.int x3), (.int x1), (.int x2), (.int x3), (.int x4)]) d4_124 rfl A_a (by decide) (Nat.le_of_ble_eq_true rfl) rfl rfl ?_
      intro h4 L4 NL4 W4 B4
      replace N0 := NL4 _ N0 gn_a
      replace sz0 : n0 ≤ h4.size := by rw [W4.size]; exact sz0
      replace E_o := E_o.wr W4
      replace F_o_values := F_o_values.other W4 (Or.inl ne_o_a)
      replace F_o_size := F_o_size.other W4 (Or.inl ne_o_a)
      replace K0 := K0.wr W4 (Or.inl (by simp))
      clear A_a; have A_a := B4
      refine Go.iloadN (pc' := 126) d4_125 rfl rfl ?_
      refine Go.retI d4_126 rfl (by decide) (by decide) ?_
      exact ⟨x3, x1, x2, x3, x4, rfl, N0, K0, E_o, F_o_values, F_o_size, A_a, by omega, by omega, (by intro z; simp only [own_cons, own_nil] <;> omega)⟩
    · refine Go.icmpT (pc' := 92) (X := x3.toInt) (Y := x2.toInt) d4_86 (by decide) rfl rfl (hc3 : ¬ x3.toInt < x2.toInt) ?_
      refine Go.aloadN (pc' := 93) d4_92 rfl rfl rfl ?_
      refine Go.getF (pc' := 96) d4_93 rfl (hw _ w10) Via.refl F_o_values ?_
      refine Go.iloadN (pc' := 97) d4_96 rfl rfl ?_
      refine Go.aloadN (pc' := 98) d4_97 rfl rfl rfl ?_
      refine Go.getF (pc' := 101) d4_98 rfl (hw _ w10) Via.refl F_o_values ?_
      refine Go.iload (pc' := 103) d4_101 rfl rfl ?_
      refine Go.iaload (pc' := 104) d4_103 rfl (i := 2) (v := (.int x2)) A_a (by decide) rfl ?_
      refine Go.iastore (pc' := 105) (i := 0) (v := (.int x2)) (vs' := [(.int x2), (.int x1), (.int x2), (.int x3), (.int x4)]) d4_104 rfl A_a (by decide) (Nat.le_of_ble_eq_true rfl) rfl rfl ?_
      intro h5 L5 NL5 W5 B5
      replace N0 := NL5 _ N0 gn_a
      replace sz0 : n0 ≤ h5.size := by rw [W5.size]; exact sz0
      replace E_o := E_o.wr W5
      replace F_o_values := F_o_values.other W5 (Or.inl ne_o_a)
      replace F_o_size := F_o_size.other W5 (Or.inl ne_o_a)
      replace K0 := K0.wr W5 (Or.inl (by simp))
      clear A_a; have A_a := B5
      refine Go.iload (pc' := 107) d4_105 rfl rfl ?_
      refine Go.istoreN (pc' := 108) d4_107 rfl (Ls' := #[.val (.ref o), .val (.int x0), .val (.int x3), .val (.int (2 : Int32)), .val (.int (2 : Int32))]) rfl ?_
      refine Go.goto (pc' := 26) d4_108 (by decide) ?_
      refine Go.iconst (pc' := 27) d4_26 rfl (z := (2 : Int32)) (by decide) ?_
      refine Go.iloadN (pc' := 28) d4_27 rfl rfl ?_
      refine Go.imul (pc' := 29) d4_28 rfl (z := (4 : Int32)) (by decide) ?_
      refine Go.iconst (pc' := 30) d4_29 rfl (z := (1 : Int32)) (by decide) ?_
      refine Go.iadd (pc' := 31) d4_30 rfl (z := (5 : Int32)) (by decide) ?_
      refine Go.istore (pc' := 33) d4_31 rfl (Ls' := #[.val (.ref o), .val (.int x0), .val (.int x3), .val (.int (2 : Int32)), .val (.int (5 : Int32))]) rfl ?_
      refine Go.iload (pc' := 35) d4_33 rfl rfl ?_
      refine Go.aloadN (pc' := 36) d4_35 rfl rfl rfl ?_
      refine Go.getF (pc' := 39) d4_36 rfl (hw _ w17) Via.refl F_o_size ?_
      refine Go.icmpF (pc' := 42) (X := (5 : Int)) (Y := (3 : Int)) d4_39 rfl (by decide) (by decide) (by decide : ¬ (5 : Int) < (3 : Int)) ?_
      refine Go.goto (pc' := 111) d4_42 (by decide) ?_
      refine Go.aloadN (pc' := 112) d4_111 rfl rfl rfl ?_
      refine Go.getF (pc' := 115) d4_112 rfl (hw _ w17) Via.refl F_o_size ?_
      refine Go.ifF (pc' := 118) (X := (3 : Int)) d4_115 rfl (by decide) (by decide : 0 < (3 : Int)) ?_
      refine Go.aloadN (pc' := 119) d4_118 rfl rfl rfl ?_
      refine Go.getF (pc' := 122) d4_119 rfl (hw _ w10) Via.refl F_o_values ?_
      refine Go.iloadN (pc' := 123) d4_122 rfl rfl ?_
      refine Go.iloadN (pc' := 124) d4_123 rfl rfl ?_
      refine Go.iastore (pc' := 125) (i := 2) (v := (.int x3)) (vs' := [(.int x2), (.int x1), (.int x3), (.int x3), (.int x4)]) d4_124 rfl A_a (by decide) (Nat.le_of_ble_eq_true rfl) rfl rfl ?_
      intro h6 L6 NL6 W6 B6
      replace N0 := NL6 _ N0 gn_a
      replace sz0 : n0 ≤ h6.size := by rw [W6.size]; exact sz0
      replace E_o := E_o.wr W6
      replace F_o_values := F_o_values.other W6 (Or.inl ne_o_a)
      replace F_o_size := F_o_size.other W6 (Or.inl ne_o_a)
      replace K0 := K0.wr W6 (Or.inl (by simp))
      clear A_a; have A_a := B6
      refine Go.iloadN (pc' := 126) d4_125 rfl rfl ?_
      refine Go.retI d4_126 rfl (by decide) (by decide) ?_
      exact ⟨x2, x1, x3, x3, x4, rfl, N0, K0, E_o, F_o_values, F_o_size, A_a, by omega, by omega, (by intro z; simp only [own_cons, own_nil] <;> omega)⟩
  · refine Go.icmpT (pc' := 78) (X := x2.toInt) (Y := x1.toInt) d4_72 (by decide) rfl rfl (hc2 : ¬ x2.toInt < x1.toInt) ?_
    refine Go.iloadN (pc' := 79) d4_78 rfl rfl ?_
    refine Go.aloadN (pc' := 80) d4_79 rfl rfl rfl ?_
    refine Go.getF (pc' := 83) d4_80 rfl (hw _ w10) Via.refl F_o_values ?_
    refine Go.iload (pc' := 85) d4_83 rfl rfl ?_
    refine Go.iaload (pc' := 86) d4_85 rfl (i := 1) (v := (.int x1)) A_a (by decide) rfl ?_
    by_cases hc7 : x3.toInt < x1.toInt
    · refine Go.icmpF (pc' := 89) (X := x3.toInt) (Y := x1.toInt) d4_86 rfl rfl rfl (hc7 : x3.toInt < x1.toInt) ?_
      refine Go.goto (pc' := 111) d4_89 (by decide) ?_
      refine Go.aloadN (pc' := 112) d4_111 rfl rfl rfl ?_
      refine Go.getF (pc' := 115) d4_112 rfl (hw _ w17) Via.refl F_o_size ?_
      refine Go.ifF (pc' := 118) (X := (3 : Int)) d4_115 rfl (by decide) (by decide : 0 < (3 : Int)) ?_
      refine Go.aloadN (pc' := 119) d4_118 rfl rfl rfl ?_
      refine Go.getF (pc' := 122) d4_119 rfl (hw _ w10) Via.refl F_o_values ?_
      refine Go.iloadN (pc' := 123) d4_122 rfl rfl ?_
      refine Go.iloadN (pc' := 124) d4_123 rfl rfl ?_
      refine Go.iastore (pc' := 125) (i := 0) (v := (.int x3)) (vs' := [(.int x3), (.int x1), (.int x2), (.int x3), (.int x4)]) d4_124 rfl A_a (by decide) (Nat.le_of_ble_eq_true rfl) rfl rfl ?_
      intro h8 L8 NL8 W8 B8
      replace N0 := NL8 _ N0 gn_a
      replace sz0 : n0 ≤ h8.size := by rw [W8.size]; exact sz0
      replace E_o := E_o.wr W8
      replace F_o_values := F_o_values.other W8 (Or.inl ne_o_a)
      replace F_o_size := F_o_size.other W8 (Or.inl ne_o_a)
      replace K0 := K0.wr W8 (Or.inl (by simp))
      clear A_a; have A_a := B8
      refine Go.iloadN (pc' := 126) d4_125 rfl rfl ?_
      refine Go.retI d4_126 rfl (by decide) (by decide) ?_
      exact ⟨x3, x1, x2, x3, x4, rfl, N0, K0, E_o, F_o_values, F_o_size, A_a, by omega, by omega, (by intro z; simp only [own_cons, own_nil] <;> omega)⟩
    · refine Go.icmpT (pc' := 92) (X := x3.toInt) (Y := x1.toInt) d4_86 (by decide) rfl rfl (hc7 : ¬ x3.toInt < x1.toInt) ?_
      refine Go.aloadN (pc' := 93) d4_92 rfl rfl rfl ?_
      refine Go.getF (pc' := 96) d4_93 rfl (hw _ w10) Via.refl F_o_values ?_
      refine Go.iloadN (pc' := 97) d4_96 rfl rfl ?_
      refine Go.aloadN (pc' := 98) d4_97 rfl rfl rfl ?_
      refine Go.getF (pc' := 101) d4_98 rfl (hw _ w10) Via.refl F_o_values ?_
      refine Go.iload (pc' := 103) d4_101 rfl rfl ?_
      refine Go.iaload (pc' := 104) d4_103 rfl (i := 1) (v := (.int x1)) A_a (by decide) rfl ?_
      refine Go.iastore (pc' := 105) (i := 0) (v := (.int x1)) (vs' := [(.int x1), (.int x1), (.int x2), (.int x3), (.int x4)]) d4_104 rfl A_a (by decide) (Nat.le_of_ble_eq_true rfl) rfl rfl ?_
      intro h9 L9 NL9 W9 B9
      replace N0 := NL9 _ N0 gn_a
      replace sz0 : n0 ≤ h9.size := by rw [W9.size]; exact sz0
      replace E_o := E_o.wr W9
      replace F_o_values := F_o_values.other W9 (Or.inl ne_o_a)
      replace F_o_size := F_o_size.other W9 (Or.inl ne_o_a)
      replace K0 := K0.wr W9 (Or.inl (by simp))
      clear A_a; have A_a := B9
      refine Go.iload (pc' := 107) d4_105 rfl rfl ?_
      refine Go.istoreN (pc' := 108) d4_107 rfl (Ls' := #[.val (.ref o), .val (.int x0), .val (.int x3), .val (.int (1 : Int32)), .val (.int (1 : Int32))]) rfl ?_
      refine Go.goto (pc' := 26) d4_108 (by decide) ?_
      refine Go.iconst (pc' := 27) d4_26 rfl (z := (2 : Int32)) (by decide) ?_
      refine Go.iloadN (pc' := 28) d4_27 rfl rfl ?_
      refine Go.imul (pc' := 29) d4_28 rfl (z := (2 : Int32)) (by decide) ?_
      refine Go.iconst (pc' := 30) d4_29 rfl (z := (1 : Int32)) (by decide) ?_
      refine Go.iadd (pc' := 31) d4_30 rfl (z := (3 : Int32)) (by decide) ?_
      refine Go.istore (pc' := 33) d4_31 rfl (Ls' := #[.val (.ref o), .val (.int x0), .val (.int x3), .val (.int (1 : Int32)), .val (.int (3 : Int32))]) rfl ?_
      refine Go.iload (pc' := 35) d4_33 rfl rfl ?_
      refine Go.aloadN (pc' := 36) d4_35 rfl rfl rfl ?_
      refine Go.getF (pc' := 39) d4_36 rfl (hw _ w17) Via.refl F_o_size ?_
      refine Go.icmpF (pc' := 42) (X := (3 : Int)) (Y := (3 : Int)) d4_39 rfl (by decide) (by decide) (by decide : ¬ (3 : Int) < (3 : Int)) ?_
      refine Go.goto (pc' := 111) d4_42 (by decide) ?_
      refine Go.aloadN (pc' := 112) d4_111 rfl rfl rfl ?_
      refine Go.getF (pc' := 115) d4_112 rfl (hw _ w17) Via.refl F_o_size ?_
      refine Go.ifF (pc' := 118) (X := (3 : Int)) d4_115 rfl (by decide) (by decide : 0 < (3 : Int)) ?_
      refine Go.aloadN (pc' := 119) d4_118 rfl rfl rfl ?_
      refine Go.getF (pc' := 122) d4_119 rfl (hw _ w10) Via.refl F_o_values ?_
      refine Go.iloadN (pc' := 123) d4_122 rfl rfl ?_
      refine Go.iloadN (pc' := 124) d4_123 rfl rfl ?_
      refine Go.iastore (pc' := 125) (i := 1) (v := (.int x3)) (vs' := [(.int x1), (.int x3), (.int x2), (.int x3), (.int x4)]) d4_124 rfl A_a (by decide) (Nat.le_of_ble_eq_true rfl) rfl rfl ?_
      intro h10 L10 NL10 W10 B10
      replace N0 := NL10 _ N0 gn_a
      replace sz0 : n0 ≤ h10.size := by rw [W10.size]; exact sz0
      replace E_o := E_o.wr W10
      replace F_o_values := F_o_values.other W10 (Or.inl ne_o_a)
      replace F_o_size := F_o_size.other W10 (Or.inl ne_o_a)
      replace K0 := K0.wr W10 (Or.inl (by simp))
      clear A_a; have A_a := B10
      refine Go.iloadN (pc' := 126) d4_125 rfl rfl ?_
      refine Go.retI d4_126 rfl (by decide) (by decide) ?_
      exact ⟨x1, x3, x2, x3, x4, rfl, N0, K0, E_o, F_o_values, F_o_size, A_a, by omega, by omega, (by intro z; simp only [own_cons, own_nil] <;> omega)⟩
set_option maxRecDepth 65536 in
set_option maxHeartbeats 40000000 in
theorem c_take3 {l : Launch} {Z : State} {a0 : Array Value} (hw : ∀ d ∈ tables_1, d.before a0 Z = true) {h0 : Heap} {n0 : Nat} (sz0 : n0 ≤ h0.size) (o a : Addr) (x0 x1 x2 x3 x4 : Int32) (gn_o : n0 ≤ o) (gn_a : n0 ≤ a) (E_o : Exa Z h0 o "com/example/even_keel/evenkeel/scale/IntMinHeap") (F_o_values : Fld Z h0 o "com/example/even_keel/evenkeel/scale/IntMinHeap" "values" "[I" (.ref a)) (F_o_size : Fld Z h0 o "com/example/even_keel/evenkeel/scale/IntMinHeap" "size" "I" (.int (3 : Int32))) (A_a : Al Z h0 a .int [(.int x0), (.int x1), (.int x2), (.int x3), (.int x4)]) (hH : x0.toInt ≤ x1.toInt ∧ x0.toInt ≤ x2.toInt) : Con l Z (⟨"com/example/even_keel/evenkeel/scale/IntMinHeap", "takeLeast", "()I"⟩ : MethodName) prog_167_method_6_code 5 (some .int) ({ frames := 0, cells := 0, slots := 0, locals := 0 } : Room) [] #[(.ref o)] h0 (fun v h L => ∃ y0 y1 y2 y3 y4 : Int32, v = some (.int x0) ∧ Fr n0 L ∧ Keep h0 h [o, a] ∧ Exa Z h o "com/example/even_keel/evenkeel/scale/IntMinHeap" ∧ Fld Z h o "com/example/even_keel/evenkeel/scale/IntMinHeap" "values" "[I" (.ref a) ∧ Fld Z h o "com/example/even_keel/evenkeel/scale/IntMinHeap" "size" "I" (.int (2 : Int32)) ∧ Al Z h a .int [(.int y0), (.int y1), (.int y2), (.int y3), (.int y4)] ∧ (y0.toInt ≤ y1.toInt) ∧ (x0.toInt ≤ y0.toInt) ∧ ∀ z, own_c z [x0, x1, x2] = (if x0.toInt = z.toInt then 1 else 0) + own_c z [y0, y1]) := by
  refine con_of (Ls := #[.val (.ref o), .unset, .unset, .unset, .unset]) (plainFor_of_name (by first | (simp [plainName, overriddenIn]; done) | decide +kernel)) (fun m => by first | rfl | (simp [entryFrame, mkF, argsToLocals, Value.category]; done)) ?_
  have N0 : Fr n0 [] := Fr.nil _
  have K0 : Keep h0 h0 [o, a] := Keep.refl _ _
  have ne_o_a : o ≠ a := ne_al E_o (hw _ w2) A_a
  refine Go.aloadN (pc' := 1) d4_0 rfl rfl rfl ?_
  refine Go.getF (pc' := 4) d4_1 rfl (hw _ w10) Via.refl F_o_values ?_
  refine Go.iconst (pc' := 5) d4_4 rfl (z := (0 : Int32)) (by decide) ?_
  refine Go.iaload (pc' := 6) d4_5 rfl (i := 0) (v := (.int x0)) A_a (by decide) rfl ?_
  refine Go.istoreN (pc' := 7) d4_6 rfl (Ls' := #[.val (.ref o), .val (.int x0), .unset, .unset, .unset]) rfl ?_
  refine Go.aloadN (pc' := 8) d4_7 rfl rfl rfl ?_
  refine Go.getF (pc' := 11) d4_8 rfl (hw _ w10) Via.refl F_o_values ?_
  refine Go.aloadN (pc' := 12) d4_11 rfl rfl rfl ?_
  refine Go.dup (pc' := 13) d4_12 rfl rfl ?_
  refine Go.getF (pc' := 16) d4_13 rfl (hw _ w17) Via.refl F_o_size ?_
  refine Go.iconst (pc' := 17) d4_16 rfl (z := (1 : Int32)) (by decide) ?_
  refine Go.isub (pc' := 18) d4_17 rfl (z := (2 : Int32)) (by decide) ?_
  refine Go.dupX1 (pc' := 19) d4_18 rfl rfl rfl ?_
  refine Go.putF (pc' := 22) d4_19 rfl (hw _ w17) Via.refl F_o_size E_o (Or.inl (hw _ w18)) (hw _ w2) (ty := .int) (by decide) rfl rfl ?_
  intro h1 L1 NL1 W1
  replace F_o_size := F_o_size.same W1
  replace N0 := NL1 _ N0 gn_o
  replace sz0 : n0 ≤ h1.size := by rw [W1.size]; exact sz0
  replace E_o := E_o.wr W1
  replace F_o_values := F_o_values.other W1 (Or.inr (slot_ne (Or.inr (hw _ w11)) (Or.inl (hw _ w18)) (by decide) (t := (.array .int)) (t' := .int) (by decide) (by decide)))
  replace A_a := A_a.other W1 (Ne.symm ne_o_a)
  replace K0 := K0.wr W1 (Or.inl (by simp))
  refine Go.iaload (pc' := 23) d4_22 rfl (i := 2) (v := (.int x2)) A_a (by decide) rfl ?_
  refine Go.istoreN (pc' := 24) d4_23 rfl (Ls' := #[.val (.ref o), .val (.int x0), .val (.int x2), .unset, .unset]) rfl ?_
  refine Go.iconst (pc' := 25) d4_24 rfl (z := (0 : Int32)) (by decide) ?_
  refine Go.istoreN (pc' := 26) d4_25 rfl (Ls' := #[.val (.ref o), .val (.int x0), .val (.int x2), .val (.int (0 : Int32)), .unset]) rfl ?_
  refine Go.iconst (pc' := 27) d4_26 rfl (z := (2 : Int32)) (by decide) ?_
  refine Go.iloadN (pc' := 28) d4_27 rfl rfl ?_
  refine Go.imul (pc' := 29) d4_28 rfl (z := (0 : Int32)) (by decide) ?_
  refine Go.iconst (pc' := 30) d4_29 rfl (z := (1 : Int32)) (by decide) ?_
  refine Go.iadd (pc' := 31) d4_30 rfl (z := (1 : Int32)) (by decide) ?_
  refine Go.istore (pc' := 33) d4_31 rfl (Ls' := #[.val (.ref o), .val (.int x0), .val (.int x2), .val (.int (0 : Int32)), .val (.int (1 : Int32))]) rfl ?_
  refine Go.iload (pc' := 35) d4_33 rfl rfl ?_
  refine Go.aloadN (pc' := 36) d4_35 rfl rfl rfl ?_
  refine Go.getF (pc' := 39) d4_36 rfl (hw _ w17) Via.refl F_o_size ?_
  refine Go.icmpT (pc' := 45) (X := (1 : Int)) (Y := (2 : Int)) d4_39 (by decide) (by decide) (by decide) (by decide : (1 : Int) < (2 : Int)) ?_
  refine Go.iload (pc' := 47) d4_45 rfl rfl ?_
  refine Go.iconst (pc' := 48) d4_47 rfl (z := (1 : Int32)) (by decide) ?_
  refine Go.iadd (pc' := 49) d4_48 rfl (z := (2 : Int32)) (by decide) ?_
  refine Go.aloadN (pc' := 50) d4_49 rfl rfl rfl ?_
  refine Go.getF (pc' := 53) d4_50 rfl (hw _ w17) Via.refl F_o_size ?_
  refine Go.icmpT (pc' := 78) (X := (2 : Int)) (Y := (2 : Int)) d4_53 (by decide) (by decide) (by decide) (by decide : ¬ (2 : Int) < (2 : Int)) ?_
  refine Go.iloadN (pc' := 79) d4_78 rfl rfl ?_
  refine Go.aloadN (pc' := 80) d4_79 rfl rfl rfl ?_
  refine Go.getF (pc' := 83) d4_80 rfl (hw _ w10) Via.refl F_o_values ?_
  refine Go.iload (pc' := 85) d4_83 rfl rfl ?_
  refine Go.iaload (pc' := 86) d4_85 rfl (i := 1) (v := (.int x1)) A_a (by decide) rfl ?_
  by_cases hc2 : x2.toInt < x1.toInt
  · refine Go.icmpF (pc' := 89) (X := x2.toInt) (Y := x1.toInt) d4_86 rfl rfl rfl (hc2 : x2.toInt < x1.toInt) ?_
    refine Go.goto (pc' := 111) d4_89 (by decide) ?_
    refine Go.aloadN (pc' := 112) d4_111 rfl rfl rfl ?_
    refine Go.getF (pc' := 115) d4_112 rfl (hw _ w17) Via.refl F_o_size ?_
    refine Go.ifF (pc' := 118) (X := (2 : Int)) d4_115 rfl (by decide) (by decide : 0 < (2 : Int)) ?_
    refine Go.aloadN (pc' := 119) d4_118 rfl rfl rfl ?_
    refine Go.getF (pc' := 122) d4_119 rfl (hw _ w10) Via.refl F_o_values ?_
    refine Go.iloadN (pc' := 123) d4_122 rfl rfl ?_
    refine Go.iloadN (pc' := 124) d4_123 rfl rfl ?_
    refine Go.iastore (pc' := 125) (i := 0) (v := (.int x2)) (vs' := [(.int x2), (.int x1), (.int x2), (.int x3), (.int x4)]) d4_124 rfl A_a (by decide) (Nat.le_of_ble_eq_true rfl) rfl rfl ?_
    intro h3 L3 NL3 W3 B3
    replace N0 := NL3 _ N0 gn_a
    replace sz0 : n0 ≤ h3.size := by rw [W3.size]; exact sz0
    replace E_o := E_o.wr W3
    replace F_o_values := F_o_values.other W3 (Or.inl ne_o_a)
    replace F_o_size := F_o_size.other W3 (Or.inl ne_o_a)
    replace K0 := K0.wr W3 (Or.inl (by simp))
    clear A_a; have A_a := B3
    refine Go.iloadN (pc' := 126) d4_125 rfl rfl ?_
    refine Go.retI d4_126 rfl (by decide) (by decide) ?_
    exact ⟨x2, x1, x2, x3, x4, rfl, N0, K0, E_o, F_o_values, F_o_size, A_a, by omega, by omega, (by intro z; simp only [own_cons, own_nil] <;> omega)⟩
  · refine Go.icmpT (pc' := 92) (X := x2.toInt) (Y := x1.toInt) d4_86 (by decide) rfl rfl (hc2 : ¬ x2.toInt < x1.toInt) ?_
    refine Go.aloadN (pc' := 93) d4_92 rfl rfl rfl ?_
    refine Go.getF (pc' := 96) d4_93 rfl (hw _ w10) Via.refl F_o_values ?_
    refine Go.iloadN (pc' := 97) d4_96 rfl rfl ?_
    refine Go.aloadN (pc' := 98) d4_97 rfl rfl rfl ?_
    refine Go.getF (pc' := 101) d4_98 rfl (hw _ w10) Via.refl F_o_values ?_
    refine Go.iload (pc' := 103) d4_101 rfl rfl ?_
    refine Go.iaload (pc' := 104) d4_103 rfl (i := 1) (v := (.int x1)) A_a (by decide) rfl ?_
    refine Go.iastore (pc' := 105) (i := 0) (v := (.int x1)) (vs' := [(.int x1), (.int x1), (.int x2), (.int x3), (.int x4)]) d4_104 rfl A_a (by decide) (Nat.le_of_ble_eq_true rfl) rfl rfl ?_
    intro h4 L4 NL4 W4 B4
    replace N0 := NL4 _ N0 gn_a
    replace sz0 : n0 ≤ h4.size := by rw [W4.size]; exact sz0
    replace E_o := E_o.wr W4
    replace F_o_values := F_o_values.other W4 (Or.inl ne_o_a)
    replace F_o_size := F_o_size.other W4 (Or.inl ne_o_a)
    replace K0 := K0.wr W4 (Or.inl (by simp))
    clear A_a; have A_a := B4
    refine Go.iload (pc' := 107) d4_105 rfl rfl ?_
    refine Go.istoreN (pc' := 108) d4_107 rfl (Ls' := #[.val (.ref o), .val (.int x0), .val (.int x2), .val (.int (1 : Int32)), .val (.int (1 : Int32))]) rfl ?_
    refine Go.goto (pc' := 26) d4_108 (by decide) ?_
    refine Go.iconst (pc' := 27) d4_26 rfl (z := (2 : Int32)) (by decide) ?_
    refine Go.iloadN (pc' := 28) d4_27 rfl rfl ?_
    refine Go.imul (pc' := 29) d4_28 rfl (z := (2 : Int32)) (by decide) ?_
    refine Go.iconst (pc' := 30) d4_29 rfl (z := (1 : Int32)) (by decide) ?_
    refine Go.iadd (pc' := 31) d4_30 rfl (z := (3 : Int32)) (by decide) ?_
    refine Go.istore (pc' := 33) d4_31 rfl (Ls' := #[.val (.ref o), .val (.int x0), .val (.int x2), .val (.int (1 : Int32)), .val (.int (3 : Int32))]) rfl ?_
    refine Go.iload (pc' := 35) d4_33 rfl rfl ?_
    refine Go.aloadN (pc' := 36) d4_35 rfl rfl rfl ?_
    refine Go.getF (pc' := 39) d4_36 rfl (hw _ w17) Via.refl F_o_size ?_
    refine Go.icmpF (pc' := 42) (X := (3 : Int)) (Y := (2 : Int)) d4_39 rfl (by decide) (by decide) (by decide : ¬ (3 : Int) < (2 : Int)) ?_
    refine Go.goto (pc' := 111) d4_42 (by decide) ?_
    refine Go.aloadN (pc' := 112) d4_111 rfl rfl rfl ?_
    refine Go.getF (pc' := 115) d4_112 rfl (hw _ w17) Via.refl F_o_size ?_
    refine Go.ifF (pc' := 118) (X := (2 : Int)) d4_115 rfl (by decide) (by decide : 0 < (2 : Int)) ?_
    refine Go.aloadN (pc' := 119) d4_118 rfl rfl rfl ?_
    refine Go.getF (pc' := 122) d4_119 rfl (hw _ w10) Via.refl F_o_values ?_
    refine Go.iloadN (pc' := 123) d4_122 rfl rfl ?_
    refine Go.iloadN (pc' := 124) d4_123 rfl rfl ?_
    refine Go.iastore (pc' := 125) (i := 1) (v := (.int x2)) (vs' := [(.int x1), (.int x2), (.int x2), (.int x3), (.int x4)]) d4_124 rfl A_a (by decide) (Nat.le_of_ble_eq_true rfl) rfl rfl ?_
    intro h5 L5 NL5 W5 B5
    replace N0 := NL5 _ N0 gn_a
    replace sz0 : n0 ≤ h5.size := by rw [W5.size]; exact sz0
    replace E_o := E_o.wr W5
    replace F_o_values := F_o_values.other W5 (Or.inl ne_o_a)
    replace F_o_size := F_o_size.other W5 (Or.inl ne_o_a)
    replace K0 := K0.wr W5 (Or.inl (by simp))
    clear A_a; have A_a := B5
    refine Go.iloadN (pc' := 126) d4_125 rfl rfl ?_
    refine Go.retI d4_126 rfl (by decide) (by decide) ?_
    exact ⟨x1, x2, x2, x3, x4, rfl, N0, K0, E_o, F_o_values, F_o_size, A_a, by omega, by omega, (by intro z; simp only [own_cons, own_nil] <;> omega)⟩
set_option maxRecDepth 65536 in
set_option maxHeartbeats 40000000 in
theorem c_take2 {l : Launch} {Z : State} {a0 : Array Value} (hw : ∀ d ∈ tables_1, d.before a0 Z = true) {h0 : Heap} {n0 : Nat} (sz0 : n0 ≤ h0.size) (o a : Addr) (x0 x1 x2 x3 x4 : Int32) (gn_o : n0 ≤ o) (gn_a : n0 ≤ a) (E_o : Exa Z h0 o "com/example/even_keel/evenkeel/scale/IntMinHeap") (F_o_values : Fld Z h0 o "com/example/even_keel/evenkeel/scale/IntMinHeap" "values" "[I" (.ref a)) (F_o_size : Fld Z h0 o "com/example/even_keel/evenkeel/scale/IntMinHeap" "size" "I" (.int (2 : Int32))) (A_a : Al Z h0 a .int [(.int x0), (.int x1), (.int x2), (.int x3), (.int x4)]) (hH : x0.toInt ≤ x1.toInt) : Con l Z (⟨"com/example/even_keel/evenkeel/scale/IntMinHeap", "takeLeast", "()I"⟩ : MethodName) prog_167_method_6_code 5 (some .int) ({ frames := 0, cells := 0, slots := 0, locals := 0 } : Room) [] #[(.ref o)] h0 (fun v h L => ∃ y0 y1 y2 y3 y4 : Int32, v = some (.int x0) ∧ Fr n0 L ∧ Keep h0 h [o, a] ∧ Exa Z h o "com/example/even_keel/evenkeel/scale/IntMinHeap" ∧ Fld Z h o "com/example/even_keel/evenkeel/scale/IntMinHeap" "values" "[I" (.ref a) ∧ Fld Z h o "com/example/even_keel/evenkeel/scale/IntMinHeap" "size" "I" (.int (1 : Int32)) ∧ Al Z h a .int [(.int y0), (.int y1), (.int y2), (.int y3), (.int y4)] ∧ (True) ∧ (x0.toInt ≤ y0.toInt) ∧ ∀ z, own_c z [x0, x1] = (if x0.toInt = z.toInt then 1 else 0) + own_c z [y0]) := by
  refine con_of (Ls := #[.val (.ref o), .unset, .unset, .unset, .unset]) (plainFor_of_name (by first | (simp [plainName, overriddenIn]; done) | decide +kernel)) (fun m => by first | rfl | (simp [entryFrame, mkF, argsToLocals, Value.category]; done)) ?_
  have N0 : Fr n0 [] := Fr.nil _
  have K0 : Keep h0 h0 [o, a] := Keep.refl _ _
  have ne_o_a : o ≠ a := ne_al E_o (hw _ w2) A_a
  refine Go.aloadN (pc' := 1) d4_0 rfl rfl rfl ?_
  refine Go.getF (pc' := 4) d4_1 rfl (hw _ w10) Via.refl F_o_values ?_
  refine Go.iconst (pc' := 5) d4_4 rfl (z := (0 : Int32)) (by decide) ?_
  refine Go.iaload (pc' := 6) d4_5 rfl (i := 0) (v := (.int x0)) A_a (by decide) rfl ?_
  refine Go.istoreN (pc' := 7) d4_6 rfl (Ls' := #[.val (.ref o), .val (.int x0), .unset, .unset, .unset]) rfl ?_
  refine Go.aloadN (pc' := 8) d4_7 rfl rfl rfl ?_
  refine Go.getF (pc' := 11) d4_8 rfl (hw _ w10) Via.refl F_o_values ?_
  refine Go.aloadN (pc' := 12) d4_11 rfl rfl rfl ?_
  refine Go.dup (pc' := 13) d4_12 rfl rfl ?_
  refine Go.getF (pc' := 16) d4_13 rfl (hw _ w17) Via.refl F_o_size ?_
  refine Go.iconst (pc' := 17) d4_16 rfl (z := (1 : Int32)) (by decide) ?_
  refine Go.isub (pc' := 18) d4_17 rfl (z := (1 : Int32)) (by decide) ?_
  refine Go.dupX1 (pc' := 19) d4_18 rfl rfl rfl ?_
  refine Go.putF (pc' := 22) d4_19 rfl (hw _ w17) Via.refl F_o_size E_o (Or.inl (hw _ w18)) (hw _ w2) (ty := .int) (by decide) rfl rfl ?_
  intro h1 L1 NL1 W1
  replace F_o_size := F_o_size.same W1
  replace N0 := NL1 _ N0 gn_o
  replace sz0 : n0 ≤ h1.size := by rw [W1.size]; exact sz0
  replace E_o := E_o.wr W1
  replace F_o_values := F_o_values.other W1 (Or.inr (slot_ne (Or.inr (hw _ w11)) (Or.inl (hw _ w18)) (by decide) (t := (.array .int)) (t' := .int) (by decide) (by decide)))
  replace A_a := A_a.other W1 (Ne.symm ne_o_a)
  replace K0 := K0.wr W1 (Or.inl (by simp))
  refine Go.iaload (pc' := 23) d4_22 rfl (i := 1) (v := (.int x1)) A_a (by decide) rfl ?_
  refine Go.istoreN (pc' := 24) d4_23 rfl (Ls' := #[.val (.ref o), .val (.int x0), .val (.int x1), .unset, .unset]) rfl ?_
  refine Go.iconst (pc' := 25) d4_24 rfl (z := (0 : Int32)) (by decide) ?_
  refine Go.istoreN (pc' := 26) d4_25 rfl (Ls' := #[.val (.ref o), .val (.int x0), .val (.int x1), .val (.int (0 : Int32)), .unset]) rfl ?_
  refine Go.iconst (pc' := 27) d4_26 rfl (z := (2 : Int32)) (by decide) ?_
  refine Go.iloadN (pc' := 28) d4_27 rfl rfl ?_
  refine Go.imul (pc' := 29) d4_28 rfl (z := (0 : Int32)) (by decide) ?_
  refine Go.iconst (pc' := 30) d4_29 rfl (z := (1 : Int32)) (by decide) ?_
  refine Go.iadd (pc' := 31) d4_30 rfl (z := (1 : Int32)) (by decide) ?_
  refine Go.istore (pc' := 33) d4_31 rfl (Ls' := #[.val (.ref o), .val (.int x0), .val (.int x1), .val (.int (0 : Int32)), .val (.int (1 : Int32))]) rfl ?_
  refine Go.iload (pc' := 35) d4_33 rfl rfl ?_
  refine Go.aloadN (pc' := 36) d4_35 rfl rfl rfl ?_
  refine Go.getF (pc' := 39) d4_36 rfl (hw _ w17) Via.refl F_o_size ?_
  refine Go.icmpF (pc' := 42) (X := (1 : Int)) (Y := (1 : Int)) d4_39 rfl (by decide) (by decide) (by decide : ¬ (1 : Int) < (1 : Int)) ?_
  refine Go.goto (pc' := 111) d4_42 (by decide) ?_
  refine Go.aloadN (pc' := 112) d4_111 rfl rfl rfl ?_
  refine Go.getF (pc' := 115) d4_112 rfl (hw _ w17) Via.refl F_o_size ?_
  refine Go.ifF (pc' := 118) (X := (1 : Int)) d4_115 rfl (by decide) (by decide : 0 < (1 : Int)) ?_
  refine Go.aloadN (pc' := 119) d4_118 rfl rfl rfl ?_
  refine Go.getF (pc' := 122) d4_119 rfl (hw _ w10) Via.refl F_o_values ?_
  refine Go.iloadN (pc' := 123) d4_122 rfl rfl ?_
  refine Go.iloadN (pc' := 124) d4_123 rfl rfl ?_
  refine Go.iastore (pc' := 125) (i := 0) (v := (.int x1)) (vs' := [(.int x1), (.int x1), (.int x2), (.int x3), (.int x4)]) d4_124 rfl A_a (by decide) (Nat.le_of_ble_eq_true rfl) rfl rfl ?_
  intro h2 L2 NL2 W2 B2
  replace N0 := NL2 _ N0 gn_a
  replace sz0 : n0 ≤ h2.size := by rw [W2.size]; exact sz0
  replace E_o := E_o.wr W2
  replace F_o_values := F_o_values.other W2 (Or.inl ne_o_a)
  replace F_o_size := F_o_size.other W2 (Or.inl ne_o_a)
  replace K0 := K0.wr W2 (Or.inl (by simp))
  clear A_a; have A_a := B2
  refine Go.iloadN (pc' := 126) d4_125 rfl rfl ?_
  refine Go.retI d4_126 rfl (by decide) (by decide) ?_
  exact ⟨x1, x1, x2, x3, x4, rfl, N0, K0, E_o, F_o_values, F_o_size, A_a, trivial, by omega, (by intro z; simp only [own_cons, own_nil] <;> omega)⟩
set_option maxRecDepth 65536 in
set_option maxHeartbeats 40000000 in
theorem c_take1 {l : Launch} {Z : State} {a0 : Array Value} (hw : ∀ d ∈ tables_1, d.before a0 Z = true) {h0 : Heap} {n0 : Nat} (sz0 : n0 ≤ h0.size) (o a : Addr) (x0 x1 x2 x3 x4 : Int32) (gn_o : n0 ≤ o) (gn_a : n0 ≤ a) (E_o : Exa Z h0 o "com/example/even_keel/evenkeel/scale/IntMinHeap") (F_o_values : Fld Z h0 o "com/example/even_keel/evenkeel/scale/IntMinHeap" "values" "[I" (.ref a)) (F_o_size : Fld Z h0 o "com/example/even_keel/evenkeel/scale/IntMinHeap" "size" "I" (.int (1 : Int32))) (A_a : Al Z h0 a .int [(.int x0), (.int x1), (.int x2), (.int x3), (.int x4)]) (hH : True) : Con l Z (⟨"com/example/even_keel/evenkeel/scale/IntMinHeap", "takeLeast", "()I"⟩ : MethodName) prog_167_method_6_code 5 (some .int) ({ frames := 0, cells := 0, slots := 0, locals := 0 } : Room) [] #[(.ref o)] h0 (fun v h L => ∃ y0 y1 y2 y3 y4 : Int32, v = some (.int x0) ∧ Fr n0 L ∧ Keep h0 h [o, a] ∧ Exa Z h o "com/example/even_keel/evenkeel/scale/IntMinHeap" ∧ Fld Z h o "com/example/even_keel/evenkeel/scale/IntMinHeap" "values" "[I" (.ref a) ∧ Fld Z h o "com/example/even_keel/evenkeel/scale/IntMinHeap" "size" "I" (.int (0 : Int32)) ∧ Al Z h a .int [(.int y0), (.int y1), (.int y2), (.int y3), (.int y4)] ∧ (True) ∧ (True) ∧ ∀ z, own_c z [x0] = (if x0.toInt = z.toInt then 1 else 0) + own_c z []) := by
  refine con_of (Ls := #[.val (.ref o), .unset, .unset, .unset, .unset]) (plainFor_of_name (by first | (simp [plainName, overriddenIn]; done) | decide +kernel)) (fun m => by first | rfl | (simp [entryFrame, mkF, argsToLocals, Value.category]; done)) ?_
  have N0 : Fr n0 [] := Fr.nil _
  have K0 : Keep h0 h0 [o, a] := Keep.refl _ _
  have ne_o_a : o ≠ a := ne_al E_o (hw _ w2) A_a
  refine Go.aloadN (pc' := 1) d4_0 rfl rfl rfl ?_
  refine Go.getF (pc' := 4) d4_1 rfl (hw _ w10) Via.refl F_o_values ?_
  refine Go.iconst (pc' := 5) d4_4 rfl (z := (0 : Int32)) (by decide) ?_
  refine Go.iaload (pc' := 6) d4_5 rfl (i := 0) (v := (.int x0)) A_a (by decide) rfl ?_
  refine Go.istoreN (pc' := 7) d4_6 rfl (Ls' := #[.val (.ref o), .val (.int x0), .unset, .unset, .unset]) rfl ?_
  refine Go.aloadN (pc' := 8) d4_7 rfl rfl rfl ?_
  refine Go.getF (pc' := 11) d4_8 rfl (hw _ w10) Via.refl F_o_values ?_
  refine Go.aloadN (pc' := 12) d4_11 rfl rfl rfl ?_
  refine Go.dup (pc' := 13) d4_12 rfl rfl ?_
  refine Go.getF (pc' := 16) d4_13 rfl (hw _ w17) Via.refl F_o_size ?_
  refine Go.iconst (pc' := 17) d4_16 rfl (z := (1 : Int32)) (by decide) ?_
  refine Go.isub (pc' := 18) d4_17 rfl (z := (0 : Int32)) (by decide) ?_
  refine Go.dupX1 (pc' := 19) d4_18 rfl rfl rfl ?_
  refine Go.putF (pc' := 22) d4_19 rfl (hw _ w17) Via.refl F_o_size E_o (Or.inl (hw _ w18)) (hw _ w2) (ty := .int) (by decide) rfl rfl ?_
  intro h1 L1 NL1 W1
  replace F_o_size := F_o_size.same W1
  replace N0 := NL1 _ N0 gn_o
  replace sz0 : n0 ≤ h1.size := by rw [W1.size]; exact sz0
  replace E_o := E_o.wr W1
  replace F_o_values := F_o_values.other W1 (Or.inr (slot_ne (Or.inr (hw _ w11)) (Or.inl (hw _ w18)) (by decide) (t := (.array .int)) (t' := .int) (by decide) (by decide)))
  replace A_a := A_a.other W1 (Ne.symm ne_o_a)
  replace K0 := K0.wr W1 (Or.inl (by simp))
  refine Go.iaload (pc' := 23) d4_22 rfl (i := 0) (v := (.int x0)) A_a (by decide) rfl ?_
  refine Go.istoreN (pc' := 24) d4_23 rfl (Ls' := #[.val (.ref o), .val (.int x0), .val (.int x0), .unset, .unset]) rfl ?_
  refine Go.iconst (pc' := 25) d4_24 rfl (z := (0 : Int32)) (by decide) ?_
  refine Go.istoreN (pc' := 26) d4_25 rfl (Ls' := #[.val (.ref o), .val (.int x0), .val (.int x0), .val (.int (0 : Int32)), .unset]) rfl ?_
  refine Go.iconst (pc' := 27) d4_26 rfl (z := (2 : Int32)) (by decide) ?_
  refine Go.iloadN (pc' := 28) d4_27 rfl rfl ?_
  refine Go.imul (pc' := 29) d4_28 rfl (z := (0 : Int32)) (by decide) ?_
  refine Go.iconst (pc' := 30) d4_29 rfl (z := (1 : Int32)) (by decide) ?_
  refine Go.iadd (pc' := 31) d4_30 rfl (z := (1 : Int32)) (by decide) ?_
  refine Go.istore (pc' := 33) d4_31 rfl (Ls' := #[.val (.ref o), .val (.int x0), .val (.int x0), .val (.int (0 : Int32)), .val (.int (1 : Int32))]) rfl ?_
  refine Go.iload (pc' := 35) d4_33 rfl rfl ?_
  refine Go.aloadN (pc' := 36) d4_35 rfl rfl rfl ?_
  refine Go.getF (pc' := 39) d4_36 rfl (hw _ w17) Via.refl F_o_size ?_
  refine Go.icmpF (pc' := 42) (X := (1 : Int)) (Y := (0 : Int)) d4_39 rfl (by decide) (by decide) (by decide : ¬ (1 : Int) < (0 : Int)) ?_
  refine Go.goto (pc' := 111) d4_42 (by decide) ?_
  refine Go.aloadN (pc' := 112) d4_111 rfl rfl rfl ?_
  refine Go.getF (pc' := 115) d4_112 rfl (hw _ w17) Via.refl F_o_size ?_
  refine Go.ifT (pc' := 125) (X := (0 : Int)) d4_115 (by decide) (by decide) (by decide : ¬ 0 < (0 : Int)) ?_
  refine Go.iloadN (pc' := 126) d4_125 rfl rfl ?_
  refine Go.retI d4_126 rfl (by decide) (by decide) ?_
  exact ⟨x0, x1, x2, x3, x4, rfl, N0, K0, E_o, F_o_values, F_o_size, A_a, trivial, trivial, (by intro z; simp only [own_cons, own_nil] <;> omega)⟩
set_option maxRecDepth 65536 in
set_option maxHeartbeats 40000000 in
theorem c_count {l : Launch} {Z : State} {a0 : Array Value} (hw : ∀ d ∈ tables_1, d.before a0 Z = true) {h0 : Heap} (a : Addr) (u x0 x1 x2 x3 x4 r : Int32) (A_a : Al Z h0 a .int [(.int x0), (.int x1), (.int x2), (.int x3), (.int x4)]) (hr : own_k u (0 : Int32) [x0, x1, x2, x3, x4] = r) : Con l Z (⟨"com/example/even_keel/evenkeel/scale/IntMinHeapTakeLeastPinLaw", "count", "([II)I"⟩ : MethodName) method_2_code 3 (some .int) ({ frames := 0, cells := 0, slots := 0, locals := 0 } : Room) [] #[(.ref a), (.int u)] h0 (PQ h0 (some (.int r))) := by
  refine con_of (Ls := #[.val (.ref a), .val (.int u), .unset]) (plainFor_of_name (by first | (simp [plainName, overriddenIn]; done) | decide +kernel)) (fun m => by first | rfl | (simp [entryFrame, mkF, argsToLocals, Value.category]; done)) ?_
  have J57 : ∀ s : Int32, own_k u s [] = r → Go Z l ({ frames := 0, cells := 0, slots := 0, locals := 0 } : Room) method_2_code 3 "com/example/even_keel/evenkeel/scale/IntMinHeapTakeLeastPinLaw" (some .int) "count" 57 #[.val (.ref a), .val (.int u), .val (.int s)] [] h0 [] 0 0 (PQ h0 (some (.int r))) := by
    intro s hs
    refine Go.iloadN (pc' := 58) d5_57 rfl rfl ?_
    refine Go.retI d5_58 rfl (by decide) (by decide) ?_
    exact ⟨congrArg (fun q => some (Value.int q)) hs, rfl, rfl⟩
  have J46 : ∀ s : Int32, own_k u s [x4] = r → Go Z l ({ frames := 0, cells := 0, slots := 0, locals := 0 } : Room) method_2_code 3 "com/example/even_keel/evenkeel/scale/IntMinHeapTakeLeastPinLaw" (some .int) "count" 46 #[.val (.ref a), .val (.int u), .val (.int s)] [] h0 [] 0 0 (PQ h0 (some (.int r))) := by
    intro s hs
    refine Go.aloadN (pc' := 47) d5_46 rfl rfl rfl ?_
    refine Go.iconst (pc' := 48) d5_47 rfl (z := (4 : Int32)) (by decide) ?_
    refine Go.iaload (pc' := 49) d5_48 rfl (i := 4) (v := (.int x4)) A_a (by decide) rfl ?_
    refine Go.iloadN (pc' := 50) d5_49 rfl rfl ?_
    by_cases hc1 : x4.toInt = u.toInt
    · refine Go.icmpF (pc' := 53) (X := x4.toInt) (Y := u.toInt) d5_50 rfl rfl rfl (hc1 : x4.toInt = u.toInt) ?_
      refine Go.iloadN (pc' := 54) d5_53 rfl rfl ?_
      refine Go.iconst (pc' := 55) d5_54 rfl (z := (1 : Int32)) (by decide) ?_
      refine Go.iadd (pc' := 56) d5_55 rfl rfl ?_
      generalize hv_v2 : (s + (1 : Int32)) = v2
      refine Go.istoreN (pc' := 57) d5_56 rfl (Ls' := #[.val (.ref a), .val (.int u), .val (.int v2)]) rfl ?_
      refine J57 v2 ?_
      rw [← hs]
      show _ = own_k u (if _ then _ else _) _
      rw [if_pos hc1, hv_v2]
    · refine Go.icmpT (pc' := 57) (X := x4.toInt) (Y := u.toInt) d5_50 (by decide) rfl rfl (hc1 : ¬ x4.toInt = u.toInt) ?_
      refine J57 s ?_
      rw [← hs]
      show _ = own_k u (if _ then _ else _) _
      rw [if_neg hc1]
  have J35 : ∀ s : Int32, own_k u s [x3, x4] = r → Go Z l ({ frames := 0, cells := 0, slots := 0, locals := 0 } : Room) method_2_code 3 "com/example/even_keel/evenkeel/scale/IntMinHeapTakeLeastPinLaw" (some .int) "count" 35 #[.val (.ref a), .val (.int u), .val (.int s)] [] h0 [] 0 0 (PQ h0 (some (.int r))) := by
    intro s hs
    refine Go.aloadN (pc' := 36) d5_35 rfl rfl rfl ?_
    refine Go.iconst (pc' := 37) d5_36 rfl (z := (3 : Int32)) (by decide) ?_
    refine Go.iaload (pc' := 38) d5_37 rfl (i := 3) (v := (.int x3)) A_a (by decide) rfl ?_
    refine Go.iloadN (pc' := 39) d5_38 rfl rfl ?_
    by_cases hc3 : x3.toInt = u.toInt
    · refine Go.icmpF (pc' := 42) (X := x3.toInt) (Y := u.toInt) d5_39 rfl rfl rfl (hc3 : x3.toInt = u.toInt) ?_
      refine Go.iloadN (pc' := 43) d5_42 rfl rfl ?_
      refine Go.iconst (pc' := 44) d5_43 rfl (z := (1 : Int32)) (by decide) ?_
      refine Go.iadd (pc' := 45) d5_44 rfl rfl ?_
      generalize hv_v4 : (s + (1 : Int32)) = v4
      refine Go.istoreN (pc' := 46) d5_45 rfl (Ls' := #[.val (.ref a), .val (.int u), .val (.int v4)]) rfl ?_
      refine J46 v4 ?_
      rw [← hs]
      show _ = own_k u (if _ then _ else _) _
      rw [if_pos hc3, hv_v4]
    · refine Go.icmpT (pc' := 46) (X := x3.toInt) (Y := u.toInt) d5_39 (by decide) rfl rfl (hc3 : ¬ x3.toInt = u.toInt) ?_
      refine J46 s ?_
      rw [← hs]
      show _ = own_k u (if _ then _ else _) _
      rw [if_neg hc3]
  have J24 : ∀ s : Int32, own_k u s [x2, x3, x4] = r → Go Z l ({ frames := 0, cells := 0, slots := 0, locals := 0 } : Room) method_2_code 3 "com/example/even_keel/evenkeel/scale/IntMinHeapTakeLeastPinLaw" (some .int) "count" 24 #[.val (.ref a), .val (.int u), .val (.int s)] [] h0 [] 0 0 (PQ h0 (some (.int r))) := by
    intro s hs
    refine Go.aloadN (pc' := 25) d5_24 rfl rfl rfl ?_
    refine Go.iconst (pc' := 26) d5_25 rfl (z := (2 : Int32)) (by decide) ?_
    refine Go.iaload (pc' := 27) d5_26 rfl (i := 2) (v := (.int x2)) A_a (by decide) rfl ?_
    refine Go.iloadN (pc' := 28) d5_27 rfl rfl ?_
    by_cases hc5 : x2.toInt = u.toInt
    · refine Go.icmpF (pc' := 31) (X := x2.toInt) (Y := u.toInt) d5_28 rfl rfl rfl (hc5 : x2.toInt = u.toInt) ?_
      refine Go.iloadN (pc' := 32) d5_31 rfl rfl ?_
      refine Go.iconst (pc' := 33) d5_32 rfl (z := (1 : Int32)) (by decide) ?_
      refine Go.iadd (pc' := 34) d5_33 rfl rfl ?_
      generalize hv_v6 : (s + (1 : Int32)) = v6
      refine Go.istoreN (pc' := 35) d5_34 rfl (Ls' := #[.val (.ref a), .val (.int u), .val (.int v6)]) rfl ?_
      refine J35 v6 ?_
      rw [← hs]
      show _ = own_k u (if _ then _ else _) _
      rw [if_pos hc5, hv_v6]
    · refine Go.icmpT (pc' := 35) (X := x2.toInt) (Y := u.toInt) d5_28 (by decide) rfl rfl (hc5 : ¬ x2.toInt = u.toInt) ?_
      refine J35 s ?_
      rw [← hs]
      show _ = own_k u (if _ then _ else _) _
      rw [if_neg hc5]
  have J13 : ∀ s : Int32, own_k u s [x1, x2, x3, x4] = r → Go Z l ({ frames := 0, cells := 0, slots := 0, locals := 0 } : Room) method_2_code 3 "com/example/even_keel/evenkeel/scale/IntMinHeapTakeLeastPinLaw" (some .int) "count" 13 #[.val (.ref a), .val (.int u), .val (.int s)] [] h0 [] 0 0 (PQ h0 (some (.int r))) := by
    intro s hs
    refine Go.aloadN (pc' := 14) d5_13 rfl rfl rfl ?_
    refine Go.iconst (pc' := 15) d5_14 rfl (z := (1 : Int32)) (by decide) ?_
    refine Go.iaload (pc' := 16) d5_15 rfl (i := 1) (v := (.int x1)) A_a (by decide) rfl ?_
    refine Go.iloadN (pc' := 17) d5_16 rfl rfl ?_
    by_cases hc7 : x1.toInt = u.toInt
    · refine Go.icmpF (pc' := 20) (X := x1.toInt) (Y := u.toInt) d5_17 rfl rfl rfl (hc7 : x1.toInt = u.toInt) ?_
      refine Go.iloadN (pc' := 21) d5_20 rfl rfl ?_
      refine Go.iconst (pc' := 22) d5_21 rfl (z := (1 : Int32)) (by decide) ?_
      refine Go.iadd (pc' := 23) d5_22 rfl rfl ?_
      generalize hv_v8 : (s + (1 : Int32)) = v8
      refine Go.istoreN (pc' := 24) d5_23 rfl (Ls' := #[.val (.ref a), .val (.int u), .val (.int v8)]) rfl ?_
      refine J24 v8 ?_
      rw [← hs]
      show _ = own_k u (if _ then _ else _) _
      rw [if_pos hc7, hv_v8]
    · refine Go.icmpT (pc' := 24) (X := x1.toInt) (Y := u.toInt) d5_17 (by decide) rfl rfl (hc7 : ¬ x1.toInt = u.toInt) ?_
      refine J24 s ?_
      rw [← hs]
      show _ = own_k u (if _ then _ else _) _
      rw [if_neg hc7]
  refine Go.iconst (pc' := 1) d5_0 rfl (z := (0 : Int32)) (by decide) ?_
  refine Go.istoreN (pc' := 2) d5_1 rfl (Ls' := #[.val (.ref a), .val (.int u), .val (.int (0 : Int32))]) rfl ?_
  refine Go.aloadN (pc' := 3) d5_2 rfl rfl rfl ?_
  refine Go.iconst (pc' := 4) d5_3 rfl (z := (0 : Int32)) (by decide) ?_
  refine Go.iaload (pc' := 5) d5_4 rfl (i := 0) (v := (.int x0)) A_a (by decide) rfl ?_
  refine Go.iloadN (pc' := 6) d5_5 rfl rfl ?_
  by_cases hc9 : x0.toInt = u.toInt
  · refine Go.icmpF (pc' := 9) (X := x0.toInt) (Y := u.toInt) d5_6 rfl rfl rfl (hc9 : x0.toInt = u.toInt) ?_
    refine Go.iloadN (pc' := 10) d5_9 rfl rfl ?_
    refine Go.iconst (pc' := 11) d5_10 rfl (z := (1 : Int32)) (by decide) ?_
    refine Go.iadd (pc' := 12) d5_11 rfl (z := (1 : Int32)) (by decide) ?_
    refine Go.istoreN (pc' := 13) d5_12 rfl (Ls' := #[.val (.ref a), .val (.int u), .val (.int (1 : Int32))]) rfl ?_
    refine J13 (1 : Int32) ?_
    rw [← hr]
    show _ = own_k u (if _ then _ else _) _
    rw [if_pos hc9]
    rfl
  · refine Go.icmpT (pc' := 13) (X := x0.toInt) (Y := u.toInt) d5_6 (by decide) rfl rfl (hc9 : ¬ x0.toInt = u.toInt) ?_
    refine J13 (0 : Int32) ?_
    rw [← hr]
    show _ = own_k u (if _ then _ else _) _
    rw [if_neg hc9]
set_option maxRecDepth 65536 in
set_option maxHeartbeats 40000000 in
theorem law_con {l : Launch} {Z : State} {a0 : Array Value} (hw : ∀ d ∈ tables_1, d.before a0 Z = true) {h0 : Heap} {n0 : Nat} (sz0 : n0 ≤ h0.size) (a : Int32) (b : Int32) (d : Int32) (e : Int32) (f : Int32) : Con l Z x code maxLocals ret room_1 tables_1 #[(.int a), (.int b), (.int d), (.int e), (.int f)] h0 (LawQ n0) := by
  refine con_of (Ls := #[.val (.int a), .val (.int b), .val (.int d), .val (.int e), .val (.int f), .unset, .unset, .unset, .unset, .unset]) (plainFor_of_name (by first | (simp [plainName, overriddenIn]; done) | decide +kernel)) (fun m => by first | rfl | (simp [entryFrame, mkF, argsToLocals, Value.category, maxLocals]; done)) ?_
  have N0 : Fr n0 [] := Fr.nil _
  refine Go.iconst (pc' := 1) at_0 rfl (z := (5 : Int32)) (by decide) ?_
  refine Go.new_int (pc' := 3) (k' := 1) (n' := 5) (N := 5) (vs := [(.int (0 : Int32)), (.int (0 : Int32)), (.int (0 : Int32)), (.int (0 : Int32)), (.int (0 : Int32))]) at_1 rfl (hw _ w0) (by decide) rfl 5 (Nat.le_refl _) (by decide) (by decide) (by decide) rfl rfl ?_
  intro h1 inp ha_inp X1 A_inp
  have gn_inp : n0 ≤ inp := by rw [ha_inp]; exact sz0
  replace sz0 : n0 ≤ h1.size := Nat.le_trans sz0 X1.1
  refine Go.astore (pc' := 5) at_3 rfl rfl (Ls' := #[.val (.int a), .val (.int b), .val (.int d), .val (.int e), .val (.int f), .val (.ref inp), .unset, .unset, .unset, .unset]) rfl ?_
  refine Go.aload (pc' := 7) at_5 rfl rfl rfl ?_
  refine Go.iconst (pc' := 8) at_7 rfl (z := (0 : Int32)) (by decide) ?_
  refine Go.iloadN (pc' := 9) at_8 rfl rfl ?_
  refine Go.iastore (pc' := 10) (i := 0) (v := (.int a)) (vs' := [(.int a), (.int (0 : Int32)), (.int (0 : Int32)), (.int (0 : Int32)), (.int (0 : Int32))]) at_9 rfl A_inp (by decide) (Nat.le_of_ble_eq_true rfl) rfl rfl ?_
  intro h2 L2 NL2 W2 B2
  replace N0 := NL2 _ N0 gn_inp
  replace sz0 : n0 ≤ h2.size := by rw [W2.size]; exact sz0
  clear A_inp; have A_inp := B2
  refine Go.aload (pc' := 12) at_10 rfl rfl rfl ?_
  refine Go.iconst (pc' := 13) at_12 rfl (z := (1 : Int32)) (by decide) ?_
  refine Go.iloadN (pc' := 14) at_13 rfl rfl ?_
  refine Go.iastore (pc' := 15) (i := 1) (v := (.int b)) (vs' := [(.int a), (.int b), (.int (0 : Int32)), (.int (0 : Int32)), (.int (0 : Int32))]) at_14 rfl A_inp (by decide) (Nat.le_of_ble_eq_true rfl) rfl rfl ?_
  intro h3 L3 NL3 W3 B3
  replace N0 := NL3 _ N0 gn_inp
  replace sz0 : n0 ≤ h3.size := by rw [W3.size]; exact sz0
  clear A_inp; have A_inp := B3
  refine Go.aload (pc' := 17) at_15 rfl rfl rfl ?_
  refine Go.iconst (pc' := 18) at_17 rfl (z := (2 : Int32)) (by decide) ?_
  refine Go.iloadN (pc' := 19) at_18 rfl rfl ?_
  refine Go.iastore (pc' := 20) (i := 2) (v := (.int d)) (vs' := [(.int a), (.int b), (.int d), (.int (0 : Int32)), (.int (0 : Int32))]) at_19 rfl A_inp (by decide) (Nat.le_of_ble_eq_true rfl) rfl rfl ?_
  intro h4 L4 NL4 W4 B4
  replace N0 := NL4 _ N0 gn_inp
  replace sz0 : n0 ≤ h4.size := by rw [W4.size]; exact sz0
  clear A_inp; have A_inp := B4
  refine Go.aload (pc' := 22) at_20 rfl rfl rfl ?_
  refine Go.iconst (pc' := 23) at_22 rfl (z := (3 : Int32)) (by decide) ?_
  refine Go.iloadN (pc' := 24) at_23 rfl rfl ?_
  refine Go.iastore (pc' := 25) (i := 3) (v := (.int e)) (vs' := [(.int a), (.int b), (.int d), (.int e), (.int (0 : Int32))]) at_24 rfl A_inp (by decide) (Nat.le_of_ble_eq_true rfl) rfl rfl ?_
  intro h5 L5 NL5 W5 B5
  replace N0 := NL5 _ N0 gn_inp
  replace sz0 : n0 ≤ h5.size := by rw [W5.size]; exact sz0
  clear A_inp; have A_inp := B5
  refine Go.aload (pc' := 27) at_25 rfl rfl rfl ?_
  refine Go.iconst (pc' := 28) at_27 rfl (z := (4 : Int32)) (by decide) ?_
  refine Go.iload (pc' := 30) at_28 rfl rfl ?_
  refine Go.iastore (pc' := 31) (i := 4) (v := (.int f)) (vs' := [(.int a), (.int b), (.int d), (.int e), (.int f)]) at_30 rfl A_inp (by decide) (Nat.le_of_ble_eq_true rfl) rfl rfl ?_
  intro h6 L6 NL6 W6 B6
  replace N0 := NL6 _ N0 gn_inp
  replace sz0 : n0 ≤ h6.size := by rw [W6.size]; exact sz0
  clear A_inp; have A_inp := B6
  refine Go.newO (pc' := 34) (k' := 2) (n' := 7) at_31 rfl (hw _ w1) (hw _ w2) (hw _ w3) (by decide) (by decide) rfl rfl ?_
  intro h7 obj ha_obj X7 E_obj D7
  have ne_inp_obj : inp ≠ obj := Nat.ne_of_lt (by rw [ha_obj]; exact A_inp.lt)
  have gn_obj : n0 ≤ obj := by rw [ha_obj]; exact sz0
  replace sz0 : n0 ≤ h7.size := Nat.le_trans sz0 X7.1
  replace A_inp := A_inp.ext X7
  have F_obj_values : Fld Z h7 obj "com/example/even_keel/evenkeel/scale/IntMinHeap" "values" "[I" .null := D7 (Or.inr (hw _ w11)) (ty := (.array .int)) (by decide)
  have F_obj_size : Fld Z h7 obj "com/example/even_keel/evenkeel/scale/IntMinHeap" "size" "I" (.int (0 : Int32)) := D7 (Or.inl (hw _ w18)) (ty := .int) (by decide)
  refine Go.dup (pc' := 35) at_34 rfl rfl ?_
  refine Go.iconst (pc' := 36) at_35 rfl (z := (5 : Int32)) (by decide) ?_
  refine Go.callI (pc' := 39) (W := 1) (a := obj) (argsL := [(.int (5 : Int32))]) (rest := [(.ref obj)]) (k' := 3) (n' := 12) at_36 rfl rfl (hw _ w4) (hw _ w5) (hw _ w3) (hw _ w6) (by decide) (c_init hw sz0 obj gn_obj E_obj F_obj_values F_obj_size) (by decide) (by decide) (by decide) (by decide) rfl rfl rfl pd__28I_29V rfl rfl (Nat.le_of_eq rfl) ?_
  intro v8 h8 P8 L8 NL8 hq8
  obtain ⟨hv, rfl, ge_hv, N8, K8, E_obj_8, F_obj_values_8, F_obj_size_8, A_hv_8⟩ := hq8
  dsimp only [Option.toList, List.cons_append, List.nil_append]
  have ne_inp_hv : inp ≠ hv := Nat.ne_of_lt (Nat.lt_of_lt_of_le A_inp.lt ge_hv)
  have ne_obj_hv : obj ≠ hv := Nat.ne_of_lt (Nat.lt_of_lt_of_le E_obj.lt ge_hv)
  have gn_hv : n0 ≤ hv := Nat.le_trans sz0 ge_hv
  replace N0 := NL8 _ N0 N8
  replace sz0 : n0 ≤ h8.size := Nat.le_trans sz0 K8.1
  clear E_obj
  clear F_obj_values
  clear F_obj_size
  replace A_inp := A_inp.keep K8 (ninS ne_inp_obj nin0)
  have E_obj := E_obj_8; clear E_obj_8
  have F_obj_values := F_obj_values_8; clear F_obj_values_8
  have F_obj_size := F_obj_size_8; clear F_obj_size_8
  have A_hv := A_hv_8; clear A_hv_8
  refine Go.astore (pc' := 41) at_39 rfl rfl (Ls' := #[.val (.int a), .val (.int b), .val (.int d), .val (.int e), .val (.int f), .val (.ref inp), .val (.ref obj), .unset, .unset, .unset]) rfl ?_
  refine Go.aload (pc' := 43) at_41 rfl rfl rfl ?_
  refine Go.iloadN (pc' := 44) at_43 rfl rfl ?_
  refine Go.callV (pc' := 47) (W := 0) (a := obj) (argsL := [(.int a)]) (rest := []) (k' := 3) (n' := 12) at_44 rfl (hw _ w12) (hw _ w13) (nf_sel (hw _ w15)) (hw _ w15) (hw _ w14) (hw _ w3) (hw _ w16) E_obj (by decide) (c_add0 hw sz0 obj hv a (0 : Int32) (0 : Int32) (0 : Int32) (0 : Int32) (0 : Int32) gn_obj gn_hv E_obj F_obj_values F_obj_size A_hv trivial) (by decide) (by decide) (by decide) (by decide) rfl rfl rfl pd__28I_29V rfl rfl (Nat.le_of_eq rfl) ?_
  intro v9 h9 P9 L9 NL9 hq9
  obtain ⟨y1_0, y1_1, y1_2, y1_3, y1_4, rfl, N9, K9, E_obj_9, F_obj_values_9, F_obj_size_9, A_hv_9, hH1, hC1⟩ := hq9
  dsimp only [Option.toList, List.cons_append, List.nil_append]
  replace N0 := NL9 _ N0 N9
  replace sz0 : n0 ≤ h9.size := Nat.le_trans sz0 K9.1
  clear E_obj
  clear F_obj_values
  clear F_obj_size
  replace A_inp := A_inp.keep K9 (ninS ne_inp_obj (ninS ne_inp_hv nin0))
  clear A_hv
  have E_obj := E_obj_9; clear E_obj_9
  have F_obj_values := F_obj_values_9; clear F_obj_values_9
  have F_obj_size := F_obj_size_9; clear F_obj_size_9
  have A_hv := A_hv_9; clear A_hv_9
  refine Go.aload (pc' := 49) at_47 rfl rfl rfl ?_
  refine Go.iloadN (pc' := 50) at_49 rfl rfl ?_
  refine Go.callV (pc' := 53) (W := 0) (a := obj) (argsL := [(.int b)]) (rest := []) (k' := 3) (n' := 12) at_50 rfl (hw _ w12) (hw _ w13) (nf_sel (hw _ w15)) (hw _ w15) (hw _ w14) (hw _ w3) (hw _ w16) E_obj (by decide) (c_add1 hw sz0 obj hv b y1_0 y1_1 y1_2 y1_3 y1_4 gn_obj gn_hv E_obj F_obj_values F_obj_size A_hv trivial) (by decide) (by decide) (by decide) (by decide) rfl rfl rfl pd__28I_29V rfl rfl (Nat.le_of_eq rfl) ?_
  intro v10 h10 P10 L10 NL10 hq10
  obtain ⟨y2_0, y2_1, y2_2, y2_3, y2_4, rfl, N10, K10, E_obj_10, F_obj_values_10, F_obj_size_10, A_hv_10, hH2, hC2⟩ := hq10
  dsimp only [Option.toList, List.cons_append, List.nil_append]
  replace N0 := NL10 _ N0 N10
  replace sz0 : n0 ≤ h10.size := Nat.le_trans sz0 K10.1
  clear E_obj
  clear F_obj_values
  clear F_obj_size
  replace A_inp := A_inp.keep K10 (ninS ne_inp_obj (ninS ne_inp_hv nin0))
  clear A_hv
  have E_obj := E_obj_10; clear E_obj_10
  have F_obj_values := F_obj_values_10; clear F_obj_values_10
  have F_obj_size := F_obj_size_10; clear F_obj_size_10
  have A_hv := A_hv_10; clear A_hv_10
  refine Go.aload (pc' := 55) at_53 rfl rfl rfl ?_
  refine Go.iloadN (pc' := 56) at_55 rfl rfl ?_
  refine Go.callV (pc' := 59) (W := 0) (a := obj) (argsL := [(.int d)]) (rest := []) (k' := 3) (n' := 12) at_56 rfl (hw _ w12) (hw _ w13) (nf_sel (hw _ w15)) (hw _ w15) (hw _ w14) (hw _ w3) (hw _ w16) E_obj (by decide) (c_add2 hw sz0 obj hv d y2_0 y2_1 y2_2 y2_3 y2_4 gn_obj gn_hv E_obj F_obj_values F_obj_size A_hv hH2) (by decide) (by decide) (by decide) (by decide) rfl rfl rfl pd__28I_29V rfl rfl (Nat.le_of_eq rfl) ?_
  intro v11 h11 P11 L11 NL11 hq11
  obtain ⟨y3_0, y3_1, y3_2, y3_3, y3_4, rfl, N11, K11, E_obj_11, F_obj_values_11, F_obj_size_11, A_hv_11, hH3, hC3⟩ := hq11
  dsimp only [Option.toList, List.cons_append, List.nil_append]
  replace N0 := NL11 _ N0 N11
  replace sz0 : n0 ≤ h11.size := Nat.le_trans sz0 K11.1
  clear E_obj
  clear F_obj_values
  clear F_obj_size
  replace A_inp := A_inp.keep K11 (ninS ne_inp_obj (ninS ne_inp_hv nin0))
  clear A_hv
  have E_obj := E_obj_11; clear E_obj_11
  have F_obj_values := F_obj_values_11; clear F_obj_values_11
  have F_obj_size := F_obj_size_11; clear F_obj_size_11
  have A_hv := A_hv_11; clear A_hv_11
  refine Go.aload (pc' := 61) at_59 rfl rfl rfl ?_
  refine Go.iloadN (pc' := 62) at_61 rfl rfl ?_
  refine Go.callV (pc' := 65) (W := 0) (a := obj) (argsL := [(.int e)]) (rest := []) (k' := 3) (n' := 12) at_62 rfl (hw _ w12) (hw _ w13) (nf_sel (hw _ w15)) (hw _ w15) (hw _ w14) (hw _ w3) (hw _ w16) E_obj (by decide) (c_add3 hw sz0 obj hv e y3_0 y3_1 y3_2 y3_3 y3_4 gn_obj gn_hv E_obj F_obj_values F_obj_size A_hv hH3) (by decide) (by decide) (by decide) (by decide) rfl rfl rfl pd__28I_29V rfl rfl (Nat.le_of_eq rfl) ?_
  intro v12 h12 P12 L12 NL12 hq12
  obtain ⟨y4_0, y4_1, y4_2, y4_3, y4_4, rfl, N12, K12, E_obj_12, F_obj_values_12, F_obj_size_12, A_hv_12, hH4, hC4⟩ := hq12
  dsimp only [Option.toList, List.cons_append, List.nil_append]
  replace N0 := NL12 _ N0 N12
  replace sz0 : n0 ≤ h12.size := Nat.le_trans sz0 K12.1
  clear E_obj
  clear F_obj_values
  clear F_obj_size
  replace A_inp := A_inp.keep K12 (ninS ne_inp_obj (ninS ne_inp_hv nin0))
  clear A_hv
  have E_obj := E_obj_12; clear E_obj_12
  have F_obj_values := F_obj_values_12; clear F_obj_values_12
  have F_obj_size := F_obj_size_12; clear F_obj_size_12
  have A_hv := A_hv_12; clear A_hv_12
  refine Go.aload (pc' := 67) at_65 rfl rfl rfl ?_
  refine Go.iload (pc' := 69) at_67 rfl rfl ?_
  refine Go.callV (pc' := 72) (W := 0) (a := obj) (argsL := [(.int f)]) (rest := []) (k' := 3) (n' := 12) at_69 rfl (hw _ w12) (hw _ w13) (nf_sel (hw _ w15)) (hw _ w15) (hw _ w14) (hw _ w3) (hw _ w16) E_obj (by decide) (c_add4 hw sz0 obj hv f y4_0 y4_1 y4_2 y4_3 y4_4 gn_obj gn_hv E_obj F_obj_values F_obj_size A_hv hH4) (by decide) (by decide) (by decide) (by decide) rfl rfl rfl pd__28I_29V rfl rfl (Nat.le_of_eq rfl) ?_
  intro v13 h13 P13 L13 NL13 hq13
  obtain ⟨y5_0, y5_1, y5_2, y5_3, y5_4, rfl, N13, K13, E_obj_13, F_obj_values_13, F_obj_size_13, A_hv_13, hH5, hC5⟩ := hq13
  dsimp only [Option.toList, List.cons_append, List.nil_append]
  replace N0 := NL13 _ N0 N13
  replace sz0 : n0 ≤ h13.size := Nat.le_trans sz0 K13.1
  clear E_obj
  clear F_obj_values
  clear F_obj_size
  replace A_inp := A_inp.keep K13 (ninS ne_inp_obj (ninS ne_inp_hv nin0))
  clear A_hv
  have E_obj := E_obj_13; clear E_obj_13
  have F_obj_values := F_obj_values_13; clear F_obj_values_13
  have F_obj_size := F_obj_size_13; clear F_obj_size_13
  have A_hv := A_hv_13; clear A_hv_13
  refine Go.iconst (pc' := 73) at_72 rfl (z := (5 : Int32)) (by decide) ?_
  refine Go.new_int (pc' := 75) (k' := 4) (n' := 17) (N := 5) (vs := [(.int (0 : Int32)), (.int (0 : Int32)), (.int (0 : Int32)), (.int (0 : Int32)), (.int (0 : Int32))]) at_73 rfl (hw _ w0) (by decide) rfl 5 (Nat.le_refl _) (by decide) (by decide) (by decide) rfl rfl ?_
  intro h14 outp ha_outp X14 A_outp
  have ne_hv_outp : hv ≠ outp := Nat.ne_of_lt (by rw [ha_outp]; exact A_hv.lt)
  have ne_inp_outp : inp ≠ outp := Nat.ne_of_lt (by rw [ha_outp]; exact A_inp.lt)
  have ne_obj_outp : obj ≠ outp := Nat.ne_of_lt (by rw [ha_outp]; exact E_obj.lt)
  have gn_outp : n0 ≤ outp := by rw [ha_outp]; exact sz0
  replace sz0 : n0 ≤ h14.size := Nat.le_trans sz0 X14.1
  replace E_obj := E_obj.ext X14
  replace F_obj_values := F_obj_values.ext X14
  replace F_obj_size := F_obj_size.ext X14
  replace A_inp := A_inp.ext X14
  replace A_hv := A_hv.ext X14
  refine Go.astore (pc' := 77) at_75 rfl rfl (Ls' := #[.val (.int a), .val (.int b), .val (.int d), .val (.int e), .val (.int f), .val (.ref inp), .val (.ref obj), .val (.ref outp), .unset, .unset]) rfl ?_
  refine Go.aload (pc' := 79) at_77 rfl rfl rfl ?_
  refine Go.iconst (pc' := 80) at_79 rfl (z := (0 : Int32)) (by decide) ?_
  refine Go.aload (pc' := 82) at_80 rfl rfl rfl ?_
  refine Go.callV (pc' := 85) (W := 2) (a := obj) (argsL := []) (rest := [(.int (0 : Int32)), (.ref outp)]) (k' := 4) (n' := 17) at_82 rfl (hw _ w19) (hw _ w20) (nf_sel (hw _ w22)) (hw _ w22) (hw _ w21) (hw _ w3) (hw _ w23) E_obj (by decide) (c_take5 hw sz0 obj hv y5_0 y5_1 y5_2 y5_3 y5_4 gn_obj gn_hv E_obj F_obj_values F_obj_size A_hv hH5) (by decide) (by decide) (by decide) (by decide) rfl rfl rfl pd__28_29I rfl rfl (Nat.le_of_eq rfl) ?_
  intro v15 h15 P15 L15 NL15 hq15
  obtain ⟨y6_0, y6_1, y6_2, y6_3, y6_4, rfl, N15, K15, E_obj_15, F_obj_values_15, F_obj_size_15, A_hv_15, hH6, hL6, hC6⟩ := hq15
  dsimp only [Option.toList, List.cons_append, List.nil_append]
  replace N0 := NL15 _ N0 N15
  replace sz0 : n0 ≤ h15.size := Nat.le_trans sz0 K15.1
  clear E_obj
  clear F_obj_values
  clear F_obj_size
  replace A_inp := A_inp.keep K15 (ninS ne_inp_obj (ninS ne_inp_hv nin0))
  clear A_hv
  replace A_outp := A_outp.keep K15 (ninS (Ne.symm ne_obj_outp) (ninS (Ne.symm ne_hv_outp) nin0))
  have E_obj := E_obj_15; clear E_obj_15
  have F_obj_values := F_obj_values_15; clear F_obj_values_15
  have F_obj_size := F_obj_size_15; clear F_obj_size_15
  have A_hv := A_hv_15; clear A_hv_15
  refine Go.iastore (pc' := 86) (i := 0) (v := (.int y5_0)) (vs' := [(.int y5_0), (.int (0 : Int32)), (.int (0 : Int32)), (.int (0 : Int32)), (.int (0 : Int32))]) at_85 rfl A_outp (by decide) (Nat.le_of_ble_eq_true rfl) rfl rfl ?_
  intro h16 L16 NL16 W16 B16
  replace N0 := NL16 _ N0 gn_outp
  replace sz0 : n0 ≤ h16.size := by rw [W16.size]; exact sz0
  replace E_obj := E_obj.wr W16
  replace F_obj_values := F_obj_values.other W16 (Or.inl ne_obj_outp)
  replace F_obj_size := F_obj_size.other W16 (Or.inl ne_obj_outp)
  replace A_inp := A_inp.other W16 ne_inp_outp
  replace A_hv := A_hv.other W16 ne_hv_outp
  clear A_outp; have A_outp := B16
  refine Go.aload (pc' := 88) at_86 rfl rfl rfl ?_
  refine Go.iconst (pc' := 89) at_88 rfl (z := (1 : Int32)) (by decide) ?_
  refine Go.aload (pc' := 91) at_89 rfl rfl rfl ?_
  refine Go.callV (pc' := 94) (W := 2) (a := obj) (argsL := []) (rest := [(.int (1 : Int32)), (.ref outp)]) (k' := 4) (n' := 17) at_91 rfl (hw _ w19) (hw _ w20) (nf_sel (hw _ w22)) (hw _ w22) (hw _ w21) (hw _ w3) (hw _ w23) E_obj (by decide) (c_take4 hw sz0 obj hv y6_0 y6_1 y6_2 y6_3 y6_4 gn_obj gn_hv E_obj F_obj_values F_obj_size A_hv hH6) (by decide) (by decide) (by decide) (by decide) rfl rfl rfl pd__28_29I rfl rfl (Nat.le_of_eq rfl) ?_
  intro v17 h17 P17 L17 NL17 hq17
  obtain ⟨y7_0, y7_1, y7_2, y7_3, y7_4, rfl, N17, K17, E_obj_17, F_obj_values_17, F_obj_size_17, A_hv_17, hH7, hL7, hC7⟩ := hq17
  dsimp only [Option.toList, List.cons_append, List.nil_append]
  replace N0 := NL17 _ N0 N17
  replace sz0 : n0 ≤ h17.size := Nat.le_trans sz0 K17.1
  clear E_obj
  clear F_obj_values
  clear F_obj_size
  replace A_inp := A_inp.keep K17 (ninS ne_inp_obj (ninS ne_inp_hv nin0))
  clear A_hv
  replace A_outp := A_outp.keep K17 (ninS (Ne.symm ne_obj_outp) (ninS (Ne.symm ne_hv_outp) nin0))
  have E_obj := E_obj_17; clear E_obj_17
  have F_obj_values := F_obj_values_17; clear F_obj_values_17
  have F_obj_size := F_obj_size_17; clear F_obj_size_17
  have A_hv := A_hv_17; clear A_hv_17
  refine Go.iastore (pc' := 95) (i := 1) (v := (.int y6_0)) (vs' := [(.int y5_0), (.int y6_0), (.int (0 : Int32)), (.int (0 : Int32)), (.int (0 : Int32))]) at_94 rfl A_outp (by decide) (Nat.le_of_ble_eq_true rfl) rfl rfl ?_
  intro h18 L18 NL18 W18 B18
  replace N0 := NL18 _ N0 gn_outp
  replace sz0 : n0 ≤ h18.size := by rw [W18.size]; exact sz0
  replace E_obj := E_obj.wr W18
  replace F_obj_values := F_obj_values.other W18 (Or.inl ne_obj_outp)
  replace F_obj_size := F_obj_size.other W18 (Or.inl ne_obj_outp)
  replace A_inp := A_inp.other W18 ne_inp_outp
  replace A_hv := A_hv.other W18 ne_hv_outp
  clear A_outp; have A_outp := B18
  refine Go.aload (pc' := 97) at_95 rfl rfl rfl ?_
  refine Go.iconst (pc' := 98) at_97 rfl (z := (2 : Int32)) (by decide) ?_
  refine Go.aload (pc' := 100) at_98 rfl rfl rfl ?_
  refine Go.callV (pc' := 103) (W := 2) (a := obj) (argsL := []) (rest := [(.int (2 : Int32)), (.ref outp)]) (k' := 4) (n' := 17) at_100 rfl (hw _ w19) (hw _ w20) (nf_sel (hw _ w22)) (hw _ w22) (hw _ w21) (hw _ w3) (hw _ w23) E_obj (by decide) (c_take3 hw sz0 obj hv y7_0 y7_1 y7_2 y7_3 y7_4 gn_obj gn_hv E_obj F_obj_values F_obj_size A_hv hH7) (by decide) (by decide) (by decide) (by decide) rfl rfl rfl pd__28_29I rfl rfl (Nat.le_of_eq rfl) ?_
  intro v19 h19 P19 L19 NL19 hq19
  obtain ⟨y8_0, y8_1, y8_2, y8_3, y8_4, rfl, N19, K19, E_obj_19, F_obj_values_19, F_obj_size_19, A_hv_19, hH8, hL8, hC8⟩ := hq19
  dsimp only [Option.toList, List.cons_append, List.nil_append]
  replace N0 := NL19 _ N0 N19
  replace sz0 : n0 ≤ h19.size := Nat.le_trans sz0 K19.1
  clear E_obj
  clear F_obj_values
  clear F_obj_size
  replace A_inp := A_inp.keep K19 (ninS ne_inp_obj (ninS ne_inp_hv nin0))
  clear A_hv
  replace A_outp := A_outp.keep K19 (ninS (Ne.symm ne_obj_outp) (ninS (Ne.symm ne_hv_outp) nin0))
  have E_obj := E_obj_19; clear E_obj_19
  have F_obj_values := F_obj_values_19; clear F_obj_values_19
  have F_obj_size := F_obj_size_19; clear F_obj_size_19
  have A_hv := A_hv_19; clear A_hv_19
  refine Go.iastore (pc' := 104) (i := 2) (v := (.int y7_0)) (vs' := [(.int y5_0), (.int y6_0), (.int y7_0), (.int (0 : Int32)), (.int (0 : Int32))]) at_103 rfl A_outp (by decide) (Nat.le_of_ble_eq_true rfl) rfl rfl ?_
  intro h20 L20 NL20 W20 B20
  replace N0 := NL20 _ N0 gn_outp
  replace sz0 : n0 ≤ h20.size := by rw [W20.size]; exact sz0
  replace E_obj := E_obj.wr W20
  replace F_obj_values := F_obj_values.other W20 (Or.inl ne_obj_outp)
  replace F_obj_size := F_obj_size.other W20 (Or.inl ne_obj_outp)
  replace A_inp := A_inp.other W20 ne_inp_outp
  replace A_hv := A_hv.other W20 ne_hv_outp
  clear A_outp; have A_outp := B20
  refine Go.aload (pc' := 106) at_104 rfl rfl rfl ?_
  refine Go.iconst (pc' := 107) at_106 rfl (z := (3 : Int32)) (by decide) ?_
  refine Go.aload (pc' := 109) at_107 rfl rfl rfl ?_
  refine Go.callV (pc' := 112) (W := 2) (a := obj) (argsL := []) (rest := [(.int (3 : Int32)), (.ref outp)]) (k' := 4) (n' := 17) at_109 rfl (hw _ w19) (hw _ w20) (nf_sel (hw _ w22)) (hw _ w22) (hw _ w21) (hw _ w3) (hw _ w23) E_obj (by decide) (c_take2 hw sz0 obj hv y8_0 y8_1 y8_2 y8_3 y8_4 gn_obj gn_hv E_obj F_obj_values F_obj_size A_hv hH8) (by decide) (by decide) (by decide) (by decide) rfl rfl rfl pd__28_29I rfl rfl (Nat.le_of_eq rfl) ?_
  intro v21 h21 P21 L21 NL21 hq21
  obtain ⟨y9_0, y9_1, y9_2, y9_3, y9_4, rfl, N21, K21, E_obj_21, F_obj_values_21, F_obj_size_21, A_hv_21, hH9, hL9, hC9⟩ := hq21
  dsimp only [Option.toList, List.cons_append, List.nil_append]
  replace N0 := NL21 _ N0 N21
  replace sz0 : n0 ≤ h21.size := Nat.le_trans sz0 K21.1
  clear E_obj
  clear F_obj_values
  clear F_obj_size
  replace A_inp := A_inp.keep K21 (ninS ne_inp_obj (ninS ne_inp_hv nin0))
  clear A_hv
  replace A_outp := A_outp.keep K21 (ninS (Ne.symm ne_obj_outp) (ninS (Ne.symm ne_hv_outp) nin0))
  have E_obj := E_obj_21; clear E_obj_21
  have F_obj_values := F_obj_values_21; clear F_obj_values_21
  have F_obj_size := F_obj_size_21; clear F_obj_size_21
  have A_hv := A_hv_21; clear A_hv_21
  refine Go.iastore (pc' := 113) (i := 3) (v := (.int y8_0)) (vs' := [(.int y5_0), (.int y6_0), (.int y7_0), (.int y8_0), (.int (0 : Int32))]) at_112 rfl A_outp (by decide) (Nat.le_of_ble_eq_true rfl) rfl rfl ?_
  intro h22 L22 NL22 W22 B22
  replace N0 := NL22 _ N0 gn_outp
  replace sz0 : n0 ≤ h22.size := by rw [W22.size]; exact sz0
  replace E_obj := E_obj.wr W22
  replace F_obj_values := F_obj_values.other W22 (Or.inl ne_obj_outp)
  replace F_obj_size := F_obj_size.other W22 (Or.inl ne_obj_outp)
  replace A_inp := A_inp.other W22 ne_inp_outp
  replace A_hv := A_hv.other W22 ne_hv_outp
  clear A_outp; have A_outp := B22
  refine Go.aload (pc' := 115) at_113 rfl rfl rfl ?_
  refine Go.iconst (pc' := 116) at_115 rfl (z := (4 : Int32)) (by decide) ?_
  refine Go.aload (pc' := 118) at_116 rfl rfl rfl ?_
  refine Go.callV (pc' := 121) (W := 2) (a := obj) (argsL := []) (rest := [(.int (4 : Int32)), (.ref outp)]) (k' := 4) (n' := 17) at_118 rfl (hw _ w19) (hw _ w20) (nf_sel (hw _ w22)) (hw _ w22) (hw _ w21) (hw _ w3) (hw _ w23) E_obj (by decide) (c_take1 hw sz0 obj hv y9_0 y9_1 y9_2 y9_3 y9_4 gn_obj gn_hv E_obj F_obj_values F_obj_size A_hv trivial) (by decide) (by decide) (by decide) (by decide) rfl rfl rfl pd__28_29I rfl rfl (Nat.le_of_eq rfl) ?_
  intro v23 h23 P23 L23 NL23 hq23
  obtain ⟨y10_0, y10_1, y10_2, y10_3, y10_4, rfl, N23, K23, E_obj_23, F_obj_values_23, F_obj_size_23, A_hv_23, hH10, hL10, hC10⟩ := hq23
  dsimp only [Option.toList, List.cons_append, List.nil_append]
  replace N0 := NL23 _ N0 N23
  replace sz0 : n0 ≤ h23.size := Nat.le_trans sz0 K23.1
  clear E_obj
  clear F_obj_values
  clear F_obj_size
  replace A_inp := A_inp.keep K23 (ninS ne_inp_obj (ninS ne_inp_hv nin0))
  clear A_hv
  replace A_outp := A_outp.keep K23 (ninS (Ne.symm ne_obj_outp) (ninS (Ne.symm ne_hv_outp) nin0))
  have E_obj := E_obj_23; clear E_obj_23
  have F_obj_values := F_obj_values_23; clear F_obj_values_23
  have F_obj_size := F_obj_size_23; clear F_obj_size_23
  have A_hv := A_hv_23; clear A_hv_23
  refine Go.iastore (pc' := 122) (i := 4) (v := (.int y9_0)) (vs' := [(.int y5_0), (.int y6_0), (.int y7_0), (.int y8_0), (.int y9_0)]) at_121 rfl A_outp (by decide) (Nat.le_of_ble_eq_true rfl) rfl rfl ?_
  intro h24 L24 NL24 W24 B24
  replace N0 := NL24 _ N0 gn_outp
  replace sz0 : n0 ≤ h24.size := by rw [W24.size]; exact sz0
  replace E_obj := E_obj.wr W24
  replace F_obj_values := F_obj_values.other W24 (Or.inl ne_obj_outp)
  replace F_obj_size := F_obj_size.other W24 (Or.inl ne_obj_outp)
  replace A_inp := A_inp.other W24 ne_inp_outp
  replace A_hv := A_hv.other W24 ne_hv_outp
  clear A_outp; have A_outp := B24
  refine Go.aload (pc' := 124) at_122 rfl rfl rfl ?_
  refine Go.iconst (pc' := 125) at_124 rfl (z := (0 : Int32)) (by decide) ?_
  refine Go.iaload (pc' := 126) at_125 rfl (i := 0) (v := (.int y5_0)) A_outp (by decide) rfl ?_
  refine Go.aload (pc' := 128) at_126 rfl rfl rfl ?_
  refine Go.iconst (pc' := 129) at_128 rfl (z := (1 : Int32)) (by decide) ?_
  refine Go.iaload (pc' := 130) at_129 rfl (i := 1) (v := (.int y6_0)) A_outp (by decide) rfl ?_
  refine Go.icmpF (pc' := 133) (X := y5_0.toInt) (Y := y6_0.toInt) at_130 rfl rfl rfl (by omega : ¬ y6_0.toInt < y5_0.toInt) ?_
  refine Go.aload (pc' := 135) at_133 rfl rfl rfl ?_
  refine Go.iconst (pc' := 136) at_135 rfl (z := (1 : Int32)) (by decide) ?_
  refine Go.iaload (pc' := 137) at_136 rfl (i := 1) (v := (.int y6_0)) A_outp (by decide) rfl ?_
  refine Go.aload (pc' := 139) at_137 rfl rfl rfl ?_
  refine Go.iconst (pc' := 140) at_139 rfl (z := (2 : Int32)) (by decide) ?_
  refine Go.iaload (pc' := 141) at_140 rfl (i := 2) (v := (.int y7_0)) A_outp (by decide) rfl ?_
  refine Go.icmpF (pc' := 144) (X := y6_0.toInt) (Y := y7_0.toInt) at_141 rfl rfl rfl (by omega : ¬ y7_0.toInt < y6_0.toInt) ?_
  refine Go.aload (pc' := 146) at_144 rfl rfl rfl ?_
  refine Go.iconst (pc' := 147) at_146 rfl (z := (2 : Int32)) (by decide) ?_
  refine Go.iaload (pc' := 148) at_147 rfl (i := 2) (v := (.int y7_0)) A_outp (by decide) rfl ?_
  refine Go.aload (pc' := 150) at_148 rfl rfl rfl ?_
  refine Go.iconst (pc' := 151) at_150 rfl (z := (3 : Int32)) (by decide) ?_
  refine Go.iaload (pc' := 152) at_151 rfl (i := 3) (v := (.int y8_0)) A_outp (by decide) rfl ?_
  refine Go.icmpF (pc' := 155) (X := y7_0.toInt) (Y := y8_0.toInt) at_152 rfl rfl rfl (by omega : ¬ y8_0.toInt < y7_0.toInt) ?_
  refine Go.aload (pc' := 157) at_155 rfl rfl rfl ?_
  refine Go.iconst (pc' := 158) at_157 rfl (z := (3 : Int32)) (by decide) ?_
  refine Go.iaload (pc' := 159) at_158 rfl (i := 3) (v := (.int y8_0)) A_outp (by decide) rfl ?_
  refine Go.aload (pc' := 161) at_159 rfl rfl rfl ?_
  refine Go.iconst (pc' := 162) at_161 rfl (z := (4 : Int32)) (by decide) ?_
  refine Go.iaload (pc' := 163) at_162 rfl (i := 4) (v := (.int y9_0)) A_outp (by decide) rfl ?_
  refine Go.icmpF (pc' := 166) (X := y8_0.toInt) (Y := y9_0.toInt) at_163 rfl rfl rfl (by omega : ¬ y9_0.toInt < y8_0.toInt) ?_
  refine Go.iconst (pc' := 167) at_166 rfl (z := (1 : Int32)) (by decide) ?_
  refine Go.goto (pc' := 171) at_167 (by decide) ?_
  refine Go.istore (pc' := 173) at_171 rfl (Ls' := #[.val (.int a), .val (.int b), .val (.int d), .val (.int e), .val (.int f), .val (.ref inp), .val (.ref obj), .val (.ref outp), .val (.int (1 : Int32)), .unset]) rfl ?_
  have hp : ∀ z, own_c z [y5_0, y6_0, y7_0, y8_0, y9_0] = own_c z [a, b, d, e, f] := by
    intro z
    have q1 := hC1 z
    have q2 := hC2 z
    have q3 := hC3 z
    have q4 := hC4 z
    have q5 := hC5 z
    have q6 := hC6 z
    have q7 := hC7 z
    have q8 := hC8 z
    have q9 := hC9 z
    have q10 := hC10 z
    simp only [own_cons, own_nil] at *
    omega
  refine Go.aload (pc' := 175) at_173 rfl rfl rfl ?_
  refine Go.iloadN (pc' := 176) at_175 rfl rfl ?_
  refine Go.callS0 (pc' := 179) (W := 0) (argsL := [(.ref outp), (.int a)]) (rest := []) (v0 := some (.int (own_k a (0 : Int32) [y5_0, y6_0, y7_0, y8_0, y9_0]))) (st2 := [(.int (own_k a (0 : Int32) [y5_0, y6_0, y7_0, y8_0, y9_0]))]) at_176 rfl (hw _ w24) (hw _ w25) (hw _ w26) (hw _ w27) (by decide) (c_count hw outp a y5_0 y6_0 y7_0 y8_0 y9_0 (own_k a (0 : Int32) [y5_0, y6_0, y7_0, y8_0, y9_0]) A_outp rfl) (by decide) (by decide) rfl rfl rfl (by decide) (by decide) rfl pd__28_5bII_29I rfl rfl (Nat.le_of_eq rfl) ?_
  refine Go.aload (pc' := 181) at_179 rfl rfl rfl ?_
  refine Go.iloadN (pc' := 182) at_181 rfl rfl ?_
  refine Go.callS0 (pc' := 185) (W := 1) (argsL := [(.ref inp), (.int a)]) (rest := [(.int (own_k a (0 : Int32) [y5_0, y6_0, y7_0, y8_0, y9_0]))]) (v0 := some (.int (own_k a (0 : Int32) [a, b, d, e, f]))) (st2 := [(.int (own_k a (0 : Int32) [a, b, d, e, f])), (.int (own_k a (0 : Int32) [y5_0, y6_0, y7_0, y8_0, y9_0]))]) at_182 rfl (hw _ w24) (hw _ w25) (hw _ w26) (hw _ w27) (by decide) (c_count hw inp a a b d e f (own_k a (0 : Int32) [a, b, d, e, f]) A_inp rfl) (by decide) (by decide) rfl rfl rfl (by decide) (by decide) rfl pd__28_5bII_29I rfl rfl (Nat.le_of_eq rfl) ?_
  refine Go.icmpF (pc' := 188) (X := (own_k a (0 : Int32) [y5_0, y6_0, y7_0, y8_0, y9_0]).toInt) (Y := (own_k a (0 : Int32) [a, b, d, e, f]).toInt) at_185 rfl rfl rfl (by rw [own_kc, own_kc, hp] : (own_k a (0 : Int32) [y5_0, y6_0, y7_0, y8_0, y9_0]).toInt = (own_k a (0 : Int32) [a, b, d, e, f]).toInt) ?_
  refine Go.aload (pc' := 190) at_188 rfl rfl rfl ?_
  refine Go.iloadN (pc' := 191) at_190 rfl rfl ?_
  refine Go.callS0 (pc' := 194) (W := 0) (argsL := [(.ref outp), (.int b)]) (rest := []) (v0 := some (.int (own_k b (0 : Int32) [y5_0, y6_0, y7_0, y8_0, y9_0]))) (st2 := [(.int (own_k b (0 : Int32) [y5_0, y6_0, y7_0, y8_0, y9_0]))]) at_191 rfl (hw _ w24) (hw _ w25) (hw _ w26) (hw _ w27) (by decide) (c_count hw outp b y5_0 y6_0 y7_0 y8_0 y9_0 (own_k b (0 : Int32) [y5_0, y6_0, y7_0, y8_0, y9_0]) A_outp rfl) (by decide) (by decide) rfl rfl rfl (by decide) (by decide) rfl pd__28_5bII_29I rfl rfl (Nat.le_of_eq rfl) ?_
  refine Go.aload (pc' := 196) at_194 rfl rfl rfl ?_
  refine Go.iloadN (pc' := 197) at_196 rfl rfl ?_
  refine Go.callS0 (pc' := 200) (W := 1) (argsL := [(.ref inp), (.int b)]) (rest := [(.int (own_k b (0 : Int32) [y5_0, y6_0, y7_0, y8_0, y9_0]))]) (v0 := some (.int (own_k b (0 : Int32) [a, b, d, e, f]))) (st2 := [(.int (own_k b (0 : Int32) [a, b, d, e, f])), (.int (own_k b (0 : Int32) [y5_0, y6_0, y7_0, y8_0, y9_0]))]) at_197 rfl (hw _ w24) (hw _ w25) (hw _ w26) (hw _ w27) (by decide) (c_count hw inp b a b d e f (own_k b (0 : Int32) [a, b, d, e, f]) A_inp rfl) (by decide) (by decide) rfl rfl rfl (by decide) (by decide) rfl pd__28_5bII_29I rfl rfl (Nat.le_of_eq rfl) ?_
  refine Go.icmpF (pc' := 203) (X := (own_k b (0 : Int32) [y5_0, y6_0, y7_0, y8_0, y9_0]).toInt) (Y := (own_k b (0 : Int32) [a, b, d, e, f]).toInt) at_200 rfl rfl rfl (by rw [own_kc, own_kc, hp] : (own_k b (0 : Int32) [y5_0, y6_0, y7_0, y8_0, y9_0]).toInt = (own_k b (0 : Int32) [a, b, d, e, f]).toInt) ?_
  refine Go.aload (pc' := 205) at_203 rfl rfl rfl ?_
  refine Go.iloadN (pc' := 206) at_205 rfl rfl ?_
  refine Go.callS0 (pc' := 209) (W := 0) (argsL := [(.ref outp), (.int d)]) (rest := []) (v0 := some (.int (own_k d (0 : Int32) [y5_0, y6_0, y7_0, y8_0, y9_0]))) (st2 := [(.int (own_k d (0 : Int32) [y5_0, y6_0, y7_0, y8_0, y9_0]))]) at_206 rfl (hw _ w24) (hw _ w25) (hw _ w26) (hw _ w27) (by decide) (c_count hw outp d y5_0 y6_0 y7_0 y8_0 y9_0 (own_k d (0 : Int32) [y5_0, y6_0, y7_0, y8_0, y9_0]) A_outp rfl) (by decide) (by decide) rfl rfl rfl (by decide) (by decide) rfl pd__28_5bII_29I rfl rfl (Nat.le_of_eq rfl) ?_
  refine Go.aload (pc' := 211) at_209 rfl rfl rfl ?_
  refine Go.iloadN (pc' := 212) at_211 rfl rfl ?_
  refine Go.callS0 (pc' := 215) (W := 1) (argsL := [(.ref inp), (.int d)]) (rest := [(.int (own_k d (0 : Int32) [y5_0, y6_0, y7_0, y8_0, y9_0]))]) (v0 := some (.int (own_k d (0 : Int32) [a, b, d, e, f]))) (st2 := [(.int (own_k d (0 : Int32) [a, b, d, e, f])), (.int (own_k d (0 : Int32) [y5_0, y6_0, y7_0, y8_0, y9_0]))]) at_212 rfl (hw _ w24) (hw _ w25) (hw _ w26) (hw _ w27) (by decide) (c_count hw inp d a b d e f (own_k d (0 : Int32) [a, b, d, e, f]) A_inp rfl) (by decide) (by decide) rfl rfl rfl (by decide) (by decide) rfl pd__28_5bII_29I rfl rfl (Nat.le_of_eq rfl) ?_
  refine Go.icmpF (pc' := 218) (X := (own_k d (0 : Int32) [y5_0, y6_0, y7_0, y8_0, y9_0]).toInt) (Y := (own_k d (0 : Int32) [a, b, d, e, f]).toInt) at_215 rfl rfl rfl (by rw [own_kc, own_kc, hp] : (own_k d (0 : Int32) [y5_0, y6_0, y7_0, y8_0, y9_0]).toInt = (own_k d (0 : Int32) [a, b, d, e, f]).toInt) ?_
  refine Go.aload (pc' := 220) at_218 rfl rfl rfl ?_
  refine Go.iloadN (pc' := 221) at_220 rfl rfl ?_
  refine Go.callS0 (pc' := 224) (W := 0) (argsL := [(.ref outp), (.int e)]) (rest := []) (v0 := some (.int (own_k e (0 : Int32) [y5_0, y6_0, y7_0, y8_0, y9_0]))) (st2 := [(.int (own_k e (0 : Int32) [y5_0, y6_0, y7_0, y8_0, y9_0]))]) at_221 rfl (hw _ w24) (hw _ w25) (hw _ w26) (hw _ w27) (by decide) (c_count hw outp e y5_0 y6_0 y7_0 y8_0 y9_0 (own_k e (0 : Int32) [y5_0, y6_0, y7_0, y8_0, y9_0]) A_outp rfl) (by decide) (by decide) rfl rfl rfl (by decide) (by decide) rfl pd__28_5bII_29I rfl rfl (Nat.le_of_eq rfl) ?_
  refine Go.aload (pc' := 226) at_224 rfl rfl rfl ?_
  refine Go.iloadN (pc' := 227) at_226 rfl rfl ?_
  refine Go.callS0 (pc' := 230) (W := 1) (argsL := [(.ref inp), (.int e)]) (rest := [(.int (own_k e (0 : Int32) [y5_0, y6_0, y7_0, y8_0, y9_0]))]) (v0 := some (.int (own_k e (0 : Int32) [a, b, d, e, f]))) (st2 := [(.int (own_k e (0 : Int32) [a, b, d, e, f])), (.int (own_k e (0 : Int32) [y5_0, y6_0, y7_0, y8_0, y9_0]))]) at_227 rfl (hw _ w24) (hw _ w25) (hw _ w26) (hw _ w27) (by decide) (c_count hw inp e a b d e f (own_k e (0 : Int32) [a, b, d, e, f]) A_inp rfl) (by decide) (by decide) rfl rfl rfl (by decide) (by decide) rfl pd__28_5bII_29I rfl rfl (Nat.le_of_eq rfl) ?_
  refine Go.icmpF (pc' := 233) (X := (own_k e (0 : Int32) [y5_0, y6_0, y7_0, y8_0, y9_0]).toInt) (Y := (own_k e (0 : Int32) [a, b, d, e, f]).toInt) at_230 rfl rfl rfl (by rw [own_kc, own_kc, hp] : (own_k e (0 : Int32) [y5_0, y6_0, y7_0, y8_0, y9_0]).toInt = (own_k e (0 : Int32) [a, b, d, e, f]).toInt) ?_
  refine Go.aload (pc' := 235) at_233 rfl rfl rfl ?_
  refine Go.iload (pc' := 237) at_235 rfl rfl ?_
  refine Go.callS0 (pc' := 240) (W := 0) (argsL := [(.ref outp), (.int f)]) (rest := []) (v0 := some (.int (own_k f (0 : Int32) [y5_0, y6_0, y7_0, y8_0, y9_0]))) (st2 := [(.int (own_k f (0 : Int32) [y5_0, y6_0, y7_0, y8_0, y9_0]))]) at_237 rfl (hw _ w24) (hw _ w25) (hw _ w26) (hw _ w27) (by decide) (c_count hw outp f y5_0 y6_0 y7_0 y8_0 y9_0 (own_k f (0 : Int32) [y5_0, y6_0, y7_0, y8_0, y9_0]) A_outp rfl) (by decide) (by decide) rfl rfl rfl (by decide) (by decide) rfl pd__28_5bII_29I rfl rfl (Nat.le_of_eq rfl) ?_
  refine Go.aload (pc' := 242) at_240 rfl rfl rfl ?_
  refine Go.iload (pc' := 244) at_242 rfl rfl ?_
  refine Go.callS0 (pc' := 247) (W := 1) (argsL := [(.ref inp), (.int f)]) (rest := [(.int (own_k f (0 : Int32) [y5_0, y6_0, y7_0, y8_0, y9_0]))]) (v0 := some (.int (own_k f (0 : Int32) [a, b, d, e, f]))) (st2 := [(.int (own_k f (0 : Int32) [a, b, d, e, f])), (.int (own_k f (0 : Int32) [y5_0, y6_0, y7_0, y8_0, y9_0]))]) at_244 rfl (hw _ w24) (hw _ w25) (hw _ w26) (hw _ w27) (by decide) (c_count hw inp f a b d e f (own_k f (0 : Int32) [a, b, d, e, f]) A_inp rfl) (by decide) (by decide) rfl rfl rfl (by decide) (by decide) rfl pd__28_5bII_29I rfl rfl (Nat.le_of_eq rfl) ?_
  refine Go.icmpF (pc' := 250) (X := (own_k f (0 : Int32) [y5_0, y6_0, y7_0, y8_0, y9_0]).toInt) (Y := (own_k f (0 : Int32) [a, b, d, e, f]).toInt) at_247 rfl rfl rfl (by rw [own_kc, own_kc, hp] : (own_k f (0 : Int32) [y5_0, y6_0, y7_0, y8_0, y9_0]).toInt = (own_k f (0 : Int32) [a, b, d, e, f]).toInt) ?_
  refine Go.iconst (pc' := 251) at_250 rfl (z := (1 : Int32)) (by decide) ?_
  refine Go.goto (pc' := 255) at_251 (by decide) ?_
  refine Go.istore (pc' := 257) at_255 rfl (Ls' := #[.val (.int a), .val (.int b), .val (.int d), .val (.int e), .val (.int f), .val (.ref inp), .val (.ref obj), .val (.ref outp), .val (.int (1 : Int32)), .val (.int (1 : Int32))]) rfl ?_
  refine Go.iload (pc' := 259) at_257 rfl rfl ?_
  refine Go.ifF (pc' := 262) (X := (1 : Int)) at_259 rfl (by decide) (by decide : ¬ (1 : Int) = 0) ?_
  refine Go.iload (pc' := 264) at_262 rfl rfl ?_
  refine Go.ifF (pc' := 267) (X := (1 : Int)) at_264 rfl (by decide) (by decide : ¬ (1 : Int) = 0) ?_
  refine Go.iconst (pc' := 268) at_267 rfl (z := (1 : Int32)) (by decide) ?_
  refine Go.goto (pc' := 272) at_268 (by decide) ?_
  refine Go.retZ at_272 rfl (by decide) (by decide) (by decide) ?_
  exact ⟨rfl, N0⟩
set_option maxRecDepth 65536 in
set_option maxHeartbeats 40000000 in
theorem comes_1 {Post : Tables → Env → Array Value → State → Outcome → State → Prop} (hpost : ∀ tb e args s v u, (limb_1_1.after args s (.returned v) u = true ∧ limb_1_2.after args s (.returned v) u = true ∧ True) → FrameEnd s (.returned v) u (Jvm.fieldLocs frame_1_writes args s ++ Jvm.arrayLocs frame_1_arrays args s ++ Jvm.staticLocs frame_1_statics s) 16 128 → Post tb e args s (.returned v) u) :
    ArmFor flags0 classFile x code maxLocals ret World_1 tables_1 room_1 Calls_1 rest_1 Pre_1 Post := by
  intro l hfl _ _ p e ha hc hk s m args below hf hA hF happ hP
  obtain ⟨hcalls, hrest, hpre⟩ := hP
  obtain ⟨-, -, -, hnamed, -, -, -, hat⟩ := (Spec.applies_iff hf).mp happ
  obtain ⟨hg, hn⟩ := and_e (Cond.before_iff.mp (show (Jvm.Cond.and given_1 narrow_1).before args s = true from hpre))
  obtain ⟨h1, h2⟩ := and_e hg
  obtain ⟨w0, w1, w2, w3, w4, rfl⟩ : ∃ w0 w1 w2 w3 w4 : Value, args = #[w0, w1, w2, w3, w4] := by
    have hs : args.size = 5 := by simpa [Cond.value, given_1] using h1
    obtain ⟨L⟩ := args
    match L, hs with
    | [w0, w1, w2, w3, w4], _ => exact ⟨w0, w1, w2, w3, w4, rfl⟩
  have hw := fun d (hd : d ∈ tables_1) => atoms_spec (ws := Jvm.Cond.code x code maxLocals ret :: tables_1) hat d (List.mem_cons_of_mem _ hd)
  obtain ⟨q0, h2⟩ := and_e h2
  obtain ⟨i0, e0⟩ := is_v q0
  obtain rfl : w0 = (.int i0) := Option.some.inj e0
  obtain ⟨q1, h2⟩ := and_e h2
  obtain ⟨i1, e1⟩ := is_v q1
  obtain rfl : w1 = (.int i1) := Option.some.inj e1
  obtain ⟨q2, h2⟩ := and_e h2
  obtain ⟨i2, e2⟩ := is_v q2
  obtain rfl : w2 = (.int i2) := Option.some.inj e2
  obtain ⟨q3, h2⟩ := and_e h2
  obtain ⟨i3, e3⟩ := is_v q3
  obtain rfl : w3 = (.int i3) := Option.some.inj e3
  have q4 := h2
  obtain ⟨i4, e4⟩ := is_v q4
  obtain rfl : w4 = (.int i4) := Option.some.inj e4
  obtain ⟨n, o, h1, h2, h3, _, L, rfl, ⟨rfl, N⟩, hq⟩ := law_con (l := l) hw (h0 := s.heap) (n0 := s.heap.size) (Nat.le_refl _) i0 i1 i2 i3 i4 p e ha hc hk s m _ below hf ((Spec.applies_iff_loose hf).mp happ).1 ⟨rfl, State.Warmed39.refl s, rfl⟩ trivial
  refine ⟨n, _, h1, h2, h3, hpost _ _ _ _ _ _ ⟨Cond.after_iff.mpr rfl, Cond.after_iff.mpr (eq_i res_at (Term.int_eval (1)) rfl), trivial⟩ ⟨hq.1, hq.2.1, (hq.2.2.sift fun y hy => Or.inr (N y hy)).mono (by decide) (by decide)⟩⟩
theorem main_1_1 : Claimed_1_1 := comes_1 fun _ _ _ _ _ _ h hF => ⟨h.1, hF⟩
theorem main_1_2 : Claimed_1_2 := comes_1 fun _ _ _ _ _ _ h hF => ⟨h.2.1, hF⟩
end Jvm.Pilot.@@N@@
namespace Jvm.Pilot.@@N@@
open Jvm Jvm.ClassFile Sem Op Lib Jvm.Free Jvm.Stand Jvm.Pilot.@@N@@.Jvm.D
/-! MADE BY PROGRAM (witnessworld.py) out of the Statement's table words and the real class files: 9 classes; the members and pool entries that the words name. The judged class is class 1, her method 2. -/
namespace start1
open Jvm.ClassFile
def u (s : String) : CpInfo := .utf8 (stringToUtf16 s)
/-- a pool by its gaps: so many unusable entries, then the entry; so many at the end -/
def gap : Nat → List CpInfo → List CpInfo
  | 0, r => r
  | n + 1, r => .unusable :: gap n r
def poolList (es : List (Nat × CpInfo)) (last : Nat) : List CpInfo := es.foldr (fun e r => gap e.1 (e.2 :: r)) (gap last [])
def pool (es : List (Nat × CpInfo)) (last : Nat) : Array CpInfo := ⟨poolList es last⟩
def fileOf (pool : Array CpInfo) (this : Nat) (attrs : Array Attribute := #[]) (ms : Array MethodInfo := #[]) (fl : Nat := 33) (sup : Nat := 0) (ifs : Array Nat := #[]) (fds : Array FieldInfo := #[]) : ClassFile where
  minorVersion := 0
  majorVersion := 65
  constantPool := pool
  accessFlags := fl
  thisClass := this
  superClass := sup
  interfaces := ifs
  fields := fds
  methods := ms
  attributes := attrs
def plain (name : String) (sup : Option ClassId) : Class where
  name := name
  kind := .ordinary
  loader := none
  accessFlags := 33
  super := sup
  interfaces := #[]
  cf := none
  fields := #[]
  methods := #[]
  instanceTypes := #[]
  staticTypes := #[]
  resolved := #[]
  callSites := []
  init := .initialized
  statics := none
  mirror := none

def pool0 : Array CpInfo := pool [(5, u "<init>"), (0, u "()V"), (1, .class_ 10), (1, u "java/lang/Object")] 113

def k0c0 : Code := { maxStack := 0, maxLocals := 1, code := object_method_1_code, exceptionTable := #[], attributes := #[] }
def k0m0 : Method := { name := "<init>", desc := "()V", sig := { parameters := [], returnType := none }, accessFlags := 1, code := some k0c0 }
/-- java/lang/Object -/
def k0 : Class := { plain "java/lang/Object" none with
  accessFlags := 33
  interfaces := #[]
  cf := some (fileOf pool0 8 #[] #[{ accessFlags := 1, nameIndex := 5, descriptorIndex := 6, attributes := #[] }] 33 0 #[] #[])
  fields := #[]
  methods := #[k0m0]
  instanceTypes := #[]
  staticTypes := #[]
  resolved := Array.replicate 124 none
  statics := none }

def pool1 : Array CpInfo := pool [(2, .class_ 4), (1, u "java/lang/Object"), (0, u "<init>"), (0, u "()V"), (0, .class_ 8), (0, u "com/example/even_keel/evenkeel/scale/IntMinHeap"), (0, .methodref 7 10), (0, .nameAndType 5 11), (0, u "(I)V"), (0, .methodref 7 13), (0, .nameAndType 14 11), (0, u "add"), (0, .methodref 7 16), (0, .nameAndType 17 18), (0, u "takeLeast"), (0, u "()I"), (0, .methodref 20 21), (0, .class_ 22), (0, .nameAndType 23 24), (0, u "com/example/even_keel/evenkeel/scale/IntMinHeapTakeLeastPinLaw"), (0, u "count"), (0, u "([II)I"), (3, u "law"), (0, u "(IIIII)Z")] 4

def k1m0 : Method := { name := "<init>", desc := "()V", sig := { parameters := [], returnType := none }, accessFlags := 1, code := none }
def k1c1 : Code := { maxStack := 2, maxLocals := 3, code := method_2_code, exceptionTable := #[], attributes := #[] }
def k1m1 : Method := { name := "count", desc := "([II)I", sig := { parameters := [(.array .int), .int], returnType := some .int }, accessFlags := 10, code := some k1c1 }
def k1c2 : Code := { maxStack := 3, maxLocals := 10, code := code, exceptionTable := #[], attributes := #[] }
def k1m2 : Method := { name := "law", desc := "(IIIII)Z", sig := { parameters := [.int, .int, .int, .int, .int], returnType := some .boolean }, accessFlags := 9, code := some k1c2 }
/-- com/example/even_keel/evenkeel/scale/IntMinHeapTakeLeastPinLaw -/
def k1 : Class := { plain "com/example/even_keel/evenkeel/scale/IntMinHeapTakeLeastPinLaw" (some 0) with
  accessFlags := 49
  interfaces := #[]
  cf := some (fileOf pool1 20 #[] #[{ accessFlags := 1, nameIndex := 5, descriptorIndex := 6, attributes := #[] }, { accessFlags := 10, nameIndex := 23, descriptorIndex := 24, attributes := #[] }, { accessFlags := 9, nameIndex := 28, descriptorIndex := 29, attributes := #[] }] 49 2 #[] #[])
  fields := #[]
  methods := #[k1m0, k1m1, k1m2]
  instanceTypes := #[]
  staticTypes := #[]
  resolved := Array.replicate 34 none
  statics := none }

def pool2 : Array CpInfo := pool [(1, .methodref 2 3), (0, .class_ 4), (0, .nameAndType 5 6), (0, u "java/lang/Object"), (0, u "<init>"), (0, u "()V"), (0, .fieldref 8 9), (0, .class_ 10), (0, .nameAndType 11 12), (0, u "com/example/even_keel/evenkeel/scale/IntMinHeap"), (0, u "values"), (0, u "[I"), (0, .fieldref 8 14), (0, .nameAndType 15 16), (0, u "size"), (0, u "I"), (0, u "(I)V"), (7, u "()I"), (0, u "add"), (0, u "takeLeast")] 2

def k2c0 : Code := { maxStack := 2, maxLocals := 2, code := prog_167_method_1_code, exceptionTable := #[], attributes := #[] }
def k2m0 : Method := { name := "<init>", desc := "(I)V", sig := { parameters := [.int], returnType := none }, accessFlags := 0, code := some k2c0 }
def k2c1 : Code := { maxStack := 4, maxLocals := 4, code := prog_167_method_5_code, exceptionTable := #[], attributes := #[] }
def k2m1 : Method := { name := "add", desc := "(I)V", sig := { parameters := [.int], returnType := none }, accessFlags := 0, code := some k2c1 }
def k2c2 : Code := { maxStack := 4, maxLocals := 5, code := prog_167_method_6_code, exceptionTable := #[], attributes := #[] }
def k2m2 : Method := { name := "takeLeast", desc := "()I", sig := { parameters := [], returnType := some .int }, accessFlags := 0, code := some k2c2 }
/-- com/example/even_keel/evenkeel/scale/IntMinHeap -/
def k2 : Class := { plain "com/example/even_keel/evenkeel/scale/IntMinHeap" (some 0) with
  accessFlags := 48
  interfaces := #[]
  cf := some (fileOf pool2 8 #[] #[{ accessFlags := 0, nameIndex := 5, descriptorIndex := 17, attributes := #[] }, { accessFlags := 0, nameIndex := 26, descriptorIndex := 17, attributes := #[] }, { accessFlags := 0, nameIndex := 27, descriptorIndex := 25, attributes := #[] }] 48 2 #[] #[{ accessFlags := 18, nameIndex := 11, descriptorIndex := 12, attributes := #[] }, { accessFlags := 2, nameIndex := 15, descriptorIndex := 16, attributes := #[] }])
  fields := #[{ name := "values", type := (.array .int), accessFlags := 18, slot := 0, constantValue := 0 }, { name := "size", type := .int, accessFlags := 2, slot := 1, constantValue := 0 }]
  methods := #[k2m0, k2m1, k2m2]
  instanceTypes := #[(.array .int), .int]
  staticTypes := #[]
  resolved := Array.replicate 30 none
  statics := none }

def pool3 : Array CpInfo := pool [(1, u "java/lang/Cloneable"), (0, .class_ 1), (0, u "java/lang/Object"), (0, .class_ 3)] 3

/-- java/lang/Cloneable -/
def k3 : Class := { plain "java/lang/Cloneable" (some 0) with
  accessFlags := 1537
  interfaces := #[]
  cf := some (fileOf pool3 2 #[] #[] 1537 4 #[] #[])
  fields := #[]
  methods := #[]
  instanceTypes := #[]
  staticTypes := #[]
  resolved := Array.replicate 8 none
  statics := none }

def pool4 : Array CpInfo := pool [(1, u "java/io/Serializable"), (0, .class_ 1), (0, u "java/lang/Object"), (0, .class_ 3)] 3

/-- java/io/Serializable -/
def k4 : Class := { plain "java/io/Serializable" (some 0) with
  accessFlags := 1537
  interfaces := #[]
  cf := some (fileOf pool4 2 #[] #[] 1537 4 #[] #[])
  fields := #[]
  methods := #[]
  instanceTypes := #[]
  staticTypes := #[]
  resolved := Array.replicate 8 none
  statics := none }

/-- the primitive byte -/
def k5 : Class := { plain "byte" none with kind := .primitive 'B', accessFlags := 0x411 }
/-- [B -/
def k6 : Class := { plain "[B" (some 0) with kind := .array 5 .byte, interfaces := #[3, 4], accessFlags := 1041 }

/-- the primitive int -/
def k7 : Class := { plain "int" none with kind := .primitive 'I', accessFlags := 0x411 }
/-- [I -/
def k8 : Class := { plain "[I" (some 0) with kind := .array 7 .int, interfaces := #[3, 4], accessFlags := 1041 }

def heap : Heap := #[]
def classes : Array Class := #[k0, k1, k2, k3, k4, k5, k6, k7, k8]
def interned : List (Array UInt16 × Addr) := []
def slotsUsed : Nat := 0
def theMethod : MethodId := ⟨1, 2⟩
def args0 : Array Value := #[.int 3, .int 4, .int 5, .int 6, .int 7]
def aboutOver (below : List Frame) : State where
  vm := { classes := classes, interned := interned.toArray }
  heap := heap
  slotsUsed := slotsUsed
  threads := #[{ frames := .invoking theMethod args0 :: below }]
def below0 : List Frame := [.native { method := ⟨0, 0⟩, args := #[] }]
def about1 : State := aboutOver below0
def p0 : Program := .bare "" "" ""
def e0 : Env := launch0.env 0 0 0
theorem w_frames : about1.frames = Frame.invoking theMethod args0 :: below0 := rfl
set_option maxRecDepth 65536 in
theorem w_args : argsFit about1.vm theMethod args0 = true := by decide +kernel
set_option maxRecDepth 65536 in
theorem w_heap : heapFits about1 = true := by decide +kernel
set_option maxRecDepth 65536 in
theorem w_runnable : about1.curStatus? = some .runnable := by decide +kernel
set_option maxRecDepth 65536 in
theorem w_alone : about1.alone = true := by decide +kernel
set_option maxRecDepth 65536 in
theorem w_named : about1.methodNamed? x = some theMethod := by decide +kernel
set_option maxRecDepth 65536 in
theorem w_hears : about1.hears theMethod below0 = true := by decide +kernel
set_option maxRecDepth 65536 in
theorem w_ripe : about1.ripe theMethod args0 below0 = true := by decide +kernel
theorem w_running : about1.status = .running := rfl
set_option maxRecDepth 65536 in
theorem w_room : about1.hasRoom e0.platform room_1 = true :=
  launch0.hasRoom_least _ room_1 (by decide +kernel) (by decide +kernel) (by decide +kernel) (by decide +kernel) (by decide +kernel) (by decide +kernel)
theorem allAtoms_all (ts : List Jvm.Cond) (a : Array Jvm.Value) (st : Jvm.State) : (allAtoms ts).before a st = ts.all (fun c => c.before a st) := by
  induction ts with
  | nil => rfl
  | cons c t ih =>
    show (Jvm.Cond.and c (allAtoms t)).before a st = _
    rw [Jvm.Cond.before_and, ih, List.all_cons]
def words1 : List Jvm.Cond := Jvm.Cond.code x code maxLocals ret :: tables_1
/-- a 'code' word, met by the world's own term for the bytes: nothing is compared byte by byte -/
theorem code_word {y : MethodName} {bytes : ByteArray} {mx : Nat} {rt : Option FieldType} {a : Array Value} {s : State} {m : MethodId} {meth : Method} {c : Code} (h1 : s.methodNamed? y = some m) (h2 : s.vm.method? m = some meth) (h3 : meth.code = some c) (h4 : c.code = bytes)
    (h5 : (c.maxLocals == mx && c.exceptionTable.isEmpty && decide (c.maxStack ≤ mostOperands) && decide (meth.sig.returnType = rt) && !meth.locks && decide (parseMethodDescriptor y.desc = some meth.sig)) = true) : (Jvm.Cond.code y bytes mx rt).before a s = true := by
  simp only [Bool.and_eq_true, beq_iff_eq, Bool.not_eq_true', decide_eq_true_eq] at h5
  obtain ⟨⟨⟨⟨⟨g1, g2⟩, g3⟩, g4⟩, g5⟩, g6⟩ := h5
  simp [Cond.before, Cond.holds, Cond.value, h1, h2, h3, h4, g1, g2, g3, g4, g5, g6]
def isCode : Jvm.Cond → Bool
  | .code _ _ _ _ => true
  | _ => false
theorem all_split {L : List Jvm.Cond} {P : Jvm.Cond → Bool} (h1 : L.all (fun c => isCode c || P c) = true) (h2 : ∀ c ∈ L.filter isCode, P c = true) : L.all P = true := by
  refine List.all_eq_true.mpr fun c hc => ?_
  have h := List.all_eq_true.mp h1 c hc
  rcases Bool.eq_false_or_eq_true (isCode c) with hi | hi
  · exact h2 c (List.mem_filter.mpr ⟨hc, hi⟩)
  · simpa [hi] using h
set_option maxRecDepth 65536 in
theorem w_c0 : (Jvm.Cond.code x code maxLocals ret).before args0 about1 = true := code_word (m := ⟨1, 2⟩) (meth := k1m2) (c := k1c2) (by decide +kernel) rfl rfl rfl (by decide +kernel)
set_option maxRecDepth 65536 in
theorem w_c1 : (Jvm.Cond.code ({ cls := "com/example/even_keel/evenkeel/scale/IntMinHeap", name := "<init>", desc := "(I)V" } : Jvm.MethodName) prog_167_method_1_code (2 : Nat) (Option.none : Option Jvm.ClassFile.FieldType)).before args0 about1 = true := code_word (m := ⟨2, 0⟩) (meth := k2m0) (c := k2c0) (by decide +kernel) rfl rfl rfl (by decide +kernel)
set_option maxRecDepth 65536 in
theorem w_c2 : (Jvm.Cond.code ({ cls := "java/lang/Object", name := "<init>", desc := "()V" } : Jvm.MethodName) object_method_1_code (1 : Nat) (Option.none : Option Jvm.ClassFile.FieldType)).before args0 about1 = true := code_word (m := ⟨0, 0⟩) (meth := k0m0) (c := k0c0) (by decide +kernel) rfl rfl rfl (by decide +kernel)
set_option maxRecDepth 65536 in
theorem w_c3 : (Jvm.Cond.code ({ cls := "com/example/even_keel/evenkeel/scale/IntMinHeap", name := "add", desc := "(I)V" } : Jvm.MethodName) prog_167_method_5_code (4 : Nat) (Option.none : Option Jvm.ClassFile.FieldType)).before args0 about1 = true := code_word (m := ⟨2, 1⟩) (meth := k2m1) (c := k2c1) (by decide +kernel) rfl rfl rfl (by decide +kernel)
set_option maxRecDepth 65536 in
theorem w_c4 : (Jvm.Cond.code ({ cls := "com/example/even_keel/evenkeel/scale/IntMinHeap", name := "takeLeast", desc := "()I" } : Jvm.MethodName) prog_167_method_6_code (5 : Nat) (Option.some Jvm.ClassFile.FieldType.int)).before args0 about1 = true := code_word (m := ⟨2, 2⟩) (meth := k2m2) (c := k2c2) (by decide +kernel) rfl rfl rfl (by decide +kernel)
set_option maxRecDepth 65536 in
theorem w_c5 : (Jvm.Cond.code ({ cls := "com/example/even_keel/evenkeel/scale/IntMinHeapTakeLeastPinLaw", name := "count", desc := "([II)I" } : Jvm.MethodName) method_2_code (3 : Nat) (Option.some Jvm.ClassFile.FieldType.int)).before args0 about1 = true := code_word (m := ⟨1, 1⟩) (meth := k1m1) (c := k1c1) (by decide +kernel) rfl rfl rfl (by decide +kernel)
def codes1 : List Jvm.Cond := [Jvm.Cond.code x code maxLocals ret, Jvm.Cond.code ({ cls := "com/example/even_keel/evenkeel/scale/IntMinHeap", name := "<init>", desc := "(I)V" } : Jvm.MethodName) prog_167_method_1_code (2 : Nat) (Option.none : Option Jvm.ClassFile.FieldType), Jvm.Cond.code ({ cls := "java/lang/Object", name := "<init>", desc := "()V" } : Jvm.MethodName) object_method_1_code (1 : Nat) (Option.none : Option Jvm.ClassFile.FieldType), Jvm.Cond.code ({ cls := "com/example/even_keel/evenkeel/scale/IntMinHeap", name := "add", desc := "(I)V" } : Jvm.MethodName) prog_167_method_5_code (4 : Nat) (Option.none : Option Jvm.ClassFile.FieldType), Jvm.Cond.code ({ cls := "com/example/even_keel/evenkeel/scale/IntMinHeap", name := "takeLeast", desc := "()I" } : Jvm.MethodName) prog_167_method_6_code (5 : Nat) (Option.some Jvm.ClassFile.FieldType.int), Jvm.Cond.code ({ cls := "com/example/even_keel/evenkeel/scale/IntMinHeapTakeLeastPinLaw", name := "count", desc := "([II)I" } : Jvm.MethodName) method_2_code (3 : Nat) (Option.some Jvm.ClassFile.FieldType.int)]
set_option maxRecDepth 65536 in
theorem codes_eq : words1.filter isCode = codes1 := rfl
theorem w_codes : ∀ c ∈ words1.filter isCode, c.before args0 about1 = true := by
  rw [codes_eq]
  intro c hc
  simp only [codes1, List.mem_cons, List.not_mem_nil, or_false] at hc
  rcases hc with rfl | rfl | rfl | rfl | rfl | rfl
  · exact w_c0
  · exact w_c1
  · exact w_c2
  · exact w_c3
  · exact w_c4
  · exact w_c5
set_option maxRecDepth 65536 in
theorem w_t1 : (words1.take 24).all (fun c => isCode c || c.before args0 about1) = true := by decide +kernel
set_option maxRecDepth 65536 in
theorem w_t2 : (words1.drop 24).all (fun c => isCode c || c.before args0 about1) = true := by decide +kernel
theorem w_tables : (allAtoms (Jvm.Cond.code x code maxLocals ret :: tables_1)).before args0 about1 = true := by
  rw [allAtoms_all]
  show words1.all (fun c => c.before args0 about1) = true
  refine all_split ?_ w_codes
  rw [← List.take_append_drop 24 words1, List.all_append, w_t1, w_t2]
  rfl
set_option maxRecDepth 65536 in
theorem w_case : (Jvm.Cond.and given_1 narrow_1).before args0 about1 = true := by decide +kernel
theorem w_applies : (headSpec (Jvm.Cond.code x code maxLocals ret :: tables_1) room_1).applies x e0.platform about1 = true :=
  (Spec.applies_iff w_frames).mpr ⟨w_running, w_runnable, w_alone, w_named, w_hears, w_ripe, w_room, w_tables⟩
theorem atStart : AtStart classFile x code maxLocals ret World_1 tables_1 room_1 Calls_1 rest_1 Pre_1 launch0 p0 e0 about1 theMethod args0 below0 :=
  ⟨lists_1, trivial, launch0.admits_env _ _ _, launch0.least_env, fairChoices_fair.cas, fairChoices_fair.clock, w_frames, w_args, w_heap, w_applies, trivial, trivial, w_case⟩
end start1
theorem witness_1 : WitnessClaimed_1 := ⟨start1.p0, start1.e0, start1.about1, start1.theMethod, start1.args0, start1.below0, start1.atStart⟩
end Jvm.Pilot.@@N@@
