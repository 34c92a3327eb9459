import JvmDerived
import JvmDerived.Pilot.@@N@@Statement
import JvmDerived.Pilot.@@N@@Code
set_option linter.unusedVariables false
set_option linter.unusedSimpArgs false
namespace Jvm.OwnKit
open Sem ClassFile Op Lib Jvm.Stand Jvm.Free Jvm.LawKit Jvm.RoadKit
/-- from this pc, with these locals, this stack and this heap, the body returns and Q holds -/
def Go (Z : State) (l : Launch) (R : Room) (B : ByteArray) (ml : Nat) (own : String) (rt : Option FieldType) (mn : String) (pc : Nat) (Ls : Array Slot) (st : List Value) (h : Heap) (L : List Loc) (k n : Nat) (Q : Option Value → Heap → List Loc → Prop) : Prop :=
  ∀ (p : Program) (e : Env) (s : State) (m : MethodId) (args : Array Value) (below : List Frame) (meth : Method) (c : Code) (T : State),
    Stand p l e R s m args below meth c T L k n → p.tables.exec = Jvm.exec → Z.Warmed39 s.vm → c.code = B → c.maxLocals = ml → s.vm.findClass own = some m.cls → meth.sig.returnType = rt → meth.locks = false → meth.name = mn → T.heap = h →
    ∃ s₂ o, Steps p.tables e below (T.setTop (mkF m pc Ls st)) s₂ ∧ s₂.status = .running ∧ Ended s₂ below o ∧ ∃ v L', o = .returned v ∧ Q v s₂.heap L' ∧ FrameEnd s o s₂ L' R.cells R.slots
/-- a callee's contract at these arguments and this heap -/
def Con (l : Launch) (Z : State) (y : MethodName) (B : ByteArray) (ml : Nat) (rt : Option FieldType) (R : Room) (ws : List Jvm.Cond) (as' : Array Value) (h0 : Heap) (Q : Option Value → Heap → List Loc → Prop) : Prop :=
  MetFree l y (head1 (Jvm.Cond.code y B ml rt :: ws) R) (fun a U => a = as' ∧ Z.Warmed39 U.vm ∧ U.heap = h0) (fun _ _ _ _ _ => True) (fun _ U o U' => ∃ v L, o = .returned v ∧ Q v U'.heap L ∧ FrameEnd U o U' L R.cells R.slots)
/-- the law returns true, and nothing old was written -/
def LawQ (n0 : Nat) (v : Option Value) (_ : Heap) (L : List Loc) : Prop := v = some (.int (1 : Int32)) ∧ Fr n0 L
/-- it returns v0, and nothing was written or made -/
def PQ (h0 : Heap) (v0 : Option Value) (v : Option Value) (h : Heap) (L : List Loc) : Prop := v = v0 ∧ h = h0 ∧ L = []
theorem con_of {l : Launch} {Z : State} {y : MethodName} {B : ByteArray} {ml : Nat} {rt : Option FieldType} {R : Room} {ws : List Jvm.Cond} {as' : Array Value} {h0 : Heap} {Q : Option Value → Heap → List Loc → Prop} {Ls : Array Slot}
    (hp : plainFor y = true) (ef : ∀ m, entryFrame m as' ml = mkF m 0 Ls []) (g : Go Z l R B ml y.cls rt y.name 0 Ls [] h0 [] 0 0 Q) : Con l Z y B ml rt R ws as' h0 Q := by
  refine MetFree.of_bodySF hp hisR ?_
  intro p e s m args below meth c s₁ Bd hml0 hP hK
  obtain ⟨rfl, hZ, hh⟩ := hP
  have e0 : s₁.heap = h0 := by rw [← hh, Bd.state]; rfl
  obtain ⟨s₂, o, h1, h2⟩ := g p e s m _ below meth c s₁ (Stand.of_body Bd) Bd.exec hZ Bd.bytes hml0 (findClass_of_methodNamed Bd.named) Bd.returns (BodyLoose.notSynchronized Bd) (name_of_methodNamed Bd.named Bd.method).1 e0
  exact ⟨s₂, o, castTop (ef m) h1, h2⟩
theorem Con.mono {l : Launch} {Z : State} {y : MethodName} {B : ByteArray} {ml : Nat} {rt : Option FieldType} {R : Room} {ws : List Jvm.Cond} {as' : Array Value} {h0 : Heap} {Q Q' : Option Value → Heap → List Loc → Prop} (c : Con l Z y B ml rt R ws as' h0 Q) (q : ∀ v h L, Q v h L → Q' v h L) : Con l Z y B ml rt R ws as' h0 Q' := by
  intro p e ha hc hk s m args below hf happ hP hK
  obtain ⟨n, o, h1, h2, h3, v, L, h4, h5, h6⟩ := c p e ha hc hk s m args below hf happ hP hK
  exact ⟨n, o, h1, h2, h3, v, L, h4, q _ _ _ h5, h6⟩
theorem fr_one {q : Nat} {L : List Loc} {a : Addr} {sl : Nat} (N : Fr q L) (g : q ≤ a) : Fr q (L ++ [⟨a, sl⟩]) := N.app fun y hy => by cases List.mem_singleton.mp hy; exact g
section Rules
variable {Z : State} {l : Launch} {R : Room} {B : ByteArray} {ml : Nat} {own : String} {rt : Option FieldType} {mn : String} {pc pc' : Nat} {Ls : Array Slot} {h : Heap} {L : List Loc} {k n : Nat} {Q : Option Value → Heap → List Loc → Prop} {rest : List Value}
theorem Go.mono {st : List Value} {Q' : Option Value → Heap → List Loc → Prop} (q : ∀ v h L, Q v h L → Q' v h L) (g : Go Z l R B ml own rt mn pc Ls st h L k n Q) : Go Z l R B ml own rt mn pc Ls st h L k n Q' := by
  intro p e s m args below meth c T X hx hZ hby hml hown hrt hlk hnm eT
  obtain ⟨s₂, o, h1, h2, h3, v, L', h4, h5, h6⟩ := g p e s m args below meth c T X hx hZ hby hml hown hrt hlk hnm eT
  exact ⟨s₂, o, h1, h2, h3, v, L', h4, q _ _ _ h5, h6⟩
theorem Go.pure {st st' : List Value} {Ls' : Array Slot} (step : ∀ (p : Program) (e : Env) (below : List Frame) (T : State) (m : MethodId) (c : Code) (target : State), At T m c below → p.tables.exec = Jvm.exec → c.code = B → Steps p.tables e below (T.setTop (mkF m pc' Ls' st')) target → Steps p.tables e below (T.setTop (mkF m pc Ls st)) target)
    (g : Go Z l R B ml own rt mn pc' Ls' st' h L k n Q) : Go Z l R B ml own rt mn pc Ls st h L k n Q := by
  intro p e s m args below meth c T X hx hZ hby hml hown hrt hlk hnm eT
  obtain ⟨s₂, o, h1, h2⟩ := g p e s m args below meth c T X hx hZ hby hml hown hrt hlk hnm eT
  exact ⟨s₂, o, step p e below T m c s₂ X.here hx hby h1, h2⟩
theorem Go.iload {st : List Value} {i : Nat} {v : Int32} (hd : decode B pc = .ok (.iload i, 2)) (hp : pc + 2 = pc') (hl : Ls[i]? = some (.val (.int v))) (g : Go Z l R B ml own rt mn pc' Ls (.int v :: st) h L k n Q) : Go Z l R B ml own rt mn pc Ls st h L k n Q := by
  subst hp; exact Go.pure (fun p e below T m c t hA hx hB hr => XS.iload hA hx rfl (hb hB hd) hl hr) g
theorem Go.iloadN {st : List Value} {i : Fin 4} {v : Int32} (hd : decode B pc = .ok (.iload_n i, 1)) (hp : pc + 1 = pc') (hl : Ls[i.val]? = some (.val (.int v))) (g : Go Z l R B ml own rt mn pc' Ls (.int v :: st) h L k n Q) : Go Z l R B ml own rt mn pc Ls st h L k n Q := by
  subst hp; exact Go.pure (fun p e below T m c t hA hx hB hr => XS.iloadN hA hx rfl (hb hB hd) hl hr) g
theorem Go.lload {st : List Value} {i : Nat} {v : Int64} (hd : decode B pc = .ok (.lload i, 2)) (hp : pc + 2 = pc') (hl : Ls[i]? = some (.val (.long v))) (g : Go Z l R B ml own rt mn pc' Ls (.long v :: st) h L k n Q) : Go Z l R B ml own rt mn pc Ls st h L k n Q := by
  subst hp; exact Go.pure (fun p e below T m c t hA hx hB hr => XS.lload hA hx rfl (hb hB hd) hl hr) g
theorem Go.lloadN {st : List Value} {i : Fin 4} {v : Int64} (hd : decode B pc = .ok (.lload_n i, 1)) (hp : pc + 1 = pc') (hl : Ls[i.val]? = some (.val (.long v))) (g : Go Z l R B ml own rt mn pc' Ls (.long v :: st) h L k n Q) : Go Z l R B ml own rt mn pc Ls st h L k n Q := by
  subst hp; exact Go.pure (fun p e below T m c t hA hx hB hr => XS.lloadN hA hx rfl (hb hB hd) hl hr) g
theorem Go.aload {st : List Value} {i : Nat} {v : Value} (hd : decode B pc = .ok (.aload i, 2)) (hp : pc + 2 = pc') (hl : Ls[i]? = some (.val v)) (hv : v.isRef = true) (g : Go Z l R B ml own rt mn pc' Ls (v :: st) h L k n Q) : Go Z l R B ml own rt mn pc Ls st h L k n Q := by
  subst hp; exact Go.pure (fun p e below T m c t hA hx hB hr => XS.aload hA hx rfl (hb hB hd) hl hv hr) g
theorem Go.aloadN {st : List Value} {i : Fin 4} {v : Value} (hd : decode B pc = .ok (.aload_n i, 1)) (hp : pc + 1 = pc') (hl : Ls[i.val]? = some (.val v)) (hv : v.isRef = true) (g : Go Z l R B ml own rt mn pc' Ls (v :: st) h L k n Q) : Go Z l R B ml own rt mn pc Ls st h L k n Q := by
  subst hp; exact Go.pure (fun p e below T m c t hA hx hB hr => XS.aloadN hA hx rfl (hb hB hd) hl hv hr) g
theorem Go.istore {i : Nat} {v : Int32} {Ls' : Array Slot} (hd : decode B pc = .ok (.istore i, 2)) (hp : pc + 2 = pc') (hl : storeLocals Ls i (.int v) = some Ls') (g : Go Z l R B ml own rt mn pc' Ls' rest h L k n Q) : Go Z l R B ml own rt mn pc Ls (.int v :: rest) h L k n Q := by
  subst hp; exact Go.pure (fun p e below T m c t hA hx hB hr => XS.istore hA hx rfl (hb hB hd) rfl hl hr) g
theorem Go.istoreN {i : Fin 4} {v : Int32} {Ls' : Array Slot} (hd : decode B pc = .ok (.istore_n i, 1)) (hp : pc + 1 = pc') (hl : storeLocals Ls i.val (.int v) = some Ls') (g : Go Z l R B ml own rt mn pc' Ls' rest h L k n Q) : Go Z l R B ml own rt mn pc Ls (.int v :: rest) h L k n Q := by
  subst hp; exact Go.pure (fun p e below T m c t hA hx hB hr => XS.istoreN hA hx rfl (hb hB hd) rfl hl hr) g
theorem Go.lstore {i : Nat} {v : Int64} {Ls' : Array Slot} (hd : decode B pc = .ok (.lstore i, 2)) (hp : pc + 2 = pc') (hl : storeLocals Ls i (.long v) = some Ls') (g : Go Z l R B ml own rt mn pc' Ls' rest h L k n Q) : Go Z l R B ml own rt mn pc Ls (.long v :: rest) h L k n Q := by
  subst hp; exact Go.pure (fun p e below T m c t hA hx hB hr => XS.lstore hA hx rfl (hb hB hd) rfl hl hr) g
theorem Go.lstoreN {i : Fin 4} {v : Int64} {Ls' : Array Slot} (hd : decode B pc = .ok (.lstore_n i, 1)) (hp : pc + 1 = pc') (hl : storeLocals Ls i.val (.long v) = some Ls') (g : Go Z l R B ml own rt mn pc' Ls' rest h L k n Q) : Go Z l R B ml own rt mn pc Ls (.long v :: rest) h L k n Q := by
  subst hp; exact Go.pure (fun p e below T m c t hA hx hB hr => XS.lstoreN hA hx rfl (hb hB hd) rfl hl hr) g
theorem Go.astore {i : Nat} {v : Value} {Ls' : Array Slot} (hd : decode B pc = .ok (.astore i, 2)) (hp : pc + 2 = pc') (hv : v.isRef = true) (hl : storeLocals Ls i v = some Ls') (g : Go Z l R B ml own rt mn pc' Ls' rest h L k n Q) : Go Z l R B ml own rt mn pc Ls (v :: rest) h L k n Q := by
  subst hp; exact Go.pure (fun p e below T m c t hA hx hB hr => XS.astore hA hx rfl (hb hB hd) rfl hv hl hr) g
theorem Go.astoreN {i : Fin 4} {v : Value} {Ls' : Array Slot} (hd : decode B pc = .ok (.astore_n i, 1)) (hp : pc + 1 = pc') (hv : v.isRef = true) (hl : storeLocals Ls i.val v = some Ls') (g : Go Z l R B ml own rt mn pc' Ls' rest h L k n Q) : Go Z l R B ml own rt mn pc Ls (v :: rest) h L k n Q := by
  subst hp; exact Go.pure (fun p e below T m c t hA hx hB hr => XS.astoreN hA hx rfl (hb hB hd) rfl hv hl hr) g
theorem Go.iinc {st : List Value} {i : Nat} {cst : Int} {x z : Int32} {Ls' : Array Slot} (hd : decode B pc = .ok (.iinc i cst, 3)) (hp : pc + 3 = pc') (hv : Ls[i]? = some (.val (.int x))) (hz : x + Int32.ofInt cst = z) (hl : storeLocals Ls i (.int z) = some Ls') (g : Go Z l R B ml own rt mn pc' Ls' st h L k n Q) : Go Z l R B ml own rt mn pc Ls st h L k n Q := by
  subst hz; subst hp; exact Go.pure (fun p e below T m c t hA hx hB hr => XS.iinc hA hx rfl (hb hB hd) hv hl hr) g
theorem Go.iconst {st : List Value} {i : Int} {z : Int32} (hd : decode B pc = .ok (.iconst i, 1)) (hp : pc + 1 = pc') (hz : Int32.ofInt i = z) (g : Go Z l R B ml own rt mn pc' Ls (.int z :: st) h L k n Q) : Go Z l R B ml own rt mn pc Ls st h L k n Q := by
  subst hz; subst hp; exact Go.pure (fun p e below T m c t hA hx hB hr => XS.iconst hA hx rfl (hb hB hd) hr) g
theorem Go.bipush {st : List Value} {i : Int} {z : Int32} (hd : decode B pc = .ok (.bipush i, 2)) (hp : pc + 2 = pc') (hz : (Int8.ofInt i).toInt32 = z) (g : Go Z l R B ml own rt mn pc' Ls (.int z :: st) h L k n Q) : Go Z l R B ml own rt mn pc Ls st h L k n Q := by
  subst hz; subst hp; exact Go.pure (fun p e below T m c t hA hx hB hr => XS.bipush hA hx rfl (hb hB hd) hr) g
theorem Go.sipush {st : List Value} {i : Int} {z : Int32} (hd : decode B pc = .ok (.sipush i, 3)) (hp : pc + 3 = pc') (hz : (Int16.ofInt i).toInt32 = z) (g : Go Z l R B ml own rt mn pc' Ls (.int z :: st) h L k n Q) : Go Z l R B ml own rt mn pc Ls st h L k n Q := by
  subst hz; subst hp; exact Go.pure (fun p e below T m c t hA hx hB hr => XS.sipush hA hx rfl (hb hB hd) hr) g
theorem Go.lconst {st : List Value} {i : Fin 2} {z : Int64} (hd : decode B pc = .ok (.lconst i, 1)) (hp : pc + 1 = pc') (hz : Int64.ofNat i = z) (g : Go Z l R B ml own rt mn pc' Ls (.long z :: st) h L k n Q) : Go Z l R B ml own rt mn pc Ls st h L k n Q := by
  subst hz; subst hp; exact Go.pure (fun p e below T m c t hA hx hB hr => XS.lconst hA hx rfl (hb hB hd) hr) g
theorem Go.aconstNull {st : List Value} (hd : decode B pc = .ok (.aconst_null, 1)) (hp : pc + 1 = pc') (g : Go Z l R B ml own rt mn pc' Ls (.null :: st) h L k n Q) : Go Z l R B ml own rt mn pc Ls st h L k n Q := by
  subst hp; exact Go.pure (fun p e below T m c t hA hx hB hr => XS.aconstNull hA hx rfl (hb hB hd) hr) g
theorem Go.iadd {x y z : Int32} (hd : decode B pc = .ok (.iadd, 1)) (hp : pc + 1 = pc') (hz : x + y = z) (g : Go Z l R B ml own rt mn pc' Ls (.int z :: rest) h L k n Q) : Go Z l R B ml own rt mn pc Ls (.int y :: .int x :: rest) h L k n Q := by
  subst hz; subst hp; exact Go.pure (fun p e below T m c t hA hx hB hr => XS.iadd hA hx rfl (hb hB hd) rfl hr) g
theorem Go.ladd {x y z : Int64} (hd : decode B pc = .ok (.ladd, 1)) (hp : pc + 1 = pc') (hz : x + y = z) (g : Go Z l R B ml own rt mn pc' Ls (.long z :: rest) h L k n Q) : Go Z l R B ml own rt mn pc Ls (.long y :: .long x :: rest) h L k n Q := by
  subst hz; subst hp; exact Go.pure (fun p e below T m c t hA hx hB hr => XS.ladd hA hx rfl (hb hB hd) rfl hr) g
theorem Go.isub {x y z : Int32} (hd : decode B pc = .ok (.isub, 1)) (hp : pc + 1 = pc') (hz : x - y = z) (g : Go Z l R B ml own rt mn pc' Ls (.int z :: rest) h L k n Q) : Go Z l R B ml own rt mn pc Ls (.int y :: .int x :: rest) h L k n Q := by
  subst hz; subst hp; exact Go.pure (fun p e below T m c t hA hx hB hr => XS.isub hA hx rfl (hb hB hd) rfl hr) g
theorem Go.lsub {x y z : Int64} (hd : decode B pc = .ok (.lsub, 1)) (hp : pc + 1 = pc') (hz : x - y = z) (g : Go Z l R B ml own rt mn pc' Ls (.long z :: rest) h L k n Q) : Go Z l R B ml own rt mn pc Ls (.long y :: .long x :: rest) h L k n Q := by
  subst hz; subst hp; exact Go.pure (fun p e below T m c t hA hx hB hr => XS.lsub hA hx rfl (hb hB hd) rfl hr) g
theorem Go.imul {x y z : Int32} (hd : decode B pc = .ok (.imul, 1)) (hp : pc + 1 = pc') (hz : x * y = z) (g : Go Z l R B ml own rt mn pc' Ls (.int z :: rest) h L k n Q) : Go Z l R B ml own rt mn pc Ls (.int y :: .int x :: rest) h L k n Q := by
  subst hz; subst hp; exact Go.pure (fun p e below T m c t hA hx hB hr => XS.imul hA hx rfl (hb hB hd) rfl hr) g
theorem Go.lmul {x y z : Int64} (hd : decode B pc = .ok (.lmul, 1)) (hp : pc + 1 = pc') (hz : x * y = z) (g : Go Z l R B ml own rt mn pc' Ls (.long z :: rest) h L k n Q) : Go Z l R B ml own rt mn pc Ls (.long y :: .long x :: rest) h L k n Q := by
  subst hz; subst hp; exact Go.pure (fun p e below T m c t hA hx hB hr => XS.lmul hA hx rfl (hb hB hd) rfl hr) g
theorem Go.iand {x y z : Int32} (hd : decode B pc = .ok (.iand, 1)) (hp : pc + 1 = pc') (hz : x &&& y = z) (g : Go Z l R B ml own rt mn pc' Ls (.int z :: rest) h L k n Q) : Go Z l R B ml own rt mn pc Ls (.int y :: .int x :: rest) h L k n Q := by
  subst hz; subst hp; exact Go.pure (fun p e below T m c t hA hx hB hr => XS.iand hA hx rfl (hb hB hd) rfl hr) g
theorem Go.land {x y z : Int64} (hd : decode B pc = .ok (.land, 1)) (hp : pc + 1 = pc') (hz : x &&& y = z) (g : Go Z l R B ml own rt mn pc' Ls (.long z :: rest) h L k n Q) : Go Z l R B ml own rt mn pc Ls (.long y :: .long x :: rest) h L k n Q := by
  subst hz; subst hp; exact Go.pure (fun p e below T m c t hA hx hB hr => XS.land hA hx rfl (hb hB hd) rfl hr) g
theorem Go.ior {x y z : Int32} (hd : decode B pc = .ok (.ior, 1)) (hp : pc + 1 = pc') (hz : x ||| y = z) (g : Go Z l R B ml own rt mn pc' Ls (.int z :: rest) h L k n Q) : Go Z l R B ml own rt mn pc Ls (.int y :: .int x :: rest) h L k n Q := by
  subst hz; subst hp; exact Go.pure (fun p e below T m c t hA hx hB hr => XS.ior hA hx rfl (hb hB hd) rfl hr) g
theorem Go.lor {x y z : Int64} (hd : decode B pc = .ok (.lor, 1)) (hp : pc + 1 = pc') (hz : x ||| y = z) (g : Go Z l R B ml own rt mn pc' Ls (.long z :: rest) h L k n Q) : Go Z l R B ml own rt mn pc Ls (.long y :: .long x :: rest) h L k n Q := by
  subst hz; subst hp; exact Go.pure (fun p e below T m c t hA hx hB hr => XS.lor hA hx rfl (hb hB hd) rfl hr) g
theorem Go.ixor {x y z : Int32} (hd : decode B pc = .ok (.ixor, 1)) (hp : pc + 1 = pc') (hz : x ^^^ y = z) (g : Go Z l R B ml own rt mn pc' Ls (.int z :: rest) h L k n Q) : Go Z l R B ml own rt mn pc Ls (.int y :: .int x :: rest) h L k n Q := by
  subst hz; subst hp; exact Go.pure (fun p e below T m c t hA hx hB hr => XS.ixor hA hx rfl (hb hB hd) rfl hr) g
theorem Go.lxor {x y z : Int64} (hd : decode B pc = .ok (.lxor, 1)) (hp : pc + 1 = pc') (hz : x ^^^ y = z) (g : Go Z l R B ml own rt mn pc' Ls (.long z :: rest) h L k n Q) : Go Z l R B ml own rt mn pc Ls (.long y :: .long x :: rest) h L k n Q := by
  subst hz; subst hp; exact Go.pure (fun p e below T m c t hA hx hB hr => XS.lxor hA hx rfl (hb hB hd) rfl hr) g
theorem Go.idiv {x y z : Int32} (hd : decode B pc = .ok (.idiv, 1)) (hp : pc + 1 = pc') (hy : y ≠ 0) (hz : x / y = z) (g : Go Z l R B ml own rt mn pc' Ls (.int z :: rest) h L k n Q) : Go Z l R B ml own rt mn pc Ls (.int y :: .int x :: rest) h L k n Q := by
  subst hz; subst hp; exact Go.pure (fun p e below T m c t hA hx hB hr => XS.idiv hA hx rfl (hb hB hd) rfl hy hr) g
theorem Go.ldiv {x y z : Int64} (hd : decode B pc = .ok (.ldiv, 1)) (hp : pc + 1 = pc') (hy : y ≠ 0) (hz : x / y = z) (g : Go Z l R B ml own rt mn pc' Ls (.long z :: rest) h L k n Q) : Go Z l R B ml own rt mn pc Ls (.long y :: .long x :: rest) h L k n Q := by
  subst hz; subst hp; exact Go.pure (fun p e below T m c t hA hx hB hr => XS.ldiv hA hx rfl (hb hB hd) rfl hy hr) g
theorem Go.irem {x y z : Int32} (hd : decode B pc = .ok (.irem, 1)) (hp : pc + 1 = pc') (hy : y ≠ 0) (hz : x % y = z) (g : Go Z l R B ml own rt mn pc' Ls (.int z :: rest) h L k n Q) : Go Z l R B ml own rt mn pc Ls (.int y :: .int x :: rest) h L k n Q := by
  subst hz; subst hp; exact Go.pure (fun p e below T m c t hA hx hB hr => XS.irem hA hx rfl (hb hB hd) rfl hy (by rw [show x - x / y * y = x % y from irem_eq_mod x y]; exact hr)) g
theorem Go.lrem {x y z : Int64} (hd : decode B pc = .ok (.lrem, 1)) (hp : pc + 1 = pc') (hy : y ≠ 0) (hz : x % y = z) (g : Go Z l R B ml own rt mn pc' Ls (.long z :: rest) h L k n Q) : Go Z l R B ml own rt mn pc Ls (.long y :: .long x :: rest) h L k n Q := by
  subst hz; subst hp; exact Go.pure (fun p e below T m c t hA hx hB hr => XS.lrem hA hx rfl (hb hB hd) rfl hy (by rw [show x - x / y * y = x % y from lrem_mod x y]; exact hr)) g
theorem Go.ishl {x y z : Int32} (hd : decode B pc = .ok (.ishl, 1)) (hp : pc + 1 = pc') (hz : x <<< (y &&& 31) = z) (g : Go Z l R B ml own rt mn pc' Ls (.int z :: rest) h L k n Q) : Go Z l R B ml own rt mn pc Ls (.int y :: .int x :: rest) h L k n Q := by
  subst hz; subst hp; exact Go.pure (fun p e below T m c t hA hx hB hr => XS.ishl hA hx rfl (hb hB hd) rfl hr) g
theorem Go.ishr {x y z : Int32} (hd : decode B pc = .ok (.ishr, 1)) (hp : pc + 1 = pc') (hz : x >>> (y &&& 31) = z) (g : Go Z l R B ml own rt mn pc' Ls (.int z :: rest) h L k n Q) : Go Z l R B ml own rt mn pc Ls (.int y :: .int x :: rest) h L k n Q := by
  subst hz; subst hp; exact Go.pure (fun p e below T m c t hA hx hB hr => XS.ishr hA hx rfl (hb hB hd) rfl hr) g
theorem Go.iushr {x y z : Int32} (hd : decode B pc = .ok (.iushr, 1)) (hp : pc + 1 = pc') (hz : (x.toUInt32 >>> (y &&& 31).toUInt32).toInt32 = z) (g : Go Z l R B ml own rt mn pc' Ls (.int z :: rest) h L k n Q) : Go Z l R B ml own rt mn pc Ls (.int y :: .int x :: rest) h L k n Q := by
  subst hz; subst hp; exact Go.pure (fun p e below T m c t hA hx hB hr => XS.iushr hA hx rfl (hb hB hd) rfl hr) g
theorem Go.lshl {x z : Int64} {y : Int32} (hd : decode B pc = .ok (.lshl, 1)) (hp : pc + 1 = pc') (hz : x <<< (y &&& 0x3f).toInt64 = z) (g : Go Z l R B ml own rt mn pc' Ls (.long z :: rest) h L k n Q) : Go Z l R B ml own rt mn pc Ls (.int y :: .long x :: rest) h L k n Q := by
  subst hz; subst hp; exact Go.pure (fun p e below T m c t hA hx hB hr => XS.lshl hA hx rfl (hb hB hd) rfl hr) g
theorem Go.lshr {x z : Int64} {y : Int32} (hd : decode B pc = .ok (.lshr, 1)) (hp : pc + 1 = pc') (hz : x >>> (y &&& 0x3f).toInt64 = z) (g : Go Z l R B ml own rt mn pc' Ls (.long z :: rest) h L k n Q) : Go Z l R B ml own rt mn pc Ls (.int y :: .long x :: rest) h L k n Q := by
  subst hz; subst hp; exact Go.pure (fun p e below T m c t hA hx hB hr => XS.lshr hA hx rfl (hb hB hd) rfl hr) g
theorem Go.lushr {x z : Int64} {y : Int32} (hd : decode B pc = .ok (.lushr, 1)) (hp : pc + 1 = pc') (hz : (x.toUInt64 >>> (y &&& 0x3f).toInt64.toUInt64).toInt64 = z) (g : Go Z l R B ml own rt mn pc' Ls (.long z :: rest) h L k n Q) : Go Z l R B ml own rt mn pc Ls (.int y :: .long x :: rest) h L k n Q := by
  subst hz; subst hp; exact Go.pure (fun p e below T m c t hA hx hB hr => XS.lushr hA hx rfl (hb hB hd) rfl hr) g
theorem Go.ineg {x : Int32} {z : Int32} (hd : decode B pc = .ok (.ineg, 1)) (hp : pc + 1 = pc') (hz : -x = z) (g : Go Z l R B ml own rt mn pc' Ls (.int z :: rest) h L k n Q) : Go Z l R B ml own rt mn pc Ls (.int x :: rest) h L k n Q := by
  subst hz; subst hp; exact Go.pure (fun p e below T m c t hA hx hB hr => XS.ineg hA hx rfl (hb hB hd) rfl hr) g
theorem Go.lneg {x : Int64} {z : Int64} (hd : decode B pc = .ok (.lneg, 1)) (hp : pc + 1 = pc') (hz : -x = z) (g : Go Z l R B ml own rt mn pc' Ls (.long z :: rest) h L k n Q) : Go Z l R B ml own rt mn pc Ls (.long x :: rest) h L k n Q := by
  subst hz; subst hp; exact Go.pure (fun p e below T m c t hA hx hB hr => XS.lneg hA hx rfl (hb hB hd) rfl hr) g
theorem Go.i2l {x : Int32} {z : Int64} (hd : decode B pc = .ok (.i2l, 1)) (hp : pc + 1 = pc') (hz : x.toInt64 = z) (g : Go Z l R B ml own rt mn pc' Ls (.long z :: rest) h L k n Q) : Go Z l R B ml own rt mn pc Ls (.int x :: rest) h L k n Q := by
  subst hz; subst hp; exact Go.pure (fun p e below T m c t hA hx hB hr => XS.i2l hA hx rfl (hb hB hd) rfl hr) g
theorem Go.l2i {x : Int64} {z : Int32} (hd : decode B pc = .ok (.l2i, 1)) (hp : pc + 1 = pc') (hz : x.toInt32 = z) (g : Go Z l R B ml own rt mn pc' Ls (.int z :: rest) h L k n Q) : Go Z l R B ml own rt mn pc Ls (.long x :: rest) h L k n Q := by
  subst hz; subst hp; exact Go.pure (fun p e below T m c t hA hx hB hr => XS.l2i hA hx rfl (hb hB hd) rfl hr) g
theorem Go.i2b {x : Int32} {z : Int32} (hd : decode B pc = .ok (.i2b, 1)) (hp : pc + 1 = pc') (hz : x.toInt8.toInt32 = z) (g : Go Z l R B ml own rt mn pc' Ls (.int z :: rest) h L k n Q) : Go Z l R B ml own rt mn pc Ls (.int x :: rest) h L k n Q := by
  subst hz; subst hp; exact Go.pure (fun p e below T m c t hA hx hB hr => XS.i2b hA hx rfl (hb hB hd) rfl hr) g
theorem Go.i2s {x : Int32} {z : Int32} (hd : decode B pc = .ok (.i2s, 1)) (hp : pc + 1 = pc') (hz : x.toInt16.toInt32 = z) (g : Go Z l R B ml own rt mn pc' Ls (.int z :: rest) h L k n Q) : Go Z l R B ml own rt mn pc Ls (.int x :: rest) h L k n Q := by
  subst hz; subst hp; exact Go.pure (fun p e below T m c t hA hx hB hr => XS.i2s hA hx rfl (hb hB hd) rfl hr) g
theorem Go.i2c {x : Int32} {z : Int32} (hd : decode B pc = .ok (.i2c, 1)) (hp : pc + 1 = pc') (hz : x.toUInt32.toUInt16.toUInt32.toInt32 = z) (g : Go Z l R B ml own rt mn pc' Ls (.int z :: rest) h L k n Q) : Go Z l R B ml own rt mn pc Ls (.int x :: rest) h L k n Q := by
  subst hz; subst hp; exact Go.pure (fun p e below T m c t hA hx hB hr => XS.i2c hA hx rfl (hb hB hd) rfl hr) g
theorem Go.dup {x : Value} (hd : decode B pc = .ok (.dup, 1)) (hp : pc + 1 = pc') (hc : x.category = 1) (g : Go Z l R B ml own rt mn pc' Ls (x :: x :: rest) h L k n Q) : Go Z l R B ml own rt mn pc Ls (x :: rest) h L k n Q := by
  subst hp; exact Go.pure (fun p e below T m c t hA hx hB hr => XS.dup hA hx rfl (hb hB hd) rfl hc hr) g
theorem Go.dupX1 {x y : Value} (hd : decode B pc = .ok (.dup_x1, 1)) (hp : pc + 1 = pc') (hc : x.category = 1) (hc' : y.category = 1) (g : Go Z l R B ml own rt mn pc' Ls (x :: y :: x :: rest) h L k n Q) : Go Z l R B ml own rt mn pc Ls (x :: y :: rest) h L k n Q := by
  subst hp; exact Go.pure (fun p e below T m c t hA hx hB hr => XS.dupX1 hA hx rfl (hb hB hd) rfl hc hc' hr) g
theorem Go.pop {x : Value} (hd : decode B pc = .ok (.pop, 1)) (hp : pc + 1 = pc') (hc : x.category = 1) (g : Go Z l R B ml own rt mn pc' Ls rest h L k n Q) : Go Z l R B ml own rt mn pc Ls (x :: rest) h L k n Q := by
  subst hp; exact Go.pure (fun p e below T m c t hA hx hB hr => XS.pop hA hx rfl (hb hB hd) rfl hc hr) g
theorem Go.dup2 {x y : Value} (hd : decode B pc = .ok (.dup2, 1)) (hp : pc + 1 = pc') (hc : x.category = 1) (hc' : y.category = 1) (g : Go Z l R B ml own rt mn pc' Ls (x :: y :: x :: y :: rest) h L k n Q) : Go Z l R B ml own rt mn pc Ls (x :: y :: rest) h L k n Q := by
  subst hp; exact Go.pure (fun p e below T m c t hA hx hB hr => XT.dup2 hA hx rfl (hb hB hd) rfl hc hc' hr) g
theorem Go.dup2L {x : Int64} (hd : decode B pc = .ok (.dup2, 1)) (hp : pc + 1 = pc') (g : Go Z l R B ml own rt mn pc' Ls (.long x :: .long x :: rest) h L k n Q) : Go Z l R B ml own rt mn pc Ls (.long x :: rest) h L k n Q := by
  subst hp; exact Go.pure (fun p e below T m c t hA hx hB hr => XT.dup2L hA hx rfl (hb hB hd) rfl hr) g
theorem Go.goto {st : List Value} {o : Int} (hd : decode B pc = .ok (.goto o, 3)) (hp : (pc : Int) + o = (pc' : Int)) (g : Go Z l R B ml own rt mn pc' Ls st h L k n Q) : Go Z l R B ml own rt mn pc Ls st h L k n Q :=
  Go.pure (fun p e below T m c t hA hx hB hr => XS.goto hA hx rfl rfl (hb hB hd) (by rw [hp]; omega) (by rw [hp]; rfl) hr) g
/-- what a branch says when it is taken, and when it isn't -/
def cT : ClassFile.Cond → Int → Int → Prop
  | .lt, x, y => x < y | .ge, x, y => ¬ x < y | .gt, x, y => y < x | .le, x, y => ¬ y < x | .eq, x, y => x = y | .ne, x, y => ¬ x = y
def cF : ClassFile.Cond → Int → Int → Prop
  | .lt, x, y => ¬ x < y | .ge, x, y => x < y | .gt, x, y => ¬ y < x | .le, x, y => y < x | .eq, x, y => ¬ x = y | .ne, x, y => x = y
theorem icT {cd : ClassFile.Cond} {x y : Int32} (q : cT cd x.toInt y.toInt) : if_icmp.holds cd x y = true := by
  cases cd <;> simp only [cT] at q <;> first
    | exact (teq (Int32.toInt_inj.mp q)).1
    | exact (feq (fun r => q (congrArg _ r))).2
    | exact (tlt (Int32.lt_iff_toInt_lt.mpr q)).1
    | exact (flt (fun r => q (Int32.lt_iff_toInt_lt.mp r))).2.1
    | exact (tlt (Int32.lt_iff_toInt_lt.mpr q)).2.2.1
    | exact (flt (fun r => q (Int32.lt_iff_toInt_lt.mp r))).2.2.2
theorem icF {cd : ClassFile.Cond} {x y : Int32} (q : cF cd x.toInt y.toInt) : if_icmp.holds cd x y = false := by
  cases cd <;> simp only [cF] at q <;> first
    | exact (feq (fun r => q (congrArg _ r))).1
    | exact (teq (Int32.toInt_inj.mp q)).2
    | exact (flt (fun r => q (Int32.lt_iff_toInt_lt.mp r))).1
    | exact (tlt (Int32.lt_iff_toInt_lt.mpr q)).2.1
    | exact (flt (fun r => q (Int32.lt_iff_toInt_lt.mp r))).2.2.1
    | exact (tlt (Int32.lt_iff_toInt_lt.mpr q)).2.2.2
theorem lcT {cd : ClassFile.Cond} {x y : Int64} (q : cT cd x.toInt y.toInt) : ifCond.holds cd (lcmpW x y) = true := by
  rw [if0]; refine icT ?_
  have := c_lcmp x y
  have z0 : (0 : Int32).toInt = 0 := rfl
  cases cd <;> simp only [cT, z0] at q ⊢ <;> omega
theorem lcF {cd : ClassFile.Cond} {x y : Int64} (q : cF cd x.toInt y.toInt) : ifCond.holds cd (lcmpW x y) = false := by
  rw [if0]; refine icF ?_
  have := c_lcmp x y
  have z0 : (0 : Int32).toInt = 0 := rfl
  cases cd <;> simp only [cF, z0] at q ⊢ <;> omega
theorem Go.icmpT {cd : ClassFile.Cond} {x y : Int32} {X Y : Int} {o : Int} (hd : decode B pc = .ok (.if_icmp cd o, 3)) (hp : (pc : Int) + o = (pc' : Int)) (hX : x.toInt = X) (hY : y.toInt = Y) (hc : cT cd X Y) (g : Go Z l R B ml own rt mn pc' Ls rest h L k n Q) : Go Z l R B ml own rt mn pc Ls (.int y :: .int x :: rest) h L k n Q := by
  subst hX hY
  exact Go.pure (fun p e below T m c t hA hx hB hr => XS.icmpYes hA hx rfl rfl (hb hB hd) rfl (icT hc) (by rw [hp]; omega) (by rw [hp]; rfl) hr) g
theorem Go.icmpF {cd : ClassFile.Cond} {x y : Int32} {X Y : Int} {o : Int} (hd : decode B pc = .ok (.if_icmp cd o, 3)) (hp : pc + 3 = pc') (hX : x.toInt = X) (hY : y.toInt = Y) (hc : cF cd X Y) (g : Go Z l R B ml own rt mn pc' Ls rest h L k n Q) : Go Z l R B ml own rt mn pc Ls (.int y :: .int x :: rest) h L k n Q := by
  subst hX hY hp
  exact Go.pure (fun p e below T m c t hA hx hB hr => XS.icmpNo hA hx rfl (hb hB hd) rfl (icF hc) hr) g
theorem Go.ifT {cd : ClassFile.Cond} {x : Int32} {X : Int} {o : Int} (hd : decode B pc = .ok (.ifCond cd o, 3)) (hp : (pc : Int) + o = (pc' : Int)) (hX : x.toInt = X) (hc : cT cd X 0) (g : Go Z l R B ml own rt mn pc' Ls rest h L k n Q) : Go Z l R B ml own rt mn pc Ls (.int x :: rest) h L k n Q := by
  subst hX
  exact Go.pure (fun p e below T m c t hA hx hB hr => XS.ifYes hA hx rfl rfl (hb hB hd) rfl ((if0 _ _).trans (icT hc)) (by rw [hp]; omega) (by rw [hp]; rfl) hr) g
theorem Go.ifF {cd : ClassFile.Cond} {x : Int32} {X : Int} {o : Int} (hd : decode B pc = .ok (.ifCond cd o, 3)) (hp : pc + 3 = pc') (hX : x.toInt = X) (hc : cF cd X 0) (g : Go Z l R B ml own rt mn pc' Ls rest h L k n Q) : Go Z l R B ml own rt mn pc Ls (.int x :: rest) h L k n Q := by
  subst hX hp
  exact Go.pure (fun p e below T m c t hA hx hB hr => XS.ifNo hA hx rfl (hb hB hd) rfl ((if0 _ _).trans (icF hc)) hr) g
/-- lcmp and the branch behind it, in one -/
theorem Go.lcmpT {cd : ClassFile.Cond} {x y : Int64} {X Y : Int} {o : Int} {pc1 : Nat} (hd : decode B pc = .ok (.lcmp, 1)) (hd' : decode B pc1 = .ok (.ifCond cd o, 3)) (hp1 : pc + 1 = pc1) (hp : (pc1 : Int) + o = (pc' : Int)) (hX : x.toInt = X) (hY : y.toInt = Y) (hc : cT cd X Y) (g : Go Z l R B ml own rt mn pc' Ls rest h L k n Q) : Go Z l R B ml own rt mn pc Ls (.long y :: .long x :: rest) h L k n Q := by
  subst hX hY hp1
  exact Go.pure (fun p e below T m c t hA hx hB hr => XS.lcmp hA hx rfl (hb hB hd) rfl hr) (Go.pure (pc := pc + 1) (fun p e below T m c t hA hx hB hr => XS.ifYes hA hx rfl rfl (hb hB hd') rfl (lcT hc) (by rw [hp]; omega) (by rw [hp]; rfl) hr) g)
theorem Go.lcmpF {cd : ClassFile.Cond} {x y : Int64} {X Y : Int} {o : Int} {pc1 : Nat} (hd : decode B pc = .ok (.lcmp, 1)) (hd' : decode B pc1 = .ok (.ifCond cd o, 3)) (hp1 : pc + 1 = pc1) (hp : pc1 + 3 = pc') (hX : x.toInt = X) (hY : y.toInt = Y) (hc : cF cd X Y) (g : Go Z l R B ml own rt mn pc' Ls rest h L k n Q) : Go Z l R B ml own rt mn pc Ls (.long y :: .long x :: rest) h L k n Q := by
  subst hX hY hp1 hp
  exact Go.pure (fun p e below T m c t hA hx hB hr => XS.lcmp hA hx rfl (hb hB hd) rfl hr) (Go.pure (pc := pc + 1) (fun p e below T m c t hA hx hB hr => XS.ifNo hA hx rfl (hb hB hd') rfl (lcF hc) hr) g)
/-- one step that asks where the walk stands -/
theorem Go.stand {st st' : List Value} {Ls' : Array Slot} (step : ∀ (p : Program) (e : Env) (s : State) (m : MethodId) (args : Array Value) (below : List Frame) (meth : Method) (c : Code) (T : State) (target : State), Stand p l e R s m args below meth c T L k n → p.tables.exec = Jvm.exec → Z.Warmed39 s.vm → c.code = B → s.vm.findClass own = some m.cls → T.heap = h →
      Steps p.tables e below (T.setTop (mkF m pc' Ls' st')) target → Steps p.tables e below (T.setTop (mkF m pc Ls st)) target)
    (g : Go Z l R B ml own rt mn pc' Ls' st' h L k n Q) : Go Z l R B ml own rt mn pc Ls st h L k n Q := by
  intro p e s m args below meth c T X hx hZ hby hml hown hrt hlk hnm eT
  obtain ⟨s₂, o, h1, h2⟩ := g p e s m args below meth c T X hx hZ hby hml hown hrt hlk hnm eT
  exact ⟨s₂, o, step p e s m args below meth c T s₂ X hx hZ hby hown eT h1, h2⟩
theorem Go.acmp {cd : ACond} {x y : Value} {o : Int} {same : Bool} (hd : decode B pc = .ok (.if_acmp cd o, 3)) (h1 : x.isRef = true) (h2 : y.isRef = true) (hq : decide (x = y) = same) (ho : 0 ≤ (pc : Int) + o) (hp : pc' = if acV cd same = true then ((pc : Int) + o).toNat else pc + 3) (g : Go Z l R B ml own rt mn pc' Ls rest h L k n Q) : Go Z l R B ml own rt mn pc Ls (y :: x :: rest) h L k n Q :=
  Go.stand (fun p e s m args below meth c T t X hx hZ hB hown eT hr => Jvm.RoadKit.acmp (g := mkF m pc Ls (y :: x :: rest)) X hx rfl h1 h2 (pc0 := pc) (pc' := pc') (same := same) rfl (hb hB hd) rfl hq ho hp hr) g
theorem Go.ldcI {a0 : Array Value} {st : List Value} {i : Nat} {v : Int32} (hd : decode B pc = .ok (.ldc i, 2)) (hp : pc + 2 = pc') (w : (Jvm.Cond.constant own i v).before a0 Z = true) (g : Go Z l R B ml own rt mn pc' Ls (.int v :: st) h L k n Q) : Go Z l R B ml own rt mn pc Ls st h L k n Q := by
  subst hp
  exact Go.stand (fun p e s m args below meth c T t X hx hZ hB hown eT hr => X.ldcInt hx hown (mvT hZ w) (g := mkF m pc Ls st) rfl (hb hB hd) _ hr) g
theorem Go.ldcF {a0 : Array Value} {st : List Value} {i : Nat} {v : UInt32} (hd : decode B pc = .ok (.ldc i, 2)) (hp : pc + 2 = pc') (w : (Jvm.Cond.constantFloat own i v).before a0 Z = true) (g : Go Z l R B ml own rt mn pc' Ls (.float v :: st) h L k n Q) : Go Z l R B ml own rt mn pc Ls st h L k n Q := by
  subst hp
  exact Go.stand (fun p e s m args below meth c T t X hx hZ hB hown eT hr => X.ldcFloatC hx hown (mvT hZ w) (g := mkF m pc Ls st) rfl (hb hB hd) _ hr) g
theorem Go.ldc2 {a0 : Array Value} {st : List Value} {i : Nat} {v : Int64} (hd : decode B pc = .ok (.ldc2_w i, 3)) (hp : pc + 3 = pc') (w : (Jvm.Cond.constantLong own i v).before a0 Z = true) (g : Go Z l R B ml own rt mn pc' Ls (.long v :: st) h L k n Q) : Go Z l R B ml own rt mn pc Ls st h L k n Q := by
  subst hp
  exact Go.stand (fun p e s m args below meth c T t X hx hZ hB hown eT hr => X.ldc2Long hx hown (mvT hZ w) (g := mkF m pc Ls st) rfl (hb hB hd) _ hr) g
theorem Go.retI {z : Int32} (hd : decode B pc = .ok (.ireturn, 1)) (hrt' : rt = some .int) (hk : k ≤ R.cells) (hn : n ≤ R.slots) (q : Q (some (.int z)) h L) : Go Z l R B ml own rt mn pc Ls ((.int z) :: rest) h L k n Q := by
  intro p e s m args below meth c T X hx hZ hby hml hown hrt hlk hnm eT
  obtain ⟨fs, hr, hrun, hended, hW, hsame⟩ := X.leave (v := some (.int z)) (fun r => by rw [hrt, hrt'] at r; cases r)
  refine ⟨_, _, retOut X hx (hrt.trans hrt') (show narrow .int (.int z) = .int z from rfl) (Or.inl ⟨rfl, Or.inl rfl, _, rfl⟩) (hb hby hd) hr, hrun, hended, _, _, rfl, ?_, ⟨_, rfl⟩, hW, hsame.mono hk hn⟩
  show Q _ T.heap _
  rw [eT]; exact q
theorem Go.retZ {z : Int32} (hd : decode B pc = .ok (.ireturn, 1)) (hrt' : rt = some .boolean) (hz : z = 0 ∨ z = 1) (hk : k ≤ R.cells) (hn : n ≤ R.slots) (q : Q (some (.int z)) h L) : Go Z l R B ml own rt mn pc Ls ((.int z) :: rest) h L k n Q := by
  intro p e s m args below meth c T X hx hZ hby hml hown hrt hlk hnm eT
  obtain ⟨fs, hr, hrun, hended, hW, hsame⟩ := X.leave (v := some (.int z)) (fun r => by rw [hrt, hrt'] at r; cases r)
  refine ⟨_, _, retOut X hx (hrt.trans hrt') (show narrow .boolean (.int z) = .int z by rcases hz with rfl | rfl <;> rfl) (Or.inl ⟨rfl, Or.inr (Or.inl rfl), _, rfl⟩) (hb hby hd) hr, hrun, hended, _, _, rfl, ?_, ⟨_, rfl⟩, hW, hsame.mono hk hn⟩
  show Q _ T.heap _
  rw [eT]; exact q
theorem Go.retB {z : Int32} (hd : decode B pc = .ok (.ireturn, 1)) (hrt' : rt = some .byte) (hz : z.toInt8.toInt32 = z) (hk : k ≤ R.cells) (hn : n ≤ R.slots) (q : Q (some (.int z)) h L) : Go Z l R B ml own rt mn pc Ls ((.int z) :: rest) h L k n Q := by
  intro p e s m args below meth c T X hx hZ hby hml hown hrt hlk hnm eT
  obtain ⟨fs, hr, hrun, hended, hW, hsame⟩ := X.leave (v := some (.int z)) (fun r => by rw [hrt, hrt'] at r; cases r)
  refine ⟨_, _, retOut X hx (hrt.trans hrt') (show narrow .byte (.int z) = .int z from congrArg Value.int hz) (Or.inl ⟨rfl, Or.inr (Or.inr (Or.inl rfl)), _, rfl⟩) (hb hby hd) hr, hrun, hended, _, _, rfl, ?_, ⟨_, rfl⟩, hW, hsame.mono hk hn⟩
  show Q _ T.heap _
  rw [eT]; exact q
theorem Go.retJ {z : Int64} (hd : decode B pc = .ok (.lreturn, 1)) (hrt' : rt = some .long) (hk : k ≤ R.cells) (hn : n ≤ R.slots) (q : Q (some (.long z)) h L) : Go Z l R B ml own rt mn pc Ls ((.long z) :: rest) h L k n Q := by
  intro p e s m args below meth c T X hx hZ hby hml hown hrt hlk hnm eT
  obtain ⟨fs, hr, hrun, hended, hW, hsame⟩ := X.leave (v := some (.long z)) (fun r => by rw [hrt, hrt'] at r; cases r)
  refine ⟨_, _, retOut X hx (hrt.trans hrt') (show narrow .long (.long z) = .long z from rfl) (Or.inr (Or.inl ⟨rfl, rfl, _, rfl⟩)) (hb hby hd) hr, hrun, hended, _, _, rfl, ?_, ⟨_, rfl⟩, hW, hsame.mono hk hn⟩
  show Q _ T.heap _
  rw [eT]; exact q
theorem Go.retA {z : Value} {t : FieldType} (hd : decode B pc = .ok (.areturn, 1)) (hrt' : rt = some t) (ht : t.isReference = true) (hz : z.isRef = true) (hk : k ≤ R.cells) (hn : n ≤ R.slots) (q : Q (some z) h L) : Go Z l R B ml own rt mn pc Ls (z :: rest) h L k n Q := by
  intro p e s m args below meth c T X hx hZ hby hml hown hrt hlk hnm eT
  obtain ⟨fs, hr, hrun, hended, hW, hsame⟩ := X.leave (v := some z) (fun r => by rw [hrt, hrt'] at r; cases r)
  refine ⟨_, _, retOut X hx (hrt.trans hrt') (show narrow t z = z by rcases ref_cases hz with rfl | ⟨a, rfl⟩ <;> cases t <;> first | rfl | (simp [FieldType.isReference] at ht)) (Or.inr (Or.inr (Or.inr (Or.inr ⟨rfl, ht, hz⟩)))) (hb hby hd) hr, hrun, hended, _, _, rfl, ?_, ⟨_, rfl⟩, hW, hsame.mono hk hn⟩
  show Q _ T.heap _
  rw [eT]; exact q
theorem Go.retV (hd : decode B pc = .ok (.return_, 1)) (hrt' : rt = none) (hk : k ≤ R.cells) (hn : n ≤ R.slots) (q : Q none h L) : Go Z l R B ml own rt mn pc Ls [] h L k n Q := by
  intro p e s m args below meth c T X hx hZ hby hml hown hrt hlk hnm eT
  obtain ⟨fs, hr, hrun, hended, hW, hsame⟩ := X.leave (v := none) (fun _ => rfl)
  refine ⟨_, _, X.returnOut hx (hrt.trans hrt') (hb hby hd) hr, hrun, hended, _, _, rfl, ?_, ⟨_, rfl⟩, hW, hsame.mono hk hn⟩
  show Q _ T.heap _
  rw [eT]; exact q
theorem sel_priv {a0 args : Array Value} {s : State} {y : MethodName} {kk : Nat} (hZ : Z.Warmed39 s.vm) (wi : (Jvm.Cond.instantiable y.cls kk).before a0 Z = true) (wp : (Jvm.Cond.privateMethod y).before a0 Z = true) (w2 : (Jvm.Cond.instanceMethod y).before a0 Z = true) (hy : y.cls ≠ "java/lang/invoke/MethodHandle" ∧ y.cls ≠ "java/lang/invoke/VarHandle") : (Jvm.Cond.selects y.cls y y).before args s = true := by
  have wi' : (Jvm.Cond.instantiable y.cls kk).before args s = true := mvT hZ wi
  obtain ⟨cI, kI, i1, i2, -, i4, -⟩ := Cond.instantiable_spec wi'
  exact selects_self_of_private i1 i2 (Bool.or_eq_false_iff.mp i4).1 (Cond.privateMethod_at (mvP hZ wp (args := #[]))) (mvT hZ w2) hy
theorem Go.callS {a0 : Array Value} {i : Nat} {y : MethodName} {B' : ByteArray} {ml' : Nat} {rt' : Option FieldType} {R' : Room} {Q' : Option Value → Heap → List Loc → Prop} {W : Nat} {argsL : List Value} {st : List Value} {ps : List FieldType} {r : Option FieldType}
    (hd : decode B pc = .ok (.invokestatic i, 3)) (hp : pc + 3 = pc') (w1 : (Jvm.Cond.methodLink own i y).before a0 Z = true) (w2 : (Jvm.Cond.static y).before a0 Z = true) (w3 : (Jvm.Cond.initialized y.cls).before a0 Z = true) (w4 : (Jvm.Cond.code y B' ml' rt').before a0 Z = true) (hy : y.cls ≠ "java/lang/invoke/MethodHandle" ∧ y.cls ≠ "java/lang/invoke/VarHandle")
    (con : Con l Z y B' ml' rt' R' [] argsL.toArray h Q') (hf : R'.frames + 1 ≤ R.frames) (hl : W + (ml' + 11) + R'.locals ≤ R.locals) {k' n' : Nat} (hc : k + R'.cells ≤ R.cells) (hn : n + R'.slots ≤ R.slots) (hk' : k + R'.cells = k') (hn' : n + R'.slots = n') (hsz : Ls.size = ml) (hpd : parseMethodDescriptor y.desc = some ⟨ps, r⟩) (hlen : argsL.length = ps.length) (hst : st = argsL.reverse ++ rest) (hW : (rest.map fun v => v.category).sum ≤ W)
    (g : ∀ v h' L' L'', (∀ q, Fr q L → Fr q L' → Fr q L'') → Q' v h' L' → Go Z l R B ml own rt mn pc' Ls (v.toList ++ rest) h' L'' k' n' Q) : Go Z l R B ml own rt mn pc Ls st h L k n Q := by
  subst hp hk' hn'
  intro p e s m args below meth c T X hx hZ hby hml hown hrt hlk hnm eT
  obtain ⟨v, _, ⟨U, ls, cc, sl⟩, -, X', ⟨Lc, hQ, l1, y1, z1⟩, stp⟩ := Jvm.LawKit.callS X hx (y := y) hown (mvT hZ w1) (mvT hZ w2) (mvT hZ w3) (mvT hZ w4) hy (backOf (W := W) con hZ w4 w3 hf hl) (g := mkF m pc Ls st) rfl (hsz.trans hml.symm) (argsL := argsL) (rest := rest) (lenOf hpd hlen) hst (by show 2 * 0 + _ ≤ _; omega) (hb hby hd) (fun _ _ => ⟨rfl, eT, hc, hn⟩)
  dsimp only [Pt.U, Pt.locs, Pt.cells, Pt.slots] at X' hQ l1 y1 z1 stp
  subst l1 y1 z1
  obtain ⟨s₂, o, h1, h2⟩ := g v U.heap Lc _ (fun q a b => a.app b) hQ p e s m args below meth c U X' hx hZ hby hml hown hrt hlk hnm rfl
  exact ⟨s₂, o, stp _ h1, h2⟩
theorem Go.callS0 {a0 : Array Value} {i : Nat} {y : MethodName} {B' : ByteArray} {ml' : Nat} {rt' : Option FieldType} {R' : Room} {v0 : Option Value} {W : Nat} {argsL : List Value} {st : List Value} {ps : List FieldType} {r : Option FieldType}
    (hd : decode B pc = .ok (.invokestatic i, 3)) (hp : pc + 3 = pc') (w1 : (Jvm.Cond.methodLink own i y).before a0 Z = true) (w2 : (Jvm.Cond.static y).before a0 Z = true) (w3 : (Jvm.Cond.initialized y.cls).before a0 Z = true) (w4 : (Jvm.Cond.code y B' ml' rt').before a0 Z = true) (hy : y.cls ≠ "java/lang/invoke/MethodHandle" ∧ y.cls ≠ "java/lang/invoke/VarHandle")
    (con : Con l Z y B' ml' rt' R' [] argsL.toArray h (PQ h v0)) (hf : R'.frames + 1 ≤ R.frames) (hl : W + (ml' + 11) + R'.locals ≤ R.locals) {st2 : List Value} (hs2 : v0.toList ++ rest = st2) (hc : R'.cells = 0) (hn : R'.slots = 0) (hk : k ≤ R.cells) (hn2 : n ≤ R.slots) (hsz : Ls.size = ml) (hpd : parseMethodDescriptor y.desc = some ⟨ps, r⟩) (hlen : argsL.length = ps.length) (hst : st = argsL.reverse ++ rest) (hW : (rest.map fun v => v.category).sum ≤ W)
    (g : Go Z l R B ml own rt mn pc' Ls st2 h L k n Q) : Go Z l R B ml own rt mn pc Ls st h L k n Q := by
  subst hp hs2
  intro p e s m args below meth c T X hx hZ hby hml hown hrt hlk hnm eT
  obtain ⟨v, _, ⟨U, ls, cc, sl⟩, -, X', ⟨Lc, hQ, l1, y1, z1⟩, stp⟩ := Jvm.LawKit.callS X hx (y := y) hown (mvT hZ w1) (mvT hZ w2) (mvT hZ w3) (mvT hZ w4) hy (backOf (W := W) con hZ w4 w3 hf hl) (g := mkF m pc Ls st) rfl (hsz.trans hml.symm) (argsL := argsL) (rest := rest) (lenOf hpd hlen) hst (by show 2 * 0 + _ ≤ _; omega) (hb hby hd) (fun _ _ => ⟨rfl, eT, (by rw [hc]; exact hk), (by rw [hn]; exact hn2)⟩)
  dsimp only [Pt.U, Pt.locs, Pt.cells, Pt.slots] at X' hQ l1 y1 z1 stp
  obtain ⟨q1, q2, q3⟩ := hQ
  rw [q3, List.append_nil] at l1
  rw [hc, Nat.add_zero] at y1
  rw [hn, Nat.add_zero] at z1
  subst l1 y1 z1
  rw [q1] at stp
  obtain ⟨s₂, o, h1, h2⟩ := g p e s m args below meth c U X' hx hZ hby hml hown hrt hlk hnm q2
  exact ⟨s₂, o, stp _ h1, h2⟩
theorem Go.callI {a0 : Array Value} {i : Nat} {y : MethodName} {B' : ByteArray} {ml' : Nat} {R' : Room} {Q' : Option Value → Heap → List Loc → Prop} {W : Nat} {a : Addr} {argsL : List Value} {st : List Value} {ps : List FieldType} {r : Option FieldType}
    (hd : decode B pc = .ok (.invokespecial i, 3)) (hp : pc + 3 = pc') (hy1 : y.name = "<init>") (w1 : (Jvm.Cond.methodLink own i y).before a0 Z = true) (w2 : (Jvm.Cond.instanceMethod y).before a0 Z = true) (w3 : (Jvm.Cond.initialized y.cls).before a0 Z = true) (w4 : (Jvm.Cond.code y B' ml' none).before a0 Z = true) (hy : y.cls ≠ "java/lang/invoke/MethodHandle" ∧ y.cls ≠ "java/lang/invoke/VarHandle")
    (con : Con l Z y B' ml' none R' [] (.ref a :: argsL).toArray h Q') (hf : R'.frames + 1 ≤ R.frames) (hl : W + (ml' + 11) + R'.locals ≤ R.locals) {k' n' : Nat} (hc : k + R'.cells ≤ R.cells) (hn : n + R'.slots ≤ R.slots) (hk' : k + R'.cells = k') (hn' : n + R'.slots = n') (hsz : Ls.size = ml) (hpd : parseMethodDescriptor y.desc = some ⟨ps, r⟩) (hlen : argsL.length = ps.length) (hst : st = argsL.reverse ++ .ref a :: rest) (hW : (rest.map fun v => v.category).sum ≤ W)
    (g : ∀ v h' L' L'', (∀ q, Fr q L → Fr q L' → Fr q L'') → Q' v h' L' → Go Z l R B ml own rt mn pc' Ls (v.toList ++ rest) h' L'' k' n' Q) : Go Z l R B ml own rt mn pc Ls st h L k n Q := by
  subst hp hk' hn'
  intro p e s m args below meth c T X hx hZ hby hml hown hrt hlk hnm eT
  obtain ⟨v, _, ⟨U, ls, cc, sl⟩, -, X', ⟨Lc, hQ, l1, y1, z1⟩, stp⟩ := X.specialBack hx (y := y) hy1 hown (mvT hZ w1) (mvT hZ w2) (mvT hZ w4) hy (backOf (W := W) con hZ w4 w3 hf hl) (g := mkF m pc Ls st) rfl (hsz.trans hml.symm) (Steps.refl _) (a := a) (argsL := argsL) (rest := rest) (lenOf hpd hlen) hst (by show 2 * 0 + _ ≤ _; omega) (hb hby hd) (fun _ _ => ⟨rfl, eT, hc, hn⟩)
  dsimp only [Pt.U, Pt.locs, Pt.cells, Pt.slots] at X' hQ l1 y1 z1 stp
  subst l1 y1 z1
  obtain ⟨s₂, o, h1, h2⟩ := g v U.heap Lc _ (fun q a b => a.app b) hQ p e s m args below meth c U X' hx hZ hby hml hown hrt hlk hnm rfl
  exact ⟨s₂, o, stp.trans h1, h2⟩
theorem Go.callI0 {a0 : Array Value} {i : Nat} {y : MethodName} {B' : ByteArray} {ml' : Nat} {R' : Room} {v0 : Option Value} {W : Nat} {a : Addr} {argsL : List Value} {st : List Value} {ps : List FieldType} {r : Option FieldType}
    (hd : decode B pc = .ok (.invokespecial i, 3)) (hp : pc + 3 = pc') (hy1 : y.name = "<init>") (w1 : (Jvm.Cond.methodLink own i y).before a0 Z = true) (w2 : (Jvm.Cond.instanceMethod y).before a0 Z = true) (w3 : (Jvm.Cond.initialized y.cls).before a0 Z = true) (w4 : (Jvm.Cond.code y B' ml' none).before a0 Z = true) (hy : y.cls ≠ "java/lang/invoke/MethodHandle" ∧ y.cls ≠ "java/lang/invoke/VarHandle")
    (con : Con l Z y B' ml' none R' [] (.ref a :: argsL).toArray h (PQ h v0)) (hf : R'.frames + 1 ≤ R.frames) (hl : W + (ml' + 11) + R'.locals ≤ R.locals) {st2 : List Value} (hs2 : v0.toList ++ rest = st2) (hc : R'.cells = 0) (hn : R'.slots = 0) (hk : k ≤ R.cells) (hn2 : n ≤ R.slots) (hsz : Ls.size = ml) (hpd : parseMethodDescriptor y.desc = some ⟨ps, r⟩) (hlen : argsL.length = ps.length) (hst : st = argsL.reverse ++ .ref a :: rest) (hW : (rest.map fun v => v.category).sum ≤ W)
    (g : Go Z l R B ml own rt mn pc' Ls st2 h L k n Q) : Go Z l R B ml own rt mn pc Ls st h L k n Q := by
  subst hp hs2
  intro p e s m args below meth c T X hx hZ hby hml hown hrt hlk hnm eT
  obtain ⟨v, _, ⟨U, ls, cc, sl⟩, -, X', ⟨Lc, hQ, l1, y1, z1⟩, stp⟩ := X.specialBack hx (y := y) hy1 hown (mvT hZ w1) (mvT hZ w2) (mvT hZ w4) hy (backOf (W := W) con hZ w4 w3 hf hl) (g := mkF m pc Ls st) rfl (hsz.trans hml.symm) (Steps.refl _) (a := a) (argsL := argsL) (rest := rest) (lenOf hpd hlen) hst (by show 2 * 0 + _ ≤ _; omega) (hb hby hd) (fun _ _ => ⟨rfl, eT, (by rw [hc]; exact hk), (by rw [hn]; exact hn2)⟩)
  dsimp only [Pt.U, Pt.locs, Pt.cells, Pt.slots] at X' hQ l1 y1 z1 stp
  obtain ⟨q1, q2, q3⟩ := hQ
  rw [q3, List.append_nil] at l1
  rw [hc, Nat.add_zero] at y1
  rw [hn, Nat.add_zero] at z1
  subst l1 y1 z1
  rw [q1] at stp
  obtain ⟨s₂, o, h1, h2⟩ := g p e s m args below meth c U X' hx hZ hby hml hown hrt hlk hnm q2
  exact ⟨s₂, o, stp.trans h1, h2⟩
theorem Go.callV {a0 : Array Value} {i : Nat} {C : String} {y z : MethodName} {B' : ByteArray} {ml' : Nat} {rt' : Option FieldType} {R' : Room} {Q' : Option Value → Heap → List Loc → Prop} {W : Nat} {a : Addr} {argsL : List Value} {st : List Value} {ps : List FieldType} {r : Option FieldType}
    (hd : decode B pc = .ok (.invokevirtual i, 3)) (hp : pc + 3 = pc') (w1 : (Jvm.Cond.methodLink own i y).before a0 Z = true) (w2 : (Jvm.Cond.declares y).before a0 Z = true) (nf : ∀ (s : State) (args : Array Value), Z.Warmed39 s.vm → NotFace s y) (w5 : (Jvm.Cond.selects C y z).before a0 Z = true) (w6 : (Jvm.Cond.instanceMethod z).before a0 Z = true) (w3 : (Jvm.Cond.initialized z.cls).before a0 Z = true) (w4 : (Jvm.Cond.code z B' ml' rt').before a0 Z = true) (E : Exa Z h a C) (hy : y.cls ≠ "java/lang/invoke/MethodHandle" ∧ y.cls ≠ "java/lang/invoke/VarHandle")
    (con : Con l Z z B' ml' rt' R' [] (.ref a :: argsL).toArray h Q') (hf : R'.frames + 1 ≤ R.frames) (hl : W + (ml' + 11) + R'.locals ≤ R.locals) {k' n' : Nat} (hc : k + R'.cells ≤ R.cells) (hn : n + R'.slots ≤ R.slots) (hk' : k + R'.cells = k') (hn' : n + R'.slots = n') (hsz : Ls.size = ml) (hpd : parseMethodDescriptor y.desc = some ⟨ps, r⟩) (hlen : argsL.length = ps.length) (hst : st = argsL.reverse ++ .ref a :: rest) (hW : (rest.map fun v => v.category).sum ≤ W)
    (g : ∀ v h' L' L'', (∀ q, Fr q L → Fr q L' → Fr q L'') → Q' v h' L' → Go Z l R B ml own rt mn pc' Ls (v.toList ++ rest) h' L'' k' n' Q) : Go Z l R B ml own rt mn pc Ls st h L k n Q := by
  subst hp hk' hn'
  intro p e s m args below meth c T X hx hZ hby hml hown hrt hlk hnm eT
  obtain ⟨cq, kq, qa, qb, qc⟩ := isOf hZ eT E
  obtain ⟨v, _, ⟨U, ls, cc, sl⟩, -, X', ⟨Lc, hQ, l1, y1, z1⟩, stp⟩ := X.virtualBack hx (y := y) (z := z) hown (mvT hZ w1) (mvT hZ w2) (nf s args hZ) (mvT hZ w5) (mvT hZ w6) hy (backOf (W := W) con hZ w4 w3 hf hl) qa qc (g := mkF m pc Ls st) rfl (hsz.trans hml.symm) (Steps.refl _) (argsL := argsL) (rest := rest) (lenOf hpd hlen) hst (by show 2 * 0 + _ ≤ _; omega) (hb hby hd) (fun _ _ => ⟨rfl, eT, hc, hn⟩)
  dsimp only [Pt.U, Pt.locs, Pt.cells, Pt.slots] at X' hQ l1 y1 z1 stp
  subst l1 y1 z1
  obtain ⟨s₂, o, h1, h2⟩ := g v U.heap Lc _ (fun q a b => a.app b) hQ p e s m args below meth c U X' hx hZ hby hml hown hrt hlk hnm rfl
  exact ⟨s₂, o, stp.trans h1, h2⟩
theorem Go.callV0 {a0 : Array Value} {i : Nat} {C : String} {y z : MethodName} {B' : ByteArray} {ml' : Nat} {rt' : Option FieldType} {R' : Room} {v0 : Option Value} {W : Nat} {a : Addr} {argsL : List Value} {st : List Value} {ps : List FieldType} {r : Option FieldType}
    (hd : decode B pc = .ok (.invokevirtual i, 3)) (hp : pc + 3 = pc') (w1 : (Jvm.Cond.methodLink own i y).before a0 Z = true) (w2 : (Jvm.Cond.declares y).before a0 Z = true) (nf : ∀ (s : State) (args : Array Value), Z.Warmed39 s.vm → NotFace s y) (w5 : (Jvm.Cond.selects C y z).before a0 Z = true) (w6 : (Jvm.Cond.instanceMethod z).before a0 Z = true) (w3 : (Jvm.Cond.initialized z.cls).before a0 Z = true) (w4 : (Jvm.Cond.code z B' ml' rt').before a0 Z = true) (E : Exa Z h a C) (hy : y.cls ≠ "java/lang/invoke/MethodHandle" ∧ y.cls ≠ "java/lang/invoke/VarHandle")
    (con : Con l Z z B' ml' rt' R' [] (.ref a :: argsL).toArray h (PQ h v0)) (hf : R'.frames + 1 ≤ R.frames) (hl : W + (ml' + 11) + R'.locals ≤ R.locals) {st2 : List Value} (hs2 : v0.toList ++ rest = st2) (hc : R'.cells = 0) (hn : R'.slots = 0) (hk : k ≤ R.cells) (hn2 : n ≤ R.slots) (hsz : Ls.size = ml) (hpd : parseMethodDescriptor y.desc = some ⟨ps, r⟩) (hlen : argsL.length = ps.length) (hst : st = argsL.reverse ++ .ref a :: rest) (hW : (rest.map fun v => v.category).sum ≤ W)
    (g : Go Z l R B ml own rt mn pc' Ls st2 h L k n Q) : Go Z l R B ml own rt mn pc Ls st h L k n Q := by
  subst hp hs2
  intro p e s m args below meth c T X hx hZ hby hml hown hrt hlk hnm eT
  obtain ⟨cq, kq, qa, qb, qc⟩ := isOf hZ eT E
  obtain ⟨v, _, ⟨U, ls, cc, sl⟩, -, X', ⟨Lc, hQ, l1, y1, z1⟩, stp⟩ := X.virtualBack hx (y := y) (z := z) hown (mvT hZ w1) (mvT hZ w2) (nf s args hZ) (mvT hZ w5) (mvT hZ w6) hy (backOf (W := W) con hZ w4 w3 hf hl) qa qc (g := mkF m pc Ls st) rfl (hsz.trans hml.symm) (Steps.refl _) (argsL := argsL) (rest := rest) (lenOf hpd hlen) hst (by show 2 * 0 + _ ≤ _; omega) (hb hby hd) (fun _ _ => ⟨rfl, eT, (by rw [hc]; exact hk), (by rw [hn]; exact hn2)⟩)
  dsimp only [Pt.U, Pt.locs, Pt.cells, Pt.slots] at X' hQ l1 y1 z1 stp
  obtain ⟨q1, q2, q3⟩ := hQ
  rw [q3, List.append_nil] at l1
  rw [hc, Nat.add_zero] at y1
  rw [hn, Nat.add_zero] at z1
  subst l1 y1 z1
  rw [q1] at stp
  obtain ⟨s₂, o, h1, h2⟩ := g p e s m args below meth c U X' hx hZ hby hml hown hrt hlk hnm q2
  exact ⟨s₂, o, stp.trans h1, h2⟩
theorem Go.callP {a0 : Array Value} {i : Nat} {C : String} {kk : Nat} {y : MethodName} {B' : ByteArray} {ml' : Nat} {rt' : Option FieldType} {R' : Room} {Q' : Option Value → Heap → List Loc → Prop} {W : Nat} {a : Addr} {argsL : List Value} {st : List Value} {ps : List FieldType} {r : Option FieldType}
    (hd : decode B pc = .ok (.invokevirtual i, 3)) (hp : pc + 3 = pc') (w1 : (Jvm.Cond.methodLink own i y).before a0 Z = true) (w2 : (Jvm.Cond.instanceMethod y).before a0 Z = true) (w5 : (Jvm.Cond.instantiable y.cls kk).before a0 Z = true) (w6 : (Jvm.Cond.privateMethod y).before a0 Z = true) (w3 : (Jvm.Cond.initialized y.cls).before a0 Z = true) (w4 : (Jvm.Cond.code y B' ml' rt').before a0 Z = true) (E : Exa Z h a C) (hy : y.cls ≠ "java/lang/invoke/MethodHandle" ∧ y.cls ≠ "java/lang/invoke/VarHandle")
    (con : Con l Z y B' ml' rt' R' [] (.ref a :: argsL).toArray h Q') (hf : R'.frames + 1 ≤ R.frames) (hl : W + (ml' + 11) + R'.locals ≤ R.locals) {k' n' : Nat} (hc : k + R'.cells ≤ R.cells) (hn : n + R'.slots ≤ R.slots) (hk' : k + R'.cells = k') (hn' : n + R'.slots = n') (hsz : Ls.size = ml) (hpd : parseMethodDescriptor y.desc = some ⟨ps, r⟩) (hlen : argsL.length = ps.length) (hst : st = argsL.reverse ++ .ref a :: rest) (hW : (rest.map fun v => v.category).sum ≤ W)
    (g : ∀ v h' L' L'', (∀ q, Fr q L → Fr q L' → Fr q L'') → Q' v h' L' → Go Z l R B ml own rt mn pc' Ls (v.toList ++ rest) h' L'' k' n' Q) : Go Z l R B ml own rt mn pc Ls st h L k n Q := by
  subst hp hk' hn'
  intro p e s m args below meth c T X hx hZ hby hml hown hrt hlk hnm eT
  obtain ⟨cq, q1, q2⟩ := E.cell
  obtain ⟨v, _, ⟨U, ls, cc, sl⟩, -, X', ⟨Lc, hQ, l1, y1, z1⟩, stp⟩ := X.privateBack hx (y := y) hown (mvT hZ w1) (mvT hZ w2) (sel_priv hZ w5 w6 w2 hy) (Cond.privateMethod_at (mvP hZ w6 (args := #[]))) (mvT hZ w4) hy (backOf (W := W) con hZ w4 w3 hf hl) (g := mkF m pc Ls st) rfl (hsz.trans hml.symm) (Steps.refl _) (a := a) (by rw [eT]; exact q1) q2 (argsL := argsL) (rest := rest) (lenOf hpd hlen) hst (by show 2 * 0 + _ ≤ _; omega) (hb hby hd) (fun _ _ => ⟨rfl, eT, hc, hn⟩)
  dsimp only [Pt.U, Pt.locs, Pt.cells, Pt.slots] at X' hQ l1 y1 z1 stp
  subst l1 y1 z1
  obtain ⟨s₂, o, h1, h2⟩ := g v U.heap Lc _ (fun q a b => a.app b) hQ p e s m args below meth c U X' hx hZ hby hml hown hrt hlk hnm rfl
  exact ⟨s₂, o, stp.trans h1, h2⟩
theorem Go.callP0 {a0 : Array Value} {i : Nat} {C : String} {kk : Nat} {y : MethodName} {B' : ByteArray} {ml' : Nat} {rt' : Option FieldType} {R' : Room} {v0 : Option Value} {W : Nat} {a : Addr} {argsL : List Value} {st : List Value} {ps : List FieldType} {r : Option FieldType}
    (hd : decode B pc = .ok (.invokevirtual i, 3)) (hp : pc + 3 = pc') (w1 : (Jvm.Cond.methodLink own i y).before a0 Z = true) (w2 : (Jvm.Cond.instanceMethod y).before a0 Z = true) (w5 : (Jvm.Cond.instantiable y.cls kk).before a0 Z = true) (w6 : (Jvm.Cond.privateMethod y).before a0 Z = true) (w3 : (Jvm.Cond.initialized y.cls).before a0 Z = true) (w4 : (Jvm.Cond.code y B' ml' rt').before a0 Z = true) (E : Exa Z h a C) (hy : y.cls ≠ "java/lang/invoke/MethodHandle" ∧ y.cls ≠ "java/lang/invoke/VarHandle")
    (con : Con l Z y B' ml' rt' R' [] (.ref a :: argsL).toArray h (PQ h v0)) (hf : R'.frames + 1 ≤ R.frames) (hl : W + (ml' + 11) + R'.locals ≤ R.locals) {st2 : List Value} (hs2 : v0.toList ++ rest = st2) (hc : R'.cells = 0) (hn : R'.slots = 0) (hk : k ≤ R.cells) (hn2 : n ≤ R.slots) (hsz : Ls.size = ml) (hpd : parseMethodDescriptor y.desc = some ⟨ps, r⟩) (hlen : argsL.length = ps.length) (hst : st = argsL.reverse ++ .ref a :: rest) (hW : (rest.map fun v => v.category).sum ≤ W)
    (g : Go Z l R B ml own rt mn pc' Ls st2 h L k n Q) : Go Z l R B ml own rt mn pc Ls st h L k n Q := by
  subst hp hs2
  intro p e s m args below meth c T X hx hZ hby hml hown hrt hlk hnm eT
  obtain ⟨cq, q1, q2⟩ := E.cell
  obtain ⟨v, _, ⟨U, ls, cc, sl⟩, -, X', ⟨Lc, hQ, l1, y1, z1⟩, stp⟩ := X.privateBack hx (y := y) hown (mvT hZ w1) (mvT hZ w2) (sel_priv hZ w5 w6 w2 hy) (Cond.privateMethod_at (mvP hZ w6 (args := #[]))) (mvT hZ w4) hy (backOf (W := W) con hZ w4 w3 hf hl) (g := mkF m pc Ls st) rfl (hsz.trans hml.symm) (Steps.refl _) (a := a) (by rw [eT]; exact q1) q2 (argsL := argsL) (rest := rest) (lenOf hpd hlen) hst (by show 2 * 0 + _ ≤ _; omega) (hb hby hd) (fun _ _ => ⟨rfl, eT, (by rw [hc]; exact hk), (by rw [hn]; exact hn2)⟩)
  dsimp only [Pt.U, Pt.locs, Pt.cells, Pt.slots] at X' hQ l1 y1 z1 stp
  obtain ⟨q1, q2, q3⟩ := hQ
  rw [q3, List.append_nil] at l1
  rw [hc, Nat.add_zero] at y1
  rw [hn, Nat.add_zero] at z1
  subst l1 y1 z1
  rw [q1] at stp
  obtain ⟨s₂, o, h1, h2⟩ := g p e s m args below meth c U X' hx hZ hby hml hown hrt hlk hnm q2
  exact ⟨s₂, o, stp.trans h1, h2⟩
theorem nf_sel {a0 : Array Value} {C : String} {y : MethodName} (w : (Jvm.Cond.selects C y y).before a0 Z = true) : ∀ (s : State) (args : Array Value), Z.Warmed39 s.vm → NotFace s y := fun s args hZ => notFace_of_selects (args := args) (mvT hZ w)
theorem Go.initO {a0 : Array Value} {i : Nat} {W : Nat} {a : Addr} (hd : decode B pc = .ok (.invokespecial i, 3)) (hp : pc + 3 = pc') (w1 : (Jvm.Cond.methodLink own i Lib.objectInit).before a0 Z = true) (w2 : (Jvm.Cond.instanceMethod Lib.objectInit).before a0 Z = true) (w3 : (Jvm.Cond.code Lib.objectInit ⟨#[0xb1]⟩ 1 none).before a0 Z = true) (hf : 1 ≤ R.frames) (hl : W + 12 ≤ R.locals) (hsz : Ls.size = ml) (hW : (rest.map fun v => v.category).sum ≤ W)
    (g : Go Z l R B ml own rt mn pc' Ls rest h L k n Q) : Go Z l R B ml own rt mn pc Ls (.ref a :: rest) h L k n Q := by
  subst hp
  intro p e s m args below meth c T X hx hZ hby hml hown hrt hlk hnm eT
  obtain ⟨T', X', e', stp⟩ := Jvm.RoadKit.initO X hx hZ hown w1 w2 w3 eT (g := mkF m pc Ls (.ref a :: rest)) rfl (hsz.trans hml.symm) rfl (hb hby hd) hf (W := W) (by show 2 * 0 + _ ≤ _; omega) hl
  obtain ⟨s₂, o, h1, h2⟩ := g p e s m args below meth c T' X' hx hZ hby hml hown hrt hlk hnm e'
  exact ⟨s₂, o, stp _ h1, h2⟩
/-! objects -/
theorem Go.newO {a0 : Array Value} {st : List Value} {i sz : Nat} {C : String} {k' n' : Nat} (hd : decode B pc = .ok (.new i, 3)) (hp : pc + 3 = pc') (w : (Jvm.Cond.classLink own i C).before a0 Z = true) (wi : (Jvm.Cond.instantiable C sz).before a0 Z = true) (wz : (Jvm.Cond.initialized C).before a0 Z = true) (hc : k + 1 ≤ R.cells) (hl : n + sz ≤ R.slots) (hk' : k + 1 = k') (hn' : n + sz = n')
    (g : ∀ h' a, a = h.size → Ext h h' → Exa Z h' a C → (∀ {O nm d : String} {ty : FieldType}, Laid Z a0 C O nm d → parseFieldDescriptor d = some ty → Fld Z h' a O nm d (defaultValue ty)) → Go Z l R B ml own rt mn pc' Ls (.ref a :: st) h' L k' n' Q) : Go Z l R B ml own rt mn pc Ls st h L k n Q := by
  subst hp hk' hn'
  intro p e s m args below meth c T X hx hZ hby hml hown hrt hlk hnm eT
  obtain ⟨T', h', X', e', E', A', D', -, stp⟩ := Jvm.RoadKit.newO X hx hZ hown w wi wz eT (g := mkF m pc Ls st) rfl (hb hby hd) hc hl
  obtain ⟨s₂, o, h1, h2⟩ := g h' _ rfl E' A' D' p e s m args below meth c T' X' hx hZ hby hml hown hrt hlk hnm e'
  exact ⟨s₂, o, stp _ h1, h2⟩
theorem Go.getF {a0 : Array Value} {i : Nat} {R0 O f d : String} {a : Addr} {v : Value} (hd : decode B pc = .ok (.getfield i, 3)) (hp : pc + 3 = pc') (w : (Jvm.Cond.fieldLink own i R0 f d).before a0 Z = true) (via : Via Z R0 O f d) (F : Fld Z h a O f d v) (g : Go Z l R B ml own rt mn pc' Ls (v :: rest) h L k n Q) : Go Z l R B ml own rt mn pc Ls (.ref a :: rest) h L k n Q := by
  subst hp
  intro p e s m args below meth c T X hx hZ hby hml hown hrt hlk hnm eT
  obtain ⟨T', X', e', stp⟩ := Jvm.RoadKit.getF X hx hZ hown (host := "") (Or.inl w) via eT F (g := mkF m pc Ls (.ref a :: rest)) rfl rfl (hb hby hd)
  obtain ⟨s₂, o, h1, h2⟩ := g p e s m args below meth c T' X' hx hZ hby hml hown hrt hlk hnm e'
  exact ⟨s₂, o, stp _ h1, h2⟩
theorem Go.putF {a0 : Array Value} {i kk : Nat} {R0 O f d C : String} {a : Addr} {v old : Value} {ty : FieldType} (hd : decode B pc = .ok (.putfield i, 3)) (hp : pc + 3 = pc') (w : (Jvm.Cond.fieldLink own i R0 f d).before a0 Z = true) (via : Via Z R0 O f d) (F : Fld Z h a O f d old) (E : Exa Z h a C) (lw : (Jvm.Cond.lays C O f d).before a0 Z = true ∨ ((Jvm.Cond.laysFinal C O f d).before a0 Z = true ∧ own = O ∧ mn = "<init>")) (wi : (Jvm.Cond.instantiable C kk).before a0 Z = true)
    (hty : parseFieldDescriptor d = some ty) (hn : narrow ty v = v) (hf : fits ty v = true) (g : ∀ h' L', (∀ q, Fr q L → q ≤ a → Fr q L') → Wr h h' a (Jvm.RoadKit.slotOf Z O f d) v → Go Z l R B ml own rt mn pc' Ls rest h' L' k n Q) : Go Z l R B ml own rt mn pc Ls (v :: .ref a :: rest) h L k n Q := by
  subst hp
  intro p e s m args below meth c T X hx hZ hby hml hown hrt hlk hnm eT
  obtain ⟨T', h', X', e', W', stp⟩ := Jvm.RoadKit.putF X hx hZ hown (host := "") (Or.inl w) via eT F E (lw.imp id fun q => ⟨q.1, q.2.1, hnm.trans q.2.2⟩) wi hty hn hf (g := mkF m pc Ls (v :: .ref a :: rest)) rfl rfl (hb hby hd)
  obtain ⟨s₂, o, h1, h2⟩ := g h' _ (fun q N r => fr_one N r) W' p e s m args below meth c T' X' hx hZ hby hml hown hrt hlk hnm e'
  exact ⟨s₂, o, stp _ h1, h2⟩
/-! arrays: the very list of values -/
def Al (Z : State) (h : Heap) (a : Addr) (ty : FieldType) (vs : List Value) : Prop := vs.length < 2 ^ 31 ∧ ∃ c : Cell, Arr Z h a c ty ∧ c.slots = vs.toArray
theorem Al.lt {a : Addr} {ty : FieldType} {vs : List Value} (A : Al Z h a ty vs) : a < h.size := by obtain ⟨-, c, A, -⟩ := A; exact A.lt
theorem Al.ext {h' : Heap} {a : Addr} {ty : FieldType} {vs : List Value} (A : Al Z h a ty vs) (E : Ext h h') : Al Z h' a ty vs := by obtain ⟨q, c, A, r⟩ := A; exact ⟨q, c, A.ext E, r⟩
theorem Al.other {h' : Heap} {a b : Addr} {sl : Nat} {v : Value} {ty : FieldType} {vs : List Value} (A : Al Z h b ty vs) (W : Wr h h' a sl v) (ne : b ≠ a) : Al Z h' b ty vs := by obtain ⟨q, c, A, r⟩ := A; exact ⟨q, c, A.other W ne, r⟩
theorem Al.keep {h' : Heap} {a : Addr} {ty : FieldType} {vs : List Value} {ws : List Addr} (A : Al Z h a ty vs) (K : Keep h h' ws) (q : a ∉ ws) : Al Z h' a ty vs := by obtain ⟨q0, c, A, r⟩ := A; exact ⟨q0, c, ⟨K.2.1 a c A.1 q, A.2⟩, r⟩
theorem Al.set {h' : Heap} {a : Addr} {ty : FieldType} {vs : List Value} {i : Nat} {v : Value} (A : Al Z h a ty vs) (W : Wr h h' a i v) : Al Z h' a ty (vs.set i v) := by
  obtain ⟨q, c, A, r⟩ := A
  refine ⟨by simpa using q, c.setSlot i v, A.same W, ?_⟩
  simp [Cell.setSlot, r]
theorem Al.new {a : Addr} {ty : FieldType} {kc : ClassId} {z : Int32} {N : Nat} (A : Arr Z h a (newA kc ty z) ty) (hz : z.toInt = (N : Int)) : Al Z h a ty (List.replicate N (defaultValue ty)) := by
  have h1 : z.toNatClampNeg = N := by show z.toInt.toNat = N; omega
  have h2 := z.toInt_lt
  refine ⟨by simp; omega, _, A, ?_⟩
  simp [newA, h1]
theorem ne_al {a0 : Array Value} {a b : Addr} {C : String} {kk : Nat} {ty : FieldType} {vs : List Value} (F : Exa Z h a C) (wi : (Jvm.Cond.instantiable C kk).before a0 Z = true) (A : Al Z h b ty vs) : a ≠ b := by obtain ⟨-, c, A, -⟩ := A; exact ne_arr F wi A
theorem in_of {c : Cell} {vs : List Value} {j : Int32} {i : Nat} (r : c.slots = vs.toArray) (hj : j.toInt = (i : Int)) (hi : i < vs.length) : ¬ (j < 0 ∨ c.slots.size ≤ j.toNatClampNeg) := by
  have h1 : j.toNatClampNeg = i := by show j.toInt.toNat = i; omega
  rw [h1, r, Int32.lt_iff_toInt_lt]
  have z0 : (0 : Int32).toInt = 0 := rfl
  rw [z0]
  intro q
  rcases q with q | q
  · omega
  · rw [List.size_toArray] at q; omega
theorem at_of {c : Cell} {vs : List Value} {j : Int32} {i : Nat} {v : Value} (r : c.slots = vs.toArray) (hj : j.toInt = (i : Int)) (hv : vs[i]? = some v) : c.slots[j.toNatClampNeg]? = some v := by
  have h1 : j.toNatClampNeg = i := by show j.toInt.toNat = i; omega
  rw [h1, r]; simpa using hv
theorem Go.iaload {a : Addr} {vs : List Value} {j : Int32} {i : Nat} {v : Value} (hd : decode B pc = .ok (.iaload, 1)) (hp : pc + 1 = pc') (A : Al Z h a .int vs) (hj : j.toInt = (i : Int)) (hv : vs[i]? = some v) (g : Go Z l R B ml own rt mn pc' Ls (v :: rest) h L k n Q) : Go Z l R B ml own rt mn pc Ls (.int j :: .ref a :: rest) h L k n Q := by
  obtain ⟨q, c, A, r⟩ := A
  subst hp
  exact Go.stand (fun p e s m args below meth c' T t X hx hZ hB hown eT hr => X.iaload hx (j := j) (v := v) (by rw [eT]; exact A.1) (State.isArrayOf_alike hZ.alike A.2.1) A.2.2 (in_of r hj (List.getElem?_eq_some_iff.mp hv).1) (at_of r hj hv) (g := mkF m pc Ls (.int j :: .ref a :: rest)) rfl rfl (hb hB hd) _ hr) g
theorem Go.laload {a : Addr} {vs : List Value} {j : Int32} {i : Nat} {v : Value} (hd : decode B pc = .ok (.laload, 1)) (hp : pc + 1 = pc') (A : Al Z h a .long vs) (hj : j.toInt = (i : Int)) (hv : vs[i]? = some v) (g : Go Z l R B ml own rt mn pc' Ls (v :: rest) h L k n Q) : Go Z l R B ml own rt mn pc Ls (.int j :: .ref a :: rest) h L k n Q := by
  obtain ⟨q, c, A, r⟩ := A
  subst hp
  exact Go.stand (fun p e s m args below meth c' T t X hx hZ hB hown eT hr => X.laload hx (j := j) (v := v) (by rw [eT]; exact A.1) (State.isArrayOf_alike hZ.alike A.2.1) A.2.2 (in_of r hj (List.getElem?_eq_some_iff.mp hv).1) (at_of r hj hv) (g := mkF m pc Ls (.int j :: .ref a :: rest)) rfl rfl (hb hB hd) _ hr) g
theorem Go.baloadB {a : Addr} {vs : List Value} {j : Int32} {i : Nat} {v : Value} (hd : decode B pc = .ok (.baload, 1)) (hp : pc + 1 = pc') (A : Al Z h a .byte vs) (hj : j.toInt = (i : Int)) (hv : vs[i]? = some v) (g : Go Z l R B ml own rt mn pc' Ls (v :: rest) h L k n Q) : Go Z l R B ml own rt mn pc Ls (.int j :: .ref a :: rest) h L k n Q := by
  obtain ⟨q, c, A, r⟩ := A
  subst hp
  exact Go.stand (fun p e s m args below meth c' T t X hx hZ hB hown eT hr => X.baloadBytes hx (j := j) (v := v) (by rw [eT]; exact A.1) (State.isArrayOf_alike hZ.alike A.2.1) A.2.2 (in_of r hj (List.getElem?_eq_some_iff.mp hv).1) (at_of r hj hv) (g := mkF m pc Ls (.int j :: .ref a :: rest)) rfl rfl (hb hB hd) _ hr) g
theorem Go.baloadZ {a : Addr} {vs : List Value} {j : Int32} {i : Nat} {v : Value} (hd : decode B pc = .ok (.baload, 1)) (hp : pc + 1 = pc') (A : Al Z h a .boolean vs) (hj : j.toInt = (i : Int)) (hv : vs[i]? = some v) (g : Go Z l R B ml own rt mn pc' Ls (v :: rest) h L k n Q) : Go Z l R B ml own rt mn pc Ls (.int j :: .ref a :: rest) h L k n Q := by
  obtain ⟨q, c, A, r⟩ := A
  subst hp
  exact Go.stand (fun p e s m args below meth c' T t X hx hZ hB hown eT hr => X.baloadBooleans hx (j := j) (v := v) (by rw [eT]; exact A.1) (State.isArrayOf_alike hZ.alike A.2.1) A.2.2 (in_of r hj (List.getElem?_eq_some_iff.mp hv).1) (at_of r hj hv) (g := mkF m pc Ls (.int j :: .ref a :: rest)) rfl rfl (hb hB hd) _ hr) g
theorem Go.iastore {a : Addr} {vs vs' : List Value} {j : Int32} {x : Int32} {i : Nat} {v : Value} (hd : decode B pc = .ok (.iastore, 1)) (hp : pc + 1 = pc') (A : Al Z h a .int vs) (hj : j.toInt = (i : Int)) (hi : i < vs.length) (hv : .int x = v) (hs : vs.set i v = vs') (g : ∀ h' L', (∀ q, Fr q L → q ≤ a → Fr q L') → Wr h h' a i v → Al Z h' a .int vs' → Go Z l R B ml own rt mn pc' Ls rest h' L' k n Q) : Go Z l R B ml own rt mn pc Ls (.int x :: .int j :: .ref a :: rest) h L k n Q := by
  have A' := A
  obtain ⟨q, c, A, r⟩ := A
  subst hp hs
  intro p e s m args below meth c' T X hx hZ hby hml hown hrt hlk hnm eT
  obtain ⟨T', h', X', e', W', stp⟩ := stI X hx hZ eT A (j := j) (in_of r hj hi) (g := mkF m pc Ls (.int x :: .int j :: .ref a :: rest)) rfl rfl (hb hby hd)
  have h1 : j.toNatClampNeg = i := by show j.toInt.toNat = i; omega
  rw [h1] at X' W'
  subst hv
  obtain ⟨s₂, o, h1, h2⟩ := g h' _ (fun q N r => fr_one N r) W' (A'.set W') p e s m args below meth c' T' X' hx hZ hby hml hown hrt hlk hnm e'
  exact ⟨s₂, o, stp _ h1, h2⟩
theorem Go.lastore {a : Addr} {vs vs' : List Value} {j : Int32} {x : Int64} {i : Nat} {v : Value} (hd : decode B pc = .ok (.lastore, 1)) (hp : pc + 1 = pc') (A : Al Z h a .long vs) (hj : j.toInt = (i : Int)) (hi : i < vs.length) (hv : .long x = v) (hs : vs.set i v = vs') (g : ∀ h' L', (∀ q, Fr q L → q ≤ a → Fr q L') → Wr h h' a i v → Al Z h' a .long vs' → Go Z l R B ml own rt mn pc' Ls rest h' L' k n Q) : Go Z l R B ml own rt mn pc Ls (.long x :: .int j :: .ref a :: rest) h L k n Q := by
  have A' := A
  obtain ⟨q, c, A, r⟩ := A
  subst hp hs
  intro p e s m args below meth c' T X hx hZ hby hml hown hrt hlk hnm eT
  obtain ⟨T', h', X', e', W', stp⟩ := stJ X hx hZ eT A (j := j) (in_of r hj hi) (g := mkF m pc Ls (.long x :: .int j :: .ref a :: rest)) rfl rfl (hb hby hd)
  have h1 : j.toNatClampNeg = i := by show j.toInt.toNat = i; omega
  rw [h1] at X' W'
  subst hv
  obtain ⟨s₂, o, h1, h2⟩ := g h' _ (fun q N r => fr_one N r) W' (A'.set W') p e s m args below meth c' T' X' hx hZ hby hml hown hrt hlk hnm e'
  exact ⟨s₂, o, stp _ h1, h2⟩
theorem Go.bastoreB {a : Addr} {vs vs' : List Value} {j : Int32} {x : Int32} {i : Nat} {v : Value} (hd : decode B pc = .ok (.bastore, 1)) (hp : pc + 1 = pc') (A : Al Z h a .byte vs) (hj : j.toInt = (i : Int)) (hi : i < vs.length) (hv : .int (nar .byte x) = v) (hs : vs.set i v = vs') (g : ∀ h' L', (∀ q, Fr q L → q ≤ a → Fr q L') → Wr h h' a i v → Al Z h' a .byte vs' → Go Z l R B ml own rt mn pc' Ls rest h' L' k n Q) : Go Z l R B ml own rt mn pc Ls (.int x :: .int j :: .ref a :: rest) h L k n Q := by
  have A' := A
  obtain ⟨q, c, A, r⟩ := A
  subst hp hs
  intro p e s m args below meth c' T X hx hZ hby hml hown hrt hlk hnm eT
  obtain ⟨T', h', X', e', W', stp⟩ := stB X hx hZ eT A (j := j) (in_of r hj hi) (g := mkF m pc Ls (.int x :: .int j :: .ref a :: rest)) rfl rfl (hb hby hd)
  have h1 : j.toNatClampNeg = i := by show j.toInt.toNat = i; omega
  rw [h1] at X' W'
  subst hv
  obtain ⟨s₂, o, h1, h2⟩ := g h' _ (fun q N r => fr_one N r) W' (A'.set W') p e s m args below meth c' T' X' hx hZ hby hml hown hrt hlk hnm e'
  exact ⟨s₂, o, stp _ h1, h2⟩
theorem Go.bastoreZ {a : Addr} {vs vs' : List Value} {j : Int32} {x : Int32} {i : Nat} {v : Value} (hd : decode B pc = .ok (.bastore, 1)) (hp : pc + 1 = pc') (A : Al Z h a .boolean vs) (hj : j.toInt = (i : Int)) (hi : i < vs.length) (hv : .int (nar .boolean x) = v) (hs : vs.set i v = vs') (g : ∀ h' L', (∀ q, Fr q L → q ≤ a → Fr q L') → Wr h h' a i v → Al Z h' a .boolean vs' → Go Z l R B ml own rt mn pc' Ls rest h' L' k n Q) : Go Z l R B ml own rt mn pc Ls (.int x :: .int j :: .ref a :: rest) h L k n Q := by
  have A' := A
  obtain ⟨q, c, A, r⟩ := A
  subst hp hs
  intro p e s m args below meth c' T X hx hZ hby hml hown hrt hlk hnm eT
  obtain ⟨T', h', X', e', W', stp⟩ := stZ X hx hZ eT A (j := j) (in_of r hj hi) (g := mkF m pc Ls (.int x :: .int j :: .ref a :: rest)) rfl rfl (hb hby hd)
  have h1 : j.toNatClampNeg = i := by show j.toInt.toNat = i; omega
  rw [h1] at X' W'
  subst hv
  obtain ⟨s₂, o, h1, h2⟩ := g h' _ (fun q N r => fr_one N r) W' (A'.set W') p e s m args below meth c' T' X' hx hZ hby hml hown hrt hlk hnm e'
  exact ⟨s₂, o, stp _ h1, h2⟩
theorem Go.arraylength {a : Addr} {ty : FieldType} {vs : List Value} {z : Int32} (hd : decode B pc = .ok (.arraylength, 1)) (hp : pc + 1 = pc') (A : Al Z h a ty vs) (hz : vs.length.toInt32 = z) (g : Go Z l R B ml own rt mn pc' Ls (.int z :: rest) h L k n Q) : Go Z l R B ml own rt mn pc Ls (.ref a :: rest) h L k n Q := by
  obtain ⟨q, c, A, r⟩ := A
  subst hp hz
  refine Go.stand (fun p e s m args below meth c' T t X hx hZ hB hown eT hr => X.arraylength hx (by rw [eT]; exact A.1) (State.isArrayOf_alike hZ.alike A.2.1) (g := mkF m pc Ls (.ref a :: rest)) rfl rfl (hb hB hd) _ ?_) g
  rw [r]; simpa using hr
theorem Go.new_int {a0 : Array Value} {z : Int32} {N : Nat} {k' n' : Nat} {vs : List Value} (hd : decode B pc = .ok (.newarray .int, 2)) (hp : pc + 2 = pc') (w : (Jvm.Cond.arrayClass (.int)).before a0 Z = true) (hz : z.toInt = (N : Int)) (hvs : List.replicate N (defaultValue .int) = vs) (cap : Nat) (hcap : N ≤ cap) (h8 : cap * 8 ≤ 536870912) (hc : k + 1 ≤ R.cells) (hl : n + cap ≤ R.slots) (hk' : k + 1 = k') (hn' : n + cap = n')
    (g : ∀ h' a, a = h.size → Ext h h' → Al Z h' a .int vs → Go Z l R B ml own rt mn pc' Ls (.ref a :: rest) h' L k' n' Q) : Go Z l R B ml own rt mn pc Ls (.int z :: rest) h L k n Q := by
  subst hp hk' hn' hvs
  intro p e s m args below meth c T X hx hZ hby hml hown hrt hlk hnm eT
  have hz0 : ¬ z < 0 := by
    rw [Int32.lt_iff_toInt_lt]; have z0 : (0 : Int32).toInt = 0 := rfl
    omega
  obtain ⟨T', h', cA, X', e', E', A', stp⟩ := newP X hx hZ (aty := .int) w eT (g := mkF m pc Ls (.int z :: rest)) rfl (hb hby hd) rfl hz0 (cap := cap) (by show z.toInt.toNat ≤ cap; omega) h8 hc hl
  obtain ⟨s₂, o, h1, h2⟩ := g h' _ rfl E' (Al.new A' hz) p e s m args below meth c T' X' hx hZ hby hml hown hrt hlk hnm e'
  exact ⟨s₂, o, stp _ h1, h2⟩
theorem Go.new_long {a0 : Array Value} {z : Int32} {N : Nat} {k' n' : Nat} {vs : List Value} (hd : decode B pc = .ok (.newarray .long, 2)) (hp : pc + 2 = pc') (w : (Jvm.Cond.arrayClass (.long)).before a0 Z = true) (hz : z.toInt = (N : Int)) (hvs : List.replicate N (defaultValue .long) = vs) (cap : Nat) (hcap : N ≤ cap) (h8 : cap * 8 ≤ 536870912) (hc : k + 1 ≤ R.cells) (hl : n + cap ≤ R.slots) (hk' : k + 1 = k') (hn' : n + cap = n')
    (g : ∀ h' a, a = h.size → Ext h h' → Al Z h' a .long vs → Go Z l R B ml own rt mn pc' Ls (.ref a :: rest) h' L k' n' Q) : Go Z l R B ml own rt mn pc Ls (.int z :: rest) h L k n Q := by
  subst hp hk' hn' hvs
  intro p e s m args below meth c T X hx hZ hby hml hown hrt hlk hnm eT
  have hz0 : ¬ z < 0 := by
    rw [Int32.lt_iff_toInt_lt]; have z0 : (0 : Int32).toInt = 0 := rfl
    omega
  obtain ⟨T', h', cA, X', e', E', A', stp⟩ := newP X hx hZ (aty := .long) w eT (g := mkF m pc Ls (.int z :: rest)) rfl (hb hby hd) rfl hz0 (cap := cap) (by show z.toInt.toNat ≤ cap; omega) h8 hc hl
  obtain ⟨s₂, o, h1, h2⟩ := g h' _ rfl E' (Al.new A' hz) p e s m args below meth c T' X' hx hZ hby hml hown hrt hlk hnm e'
  exact ⟨s₂, o, stp _ h1, h2⟩
theorem Go.new_byte {a0 : Array Value} {z : Int32} {N : Nat} {k' n' : Nat} {vs : List Value} (hd : decode B pc = .ok (.newarray .byte, 2)) (hp : pc + 2 = pc') (w : (Jvm.Cond.arrayClass (.byte)).before a0 Z = true) (hz : z.toInt = (N : Int)) (hvs : List.replicate N (defaultValue .byte) = vs) (cap : Nat) (hcap : N ≤ cap) (h8 : cap * 8 ≤ 536870912) (hc : k + 1 ≤ R.cells) (hl : n + cap ≤ R.slots) (hk' : k + 1 = k') (hn' : n + cap = n')
    (g : ∀ h' a, a = h.size → Ext h h' → Al Z h' a .byte vs → Go Z l R B ml own rt mn pc' Ls (.ref a :: rest) h' L k' n' Q) : Go Z l R B ml own rt mn pc Ls (.int z :: rest) h L k n Q := by
  subst hp hk' hn' hvs
  intro p e s m args below meth c T X hx hZ hby hml hown hrt hlk hnm eT
  have hz0 : ¬ z < 0 := by
    rw [Int32.lt_iff_toInt_lt]; have z0 : (0 : Int32).toInt = 0 := rfl
    omega
  obtain ⟨T', h', cA, X', e', E', A', stp⟩ := newP X hx hZ (aty := .byte) w eT (g := mkF m pc Ls (.int z :: rest)) rfl (hb hby hd) rfl hz0 (cap := cap) (by show z.toInt.toNat ≤ cap; omega) h8 hc hl
  obtain ⟨s₂, o, h1, h2⟩ := g h' _ rfl E' (Al.new A' hz) p e s m args below meth c T' X' hx hZ hby hml hown hrt hlk hnm e'
  exact ⟨s₂, o, stp _ h1, h2⟩
theorem Go.new_boolean {a0 : Array Value} {z : Int32} {N : Nat} {k' n' : Nat} {vs : List Value} (hd : decode B pc = .ok (.newarray .boolean, 2)) (hp : pc + 2 = pc') (w : (Jvm.Cond.arrayClass (.boolean)).before a0 Z = true) (hz : z.toInt = (N : Int)) (hvs : List.replicate N (defaultValue .boolean) = vs) (cap : Nat) (hcap : N ≤ cap) (h8 : cap * 8 ≤ 536870912) (hc : k + 1 ≤ R.cells) (hl : n + cap ≤ R.slots) (hk' : k + 1 = k') (hn' : n + cap = n')
    (g : ∀ h' a, a = h.size → Ext h h' → Al Z h' a .boolean vs → Go Z l R B ml own rt mn pc' Ls (.ref a :: rest) h' L k' n' Q) : Go Z l R B ml own rt mn pc Ls (.int z :: rest) h L k n Q := by
  subst hp hk' hn' hvs
  intro p e s m args below meth c T X hx hZ hby hml hown hrt hlk hnm eT
  have hz0 : ¬ z < 0 := by
    rw [Int32.lt_iff_toInt_lt]; have z0 : (0 : Int32).toInt = 0 := rfl
    omega
  obtain ⟨T', h', cA, X', e', E', A', stp⟩ := newP X hx hZ (aty := .boolean) w eT (g := mkF m pc Ls (.int z :: rest)) rfl (hb hby hd) rfl hz0 (cap := cap) (by show z.toInt.toNat ≤ cap; omega) h8 hc hl
  obtain ⟨s₂, o, h1, h2⟩ := g h' _ rfl E' (Al.new A' hz) p e s m args below meth c T' X' hx hZ hby hml hown hrt hlk hnm e'
  exact ⟨s₂, o, stp _ h1, h2⟩
theorem iadd_eq {x y : Int32} (h1 : -2147483648 ≤ x.toInt + y.toInt) (h2 : x.toInt + y.toInt < 2147483648) : (x + y).toInt = x.toInt + y.toInt := by
  have e := c_iadd x y
  have r := rng32 (x + y)
  omega
theorem isub_eq {x y : Int32} (h1 : -2147483648 ≤ x.toInt - y.toInt) (h2 : x.toInt - y.toInt < 2147483648) : (x - y).toInt = x.toInt - y.toInt := by
  have e := c_isub x y
  have r := rng32 (x - y)
  omega
theorem ladd_eq {x y : Int64} (h1 : -9223372036854775808 ≤ x.toInt + y.toInt) (h2 : x.toInt + y.toInt < 9223372036854775808) : (x + y).toInt = x.toInt + y.toInt := by
  have e := c_ladd x y
  have r := rng64 (x + y)
  omega
theorem lsub_eq {x y : Int64} (h1 : -9223372036854775808 ≤ x.toInt - y.toInt) (h2 : x.toInt - y.toInt < 9223372036854775808) : (x - y).toInt = x.toInt - y.toInt := by
  have e := c_lsub x y
  have r := rng64 (x - y)
  omega
theorem irem_bd {x y : Int32} (h1 : 0 ≤ x.toInt) (h2 : 0 < y.toInt) : 0 ≤ (x % y).toInt ∧ (x % y).toInt < y.toInt ∧ (x % y).toInt ≤ x.toInt := by
  have q := (c_iremV x y).1 h1 h2
  exact ⟨q.1, q.2.1, q.2.2.1⟩
theorem mask31 (x : Int32) : 0 ≤ (x &&& (2147483647 : Int32)).toInt ∧ (x &&& (2147483647 : Int32)).toInt ≤ 2147483647 := by
  have q := c_and x (2147483647 : Int32) (by decide)
  have k : (2147483647 : Int32).toInt = 2147483647 := by decide
  omega
theorem nar_b8 (x : Int32) : nar .byte x.toInt8.toInt32 = x.toInt8.toInt32 := by
  show x.toInt8.toInt32.toInt8.toInt32 = x.toInt8.toInt32
  rw [Int8.toInt8_toInt32]
end Rules
end Jvm.OwnKit
namespace Jvm.Pilot.@@N@@
open Jvm Jvm.ClassFile Sem Op Lib Jvm.Free Jvm.Stand Jvm.LawKit Jvm.RoadKit Jvm.OwnKit Bundle Jvm.Pilot.@@N@@.Jvm.D
theorem w0 : (Jvm.Cond.arrayClass Jvm.ClassFile.FieldType.long) ∈ tables_1 := List.mem_of_getElem? (i := 0) rfl
theorem w1 : (Jvm.Cond.constantLong "com/example/even_keel/evenkeel/plan/InUnitsKeepPinLaw" (9 : Nat) (9223372036854775807 : Int64)) ∈ tables_1 := List.mem_of_getElem? (i := 1) rfl
theorem w2 : (Jvm.Cond.arrayClass Jvm.ClassFile.FieldType.int) ∈ tables_1 := List.mem_of_getElem? (i := 2) rfl
theorem w3 : (Jvm.Cond.classLink "com/example/even_keel/evenkeel/plan/InUnitsKeepPinLaw" (11 : Nat) "com/example/even_keel/evenkeel/plan/Rooms$InUnits") ∈ tables_1 := List.mem_of_getElem? (i := 3) rfl
theorem w4 : (Jvm.Cond.instantiable "com/example/even_keel/evenkeel/plan/Rooms$InUnits" (3 : Nat)) ∈ tables_1 := List.mem_of_getElem? (i := 4) rfl
theorem w5 : (Jvm.Cond.initialized "com/example/even_keel/evenkeel/plan/Rooms$InUnits") ∈ tables_1 := List.mem_of_getElem? (i := 5) rfl
theorem w6 : (Jvm.Cond.methodLink "com/example/even_keel/evenkeel/plan/InUnitsKeepPinLaw" (13 : Nat) ({ cls := "com/example/even_keel/evenkeel/plan/Rooms$InUnits", name := "<init>", desc := "(I[JJ)V" } : Jvm.MethodName)) ∈ tables_1 := List.mem_of_getElem? (i := 6) rfl
theorem w7 : (Jvm.Cond.instanceMethod ({ cls := "com/example/even_keel/evenkeel/plan/Rooms$InUnits", name := "<init>", desc := "(I[JJ)V" } : Jvm.MethodName)) ∈ tables_1 := List.mem_of_getElem? (i := 7) rfl
theorem w8 : (Jvm.Cond.code ({ cls := "com/example/even_keel/evenkeel/plan/Rooms$InUnits", name := "<init>", desc := "(I[JJ)V" } : Jvm.MethodName) prog_134_method_1_code (5 : Nat) (Option.none : Option Jvm.ClassFile.FieldType)) ∈ tables_1 := List.mem_of_getElem? (i := 8) rfl
theorem w9 : (Jvm.Cond.methodLink "com/example/even_keel/evenkeel/plan/Rooms$InUnits" (1 : Nat) ({ cls := "com/example/even_keel/evenkeel/plan/Rooms", name := "<init>", desc := "()V" } : Jvm.MethodName)) ∈ tables_1 := List.mem_of_getElem? (i := 9) rfl
theorem w10 : (Jvm.Cond.instanceMethod ({ cls := "com/example/even_keel/evenkeel/plan/Rooms", name := "<init>", desc := "()V" } : Jvm.MethodName)) ∈ tables_1 := List.mem_of_getElem? (i := 10) rfl
theorem w12 : (Jvm.Cond.initialized "com/example/even_keel/evenkeel/plan/Rooms") ∈ tables_1 := List.mem_of_getElem? (i := 12) rfl
theorem w13 : (Jvm.Cond.code ({ cls := "com/example/even_keel/evenkeel/plan/Rooms", name := "<init>", desc := "()V" } : Jvm.MethodName) prog_132_method_1_code (1 : Nat) (Option.none : Option Jvm.ClassFile.FieldType)) ∈ tables_1 := List.mem_of_getElem? (i := 13) rfl
theorem w14 : (Jvm.Cond.methodLink "com/example/even_keel/evenkeel/plan/Rooms" (1 : Nat) ({ cls := "java/lang/Object", name := "<init>", desc := "()V" } : Jvm.MethodName)) ∈ tables_1 := List.mem_of_getElem? (i := 14) rfl
theorem w15 : (Jvm.Cond.instanceMethod ({ cls := "java/lang/Object", name := "<init>", desc := "()V" } : Jvm.MethodName)) ∈ tables_1 := List.mem_of_getElem? (i := 15) rfl
theorem w16 : (Jvm.Cond.code ({ cls := "java/lang/Object", name := "<init>", desc := "()V" } : Jvm.MethodName) object_method_1_code (1 : Nat) (Option.none : Option Jvm.ClassFile.FieldType)) ∈ tables_1 := List.mem_of_getElem? (i := 16) rfl
theorem w17 : (Jvm.Cond.fieldLink "com/example/even_keel/evenkeel/plan/Rooms$InUnits" (7 : Nat) "com/example/even_keel/evenkeel/plan/Rooms$InUnits" "rates" "[J") ∈ tables_1 := List.mem_of_getElem? (i := 17) rfl
theorem w18 : (Jvm.Cond.laysFinal "com/example/even_keel/evenkeel/plan/Rooms$InUnits" "com/example/even_keel/evenkeel/plan/Rooms$InUnits" "rates" "[J") ∈ tables_1 := List.mem_of_getElem? (i := 18) rfl
theorem w19 : (Jvm.Cond.fieldLink "com/example/even_keel/evenkeel/plan/Rooms$InUnits" (13 : Nat) "com/example/even_keel/evenkeel/plan/Rooms$InUnits" "capacity" "J") ∈ tables_1 := List.mem_of_getElem? (i := 19) rfl
theorem w20 : (Jvm.Cond.laysFinal "com/example/even_keel/evenkeel/plan/Rooms$InUnits" "com/example/even_keel/evenkeel/plan/Rooms$InUnits" "capacity" "J") ∈ tables_1 := List.mem_of_getElem? (i := 20) rfl
theorem w21 : (Jvm.Cond.fieldLink "com/example/even_keel/evenkeel/plan/Rooms$InUnits" (17 : Nat) "com/example/even_keel/evenkeel/plan/Rooms$InUnits" "left" "[J") ∈ tables_1 := List.mem_of_getElem? (i := 21) rfl
theorem w22 : (Jvm.Cond.laysFinal "com/example/even_keel/evenkeel/plan/Rooms$InUnits" "com/example/even_keel/evenkeel/plan/Rooms$InUnits" "left" "[J") ∈ tables_1 := List.mem_of_getElem? (i := 22) rfl
theorem w23 : (Jvm.Cond.methodLink "com/example/even_keel/evenkeel/plan/InUnitsKeepPinLaw" (16 : Nat) ({ cls := "com/example/even_keel/evenkeel/plan/Rooms$InUnits", name := "empty", desc := "(I)V" } : Jvm.MethodName)) ∈ tables_1 := List.mem_of_getElem? (i := 23) rfl
theorem w24 : (Jvm.Cond.declares ({ cls := "com/example/even_keel/evenkeel/plan/Rooms$InUnits", name := "empty", desc := "(I)V" } : Jvm.MethodName)) ∈ tables_1 := List.mem_of_getElem? (i := 24) rfl
theorem w25 : (Jvm.Cond.instanceMethod ({ cls := "com/example/even_keel/evenkeel/plan/Rooms$InUnits", name := "empty", desc := "(I)V" } : Jvm.MethodName)) ∈ tables_1 := List.mem_of_getElem? (i := 25) rfl
theorem w26 : (Jvm.Cond.selects "com/example/even_keel/evenkeel/plan/Rooms$InUnits" ({ cls := "com/example/even_keel/evenkeel/plan/Rooms$InUnits", name := "empty", desc := "(I)V" } : Jvm.MethodName) ({ cls := "com/example/even_keel/evenkeel/plan/Rooms$InUnits", name := "empty", desc := "(I)V" } : Jvm.MethodName)) ∈ tables_1 := List.mem_of_getElem? (i := 26) rfl
theorem w27 : (Jvm.Cond.code ({ cls := "com/example/even_keel/evenkeel/plan/Rooms$InUnits", name := "empty", desc := "(I)V" } : Jvm.MethodName) prog_134_method_2_code (2 : Nat) (Option.none : Option Jvm.ClassFile.FieldType)) ∈ tables_1 := List.mem_of_getElem? (i := 27) rfl
theorem w28 : (Jvm.Cond.methodLink "com/example/even_keel/evenkeel/plan/InUnitsKeepPinLaw" (20 : Nat) ({ cls := "com/example/even_keel/evenkeel/plan/Rooms$InUnits", name := "setToRate", desc := "(II)V" } : Jvm.MethodName)) ∈ tables_1 := List.mem_of_getElem? (i := 28) rfl
theorem w29 : (Jvm.Cond.declares ({ cls := "com/example/even_keel/evenkeel/plan/Rooms$InUnits", name := "setToRate", desc := "(II)V" } : Jvm.MethodName)) ∈ tables_1 := List.mem_of_getElem? (i := 29) rfl
theorem w30 : (Jvm.Cond.instanceMethod ({ cls := "com/example/even_keel/evenkeel/plan/Rooms$InUnits", name := "setToRate", desc := "(II)V" } : Jvm.MethodName)) ∈ tables_1 := List.mem_of_getElem? (i := 30) rfl
theorem w31 : (Jvm.Cond.selects "com/example/even_keel/evenkeel/plan/Rooms$InUnits" ({ cls := "com/example/even_keel/evenkeel/plan/Rooms$InUnits", name := "setToRate", desc := "(II)V" } : Jvm.MethodName) ({ cls := "com/example/even_keel/evenkeel/plan/Rooms$InUnits", name := "setToRate", desc := "(II)V" } : Jvm.MethodName)) ∈ tables_1 := List.mem_of_getElem? (i := 31) rfl
theorem w32 : (Jvm.Cond.code ({ cls := "com/example/even_keel/evenkeel/plan/Rooms$InUnits", name := "setToRate", desc := "(II)V" } : Jvm.MethodName) prog_134_method_5_code (3 : Nat) (Option.none : Option Jvm.ClassFile.FieldType)) ∈ tables_1 := List.mem_of_getElem? (i := 32) rfl
theorem w33 : (Jvm.Cond.arrayClass Jvm.ClassFile.FieldType.boolean) ∈ tables_1 := List.mem_of_getElem? (i := 33) rfl
theorem w34 : (Jvm.Cond.methodLink "com/example/even_keel/evenkeel/plan/InUnitsKeepPinLaw" (24 : Nat) ({ cls := "com/example/even_keel/evenkeel/plan/Rooms$InUnits", name := "keep", desc := "(I[III[I[Z)I" } : Jvm.MethodName)) ∈ tables_1 := List.mem_of_getElem? (i := 34) rfl
theorem w35 : (Jvm.Cond.declares ({ cls := "com/example/even_keel/evenkeel/plan/Rooms$InUnits", name := "keep", desc := "(I[III[I[Z)I" } : Jvm.MethodName)) ∈ tables_1 := List.mem_of_getElem? (i := 35) rfl
theorem w36 : (Jvm.Cond.instanceMethod ({ cls := "com/example/even_keel/evenkeel/plan/Rooms$InUnits", name := "keep", desc := "(I[III[I[Z)I" } : Jvm.MethodName)) ∈ tables_1 := List.mem_of_getElem? (i := 36) rfl
theorem w37 : (Jvm.Cond.selects "com/example/even_keel/evenkeel/plan/Rooms$InUnits" ({ cls := "com/example/even_keel/evenkeel/plan/Rooms$InUnits", name := "keep", desc := "(I[III[I[Z)I" } : Jvm.MethodName) ({ cls := "com/example/even_keel/evenkeel/plan/Rooms$InUnits", name := "keep", desc := "(I[III[I[Z)I" } : Jvm.MethodName)) ∈ tables_1 := List.mem_of_getElem? (i := 37) rfl
theorem w38 : (Jvm.Cond.code ({ cls := "com/example/even_keel/evenkeel/plan/Rooms$InUnits", name := "keep", desc := "(I[III[I[Z)I" } : Jvm.MethodName) prog_134_method_9_code (14 : Nat) (Option.some Jvm.ClassFile.FieldType.int)) ∈ tables_1 := List.mem_of_getElem? (i := 38) rfl
theorem w39 : (Jvm.Cond.methodLink "com/example/even_keel/evenkeel/plan/InUnitsKeepPinLaw" (28 : Nat) ({ cls := "com/example/even_keel/evenkeel/plan/InUnitsKeepPinLaw", name := "step", desc := "(III[I[JJ[I[I[Z)J" } : Jvm.MethodName)) ∈ tables_1 := List.mem_of_getElem? (i := 39) rfl
theorem w40 : (Jvm.Cond.static ({ cls := "com/example/even_keel/evenkeel/plan/InUnitsKeepPinLaw", name := "step", desc := "(III[I[JJ[I[I[Z)J" } : Jvm.MethodName)) ∈ tables_1 := List.mem_of_getElem? (i := 40) rfl
theorem w41 : (Jvm.Cond.initialized "com/example/even_keel/evenkeel/plan/InUnitsKeepPinLaw") ∈ tables_1 := List.mem_of_getElem? (i := 41) rfl
theorem w42 : (Jvm.Cond.code ({ cls := "com/example/even_keel/evenkeel/plan/InUnitsKeepPinLaw", name := "step", desc := "(III[I[JJ[I[I[Z)J" } : Jvm.MethodName) method_3_code (13 : Nat) (Option.some Jvm.ClassFile.FieldType.long)) ∈ tables_1 := List.mem_of_getElem? (i := 42) rfl
theorem w43 : (Jvm.Cond.methodLink "com/example/even_keel/evenkeel/plan/InUnitsKeepPinLaw" (34 : Nat) ({ cls := "com/example/even_keel/evenkeel/plan/Rooms$InUnits", name := "units", desc := "()[J" } : Jvm.MethodName)) ∈ tables_1 := List.mem_of_getElem? (i := 43) rfl
theorem w44 : (Jvm.Cond.declares ({ cls := "com/example/even_keel/evenkeel/plan/Rooms$InUnits", name := "units", desc := "()[J" } : Jvm.MethodName)) ∈ tables_1 := List.mem_of_getElem? (i := 44) rfl
theorem w45 : (Jvm.Cond.instanceMethod ({ cls := "com/example/even_keel/evenkeel/plan/Rooms$InUnits", name := "units", desc := "()[J" } : Jvm.MethodName)) ∈ tables_1 := List.mem_of_getElem? (i := 45) rfl
theorem w46 : (Jvm.Cond.selects "com/example/even_keel/evenkeel/plan/Rooms$InUnits" ({ cls := "com/example/even_keel/evenkeel/plan/Rooms$InUnits", name := "units", desc := "()[J" } : Jvm.MethodName) ({ cls := "com/example/even_keel/evenkeel/plan/Rooms$InUnits", name := "units", desc := "()[J" } : Jvm.MethodName)) ∈ tables_1 := List.mem_of_getElem? (i := 46) rfl
theorem w47 : (Jvm.Cond.code ({ cls := "com/example/even_keel/evenkeel/plan/Rooms$InUnits", name := "units", desc := "()[J" } : Jvm.MethodName) prog_134_method_4_code (1 : Nat) (Option.some (Jvm.ClassFile.FieldType.array Jvm.ClassFile.FieldType.long))) ∈ tables_1 := List.mem_of_getElem? (i := 47) rfl
theorem d1_0 : decode prog_134_method_1_code 0 = .ok (.aload_n 0, 1) := by decide +kernel
theorem d1_1 : decode prog_134_method_1_code 1 = .ok (.invokespecial 1, 3) := by decide +kernel
theorem d1_4 : decode prog_134_method_1_code 4 = .ok (.aload_n 0, 1) := by decide +kernel
theorem d1_5 : decode prog_134_method_1_code 5 = .ok (.aload_n 2, 1) := by decide +kernel
theorem d1_6 : decode prog_134_method_1_code 6 = .ok (.putfield 7, 3) := by decide +kernel
theorem d1_9 : decode prog_134_method_1_code 9 = .ok (.aload_n 0, 1) := by decide +kernel
theorem d1_10 : decode prog_134_method_1_code 10 = .ok (.lload_n 3, 1) := by decide +kernel
theorem d1_11 : decode prog_134_method_1_code 11 = .ok (.putfield 13, 3) := by decide +kernel
theorem d1_14 : decode prog_134_method_1_code 14 = .ok (.aload_n 0, 1) := by decide +kernel
theorem d1_15 : decode prog_134_method_1_code 15 = .ok (.iload_n 1, 1) := by decide +kernel
theorem d1_16 : decode prog_134_method_1_code 16 = .ok (.newarray .long, 2) := by decide +kernel
theorem d1_18 : decode prog_134_method_1_code 18 = .ok (.putfield 17, 3) := by decide +kernel
theorem d1_21 : decode prog_134_method_1_code 21 = .ok (.return_, 1) := by decide +kernel
theorem d2_0 : decode prog_132_method_1_code 0 = .ok (.aload_n 0, 1) := by decide +kernel
theorem d2_1 : decode prog_132_method_1_code 1 = .ok (.invokespecial 1, 3) := by decide +kernel
theorem d2_4 : decode prog_132_method_1_code 4 = .ok (.return_, 1) := by decide +kernel
theorem d4_0 : decode prog_134_method_2_code 0 = .ok (.aload_n 0, 1) := by decide +kernel
theorem d4_1 : decode prog_134_method_2_code 1 = .ok (.getfield 17, 3) := by decide +kernel
theorem d4_4 : decode prog_134_method_2_code 4 = .ok (.iload_n 1, 1) := by decide +kernel
theorem d4_5 : decode prog_134_method_2_code 5 = .ok (.aload_n 0, 1) := by decide +kernel
theorem d4_6 : decode prog_134_method_2_code 6 = .ok (.getfield 13, 3) := by decide +kernel
theorem d4_9 : decode prog_134_method_2_code 9 = .ok (.lastore, 1) := by decide +kernel
theorem d4_10 : decode prog_134_method_2_code 10 = .ok (.return_, 1) := by decide +kernel
theorem d5_0 : decode prog_134_method_5_code 0 = .ok (.aload_n 0, 1) := by decide +kernel
theorem d5_1 : decode prog_134_method_5_code 1 = .ok (.getfield 17, 3) := by decide +kernel
theorem d5_4 : decode prog_134_method_5_code 4 = .ok (.iload_n 1, 1) := by decide +kernel
theorem d5_5 : decode prog_134_method_5_code 5 = .ok (.aload_n 0, 1) := by decide +kernel
theorem d5_6 : decode prog_134_method_5_code 6 = .ok (.getfield 7, 3) := by decide +kernel
theorem d5_9 : decode prog_134_method_5_code 9 = .ok (.iload_n 2, 1) := by decide +kernel
theorem d5_10 : decode prog_134_method_5_code 10 = .ok (.laload, 1) := by decide +kernel
theorem d5_11 : decode prog_134_method_5_code 11 = .ok (.lastore, 1) := by decide +kernel
theorem d5_12 : decode prog_134_method_5_code 12 = .ok (.return_, 1) := by decide +kernel
theorem d6_0 : decode prog_134_method_9_code 0 = .ok (.aload_n 0, 1) := by decide +kernel
theorem d6_1 : decode prog_134_method_9_code 1 = .ok (.getfield 17, 3) := by decide +kernel
theorem d6_4 : decode prog_134_method_9_code 4 = .ok (.iload_n 1, 1) := by decide +kernel
theorem d6_5 : decode prog_134_method_9_code 5 = .ok (.laload, 1) := by decide +kernel
theorem d6_6 : decode prog_134_method_9_code 6 = .ok (.lstore 7, 2) := by decide +kernel
theorem d6_8 : decode prog_134_method_9_code 8 = .ok (.iconst 0, 1) := by decide +kernel
theorem d6_9 : decode prog_134_method_9_code 9 = .ok (.istore 9, 2) := by decide +kernel
theorem d6_11 : decode prog_134_method_9_code 11 = .ok (.iload_n 3, 1) := by decide +kernel
theorem d6_12 : decode prog_134_method_9_code 12 = .ok (.istore 10, 2) := by decide +kernel
theorem d6_14 : decode prog_134_method_9_code 14 = .ok (.iload 10, 2) := by decide +kernel
theorem d6_16 : decode prog_134_method_9_code 16 = .ok (.iload 4, 2) := by decide +kernel
theorem d6_18 : decode prog_134_method_9_code 18 = .ok (.if_icmp .ge 58, 3) := by decide +kernel
theorem d6_21 : decode prog_134_method_9_code 21 = .ok (.aload_n 2, 1) := by decide +kernel
theorem d6_22 : decode prog_134_method_9_code 22 = .ok (.iload 10, 2) := by decide +kernel
theorem d6_24 : decode prog_134_method_9_code 24 = .ok (.iaload, 1) := by decide +kernel
theorem d6_25 : decode prog_134_method_9_code 25 = .ok (.istore 11, 2) := by decide +kernel
theorem d6_27 : decode prog_134_method_9_code 27 = .ok (.aload_n 0, 1) := by decide +kernel
theorem d6_28 : decode prog_134_method_9_code 28 = .ok (.getfield 7, 3) := by decide +kernel
theorem d6_31 : decode prog_134_method_9_code 31 = .ok (.iload 11, 2) := by decide +kernel
theorem d6_33 : decode prog_134_method_9_code 33 = .ok (.laload, 1) := by decide +kernel
theorem d6_34 : decode prog_134_method_9_code 34 = .ok (.lstore 12, 2) := by decide +kernel
theorem d6_36 : decode prog_134_method_9_code 36 = .ok (.lload 12, 2) := by decide +kernel
theorem d6_38 : decode prog_134_method_9_code 38 = .ok (.lload 7, 2) := by decide +kernel
theorem d6_40 : decode prog_134_method_9_code 40 = .ok (.lcmp, 1) := by decide +kernel
theorem d6_41 : decode prog_134_method_9_code 41 = .ok (.ifCond .gt 23, 3) := by decide +kernel
theorem d6_44 : decode prog_134_method_9_code 44 = .ok (.lload 7, 2) := by decide +kernel
theorem d6_46 : decode prog_134_method_9_code 46 = .ok (.lload 12, 2) := by decide +kernel
theorem d6_48 : decode prog_134_method_9_code 48 = .ok (.lsub, 1) := by decide +kernel
theorem d6_49 : decode prog_134_method_9_code 49 = .ok (.lstore 7, 2) := by decide +kernel
theorem d6_51 : decode prog_134_method_9_code 51 = .ok (.aload 5, 2) := by decide +kernel
theorem d6_53 : decode prog_134_method_9_code 53 = .ok (.iload 9, 2) := by decide +kernel
theorem d6_55 : decode prog_134_method_9_code 55 = .ok (.iinc 9 1, 3) := by decide +kernel
theorem d6_58 : decode prog_134_method_9_code 58 = .ok (.iload 11, 2) := by decide +kernel
theorem d6_60 : decode prog_134_method_9_code 60 = .ok (.iastore, 1) := by decide +kernel
theorem d6_61 : decode prog_134_method_9_code 61 = .ok (.goto 9, 3) := by decide +kernel
theorem d6_64 : decode prog_134_method_9_code 64 = .ok (.aload 6, 2) := by decide +kernel
theorem d6_66 : decode prog_134_method_9_code 66 = .ok (.iload 11, 2) := by decide +kernel
theorem d6_68 : decode prog_134_method_9_code 68 = .ok (.iconst 1, 1) := by decide +kernel
theorem d6_69 : decode prog_134_method_9_code 69 = .ok (.bastore, 1) := by decide +kernel
theorem d6_70 : decode prog_134_method_9_code 70 = .ok (.iinc 10 1, 3) := by decide +kernel
theorem d6_73 : decode prog_134_method_9_code 73 = .ok (.goto (-59), 3) := by decide +kernel
theorem d6_76 : decode prog_134_method_9_code 76 = .ok (.aload_n 0, 1) := by decide +kernel
theorem d6_77 : decode prog_134_method_9_code 77 = .ok (.getfield 17, 3) := by decide +kernel
theorem d6_80 : decode prog_134_method_9_code 80 = .ok (.iload_n 1, 1) := by decide +kernel
theorem d6_81 : decode prog_134_method_9_code 81 = .ok (.lload 7, 2) := by decide +kernel
theorem d6_83 : decode prog_134_method_9_code 83 = .ok (.lastore, 1) := by decide +kernel
theorem d6_84 : decode prog_134_method_9_code 84 = .ok (.iload 9, 2) := by decide +kernel
theorem d6_86 : decode prog_134_method_9_code 86 = .ok (.ireturn, 1) := by decide +kernel
theorem d7_0 : decode method_3_code 0 = .ok (.iload_n 0, 1) := by decide +kernel
theorem d7_1 : decode method_3_code 1 = .ok (.iload_n 1, 1) := by decide +kernel
theorem d7_2 : decode method_3_code 2 = .ok (.if_icmp .lt 8, 3) := by decide +kernel
theorem d7_5 : decode method_3_code 5 = .ok (.iload_n 0, 1) := by decide +kernel
theorem d7_6 : decode method_3_code 6 = .ok (.iload_n 2, 1) := by decide +kernel
theorem d7_7 : decode method_3_code 7 = .ok (.if_icmp .lt 6, 3) := by decide +kernel
theorem d7_10 : decode method_3_code 10 = .ok (.lload 5, 2) := by decide +kernel
theorem d7_12 : decode method_3_code 12 = .ok (.lreturn, 1) := by decide +kernel
theorem d7_13 : decode method_3_code 13 = .ok (.aload_n 3, 1) := by decide +kernel
theorem d7_14 : decode method_3_code 14 = .ok (.iload_n 0, 1) := by decide +kernel
theorem d7_15 : decode method_3_code 15 = .ok (.iaload, 1) := by decide +kernel
theorem d7_16 : decode method_3_code 16 = .ok (.istore 10, 2) := by decide +kernel
theorem d7_18 : decode method_3_code 18 = .ok (.aload 4, 2) := by decide +kernel
theorem d7_20 : decode method_3_code 20 = .ok (.iload 10, 2) := by decide +kernel
theorem d7_22 : decode method_3_code 22 = .ok (.laload, 1) := by decide +kernel
theorem d7_23 : decode method_3_code 23 = .ok (.lstore 11, 2) := by decide +kernel
theorem d7_25 : decode method_3_code 25 = .ok (.lload 11, 2) := by decide +kernel
theorem d7_27 : decode method_3_code 27 = .ok (.lload 5, 2) := by decide +kernel
theorem d7_29 : decode method_3_code 29 = .ok (.lcmp, 1) := by decide +kernel
theorem d7_30 : decode method_3_code 30 = .ok (.ifCond .gt 28, 3) := by decide +kernel
theorem d7_33 : decode method_3_code 33 = .ok (.aload 7, 2) := by decide +kernel
theorem d7_35 : decode method_3_code 35 = .ok (.aload 8, 2) := by decide +kernel
theorem d7_37 : decode method_3_code 37 = .ok (.iconst 0, 1) := by decide +kernel
theorem d7_38 : decode method_3_code 38 = .ok (.iaload, 1) := by decide +kernel
theorem d7_39 : decode method_3_code 39 = .ok (.iload 10, 2) := by decide +kernel
theorem d7_41 : decode method_3_code 41 = .ok (.iastore, 1) := by decide +kernel
theorem d7_42 : decode method_3_code 42 = .ok (.aload 8, 2) := by decide +kernel
theorem d7_44 : decode method_3_code 44 = .ok (.iconst 0, 1) := by decide +kernel
theorem d7_45 : decode method_3_code 45 = .ok (.aload 8, 2) := by decide +kernel
theorem d7_47 : decode method_3_code 47 = .ok (.iconst 0, 1) := by decide +kernel
theorem d7_48 : decode method_3_code 48 = .ok (.iaload, 1) := by decide +kernel
theorem d7_49 : decode method_3_code 49 = .ok (.iconst 1, 1) := by decide +kernel
theorem d7_50 : decode method_3_code 50 = .ok (.iadd, 1) := by decide +kernel
theorem d7_51 : decode method_3_code 51 = .ok (.iastore, 1) := by decide +kernel
theorem d7_52 : decode method_3_code 52 = .ok (.lload 5, 2) := by decide +kernel
theorem d7_54 : decode method_3_code 54 = .ok (.lload 11, 2) := by decide +kernel
theorem d7_56 : decode method_3_code 56 = .ok (.lsub, 1) := by decide +kernel
theorem d7_57 : decode method_3_code 57 = .ok (.lreturn, 1) := by decide +kernel
theorem d7_58 : decode method_3_code 58 = .ok (.aload 9, 2) := by decide +kernel
theorem d7_60 : decode method_3_code 60 = .ok (.iload 10, 2) := by decide +kernel
theorem d7_62 : decode method_3_code 62 = .ok (.iconst 1, 1) := by decide +kernel
theorem d7_63 : decode method_3_code 63 = .ok (.bastore, 1) := by decide +kernel
theorem d7_64 : decode method_3_code 64 = .ok (.lload 5, 2) := by decide +kernel
theorem d7_66 : decode method_3_code 66 = .ok (.lreturn, 1) := by decide +kernel
theorem d8_0 : decode prog_134_method_4_code 0 = .ok (.aload_n 0, 1) := by decide +kernel
theorem d8_1 : decode prog_134_method_4_code 1 = .ok (.getfield 17, 3) := by decide +kernel
theorem d8_4 : decode prog_134_method_4_code 4 = .ok (.areturn, 1) := by decide +kernel
theorem pd__28_29V : parseMethodDescriptor "()V" = some ⟨[], none⟩ := by decide +kernel
theorem pd__28_29_5bJ : parseMethodDescriptor "()[J" = some ⟨[], some (.array .long)⟩ := by decide +kernel
theorem pd__28I_29V : parseMethodDescriptor "(I)V" = some ⟨[.int], none⟩ := by decide +kernel
theorem pd__28II_29V : parseMethodDescriptor "(II)V" = some ⟨[.int, .int], none⟩ := by decide +kernel
theorem pd__28III_5bI_5bJJ_5bI_5bI_5bZ_29J : parseMethodDescriptor "(III[I[JJ[I[I[Z)J" = some ⟨[.int, .int, .int, (.array .int), (.array .long), .long, (.array .int), (.array .int), (.array .boolean)], some .long⟩ := by decide +kernel
theorem pd__28I_5bIII_5bI_5bZ_29I : parseMethodDescriptor "(I[III[I[Z)I" = some ⟨[.int, (.array .int), .int, .int, (.array .int), (.array .boolean)], some .int⟩ := by decide +kernel
theorem pd__28I_5bJJ_29V : parseMethodDescriptor "(I[JJ)V" = some ⟨[.int, (.array .long), .long], none⟩ := by decide +kernel
def own_r (r0 r1 r2 : Int64) (q : Int32) : Int64 := if q.toInt = 0 then r0 else if q.toInt = 1 then r1 else r2
def own_u (d : Int32) (i : Int) (q k : Int32) : Int32 := if d.toInt = i then q else k
def own_t (r0 r1 r2 : Int64) (q : Int32) : Int64 × Int32 × Int32 × Int32 × Int32 × Int32 × Int32 × Int32 → Int64 × Int32 × Int32 × Int32 × Int32 × Int32 × Int32 × Int32
  | (rm, cn, k0, k1, k2, l0, l1, l2) => if rm.toInt < (own_r r0 r1 r2 q).toInt then (rm, cn, k0, k1, k2, own_u q 0 (1 : Int32) l0, own_u q 1 (1 : Int32) l1, own_u q 2 (1 : Int32) l2) else (rm - own_r r0 r1 r2 q, cn + (1 : Int32), own_u cn 0 q k0, own_u cn 1 q k1, own_u cn 2 q k2, l0, l1, l2)
def own_run (r0 r1 r2 : Int64) : List Int32 → Int64 × Int32 × Int32 × Int32 × Int32 × Int32 × Int32 × Int32 → Int64 × Int32 × Int32 × Int32 × Int32 × Int32 × Int32 × Int32
  | [], s => s
  | q :: t, s => own_run r0 r1 r2 t (own_t r0 r1 r2 q s)
def own_st (r0 r1 r2 : Int64) (i lo hi : Int) (q : Int32) (s : Int64 × Int32 × Int32 × Int32 × Int32 × Int32 × Int32 × Int32) : Int64 × Int32 × Int32 × Int32 × Int32 × Int32 × Int32 × Int32 := if i < lo then s else if i < hi then own_t r0 r1 r2 q s else s
theorem own_rat (r0 r1 r2 : Int64) (q : Int32) (j : Nat) (hj : q.toInt = (j : Int)) (h3 : j < 3) : ([(.long r0), (.long r1), (.long r2)] : List Value)[j]? = some (.long (own_r r0 r1 r2 q)) := by
  unfold own_r
  match j, h3 with
  | 0, _ => rw [if_pos (show q.toInt = 0 from hj)]; rfl
  | 1, _ => rw [if_neg (by rw [hj]; decide), if_pos (show q.toInt = 1 from hj)]; rfl
  | 2, _ => rw [if_neg (by rw [hj]; decide), if_neg (by rw [hj]; decide)]; rfl
theorem own_set3 (d q a b e : Int32) (j : Nat) (hj : d.toInt = (j : Int)) (h3 : j < 3) : ([(.int a), (.int b), (.int e)] : List Value).set j (.int q) = [(.int (own_u d 0 q a)), (.int (own_u d 1 q b)), (.int (own_u d 2 q e))] := by
  unfold own_u
  match j, h3 with
  | 0, _ => rw [if_pos (show d.toInt = 0 from hj), if_neg (by rw [hj]; decide), if_neg (by rw [hj]; decide)]; rfl
  | 1, _ => rw [if_neg (by rw [hj]; decide), if_pos (show d.toInt = 1 from hj), if_neg (by rw [hj]; decide)]; rfl
  | 2, _ => rw [if_neg (by rw [hj]; decide), if_neg (by rw [hj]; decide), if_pos (show d.toInt = 2 from hj)]; rfl
theorem own_nat (d : Int32) (n : Int) (h0 : 0 ≤ d.toInt) (hn : d.toInt < 3) : ∃ j : Nat, d.toInt = (j : Int) ∧ j < 3 := ⟨d.toInt.toNat, by omega, by omega⟩
theorem own_eq (r0 r1 r2 : Int64) (p0 p1 p2 : Int32) (lo hi : Nat) (h1 : lo ≤ 3) (h2 : hi ≤ 3) (h3 : lo ≤ hi) (s : Int64 × Int32 × Int32 × Int32 × Int32 × Int32 × Int32 × Int32) : own_run r0 r1 r2 (([p0, p1, p2].take hi).drop lo) s = own_st r0 r1 r2 2 lo hi p2 (own_st r0 r1 r2 1 lo hi p1 (own_st r0 r1 r2 0 lo hi p0 s)) := by
  match lo, h1 with
  | 0, _ => match hi, h2 with
    | 0, _ => rfl
    | 1, _ => rfl
    | 2, _ => rfl
    | 3, _ => rfl
  | 1, _ => match hi, h2 with
    | 0, _ => omega
    | 1, _ => rfl
    | 2, _ => rfl
    | 3, _ => rfl
  | 2, _ => match hi, h2 with
    | 0, _ => omega
    | 1, _ => omega
    | 2, _ => rfl
    | 3, _ => rfl
  | 3, _ => match hi, h2 with
    | 0, _ => omega
    | 1, _ => omega
    | 2, _ => omega
    | 3, _ => rfl
theorem own_drop {bs : List Int32} {j N : Nat} {b : Int32} (hb : bs[j]? = some b) (hj : j < N) : (bs.take N).drop j = b :: (bs.take N).drop (j + 1) := by
  obtain ⟨h1, h2⟩ := List.getElem?_eq_some_iff.mp hb
  have h3 : j < (bs.take N).length := by rw [List.length_take]; omega
  rw [List.drop_eq_getElem_cons h3, List.getElem_take, h2]
theorem own_pick (p0 p1 p2 : Int32) (i : Nat) (h3 : i < 3) (g0 : 0 ≤ p0.toInt ∧ p0.toInt < 3) (g1 : 0 ≤ p1.toInt ∧ p1.toInt < 3) (g2 : 0 ≤ p2.toInt ∧ p2.toInt < 3) : ∃ q : Int32, ([p0, p1, p2] : List Int32)[i]? = some q ∧ ([(.int p0), (.int p1), (.int p2)] : List Value)[i]? = some (.int q) ∧ 0 ≤ q.toInt ∧ q.toInt < 3 := by
  match i, h3 with
  | 0, _ => exact ⟨p0, rfl, rfl, g0⟩
  | 1, _ => exact ⟨p1, rfl, rfl, g1⟩
  | 2, _ => exact ⟨p2, rfl, rfl, g2⟩
set_option maxRecDepth 65536 in
set_option maxHeartbeats 40000000 in
theorem c_step0 {l : Launch} {Z : State} {a0 : Array Value} (hw : ∀ d ∈ tables_1, d.before a0 Z = true) {h0 : Heap} {n0 : Nat} (sz0 : n0 ≤ h0.size) (ap ar ek an el : Addr) (lo hi : Int32) (rm : Int64) (cn k0 k1 k2 l0 l1 l2 p0 p1 p2 : Int32) (r0 r1 r2 : Int64) (ne_ap_ar : ap ≠ ar) (ne_ap_ek : ap ≠ ek) (ne_ap_an : ap ≠ an) (ne_ap_el : ap ≠ el) (ne_ar_ek : ar ≠ ek) (ne_ar_an : ar ≠ an) (ne_ar_el : ar ≠ el) (ne_ek_an : ek ≠ an) (ne_ek_el : ek ≠ el) (ne_an_el : an ≠ el) (gn_ek : n0 ≤ ek) (gn_an : n0 ≤ an) (gn_el : n0 ≤ el) (A_ap : Al Z h0 ap .int [(.int p0), (.int p1), (.int p2)]) (A_ar : Al Z h0 ar .long [(.long r0), (.long r1), (.long r2)]) (A_ek : Al Z h0 ek .int [(.int k0), (.int k1), (.int k2)]) (A_an : Al Z h0 an .int [(.int cn)]) (A_el : Al Z h0 el .boolean [(.int l0), (.int l1), (.int l2)]) (g0 : 0 ≤ p0.toInt ∧ p0.toInt < 3) (g1 : 0 ≤ p1.toInt ∧ p1.toInt < 3) (g2 : 0 ≤ p2.toInt ∧ p2.toInt < 3) (hcn : 0 ≤ cn.toInt ∧ cn.toInt ≤ 0) : Con l Z (⟨"com/example/even_keel/evenkeel/plan/InUnitsKeepPinLaw", "step", "(III[I[JJ[I[I[Z)J"⟩ : MethodName) method_3_code 13 (some .long) ({ frames := 0, cells := 0, slots := 0, locals := 0 } : Room) [] #[(.int (0 : Int32)), (.int lo), (.int hi), (.ref ap), (.ref ar), (.long rm), (.ref ek), (.ref an), (.ref el)] h0 (fun v h L => ∃ (rm' : Int64) (cn' a0' a1' a2' b0' b1' b2' : Int32), v = some (.long rm') ∧ Fr n0 L ∧ Keep h0 h [ek, an, el] ∧ Al Z h ek .int [(.int a0'), (.int a1'), (.int a2')] ∧ Al Z h an .int [(.int cn')] ∧ Al Z h el .boolean [(.int b0'), (.int b1'), (.int b2')] ∧ own_st r0 r1 r2 0 lo.toInt hi.toInt p0 (rm, cn, k0, k1, k2, l0, l1, l2) = (rm', cn', a0', a1', a2', b0', b1', b2') ∧ (0 ≤ cn'.toInt ∧ cn'.toInt ≤ 1)) := by
  refine con_of (Ls := #[.val (.int (0 : Int32)), .val (.int lo), .val (.int hi), .val (.ref ap), .val (.ref ar), .val (.long rm), .second, .val (.ref ek), .val (.ref an), .val (.ref el), .unset, .unset, .unset]) (plainFor_of_name (by first | (simp [plainName, overriddenIn]; done) | decide +kernel)) (fun m => by first | (simp [entryFrame, mkF, argsToLocals, Value.category]; done) | rfl) ?_
  have N0 : Fr n0 [] := Fr.nil _
  have K0 : Keep h0 h0 [ek, an, el] := Keep.refl _ _
  refine Go.iloadN (pc' := 1) d7_0 rfl rfl ?_
  refine Go.iloadN (pc' := 2) d7_1 rfl rfl ?_
  by_cases hc1 : (0 : Int) < lo.toInt
  · refine Go.icmpT (pc' := 10) (X := (0 : Int)) (Y := lo.toInt) d7_2 (by decide) (by decide) rfl (hc1 : (0 : Int) < lo.toInt) ?_
    refine Go.lload (pc' := 12) d7_10 rfl rfl ?_
    refine Go.retJ d7_12 rfl (by decide) (by decide) ?_
    refine ⟨rm, cn, k0, k1, k2, l0, l1, l2, rfl, N0, K0, A_ek, A_an, A_el, ?_, ?_⟩
    · unfold own_st; rw [if_pos hc1]
    · omega
  · refine Go.icmpF (pc' := 5) (X := (0 : Int)) (Y := lo.toInt) d7_2 rfl (by decide) rfl (hc1 : ¬ (0 : Int) < lo.toInt) ?_
    refine Go.iloadN (pc' := 6) d7_5 rfl rfl ?_
    refine Go.iloadN (pc' := 7) d7_6 rfl rfl ?_
    by_cases hc2 : (0 : Int) < hi.toInt
    · refine Go.icmpT (pc' := 13) (X := (0 : Int)) (Y := hi.toInt) d7_7 (by decide) (by decide) rfl (hc2 : (0 : Int) < hi.toInt) ?_
      refine Go.aloadN (pc' := 14) d7_13 rfl rfl rfl ?_
      refine Go.iloadN (pc' := 15) d7_14 rfl rfl ?_
      refine Go.iaload (pc' := 16) d7_15 rfl (i := 0) (v := (.int p0)) A_ap (by decide) rfl ?_
      refine Go.istore (pc' := 18) d7_16 rfl (Ls' := #[.val (.int (0 : Int32)), .val (.int lo), .val (.int hi), .val (.ref ap), .val (.ref ar), .val (.long rm), .second, .val (.ref ek), .val (.ref an), .val (.ref el), .val (.int p0), .unset, .unset]) rfl ?_
      refine Go.aload (pc' := 20) d7_18 rfl rfl rfl ?_
      refine Go.iload (pc' := 22) d7_20 rfl rfl ?_
      obtain ⟨j, hj, hj3⟩ := own_nat p0 0 g0.1 g0.2
      refine Go.laload (pc' := 23) d7_22 rfl (i := j) (v := (.long (own_r r0 r1 r2 p0))) A_ar hj (own_rat r0 r1 r2 p0 j hj hj3) ?_
      refine Go.lstore (pc' := 25) d7_23 rfl (Ls' := #[.val (.int (0 : Int32)), .val (.int lo), .val (.int hi), .val (.ref ap), .val (.ref ar), .val (.long rm), .second, .val (.ref ek), .val (.ref an), .val (.ref el), .val (.int p0), .val (.long (own_r r0 r1 r2 p0)), .second]) rfl ?_
      refine Go.lload (pc' := 27) d7_25 rfl rfl ?_
      refine Go.lload (pc' := 29) d7_27 rfl rfl ?_
      by_cases hc3 : rm.toInt < (own_r r0 r1 r2 p0).toInt
      · refine Go.lcmpT (pc' := 58) (X := (own_r r0 r1 r2 p0).toInt) (Y := rm.toInt) d7_29 d7_30 rfl (by decide) rfl rfl (hc3 : rm.toInt < (own_r r0 r1 r2 p0).toInt) ?_
        refine Go.aload (pc' := 60) d7_58 rfl rfl rfl ?_
        refine Go.iload (pc' := 62) d7_60 rfl rfl ?_
        refine Go.iconst (pc' := 63) d7_62 rfl (z := (1 : Int32)) (by decide) ?_
        refine Go.bastoreZ (pc' := 64) (i := j) (v := (.int (1 : Int32))) (vs' := [(.int (own_u p0 0 (1 : Int32) l0)), (.int (own_u p0 1 (1 : Int32) l1)), (.int (own_u p0 2 (1 : Int32) l2))]) d7_63 rfl A_el hj hj3 (by decide) (own_set3 p0 (1 : Int32) l0 l1 l2 j hj hj3) ?_
        intro h4 L4 NL4 W4 B4
        replace N0 := NL4 _ N0 gn_el
        replace sz0 : n0 ≤ h4.size := by rw [W4.size]; exact sz0
        replace A_ap := A_ap.other W4 ne_ap_el
        replace A_ar := A_ar.other W4 ne_ar_el
        replace A_ek := A_ek.other W4 ne_ek_el
        replace A_an := A_an.other W4 ne_an_el
        replace K0 := K0.wr W4 (Or.inl (by simp))
        clear A_el; have A_el := B4
        refine Go.lload (pc' := 66) d7_64 rfl rfl ?_
        refine Go.retJ d7_66 rfl (by decide) (by decide) ?_
        refine ⟨rm, cn, k0, k1, k2, (own_u p0 0 (1 : Int32) l0), (own_u p0 1 (1 : Int32) l1), (own_u p0 2 (1 : Int32) l2), rfl, N0, K0, A_ek, A_an, A_el, ?_, ?_⟩
        · unfold own_st; rw [if_neg hc1, if_pos hc2]; show (if _ then _ else _) = _; rw [if_pos hc3]
        · omega
      · refine Go.lcmpF (pc' := 33) (X := (own_r r0 r1 r2 p0).toInt) (Y := rm.toInt) d7_29 d7_30 rfl rfl rfl rfl (hc3 : ¬ rm.toInt < (own_r r0 r1 r2 p0).toInt) ?_
        refine Go.aload (pc' := 35) d7_33 rfl rfl rfl ?_
        refine Go.aload (pc' := 37) d7_35 rfl rfl rfl ?_
        refine Go.iconst (pc' := 38) d7_37 rfl (z := (0 : Int32)) (by decide) ?_
        refine Go.iaload (pc' := 39) d7_38 rfl (i := 0) (v := (.int cn)) A_an (by decide) rfl ?_
        refine Go.iload (pc' := 41) d7_39 rfl rfl ?_
        obtain ⟨jc, hjc, hjc3⟩ := own_nat cn 0 hcn.1 (by omega)
        refine Go.iastore (pc' := 42) (i := jc) (v := (.int p0)) (vs' := [(.int (own_u cn 0 p0 k0)), (.int (own_u cn 1 p0 k1)), (.int (own_u cn 2 p0 k2))]) d7_41 rfl A_ek hjc hjc3 rfl (own_set3 cn p0 k0 k1 k2 jc hjc hjc3) ?_
        intro h5 L5 NL5 W5 B5
        replace N0 := NL5 _ N0 gn_ek
        replace sz0 : n0 ≤ h5.size := by rw [W5.size]; exact sz0
        replace A_ap := A_ap.other W5 ne_ap_ek
        replace A_ar := A_ar.other W5 ne_ar_ek
        replace A_an := A_an.other W5 (Ne.symm ne_ek_an)
        replace A_el := A_el.other W5 (Ne.symm ne_ek_el)
        replace K0 := K0.wr W5 (Or.inl (by simp))
        clear A_ek; have A_ek := B5
        refine Go.aload (pc' := 44) d7_42 rfl rfl rfl ?_
        refine Go.iconst (pc' := 45) d7_44 rfl (z := (0 : Int32)) (by decide) ?_
        refine Go.aload (pc' := 47) d7_45 rfl rfl rfl ?_
        refine Go.iconst (pc' := 48) d7_47 rfl (z := (0 : Int32)) (by decide) ?_
        refine Go.iaload (pc' := 49) d7_48 rfl (i := 0) (v := (.int cn)) A_an (by decide) rfl ?_
        refine Go.iconst (pc' := 50) d7_49 rfl (z := (1 : Int32)) (by decide) ?_
        refine Go.iadd (pc' := 51) d7_50 rfl rfl ?_
        refine Go.iastore (pc' := 52) (i := 0) (v := (.int (cn + (1 : Int32)))) (vs' := [(.int (cn + (1 : Int32)))]) d7_51 rfl A_an (by decide) (Nat.le_of_ble_eq_true rfl) rfl rfl ?_
        intro h6 L6 NL6 W6 B6
        replace N0 := NL6 _ N0 gn_an
        replace sz0 : n0 ≤ h6.size := by rw [W6.size]; exact sz0
        replace A_ap := A_ap.other W6 ne_ap_an
        replace A_ar := A_ar.other W6 ne_ar_an
        replace A_ek := A_ek.other W6 ne_ek_an
        replace A_el := A_el.other W6 (Ne.symm ne_an_el)
        replace K0 := K0.wr W6 (Or.inl (by simp))
        clear A_an; have A_an := B6
        refine Go.lload (pc' := 54) d7_52 rfl rfl ?_
        refine Go.lload (pc' := 56) d7_54 rfl rfl ?_
        refine Go.lsub (pc' := 57) d7_56 rfl rfl ?_
        refine Go.retJ d7_57 rfl (by decide) (by decide) ?_
        refine ⟨(rm - (own_r r0 r1 r2 p0)), (cn + (1 : Int32)), (own_u cn 0 p0 k0), (own_u cn 1 p0 k1), (own_u cn 2 p0 k2), l0, l1, l2, rfl, N0, K0, A_ek, A_an, A_el, ?_, ?_⟩
        · unfold own_st; rw [if_neg hc1, if_pos hc2]; show (if _ then _ else _) = _; rw [if_neg hc3]
        · have e1 := c_iadd cn (1 : Int32); have r1 := rng32 (cn + (1 : Int32)); have k1 : (1 : Int32).toInt = 1 := (by decide); omega
    · refine Go.icmpF (pc' := 10) (X := (0 : Int)) (Y := hi.toInt) d7_7 rfl (by decide) rfl (hc2 : ¬ (0 : Int) < hi.toInt) ?_
      refine Go.lload (pc' := 12) d7_10 rfl rfl ?_
      refine Go.retJ d7_12 rfl (by decide) (by decide) ?_
      refine ⟨rm, cn, k0, k1, k2, l0, l1, l2, rfl, N0, K0, A_ek, A_an, A_el, ?_, ?_⟩
      · unfold own_st; rw [if_neg hc1, if_neg hc2]
      · omega
set_option maxRecDepth 65536 in
set_option maxHeartbeats 40000000 in
theorem c_step1 {l : Launch} {Z : State} {a0 : Array Value} (hw : ∀ d ∈ tables_1, d.before a0 Z = true) {h0 : Heap} {n0 : Nat} (sz0 : n0 ≤ h0.size) (ap ar ek an el : Addr) (lo hi : Int32) (rm : Int64) (cn k0 k1 k2 l0 l1 l2 p0 p1 p2 : Int32) (r0 r1 r2 : Int64) (ne_ap_ar : ap ≠ ar) (ne_ap_ek : ap ≠ ek) (ne_ap_an : ap ≠ an) (ne_ap_el : ap ≠ el) (ne_ar_ek : ar ≠ ek) (ne_ar_an : ar ≠ an) (ne_ar_el : ar ≠ el) (ne_ek_an : ek ≠ an) (ne_ek_el : ek ≠ el) (ne_an_el : an ≠ el) (gn_ek : n0 ≤ ek) (gn_an : n0 ≤ an) (gn_el : n0 ≤ el) (A_ap : Al Z h0 ap .int [(.int p0), (.int p1), (.int p2)]) (A_ar : Al Z h0 ar .long [(.long r0), (.long r1), (.long r2)]) (A_ek : Al Z h0 ek .int [(.int k0), (.int k1), (.int k2)]) (A_an : Al Z h0 an .int [(.int cn)]) (A_el : Al Z h0 el .boolean [(.int l0), (.int l1), (.int l2)]) (g0 : 0 ≤ p0.toInt ∧ p0.toInt < 3) (g1 : 0 ≤ p1.toInt ∧ p1.toInt < 3) (g2 : 0 ≤ p2.toInt ∧ p2.toInt < 3) (hcn : 0 ≤ cn.toInt ∧ cn.toInt ≤ 1) : Con l Z (⟨"com/example/even_keel/evenkeel/plan/InUnitsKeepPinLaw", "step", "(III[I[JJ[I[I[Z)J"⟩ : MethodName) method_3_code 13 (some .long) ({ frames := 0, cells := 0, slots := 0, locals := 0 } : Room) [] #[(.int (1 : Int32)), (.int lo), (.int hi), (.ref ap), (.ref ar), (.long rm), (.ref ek), (.ref an), (.ref el)] h0 (fun v h L => ∃ (rm' : Int64) (cn' a0' a1' a2' b0' b1' b2' : Int32), v = some (.long rm') ∧ Fr n0 L ∧ Keep h0 h [ek, an, el] ∧ Al Z h ek .int [(.int a0'), (.int a1'), (.int a2')] ∧ Al Z h an .int [(.int cn')] ∧ Al Z h el .boolean [(.int b0'), (.int b1'), (.int b2')] ∧ own_st r0 r1 r2 1 lo.toInt hi.toInt p1 (rm, cn, k0, k1, k2, l0, l1, l2) = (rm', cn', a0', a1', a2', b0', b1', b2') ∧ (0 ≤ cn'.toInt ∧ cn'.toInt ≤ 2)) := by
  refine con_of (Ls := #[.val (.int (1 : Int32)), .val (.int lo), .val (.int hi), .val (.ref ap), .val (.ref ar), .val (.long rm), .second, .val (.ref ek), .val (.ref an), .val (.ref el), .unset, .unset, .unset]) (plainFor_of_name (by first | (simp [plainName, overriddenIn]; done) | decide +kernel)) (fun m => by first | (simp [entryFrame, mkF, argsToLocals, Value.category]; done) | rfl) ?_
  have N0 : Fr n0 [] := Fr.nil _
  have K0 : Keep h0 h0 [ek, an, el] := Keep.refl _ _
  refine Go.iloadN (pc' := 1) d7_0 rfl rfl ?_
  refine Go.iloadN (pc' := 2) d7_1 rfl rfl ?_
  by_cases hc1 : (1 : Int) < lo.toInt
  · refine Go.icmpT (pc' := 10) (X := (1 : Int)) (Y := lo.toInt) d7_2 (by decide) (by decide) rfl (hc1 : (1 : Int) < lo.toInt) ?_
    refine Go.lload (pc' := 12) d7_10 rfl rfl ?_
    refine Go.retJ d7_12 rfl (by decide) (by decide) ?_
    refine ⟨rm, cn, k0, k1, k2, l0, l1, l2, rfl, N0, K0, A_ek, A_an, A_el, ?_, ?_⟩
    · unfold own_st; rw [if_pos hc1]
    · omega
  · refine Go.icmpF (pc' := 5) (X := (1 : Int)) (Y := lo.toInt) d7_2 rfl (by decide) rfl (hc1 : ¬ (1 : Int) < lo.toInt) ?_
    refine Go.iloadN (pc' := 6) d7_5 rfl rfl ?_
    refine Go.iloadN (pc' := 7) d7_6 rfl rfl ?_
    by_cases hc2 : (1 : Int) < hi.toInt
    · refine Go.icmpT (pc' := 13) (X := (1 : Int)) (Y := hi.toInt) d7_7 (by decide) (by decide) rfl (hc2 : (1 : Int) < hi.toInt) ?_
      refine Go.aloadN (pc' := 14) d7_13 rfl rfl rfl ?_
      refine Go.iloadN (pc' := 15) d7_14 rfl rfl ?_
      refine Go.iaload (pc' := 16) d7_15 rfl (i := 1) (v := (.int p1)) A_ap (by decide) rfl ?_
      refine Go.istore (pc' := 18) d7_16 rfl (Ls' := #[.val (.int (1 : Int32)), .val (.int lo), .val (.int hi), .val (.ref ap), .val (.ref ar), .val (.long rm), .second, .val (.ref ek), .val (.ref an), .val (.ref el), .val (.int p1), .unset, .unset]) rfl ?_
      refine Go.aload (pc' := 20) d7_18 rfl rfl rfl ?_
      refine Go.iload (pc' := 22) d7_20 rfl rfl ?_
      obtain ⟨j, hj, hj3⟩ := own_nat p1 0 g1.1 g1.2
      refine Go.laload (pc' := 23) d7_22 rfl (i := j) (v := (.long (own_r r0 r1 r2 p1))) A_ar hj (own_rat r0 r1 r2 p1 j hj hj3) ?_
      refine Go.lstore (pc' := 25) d7_23 rfl (Ls' := #[.val (.int (1 : Int32)), .val (.int lo), .val (.int hi), .val (.ref ap), .val (.ref ar), .val (.long rm), .second, .val (.ref ek), .val (.ref an), .val (.ref el), .val (.int p1), .val (.long (own_r r0 r1 r2 p1)), .second]) rfl ?_
      refine Go.lload (pc' := 27) d7_25 rfl rfl ?_
      refine Go.lload (pc' := 29) d7_27 rfl rfl ?_
      by_cases hc3 : rm.toInt < (own_r r0 r1 r2 p1).toInt
      · refine Go.lcmpT (pc' := 58) (X := (own_r r0 r1 r2 p1).toInt) (Y := rm.toInt) d7_29 d7_30 rfl (by decide) rfl rfl (hc3 : rm.toInt < (own_r r0 r1 r2 p1).toInt) ?_
        refine Go.aload (pc' := 60) d7_58 rfl rfl rfl ?_
        refine Go.iload (pc' := 62) d7_60 rfl rfl ?_
        refine Go.iconst (pc' := 63) d7_62 rfl (z := (1 : Int32)) (by decide) ?_
        refine Go.bastoreZ (pc' := 64) (i := j) (v := (.int (1 : Int32))) (vs' := [(.int (own_u p1 0 (1 : Int32) l0)), (.int (own_u p1 1 (1 : Int32) l1)), (.int (own_u p1 2 (1 : Int32) l2))]) d7_63 rfl A_el hj hj3 (by decide) (own_set3 p1 (1 : Int32) l0 l1 l2 j hj hj3) ?_
        intro h4 L4 NL4 W4 B4
        replace N0 := NL4 _ N0 gn_el
        replace sz0 : n0 ≤ h4.size := by rw [W4.size]; exact sz0
        replace A_ap := A_ap.other W4 ne_ap_el
        replace A_ar := A_ar.other W4 ne_ar_el
        replace A_ek := A_ek.other W4 ne_ek_el
        replace A_an := A_an.other W4 ne_an_el
        replace K0 := K0.wr W4 (Or.inl (by simp))
        clear A_el; have A_el := B4
        refine Go.lload (pc' := 66) d7_64 rfl rfl ?_
        refine Go.retJ d7_66 rfl (by decide) (by decide) ?_
        refine ⟨rm, cn, k0, k1, k2, (own_u p1 0 (1 : Int32) l0), (own_u p1 1 (1 : Int32) l1), (own_u p1 2 (1 : Int32) l2), rfl, N0, K0, A_ek, A_an, A_el, ?_, ?_⟩
        · unfold own_st; rw [if_neg hc1, if_pos hc2]; show (if _ then _ else _) = _; rw [if_pos hc3]
        · omega
      · refine Go.lcmpF (pc' := 33) (X := (own_r r0 r1 r2 p1).toInt) (Y := rm.toInt) d7_29 d7_30 rfl rfl rfl rfl (hc3 : ¬ rm.toInt < (own_r r0 r1 r2 p1).toInt) ?_
        refine Go.aload (pc' := 35) d7_33 rfl rfl rfl ?_
        refine Go.aload (pc' := 37) d7_35 rfl rfl rfl ?_
        refine Go.iconst (pc' := 38) d7_37 rfl (z := (0 : Int32)) (by decide) ?_
        refine Go.iaload (pc' := 39) d7_38 rfl (i := 0) (v := (.int cn)) A_an (by decide) rfl ?_
        refine Go.iload (pc' := 41) d7_39 rfl rfl ?_
        obtain ⟨jc, hjc, hjc3⟩ := own_nat cn 0 hcn.1 (by omega)
        refine Go.iastore (pc' := 42) (i := jc) (v := (.int p1)) (vs' := [(.int (own_u cn 0 p1 k0)), (.int (own_u cn 1 p1 k1)), (.int (own_u cn 2 p1 k2))]) d7_41 rfl A_ek hjc hjc3 rfl (own_set3 cn p1 k0 k1 k2 jc hjc hjc3) ?_
        intro h5 L5 NL5 W5 B5
        replace N0 := NL5 _ N0 gn_ek
        replace sz0 : n0 ≤ h5.size := by rw [W5.size]; exact sz0
        replace A_ap := A_ap.other W5 ne_ap_ek
        replace A_ar := A_ar.other W5 ne_ar_ek
        replace A_an := A_an.other W5 (Ne.symm ne_ek_an)
        replace A_el := A_el.other W5 (Ne.symm ne_ek_el)
        replace K0 := K0.wr W5 (Or.inl (by simp))
        clear A_ek; have A_ek := B5
        refine Go.aload (pc' := 44) d7_42 rfl rfl rfl ?_
        refine Go.iconst (pc' := 45) d7_44 rfl (z := (0 : Int32)) (by decide) ?_
        refine Go.aload (pc' := 47) d7_45 rfl rfl rfl ?_
        refine Go.iconst (pc' := 48) d7_47 rfl (z := (0 : Int32)) (by decide) ?_
        refine Go.iaload (pc' := 49) d7_48 rfl (i := 0) (v := (.int cn)) A_an (by decide) rfl ?_
        refine Go.iconst (pc' := 50) d7_49 rfl (z := (1 : Int32)) (by decide) ?_
        refine Go.iadd (pc' := 51) d7_50 rfl rfl ?_
        refine Go.iastore (pc' := 52) (i := 0) (v := (.int (cn + (1 : Int32)))) (vs' := [(.int (cn + (1 : Int32)))]) d7_51 rfl A_an (by decide) (Nat.le_of_ble_eq_true rfl) rfl rfl ?_
        intro h6 L6 NL6 W6 B6
        replace N0 := NL6 _ N0 gn_an
        replace sz0 : n0 ≤ h6.size := by rw [W6.size]; exact sz0
        replace A_ap := A_ap.other W6 ne_ap_an
        replace A_ar := A_ar.other W6 ne_ar_an
        replace A_ek := A_ek.other W6 ne_ek_an
        replace A_el := A_el.other W6 (Ne.symm ne_an_el)
        replace K0 := K0.wr W6 (Or.inl (by simp))
        clear A_an; have A_an := B6
        refine Go.lload (pc' := 54) d7_52 rfl rfl ?_
        refine Go.lload (pc' := 56) d7_54 rfl rfl ?_
        refine Go.lsub (pc' := 57) d7_56 rfl rfl ?_
        refine Go.retJ d7_57 rfl (by decide) (by decide) ?_
        refine ⟨(rm - (own_r r0 r1 r2 p1)), (cn + (1 : Int32)), (own_u cn 0 p1 k0), (own_u cn 1 p1 k1), (own_u cn 2 p1 k2), l0, l1, l2, rfl, N0, K0, A_ek, A_an, A_el, ?_, ?_⟩
        · unfold own_st; rw [if_neg hc1, if_pos hc2]; show (if _ then _ else _) = _; rw [if_neg hc3]
        · have e1 := c_iadd cn (1 : Int32); have r1 := rng32 (cn + (1 : Int32)); have k1 : (1 : Int32).toInt = 1 := (by decide); omega
    · refine Go.icmpF (pc' := 10) (X := (1 : Int)) (Y := hi.toInt) d7_7 rfl (by decide) rfl (hc2 : ¬ (1 : Int) < hi.toInt) ?_
      refine Go.lload (pc' := 12) d7_10 rfl rfl ?_
      refine Go.retJ d7_12 rfl (by decide) (by decide) ?_
      refine ⟨rm, cn, k0, k1, k2, l0, l1, l2, rfl, N0, K0, A_ek, A_an, A_el, ?_, ?_⟩
      · unfold own_st; rw [if_neg hc1, if_neg hc2]
      · omega
set_option maxRecDepth 65536 in
set_option maxHeartbeats 40000000 in
theorem c_step2 {l : Launch} {Z : State} {a0 : Array Value} (hw : ∀ d ∈ tables_1, d.before a0 Z = true) {h0 : Heap} {n0 : Nat} (sz0 : n0 ≤ h0.size) (ap ar ek an el : Addr) (lo hi : Int32) (rm : Int64) (cn k0 k1 k2 l0 l1 l2 p0 p1 p2 : Int32) (r0 r1 r2 : Int64) (ne_ap_ar : ap ≠ ar) (ne_ap_ek : ap ≠ ek) (ne_ap_an : ap ≠ an) (ne_ap_el : ap ≠ el) (ne_ar_ek : ar ≠ ek) (ne_ar_an : ar ≠ an) (ne_ar_el : ar ≠ el) (ne_ek_an : ek ≠ an) (ne_ek_el : ek ≠ el) (ne_an_el : an ≠ el) (gn_ek : n0 ≤ ek) (gn_an : n0 ≤ an) (gn_el : n0 ≤ el) (A_ap : Al Z h0 ap .int [(.int p0), (.int p1), (.int p2)]) (A_ar : Al Z h0 ar .long [(.long r0), (.long r1), (.long r2)]) (A_ek : Al Z h0 ek .int [(.int k0), (.int k1), (.int k2)]) (A_an : Al Z h0 an .int [(.int cn)]) (A_el : Al Z h0 el .boolean [(.int l0), (.int l1), (.int l2)]) (g0 : 0 ≤ p0.toInt ∧ p0.toInt < 3) (g1 : 0 ≤ p1.toInt ∧ p1.toInt < 3) (g2 : 0 ≤ p2.toInt ∧ p2.toInt < 3) (hcn : 0 ≤ cn.toInt ∧ cn.toInt ≤ 2) : Con l Z (⟨"com/example/even_keel/evenkeel/plan/InUnitsKeepPinLaw", "step", "(III[I[JJ[I[I[Z)J"⟩ : MethodName) method_3_code 13 (some .long) ({ frames := 0, cells := 0, slots := 0, locals := 0 } : Room) [] #[(.int (2 : Int32)), (.int lo), (.int hi), (.ref ap), (.ref ar), (.long rm), (.ref ek), (.ref an), (.ref el)] h0 (fun v h L => ∃ (rm' : Int64) (cn' a0' a1' a2' b0' b1' b2' : Int32), v = some (.long rm') ∧ Fr n0 L ∧ Keep h0 h [ek, an, el] ∧ Al Z h ek .int [(.int a0'), (.int a1'), (.int a2')] ∧ Al Z h an .int [(.int cn')] ∧ Al Z h el .boolean [(.int b0'), (.int b1'), (.int b2')] ∧ own_st r0 r1 r2 2 lo.toInt hi.toInt p2 (rm, cn, k0, k1, k2, l0, l1, l2) = (rm', cn', a0', a1', a2', b0', b1', b2') ∧ (0 ≤ cn'.toInt ∧ cn'.toInt ≤ 3)) := by
  refine con_of (Ls := #[.val (.int (2 : Int32)), .val (.int lo), .val (.int hi), .val (.ref ap), .val (.ref ar), .val (.long rm), .second, .val (.ref ek), .val (.ref an), .val (.ref el), .unset, .unset, .unset]) (plainFor_of_name (by first | (simp [plainName, overriddenIn]; done) | decide +kernel)) (fun m => by first | (simp [entryFrame, mkF, argsToLocals, Value.category]; done) | rfl) ?_
  have N0 : Fr n0 [] := Fr.nil _
  have K0 : Keep h0 h0 [ek, an, el] := Keep.refl _ _
  refine Go.iloadN (pc' := 1) d7_0 rfl rfl ?_
  refine Go.iloadN (pc' := 2) d7_1 rfl rfl ?_
  by_cases hc1 : (2 : Int) < lo.toInt
  · refine Go.icmpT (pc' := 10) (X := (2 : Int)) (Y := lo.toInt) d7_2 (by decide) (by decide) rfl (hc1 : (2 : Int) < lo.toInt) ?_
    refine Go.lload (pc' := 12) d7_10 rfl rfl ?_
    refine Go.retJ d7_12 rfl (by decide) (by decide) ?_
    refine ⟨rm, cn, k0, k1, k2, l0, l1, l2, rfl, N0, K0, A_ek, A_an, A_el, ?_, ?_⟩
    · unfold own_st; rw [if_pos hc1]
    · omega
  · refine Go.icmpF (pc' := 5) (X := (2 : Int)) (Y := lo.toInt) d7_2 rfl (by decide) rfl (hc1 : ¬ (2 : Int) < lo.toInt) ?_
    refine Go.iloadN (pc' := 6) d7_5 rfl rfl ?_
    refine Go.iloadN (pc' := 7) d7_6 rfl rfl ?_
    by_cases hc2 : (2 : Int) < hi.toInt
    · refine Go.icmpT (pc' := 13) (X := (2 : Int)) (Y := hi.toInt) d7_7 (by decide) (by decide) rfl (hc2 : (2 : Int) < hi.toInt) ?_
      refine Go.aloadN (pc' := 14) d7_13 rfl rfl rfl ?_
      refine Go.iloadN (pc' := 15) d7_14 rfl rfl ?_
      refine Go.iaload (pc' := 16) d7_15 rfl (i := 2) (v := (.int p2)) A_ap (by decide) rfl ?_
      refine Go.istore (pc' := 18) d7_16 rfl (Ls' := #[.val (.int (2 : Int32)), .val (.int lo), .val (.int hi), .val (.ref ap), .val (.ref ar), .val (.long rm), .second, .val (.ref ek), .val (.ref an), .val (.ref el), .val (.int p2), .unset, .unset]) rfl ?_
      refine Go.aload (pc' := 20) d7_18 rfl rfl rfl ?_
      refine Go.iload (pc' := 22) d7_20 rfl rfl ?_
      obtain ⟨j, hj, hj3⟩ := own_nat p2 0 g2.1 g2.2
      refine Go.laload (pc' := 23) d7_22 rfl (i := j) (v := (.long (own_r r0 r1 r2 p2))) A_ar hj (own_rat r0 r1 r2 p2 j hj hj3) ?_
      refine Go.lstore (pc' := 25) d7_23 rfl (Ls' := #[.val (.int (2 : Int32)), .val (.int lo), .val (.int hi), .val (.ref ap), .val (.ref ar), .val (.long rm), .second, .val (.ref ek), .val (.ref an), .val (.ref el), .val (.int p2), .val (.long (own_r r0 r1 r2 p2)), .second]) rfl ?_
      refine Go.lload (pc' := 27) d7_25 rfl rfl ?_
      refine Go.lload (pc' := 29) d7_27 rfl rfl ?_
      by_cases hc3 : rm.toInt < (own_r r0 r1 r2 p2).toInt
      · refine Go.lcmpT (pc' := 58) (X := (own_r r0 r1 r2 p2).toInt) (Y := rm.toInt) d7_29 d7_30 rfl (by decide) rfl rfl (hc3 : rm.toInt < (own_r r0 r1 r2 p2).toInt) ?_
        refine Go.aload (pc' := 60) d7_58 rfl rfl rfl ?_
        refine Go.iload (pc' := 62) d7_60 rfl rfl ?_
        refine Go.iconst (pc' := 63) d7_62 rfl (z := (1 : Int32)) (by decide) ?_
        refine Go.bastoreZ (pc' := 64) (i := j) (v := (.int (1 : Int32))) (vs' := [(.int (own_u p2 0 (1 : Int32) l0)), (.int (own_u p2 1 (1 : Int32) l1)), (.int (own_u p2 2 (1 : Int32) l2))]) d7_63 rfl A_el hj hj3 (by decide) (own_set3 p2 (1 : Int32) l0 l1 l2 j hj hj3) ?_
        intro h4 L4 NL4 W4 B4
        replace N0 := NL4 _ N0 gn_el
        replace sz0 : n0 ≤ h4.size := by rw [W4.size]; exact sz0
        replace A_ap := A_ap.other W4 ne_ap_el
        replace A_ar := A_ar.other W4 ne_ar_el
        replace A_ek := A_ek.other W4 ne_ek_el
        replace A_an := A_an.other W4 ne_an_el
        replace K0 := K0.wr W4 (Or.inl (by simp))
        clear A_el; have A_el := B4
        refine Go.lload (pc' := 66) d7_64 rfl rfl ?_
        refine Go.retJ d7_66 rfl (by decide) (by decide) ?_
        refine ⟨rm, cn, k0, k1, k2, (own_u p2 0 (1 : Int32) l0), (own_u p2 1 (1 : Int32) l1), (own_u p2 2 (1 : Int32) l2), rfl, N0, K0, A_ek, A_an, A_el, ?_, ?_⟩
        · unfold own_st; rw [if_neg hc1, if_pos hc2]; show (if _ then _ else _) = _; rw [if_pos hc3]
        · omega
      · refine Go.lcmpF (pc' := 33) (X := (own_r r0 r1 r2 p2).toInt) (Y := rm.toInt) d7_29 d7_30 rfl rfl rfl rfl (hc3 : ¬ rm.toInt < (own_r r0 r1 r2 p2).toInt) ?_
        refine Go.aload (pc' := 35) d7_33 rfl rfl rfl ?_
        refine Go.aload (pc' := 37) d7_35 rfl rfl rfl ?_
        refine Go.iconst (pc' := 38) d7_37 rfl (z := (0 : Int32)) (by decide) ?_
        refine Go.iaload (pc' := 39) d7_38 rfl (i := 0) (v := (.int cn)) A_an (by decide) rfl ?_
        refine Go.iload (pc' := 41) d7_39 rfl rfl ?_
        obtain ⟨jc, hjc, hjc3⟩ := own_nat cn 0 hcn.1 (by omega)
        refine Go.iastore (pc' := 42) (i := jc) (v := (.int p2)) (vs' := [(.int (own_u cn 0 p2 k0)), (.int (own_u cn 1 p2 k1)), (.int (own_u cn 2 p2 k2))]) d7_41 rfl A_ek hjc hjc3 rfl (own_set3 cn p2 k0 k1 k2 jc hjc hjc3) ?_
        intro h5 L5 NL5 W5 B5
        replace N0 := NL5 _ N0 gn_ek
        replace sz0 : n0 ≤ h5.size := by rw [W5.size]; exact sz0
        replace A_ap := A_ap.other W5 ne_ap_ek
        replace A_ar := A_ar.other W5 ne_ar_ek
        replace A_an := A_an.other W5 (Ne.symm ne_ek_an)
        replace A_el := A_el.other W5 (Ne.symm ne_ek_el)
        replace K0 := K0.wr W5 (Or.inl (by simp))
        clear A_ek; have A_ek := B5
        refine Go.aload (pc' := 44) d7_42 rfl rfl rfl ?_
        refine Go.iconst (pc' := 45) d7_44 rfl (z := (0 : Int32)) (by decide) ?_
        refine Go.aload (pc' := 47) d7_45 rfl rfl rfl ?_
        refine Go.iconst (pc' := 48) d7_47 rfl (z := (0 : Int32)) (by decide) ?_
        refine Go.iaload (pc' := 49) d7_48 rfl (i := 0) (v := (.int cn)) A_an (by decide) rfl ?_
        refine Go.iconst (pc' := 50) d7_49 rfl (z := (1 : Int32)) (by decide) ?_
        refine Go.iadd (pc' := 51) d7_50 rfl rfl ?_
        refine Go.iastore (pc' := 52) (i := 0) (v := (.int (cn + (1 : Int32)))) (vs' := [(.int (cn + (1 : Int32)))]) d7_51 rfl A_an (by decide) (Nat.le_of_ble_eq_true rfl) rfl rfl ?_
        intro h6 L6 NL6 W6 B6
        replace N0 := NL6 _ N0 gn_an
        replace sz0 : n0 ≤ h6.size := by rw [W6.size]; exact sz0
        replace A_ap := A_ap.other W6 ne_ap_an
        replace A_ar := A_ar.other W6 ne_ar_an
        replace A_ek := A_ek.other W6 ne_ek_an
        replace A_el := A_el.other W6 (Ne.symm ne_an_el)
        replace K0 := K0.wr W6 (Or.inl (by simp))
        clear A_an; have A_an := B6
        refine Go.lload (pc' := 54) d7_52 rfl rfl ?_
        refine Go.lload (pc' := 56) d7_54 rfl rfl ?_
        refine Go.lsub (pc' := 57) d7_56 rfl rfl ?_
        refine Go.retJ d7_57 rfl (by decide) (by decide) ?_
        refine ⟨(rm - (own_r r0 r1 r2 p2)), (cn + (1 : Int32)), (own_u cn 0 p2 k0), (own_u cn 1 p2 k1), (own_u cn 2 p2 k2), l0, l1, l2, rfl, N0, K0, A_ek, A_an, A_el, ?_, ?_⟩
        · unfold own_st; rw [if_neg hc1, if_pos hc2]; show (if _ then _ else _) = _; rw [if_neg hc3]
        · have e1 := c_iadd cn (1 : Int32); have r1 := rng32 (cn + (1 : Int32)); have k1 : (1 : Int32).toInt = 1 := (by decide); omega
    · refine Go.icmpF (pc' := 10) (X := (2 : Int)) (Y := hi.toInt) d7_7 rfl (by decide) rfl (hc2 : ¬ (2 : Int) < hi.toInt) ?_
      refine Go.lload (pc' := 12) d7_10 rfl rfl ?_
      refine Go.retJ d7_12 rfl (by decide) (by decide) ?_
      refine ⟨rm, cn, k0, k1, k2, l0, l1, l2, rfl, N0, K0, A_ek, A_an, A_el, ?_, ?_⟩
      · unfold own_st; rw [if_neg hc1, if_neg hc2]
      · omega
set_option maxRecDepth 65536 in
set_option maxHeartbeats 40000000 in
theorem c_super {l : Launch} {Z : State} {a0 : Array Value} (hw : ∀ d ∈ tables_1, d.before a0 Z = true) {h0 : Heap} (o : Addr) : Con l Z (⟨"com/example/even_keel/evenkeel/plan/Rooms", "<init>", "()V"⟩ : MethodName) prog_132_method_1_code 1 none ({ frames := 1, cells := 0, slots := 0, locals := 12 } : Room) [] #[(.ref o)] h0 (PQ h0 none) := by
  refine con_of (Ls := #[.val (.ref o)]) (plainFor_of_name (by first | (simp [plainName, overriddenIn]; done) | decide +kernel)) (fun m => by first | (simp [entryFrame, mkF, argsToLocals, Value.category]; done) | rfl) ?_
  refine Go.aloadN (pc' := 1) d2_0 rfl rfl rfl ?_
  refine Go.initO (pc' := 4) (W := 0) d2_1 rfl (hw _ w14) (hw _ w15) (hw _ w16) (by decide) (by decide) rfl (Nat.le_of_eq rfl) ?_
  refine Go.retV d2_4 rfl (by decide) (by decide) ?_
  exact ⟨rfl, rfl, rfl⟩
set_option maxRecDepth 65536 in
set_option maxHeartbeats 40000000 in
theorem c_init {l : Launch} {Z : State} {a0 : Array Value} (hw : ∀ d ∈ tables_1, d.before a0 Z = true) {h0 : Heap} {n0 : Nat} (sz0 : n0 ≤ h0.size) (o ar : Addr) (cap : Int64) (gn_o : n0 ≤ o) (E_o : Exa Z h0 o "com/example/even_keel/evenkeel/plan/Rooms$InUnits") (F_o_rates : Fld Z h0 o "com/example/even_keel/evenkeel/plan/Rooms$InUnits" "rates" "[J" .null) (F_o_capacity : Fld Z h0 o "com/example/even_keel/evenkeel/plan/Rooms$InUnits" "capacity" "J" (.long (0 : Int64))) (F_o_left : Fld Z h0 o "com/example/even_keel/evenkeel/plan/Rooms$InUnits" "left" "[J" .null) : Con l Z (⟨"com/example/even_keel/evenkeel/plan/Rooms$InUnits", "<init>", "(I[JJ)V"⟩ : MethodName) prog_134_method_1_code 5 none ({ frames := 2, cells := 1, slots := 2, locals := 24 } : Room) [] #[(.ref o), (.int (2 : Int32)), (.ref ar), (.long cap)] h0 (fun v h L => ∃ lf, v = none ∧ h0.size ≤ lf ∧ Fr n0 L ∧ Keep h0 h [o] ∧ Exa Z h o "com/example/even_keel/evenkeel/plan/Rooms$InUnits" ∧ Fld Z h o "com/example/even_keel/evenkeel/plan/Rooms$InUnits" "rates" "[J" (.ref ar) ∧ Fld Z h o "com/example/even_keel/evenkeel/plan/Rooms$InUnits" "capacity" "J" (.long cap) ∧ Fld Z h o "com/example/even_keel/evenkeel/plan/Rooms$InUnits" "left" "[J" (.ref lf) ∧ Al Z h lf .long [(.long (0 : Int64)), (.long (0 : Int64))]) := by
  refine con_of (Ls := #[.val (.ref o), .val (.int (2 : Int32)), .val (.ref ar), .val (.long cap), .second]) (plainFor_of_name (by first | (simp [plainName, overriddenIn]; done) | decide +kernel)) (fun m => by first | (simp [entryFrame, mkF, argsToLocals, Value.category]; done) | rfl) ?_
  have N0 : Fr n0 [] := Fr.nil _
  have K0 : Keep h0 h0 [o] := Keep.refl _ _
  refine Go.aloadN (pc' := 1) d1_0 rfl rfl rfl ?_
  refine Go.callI0 (pc' := 4) (W := 0) (a := o) (argsL := []) (rest := []) (v0 := none) (st2 := []) d1_1 rfl rfl (hw _ w9) (hw _ w10) (hw _ w12) (hw _ w13) (by decide) (c_super hw o) (by decide) (by decide) rfl rfl rfl (by decide) (by decide) rfl pd__28_29V rfl rfl (Nat.le_of_eq rfl) ?_
  refine Go.aloadN (pc' := 5) d1_4 rfl rfl rfl ?_
  refine Go.aloadN (pc' := 6) d1_5 rfl rfl rfl ?_
  refine Go.putF (pc' := 9) d1_6 rfl (hw _ w17) Via.refl F_o_rates E_o (Or.inr ⟨(hw _ w18), rfl, rfl⟩) (hw _ w4) (ty := (.array .long)) (by decide) rfl rfl ?_
  intro h1 L1 NL1 W1
  replace F_o_rates := F_o_rates.same W1
  replace N0 := NL1 _ N0 gn_o
  replace sz0 : n0 ≤ h1.size := by rw [W1.size]; exact sz0
  replace E_o := E_o.wr W1
  replace F_o_capacity := F_o_capacity.other W1 (Or.inr (slot_ne (Or.inr (hw _ w20)) (Or.inr (hw _ w18)) (by decide) (t := .long) (t' := (.array .long)) (by decide) (by decide)))
  replace F_o_left := F_o_left.other W1 (Or.inr (slot_ne (Or.inr (hw _ w22)) (Or.inr (hw _ w18)) (by decide) (t := (.array .long)) (t' := (.array .long)) (by decide) (by decide)))
  replace K0 := K0.wr W1 (Or.inl (by simp))
  refine Go.aloadN (pc' := 10) d1_9 rfl rfl rfl ?_
  refine Go.lloadN (pc' := 11) d1_10 rfl rfl ?_
  refine Go.putF (pc' := 14) d1_11 rfl (hw _ w19) Via.refl F_o_capacity E_o (Or.inr ⟨(hw _ w20), rfl, rfl⟩) (hw _ w4) (ty := .long) (by decide) rfl rfl ?_
  intro h2 L2 NL2 W2
  replace F_o_capacity := F_o_capacity.same W2
  replace N0 := NL2 _ N0 gn_o
  replace sz0 : n0 ≤ h2.size := by rw [W2.size]; exact sz0
  replace E_o := E_o.wr W2
  replace F_o_rates := F_o_rates.other W2 (Or.inr (slot_ne (Or.inr (hw _ w18)) (Or.inr (hw _ w20)) (by decide) (t := (.array .long)) (t' := .long) (by decide) (by decide)))
  replace F_o_left := F_o_left.other W2 (Or.inr (slot_ne (Or.inr (hw _ w22)) (Or.inr (hw _ w20)) (by decide) (t := (.array .long)) (t' := .long) (by decide) (by decide)))
  replace K0 := K0.wr W2 (Or.inl (by simp))
  refine Go.aloadN (pc' := 15) d1_14 rfl rfl rfl ?_
  refine Go.iloadN (pc' := 16) d1_15 rfl rfl ?_
  refine Go.new_long (pc' := 18) (k' := 1) (n' := 2) (N := 2) (vs := [(.long (0 : Int64)), (.long (0 : Int64))]) d1_16 rfl (hw _ w0) (by decide) rfl 2 (Nat.le_refl _) (by decide) (by decide) (by decide) rfl rfl ?_
  intro h3 lf ha_lf X3 A_lf
  have ne_o_lf : o ≠ lf := Nat.ne_of_lt (by rw [ha_lf]; exact E_o.lt)
  have gn_lf : n0 ≤ lf := by rw [ha_lf]; exact sz0
  have hs_lf : h0.size ≤ lf := by rw [ha_lf]; exact K0.1
  replace sz0 : n0 ≤ h3.size := Nat.le_trans sz0 X3.1
  replace E_o := E_o.ext X3
  replace F_o_rates := F_o_rates.ext X3
  replace F_o_capacity := F_o_capacity.ext X3
  replace F_o_left := F_o_left.ext X3
  replace K0 := K0.ext X3
  refine Go.putF (pc' := 21) d1_18 rfl (hw _ w21) Via.refl F_o_left E_o (Or.inr ⟨(hw _ w22), rfl, rfl⟩) (hw _ w4) (ty := (.array .long)) (by decide) rfl rfl ?_
  intro h4 L4 NL4 W4
  replace F_o_left := F_o_left.same W4
  replace N0 := NL4 _ N0 gn_o
  replace sz0 : n0 ≤ h4.size := by rw [W4.size]; exact sz0
  replace E_o := E_o.wr W4
  replace F_o_rates := F_o_rates.other W4 (Or.inr (slot_ne (Or.inr (hw _ w18)) (Or.inr (hw _ w22)) (by decide) (t := (.array .long)) (t' := (.array .long)) (by decide) (by decide)))
  replace F_o_capacity := F_o_capacity.other W4 (Or.inr (slot_ne (Or.inr (hw _ w20)) (Or.inr (hw _ w22)) (by decide) (t := .long) (t' := (.array .long)) (by decide) (by decide)))
  replace A_lf := A_lf.other W4 (Ne.symm ne_o_lf)
  replace K0 := K0.wr W4 (Or.inl (by simp))
  refine Go.retV d1_21 rfl (by decide) (by decide) ?_
  exact ⟨lf, rfl, hs_lf, N0, K0, E_o, F_o_rates, F_o_capacity, F_o_left, A_lf⟩
set_option maxRecDepth 65536 in
set_option maxHeartbeats 40000000 in
theorem c_empty0 {l : Launch} {Z : State} {a0 : Array Value} (hw : ∀ d ∈ tables_1, d.before a0 Z = true) {h0 : Heap} {n0 : Nat} (sz0 : n0 ≤ h0.size) (o ar lf : Addr) (cap f0 f1 : Int64) (gn_lf : n0 ≤ lf) (E_o : Exa Z h0 o "com/example/even_keel/evenkeel/plan/Rooms$InUnits") (F_o_rates : Fld Z h0 o "com/example/even_keel/evenkeel/plan/Rooms$InUnits" "rates" "[J" (.ref ar)) (F_o_capacity : Fld Z h0 o "com/example/even_keel/evenkeel/plan/Rooms$InUnits" "capacity" "J" (.long cap)) (F_o_left : Fld Z h0 o "com/example/even_keel/evenkeel/plan/Rooms$InUnits" "left" "[J" (.ref lf)) (A_lf : Al Z h0 lf .long [(.long f0), (.long f1)]) : Con l Z (⟨"com/example/even_keel/evenkeel/plan/Rooms$InUnits", "empty", "(I)V"⟩ : MethodName) prog_134_method_2_code 2 none ({ frames := 0, cells := 0, slots := 0, locals := 0 } : Room) [] #[(.ref o), (.int (0 : Int32))] h0 (fun v h L => v = none ∧ Fr n0 L ∧ Keep h0 h [lf] ∧ Al Z h lf .long [(.long cap), (.long f1)]) := by
  refine con_of (Ls := #[.val (.ref o), .val (.int (0 : Int32))]) (plainFor_of_name (by first | (simp [plainName, overriddenIn]; done) | decide +kernel)) (fun m => by first | (simp [entryFrame, mkF, argsToLocals, Value.category]; done) | rfl) ?_
  have N0 : Fr n0 [] := Fr.nil _
  have K0 : Keep h0 h0 [lf] := Keep.refl _ _
  have ne_o_lf : o ≠ lf := ne_al E_o (hw _ w4) A_lf
  refine Go.aloadN (pc' := 1) d4_0 rfl rfl rfl ?_
  refine Go.getF (pc' := 4) d4_1 rfl (hw _ w21) Via.refl F_o_left ?_
  refine Go.iloadN (pc' := 5) d4_4 rfl rfl ?_
  refine Go.aloadN (pc' := 6) d4_5 rfl rfl rfl ?_
  refine Go.getF (pc' := 9) d4_6 rfl (hw _ w19) Via.refl F_o_capacity ?_
  refine Go.lastore (pc' := 10) (i := 0) (v := (.long cap)) (vs' := [(.long cap), (.long f1)]) d4_9 rfl A_lf (by decide) (Nat.le_of_ble_eq_true rfl) rfl rfl ?_
  intro h1 L1 NL1 W1 B1
  replace N0 := NL1 _ N0 gn_lf
  replace sz0 : n0 ≤ h1.size := by rw [W1.size]; exact sz0
  replace E_o := E_o.wr W1
  replace F_o_rates := F_o_rates.other W1 (Or.inl ne_o_lf)
  replace F_o_capacity := F_o_capacity.other W1 (Or.inl ne_o_lf)
  replace F_o_left := F_o_left.other W1 (Or.inl ne_o_lf)
  replace K0 := K0.wr W1 (Or.inl (by simp))
  clear A_lf; have A_lf := B1
  refine Go.retV d4_10 rfl (by decide) (by decide) ?_
  exact ⟨rfl, N0, K0, A_lf⟩
set_option maxRecDepth 65536 in
set_option maxHeartbeats 40000000 in
theorem c_setr0 {l : Launch} {Z : State} {a0 : Array Value} (hw : ∀ d ∈ tables_1, d.before a0 Z = true) {h0 : Heap} {n0 : Nat} (sz0 : n0 ≤ h0.size) (o ar lf : Addr) (cap f0 f1 r0 r1 r2 : Int64) (gn_lf : n0 ≤ lf) (ne_ar_lf : ar ≠ lf) (E_o : Exa Z h0 o "com/example/even_keel/evenkeel/plan/Rooms$InUnits") (F_o_rates : Fld Z h0 o "com/example/even_keel/evenkeel/plan/Rooms$InUnits" "rates" "[J" (.ref ar)) (F_o_capacity : Fld Z h0 o "com/example/even_keel/evenkeel/plan/Rooms$InUnits" "capacity" "J" (.long cap)) (F_o_left : Fld Z h0 o "com/example/even_keel/evenkeel/plan/Rooms$InUnits" "left" "[J" (.ref lf)) (A_lf : Al Z h0 lf .long [(.long f0), (.long f1)]) (A_ar : Al Z h0 ar .long [(.long r0), (.long r1), (.long r2)]) : Con l Z (⟨"com/example/even_keel/evenkeel/plan/Rooms$InUnits", "setToRate", "(II)V"⟩ : MethodName) prog_134_method_5_code 3 none ({ frames := 0, cells := 0, slots := 0, locals := 0 } : Room) [] #[(.ref o), (.int (0 : Int32)), (.int (0 : Int32))] h0 (fun v h L => v = none ∧ Fr n0 L ∧ Keep h0 h [lf] ∧ Al Z h lf .long [(.long r0), (.long f1)]) := by
  refine con_of (Ls := #[.val (.ref o), .val (.int (0 : Int32)), .val (.int (0 : Int32))]) (plainFor_of_name (by first | (simp [plainName, overriddenIn]; done) | decide +kernel)) (fun m => by first | (simp [entryFrame, mkF, argsToLocals, Value.category]; done) | rfl) ?_
  have N0 : Fr n0 [] := Fr.nil _
  have K0 : Keep h0 h0 [lf] := Keep.refl _ _
  have ne_o_lf : o ≠ lf := ne_al E_o (hw _ w4) A_lf
  have ne_o_ar : o ≠ ar := ne_al E_o (hw _ w4) A_ar
  refine Go.aloadN (pc' := 1) d5_0 rfl rfl rfl ?_
  refine Go.getF (pc' := 4) d5_1 rfl (hw _ w21) Via.refl F_o_left ?_
  refine Go.iloadN (pc' := 5) d5_4 rfl rfl ?_
  refine Go.aloadN (pc' := 6) d5_5 rfl rfl rfl ?_
  refine Go.getF (pc' := 9) d5_6 rfl (hw _ w17) Via.refl F_o_rates ?_
  refine Go.iloadN (pc' := 10) d5_9 rfl rfl ?_
  refine Go.laload (pc' := 11) d5_10 rfl (i := 0) (v := (.long r0)) A_ar (by decide) rfl ?_
  refine Go.lastore (pc' := 12) (i := 0) (v := (.long r0)) (vs' := [(.long r0), (.long f1)]) d5_11 rfl A_lf (by decide) (Nat.le_of_ble_eq_true rfl) rfl rfl ?_
  intro h1 L1 NL1 W1 B1
  replace N0 := NL1 _ N0 gn_lf
  replace sz0 : n0 ≤ h1.size := by rw [W1.size]; exact sz0
  replace E_o := E_o.wr W1
  replace F_o_rates := F_o_rates.other W1 (Or.inl ne_o_lf)
  replace F_o_capacity := F_o_capacity.other W1 (Or.inl ne_o_lf)
  replace F_o_left := F_o_left.other W1 (Or.inl ne_o_lf)
  replace A_ar := A_ar.other W1 ne_ar_lf
  replace K0 := K0.wr W1 (Or.inl (by simp))
  clear A_lf; have A_lf := B1
  refine Go.retV d5_12 rfl (by decide) (by decide) ?_
  exact ⟨rfl, N0, K0, A_lf⟩
set_option maxRecDepth 65536 in
set_option maxHeartbeats 40000000 in
theorem c_empty1 {l : Launch} {Z : State} {a0 : Array Value} (hw : ∀ d ∈ tables_1, d.before a0 Z = true) {h0 : Heap} {n0 : Nat} (sz0 : n0 ≤ h0.size) (o ar lf : Addr) (cap f0 f1 : Int64) (gn_lf : n0 ≤ lf) (E_o : Exa Z h0 o "com/example/even_keel/evenkeel/plan/Rooms$InUnits") (F_o_rates : Fld Z h0 o "com/example/even_keel/evenkeel/plan/Rooms$InUnits" "rates" "[J" (.ref ar)) (F_o_capacity : Fld Z h0 o "com/example/even_keel/evenkeel/plan/Rooms$InUnits" "capacity" "J" (.long cap)) (F_o_left : Fld Z h0 o "com/example/even_keel/evenkeel/plan/Rooms$InUnits" "left" "[J" (.ref lf)) (A_lf : Al Z h0 lf .long [(.long f0), (.long f1)]) : Con l Z (⟨"com/example/even_keel/evenkeel/plan/Rooms$InUnits", "empty", "(I)V"⟩ : MethodName) prog_134_method_2_code 2 none ({ frames := 0, cells := 0, slots := 0, locals := 0 } : Room) [] #[(.ref o), (.int (1 : Int32))] h0 (fun v h L => v = none ∧ Fr n0 L ∧ Keep h0 h [lf] ∧ Al Z h lf .long [(.long f0), (.long cap)]) := by
  refine con_of (Ls := #[.val (.ref o), .val (.int (1 : Int32))]) (plainFor_of_name (by first | (simp [plainName, overriddenIn]; done) | decide +kernel)) (fun m => by first | (simp [entryFrame, mkF, argsToLocals, Value.category]; done) | rfl) ?_
  have N0 : Fr n0 [] := Fr.nil _
  have K0 : Keep h0 h0 [lf] := Keep.refl _ _
  have ne_o_lf : o ≠ lf := ne_al E_o (hw _ w4) A_lf
  refine Go.aloadN (pc' := 1) d4_0 rfl rfl rfl ?_
  refine Go.getF (pc' := 4) d4_1 rfl (hw _ w21) Via.refl F_o_left ?_
  refine Go.iloadN (pc' := 5) d4_4 rfl rfl ?_
  refine Go.aloadN (pc' := 6) d4_5 rfl rfl rfl ?_
  refine Go.getF (pc' := 9) d4_6 rfl (hw _ w19) Via.refl F_o_capacity ?_
  refine Go.lastore (pc' := 10) (i := 1) (v := (.long cap)) (vs' := [(.long f0), (.long cap)]) d4_9 rfl A_lf (by decide) (Nat.le_of_ble_eq_true rfl) rfl rfl ?_
  intro h1 L1 NL1 W1 B1
  replace N0 := NL1 _ N0 gn_lf
  replace sz0 : n0 ≤ h1.size := by rw [W1.size]; exact sz0
  replace E_o := E_o.wr W1
  replace F_o_rates := F_o_rates.other W1 (Or.inl ne_o_lf)
  replace F_o_capacity := F_o_capacity.other W1 (Or.inl ne_o_lf)
  replace F_o_left := F_o_left.other W1 (Or.inl ne_o_lf)
  replace K0 := K0.wr W1 (Or.inl (by simp))
  clear A_lf; have A_lf := B1
  refine Go.retV d4_10 rfl (by decide) (by decide) ?_
  exact ⟨rfl, N0, K0, A_lf⟩
set_option maxRecDepth 65536 in
set_option maxHeartbeats 40000000 in
theorem c_setr1 {l : Launch} {Z : State} {a0 : Array Value} (hw : ∀ d ∈ tables_1, d.before a0 Z = true) {h0 : Heap} {n0 : Nat} (sz0 : n0 ≤ h0.size) (o ar lf : Addr) (cap f0 f1 r0 r1 r2 : Int64) (gn_lf : n0 ≤ lf) (ne_ar_lf : ar ≠ lf) (E_o : Exa Z h0 o "com/example/even_keel/evenkeel/plan/Rooms$InUnits") (F_o_rates : Fld Z h0 o "com/example/even_keel/evenkeel/plan/Rooms$InUnits" "rates" "[J" (.ref ar)) (F_o_capacity : Fld Z h0 o "com/example/even_keel/evenkeel/plan/Rooms$InUnits" "capacity" "J" (.long cap)) (F_o_left : Fld Z h0 o "com/example/even_keel/evenkeel/plan/Rooms$InUnits" "left" "[J" (.ref lf)) (A_lf : Al Z h0 lf .long [(.long f0), (.long f1)]) (A_ar : Al Z h0 ar .long [(.long r0), (.long r1), (.long r2)]) : Con l Z (⟨"com/example/even_keel/evenkeel/plan/Rooms$InUnits", "setToRate", "(II)V"⟩ : MethodName) prog_134_method_5_code 3 none ({ frames := 0, cells := 0, slots := 0, locals := 0 } : Room) [] #[(.ref o), (.int (1 : Int32)), (.int (0 : Int32))] h0 (fun v h L => v = none ∧ Fr n0 L ∧ Keep h0 h [lf] ∧ Al Z h lf .long [(.long f0), (.long r0)]) := by
  refine con_of (Ls := #[.val (.ref o), .val (.int (1 : Int32)), .val (.int (0 : Int32))]) (plainFor_of_name (by first | (simp [plainName, overriddenIn]; done) | decide +kernel)) (fun m => by first | (simp [entryFrame, mkF, argsToLocals, Value.category]; done) | rfl) ?_
  have N0 : Fr n0 [] := Fr.nil _
  have K0 : Keep h0 h0 [lf] := Keep.refl _ _
  have ne_o_lf : o ≠ lf := ne_al E_o (hw _ w4) A_lf
  have ne_o_ar : o ≠ ar := ne_al E_o (hw _ w4) A_ar
  refine Go.aloadN (pc' := 1) d5_0 rfl rfl rfl ?_
  refine Go.getF (pc' := 4) d5_1 rfl (hw _ w21) Via.refl F_o_left ?_
  refine Go.iloadN (pc' := 5) d5_4 rfl rfl ?_
  refine Go.aloadN (pc' := 6) d5_5 rfl rfl rfl ?_
  refine Go.getF (pc' := 9) d5_6 rfl (hw _ w17) Via.refl F_o_rates ?_
  refine Go.iloadN (pc' := 10) d5_9 rfl rfl ?_
  refine Go.laload (pc' := 11) d5_10 rfl (i := 0) (v := (.long r0)) A_ar (by decide) rfl ?_
  refine Go.lastore (pc' := 12) (i := 1) (v := (.long r0)) (vs' := [(.long f0), (.long r0)]) d5_11 rfl A_lf (by decide) (Nat.le_of_ble_eq_true rfl) rfl rfl ?_
  intro h1 L1 NL1 W1 B1
  replace N0 := NL1 _ N0 gn_lf
  replace sz0 : n0 ≤ h1.size := by rw [W1.size]; exact sz0
  replace E_o := E_o.wr W1
  replace F_o_rates := F_o_rates.other W1 (Or.inl ne_o_lf)
  replace F_o_capacity := F_o_capacity.other W1 (Or.inl ne_o_lf)
  replace F_o_left := F_o_left.other W1 (Or.inl ne_o_lf)
  replace A_ar := A_ar.other W1 ne_ar_lf
  replace K0 := K0.wr W1 (Or.inl (by simp))
  clear A_lf; have A_lf := B1
  refine Go.retV d5_12 rfl (by decide) (by decide) ?_
  exact ⟨rfl, N0, K0, A_lf⟩
set_option maxRecDepth 65536 in
set_option maxHeartbeats 40000000 in
theorem c_units {l : Launch} {Z : State} {a0 : Array Value} (hw : ∀ d ∈ tables_1, d.before a0 Z = true) {h0 : Heap} (o ar lf : Addr) (cap : Int64) (E_o : Exa Z h0 o "com/example/even_keel/evenkeel/plan/Rooms$InUnits") (F_o_rates : Fld Z h0 o "com/example/even_keel/evenkeel/plan/Rooms$InUnits" "rates" "[J" (.ref ar)) (F_o_capacity : Fld Z h0 o "com/example/even_keel/evenkeel/plan/Rooms$InUnits" "capacity" "J" (.long cap)) (F_o_left : Fld Z h0 o "com/example/even_keel/evenkeel/plan/Rooms$InUnits" "left" "[J" (.ref lf)) : Con l Z (⟨"com/example/even_keel/evenkeel/plan/Rooms$InUnits", "units", "()[J"⟩ : MethodName) prog_134_method_4_code 1 (some (.array .long)) ({ frames := 0, cells := 0, slots := 0, locals := 0 } : Room) [] #[(.ref o)] h0 (PQ h0 (some (.ref lf))) := by
  refine con_of (Ls := #[.val (.ref o)]) (plainFor_of_name (by first | (simp [plainName, overriddenIn]; done) | decide +kernel)) (fun m => by first | (simp [entryFrame, mkF, argsToLocals, Value.category]; done) | rfl) ?_
  refine Go.aloadN (pc' := 1) d8_0 rfl rfl rfl ?_
  refine Go.getF (pc' := 4) d8_1 rfl (hw _ w21) Via.refl F_o_left ?_
  refine Go.retA d8_4 rfl rfl rfl (by decide) (by decide) ?_
  exact ⟨rfl, rfl, rfl⟩
set_option maxRecDepth 65536 in
set_option maxHeartbeats 40000000 in
theorem loop_keep0 {l : Launch} {Z : State} {a0 : Array Value} (hw : ∀ d ∈ tables_1, d.before a0 Z = true) {h0 : Heap} {n0 : Nat} (o ap ar ak al lf : Addr) (lo hi p0 p1 p2 : Int32) (cap f0 f1 r0 r1 r2 : Int64) (N : Nat) (hN : hi.toInt = (N : Int)) (hN3 : N ≤ 3) (tot : Int64 × Int32 × Int32 × Int32 × Int32 × Int32 × Int32 × Int32) (ne_ap_ar : ap ≠ ar) (ne_ap_ak : ap ≠ ak) (ne_ap_al : ap ≠ al) (ne_ap_lf : ap ≠ lf) (ne_ar_ak : ar ≠ ak) (ne_ar_al : ar ≠ al) (ne_ar_lf : ar ≠ lf) (ne_ak_al : ak ≠ al) (ne_ak_lf : ak ≠ lf) (ne_al_lf : al ≠ lf) (gn_ak : n0 ≤ ak) (gn_al : n0 ≤ al) (gn_lf : n0 ≤ lf) (g0 : 0 ≤ p0.toInt ∧ p0.toInt < 3) (g1 : 0 ≤ p1.toInt ∧ p1.toInt < 3) (g2 : 0 ≤ p2.toInt ∧ p2.toInt < 3) : ∀ (m : Nat) (i : Nat) (iv : Int32) (rm : Int64) (cn k0 k1 k2 l0 l1 l2 q0 : Int32) (t0 : Int64) (h : Heap) (L : List Loc), i + m = N → iv.toInt = (i : Int) → (0 ≤ cn.toInt ∧ cn.toInt ≤ (i : Int)) → own_run r0 r1 r2 (([p0, p1, p2].take N).drop i) (rm, cn, k0, k1, k2, l0, l1, l2) = tot → Fr n0 L → n0 ≤ h.size → Keep h0 h [ak, al, lf] → Exa Z h o "com/example/even_keel/evenkeel/plan/Rooms$InUnits" → Fld Z h o "com/example/even_keel/evenkeel/plan/Rooms$InUnits" "rates" "[J" (.ref ar) → Fld Z h o "com/example/even_keel/evenkeel/plan/Rooms$InUnits" "capacity" "J" (.long cap) → Fld Z h o "com/example/even_keel/evenkeel/plan/Rooms$InUnits" "left" "[J" (.ref lf) → Al Z h ap .int [(.int p0), (.int p1), (.int p2)] → Al Z h ar .long [(.long r0), (.long r1), (.long r2)] → Al Z h ak .int [(.int k0), (.int k1), (.int k2)] → Al Z h al .boolean [(.int l0), (.int l1), (.int l2)] → Al Z h lf .long [(.long f0), (.long f1)] → Go Z l ({ frames := 0, cells := 0, slots := 0, locals := 0 } : Room) prog_134_method_9_code 14 "com/example/even_keel/evenkeel/plan/Rooms$InUnits" (some .int) "keep" 14 #[.val (.ref o), .val (.int (0 : Int32)), .val (.ref ap), .val (.int lo), .val (.int hi), .val (.ref ak), .val (.ref al), .val (.long rm), .second, .val (.int cn), .val (.int iv), .val (.int q0), .val (.long t0), .second] [] h L 0 0 (fun v h L => ∃ (rm' : Int64) (cn' a0' a1' a2' b0' b1' b2' : Int32), v = some (.int cn') ∧ Fr n0 L ∧ Keep h0 h [ak, al, lf] ∧ Al Z h ak .int [(.int a0'), (.int a1'), (.int a2')] ∧ Al Z h al .boolean [(.int b0'), (.int b1'), (.int b2')] ∧ Al Z h lf .long [(.long rm'), (.long f1)] ∧ tot = (rm', cn', a0', a1', a2', b0', b1', b2')) := by
  intro m
  induction m with
  | zero =>
    intro i iv rm cn k0 k1 k2 l0 l1 l2 q0 t0 h L him hi0 hcn htot N0 sz0 K0 E_o F_o_rates F_o_capacity F_o_left A_ap A_ar A_ak A_al A_lf
    have ne_o_ap : o ≠ ap := ne_al E_o (hw _ w4) A_ap
    have ne_o_ar : o ≠ ar := ne_al E_o (hw _ w4) A_ar
    have ne_o_ak : o ≠ ak := ne_al E_o (hw _ w4) A_ak
    have ne_o_al : o ≠ al := ne_al E_o (hw _ w4) A_al
    have ne_o_lf : o ≠ lf := ne_al E_o (hw _ w4) A_lf
    refine Go.iload (pc' := 16) d6_14 rfl rfl ?_
    refine Go.iload (pc' := 18) d6_16 rfl rfl ?_
    refine Go.icmpT (pc' := 76) (X := iv.toInt) (Y := hi.toInt) d6_18 (by decide) rfl rfl (by omega : ¬ iv.toInt < hi.toInt) ?_
    refine Go.aloadN (pc' := 77) d6_76 rfl rfl rfl ?_
    refine Go.getF (pc' := 80) d6_77 rfl (hw _ w21) Via.refl F_o_left ?_
    refine Go.iloadN (pc' := 81) d6_80 rfl rfl ?_
    refine Go.lload (pc' := 83) d6_81 rfl rfl ?_
    refine Go.lastore (pc' := 84) (i := 0) (v := (.long rm)) (vs' := [(.long rm), (.long f1)]) d6_83 rfl A_lf (by decide) (Nat.le_of_ble_eq_true rfl) rfl rfl ?_
    intro h1 L1 NL1 W1 B1
    replace N0 := NL1 _ N0 gn_lf
    replace sz0 : n0 ≤ h1.size := by rw [W1.size]; exact sz0
    replace E_o := E_o.wr W1
    replace F_o_rates := F_o_rates.other W1 (Or.inl ne_o_lf)
    replace F_o_capacity := F_o_capacity.other W1 (Or.inl ne_o_lf)
    replace F_o_left := F_o_left.other W1 (Or.inl ne_o_lf)
    replace A_ap := A_ap.other W1 ne_ap_lf
    replace A_ar := A_ar.other W1 ne_ar_lf
    replace A_ak := A_ak.other W1 ne_ak_lf
    replace A_al := A_al.other W1 ne_al_lf
    replace K0 := K0.wr W1 (Or.inl (by simp))
    clear A_lf; have A_lf := B1
    refine Go.iload (pc' := 86) d6_84 rfl rfl ?_
    refine Go.retI d6_86 rfl (by decide) (by decide) ?_
    refine ⟨rm, cn, k0, k1, k2, l0, l1, l2, rfl, N0, K0, A_ak, A_al, A_lf, ?_⟩
    rw [← htot, List.drop_eq_nil_of_le (by rw [List.length_take]; omega)]
    rfl
  | succ m ih =>
    intro i iv rm cn k0 k1 k2 l0 l1 l2 q0 t0 h L him hi0 hcn htot N0 sz0 K0 E_o F_o_rates F_o_capacity F_o_left A_ap A_ar A_ak A_al A_lf
    have ne_o_ap : o ≠ ap := ne_al E_o (hw _ w4) A_ap
    have ne_o_ar : o ≠ ar := ne_al E_o (hw _ w4) A_ar
    have ne_o_ak : o ≠ ak := ne_al E_o (hw _ w4) A_ak
    have ne_o_al : o ≠ al := ne_al E_o (hw _ w4) A_al
    have ne_o_lf : o ≠ lf := ne_al E_o (hw _ w4) A_lf
    refine Go.iload (pc' := 16) d6_14 rfl rfl ?_
    refine Go.iload (pc' := 18) d6_16 rfl rfl ?_
    refine Go.icmpF (pc' := 21) (X := iv.toInt) (Y := hi.toInt) d6_18 rfl rfl rfl (by omega : iv.toInt < hi.toInt) ?_
    refine Go.aloadN (pc' := 22) d6_21 rfl rfl rfl ?_
    refine Go.iload (pc' := 24) d6_22 rfl rfl ?_
    obtain ⟨q, hq1, hq2, hq3, hq4⟩ := own_pick p0 p1 p2 i (by omega) g0 g1 g2
    obtain ⟨j, hj, hj3⟩ := own_nat q 0 hq3 hq4
    obtain ⟨jc, hjc, hjc3⟩ := own_nat cn 0 hcn.1 (by omega)
    refine Go.iaload (pc' := 25) d6_24 rfl (i := i) (v := (.int q)) A_ap hi0 hq2 ?_
    refine Go.istore (pc' := 27) d6_25 rfl (Ls' := #[.val (.ref o), .val (.int (0 : Int32)), .val (.ref ap), .val (.int lo), .val (.int hi), .val (.ref ak), .val (.ref al), .val (.long rm), .second, .val (.int cn), .val (.int iv), .val (.int q), .val (.long t0), .second]) rfl ?_
    refine Go.aloadN (pc' := 28) d6_27 rfl rfl rfl ?_
    refine Go.getF (pc' := 31) d6_28 rfl (hw _ w17) Via.refl F_o_rates ?_
    refine Go.iload (pc' := 33) d6_31 rfl rfl ?_
    refine Go.laload (pc' := 34) d6_33 rfl (i := j) (v := (.long (own_r r0 r1 r2 q))) A_ar hj (own_rat r0 r1 r2 q j hj hj3) ?_
    refine Go.lstore (pc' := 36) d6_34 rfl (Ls' := #[.val (.ref o), .val (.int (0 : Int32)), .val (.ref ap), .val (.int lo), .val (.int hi), .val (.ref ak), .val (.ref al), .val (.long rm), .second, .val (.int cn), .val (.int iv), .val (.int q), .val (.long (own_r r0 r1 r2 q)), .second]) rfl ?_
    refine Go.lload (pc' := 38) d6_36 rfl rfl ?_
    refine Go.lload (pc' := 40) d6_38 rfl rfl ?_
    by_cases hc1 : rm.toInt < (own_r r0 r1 r2 q).toInt
    · refine Go.lcmpT (pc' := 64) (X := (own_r r0 r1 r2 q).toInt) (Y := rm.toInt) d6_40 d6_41 rfl (by decide) rfl rfl (hc1 : rm.toInt < (own_r r0 r1 r2 q).toInt) ?_
      refine Go.aload (pc' := 66) d6_64 rfl rfl rfl ?_
      refine Go.iload (pc' := 68) d6_66 rfl rfl ?_
      refine Go.iconst (pc' := 69) d6_68 rfl (z := (1 : Int32)) (by decide) ?_
      refine Go.bastoreZ (pc' := 70) (i := j) (v := (.int (1 : Int32))) (vs' := [(.int (own_u q 0 (1 : Int32) l0)), (.int (own_u q 1 (1 : Int32) l1)), (.int (own_u q 2 (1 : Int32) l2))]) d6_69 rfl A_al hj hj3 (by decide) (own_set3 q (1 : Int32) l0 l1 l2 j hj hj3) ?_
      intro h2 L2 NL2 W2 B2
      replace N0 := NL2 _ N0 gn_al
      replace sz0 : n0 ≤ h2.size := by rw [W2.size]; exact sz0
      replace E_o := E_o.wr W2
      replace F_o_rates := F_o_rates.other W2 (Or.inl ne_o_al)
      replace F_o_capacity := F_o_capacity.other W2 (Or.inl ne_o_al)
      replace F_o_left := F_o_left.other W2 (Or.inl ne_o_al)
      replace A_ap := A_ap.other W2 ne_ap_al
      replace A_ar := A_ar.other W2 ne_ar_al
      replace A_ak := A_ak.other W2 ne_ak_al
      replace A_lf := A_lf.other W2 (Ne.symm ne_al_lf)
      replace K0 := K0.wr W2 (Or.inl (by simp))
      clear A_al; have A_al := B2
      obtain ⟨iv2, hv_iv2⟩ : ∃ v : Int32, (iv + (1 : Int32)) = v := ⟨_, rfl⟩
      refine Go.iinc (pc' := 73) d6_70 rfl rfl (z := iv2) hv_iv2 (Ls' := #[.val (.ref o), .val (.int (0 : Int32)), .val (.ref ap), .val (.int lo), .val (.int hi), .val (.ref ak), .val (.ref al), .val (.long rm), .second, .val (.int cn), .val (.int iv2), .val (.int q), .val (.long (own_r r0 r1 r2 q)), .second]) rfl ?_
      refine Go.goto (pc' := 14) d6_73 (by decide) ?_
      refine ih (i + 1) iv2 rm cn k0 k1 k2 (own_u q 0 (1 : Int32) l0) (own_u q 1 (1 : Int32) l1) (own_u q 2 (1 : Int32) l2) q (own_r r0 r1 r2 q) h2 L2 (by omega) ?_ ?_ ?_ N0 sz0 K0 E_o F_o_rates F_o_capacity F_o_left A_ap A_ar A_ak A_al A_lf
      · rw [← hv_iv2]; have e1 := c_iadd iv (1 : Int32); have r1 := rng32 (iv + (1 : Int32)); have k1 : (1 : Int32).toInt = 1 := (by decide); omega
      · omega
      · rw [← htot, own_drop hq1 (by omega)]
        show _ = own_run r0 r1 r2 _ (own_t r0 r1 r2 q _)
        congr 1
        show _ = (if _ then _ else _)
        rw [if_pos hc1]
    · refine Go.lcmpF (pc' := 44) (X := (own_r r0 r1 r2 q).toInt) (Y := rm.toInt) d6_40 d6_41 rfl rfl rfl rfl (hc1 : ¬ rm.toInt < (own_r r0 r1 r2 q).toInt) ?_
      refine Go.lload (pc' := 46) d6_44 rfl rfl ?_
      refine Go.lload (pc' := 48) d6_46 rfl rfl ?_
      refine Go.lsub (pc' := 49) d6_48 rfl rfl ?_
      generalize hv_rm2 : (rm - (own_r r0 r1 r2 q)) = rm2
      refine Go.lstore (pc' := 51) d6_49 rfl (Ls' := #[.val (.ref o), .val (.int (0 : Int32)), .val (.ref ap), .val (.int lo), .val (.int hi), .val (.ref ak), .val (.ref al), .val (.long rm2), .second, .val (.int cn), .val (.int iv), .val (.int q), .val (.long (own_r r0 r1 r2 q)), .second]) rfl ?_
      refine Go.aload (pc' := 53) d6_51 rfl rfl rfl ?_
      refine Go.iload (pc' := 55) d6_53 rfl rfl ?_
      obtain ⟨cn2, hv_cn2⟩ : ∃ v : Int32, (cn + (1 : Int32)) = v := ⟨_, rfl⟩
      refine Go.iinc (pc' := 58) d6_55 rfl rfl (z := cn2) hv_cn2 (Ls' := #[.val (.ref o), .val (.int (0 : Int32)), .val (.ref ap), .val (.int lo), .val (.int hi), .val (.ref ak), .val (.ref al), .val (.long rm2), .second, .val (.int cn2), .val (.int iv), .val (.int q), .val (.long (own_r r0 r1 r2 q)), .second]) rfl ?_
      refine Go.iload (pc' := 60) d6_58 rfl rfl ?_
      refine Go.iastore (pc' := 61) (i := jc) (v := (.int q)) (vs' := [(.int (own_u cn 0 q k0)), (.int (own_u cn 1 q k1)), (.int (own_u cn 2 q k2))]) d6_60 rfl A_ak hjc hjc3 rfl (own_set3 cn q k0 k1 k2 jc hjc hjc3) ?_
      intro h3 L3 NL3 W3 B3
      replace N0 := NL3 _ N0 gn_ak
      replace sz0 : n0 ≤ h3.size := by rw [W3.size]; exact sz0
      replace E_o := E_o.wr W3
      replace F_o_rates := F_o_rates.other W3 (Or.inl ne_o_ak)
      replace F_o_capacity := F_o_capacity.other W3 (Or.inl ne_o_ak)
      replace F_o_left := F_o_left.other W3 (Or.inl ne_o_ak)
      replace A_ap := A_ap.other W3 ne_ap_ak
      replace A_ar := A_ar.other W3 ne_ar_ak
      replace A_al := A_al.other W3 (Ne.symm ne_ak_al)
      replace A_lf := A_lf.other W3 (Ne.symm ne_ak_lf)
      replace K0 := K0.wr W3 (Or.inl (by simp))
      clear A_ak; have A_ak := B3
      refine Go.goto (pc' := 70) d6_61 (by decide) ?_
      obtain ⟨iv2, hv_iv2⟩ : ∃ v : Int32, (iv + (1 : Int32)) = v := ⟨_, rfl⟩
      refine Go.iinc (pc' := 73) d6_70 rfl rfl (z := iv2) hv_iv2 (Ls' := #[.val (.ref o), .val (.int (0 : Int32)), .val (.ref ap), .val (.int lo), .val (.int hi), .val (.ref ak), .val (.ref al), .val (.long rm2), .second, .val (.int cn2), .val (.int iv2), .val (.int q), .val (.long (own_r r0 r1 r2 q)), .second]) rfl ?_
      refine Go.goto (pc' := 14) d6_73 (by decide) ?_
      refine ih (i + 1) iv2 rm2 cn2 (own_u cn 0 q k0) (own_u cn 1 q k1) (own_u cn 2 q k2) l0 l1 l2 q (own_r r0 r1 r2 q) h3 L3 (by omega) ?_ ?_ ?_ N0 sz0 K0 E_o F_o_rates F_o_capacity F_o_left A_ap A_ar A_ak A_al A_lf
      · rw [← hv_iv2]; have e1 := c_iadd iv (1 : Int32); have r1 := rng32 (iv + (1 : Int32)); have k1 : (1 : Int32).toInt = 1 := (by decide); omega
      · rw [← hv_cn2]; have e1 := c_iadd cn (1 : Int32); have r1 := rng32 (cn + (1 : Int32)); have k1 : (1 : Int32).toInt = 1 := (by decide); omega
      · rw [← htot, own_drop hq1 (by omega)]
        show _ = own_run r0 r1 r2 _ (own_t r0 r1 r2 q _)
        congr 1
        show _ = (if _ then _ else _)
        rw [if_neg hc1]
        rw [hv_rm2, hv_cn2]
set_option maxRecDepth 65536 in
set_option maxHeartbeats 40000000 in
theorem c_keep0 {l : Launch} {Z : State} {a0 : Array Value} (hw : ∀ d ∈ tables_1, d.before a0 Z = true) {h0 : Heap} {n0 : Nat} (sz0 : n0 ≤ h0.size) (o ap ar ak al lf : Addr) (lo hi p0 p1 p2 k0 k1 k2 l0 l1 l2 : Int32) (cap f0 f1 r0 r1 r2 : Int64) (N : Nat) (hN : hi.toInt = (N : Int)) (hN3 : N ≤ 3) (hlo : 0 ≤ lo.toInt) (hlh : lo.toInt ≤ hi.toInt) (tot : Int64 × Int32 × Int32 × Int32 × Int32 × Int32 × Int32 × Int32) (ne_ap_ar : ap ≠ ar) (ne_ap_ak : ap ≠ ak) (ne_ap_al : ap ≠ al) (ne_ap_lf : ap ≠ lf) (ne_ar_ak : ar ≠ ak) (ne_ar_al : ar ≠ al) (ne_ar_lf : ar ≠ lf) (ne_ak_al : ak ≠ al) (ne_ak_lf : ak ≠ lf) (ne_al_lf : al ≠ lf) (gn_ak : n0 ≤ ak) (gn_al : n0 ≤ al) (gn_lf : n0 ≤ lf) (E_o : Exa Z h0 o "com/example/even_keel/evenkeel/plan/Rooms$InUnits") (F_o_rates : Fld Z h0 o "com/example/even_keel/evenkeel/plan/Rooms$InUnits" "rates" "[J" (.ref ar)) (F_o_capacity : Fld Z h0 o "com/example/even_keel/evenkeel/plan/Rooms$InUnits" "capacity" "J" (.long cap)) (F_o_left : Fld Z h0 o "com/example/even_keel/evenkeel/plan/Rooms$InUnits" "left" "[J" (.ref lf)) (A_ap : Al Z h0 ap .int [(.int p0), (.int p1), (.int p2)]) (A_ar : Al Z h0 ar .long [(.long r0), (.long r1), (.long r2)]) (A_ak : Al Z h0 ak .int [(.int k0), (.int k1), (.int k2)]) (A_al : Al Z h0 al .boolean [(.int l0), (.int l1), (.int l2)]) (A_lf : Al Z h0 lf .long [(.long f0), (.long f1)]) (g0 : 0 ≤ p0.toInt ∧ p0.toInt < 3) (g1 : 0 ≤ p1.toInt ∧ p1.toInt < 3) (g2 : 0 ≤ p2.toInt ∧ p2.toInt < 3) (htot0 : own_run r0 r1 r2 (([p0, p1, p2].take N).drop lo.toInt.toNat) (f0, (0 : Int32), k0, k1, k2, l0, l1, l2) = tot) : Con l Z (⟨"com/example/even_keel/evenkeel/plan/Rooms$InUnits", "keep", "(I[III[I[Z)I"⟩ : MethodName) prog_134_method_9_code 14 (some .int) ({ frames := 0, cells := 0, slots := 0, locals := 0 } : Room) [] #[(.ref o), (.int (0 : Int32)), (.ref ap), (.int lo), (.int hi), (.ref ak), (.ref al)] h0 (fun v h L => ∃ (rm' : Int64) (cn' a0' a1' a2' b0' b1' b2' : Int32), v = some (.int cn') ∧ Fr n0 L ∧ Keep h0 h [ak, al, lf] ∧ Al Z h ak .int [(.int a0'), (.int a1'), (.int a2')] ∧ Al Z h al .boolean [(.int b0'), (.int b1'), (.int b2')] ∧ Al Z h lf .long [(.long rm'), (.long f1)] ∧ tot = (rm', cn', a0', a1', a2', b0', b1', b2')) := by
  refine con_of (Ls := #[.val (.ref o), .val (.int (0 : Int32)), .val (.ref ap), .val (.int lo), .val (.int hi), .val (.ref ak), .val (.ref al), .unset, .unset, .unset, .unset, .unset, .unset, .unset]) (plainFor_of_name (by first | (simp [plainName, overriddenIn]; done) | decide +kernel)) (fun m => by first | (simp [entryFrame, mkF, argsToLocals, Value.category]; done) | rfl) ?_
  have N0 : Fr n0 [] := Fr.nil _
  have K0 : Keep h0 h0 [ak, al, lf] := Keep.refl _ _
  have ne_o_ap : o ≠ ap := ne_al E_o (hw _ w4) A_ap
  have ne_o_ar : o ≠ ar := ne_al E_o (hw _ w4) A_ar
  have ne_o_ak : o ≠ ak := ne_al E_o (hw _ w4) A_ak
  have ne_o_al : o ≠ al := ne_al E_o (hw _ w4) A_al
  have ne_o_lf : o ≠ lf := ne_al E_o (hw _ w4) A_lf
  refine Go.aloadN (pc' := 1) d6_0 rfl rfl rfl ?_
  refine Go.getF (pc' := 4) d6_1 rfl (hw _ w21) Via.refl F_o_left ?_
  refine Go.iloadN (pc' := 5) d6_4 rfl rfl ?_
  refine Go.laload (pc' := 6) d6_5 rfl (i := 0) (v := (.long f0)) A_lf (by decide) rfl ?_
  refine Go.lstore (pc' := 8) d6_6 rfl (Ls' := #[.val (.ref o), .val (.int (0 : Int32)), .val (.ref ap), .val (.int lo), .val (.int hi), .val (.ref ak), .val (.ref al), .val (.long f0), .second, .unset, .unset, .unset, .unset, .unset]) rfl ?_
  refine Go.iconst (pc' := 9) d6_8 rfl (z := (0 : Int32)) (by decide) ?_
  refine Go.istore (pc' := 11) d6_9 rfl (Ls' := #[.val (.ref o), .val (.int (0 : Int32)), .val (.ref ap), .val (.int lo), .val (.int hi), .val (.ref ak), .val (.ref al), .val (.long f0), .second, .val (.int (0 : Int32)), .unset, .unset, .unset, .unset]) rfl ?_
  refine Go.iloadN (pc' := 12) d6_11 rfl rfl ?_
  refine Go.istore (pc' := 14) d6_12 rfl (Ls' := #[.val (.ref o), .val (.int (0 : Int32)), .val (.ref ap), .val (.int lo), .val (.int hi), .val (.ref ak), .val (.ref al), .val (.long f0), .second, .val (.int (0 : Int32)), .val (.int lo), .unset, .unset, .unset]) rfl ?_
  obtain ⟨i, hi0⟩ : ∃ i : Nat, lo.toInt = (i : Int) := ⟨lo.toInt.toNat, by omega⟩
  have z00 : (0 : Int32).toInt = 0 := by decide
  have hcn : 0 ≤ (0 : Int32).toInt ∧ (0 : Int32).toInt ≤ (i : Int) := ⟨by omega, by omega⟩
  have htot := htot0
  rw [show lo.toInt.toNat = i by omega] at htot
  refine Go.iload (pc' := 16) d6_14 rfl rfl ?_
  refine Go.iload (pc' := 18) d6_16 rfl rfl ?_
  by_cases hc1 : lo.toInt < hi.toInt
  · refine Go.icmpF (pc' := 21) (X := lo.toInt) (Y := hi.toInt) d6_18 rfl rfl rfl (hc1 : lo.toInt < hi.toInt) ?_
    refine Go.aloadN (pc' := 22) d6_21 rfl rfl rfl ?_
    refine Go.iload (pc' := 24) d6_22 rfl rfl ?_
    obtain ⟨q, hq1, hq2, hq3, hq4⟩ := own_pick p0 p1 p2 i (by omega) g0 g1 g2
    obtain ⟨j, hj, hj3⟩ := own_nat q 0 hq3 hq4
    refine Go.iaload (pc' := 25) d6_24 rfl (i := i) (v := (.int q)) A_ap hi0 hq2 ?_
    refine Go.istore (pc' := 27) d6_25 rfl (Ls' := #[.val (.ref o), .val (.int (0 : Int32)), .val (.ref ap), .val (.int lo), .val (.int hi), .val (.ref ak), .val (.ref al), .val (.long f0), .second, .val (.int (0 : Int32)), .val (.int lo), .val (.int q), .unset, .unset]) rfl ?_
    refine Go.aloadN (pc' := 28) d6_27 rfl rfl rfl ?_
    refine Go.getF (pc' := 31) d6_28 rfl (hw _ w17) Via.refl F_o_rates ?_
    refine Go.iload (pc' := 33) d6_31 rfl rfl ?_
    refine Go.laload (pc' := 34) d6_33 rfl (i := j) (v := (.long (own_r r0 r1 r2 q))) A_ar hj (own_rat r0 r1 r2 q j hj hj3) ?_
    refine Go.lstore (pc' := 36) d6_34 rfl (Ls' := #[.val (.ref o), .val (.int (0 : Int32)), .val (.ref ap), .val (.int lo), .val (.int hi), .val (.ref ak), .val (.ref al), .val (.long f0), .second, .val (.int (0 : Int32)), .val (.int lo), .val (.int q), .val (.long (own_r r0 r1 r2 q)), .second]) rfl ?_
    refine Go.lload (pc' := 38) d6_36 rfl rfl ?_
    refine Go.lload (pc' := 40) d6_38 rfl rfl ?_
    by_cases hc2 : f0.toInt < (own_r r0 r1 r2 q).toInt
    · refine Go.lcmpT (pc' := 64) (X := (own_r r0 r1 r2 q).toInt) (Y := f0.toInt) d6_40 d6_41 rfl (by decide) rfl rfl (hc2 : f0.toInt < (own_r r0 r1 r2 q).toInt) ?_
      refine Go.aload (pc' := 66) d6_64 rfl rfl rfl ?_
      refine Go.iload (pc' := 68) d6_66 rfl rfl ?_
      refine Go.iconst (pc' := 69) d6_68 rfl (z := (1 : Int32)) (by decide) ?_
      refine Go.bastoreZ (pc' := 70) (i := j) (v := (.int (1 : Int32))) (vs' := [(.int (own_u q 0 (1 : Int32) l0)), (.int (own_u q 1 (1 : Int32) l1)), (.int (own_u q 2 (1 : Int32) l2))]) d6_69 rfl A_al hj hj3 (by decide) (own_set3 q (1 : Int32) l0 l1 l2 j hj hj3) ?_
      intro h3 L3 NL3 W3 B3
      replace N0 := NL3 _ N0 gn_al
      replace sz0 : n0 ≤ h3.size := by rw [W3.size]; exact sz0
      replace E_o := E_o.wr W3
      replace F_o_rates := F_o_rates.other W3 (Or.inl ne_o_al)
      replace F_o_capacity := F_o_capacity.other W3 (Or.inl ne_o_al)
      replace F_o_left := F_o_left.other W3 (Or.inl ne_o_al)
      replace A_ap := A_ap.other W3 ne_ap_al
      replace A_ar := A_ar.other W3 ne_ar_al
      replace A_ak := A_ak.other W3 ne_ak_al
      replace A_lf := A_lf.other W3 (Ne.symm ne_al_lf)
      replace K0 := K0.wr W3 (Or.inl (by simp))
      clear A_al; have A_al := B3
      obtain ⟨iv2, hv_iv2⟩ : ∃ v : Int32, (lo + (1 : Int32)) = v := ⟨_, rfl⟩
      refine Go.iinc (pc' := 73) d6_70 rfl rfl (z := iv2) hv_iv2 (Ls' := #[.val (.ref o), .val (.int (0 : Int32)), .val (.ref ap), .val (.int lo), .val (.int hi), .val (.ref ak), .val (.ref al), .val (.long f0), .second, .val (.int (0 : Int32)), .val (.int iv2), .val (.int q), .val (.long (own_r r0 r1 r2 q)), .second]) rfl ?_
      refine Go.goto (pc' := 14) d6_73 (by decide) ?_
      refine loop_keep0 hw o ap ar ak al lf lo hi p0 p1 p2 cap f0 f1 r0 r1 r2 N hN hN3 tot ne_ap_ar ne_ap_ak ne_ap_al ne_ap_lf ne_ar_ak ne_ar_al ne_ar_lf ne_ak_al ne_ak_lf ne_al_lf gn_ak gn_al gn_lf g0 g1 g2 (N - (i + 1)) (i + 1) iv2 f0 (0 : Int32) k0 k1 k2 (own_u q 0 (1 : Int32) l0) (own_u q 1 (1 : Int32) l1) (own_u q 2 (1 : Int32) l2) q (own_r r0 r1 r2 q) h3 L3 (by omega) ?_ ?_ ?_ N0 sz0 K0 E_o F_o_rates F_o_capacity F_o_left A_ap A_ar A_ak A_al A_lf
      · rw [← hv_iv2]; have e1 := c_iadd lo (1 : Int32); have r1 := rng32 (lo + (1 : Int32)); have k1 : (1 : Int32).toInt = 1 := (by decide); omega
      · have k0 : (0 : Int32).toInt = 0 := by decide
        have k1 : (1 : Int32).toInt = 1 := by decide
        omega
      · rw [← htot, own_drop hq1 (by omega)]
        show _ = own_run r0 r1 r2 _ (own_t r0 r1 r2 q _)
        congr 1
        show _ = (if _ then _ else _)
        rw [if_pos hc2]
    · refine Go.lcmpF (pc' := 44) (X := (own_r r0 r1 r2 q).toInt) (Y := f0.toInt) d6_40 d6_41 rfl rfl rfl rfl (hc2 : ¬ f0.toInt < (own_r r0 r1 r2 q).toInt) ?_
      refine Go.lload (pc' := 46) d6_44 rfl rfl ?_
      refine Go.lload (pc' := 48) d6_46 rfl rfl ?_
      refine Go.lsub (pc' := 49) d6_48 rfl rfl ?_
      generalize hv_rm2 : (f0 - (own_r r0 r1 r2 q)) = rm2
      refine Go.lstore (pc' := 51) d6_49 rfl (Ls' := #[.val (.ref o), .val (.int (0 : Int32)), .val (.ref ap), .val (.int lo), .val (.int hi), .val (.ref ak), .val (.ref al), .val (.long rm2), .second, .val (.int (0 : Int32)), .val (.int lo), .val (.int q), .val (.long (own_r r0 r1 r2 q)), .second]) rfl ?_
      refine Go.aload (pc' := 53) d6_51 rfl rfl rfl ?_
      refine Go.iload (pc' := 55) d6_53 rfl rfl ?_
      refine Go.iinc (pc' := 58) d6_55 rfl rfl (z := (1 : Int32)) (by decide) (Ls' := #[.val (.ref o), .val (.int (0 : Int32)), .val (.ref ap), .val (.int lo), .val (.int hi), .val (.ref ak), .val (.ref al), .val (.long rm2), .second, .val (.int (1 : Int32)), .val (.int lo), .val (.int q), .val (.long (own_r r0 r1 r2 q)), .second]) rfl ?_
      refine Go.iload (pc' := 60) d6_58 rfl rfl ?_
      refine Go.iastore (pc' := 61) (i := 0) (v := (.int q)) (vs' := [(.int (own_u (0 : Int32) 0 q k0)), (.int (own_u (0 : Int32) 1 q k1)), (.int (own_u (0 : Int32) 2 q k2))]) d6_60 rfl A_ak (by decide) (Nat.le_of_ble_eq_true rfl) rfl (own_set3 (0 : Int32) q k0 k1 k2 0 (by decide) (by decide)) ?_
      intro h4 L4 NL4 W4 B4
      replace N0 := NL4 _ N0 gn_ak
      replace sz0 : n0 ≤ h4.size := by rw [W4.size]; exact sz0
      replace E_o := E_o.wr W4
      replace F_o_rates := F_o_rates.other W4 (Or.inl ne_o_ak)
      replace F_o_capacity := F_o_capacity.other W4 (Or.inl ne_o_ak)
      replace F_o_left := F_o_left.other W4 (Or.inl ne_o_ak)
      replace A_ap := A_ap.other W4 ne_ap_ak
      replace A_ar := A_ar.other W4 ne_ar_ak
      replace A_al := A_al.other W4 (Ne.symm ne_ak_al)
      replace A_lf := A_lf.other W4 (Ne.symm ne_ak_lf)
      replace K0 := K0.wr W4 (Or.inl (by simp))
      clear A_ak; have A_ak := B4
      refine Go.goto (pc' := 70) d6_61 (by decide) ?_
      obtain ⟨iv2, hv_iv2⟩ : ∃ v : Int32, (lo + (1 : Int32)) = v := ⟨_, rfl⟩
      refine Go.iinc (pc' := 73) d6_70 rfl rfl (z := iv2) hv_iv2 (Ls' := #[.val (.ref o), .val (.int (0 : Int32)), .val (.ref ap), .val (.int lo), .val (.int hi), .val (.ref ak), .val (.ref al), .val (.long rm2), .second, .val (.int (1 : Int32)), .val (.int iv2), .val (.int q), .val (.long (own_r r0 r1 r2 q)), .second]) rfl ?_
      refine Go.goto (pc' := 14) d6_73 (by decide) ?_
      refine loop_keep0 hw o ap ar ak al lf lo hi p0 p1 p2 cap f0 f1 r0 r1 r2 N hN hN3 tot ne_ap_ar ne_ap_ak ne_ap_al ne_ap_lf ne_ar_ak ne_ar_al ne_ar_lf ne_ak_al ne_ak_lf ne_al_lf gn_ak gn_al gn_lf g0 g1 g2 (N - (i + 1)) (i + 1) iv2 rm2 (1 : Int32) (own_u (0 : Int32) 0 q k0) (own_u (0 : Int32) 1 q k1) (own_u (0 : Int32) 2 q k2) l0 l1 l2 q (own_r r0 r1 r2 q) h4 L4 (by omega) ?_ ?_ ?_ N0 sz0 K0 E_o F_o_rates F_o_capacity F_o_left A_ap A_ar A_ak A_al A_lf
      · rw [← hv_iv2]; have e1 := c_iadd lo (1 : Int32); have r1 := rng32 (lo + (1 : Int32)); have k1 : (1 : Int32).toInt = 1 := (by decide); omega
      · have k0 : (0 : Int32).toInt = 0 := by decide
        have k1 : (1 : Int32).toInt = 1 := by decide
        omega
      · rw [← htot, own_drop hq1 (by omega)]
        show _ = own_run r0 r1 r2 _ (own_t r0 r1 r2 q _)
        congr 1
        show _ = (if _ then _ else _)
        rw [if_neg hc2]
        rw [hv_rm2]
        rfl
  · refine Go.icmpT (pc' := 76) (X := lo.toInt) (Y := hi.toInt) d6_18 (by decide) rfl rfl (hc1 : ¬ lo.toInt < hi.toInt) ?_
    refine Go.aloadN (pc' := 77) d6_76 rfl rfl rfl ?_
    refine Go.getF (pc' := 80) d6_77 rfl (hw _ w21) Via.refl F_o_left ?_
    refine Go.iloadN (pc' := 81) d6_80 rfl rfl ?_
    refine Go.lload (pc' := 83) d6_81 rfl rfl ?_
    refine Go.lastore (pc' := 84) (i := 0) (v := (.long f0)) (vs' := [(.long f0), (.long f1)]) d6_83 rfl A_lf (by decide) (Nat.le_of_ble_eq_true rfl) rfl rfl ?_
    intro h5 L5 NL5 W5 B5
    replace N0 := NL5 _ N0 gn_lf
    replace sz0 : n0 ≤ h5.size := by rw [W5.size]; exact sz0
    replace E_o := E_o.wr W5
    replace F_o_rates := F_o_rates.other W5 (Or.inl ne_o_lf)
    replace F_o_capacity := F_o_capacity.other W5 (Or.inl ne_o_lf)
    replace F_o_left := F_o_left.other W5 (Or.inl ne_o_lf)
    replace A_ap := A_ap.other W5 ne_ap_lf
    replace A_ar := A_ar.other W5 ne_ar_lf
    replace A_ak := A_ak.other W5 ne_ak_lf
    replace A_al := A_al.other W5 ne_al_lf
    replace K0 := K0.wr W5 (Or.inl (by simp))
    clear A_lf; have A_lf := B5
    refine Go.iload (pc' := 86) d6_84 rfl rfl ?_
    refine Go.retI d6_86 rfl (by decide) (by decide) ?_
    refine ⟨f0, (0 : Int32), k0, k1, k2, l0, l1, l2, rfl, N0, K0, A_ak, A_al, A_lf, ?_⟩
    rw [← htot, List.drop_eq_nil_of_le (by rw [List.length_take]; omega)]
    rfl
set_option maxRecDepth 65536 in
set_option maxHeartbeats 40000000 in
theorem loop_keep1 {l : Launch} {Z : State} {a0 : Array Value} (hw : ∀ d ∈ tables_1, d.before a0 Z = true) {h0 : Heap} {n0 : Nat} (o ap ar ak al lf : Addr) (lo hi p0 p1 p2 : Int32) (cap f0 f1 r0 r1 r2 : Int64) (N : Nat) (hN : hi.toInt = (N : Int)) (hN3 : N ≤ 3) (tot : Int64 × Int32 × Int32 × Int32 × Int32 × Int32 × Int32 × Int32) (ne_ap_ar : ap ≠ ar) (ne_ap_ak : ap ≠ ak) (ne_ap_al : ap ≠ al) (ne_ap_lf : ap ≠ lf) (ne_ar_ak : ar ≠ ak) (ne_ar_al : ar ≠ al) (ne_ar_lf : ar ≠ lf) (ne_ak_al : ak ≠ al) (ne_ak_lf : ak ≠ lf) (ne_al_lf : al ≠ lf) (gn_ak : n0 ≤ ak) (gn_al : n0 ≤ al) (gn_lf : n0 ≤ lf) (g0 : 0 ≤ p0.toInt ∧ p0.toInt < 3) (g1 : 0 ≤ p1.toInt ∧ p1.toInt < 3) (g2 : 0 ≤ p2.toInt ∧ p2.toInt < 3) : ∀ (m : Nat) (i : Nat) (iv : Int32) (rm : Int64) (cn k0 k1 k2 l0 l1 l2 q0 : Int32) (t0 : Int64) (h : Heap) (L : List Loc), i + m = N → iv.toInt = (i : Int) → (0 ≤ cn.toInt ∧ cn.toInt ≤ (i : Int)) → own_run r0 r1 r2 (([p0, p1, p2].take N).drop i) (rm, cn, k0, k1, k2, l0, l1, l2) = tot → Fr n0 L → n0 ≤ h.size → Keep h0 h [ak, al, lf] → Exa Z h o "com/example/even_keel/evenkeel/plan/Rooms$InUnits" → Fld Z h o "com/example/even_keel/evenkeel/plan/Rooms$InUnits" "rates" "[J" (.ref ar) → Fld Z h o "com/example/even_keel/evenkeel/plan/Rooms$InUnits" "capacity" "J" (.long cap) → Fld Z h o "com/example/even_keel/evenkeel/plan/Rooms$InUnits" "left" "[J" (.ref lf) → Al Z h ap .int [(.int p0), (.int p1), (.int p2)] → Al Z h ar .long [(.long r0), (.long r1), (.long r2)] → Al Z h ak .int [(.int k0), (.int k1), (.int k2)] → Al Z h al .boolean [(.int l0), (.int l1), (.int l2)] → Al Z h lf .long [(.long f0), (.long f1)] → Go Z l ({ frames := 0, cells := 0, slots := 0, locals := 0 } : Room) prog_134_method_9_code 14 "com/example/even_keel/evenkeel/plan/Rooms$InUnits" (some .int) "keep" 14 #[.val (.ref o), .val (.int (1 : Int32)), .val (.ref ap), .val (.int lo), .val (.int hi), .val (.ref ak), .val (.ref al), .val (.long rm), .second, .val (.int cn), .val (.int iv), .val (.int q0), .val (.long t0), .second] [] h L 0 0 (fun v h L => ∃ (rm' : Int64) (cn' a0' a1' a2' b0' b1' b2' : Int32), v = some (.int cn') ∧ Fr n0 L ∧ Keep h0 h [ak, al, lf] ∧ Al Z h ak .int [(.int a0'), (.int a1'), (.int a2')] ∧ Al Z h al .boolean [(.int b0'), (.int b1'), (.int b2')] ∧ Al Z h lf .long [(.long f0), (.long rm')] ∧ tot = (rm', cn', a0', a1', a2', b0', b1', b2')) := by
  intro m
  induction m with
  | zero =>
    intro i iv rm cn k0 k1 k2 l0 l1 l2 q0 t0 h L him hi0 hcn htot N0 sz0 K0 E_o F_o_rates F_o_capacity F_o_left A_ap A_ar A_ak A_al A_lf
    have ne_o_ap : o ≠ ap := ne_al E_o (hw _ w4) A_ap
    have ne_o_ar : o ≠ ar := ne_al E_o (hw _ w4) A_ar
    have ne_o_ak : o ≠ ak := ne_al E_o (hw _ w4) A_ak
    have ne_o_al : o ≠ al := ne_al E_o (hw _ w4) A_al
    have ne_o_lf : o ≠ lf := ne_al E_o (hw _ w4) A_lf
    refine Go.iload (pc' := 16) d6_14 rfl rfl ?_
    refine Go.iload (pc' := 18) d6_16 rfl rfl ?_
    refine Go.icmpT (pc' := 76) (X := iv.toInt) (Y := hi.toInt) d6_18 (by decide) rfl rfl (by omega : ¬ iv.toInt < hi.toInt) ?_
    refine Go.aloadN (pc' := 77) d6_76 rfl rfl rfl ?_
    refine Go.getF (pc' := 80) d6_77 rfl (hw _ w21) Via.refl F_o_left ?_
    refine Go.iloadN (pc' := 81) d6_80 rfl rfl ?_
    refine Go.lload (pc' := 83) d6_81 rfl rfl ?_
    refine Go.lastore (pc' := 84) (i := 1) (v := (.long rm)) (vs' := [(.long f0), (.long rm)]) d6_83 rfl A_lf (by decide) (Nat.le_of_ble_eq_true rfl) rfl rfl ?_
    intro h1 L1 NL1 W1 B1
    replace N0 := NL1 _ N0 gn_lf
    replace sz0 : n0 ≤ h1.size := by rw [W1.size]; exact sz0
    replace E_o := E_o.wr W1
    replace F_o_rates := F_o_rates.other W1 (Or.inl ne_o_lf)
    replace F_o_capacity := F_o_capacity.other W1 (Or.inl ne_o_lf)
    replace F_o_left := F_o_left.other W1 (Or.inl ne_o_lf)
    replace A_ap := A_ap.other W1 ne_ap_lf
    replace A_ar := A_ar.other W1 ne_ar_lf
    replace A_ak := A_ak.other W1 ne_ak_lf
    replace A_al := A_al.other W1 ne_al_lf
    replace K0 := K0.wr W1 (Or.inl (by simp))
    clear A_lf; have A_lf := B1
    refine Go.iload (pc' := 86) d6_84 rfl rfl ?_
    refine Go.retI d6_86 rfl (by decide) (by decide) ?_
    refine ⟨rm, cn, k0, k1, k2, l0, l1, l2, rfl, N0, K0, A_ak, A_al, A_lf, ?_⟩
    rw [← htot, List.drop_eq_nil_of_le (by rw [List.length_take]; omega)]
    rfl
  | succ m ih =>
    intro i iv rm cn k0 k1 k2 l0 l1 l2 q0 t0 h L him hi0 hcn htot N0 sz0 K0 E_o F_o_rates F_o_capacity F_o_left A_ap A_ar A_ak A_al A_lf
    have ne_o_ap : o ≠ ap := ne_al E_o (hw _ w4) A_ap
    have ne_o_ar : o ≠ ar := ne_al E_o (hw _ w4) A_ar
    have ne_o_ak : o ≠ ak := ne_al E_o (hw _ w4) A_ak
    have ne_o_al : o ≠ al := ne_al E_o (hw _ w4) A_al
    have ne_o_lf : o ≠ lf := ne_al E_o (hw _ w4) A_lf
    refine Go.iload (pc' := 16) d6_14 rfl rfl ?_
    refine Go.iload (pc' := 18) d6_16 rfl rfl ?_
    refine Go.icmpF (pc' := 21) (X := iv.toInt) (Y := hi.toInt) d6_18 rfl rfl rfl (by omega : iv.toInt < hi.toInt) ?_
    refine Go.aloadN (pc' := 22) d6_21 rfl rfl rfl ?_
    refine Go.iload (pc' := 24) d6_22 rfl rfl ?_
    obtain ⟨q, hq1, hq2, hq3, hq4⟩ := own_pick p0 p1 p2 i (by omega) g0 g1 g2
    obtain ⟨j, hj, hj3⟩ := own_nat q 0 hq3 hq4
    obtain ⟨jc, hjc, hjc3⟩ := own_nat cn 0 hcn.1 (by omega)
    refine Go.iaload (pc' := 25) d6_24 rfl (i := i) (v := (.int q)) A_ap hi0 hq2 ?_
    refine Go.istore (pc' := 27) d6_25 rfl (Ls' := #[.val (.ref o), .val (.int (1 : Int32)), .val (.ref ap), .val (.int lo), .val (.int hi), .val (.ref ak), .val (.ref al), .val (.long rm), .second, .val (.int cn), .val (.int iv), .val (.int q), .val (.long t0), .second]) rfl ?_
    refine Go.aloadN (pc' := 28) d6_27 rfl rfl rfl ?_
    refine Go.getF (pc' := 31) d6_28 rfl (hw _ w17) Via.refl F_o_rates ?_
    refine Go.iload (pc' := 33) d6_31 rfl rfl ?_
    refine Go.laload (pc' := 34) d6_33 rfl (i := j) (v := (.long (own_r r0 r1 r2 q))) A_ar hj (own_rat r0 r1 r2 q j hj hj3) ?_
    refine Go.lstore (pc' := 36) d6_34 rfl (Ls' := #[.val (.ref o), .val (.int (1 : Int32)), .val (.ref ap), .val (.int lo), .val (.int hi), .val (.ref ak), .val (.ref al), .val (.long rm), .second, .val (.int cn), .val (.int iv), .val (.int q), .val (.long (own_r r0 r1 r2 q)), .second]) rfl ?_
    refine Go.lload (pc' := 38) d6_36 rfl rfl ?_
    refine Go.lload (pc' := 40) d6_38 rfl rfl ?_
    by_cases hc1 : rm.toInt < (own_r r0 r1 r2 q).toInt
    · refine Go.lcmpT (pc' := 64) (X := (own_r r0 r1 r2 q).toInt) (Y := rm.toInt) d6_40 d6_41 rfl (by decide) rfl rfl (hc1 : rm.toInt < (own_r r0 r1 r2 q).toInt) ?_
      refine Go.aload (pc' := 66) d6_64 rfl rfl rfl ?_
      refine Go.iload (pc' := 68) d6_66 rfl rfl ?_
      refine Go.iconst (pc' := 69) d6_68 rfl (z := (1 : Int32)) (by decide) ?_
      refine Go.bastoreZ (pc' := 70) (i := j) (v := (.int (1 : Int32))) (vs' := [(.int (own_u q 0 (1 : Int32) l0)), (.int (own_u q 1 (1 : Int32) l1)), (.int (own_u q 2 (1 : Int32) l2))]) d6_69 rfl A_al hj hj3 (by decide) (own_set3 q (1 : Int32) l0 l1 l2 j hj hj3) ?_
      intro h2 L2 NL2 W2 B2
      replace N0 := NL2 _ N0 gn_al
      replace sz0 : n0 ≤ h2.size := by rw [W2.size]; exact sz0
      replace E_o := E_o.wr W2
      replace F_o_rates := F_o_rates.other W2 (Or.inl ne_o_al)
      replace F_o_capacity := F_o_capacity.other W2 (Or.inl ne_o_al)
      replace F_o_left := F_o_left.other W2 (Or.inl ne_o_al)
      replace A_ap := A_ap.other W2 ne_ap_al
      replace A_ar := A_ar.other W2 ne_ar_al
      replace A_ak := A_ak.other W2 ne_ak_al
      replace A_lf := A_lf.other W2 (Ne.symm ne_al_lf)
      replace K0 := K0.wr W2 (Or.inl (by simp))
      clear A_al; have A_al := B2
      obtain ⟨iv2, hv_iv2⟩ : ∃ v : Int32, (iv + (1 : Int32)) = v := ⟨_, rfl⟩
      refine Go.iinc (pc' := 73) d6_70 rfl rfl (z := iv2) hv_iv2 (Ls' := #[.val (.ref o), .val (.int (1 : Int32)), .val (.ref ap), .val (.int lo), .val (.int hi), .val (.ref ak), .val (.ref al), .val (.long rm), .second, .val (.int cn), .val (.int iv2), .val (.int q), .val (.long (own_r r0 r1 r2 q)), .second]) rfl ?_
      refine Go.goto (pc' := 14) d6_73 (by decide) ?_
      refine ih (i + 1) iv2 rm cn k0 k1 k2 (own_u q 0 (1 : Int32) l0) (own_u q 1 (1 : Int32) l1) (own_u q 2 (1 : Int32) l2) q (own_r r0 r1 r2 q) h2 L2 (by omega) ?_ ?_ ?_ N0 sz0 K0 E_o F_o_rates F_o_capacity F_o_left A_ap A_ar A_ak A_al A_lf
      · rw [← hv_iv2]; have e1 := c_iadd iv (1 : Int32); have r1 := rng32 (iv + (1 : Int32)); have k1 : (1 : Int32).toInt = 1 := (by decide); omega
      · omega
      · rw [← htot, own_drop hq1 (by omega)]
        show _ = own_run r0 r1 r2 _ (own_t r0 r1 r2 q _)
        congr 1
        show _ = (if _ then _ else _)
        rw [if_pos hc1]
    · refine Go.lcmpF (pc' := 44) (X := (own_r r0 r1 r2 q).toInt) (Y := rm.toInt) d6_40 d6_41 rfl rfl rfl rfl (hc1 : ¬ rm.toInt < (own_r r0 r1 r2 q).toInt) ?_
      refine Go.lload (pc' := 46) d6_44 rfl rfl ?_
      refine Go.lload (pc' := 48) d6_46 rfl rfl ?_
      refine Go.lsub (pc' := 49) d6_48 rfl rfl ?_
      generalize hv_rm2 : (rm - (own_r r0 r1 r2 q)) = rm2
      refine Go.lstore (pc' := 51) d6_49 rfl (Ls' := #[.val (.ref o), .val (.int (1 : Int32)), .val (.ref ap), .val (.int lo), .val (.int hi), .val (.ref ak), .val (.ref al), .val (.long rm2), .second, .val (.int cn), .val (.int iv), .val (.int q), .val (.long (own_r r0 r1 r2 q)), .second]) rfl ?_
      refine Go.aload (pc' := 53) d6_51 rfl rfl rfl ?_
      refine Go.iload (pc' := 55) d6_53 rfl rfl ?_
      obtain ⟨cn2, hv_cn2⟩ : ∃ v : Int32, (cn + (1 : Int32)) = v := ⟨_, rfl⟩
      refine Go.iinc (pc' := 58) d6_55 rfl rfl (z := cn2) hv_cn2 (Ls' := #[.val (.ref o), .val (.int (1 : Int32)), .val (.ref ap), .val (.int lo), .val (.int hi), .val (.ref ak), .val (.ref al), .val (.long rm2), .second, .val (.int cn2), .val (.int iv), .val (.int q), .val (.long (own_r r0 r1 r2 q)), .second]) rfl ?_
      refine Go.iload (pc' := 60) d6_58 rfl rfl ?_
      refine Go.iastore (pc' := 61) (i := jc) (v := (.int q)) (vs' := [(.int (own_u cn 0 q k0)), (.int (own_u cn 1 q k1)), (.int (own_u cn 2 q k2))]) d6_60 rfl A_ak hjc hjc3 rfl (own_set3 cn q k0 k1 k2 jc hjc hjc3) ?_
      intro h3 L3 NL3 W3 B3
      replace N0 := NL3 _ N0 gn_ak
      replace sz0 : n0 ≤ h3.size := by rw [W3.size]; exact sz0
      replace E_o := E_o.wr W3
      replace F_o_rates := F_o_rates.other W3 (Or.inl ne_o_ak)
      replace F_o_capacity := F_o_capacity.other W3 (Or.inl ne_o_ak)
      replace F_o_left := F_o_left.other W3 (Or.inl ne_o_ak)
      replace A_ap := A_ap.other W3 ne_ap_ak
      replace A_ar := A_ar.other W3 ne_ar_ak
      replace A_al := A_al.other W3 (Ne.symm ne_ak_al)
      replace A_lf := A_lf.other W3 (Ne.symm ne_ak_lf)
      replace K0 := K0.wr W3 (Or.inl (by simp))
      clear A_ak; have A_ak := B3
      refine Go.goto (pc' := 70) d6_61 (by decide) ?_
      obtain ⟨iv2, hv_iv2⟩ : ∃ v : Int32, (iv + (1 : Int32)) = v := ⟨_, rfl⟩
      refine Go.iinc (pc' := 73) d6_70 rfl rfl (z := iv2) hv_iv2 (Ls' := #[.val (.ref o), .val (.int (1 : Int32)), .val (.ref ap), .val (.int lo), .val (.int hi), .val (.ref ak), .val (.ref al), .val (.long rm2), .second, .val (.int cn2), .val (.int iv2), .val (.int q), .val (.long (own_r r0 r1 r2 q)), .second]) rfl ?_
      refine Go.goto (pc' := 14) d6_73 (by decide) ?_
      refine ih (i + 1) iv2 rm2 cn2 (own_u cn 0 q k0) (own_u cn 1 q k1) (own_u cn 2 q k2) l0 l1 l2 q (own_r r0 r1 r2 q) h3 L3 (by omega) ?_ ?_ ?_ N0 sz0 K0 E_o F_o_rates F_o_capacity F_o_left A_ap A_ar A_ak A_al A_lf
      · rw [← hv_iv2]; have e1 := c_iadd iv (1 : Int32); have r1 := rng32 (iv + (1 : Int32)); have k1 : (1 : Int32).toInt = 1 := (by decide); omega
      · rw [← hv_cn2]; have e1 := c_iadd cn (1 : Int32); have r1 := rng32 (cn + (1 : Int32)); have k1 : (1 : Int32).toInt = 1 := (by decide); omega
      · rw [← htot, own_drop hq1 (by omega)]
        show _ = own_run r0 r1 r2 _ (own_t r0 r1 r2 q _)
        congr 1
        show _ = (if _ then _ else _)
        rw [if_neg hc1]
        rw [hv_rm2, hv_cn2]
set_option maxRecDepth 65536 in
set_option maxHeartbeats 40000000 in
theorem c_keep1 {l : Launch} {Z : State} {a0 : Array Value} (hw : ∀ d ∈ tables_1, d.before a0 Z = true) {h0 : Heap} {n0 : Nat} (sz0 : n0 ≤ h0.size) (o ap ar ak al lf : Addr) (lo hi p0 p1 p2 k0 k1 k2 l0 l1 l2 : Int32) (cap f0 f1 r0 r1 r2 : Int64) (N : Nat) (hN : hi.toInt = (N : Int)) (hN3 : N ≤ 3) (hlo : 0 ≤ lo.toInt) (hlh : lo.toInt ≤ hi.toInt) (tot : Int64 × Int32 × Int32 × Int32 × Int32 × Int32 × Int32 × Int32) (ne_ap_ar : ap ≠ ar) (ne_ap_ak : ap ≠ ak) (ne_ap_al : ap ≠ al) (ne_ap_lf : ap ≠ lf) (ne_ar_ak : ar ≠ ak) (ne_ar_al : ar ≠ al) (ne_ar_lf : ar ≠ lf) (ne_ak_al : ak ≠ al) (ne_ak_lf : ak ≠ lf) (ne_al_lf : al ≠ lf) (gn_ak : n0 ≤ ak) (gn_al : n0 ≤ al) (gn_lf : n0 ≤ lf) (E_o : Exa Z h0 o "com/example/even_keel/evenkeel/plan/Rooms$InUnits") (F_o_rates : Fld Z h0 o "com/example/even_keel/evenkeel/plan/Rooms$InUnits" "rates" "[J" (.ref ar)) (F_o_capacity : Fld Z h0 o "com/example/even_keel/evenkeel/plan/Rooms$InUnits" "capacity" "J" (.long cap)) (F_o_left : Fld Z h0 o "com/example/even_keel/evenkeel/plan/Rooms$InUnits" "left" "[J" (.ref lf)) (A_ap : Al Z h0 ap .int [(.int p0), (.int p1), (.int p2)]) (A_ar : Al Z h0 ar .long [(.long r0), (.long r1), (.long r2)]) (A_ak : Al Z h0 ak .int [(.int k0), (.int k1), (.int k2)]) (A_al : Al Z h0 al .boolean [(.int l0), (.int l1), (.int l2)]) (A_lf : Al Z h0 lf .long [(.long f0), (.long f1)]) (g0 : 0 ≤ p0.toInt ∧ p0.toInt < 3) (g1 : 0 ≤ p1.toInt ∧ p1.toInt < 3) (g2 : 0 ≤ p2.toInt ∧ p2.toInt < 3) (htot0 : own_run r0 r1 r2 (([p0, p1, p2].take N).drop lo.toInt.toNat) (f1, (0 : Int32), k0, k1, k2, l0, l1, l2) = tot) : Con l Z (⟨"com/example/even_keel/evenkeel/plan/Rooms$InUnits", "keep", "(I[III[I[Z)I"⟩ : MethodName) prog_134_method_9_code 14 (some .int) ({ frames := 0, cells := 0, slots := 0, locals := 0 } : Room) [] #[(.ref o), (.int (1 : Int32)), (.ref ap), (.int lo), (.int hi), (.ref ak), (.ref al)] h0 (fun v h L => ∃ (rm' : Int64) (cn' a0' a1' a2' b0' b1' b2' : Int32), v = some (.int cn') ∧ Fr n0 L ∧ Keep h0 h [ak, al, lf] ∧ Al Z h ak .int [(.int a0'), (.int a1'), (.int a2')] ∧ Al Z h al .boolean [(.int b0'), (.int b1'), (.int b2')] ∧ Al Z h lf .long [(.long f0), (.long rm')] ∧ tot = (rm', cn', a0', a1', a2', b0', b1', b2')) := by
  refine con_of (Ls := #[.val (.ref o), .val (.int (1 : Int32)), .val (.ref ap), .val (.int lo), .val (.int hi), .val (.ref ak), .val (.ref al), .unset, .unset, .unset, .unset, .unset, .unset, .unset]) (plainFor_of_name (by first | (simp [plainName, overriddenIn]; done) | decide +kernel)) (fun m => by first | (simp [entryFrame, mkF, argsToLocals, Value.category]; done) | rfl) ?_
  have N0 : Fr n0 [] := Fr.nil _
  have K0 : Keep h0 h0 [ak, al, lf] := Keep.refl _ _
  have ne_o_ap : o ≠ ap := ne_al E_o (hw _ w4) A_ap
  have ne_o_ar : o ≠ ar := ne_al E_o (hw _ w4) A_ar
  have ne_o_ak : o ≠ ak := ne_al E_o (hw _ w4) A_ak
  have ne_o_al : o ≠ al := ne_al E_o (hw _ w4) A_al
  have ne_o_lf : o ≠ lf := ne_al E_o (hw _ w4) A_lf
  refine Go.aloadN (pc' := 1) d6_0 rfl rfl rfl ?_
  refine Go.getF (pc' := 4) d6_1 rfl (hw _ w21) Via.refl F_o_left ?_
  refine Go.iloadN (pc' := 5) d6_4 rfl rfl ?_
  refine Go.laload (pc' := 6) d6_5 rfl (i := 1) (v := (.long f1)) A_lf (by decide) rfl ?_
  refine Go.lstore (pc' := 8) d6_6 rfl (Ls' := #[.val (.ref o), .val (.int (1 : Int32)), .val (.ref ap), .val (.int lo), .val (.int hi), .val (.ref ak), .val (.ref al), .val (.long f1), .second, .unset, .unset, .unset, .unset, .unset]) rfl ?_
  refine Go.iconst (pc' := 9) d6_8 rfl (z := (0 : Int32)) (by decide) ?_
  refine Go.istore (pc' := 11) d6_9 rfl (Ls' := #[.val (.ref o), .val (.int (1 : Int32)), .val (.ref ap), .val (.int lo), .val (.int hi), .val (.ref ak), .val (.ref al), .val (.long f1), .second, .val (.int (0 : Int32)), .unset, .unset, .unset, .unset]) rfl ?_
  refine Go.iloadN (pc' := 12) d6_11 rfl rfl ?_
  refine Go.istore (pc' := 14) d6_12 rfl (Ls' := #[.val (.ref o), .val (.int (1 : Int32)), .val (.ref ap), .val (.int lo), .val (.int hi), .val (.ref ak), .val (.ref al), .val (.long f1), .second, .val (.int (0 : Int32)), .val (.int lo), .unset, .unset, .unset]) rfl ?_
  obtain ⟨i, hi0⟩ : ∃ i : Nat, lo.toInt = (i : Int) := ⟨lo.toInt.toNat, by omega⟩
  have z00 : (0 : Int32).toInt = 0 := by decide
  have hcn : 0 ≤ (0 : Int32).toInt ∧ (0 : Int32).toInt ≤ (i : Int) := ⟨by omega, by omega⟩
  have htot := htot0
  rw [show lo.toInt.toNat = i by omega] at htot
  refine Go.iload (pc' := 16) d6_14 rfl rfl ?_
  refine Go.iload (pc' := 18) d6_16 rfl rfl ?_
  by_cases hc1 : lo.toInt < hi.toInt
  · refine Go.icmpF (pc' := 21) (X := lo.toInt) (Y := hi.toInt) d6_18 rfl rfl rfl (hc1 : lo.toInt < hi.toInt) ?_
    refine Go.aloadN (pc' := 22) d6_21 rfl rfl rfl ?_
    refine Go.iload (pc' := 24) d6_22 rfl rfl ?_
    obtain ⟨q, hq1, hq2, hq3, hq4⟩ := own_pick p0 p1 p2 i (by omega) g0 g1 g2
    obtain ⟨j, hj, hj3⟩ := own_nat q 0 hq3 hq4
    refine Go.iaload (pc' := 25) d6_24 rfl (i := i) (v := (.int q)) A_ap hi0 hq2 ?_
    refine Go.istore (pc' := 27) d6_25 rfl (Ls' := #[.val (.ref o), .val (.int (1 : Int32)), .val (.ref ap), .val (.int lo), .val (.int hi), .val (.ref ak), .val (.ref al), .val (.long f1), .second, .val (.int (0 : Int32)), .val (.int lo), .val (.int q), .unset, .unset]) rfl ?_
    refine Go.aloadN (pc' := 28) d6_27 rfl rfl rfl ?_
    refine Go.getF (pc' := 31) d6_28 rfl (hw _ w17) Via.refl F_o_rates ?_
    refine Go.iload (pc' := 33) d6_31 rfl rfl ?_
    refine Go.laload (pc' := 34) d6_33 rfl (i := j) (v := (.long (own_r r0 r1 r2 q))) A_ar hj (own_rat r0 r1 r2 q j hj hj3) ?_
    refine Go.lstore (pc' := 36) d6_34 rfl (Ls' := #[.val (.ref o), .val (.int (1 : Int32)), .val (.ref ap), .val (.int lo), .val (.int hi), .val (.ref ak), .val (.ref al), .val (.long f1), .second, .val (.int (0 : Int32)), .val (.int lo), .val (.int q), .val (.long (own_r r0 r1 r2 q)), .second]) rfl ?_
    refine Go.lload (pc' := 38) d6_36 rfl rfl ?_
    refine Go.lload (pc' := 40) d6_38 rfl rfl ?_
    by_cases hc2 : f1.toInt < (own_r r0 r1 r2 q).toInt
    · refine Go.lcmpT (pc' := 64) (X := (own_r r0 r1 r2 q).toInt) (Y := f1.toInt) d6_40 d6_41 rfl (by decide) rfl rfl (hc2 : f1.toInt < (own_r r0 r1 r2 q).toInt) ?_
      refine Go.aload (pc' := 66) d6_64 rfl rfl rfl ?_
      refine Go.iload (pc' := 68) d6_66 rfl rfl ?_
      refine Go.iconst (pc' := 69) d6_68 rfl (z := (1 : Int32)) (by decide) ?_
      refine Go.bastoreZ (pc' := 70) (i := j) (v := (.int (1 : Int32))) (vs' := [(.int (own_u q 0 (1 : Int32) l0)), (.int (own_u q 1 (1 : Int32) l1)), (.int (own_u q 2 (1 : Int32) l2))]) d6_69 rfl A_al hj hj3 (by decide) (own_set3 q (1 : Int32) l0 l1 l2 j hj hj3) ?_
      intro h3 L3 NL3 W3 B3
      replace N0 := NL3 _ N0 gn_al
      replace sz0 : n0 ≤ h3.size := by rw [W3.size]; exact sz0
      replace E_o := E_o.wr W3
      replace F_o_rates := F_o_rates.other W3 (Or.inl ne_o_al)
      replace F_o_capacity := F_o_capacity.other W3 (Or.inl ne_o_al)
      replace F_o_left := F_o_left.other W3 (Or.inl ne_o_al)
      replace A_ap := A_ap.other W3 ne_ap_al
      replace A_ar := A_ar.other W3 ne_ar_al
      replace A_ak := A_ak.other W3 ne_ak_al
      replace A_lf := A_lf.other W3 (Ne.symm ne_al_lf)
      replace K0 := K0.wr W3 (Or.inl (by simp))
      clear A_al; have A_al := B3
      obtain ⟨iv2, hv_iv2⟩ : ∃ v : Int32, (lo + (1 : Int32)) = v := ⟨_, rfl⟩
      refine Go.iinc (pc' := 73) d6_70 rfl rfl (z := iv2) hv_iv2 (Ls' := #[.val (.ref o), .val (.int (1 : Int32)), .val (.ref ap), .val (.int lo), .val (.int hi), .val (.ref ak), .val (.ref al), .val (.long f1), .second, .val (.int (0 : Int32)), .val (.int iv2), .val (.int q), .val (.long (own_r r0 r1 r2 q)), .second]) rfl ?_
      refine Go.goto (pc' := 14) d6_73 (by decide) ?_
      refine loop_keep1 hw o ap ar ak al lf lo hi p0 p1 p2 cap f0 f1 r0 r1 r2 N hN hN3 tot ne_ap_ar ne_ap_ak ne_ap_al ne_ap_lf ne_ar_ak ne_ar_al ne_ar_lf ne_ak_al ne_ak_lf ne_al_lf gn_ak gn_al gn_lf g0 g1 g2 (N - (i + 1)) (i + 1) iv2 f1 (0 : Int32) k0 k1 k2 (own_u q 0 (1 : Int32) l0) (own_u q 1 (1 : Int32) l1) (own_u q 2 (1 : Int32) l2) q (own_r r0 r1 r2 q) h3 L3 (by omega) ?_ ?_ ?_ N0 sz0 K0 E_o F_o_rates F_o_capacity F_o_left A_ap A_ar A_ak A_al A_lf
      · rw [← hv_iv2]; have e1 := c_iadd lo (1 : Int32); have r1 := rng32 (lo + (1 : Int32)); have k1 : (1 : Int32).toInt = 1 := (by decide); omega
      · have k0 : (0 : Int32).toInt = 0 := by decide
        have k1 : (1 : Int32).toInt = 1 := by decide
        omega
      · rw [← htot, own_drop hq1 (by omega)]
        show _ = own_run r0 r1 r2 _ (own_t r0 r1 r2 q _)
        congr 1
        show _ = (if _ then _ else _)
        rw [if_pos hc2]
    · refine Go.lcmpF (pc' := 44) (X := (own_r r0 r1 r2 q).toInt) (Y := f1.toInt) d6_40 d6_41 rfl rfl rfl rfl (hc2 : ¬ f1.toInt < (own_r r0 r1 r2 q).toInt) ?_
      refine Go.lload (pc' := 46) d6_44 rfl rfl ?_
      refine Go.lload (pc' := 48) d6_46 rfl rfl ?_
      refine Go.lsub (pc' := 49) d6_48 rfl rfl ?_
      generalize hv_rm2 : (f1 - (own_r r0 r1 r2 q)) = rm2
      refine Go.lstore (pc' := 51) d6_49 rfl (Ls' := #[.val (.ref o), .val (.int (1 : Int32)), .val (.ref ap), .val (.int lo), .val (.int hi), .val (.ref ak), .val (.ref al), .val (.long rm2), .second, .val (.int (0 : Int32)), .val (.int lo), .val (.int q), .val (.long (own_r r0 r1 r2 q)), .second]) rfl ?_
      refine Go.aload (pc' := 53) d6_51 rfl rfl rfl ?_
      refine Go.iload (pc' := 55) d6_53 rfl rfl ?_
      refine Go.iinc (pc' := 58) d6_55 rfl rfl (z := (1 : Int32)) (by decide) (Ls' := #[.val (.ref o), .val (.int (1 : Int32)), .val (.ref ap), .val (.int lo), .val (.int hi), .val (.ref ak), .val (.ref al), .val (.long rm2), .second, .val (.int (1 : Int32)), .val (.int lo), .val (.int q), .val (.long (own_r r0 r1 r2 q)), .second]) rfl ?_
      refine Go.iload (pc' := 60) d6_58 rfl rfl ?_
      refine Go.iastore (pc' := 61) (i := 0) (v := (.int q)) (vs' := [(.int (own_u (0 : Int32) 0 q k0)), (.int (own_u (0 : Int32) 1 q k1)), (.int (own_u (0 : Int32) 2 q k2))]) d6_60 rfl A_ak (by decide) (Nat.le_of_ble_eq_true rfl) rfl (own_set3 (0 : Int32) q k0 k1 k2 0 (by decide) (by decide)) ?_
      intro h4 L4 NL4 W4 B4
      replace N0 := NL4 _ N0 gn_ak
      replace sz0 : n0 ≤ h4.size := by rw [W4.size]; exact sz0
      replace E_o := E_o.wr W4
      replace F_o_rates := F_o_rates.other W4 (Or.inl ne_o_ak)
      replace F_o_capacity := F_o_capacity.other W4 (Or.inl ne_o_ak)
      replace F_o_left := F_o_left.other W4 (Or.inl ne_o_ak)
      replace A_ap := A_ap.other W4 ne_ap_ak
      replace A_ar := A_ar.other W4 ne_ar_ak
      replace A_al := A_al.other W4 (Ne.symm ne_ak_al)
      replace A_lf := A_lf.other W4 (Ne.symm ne_ak_lf)
      replace K0 := K0.wr W4 (Or.inl (by simp))
      clear A_ak; have A_ak := B4
      refine Go.goto (pc' := 70) d6_61 (by decide) ?_
      obtain ⟨iv2, hv_iv2⟩ : ∃ v : Int32, (lo + (1 : Int32)) = v := ⟨_, rfl⟩
      refine Go.iinc (pc' := 73) d6_70 rfl rfl (z := iv2) hv_iv2 (Ls' := #[.val (.ref o), .val (.int (1 : Int32)), .val (.ref ap), .val (.int lo), .val (.int hi), .val (.ref ak), .val (.ref al), .val (.long rm2), .second, .val (.int (1 : Int32)), .val (.int iv2), .val (.int q), .val (.long (own_r r0 r1 r2 q)), .second]) rfl ?_
      refine Go.goto (pc' := 14) d6_73 (by decide) ?_
      refine loop_keep1 hw o ap ar ak al lf lo hi p0 p1 p2 cap f0 f1 r0 r1 r2 N hN hN3 tot ne_ap_ar ne_ap_ak ne_ap_al ne_ap_lf ne_ar_ak ne_ar_al ne_ar_lf ne_ak_al ne_ak_lf ne_al_lf gn_ak gn_al gn_lf g0 g1 g2 (N - (i + 1)) (i + 1) iv2 rm2 (1 : Int32) (own_u (0 : Int32) 0 q k0) (own_u (0 : Int32) 1 q k1) (own_u (0 : Int32) 2 q k2) l0 l1 l2 q (own_r r0 r1 r2 q) h4 L4 (by omega) ?_ ?_ ?_ N0 sz0 K0 E_o F_o_rates F_o_capacity F_o_left A_ap A_ar A_ak A_al A_lf
      · rw [← hv_iv2]; have e1 := c_iadd lo (1 : Int32); have r1 := rng32 (lo + (1 : Int32)); have k1 : (1 : Int32).toInt = 1 := (by decide); omega
      · have k0 : (0 : Int32).toInt = 0 := by decide
        have k1 : (1 : Int32).toInt = 1 := by decide
        omega
      · rw [← htot, own_drop hq1 (by omega)]
        show _ = own_run r0 r1 r2 _ (own_t r0 r1 r2 q _)
        congr 1
        show _ = (if _ then _ else _)
        rw [if_neg hc2]
        rw [hv_rm2]
        rfl
  · refine Go.icmpT (pc' := 76) (X := lo.toInt) (Y := hi.toInt) d6_18 (by decide) rfl rfl (hc1 : ¬ lo.toInt < hi.toInt) ?_
    refine Go.aloadN (pc' := 77) d6_76 rfl rfl rfl ?_
    refine Go.getF (pc' := 80) d6_77 rfl (hw _ w21) Via.refl F_o_left ?_
    refine Go.iloadN (pc' := 81) d6_80 rfl rfl ?_
    refine Go.lload (pc' := 83) d6_81 rfl rfl ?_
    refine Go.lastore (pc' := 84) (i := 1) (v := (.long f1)) (vs' := [(.long f0), (.long f1)]) d6_83 rfl A_lf (by decide) (Nat.le_of_ble_eq_true rfl) rfl rfl ?_
    intro h5 L5 NL5 W5 B5
    replace N0 := NL5 _ N0 gn_lf
    replace sz0 : n0 ≤ h5.size := by rw [W5.size]; exact sz0
    replace E_o := E_o.wr W5
    replace F_o_rates := F_o_rates.other W5 (Or.inl ne_o_lf)
    replace F_o_capacity := F_o_capacity.other W5 (Or.inl ne_o_lf)
    replace F_o_left := F_o_left.other W5 (Or.inl ne_o_lf)
    replace A_ap := A_ap.other W5 ne_ap_lf
    replace A_ar := A_ar.other W5 ne_ar_lf
    replace A_ak := A_ak.other W5 ne_ak_lf
    replace A_al := A_al.other W5 ne_al_lf
    replace K0 := K0.wr W5 (Or.inl (by simp))
    clear A_lf; have A_lf := B5
    refine Go.iload (pc' := 86) d6_84 rfl rfl ?_
    refine Go.retI d6_86 rfl (by decide) (by decide) ?_
    refine ⟨f1, (0 : Int32), k0, k1, k2, l0, l1, l2, rfl, N0, K0, A_ak, A_al, A_lf, ?_⟩
    rw [← htot, List.drop_eq_nil_of_le (by rw [List.length_take]; omega)]
    rfl
theorem own_p (x q : Int32) (h : (x &&& (3 : Int32)) % (3 : Int32) = q) : 0 ≤ q.toInt ∧ q.toInt < 3 := by
  have e1 : (x &&& (3 : Int32)).toInt = x.toInt % (2 ^ 2 : Nat) := c_mask x 3 2 (by decide) (by decide)
  have k3 : (3 : Int32).toInt = 3 := by decide
  have e2 := (c_iremV (x &&& (3 : Int32)) (3 : Int32)).1 (by omega) (by omega)
  rw [h] at e2
  omega
theorem own_bit (x q : Int32) (h : x &&& (1 : Int32) = q) : q = (0 : Int32) ∨ q = (1 : Int32) := by
  have e1 : (x &&& (1 : Int32)).toInt = x.toInt % (2 ^ 1 : Nat) := c_mask x 1 1 (by decide) (by decide)
  rw [h] at e1
  have k0 : (0 : Int32).toInt = 0 := by decide
  have k1 : (1 : Int32).toInt = 1 := by decide
  simp only [← Int32.toInt_inj]
  omega
set_option maxRecDepth 65536 in
set_option maxHeartbeats 40000000 in
theorem law_con {l : Launch} {Z : State} {a0 : Array Value} (hw : ∀ d ∈ tables_1, d.before a0 Z = true) {h0 : Heap} {n0 : Nat} (sz0 : n0 ≤ h0.size) (cap : Int64) (ra : Int64) (rb : Int64) (rc : Int64) (pp : Int32) (qq : Int32) : Con l Z x code maxLocals ret room_1 tables_1 #[(.long cap), (.long ra), (.long rb), (.long rc), (.int pp), (.int qq)] h0 (LawQ n0) := by
  refine con_of (Ls := #[.val (.long cap), .second, .val (.long ra), .second, .val (.long rb), .second, .val (.long rc), .second, .val (.int pp), .val (.int qq), .unset, .unset, .unset, .unset, .unset, .unset, .unset, .unset, .unset, .unset, .unset, .unset, .unset, .unset, .unset, .unset]) (plainFor_of_name (by first | (simp [plainName, overriddenIn]; done) | decide +kernel)) (fun m => by first | (simp [entryFrame, mkF, argsToLocals, Value.category, maxLocals]; done) | rfl) ?_
  have N0 : Fr n0 [] := Fr.nil _
  refine Go.iconst (pc' := 1) at_0 rfl (z := (3 : Int32)) (by decide) ?_
  refine Go.new_long (pc' := 3) (k' := 1) (n' := 3) (N := 3) (vs := [(.long (0 : Int64)), (.long (0 : Int64)), (.long (0 : Int64))]) at_1 rfl (hw _ w0) (by decide) rfl 3 (Nat.le_refl _) (by decide) (by decide) (by decide) rfl rfl ?_
  intro h1 arr ha_arr X1 A_arr
  have gn_arr : n0 ≤ arr := by rw [ha_arr]; exact sz0
  replace sz0 : n0 ≤ h1.size := Nat.le_trans sz0 X1.1
  refine Go.dup (pc' := 4) at_3 rfl rfl ?_
  refine Go.iconst (pc' := 5) at_4 rfl (z := (0 : Int32)) (by decide) ?_
  refine Go.lloadN (pc' := 6) at_5 rfl rfl ?_
  refine Go.ldc2 (pc' := 9) at_6 rfl (hw _ w1) ?_
  refine Go.land (pc' := 10) at_9 rfl rfl ?_
  generalize hv_r0 : (ra &&& (9223372036854775807 : Int64)) = r0
  refine Go.lastore (pc' := 11) (i := 0) (v := (.long r0)) (vs' := [(.long r0), (.long (0 : Int64)), (.long (0 : Int64))]) at_10 rfl A_arr (by decide) (Nat.le_of_ble_eq_true rfl) rfl rfl ?_
  intro h2 L2 NL2 W2 B2
  replace N0 := NL2 _ N0 gn_arr
  replace sz0 : n0 ≤ h2.size := by rw [W2.size]; exact sz0
  clear A_arr; have A_arr := B2
  refine Go.dup (pc' := 12) at_11 rfl rfl ?_
  refine Go.iconst (pc' := 13) at_12 rfl (z := (1 : Int32)) (by decide) ?_
  refine Go.lload (pc' := 15) at_13 rfl rfl ?_
  refine Go.ldc2 (pc' := 18) at_15 rfl (hw _ w1) ?_
  refine Go.land (pc' := 19) at_18 rfl rfl ?_
  generalize hv_r1 : (rb &&& (9223372036854775807 : Int64)) = r1
  refine Go.lastore (pc' := 20) (i := 1) (v := (.long r1)) (vs' := [(.long r0), (.long r1), (.long (0 : Int64))]) at_19 rfl A_arr (by decide) (Nat.le_of_ble_eq_true rfl) rfl rfl ?_
  intro h3 L3 NL3 W3 B3
  replace N0 := NL3 _ N0 gn_arr
  replace sz0 : n0 ≤ h3.size := by rw [W3.size]; exact sz0
  clear A_arr; have A_arr := B3
  refine Go.dup (pc' := 21) at_20 rfl rfl ?_
  refine Go.iconst (pc' := 22) at_21 rfl (z := (2 : Int32)) (by decide) ?_
  refine Go.lload (pc' := 24) at_22 rfl rfl ?_
  refine Go.ldc2 (pc' := 27) at_24 rfl (hw _ w1) ?_
  refine Go.land (pc' := 28) at_27 rfl rfl ?_
  generalize hv_r2 : (rc &&& (9223372036854775807 : Int64)) = r2
  refine Go.lastore (pc' := 29) (i := 2) (v := (.long r2)) (vs' := [(.long r0), (.long r1), (.long r2)]) at_28 rfl A_arr (by decide) (Nat.le_of_ble_eq_true rfl) rfl rfl ?_
  intro h4 L4 NL4 W4 B4
  replace N0 := NL4 _ N0 gn_arr
  replace sz0 : n0 ≤ h4.size := by rw [W4.size]; exact sz0
  clear A_arr; have A_arr := B4
  refine Go.astore (pc' := 31) at_29 rfl rfl (Ls' := #[.val (.long cap), .second, .val (.long ra), .second, .val (.long rb), .second, .val (.long rc), .second, .val (.int pp), .val (.int qq), .val (.ref arr), .unset, .unset, .unset, .unset, .unset, .unset, .unset, .unset, .unset, .unset, .unset, .unset, .unset, .unset, .unset]) rfl ?_
  refine Go.iconst (pc' := 32) at_31 rfl (z := (3 : Int32)) (by decide) ?_
  refine Go.new_int (pc' := 34) (k' := 2) (n' := 6) (N := 3) (vs := [(.int (0 : Int32)), (.int (0 : Int32)), (.int (0 : Int32))]) at_32 rfl (hw _ w2) (by decide) rfl 3 (Nat.le_refl _) (by decide) (by decide) (by decide) rfl rfl ?_
  intro h5 app ha_app X5 A_app
  have ne_arr_app : arr ≠ app := Nat.ne_of_lt (by rw [ha_app]; exact A_arr.lt)
  have gn_app : n0 ≤ app := by rw [ha_app]; exact sz0
  replace sz0 : n0 ≤ h5.size := Nat.le_trans sz0 X5.1
  replace A_arr := A_arr.ext X5
  refine Go.dup (pc' := 35) at_34 rfl rfl ?_
  refine Go.iconst (pc' := 36) at_35 rfl (z := (0 : Int32)) (by decide) ?_
  refine Go.iload (pc' := 38) at_36 rfl rfl ?_
  refine Go.iconst (pc' := 39) at_38 rfl (z := (3 : Int32)) (by decide) ?_
  refine Go.iand (pc' := 40) at_39 rfl rfl ?_
  refine Go.iconst (pc' := 41) at_40 rfl (z := (3 : Int32)) (by decide) ?_
  refine Go.irem (pc' := 42) at_41 rfl (by decide) rfl ?_
  generalize hv_p0 : ((pp &&& (3 : Int32)) % (3 : Int32)) = p0
  have g0 := own_p _ p0 hv_p0
  refine Go.iastore (pc' := 43) (i := 0) (v := (.int p0)) (vs' := [(.int p0), (.int (0 : Int32)), (.int (0 : Int32))]) at_42 rfl A_app (by decide) (Nat.le_of_ble_eq_true rfl) rfl rfl ?_
  intro h6 L6 NL6 W6 B6
  replace N0 := NL6 _ N0 gn_app
  replace sz0 : n0 ≤ h6.size := by rw [W6.size]; exact sz0
  replace A_arr := A_arr.other W6 ne_arr_app
  clear A_app; have A_app := B6
  refine Go.dup (pc' := 44) at_43 rfl rfl ?_
  refine Go.iconst (pc' := 45) at_44 rfl (z := (1 : Int32)) (by decide) ?_
  refine Go.iload (pc' := 47) at_45 rfl rfl ?_
  refine Go.iconst (pc' := 48) at_47 rfl (z := (2 : Int32)) (by decide) ?_
  refine Go.iushr (pc' := 49) at_48 rfl rfl ?_
  refine Go.iconst (pc' := 50) at_49 rfl (z := (3 : Int32)) (by decide) ?_
  refine Go.iand (pc' := 51) at_50 rfl rfl ?_
  refine Go.iconst (pc' := 52) at_51 rfl (z := (3 : Int32)) (by decide) ?_
  refine Go.irem (pc' := 53) at_52 rfl (by decide) rfl ?_
  generalize hv_p1 : ((((pp.toUInt32 >>> ((2 : Int32) &&& 31).toUInt32).toInt32) &&& (3 : Int32)) % (3 : Int32)) = p1
  have g1 := own_p _ p1 hv_p1
  refine Go.iastore (pc' := 54) (i := 1) (v := (.int p1)) (vs' := [(.int p0), (.int p1), (.int (0 : Int32))]) at_53 rfl A_app (by decide) (Nat.le_of_ble_eq_true rfl) rfl rfl ?_
  intro h7 L7 NL7 W7 B7
  replace N0 := NL7 _ N0 gn_app
  replace sz0 : n0 ≤ h7.size := by rw [W7.size]; exact sz0
  replace A_arr := A_arr.other W7 ne_arr_app
  clear A_app; have A_app := B7
  refine Go.dup (pc' := 55) at_54 rfl rfl ?_
  refine Go.iconst (pc' := 56) at_55 rfl (z := (2 : Int32)) (by decide) ?_
  refine Go.iload (pc' := 58) at_56 rfl rfl ?_
  refine Go.iconst (pc' := 59) at_58 rfl (z := (4 : Int32)) (by decide) ?_
  refine Go.iushr (pc' := 60) at_59 rfl rfl ?_
  refine Go.iconst (pc' := 61) at_60 rfl (z := (3 : Int32)) (by decide) ?_
  refine Go.iand (pc' := 62) at_61 rfl rfl ?_
  refine Go.iconst (pc' := 63) at_62 rfl (z := (3 : Int32)) (by decide) ?_
  refine Go.irem (pc' := 64) at_63 rfl (by decide) rfl ?_
  generalize hv_p2 : ((((pp.toUInt32 >>> ((4 : Int32) &&& 31).toUInt32).toInt32) &&& (3 : Int32)) % (3 : Int32)) = p2
  have g2 := own_p _ p2 hv_p2
  refine Go.iastore (pc' := 65) (i := 2) (v := (.int p2)) (vs' := [(.int p0), (.int p1), (.int p2)]) at_64 rfl A_app (by decide) (Nat.le_of_ble_eq_true rfl) rfl rfl ?_
  intro h8 L8 NL8 W8 B8
  replace N0 := NL8 _ N0 gn_app
  replace sz0 : n0 ≤ h8.size := by rw [W8.size]; exact sz0
  replace A_arr := A_arr.other W8 ne_arr_app
  clear A_app; have A_app := B8
  refine Go.astore (pc' := 67) at_65 rfl rfl (Ls' := #[.val (.long cap), .second, .val (.long ra), .second, .val (.long rb), .second, .val (.long rc), .second, .val (.int pp), .val (.int qq), .val (.ref arr), .val (.ref app), .unset, .unset, .unset, .unset, .unset, .unset, .unset, .unset, .unset, .unset, .unset, .unset, .unset, .unset]) rfl ?_
  refine Go.iload (pc' := 69) at_67 rfl rfl ?_
  refine Go.iconst (pc' := 70) at_69 rfl (z := (3 : Int32)) (by decide) ?_
  refine Go.iand (pc' := 71) at_70 rfl rfl ?_
  generalize hv_lo : (qq &&& (3 : Int32)) = lo
  refine Go.istore (pc' := 73) at_71 rfl (Ls' := #[.val (.long cap), .second, .val (.long ra), .second, .val (.long rb), .second, .val (.long rc), .second, .val (.int pp), .val (.int qq), .val (.ref arr), .val (.ref app), .val (.int lo), .unset, .unset, .unset, .unset, .unset, .unset, .unset, .unset, .unset, .unset, .unset, .unset, .unset]) rfl ?_
  refine Go.iload (pc' := 75) at_73 rfl rfl ?_
  refine Go.iload (pc' := 77) at_75 rfl rfl ?_
  refine Go.iconst (pc' := 78) at_77 rfl (z := (2 : Int32)) (by decide) ?_
  refine Go.iushr (pc' := 79) at_78 rfl rfl ?_
  refine Go.iconst (pc' := 80) at_79 rfl (z := (3 : Int32)) (by decide) ?_
  refine Go.iand (pc' := 81) at_80 rfl rfl ?_
  refine Go.iadd (pc' := 82) at_81 rfl rfl ?_
  generalize hv_hi0 : (lo + (((qq.toUInt32 >>> ((2 : Int32) &&& 31).toUInt32).toInt32) &&& (3 : Int32))) = hi0
  refine Go.istore (pc' := 84) at_82 rfl (Ls' := #[.val (.long cap), .second, .val (.long ra), .second, .val (.long rb), .second, .val (.long rc), .second, .val (.int pp), .val (.int qq), .val (.ref arr), .val (.ref app), .val (.int lo), .val (.int hi0), .unset, .unset, .unset, .unset, .unset, .unset, .unset, .unset, .unset, .unset, .unset, .unset]) rfl ?_
  have k3 : (3 : Int32).toInt = 3 := by decide
  have m1 : (qq &&& (3 : Int32)).toInt = qq.toInt % (2 ^ 2 : Nat) := c_mask qq 3 2 (by decide) (by decide)
  rw [hv_lo] at m1
  have m2 : ((qq.toUInt32 >>> ((2 : Int32) &&& 31).toUInt32).toInt32 &&& (3 : Int32)).toInt = (qq.toUInt32 >>> ((2 : Int32) &&& 31).toUInt32).toInt32.toInt % (2 ^ 2 : Nat) := c_mask _ 3 2 (by decide) (by decide)
  have e2 := c_iadd lo ((qq.toUInt32 >>> ((2 : Int32) &&& 31).toUInt32).toInt32 &&& (3 : Int32))
  have r2' := rng32 hi0
  rw [hv_hi0] at e2
  have J93 : ∀ hi : Int32, lo.toInt ≤ hi.toInt → hi.toInt ≤ 3 → Go Z l room_1 code maxLocals x.cls ret x.name 93 #[.val (.long cap), .second, .val (.long ra), .second, .val (.long rb), .second, .val (.long rc), .second, .val (.int pp), .val (.int qq), .val (.ref arr), .val (.ref app), .val (.int lo), .val (.int hi), .unset, .unset, .unset, .unset, .unset, .unset, .unset, .unset, .unset, .unset, .unset, .unset] [] h8 L8 2 6 (LawQ n0) := by
    intro hi hlh hh3
    have hlo : 0 ≤ lo.toInt := by omega
    obtain ⟨N, hN⟩ : ∃ N : Nat, hi.toInt = (N : Int) := ⟨hi.toInt.toNat, by omega⟩
    have hN3 : N ≤ 3 := by omega
    refine Go.iload (pc' := 95) at_93 rfl rfl ?_
    refine Go.iconst (pc' := 96) at_95 rfl (z := (4 : Int32)) (by decide) ?_
    refine Go.iushr (pc' := 97) at_96 rfl rfl ?_
    refine Go.iconst (pc' := 98) at_97 rfl (z := (1 : Int32)) (by decide) ?_
    refine Go.iand (pc' := 99) at_98 rfl rfl ?_
    generalize hv_slot : (((qq.toUInt32 >>> ((4 : Int32) &&& 31).toUInt32).toInt32) &&& (1 : Int32)) = slot
    refine Go.istore (pc' := 101) at_99 rfl (Ls' := #[.val (.long cap), .second, .val (.long ra), .second, .val (.long rb), .second, .val (.long rc), .second, .val (.int pp), .val (.int qq), .val (.ref arr), .val (.ref app), .val (.int lo), .val (.int hi), .val (.int slot), .unset, .unset, .unset, .unset, .unset, .unset, .unset, .unset, .unset, .unset, .unset]) rfl ?_
    rcases own_bit _ slot hv_slot with hs9 | hs9
    · subst hs9
      refine Go.iconst (pc' := 102) at_101 rfl (z := (1 : Int32)) (by decide) ?_
      refine Go.iload (pc' := 104) at_102 rfl rfl ?_
      refine Go.isub (pc' := 105) at_104 rfl (z := (1 : Int32)) (by decide) ?_
      refine Go.istore (pc' := 107) at_105 rfl (Ls' := #[.val (.long cap), .second, .val (.long ra), .second, .val (.long rb), .second, .val (.long rc), .second, .val (.int pp), .val (.int qq), .val (.ref arr), .val (.ref app), .val (.int lo), .val (.int hi), .val (.int (0 : Int32)), .val (.int (1 : Int32)), .unset, .unset, .unset, .unset, .unset, .unset, .unset, .unset, .unset, .unset]) rfl ?_
      refine Go.newO (pc' := 110) (k' := 3) (n' := 9) at_107 rfl (hw _ w3) (hw _ w4) (hw _ w5) (by decide) (by decide) rfl rfl ?_
      intro h10 obj ha_obj X10 E_obj D10
      have ne_app_obj : app ≠ obj := Nat.ne_of_lt (by rw [ha_obj]; exact A_app.lt)
      have ne_arr_obj : arr ≠ obj := Nat.ne_of_lt (by rw [ha_obj]; exact A_arr.lt)
      have gn_obj : n0 ≤ obj := by rw [ha_obj]; exact sz0
      replace sz0 : n0 ≤ h10.size := Nat.le_trans sz0 X10.1
      replace A_arr := A_arr.ext X10
      replace A_app := A_app.ext X10
      have F_obj_rates : Fld Z h10 obj "com/example/even_keel/evenkeel/plan/Rooms$InUnits" "rates" "[J" .null := D10 (Or.inr (hw _ w18)) (ty := (.array .long)) (by decide)
      have F_obj_capacity : Fld Z h10 obj "com/example/even_keel/evenkeel/plan/Rooms$InUnits" "capacity" "J" (.long (0 : Int64)) := D10 (Or.inr (hw _ w20)) (ty := .long) (by decide)
      have F_obj_left : Fld Z h10 obj "com/example/even_keel/evenkeel/plan/Rooms$InUnits" "left" "[J" .null := D10 (Or.inr (hw _ w22)) (ty := (.array .long)) (by decide)
      refine Go.dup (pc' := 111) at_110 rfl rfl ?_
      refine Go.iconst (pc' := 112) at_111 rfl (z := (2 : Int32)) (by decide) ?_
      refine Go.aload (pc' := 114) at_112 rfl rfl rfl ?_
      refine Go.lloadN (pc' := 115) at_114 rfl rfl ?_
      refine Go.callI (pc' := 118) (W := 1) (a := obj) (argsL := [(.int (2 : Int32)), (.ref arr), (.long cap)]) (rest := [(.ref obj)]) (k' := 4) (n' := 11) at_115 rfl rfl (hw _ w6) (hw _ w7) (hw _ w5) (hw _ w8) (by decide) (c_init hw sz0 obj arr cap gn_obj E_obj F_obj_rates F_obj_capacity F_obj_left) (by decide) (by decide) (by decide) (by decide) rfl rfl rfl pd__28I_5bJJ_29V rfl rfl (Nat.le_of_eq rfl) ?_
      intro v11 h11 P11 L11 NL11 hq11
      obtain ⟨lf, rfl, ge_lf, N11, K11, E_obj_11, F_obj_rates_11, F_obj_capacity_11, F_obj_left_11, A_lf_11⟩ := hq11
      dsimp only [Option.toList, List.cons_append, List.nil_append]
      have ne_app_lf : app ≠ lf := Nat.ne_of_lt (Nat.lt_of_lt_of_le A_app.lt ge_lf)
      have ne_arr_lf : arr ≠ lf := Nat.ne_of_lt (Nat.lt_of_lt_of_le A_arr.lt ge_lf)
      have ne_obj_lf : obj ≠ lf := Nat.ne_of_lt (Nat.lt_of_lt_of_le E_obj.lt ge_lf)
      have gn_lf : n0 ≤ lf := Nat.le_trans sz0 ge_lf
      replace N0 := NL11 _ N0 N11
      replace sz0 : n0 ≤ h11.size := Nat.le_trans sz0 K11.1
      clear E_obj
      clear F_obj_rates
      clear F_obj_capacity
      clear F_obj_left
      replace A_arr := A_arr.keep K11 (ninS ne_arr_obj nin0)
      replace A_app := A_app.keep K11 (ninS ne_app_obj nin0)
      have E_obj := E_obj_11; clear E_obj_11
      have F_obj_rates := F_obj_rates_11; clear F_obj_rates_11
      have F_obj_capacity := F_obj_capacity_11; clear F_obj_capacity_11
      have F_obj_left := F_obj_left_11; clear F_obj_left_11
      have A_lf := A_lf_11; clear A_lf_11
      refine Go.astore (pc' := 120) at_118 rfl rfl (Ls' := #[.val (.long cap), .second, .val (.long ra), .second, .val (.long rb), .second, .val (.long rc), .second, .val (.int pp), .val (.int qq), .val (.ref arr), .val (.ref app), .val (.int lo), .val (.int hi), .val (.int (0 : Int32)), .val (.int (1 : Int32)), .val (.ref obj), .unset, .unset, .unset, .unset, .unset, .unset, .unset, .unset, .unset]) rfl ?_
      refine Go.aload (pc' := 122) at_120 rfl rfl rfl ?_
      refine Go.iload (pc' := 124) at_122 rfl rfl ?_
      refine Go.callV (pc' := 127) (W := 0) (a := obj) (argsL := [(.int (0 : Int32))]) (rest := []) (k' := 4) (n' := 11) at_124 rfl (hw _ w23) (hw _ w24) (nf_sel (hw _ w26)) (hw _ w26) (hw _ w25) (hw _ w5) (hw _ w27) E_obj (by decide) (c_empty0 hw sz0 obj arr lf cap (0 : Int64) (0 : Int64) gn_lf E_obj F_obj_rates F_obj_capacity F_obj_left A_lf) (by decide) (by decide) (by decide) (by decide) rfl rfl rfl pd__28I_29V rfl rfl (Nat.le_of_eq rfl) ?_
      intro v12 h12 P12 L12 NL12 hq12
      obtain ⟨rfl, N12, K12, A_lf_12⟩ := hq12
      dsimp only [Option.toList, List.cons_append, List.nil_append]
      replace N0 := NL12 _ N0 N12
      replace sz0 : n0 ≤ h12.size := Nat.le_trans sz0 K12.1
      replace E_obj := E_obj.keep K12
      replace F_obj_rates := F_obj_rates.keep K12 (ninS ne_obj_lf nin0)
      replace F_obj_capacity := F_obj_capacity.keep K12 (ninS ne_obj_lf nin0)
      replace F_obj_left := F_obj_left.keep K12 (ninS ne_obj_lf nin0)
      replace A_arr := A_arr.keep K12 (ninS ne_arr_lf nin0)
      replace A_app := A_app.keep K12 (ninS ne_app_lf nin0)
      clear A_lf
      have A_lf := A_lf_12; clear A_lf_12
      refine Go.aload (pc' := 129) at_127 rfl rfl rfl ?_
      refine Go.iload (pc' := 131) at_129 rfl rfl ?_
      refine Go.iconst (pc' := 132) at_131 rfl (z := (0 : Int32)) (by decide) ?_
      refine Go.callV (pc' := 135) (W := 0) (a := obj) (argsL := [(.int (1 : Int32)), (.int (0 : Int32))]) (rest := []) (k' := 4) (n' := 11) at_132 rfl (hw _ w28) (hw _ w29) (nf_sel (hw _ w31)) (hw _ w31) (hw _ w30) (hw _ w5) (hw _ w32) E_obj (by decide) (c_setr1 hw sz0 obj arr lf cap cap (0 : Int64) r0 r1 r2 gn_lf ne_arr_lf E_obj F_obj_rates F_obj_capacity F_obj_left A_lf A_arr) (by decide) (by decide) (by decide) (by decide) rfl rfl rfl pd__28II_29V rfl rfl (Nat.le_of_eq rfl) ?_
      intro v13 h13 P13 L13 NL13 hq13
      obtain ⟨rfl, N13, K13, A_lf_13⟩ := hq13
      dsimp only [Option.toList, List.cons_append, List.nil_append]
      replace N0 := NL13 _ N0 N13
      replace sz0 : n0 ≤ h13.size := Nat.le_trans sz0 K13.1
      replace E_obj := E_obj.keep K13
      replace F_obj_rates := F_obj_rates.keep K13 (ninS ne_obj_lf nin0)
      replace F_obj_capacity := F_obj_capacity.keep K13 (ninS ne_obj_lf nin0)
      replace F_obj_left := F_obj_left.keep K13 (ninS ne_obj_lf nin0)
      replace A_arr := A_arr.keep K13 (ninS ne_arr_lf nin0)
      replace A_app := A_app.keep K13 (ninS ne_app_lf nin0)
      clear A_lf
      have A_lf := A_lf_13; clear A_lf_13
      refine Go.iconst (pc' := 136) at_135 rfl (z := (3 : Int32)) (by decide) ?_
      refine Go.new_int (pc' := 138) (k' := 5) (n' := 14) (N := 3) (vs := [(.int (0 : Int32)), (.int (0 : Int32)), (.int (0 : Int32))]) at_136 rfl (hw _ w2) (by decide) rfl 3 (Nat.le_refl _) (by decide) (by decide) (by decide) rfl rfl ?_
      intro h14 akk ha_akk X14 A_akk
      have ne_app_akk : app ≠ akk := Nat.ne_of_lt (by rw [ha_akk]; exact A_app.lt)
      have ne_arr_akk : arr ≠ akk := Nat.ne_of_lt (by rw [ha_akk]; exact A_arr.lt)
      have ne_lf_akk : lf ≠ akk := Nat.ne_of_lt (by rw [ha_akk]; exact A_lf.lt)
      have ne_obj_akk : obj ≠ akk := Nat.ne_of_lt (by rw [ha_akk]; exact E_obj.lt)
      have gn_akk : n0 ≤ akk := by rw [ha_akk]; exact sz0
      replace sz0 : n0 ≤ h14.size := Nat.le_trans sz0 X14.1
      replace E_obj := E_obj.ext X14
      replace F_obj_rates := F_obj_rates.ext X14
      replace F_obj_capacity := F_obj_capacity.ext X14
      replace F_obj_left := F_obj_left.ext X14
      replace A_arr := A_arr.ext X14
      replace A_app := A_app.ext X14
      replace A_lf := A_lf.ext X14
      refine Go.dup (pc' := 139) at_138 rfl rfl ?_
      refine Go.iconst (pc' := 140) at_139 rfl (z := (0 : Int32)) (by decide) ?_
      refine Go.iconst (pc' := 141) at_140 rfl (z := (-1 : Int32)) (by decide) ?_
      refine Go.iastore (pc' := 142) (i := 0) (v := (.int (-1 : Int32))) (vs' := [(.int (-1 : Int32)), (.int (0 : Int32)), (.int (0 : Int32))]) at_141 rfl A_akk (by decide) (Nat.le_of_ble_eq_true rfl) rfl rfl ?_
      intro h15 L15 NL15 W15 B15
      replace N0 := NL15 _ N0 gn_akk
      replace sz0 : n0 ≤ h15.size := by rw [W15.size]; exact sz0
      replace E_obj := E_obj.wr W15
      replace F_obj_rates := F_obj_rates.other W15 (Or.inl ne_obj_akk)
      replace F_obj_capacity := F_obj_capacity.other W15 (Or.inl ne_obj_akk)
      replace F_obj_left := F_obj_left.other W15 (Or.inl ne_obj_akk)
      replace A_arr := A_arr.other W15 ne_arr_akk
      replace A_app := A_app.other W15 ne_app_akk
      replace A_lf := A_lf.other W15 ne_lf_akk
      clear A_akk; have A_akk := B15
      refine Go.dup (pc' := 143) at_142 rfl rfl ?_
      refine Go.iconst (pc' := 144) at_143 rfl (z := (1 : Int32)) (by decide) ?_
      refine Go.iconst (pc' := 145) at_144 rfl (z := (-1 : Int32)) (by decide) ?_
      refine Go.iastore (pc' := 146) (i := 1) (v := (.int (-1 : Int32))) (vs' := [(.int (-1 : Int32)), (.int (-1 : Int32)), (.int (0 : Int32))]) at_145 rfl A_akk (by decide) (Nat.le_of_ble_eq_true rfl) rfl rfl ?_
      intro h16 L16 NL16 W16 B16
      replace N0 := NL16 _ N0 gn_akk
      replace sz0 : n0 ≤ h16.size := by rw [W16.size]; exact sz0
      replace E_obj := E_obj.wr W16
      replace F_obj_rates := F_obj_rates.other W16 (Or.inl ne_obj_akk)
      replace F_obj_capacity := F_obj_capacity.other W16 (Or.inl ne_obj_akk)
      replace F_obj_left := F_obj_left.other W16 (Or.inl ne_obj_akk)
      replace A_arr := A_arr.other W16 ne_arr_akk
      replace A_app := A_app.other W16 ne_app_akk
      replace A_lf := A_lf.other W16 ne_lf_akk
      clear A_akk; have A_akk := B16
      refine Go.dup (pc' := 147) at_146 rfl rfl ?_
      refine Go.iconst (pc' := 148) at_147 rfl (z := (2 : Int32)) (by decide) ?_
      refine Go.iconst (pc' := 149) at_148 rfl (z := (-1 : Int32)) (by decide) ?_
      refine Go.iastore (pc' := 150) (i := 2) (v := (.int (-1 : Int32))) (vs' := [(.int (-1 : Int32)), (.int (-1 : Int32)), (.int (-1 : Int32))]) at_149 rfl A_akk (by decide) (Nat.le_of_ble_eq_true rfl) rfl rfl ?_
      intro h17 L17 NL17 W17 B17
      replace N0 := NL17 _ N0 gn_akk
      replace sz0 : n0 ≤ h17.size := by rw [W17.size]; exact sz0
      replace E_obj := E_obj.wr W17
      replace F_obj_rates := F_obj_rates.other W17 (Or.inl ne_obj_akk)
      replace F_obj_capacity := F_obj_capacity.other W17 (Or.inl ne_obj_akk)
      replace F_obj_left := F_obj_left.other W17 (Or.inl ne_obj_akk)
      replace A_arr := A_arr.other W17 ne_arr_akk
      replace A_app := A_app.other W17 ne_app_akk
      replace A_lf := A_lf.other W17 ne_lf_akk
      clear A_akk; have A_akk := B17
      refine Go.astore (pc' := 152) at_150 rfl rfl (Ls' := #[.val (.long cap), .second, .val (.long ra), .second, .val (.long rb), .second, .val (.long rc), .second, .val (.int pp), .val (.int qq), .val (.ref arr), .val (.ref app), .val (.int lo), .val (.int hi), .val (.int (0 : Int32)), .val (.int (1 : Int32)), .val (.ref obj), .val (.ref akk), .unset, .unset, .unset, .unset, .unset, .unset, .unset, .unset]) rfl ?_
      refine Go.iconst (pc' := 153) at_152 rfl (z := (3 : Int32)) (by decide) ?_
      refine Go.new_boolean (pc' := 155) (k' := 6) (n' := 17) (N := 3) (vs := [(.int (0 : Int32)), (.int (0 : Int32)), (.int (0 : Int32))]) at_153 rfl (hw _ w33) (by decide) rfl 3 (Nat.le_refl _) (by decide) (by decide) (by decide) rfl rfl ?_
      intro h18 all ha_all X18 A_all
      have ne_akk_all : akk ≠ all := Nat.ne_of_lt (by rw [ha_all]; exact A_akk.lt)
      have ne_app_all : app ≠ all := Nat.ne_of_lt (by rw [ha_all]; exact A_app.lt)
      have ne_arr_all : arr ≠ all := Nat.ne_of_lt (by rw [ha_all]; exact A_arr.lt)
      have ne_lf_all : lf ≠ all := Nat.ne_of_lt (by rw [ha_all]; exact A_lf.lt)
      have ne_obj_all : obj ≠ all := Nat.ne_of_lt (by rw [ha_all]; exact E_obj.lt)
      have gn_all : n0 ≤ all := by rw [ha_all]; exact sz0
      replace sz0 : n0 ≤ h18.size := Nat.le_trans sz0 X18.1
      replace E_obj := E_obj.ext X18
      replace F_obj_rates := F_obj_rates.ext X18
      replace F_obj_capacity := F_obj_capacity.ext X18
      replace F_obj_left := F_obj_left.ext X18
      replace A_arr := A_arr.ext X18
      replace A_app := A_app.ext X18
      replace A_lf := A_lf.ext X18
      replace A_akk := A_akk.ext X18
      refine Go.astore (pc' := 157) at_155 rfl rfl (Ls' := #[.val (.long cap), .second, .val (.long ra), .second, .val (.long rb), .second, .val (.long rc), .second, .val (.int pp), .val (.int qq), .val (.ref arr), .val (.ref app), .val (.int lo), .val (.int hi), .val (.int (0 : Int32)), .val (.int (1 : Int32)), .val (.ref obj), .val (.ref akk), .val (.ref all), .unset, .unset, .unset, .unset, .unset, .unset, .unset]) rfl ?_
      refine Go.aload (pc' := 159) at_157 rfl rfl rfl ?_
      refine Go.iload (pc' := 161) at_159 rfl rfl ?_
      refine Go.aload (pc' := 163) at_161 rfl rfl rfl ?_
      refine Go.iload (pc' := 165) at_163 rfl rfl ?_
      refine Go.iload (pc' := 167) at_165 rfl rfl ?_
      refine Go.aload (pc' := 169) at_167 rfl rfl rfl ?_
      refine Go.aload (pc' := 171) at_169 rfl rfl rfl ?_
      refine Go.callV (pc' := 174) (W := 0) (a := obj) (argsL := [(.int (0 : Int32)), (.ref app), (.int lo), (.int hi), (.ref akk), (.ref all)]) (rest := []) (k' := 6) (n' := 17) at_171 rfl (hw _ w34) (hw _ w35) (nf_sel (hw _ w37)) (hw _ w37) (hw _ w36) (hw _ w5) (hw _ w38) E_obj (by decide) (c_keep0 hw sz0 obj app arr akk all lf lo hi p0 p1 p2 (-1 : Int32) (-1 : Int32) (-1 : Int32) (0 : Int32) (0 : Int32) (0 : Int32) cap cap r0 r0 r1 r2  N hN hN3 hlo hlh _ (Ne.symm ne_arr_app) ne_app_akk ne_app_all ne_app_lf ne_arr_akk ne_arr_all ne_arr_lf ne_akk_all (Ne.symm ne_lf_akk) (Ne.symm ne_lf_all) gn_akk gn_all gn_lf E_obj F_obj_rates F_obj_capacity F_obj_left A_app A_arr A_akk A_all A_lf g0 g1 g2 rfl) (by decide) (by decide) (by decide) (by decide) rfl rfl rfl pd__28I_5bIII_5bI_5bZ_29I rfl rfl (Nat.le_of_eq rfl) ?_
      intro v19 h19 P19 L19 NL19 hq19
      obtain ⟨kr, kc, kk0, kk1, kk2, kl0, kl1, kl2, rfl, N19, K19, A_akk_19, A_all_19, A_lf_19, hK⟩ := hq19
      dsimp only [Option.toList, List.cons_append, List.nil_append]
      replace N0 := NL19 _ N0 N19
      replace sz0 : n0 ≤ h19.size := Nat.le_trans sz0 K19.1
      replace E_obj := E_obj.keep K19
      replace F_obj_rates := F_obj_rates.keep K19 (ninS ne_obj_akk (ninS ne_obj_all (ninS ne_obj_lf nin0)))
      replace F_obj_capacity := F_obj_capacity.keep K19 (ninS ne_obj_akk (ninS ne_obj_all (ninS ne_obj_lf nin0)))
      replace F_obj_left := F_obj_left.keep K19 (ninS ne_obj_akk (ninS ne_obj_all (ninS ne_obj_lf nin0)))
      replace A_arr := A_arr.keep K19 (ninS ne_arr_akk (ninS ne_arr_all (ninS ne_arr_lf nin0)))
      replace A_app := A_app.keep K19 (ninS ne_app_akk (ninS ne_app_all (ninS ne_app_lf nin0)))
      clear A_lf
      clear A_akk
      clear A_all
      have A_akk := A_akk_19; clear A_akk_19
      have A_all := A_all_19; clear A_all_19
      have A_lf := A_lf_19; clear A_lf_19
      refine Go.istore (pc' := 176) at_174 rfl (Ls' := #[.val (.long cap), .second, .val (.long ra), .second, .val (.long rb), .second, .val (.long rc), .second, .val (.int pp), .val (.int qq), .val (.ref arr), .val (.ref app), .val (.int lo), .val (.int hi), .val (.int (0 : Int32)), .val (.int (1 : Int32)), .val (.ref obj), .val (.ref akk), .val (.ref all), .val (.int kc), .unset, .unset, .unset, .unset, .unset, .unset]) rfl ?_
      refine Go.iconst (pc' := 177) at_176 rfl (z := (3 : Int32)) (by decide) ?_
      refine Go.new_int (pc' := 179) (k' := 7) (n' := 20) (N := 3) (vs := [(.int (0 : Int32)), (.int (0 : Int32)), (.int (0 : Int32))]) at_177 rfl (hw _ w2) (by decide) rfl 3 (Nat.le_refl _) (by decide) (by decide) (by decide) rfl rfl ?_
      intro h20 aek ha_aek X20 A_aek
      have ne_akk_aek : akk ≠ aek := Nat.ne_of_lt (by rw [ha_aek]; exact A_akk.lt)
      have ne_all_aek : all ≠ aek := Nat.ne_of_lt (by rw [ha_aek]; exact A_all.lt)
      have ne_app_aek : app ≠ aek := Nat.ne_of_lt (by rw [ha_aek]; exact A_app.lt)
      have ne_arr_aek : arr ≠ aek := Nat.ne_of_lt (by rw [ha_aek]; exact A_arr.lt)
      have ne_lf_aek : lf ≠ aek := Nat.ne_of_lt (by rw [ha_aek]; exact A_lf.lt)
      have ne_obj_aek : obj ≠ aek := Nat.ne_of_lt (by rw [ha_aek]; exact E_obj.lt)
      have gn_aek : n0 ≤ aek := by rw [ha_aek]; exact sz0
      replace sz0 : n0 ≤ h20.size := Nat.le_trans sz0 X20.1
      replace E_obj := E_obj.ext X20
      replace F_obj_rates := F_obj_rates.ext X20
      replace F_obj_capacity := F_obj_capacity.ext X20
      replace F_obj_left := F_obj_left.ext X20
      replace A_arr := A_arr.ext X20
      replace A_app := A_app.ext X20
      replace A_lf := A_lf.ext X20
      replace A_akk := A_akk.ext X20
      replace A_all := A_all.ext X20
      refine Go.dup (pc' := 180) at_179 rfl rfl ?_
      refine Go.iconst (pc' := 181) at_180 rfl (z := (0 : Int32)) (by decide) ?_
      refine Go.iconst (pc' := 182) at_181 rfl (z := (-1 : Int32)) (by decide) ?_
      refine Go.iastore (pc' := 183) (i := 0) (v := (.int (-1 : Int32))) (vs' := [(.int (-1 : Int32)), (.int (0 : Int32)), (.int (0 : Int32))]) at_182 rfl A_aek (by decide) (Nat.le_of_ble_eq_true rfl) rfl rfl ?_
      intro h21 L21 NL21 W21 B21
      replace N0 := NL21 _ N0 gn_aek
      replace sz0 : n0 ≤ h21.size := by rw [W21.size]; exact sz0
      replace E_obj := E_obj.wr W21
      replace F_obj_rates := F_obj_rates.other W21 (Or.inl ne_obj_aek)
      replace F_obj_capacity := F_obj_capacity.other W21 (Or.inl ne_obj_aek)
      replace F_obj_left := F_obj_left.other W21 (Or.inl ne_obj_aek)
      replace A_arr := A_arr.other W21 ne_arr_aek
      replace A_app := A_app.other W21 ne_app_aek
      replace A_lf := A_lf.other W21 ne_lf_aek
      replace A_akk := A_akk.other W21 ne_akk_aek
      replace A_all := A_all.other W21 ne_all_aek
      clear A_aek; have A_aek := B21
      refine Go.dup (pc' := 184) at_183 rfl rfl ?_
      refine Go.iconst (pc' := 185) at_184 rfl (z := (1 : Int32)) (by decide) ?_
      refine Go.iconst (pc' := 186) at_185 rfl (z := (-1 : Int32)) (by decide) ?_
      refine Go.iastore (pc' := 187) (i := 1) (v := (.int (-1 : Int32))) (vs' := [(.int (-1 : Int32)), (.int (-1 : Int32)), (.int (0 : Int32))]) at_186 rfl A_aek (by decide) (Nat.le_of_ble_eq_true rfl) rfl rfl ?_
      intro h22 L22 NL22 W22 B22
      replace N0 := NL22 _ N0 gn_aek
      replace sz0 : n0 ≤ h22.size := by rw [W22.size]; exact sz0
      replace E_obj := E_obj.wr W22
      replace F_obj_rates := F_obj_rates.other W22 (Or.inl ne_obj_aek)
      replace F_obj_capacity := F_obj_capacity.other W22 (Or.inl ne_obj_aek)
      replace F_obj_left := F_obj_left.other W22 (Or.inl ne_obj_aek)
      replace A_arr := A_arr.other W22 ne_arr_aek
      replace A_app := A_app.other W22 ne_app_aek
      replace A_lf := A_lf.other W22 ne_lf_aek
      replace A_akk := A_akk.other W22 ne_akk_aek
      replace A_all := A_all.other W22 ne_all_aek
      clear A_aek; have A_aek := B22
      refine Go.dup (pc' := 188) at_187 rfl rfl ?_
      refine Go.iconst (pc' := 189) at_188 rfl (z := (2 : Int32)) (by decide) ?_
      refine Go.iconst (pc' := 190) at_189 rfl (z := (-1 : Int32)) (by decide) ?_
      refine Go.iastore (pc' := 191) (i := 2) (v := (.int (-1 : Int32))) (vs' := [(.int (-1 : Int32)), (.int (-1 : Int32)), (.int (-1 : Int32))]) at_190 rfl A_aek (by decide) (Nat.le_of_ble_eq_true rfl) rfl rfl ?_
      intro h23 L23 NL23 W23 B23
      replace N0 := NL23 _ N0 gn_aek
      replace sz0 : n0 ≤ h23.size := by rw [W23.size]; exact sz0
      replace E_obj := E_obj.wr W23
      replace F_obj_rates := F_obj_rates.other W23 (Or.inl ne_obj_aek)
      replace F_obj_capacity := F_obj_capacity.other W23 (Or.inl ne_obj_aek)
      replace F_obj_left := F_obj_left.other W23 (Or.inl ne_obj_aek)
      replace A_arr := A_arr.other W23 ne_arr_aek
      replace A_app := A_app.other W23 ne_app_aek
      replace A_lf := A_lf.other W23 ne_lf_aek
      replace A_akk := A_akk.other W23 ne_akk_aek
      replace A_all := A_all.other W23 ne_all_aek
      clear A_aek; have A_aek := B23
      refine Go.astore (pc' := 193) at_191 rfl rfl (Ls' := #[.val (.long cap), .second, .val (.long ra), .second, .val (.long rb), .second, .val (.long rc), .second, .val (.int pp), .val (.int qq), .val (.ref arr), .val (.ref app), .val (.int lo), .val (.int hi), .val (.int (0 : Int32)), .val (.int (1 : Int32)), .val (.ref obj), .val (.ref akk), .val (.ref all), .val (.int kc), .val (.ref aek), .unset, .unset, .unset, .unset, .unset]) rfl ?_
      refine Go.iconst (pc' := 194) at_193 rfl (z := (1 : Int32)) (by decide) ?_
      refine Go.new_int (pc' := 196) (k' := 8) (n' := 21) (N := 1) (vs := [(.int (0 : Int32))]) at_194 rfl (hw _ w2) (by decide) rfl 1 (Nat.le_refl _) (by decide) (by decide) (by decide) rfl rfl ?_
      intro h24 ann ha_ann X24 A_ann
      have ne_aek_ann : aek ≠ ann := Nat.ne_of_lt (by rw [ha_ann]; exact A_aek.lt)
      have ne_akk_ann : akk ≠ ann := Nat.ne_of_lt (by rw [ha_ann]; exact A_akk.lt)
      have ne_all_ann : all ≠ ann := Nat.ne_of_lt (by rw [ha_ann]; exact A_all.lt)
      have ne_app_ann : app ≠ ann := Nat.ne_of_lt (by rw [ha_ann]; exact A_app.lt)
      have ne_arr_ann : arr ≠ ann := Nat.ne_of_lt (by rw [ha_ann]; exact A_arr.lt)
      have ne_lf_ann : lf ≠ ann := Nat.ne_of_lt (by rw [ha_ann]; exact A_lf.lt)
      have ne_obj_ann : obj ≠ ann := Nat.ne_of_lt (by rw [ha_ann]; exact E_obj.lt)
      have gn_ann : n0 ≤ ann := by rw [ha_ann]; exact sz0
      replace sz0 : n0 ≤ h24.size := Nat.le_trans sz0 X24.1
      replace E_obj := E_obj.ext X24
      replace F_obj_rates := F_obj_rates.ext X24
      replace F_obj_capacity := F_obj_capacity.ext X24
      replace F_obj_left := F_obj_left.ext X24
      replace A_arr := A_arr.ext X24
      replace A_app := A_app.ext X24
      replace A_lf := A_lf.ext X24
      replace A_akk := A_akk.ext X24
      replace A_all := A_all.ext X24
      replace A_aek := A_aek.ext X24
      refine Go.astore (pc' := 198) at_196 rfl rfl (Ls' := #[.val (.long cap), .second, .val (.long ra), .second, .val (.long rb), .second, .val (.long rc), .second, .val (.int pp), .val (.int qq), .val (.ref arr), .val (.ref app), .val (.int lo), .val (.int hi), .val (.int (0 : Int32)), .val (.int (1 : Int32)), .val (.ref obj), .val (.ref akk), .val (.ref all), .val (.int kc), .val (.ref aek), .val (.ref ann), .unset, .unset, .unset, .unset]) rfl ?_
      refine Go.iconst (pc' := 199) at_198 rfl (z := (3 : Int32)) (by decide) ?_
      refine Go.new_boolean (pc' := 201) (k' := 9) (n' := 24) (N := 3) (vs := [(.int (0 : Int32)), (.int (0 : Int32)), (.int (0 : Int32))]) at_199 rfl (hw _ w33) (by decide) rfl 3 (Nat.le_refl _) (by decide) (by decide) (by decide) rfl rfl ?_
      intro h25 ael ha_ael X25 A_ael
      have ne_aek_ael : aek ≠ ael := Nat.ne_of_lt (by rw [ha_ael]; exact A_aek.lt)
      have ne_akk_ael : akk ≠ ael := Nat.ne_of_lt (by rw [ha_ael]; exact A_akk.lt)
      have ne_all_ael : all ≠ ael := Nat.ne_of_lt (by rw [ha_ael]; exact A_all.lt)
      have ne_ann_ael : ann ≠ ael := Nat.ne_of_lt (by rw [ha_ael]; exact A_ann.lt)
      have ne_app_ael : app ≠ ael := Nat.ne_of_lt (by rw [ha_ael]; exact A_app.lt)
      have ne_arr_ael : arr ≠ ael := Nat.ne_of_lt (by rw [ha_ael]; exact A_arr.lt)
      have ne_lf_ael : lf ≠ ael := Nat.ne_of_lt (by rw [ha_ael]; exact A_lf.lt)
      have ne_obj_ael : obj ≠ ael := Nat.ne_of_lt (by rw [ha_ael]; exact E_obj.lt)
      have gn_ael : n0 ≤ ael := by rw [ha_ael]; exact sz0
      replace sz0 : n0 ≤ h25.size := Nat.le_trans sz0 X25.1
      replace E_obj := E_obj.ext X25
      replace F_obj_rates := F_obj_rates.ext X25
      replace F_obj_capacity := F_obj_capacity.ext X25
      replace F_obj_left := F_obj_left.ext X25
      replace A_arr := A_arr.ext X25
      replace A_app := A_app.ext X25
      replace A_lf := A_lf.ext X25
      replace A_akk := A_akk.ext X25
      replace A_all := A_all.ext X25
      replace A_aek := A_aek.ext X25
      replace A_ann := A_ann.ext X25
      refine Go.astore (pc' := 203) at_201 rfl rfl (Ls' := #[.val (.long cap), .second, .val (.long ra), .second, .val (.long rb), .second, .val (.long rc), .second, .val (.int pp), .val (.int qq), .val (.ref arr), .val (.ref app), .val (.int lo), .val (.int hi), .val (.int (0 : Int32)), .val (.int (1 : Int32)), .val (.ref obj), .val (.ref akk), .val (.ref all), .val (.int kc), .val (.ref aek), .val (.ref ann), .val (.ref ael), .unset, .unset, .unset]) rfl ?_
      refine Go.lloadN (pc' := 204) at_203 rfl rfl ?_
      refine Go.lstore (pc' := 206) at_204 rfl (Ls' := #[.val (.long cap), .second, .val (.long ra), .second, .val (.long rb), .second, .val (.long rc), .second, .val (.int pp), .val (.int qq), .val (.ref arr), .val (.ref app), .val (.int lo), .val (.int hi), .val (.int (0 : Int32)), .val (.int (1 : Int32)), .val (.ref obj), .val (.ref akk), .val (.ref all), .val (.int kc), .val (.ref aek), .val (.ref ann), .val (.ref ael), .val (.long cap), .second, .unset]) rfl ?_
      refine Go.iconst (pc' := 207) at_206 rfl (z := (0 : Int32)) (by decide) ?_
      refine Go.iload (pc' := 209) at_207 rfl rfl ?_
      refine Go.iload (pc' := 211) at_209 rfl rfl ?_
      refine Go.aload (pc' := 213) at_211 rfl rfl rfl ?_
      refine Go.aload (pc' := 215) at_213 rfl rfl rfl ?_
      refine Go.lload (pc' := 217) at_215 rfl rfl ?_
      refine Go.aload (pc' := 219) at_217 rfl rfl rfl ?_
      refine Go.aload (pc' := 221) at_219 rfl rfl rfl ?_
      refine Go.aload (pc' := 223) at_221 rfl rfl rfl ?_
      refine Go.callS (pc' := 226) (W := 0) (argsL := [(.int (0 : Int32)), (.int lo), (.int hi), (.ref app), (.ref arr), (.long cap), (.ref aek), (.ref ann), (.ref ael)]) (rest := []) (k' := 9) (n' := 24) at_223 rfl (hw _ w39) (hw _ w40) (hw _ w41) (hw _ w42) (by decide) (c_step0 hw sz0 app arr aek ann ael lo hi cap (0 : Int32) (-1 : Int32) (-1 : Int32) (-1 : Int32) (0 : Int32) (0 : Int32) (0 : Int32) p0 p1 p2 r0 r1 r2 (Ne.symm ne_arr_app) ne_app_aek ne_app_ann ne_app_ael ne_arr_aek ne_arr_ann ne_arr_ael ne_aek_ann ne_aek_ael ne_ann_ael gn_aek gn_ann gn_ael A_app A_arr A_aek A_ann A_ael g0 g1 g2 ⟨by decide, by decide⟩) (by decide) (by decide) (by decide) (by decide) rfl rfl rfl pd__28III_5bI_5bJJ_5bI_5bI_5bZ_29J rfl rfl (Nat.le_of_eq rfl) ?_
      intro v26 h26 P26 L26 NL26 hq26
      obtain ⟨sr0, sc0, sk0_0, sk0_1, sk0_2, sl0_0, sl0_1, sl0_2, rfl, N26, K26, A_aek_26, A_ann_26, A_ael_26, hT0, hS0⟩ := hq26
      dsimp only [Option.toList, List.cons_append, List.nil_append]
      replace N0 := NL26 _ N0 N26
      replace sz0 : n0 ≤ h26.size := Nat.le_trans sz0 K26.1
      replace E_obj := E_obj.keep K26
      replace F_obj_rates := F_obj_rates.keep K26 (ninS ne_obj_aek (ninS ne_obj_ann (ninS ne_obj_ael nin0)))
      replace F_obj_capacity := F_obj_capacity.keep K26 (ninS ne_obj_aek (ninS ne_obj_ann (ninS ne_obj_ael nin0)))
      replace F_obj_left := F_obj_left.keep K26 (ninS ne_obj_aek (ninS ne_obj_ann (ninS ne_obj_ael nin0)))
      replace A_arr := A_arr.keep K26 (ninS ne_arr_aek (ninS ne_arr_ann (ninS ne_arr_ael nin0)))
      replace A_app := A_app.keep K26 (ninS ne_app_aek (ninS ne_app_ann (ninS ne_app_ael nin0)))
      replace A_lf := A_lf.keep K26 (ninS ne_lf_aek (ninS ne_lf_ann (ninS ne_lf_ael nin0)))
      replace A_akk := A_akk.keep K26 (ninS ne_akk_aek (ninS ne_akk_ann (ninS ne_akk_ael nin0)))
      replace A_all := A_all.keep K26 (ninS ne_all_aek (ninS ne_all_ann (ninS ne_all_ael nin0)))
      clear A_aek
      clear A_ann
      clear A_ael
      have A_aek := A_aek_26; clear A_aek_26
      have A_ann := A_ann_26; clear A_ann_26
      have A_ael := A_ael_26; clear A_ael_26
      refine Go.lstore (pc' := 228) at_226 rfl (Ls' := #[.val (.long cap), .second, .val (.long ra), .second, .val (.long rb), .second, .val (.long rc), .second, .val (.int pp), .val (.int qq), .val (.ref arr), .val (.ref app), .val (.int lo), .val (.int hi), .val (.int (0 : Int32)), .val (.int (1 : Int32)), .val (.ref obj), .val (.ref akk), .val (.ref all), .val (.int kc), .val (.ref aek), .val (.ref ann), .val (.ref ael), .val (.long sr0), .second, .unset]) rfl ?_
      refine Go.iconst (pc' := 229) at_228 rfl (z := (1 : Int32)) (by decide) ?_
      refine Go.iload (pc' := 231) at_229 rfl rfl ?_
      refine Go.iload (pc' := 233) at_231 rfl rfl ?_
      refine Go.aload (pc' := 235) at_233 rfl rfl rfl ?_
      refine Go.aload (pc' := 237) at_235 rfl rfl rfl ?_
      refine Go.lload (pc' := 239) at_237 rfl rfl ?_
      refine Go.aload (pc' := 241) at_239 rfl rfl rfl ?_
      refine Go.aload (pc' := 243) at_241 rfl rfl rfl ?_
      refine Go.aload (pc' := 245) at_243 rfl rfl rfl ?_
      refine Go.callS (pc' := 248) (W := 0) (argsL := [(.int (1 : Int32)), (.int lo), (.int hi), (.ref app), (.ref arr), (.long sr0), (.ref aek), (.ref ann), (.ref ael)]) (rest := []) (k' := 9) (n' := 24) at_245 rfl (hw _ w39) (hw _ w40) (hw _ w41) (hw _ w42) (by decide) (c_step1 hw sz0 app arr aek ann ael lo hi sr0 sc0 sk0_0 sk0_1 sk0_2 sl0_0 sl0_1 sl0_2 p0 p1 p2 r0 r1 r2 (Ne.symm ne_arr_app) ne_app_aek ne_app_ann ne_app_ael ne_arr_aek ne_arr_ann ne_arr_ael ne_aek_ann ne_aek_ael ne_ann_ael gn_aek gn_ann gn_ael A_app A_arr A_aek A_ann A_ael g0 g1 g2 hS0) (by decide) (by decide) (by decide) (by decide) rfl rfl rfl pd__28III_5bI_5bJJ_5bI_5bI_5bZ_29J rfl rfl (Nat.le_of_eq rfl) ?_
      intro v27 h27 P27 L27 NL27 hq27
      obtain ⟨sr1, sc1, sk1_0, sk1_1, sk1_2, sl1_0, sl1_1, sl1_2, rfl, N27, K27, A_aek_27, A_ann_27, A_ael_27, hT1, hS1⟩ := hq27
      dsimp only [Option.toList, List.cons_append, List.nil_append]
      replace N0 := NL27 _ N0 N27
      replace sz0 : n0 ≤ h27.size := Nat.le_trans sz0 K27.1
      replace E_obj := E_obj.keep K27
      replace F_obj_rates := F_obj_rates.keep K27 (ninS ne_obj_aek (ninS ne_obj_ann (ninS ne_obj_ael nin0)))
      replace F_obj_capacity := F_obj_capacity.keep K27 (ninS ne_obj_aek (ninS ne_obj_ann (ninS ne_obj_ael nin0)))
      replace F_obj_left := F_obj_left.keep K27 (ninS ne_obj_aek (ninS ne_obj_ann (ninS ne_obj_ael nin0)))
      replace A_arr := A_arr.keep K27 (ninS ne_arr_aek (ninS ne_arr_ann (ninS ne_arr_ael nin0)))
      replace A_app := A_app.keep K27 (ninS ne_app_aek (ninS ne_app_ann (ninS ne_app_ael nin0)))
      replace A_lf := A_lf.keep K27 (ninS ne_lf_aek (ninS ne_lf_ann (ninS ne_lf_ael nin0)))
      replace A_akk := A_akk.keep K27 (ninS ne_akk_aek (ninS ne_akk_ann (ninS ne_akk_ael nin0)))
      replace A_all := A_all.keep K27 (ninS ne_all_aek (ninS ne_all_ann (ninS ne_all_ael nin0)))
      clear A_aek
      clear A_ann
      clear A_ael
      have A_aek := A_aek_27; clear A_aek_27
      have A_ann := A_ann_27; clear A_ann_27
      have A_ael := A_ael_27; clear A_ael_27
      refine Go.lstore (pc' := 250) at_248 rfl (Ls' := #[.val (.long cap), .second, .val (.long ra), .second, .val (.long rb), .second, .val (.long rc), .second, .val (.int pp), .val (.int qq), .val (.ref arr), .val (.ref app), .val (.int lo), .val (.int hi), .val (.int (0 : Int32)), .val (.int (1 : Int32)), .val (.ref obj), .val (.ref akk), .val (.ref all), .val (.int kc), .val (.ref aek), .val (.ref ann), .val (.ref ael), .val (.long sr1), .second, .unset]) rfl ?_
      refine Go.iconst (pc' := 251) at_250 rfl (z := (2 : Int32)) (by decide) ?_
      refine Go.iload (pc' := 253) at_251 rfl rfl ?_
      refine Go.iload (pc' := 255) at_253 rfl rfl ?_
      refine Go.aload (pc' := 257) at_255 rfl rfl rfl ?_
      refine Go.aload (pc' := 259) at_257 rfl rfl rfl ?_
      refine Go.lload (pc' := 261) at_259 rfl rfl ?_
      refine Go.aload (pc' := 263) at_261 rfl rfl rfl ?_
      refine Go.aload (pc' := 265) at_263 rfl rfl rfl ?_
      refine Go.aload (pc' := 267) at_265 rfl rfl rfl ?_
      refine Go.callS (pc' := 270) (W := 0) (argsL := [(.int (2 : Int32)), (.int lo), (.int hi), (.ref app), (.ref arr), (.long sr1), (.ref aek), (.ref ann), (.ref ael)]) (rest := []) (k' := 9) (n' := 24) at_267 rfl (hw _ w39) (hw _ w40) (hw _ w41) (hw _ w42) (by decide) (c_step2 hw sz0 app arr aek ann ael lo hi sr1 sc1 sk1_0 sk1_1 sk1_2 sl1_0 sl1_1 sl1_2 p0 p1 p2 r0 r1 r2 (Ne.symm ne_arr_app) ne_app_aek ne_app_ann ne_app_ael ne_arr_aek ne_arr_ann ne_arr_ael ne_aek_ann ne_aek_ael ne_ann_ael gn_aek gn_ann gn_ael A_app A_arr A_aek A_ann A_ael g0 g1 g2 hS1) (by decide) (by decide) (by decide) (by decide) rfl rfl rfl pd__28III_5bI_5bJJ_5bI_5bI_5bZ_29J rfl rfl (Nat.le_of_eq rfl) ?_
      intro v28 h28 P28 L28 NL28 hq28
      obtain ⟨sr2, sc2, sk2_0, sk2_1, sk2_2, sl2_0, sl2_1, sl2_2, rfl, N28, K28, A_aek_28, A_ann_28, A_ael_28, hT2, hS2⟩ := hq28
      dsimp only [Option.toList, List.cons_append, List.nil_append]
      replace N0 := NL28 _ N0 N28
      replace sz0 : n0 ≤ h28.size := Nat.le_trans sz0 K28.1
      replace E_obj := E_obj.keep K28
      replace F_obj_rates := F_obj_rates.keep K28 (ninS ne_obj_aek (ninS ne_obj_ann (ninS ne_obj_ael nin0)))
      replace F_obj_capacity := F_obj_capacity.keep K28 (ninS ne_obj_aek (ninS ne_obj_ann (ninS ne_obj_ael nin0)))
      replace F_obj_left := F_obj_left.keep K28 (ninS ne_obj_aek (ninS ne_obj_ann (ninS ne_obj_ael nin0)))
      replace A_arr := A_arr.keep K28 (ninS ne_arr_aek (ninS ne_arr_ann (ninS ne_arr_ael nin0)))
      replace A_app := A_app.keep K28 (ninS ne_app_aek (ninS ne_app_ann (ninS ne_app_ael nin0)))
      replace A_lf := A_lf.keep K28 (ninS ne_lf_aek (ninS ne_lf_ann (ninS ne_lf_ael nin0)))
      replace A_akk := A_akk.keep K28 (ninS ne_akk_aek (ninS ne_akk_ann (ninS ne_akk_ael nin0)))
      replace A_all := A_all.keep K28 (ninS ne_all_aek (ninS ne_all_ann (ninS ne_all_ael nin0)))
      clear A_aek
      clear A_ann
      clear A_ael
      have A_aek := A_aek_28; clear A_aek_28
      have A_ann := A_ann_28; clear A_ann_28
      have A_ael := A_ael_28; clear A_ael_28
      refine Go.lstore (pc' := 272) at_270 rfl (Ls' := #[.val (.long cap), .second, .val (.long ra), .second, .val (.long rb), .second, .val (.long rc), .second, .val (.int pp), .val (.int qq), .val (.ref arr), .val (.ref app), .val (.int lo), .val (.int hi), .val (.int (0 : Int32)), .val (.int (1 : Int32)), .val (.ref obj), .val (.ref akk), .val (.ref all), .val (.int kc), .val (.ref aek), .val (.ref ann), .val (.ref ael), .val (.long sr2), .second, .unset]) rfl ?_
      refine Go.aload (pc' := 274) at_272 rfl rfl rfl ?_
      refine Go.callV0 (pc' := 277) (W := 0) (a := obj) (argsL := []) (rest := []) (v0 := some (.ref lf)) (st2 := [(.ref lf)]) at_274 rfl (hw _ w43) (hw _ w44) (nf_sel (hw _ w46)) (hw _ w46) (hw _ w45) (hw _ w5) (hw _ w47) E_obj (by decide) (c_units hw obj arr lf cap E_obj F_obj_rates F_obj_capacity F_obj_left) (by decide) (by decide) rfl rfl rfl (by decide) (by decide) rfl pd__28_29_5bJ rfl rfl (Nat.le_of_eq rfl) ?_
      refine Go.astore (pc' := 279) at_277 rfl rfl (Ls' := #[.val (.long cap), .second, .val (.long ra), .second, .val (.long rb), .second, .val (.long rc), .second, .val (.int pp), .val (.int qq), .val (.ref arr), .val (.ref app), .val (.int lo), .val (.int hi), .val (.int (0 : Int32)), .val (.int (1 : Int32)), .val (.ref obj), .val (.ref akk), .val (.ref all), .val (.int kc), .val (.ref aek), .val (.ref ann), .val (.ref ael), .val (.long sr2), .second, .val (.ref lf)]) rfl ?_
      have hall := own_eq r0 r1 r2 p0 p1 p2 lo.toInt.toNat N (by omega) hN3 (by omega) (cap, (0 : Int32), (-1 : Int32), (-1 : Int32), (-1 : Int32), (0 : Int32), (0 : Int32), (0 : Int32))
      rw [show ((lo.toInt.toNat : Nat) : Int) = lo.toInt by omega, ← hN, hT0, hT1, hT2, hK] at hall
      simp only [Prod.mk.injEq] at hall
      obtain ⟨j0, j1, j2, j3, j4, j5, j6, j7⟩ := hall
      refine Go.iload (pc' := 281) at_279 rfl rfl ?_
      refine Go.aload (pc' := 283) at_281 rfl rfl rfl ?_
      refine Go.iconst (pc' := 284) at_283 rfl (z := (0 : Int32)) (by decide) ?_
      refine Go.iaload (pc' := 285) at_284 rfl (i := 0) (v := (.int sc2)) A_ann (by decide) rfl ?_
      refine Go.icmpF (pc' := 288) (X := kc.toInt) (Y := sc2.toInt) at_285 rfl rfl rfl (congrArg _ j1 : kc.toInt = sc2.toInt) ?_
      refine Go.aload (pc' := 290) at_288 rfl rfl rfl ?_
      refine Go.iconst (pc' := 291) at_290 rfl (z := (0 : Int32)) (by decide) ?_
      refine Go.iaload (pc' := 292) at_291 rfl (i := 0) (v := (.int kk0)) A_akk (by decide) rfl ?_
      refine Go.aload (pc' := 294) at_292 rfl rfl rfl ?_
      refine Go.iconst (pc' := 295) at_294 rfl (z := (0 : Int32)) (by decide) ?_
      refine Go.iaload (pc' := 296) at_295 rfl (i := 0) (v := (.int sk2_0)) A_aek (by decide) rfl ?_
      refine Go.icmpF (pc' := 299) (X := kk0.toInt) (Y := sk2_0.toInt) at_296 rfl rfl rfl (congrArg _ j2 : kk0.toInt = sk2_0.toInt) ?_
      refine Go.aload (pc' := 301) at_299 rfl rfl rfl ?_
      refine Go.iconst (pc' := 302) at_301 rfl (z := (1 : Int32)) (by decide) ?_
      refine Go.iaload (pc' := 303) at_302 rfl (i := 1) (v := (.int kk1)) A_akk (by decide) rfl ?_
      refine Go.aload (pc' := 305) at_303 rfl rfl rfl ?_
      refine Go.iconst (pc' := 306) at_305 rfl (z := (1 : Int32)) (by decide) ?_
      refine Go.iaload (pc' := 307) at_306 rfl (i := 1) (v := (.int sk2_1)) A_aek (by decide) rfl ?_
      refine Go.icmpF (pc' := 310) (X := kk1.toInt) (Y := sk2_1.toInt) at_307 rfl rfl rfl (congrArg _ j3 : kk1.toInt = sk2_1.toInt) ?_
      refine Go.aload (pc' := 312) at_310 rfl rfl rfl ?_
      refine Go.iconst (pc' := 313) at_312 rfl (z := (2 : Int32)) (by decide) ?_
      refine Go.iaload (pc' := 314) at_313 rfl (i := 2) (v := (.int kk2)) A_akk (by decide) rfl ?_
      refine Go.aload (pc' := 316) at_314 rfl rfl rfl ?_
      refine Go.iconst (pc' := 317) at_316 rfl (z := (2 : Int32)) (by decide) ?_
      refine Go.iaload (pc' := 318) at_317 rfl (i := 2) (v := (.int sk2_2)) A_aek (by decide) rfl ?_
      refine Go.icmpF (pc' := 321) (X := kk2.toInt) (Y := sk2_2.toInt) at_318 rfl rfl rfl (congrArg _ j4 : kk2.toInt = sk2_2.toInt) ?_
      refine Go.aload (pc' := 323) at_321 rfl rfl rfl ?_
      refine Go.iconst (pc' := 324) at_323 rfl (z := (0 : Int32)) (by decide) ?_
      refine Go.baloadZ (pc' := 325) at_324 rfl (i := 0) (v := (.int kl0)) A_all (by decide) rfl ?_
      refine Go.aload (pc' := 327) at_325 rfl rfl rfl ?_
      refine Go.iconst (pc' := 328) at_327 rfl (z := (0 : Int32)) (by decide) ?_
      refine Go.baloadZ (pc' := 329) at_328 rfl (i := 0) (v := (.int sl2_0)) A_ael (by decide) rfl ?_
      refine Go.icmpF (pc' := 332) (X := kl0.toInt) (Y := sl2_0.toInt) at_329 rfl rfl rfl (congrArg _ j5 : kl0.toInt = sl2_0.toInt) ?_
      refine Go.aload (pc' := 334) at_332 rfl rfl rfl ?_
      refine Go.iconst (pc' := 335) at_334 rfl (z := (1 : Int32)) (by decide) ?_
      refine Go.baloadZ (pc' := 336) at_335 rfl (i := 1) (v := (.int kl1)) A_all (by decide) rfl ?_
      refine Go.aload (pc' := 338) at_336 rfl rfl rfl ?_
      refine Go.iconst (pc' := 339) at_338 rfl (z := (1 : Int32)) (by decide) ?_
      refine Go.baloadZ (pc' := 340) at_339 rfl (i := 1) (v := (.int sl2_1)) A_ael (by decide) rfl ?_
      refine Go.icmpF (pc' := 343) (X := kl1.toInt) (Y := sl2_1.toInt) at_340 rfl rfl rfl (congrArg _ j6 : kl1.toInt = sl2_1.toInt) ?_
      refine Go.aload (pc' := 345) at_343 rfl rfl rfl ?_
      refine Go.iconst (pc' := 346) at_345 rfl (z := (2 : Int32)) (by decide) ?_
      refine Go.baloadZ (pc' := 347) at_346 rfl (i := 2) (v := (.int kl2)) A_all (by decide) rfl ?_
      refine Go.aload (pc' := 349) at_347 rfl rfl rfl ?_
      refine Go.iconst (pc' := 350) at_349 rfl (z := (2 : Int32)) (by decide) ?_
      refine Go.baloadZ (pc' := 351) at_350 rfl (i := 2) (v := (.int sl2_2)) A_ael (by decide) rfl ?_
      refine Go.icmpF (pc' := 354) (X := kl2.toInt) (Y := sl2_2.toInt) at_351 rfl rfl rfl (congrArg _ j7 : kl2.toInt = sl2_2.toInt) ?_
      refine Go.aload (pc' := 356) at_354 rfl rfl rfl ?_
      refine Go.iload (pc' := 358) at_356 rfl rfl ?_
      refine Go.laload (pc' := 359) at_358 rfl (i := 0) (v := (.long kr)) A_lf (by decide) rfl ?_
      refine Go.lload (pc' := 361) at_359 rfl rfl ?_
      refine Go.lcmpF (pc' := 365) (X := kr.toInt) (Y := sr2.toInt) at_361 at_362 rfl rfl rfl rfl (congrArg _ j0 : kr.toInt = sr2.toInt) ?_
      refine Go.aload (pc' := 367) at_365 rfl rfl rfl ?_
      refine Go.iload (pc' := 369) at_367 rfl rfl ?_
      refine Go.laload (pc' := 370) at_369 rfl (i := 1) (v := (.long r0)) A_lf (by decide) rfl ?_
      refine Go.aload (pc' := 372) at_370 rfl rfl rfl ?_
      refine Go.iconst (pc' := 373) at_372 rfl (z := (0 : Int32)) (by decide) ?_
      refine Go.laload (pc' := 374) at_373 rfl (i := 0) (v := (.long r0)) A_arr (by decide) rfl ?_
      refine Go.lcmpF (pc' := 378) (X := r0.toInt) (Y := r0.toInt) at_374 at_375 rfl rfl rfl rfl (rfl : r0.toInt = r0.toInt) ?_
      refine Go.iconst (pc' := 379) at_378 rfl (z := (1 : Int32)) (by decide) ?_
      refine Go.goto (pc' := 383) at_379 (by decide) ?_
      refine Go.retZ at_383 rfl (by decide) (by decide) (by decide) ?_
      exact ⟨rfl, N0⟩
    · subst hs9
      refine Go.iconst (pc' := 102) at_101 rfl (z := (1 : Int32)) (by decide) ?_
      refine Go.iload (pc' := 104) at_102 rfl rfl ?_
      refine Go.isub (pc' := 105) at_104 rfl (z := (0 : Int32)) (by decide) ?_
      refine Go.istore (pc' := 107) at_105 rfl (Ls' := #[.val (.long cap), .second, .val (.long ra), .second, .val (.long rb), .second, .val (.long rc), .second, .val (.int pp), .val (.int qq), .val (.ref arr), .val (.ref app), .val (.int lo), .val (.int hi), .val (.int (1 : Int32)), .val (.int (0 : Int32)), .unset, .unset, .unset, .unset, .unset, .unset, .unset, .unset, .unset, .unset]) rfl ?_
      refine Go.newO (pc' := 110) (k' := 3) (n' := 9) at_107 rfl (hw _ w3) (hw _ w4) (hw _ w5) (by decide) (by decide) rfl rfl ?_
      intro h29 obj ha_obj X29 E_obj D29
      have ne_app_obj : app ≠ obj := Nat.ne_of_lt (by rw [ha_obj]; exact A_app.lt)
      have ne_arr_obj : arr ≠ obj := Nat.ne_of_lt (by rw [ha_obj]; exact A_arr.lt)
      have gn_obj : n0 ≤ obj := by rw [ha_obj]; exact sz0
      replace sz0 : n0 ≤ h29.size := Nat.le_trans sz0 X29.1
      replace A_arr := A_arr.ext X29
      replace A_app := A_app.ext X29
      have F_obj_rates : Fld Z h29 obj "com/example/even_keel/evenkeel/plan/Rooms$InUnits" "rates" "[J" .null := D29 (Or.inr (hw _ w18)) (ty := (.array .long)) (by decide)
      have F_obj_capacity : Fld Z h29 obj "com/example/even_keel/evenkeel/plan/Rooms$InUnits" "capacity" "J" (.long (0 : Int64)) := D29 (Or.inr (hw _ w20)) (ty := .long) (by decide)
      have F_obj_left : Fld Z h29 obj "com/example/even_keel/evenkeel/plan/Rooms$InUnits" "left" "[J" .null := D29 (Or.inr (hw _ w22)) (ty := (.array .long)) (by decide)
      refine Go.dup (pc' := 111) at_110 rfl rfl ?_
      refine Go.iconst (pc' := 112) at_111 rfl (z := (2 : Int32)) (by decide) ?_
      refine Go.aload (pc' := 114) at_112 rfl rfl rfl ?_
      refine Go.lloadN (pc' := 115) at_114 rfl rfl ?_
      refine Go.callI (pc' := 118) (W := 1) (a := obj) (argsL := [(.int (2 : Int32)), (.ref arr), (.long cap)]) (rest := [(.ref obj)]) (k' := 4) (n' := 11) at_115 rfl rfl (hw _ w6) (hw _ w7) (hw _ w5) (hw _ w8) (by decide) (c_init hw sz0 obj arr cap gn_obj E_obj F_obj_rates F_obj_capacity F_obj_left) (by decide) (by decide) (by decide) (by decide) rfl rfl rfl pd__28I_5bJJ_29V rfl rfl (Nat.le_of_eq rfl) ?_
      intro v30 h30 P30 L30 NL30 hq30
      obtain ⟨lf, rfl, ge_lf, N30, K30, E_obj_30, F_obj_rates_30, F_obj_capacity_30, F_obj_left_30, A_lf_30⟩ := hq30
      dsimp only [Option.toList, List.cons_append, List.nil_append]
      have ne_app_lf : app ≠ lf := Nat.ne_of_lt (Nat.lt_of_lt_of_le A_app.lt ge_lf)
      have ne_arr_lf : arr ≠ lf := Nat.ne_of_lt (Nat.lt_of_lt_of_le A_arr.lt ge_lf)
      have ne_obj_lf : obj ≠ lf := Nat.ne_of_lt (Nat.lt_of_lt_of_le E_obj.lt ge_lf)
      have gn_lf : n0 ≤ lf := Nat.le_trans sz0 ge_lf
      replace N0 := NL30 _ N0 N30
      replace sz0 : n0 ≤ h30.size := Nat.le_trans sz0 K30.1
      clear E_obj
      clear F_obj_rates
      clear F_obj_capacity
      clear F_obj_left
      replace A_arr := A_arr.keep K30 (ninS ne_arr_obj nin0)
      replace A_app := A_app.keep K30 (ninS ne_app_obj nin0)
      have E_obj := E_obj_30; clear E_obj_30
      have F_obj_rates := F_obj_rates_30; clear F_obj_rates_30
      have F_obj_capacity := F_obj_capacity_30; clear F_obj_capacity_30
      have F_obj_left := F_obj_left_30; clear F_obj_left_30
      have A_lf := A_lf_30; clear A_lf_30
      refine Go.astore (pc' := 120) at_118 rfl rfl (Ls' := #[.val (.long cap), .second, .val (.long ra), .second, .val (.long rb), .second, .val (.long rc), .second, .val (.int pp), .val (.int qq), .val (.ref arr), .val (.ref app), .val (.int lo), .val (.int hi), .val (.int (1 : Int32)), .val (.int (0 : Int32)), .val (.ref obj), .unset, .unset, .unset, .unset, .unset, .unset, .unset, .unset, .unset]) rfl ?_
      refine Go.aload (pc' := 122) at_120 rfl rfl rfl ?_
      refine Go.iload (pc' := 124) at_122 rfl rfl ?_
      refine Go.callV (pc' := 127) (W := 0) (a := obj) (argsL := [(.int (1 : Int32))]) (rest := []) (k' := 4) (n' := 11) at_124 rfl (hw _ w23) (hw _ w24) (nf_sel (hw _ w26)) (hw _ w26) (hw _ w25) (hw _ w5) (hw _ w27) E_obj (by decide) (c_empty1 hw sz0 obj arr lf cap (0 : Int64) (0 : Int64) gn_lf E_obj F_obj_rates F_obj_capacity F_obj_left A_lf) (by decide) (by decide) (by decide) (by decide) rfl rfl rfl pd__28I_29V rfl rfl (Nat.le_of_eq rfl) ?_
      intro v31 h31 P31 L31 NL31 hq31
      obtain ⟨rfl, N31, K31, A_lf_31⟩ := hq31
      dsimp only [Option.toList, List.cons_append, List.nil_append]
      replace N0 := NL31 _ N0 N31
      replace sz0 : n0 ≤ h31.size := Nat.le_trans sz0 K31.1
      replace E_obj := E_obj.keep K31
      replace F_obj_rates := F_obj_rates.keep K31 (ninS ne_obj_lf nin0)
      replace F_obj_capacity := F_obj_capacity.keep K31 (ninS ne_obj_lf nin0)
      replace F_obj_left := F_obj_left.keep K31 (ninS ne_obj_lf nin0)
      replace A_arr := A_arr.keep K31 (ninS ne_arr_lf nin0)
      replace A_app := A_app.keep K31 (ninS ne_app_lf nin0)
      clear A_lf
      have A_lf := A_lf_31; clear A_lf_31
      refine Go.aload (pc' := 129) at_127 rfl rfl rfl ?_
      refine Go.iload (pc' := 131) at_129 rfl rfl ?_
      refine Go.iconst (pc' := 132) at_131 rfl (z := (0 : Int32)) (by decide) ?_
      refine Go.callV (pc' := 135) (W := 0) (a := obj) (argsL := [(.int (0 : Int32)), (.int (0 : Int32))]) (rest := []) (k' := 4) (n' := 11) at_132 rfl (hw _ w28) (hw _ w29) (nf_sel (hw _ w31)) (hw _ w31) (hw _ w30) (hw _ w5) (hw _ w32) E_obj (by decide) (c_setr0 hw sz0 obj arr lf cap (0 : Int64) cap r0 r1 r2 gn_lf ne_arr_lf E_obj F_obj_rates F_obj_capacity F_obj_left A_lf A_arr) (by decide) (by decide) (by decide) (by decide) rfl rfl rfl pd__28II_29V rfl rfl (Nat.le_of_eq rfl) ?_
      intro v32 h32 P32 L32 NL32 hq32
      obtain ⟨rfl, N32, K32, A_lf_32⟩ := hq32
      dsimp only [Option.toList, List.cons_append, List.nil_append]
      replace N0 := NL32 _ N0 N32
      replace sz0 : n0 ≤ h32.size := Nat.le_trans sz0 K32.1
      replace E_obj := E_obj.keep K32
      replace F_obj_rates := F_obj_rates.keep K32 (ninS ne_obj_lf nin0)
      replace F_obj_capacity := F_obj_capacity.keep K32 (ninS ne_obj_lf nin0)
      replace F_obj_left := F_obj_left.keep K32 (ninS ne_obj_lf nin0)
      replace A_arr := A_arr.keep K32 (ninS ne_arr_lf nin0)
      replace A_app := A_app.keep K32 (ninS ne_app_lf nin0)
      clear A_lf
      have A_lf := A_lf_32; clear A_lf_32
      refine Go.iconst (pc' := 136) at_135 rfl (z := (3 : Int32)) (by decide) ?_
      refine Go.new_int (pc' := 138) (k' := 5) (n' := 14) (N := 3) (vs := [(.int (0 : Int32)), (.int (0 : Int32)), (.int (0 : Int32))]) at_136 rfl (hw _ w2) (by decide) rfl 3 (Nat.le_refl _) (by decide) (by decide) (by decide) rfl rfl ?_
      intro h33 akk ha_akk X33 A_akk
      have ne_app_akk : app ≠ akk := Nat.ne_of_lt (by rw [ha_akk]; exact A_app.lt)
      have ne_arr_akk : arr ≠ akk := Nat.ne_of_lt (by rw [ha_akk]; exact A_arr.lt)
      have ne_lf_akk : lf ≠ akk := Nat.ne_of_lt (by rw [ha_akk]; exact A_lf.lt)
      have ne_obj_akk : obj ≠ akk := Nat.ne_of_lt (by rw [ha_akk]; exact E_obj.lt)
      have gn_akk : n0 ≤ akk := by rw [ha_akk]; exact sz0
      replace sz0 : n0 ≤ h33.size := Nat.le_trans sz0 X33.1
      replace E_obj := E_obj.ext X33
      replace F_obj_rates := F_obj_rates.ext X33
      replace F_obj_capacity := F_obj_capacity.ext X33
      replace F_obj_left := F_obj_left.ext X33
      replace A_arr := A_arr.ext X33
      replace A_app := A_app.ext X33
      replace A_lf := A_lf.ext X33
      refine Go.dup (pc' := 139) at_138 rfl rfl ?_
      refine Go.iconst (pc' := 140) at_139 rfl (z := (0 : Int32)) (by decide) ?_
      refine Go.iconst (pc' := 141) at_140 rfl (z := (-1 : Int32)) (by decide) ?_
      refine Go.iastore (pc' := 142) (i := 0) (v := (.int (-1 : Int32))) (vs' := [(.int (-1 : Int32)), (.int (0 : Int32)), (.int (0 : Int32))]) at_141 rfl A_akk (by decide) (Nat.le_of_ble_eq_true rfl) rfl rfl ?_
      intro h34 L34 NL34 W34 B34
      replace N0 := NL34 _ N0 gn_akk
      replace sz0 : n0 ≤ h34.size := by rw [W34.size]; exact sz0
      replace E_obj := E_obj.wr W34
      replace F_obj_rates := F_obj_rates.other W34 (Or.inl ne_obj_akk)
      replace F_obj_capacity := F_obj_capacity.other W34 (Or.inl ne_obj_akk)
      replace F_obj_left := F_obj_left.other W34 (Or.inl ne_obj_akk)
      replace A_arr := A_arr.other W34 ne_arr_akk
      replace A_app := A_app.other W34 ne_app_akk
      replace A_lf := A_lf.other W34 ne_lf_akk
      clear A_akk; have A_akk := B34
      refine Go.dup (pc' := 143) at_142 rfl rfl ?_
      refine Go.iconst (pc' := 144) at_143 rfl (z := (1 : Int32)) (by decide) ?_
      refine Go.iconst (pc' := 145) at_144 rfl (z := (-1 : Int32)) (by decide) ?_
      refine Go.iastore (pc' := 146) (i := 1) (v := (.int (-1 : Int32))) (vs' := [(.int (-1 : Int32)), (.int (-1 : Int32)), (.int (0 : Int32))]) at_145 rfl A_akk (by decide) (Nat.le_of_ble_eq_true rfl) rfl rfl ?_
      intro h35 L35 NL35 W35 B35
      replace N0 := NL35 _ N0 gn_akk
      replace sz0 : n0 ≤ h35.size := by rw [W35.size]; exact sz0
      replace E_obj := E_obj.wr W35
      replace F_obj_rates := F_obj_rates.other W35 (Or.inl ne_obj_akk)
      replace F_obj_capacity := F_obj_capacity.other W35 (Or.inl ne_obj_akk)
      replace F_obj_left := F_obj_left.other W35 (Or.inl ne_obj_akk)
      replace A_arr := A_arr.other W35 ne_arr_akk
      replace A_app := A_app.other W35 ne_app_akk
      replace A_lf := A_lf.other W35 ne_lf_akk
      clear A_akk; have A_akk := B35
      refine Go.dup (pc' := 147) at_146 rfl rfl ?_
      refine Go.iconst (pc' := 148) at_147 rfl (z := (2 : Int32)) (by decide) ?_
      refine Go.iconst (pc' := 149) at_148 rfl (z := (-1 : Int32)) (by decide) ?_
      refine Go.iastore (pc' := 150) (i := 2) (v := (.int (-1 : Int32))) (vs' := [(.int (-1 : Int32)), (.int (-1 : Int32)), (.int (-1 : Int32))]) at_149 rfl A_akk (by decide) (Nat.le_of_ble_eq_true rfl) rfl rfl ?_
      intro h36 L36 NL36 W36 B36
      replace N0 := NL36 _ N0 gn_akk
      replace sz0 : n0 ≤ h36.size := by rw [W36.size]; exact sz0
      replace E_obj := E_obj.wr W36
      replace F_obj_rates := F_obj_rates.other W36 (Or.inl ne_obj_akk)
      replace F_obj_capacity := F_obj_capacity.other W36 (Or.inl ne_obj_akk)
      replace F_obj_left := F_obj_left.other W36 (Or.inl ne_obj_akk)
      replace A_arr := A_arr.other W36 ne_arr_akk
      replace A_app := A_app.other W36 ne_app_akk
      replace A_lf := A_lf.other W36 ne_lf_akk
      clear A_akk; have A_akk := B36
      refine Go.astore (pc' := 152) at_150 rfl rfl (Ls' := #[.val (.long cap), .second, .val (.long ra), .second, .val (.long rb), .second, .val (.long rc), .second, .val (.int pp), .val (.int qq), .val (.ref arr), .val (.ref app), .val (.int lo), .val (.int hi), .val (.int (1 : Int32)), .val (.int (0 : Int32)), .val (.ref obj), .val (.ref akk), .unset, .unset, .unset, .unset, .unset, .unset, .unset, .unset]) rfl ?_
      refine Go.iconst (pc' := 153) at_152 rfl (z := (3 : Int32)) (by decide) ?_
      refine Go.new_boolean (pc' := 155) (k' := 6) (n' := 17) (N := 3) (vs := [(.int (0 : Int32)), (.int (0 : Int32)), (.int (0 : Int32))]) at_153 rfl (hw _ w33) (by decide) rfl 3 (Nat.le_refl _) (by decide) (by decide) (by decide) rfl rfl ?_
      intro h37 all ha_all X37 A_all
      have ne_akk_all : akk ≠ all := Nat.ne_of_lt (by rw [ha_all]; exact A_akk.lt)
      have ne_app_all : app ≠ all := Nat.ne_of_lt (by rw [ha_all]; exact A_app.lt)
      have ne_arr_all : arr ≠ all := Nat.ne_of_lt (by rw [ha_all]; exact A_arr.lt)
      have ne_lf_all : lf ≠ all := Nat.ne_of_lt (by rw [ha_all]; exact A_lf.lt)
      have ne_obj_all : obj ≠ all := Nat.ne_of_lt (by rw [ha_all]; exact E_obj.lt)
      have gn_all : n0 ≤ all := by rw [ha_all]; exact sz0
      replace sz0 : n0 ≤ h37.size := Nat.le_trans sz0 X37.1
      replace E_obj := E_obj.ext X37
      replace F_obj_rates := F_obj_rates.ext X37
      replace F_obj_capacity := F_obj_capacity.ext X37
      replace F_obj_left := F_obj_left.ext X37
      replace A_arr := A_arr.ext X37
      replace A_app := A_app.ext X37
      replace A_lf := A_lf.ext X37
      replace A_akk := A_akk.ext X37
      refine Go.astore (pc' := 157) at_155 rfl rfl (Ls' := #[.val (.long cap), .second, .val (.long ra), .second, .val (.long rb), .second, .val (.long rc), .second, .val (.int pp), .val (.int qq), .val (.ref arr), .val (.ref app), .val (.int lo), .val (.int hi), .val (.int (1 : Int32)), .val (.int (0 : Int32)), .val (.ref obj), .val (.ref akk), .val (.ref all), .unset, .unset, .unset, .unset, .unset, .unset, .unset]) rfl ?_
      refine Go.aload (pc' := 159) at_157 rfl rfl rfl ?_
      refine Go.iload (pc' := 161) at_159 rfl rfl ?_
      refine Go.aload (pc' := 163) at_161 rfl rfl rfl ?_
      refine Go.iload (pc' := 165) at_163 rfl rfl ?_
      refine Go.iload (pc' := 167) at_165 rfl rfl ?_
      refine Go.aload (pc' := 169) at_167 rfl rfl rfl ?_
      refine Go.aload (pc' := 171) at_169 rfl rfl rfl ?_
      refine Go.callV (pc' := 174) (W := 0) (a := obj) (argsL := [(.int (1 : Int32)), (.ref app), (.int lo), (.int hi), (.ref akk), (.ref all)]) (rest := []) (k' := 6) (n' := 17) at_171 rfl (hw _ w34) (hw _ w35) (nf_sel (hw _ w37)) (hw _ w37) (hw _ w36) (hw _ w5) (hw _ w38) E_obj (by decide) (c_keep1 hw sz0 obj app arr akk all lf lo hi p0 p1 p2 (-1 : Int32) (-1 : Int32) (-1 : Int32) (0 : Int32) (0 : Int32) (0 : Int32) cap r0 cap r0 r1 r2  N hN hN3 hlo hlh _ (Ne.symm ne_arr_app) ne_app_akk ne_app_all ne_app_lf ne_arr_akk ne_arr_all ne_arr_lf ne_akk_all (Ne.symm ne_lf_akk) (Ne.symm ne_lf_all) gn_akk gn_all gn_lf E_obj F_obj_rates F_obj_capacity F_obj_left A_app A_arr A_akk A_all A_lf g0 g1 g2 rfl) (by decide) (by decide) (by decide) (by decide) rfl rfl rfl pd__28I_5bIII_5bI_5bZ_29I rfl rfl (Nat.le_of_eq rfl) ?_
      intro v38 h38 P38 L38 NL38 hq38
      obtain ⟨kr, kc, kk0, kk1, kk2, kl0, kl1, kl2, rfl, N38, K38, A_akk_38, A_all_38, A_lf_38, hK⟩ := hq38
      dsimp only [Option.toList, List.cons_append, List.nil_append]
      replace N0 := NL38 _ N0 N38
      replace sz0 : n0 ≤ h38.size := Nat.le_trans sz0 K38.1
      replace E_obj := E_obj.keep K38
      replace F_obj_rates := F_obj_rates.keep K38 (ninS ne_obj_akk (ninS ne_obj_all (ninS ne_obj_lf nin0)))
      replace F_obj_capacity := F_obj_capacity.keep K38 (ninS ne_obj_akk (ninS ne_obj_all (ninS ne_obj_lf nin0)))
      replace F_obj_left := F_obj_left.keep K38 (ninS ne_obj_akk (ninS ne_obj_all (ninS ne_obj_lf nin0)))
      replace A_arr := A_arr.keep K38 (ninS ne_arr_akk (ninS ne_arr_all (ninS ne_arr_lf nin0)))
      replace A_app := A_app.keep K38 (ninS ne_app_akk (ninS ne_app_all (ninS ne_app_lf nin0)))
      clear A_lf
      clear A_akk
      clear A_all
      have A_akk := A_akk_38; clear A_akk_38
      have A_all := A_all_38; clear A_all_38
      have A_lf := A_lf_38; clear A_lf_38
      refine Go.istore (pc' := 176) at_174 rfl (Ls' := #[.val (.long cap), .second, .val (.long ra), .second, .val (.long rb), .second, .val (.long rc), .second, .val (.int pp), .val (.int qq), .val (.ref arr), .val (.ref app), .val (.int lo), .val (.int hi), .val (.int (1 : Int32)), .val (.int (0 : Int32)), .val (.ref obj), .val (.ref akk), .val (.ref all), .val (.int kc), .unset, .unset, .unset, .unset, .unset, .unset]) rfl ?_
      refine Go.iconst (pc' := 177) at_176 rfl (z := (3 : Int32)) (by decide) ?_
      refine Go.new_int (pc' := 179) (k' := 7) (n' := 20) (N := 3) (vs := [(.int (0 : Int32)), (.int (0 : Int32)), (.int (0 : Int32))]) at_177 rfl (hw _ w2) (by decide) rfl 3 (Nat.le_refl _) (by decide) (by decide) (by decide) rfl rfl ?_
      intro h39 aek ha_aek X39 A_aek
      have ne_akk_aek : akk ≠ aek := Nat.ne_of_lt (by rw [ha_aek]; exact A_akk.lt)
      have ne_all_aek : all ≠ aek := Nat.ne_of_lt (by rw [ha_aek]; exact A_all.lt)
      have ne_app_aek : app ≠ aek := Nat.ne_of_lt (by rw [ha_aek]; exact A_app.lt)
      have ne_arr_aek : arr ≠ aek := Nat.ne_of_lt (by rw [ha_aek]; exact A_arr.lt)
      have ne_lf_aek : lf ≠ aek := Nat.ne_of_lt (by rw [ha_aek]; exact A_lf.lt)
      have ne_obj_aek : obj ≠ aek := Nat.ne_of_lt (by rw [ha_aek]; exact E_obj.lt)
      have gn_aek : n0 ≤ aek := by rw [ha_aek]; exact sz0
      replace sz0 : n0 ≤ h39.size := Nat.le_trans sz0 X39.1
      replace E_obj := E_obj.ext X39
      replace F_obj_rates := F_obj_rates.ext X39
      replace F_obj_capacity := F_obj_capacity.ext X39
      replace F_obj_left := F_obj_left.ext X39
      replace A_arr := A_arr.ext X39
      replace A_app := A_app.ext X39
      replace A_lf := A_lf.ext X39
      replace A_akk := A_akk.ext X39
      replace A_all := A_all.ext X39
      refine Go.dup (pc' := 180) at_179 rfl rfl ?_
      refine Go.iconst (pc' := 181) at_180 rfl (z := (0 : Int32)) (by decide) ?_
      refine Go.iconst (pc' := 182) at_181 rfl (z := (-1 : Int32)) (by decide) ?_
      refine Go.iastore (pc' := 183) (i := 0) (v := (.int (-1 : Int32))) (vs' := [(.int (-1 : Int32)), (.int (0 : Int32)), (.int (0 : Int32))]) at_182 rfl A_aek (by decide) (Nat.le_of_ble_eq_true rfl) rfl rfl ?_
      intro h40 L40 NL40 W40 B40
      replace N0 := NL40 _ N0 gn_aek
      replace sz0 : n0 ≤ h40.size := by rw [W40.size]; exact sz0
      replace E_obj := E_obj.wr W40
      replace F_obj_rates := F_obj_rates.other W40 (Or.inl ne_obj_aek)
      replace F_obj_capacity := F_obj_capacity.other W40 (Or.inl ne_obj_aek)
      replace F_obj_left := F_obj_left.other W40 (Or.inl ne_obj_aek)
      replace A_arr := A_arr.other W40 ne_arr_aek
      replace A_app := A_app.other W40 ne_app_aek
      replace A_lf := A_lf.other W40 ne_lf_aek
      replace A_akk := A_akk.other W40 ne_akk_aek
      replace A_all := A_all.other W40 ne_all_aek
      clear A_aek; have A_aek := B40
      refine Go.dup (pc' := 184) at_183 rfl rfl ?_
      refine Go.iconst (pc' := 185) at_184 rfl (z := (1 : Int32)) (by decide) ?_
      refine Go.iconst (pc' := 186) at_185 rfl (z := (-1 : Int32)) (by decide) ?_
      refine Go.iastore (pc' := 187) (i := 1) (v := (.int (-1 : Int32))) (vs' := [(.int (-1 : Int32)), (.int (-1 : Int32)), (.int (0 : Int32))]) at_186 rfl A_aek (by decide) (Nat.le_of_ble_eq_true rfl) rfl rfl ?_
      intro h41 L41 NL41 W41 B41
      replace N0 := NL41 _ N0 gn_aek
      replace sz0 : n0 ≤ h41.size := by rw [W41.size]; exact sz0
      replace E_obj := E_obj.wr W41
      replace F_obj_rates := F_obj_rates.other W41 (Or.inl ne_obj_aek)
      replace F_obj_capacity := F_obj_capacity.other W41 (Or.inl ne_obj_aek)
      replace F_obj_left := F_obj_left.other W41 (Or.inl ne_obj_aek)
      replace A_arr := A_arr.other W41 ne_arr_aek
      replace A_app := A_app.other W41 ne_app_aek
      replace A_lf := A_lf.other W41 ne_lf_aek
      replace A_akk := A_akk.other W41 ne_akk_aek
      replace A_all := A_all.other W41 ne_all_aek
      clear A_aek; have A_aek := B41
      refine Go.dup (pc' := 188) at_187 rfl rfl ?_
      refine Go.iconst (pc' := 189) at_188 rfl (z := (2 : Int32)) (by decide) ?_
      refine Go.iconst (pc' := 190) at_189 rfl (z := (-1 : Int32)) (by decide) ?_
      refine Go.iastore (pc' := 191) (i := 2) (v := (.int (-1 : Int32))) (vs' := [(.int (-1 : Int32)), (.int (-1 : Int32)), (.int (-1 : Int32))]) at_190 rfl A_aek (by decide) (Nat.le_of_ble_eq_true rfl) rfl rfl ?_
      intro h42 L42 NL42 W42 B42
      replace N0 := NL42 _ N0 gn_aek
      replace sz0 : n0 ≤ h42.size := by rw [W42.size]; exact sz0
      replace E_obj := E_obj.wr W42
      replace F_obj_rates := F_obj_rates.other W42 (Or.inl ne_obj_aek)
      replace F_obj_capacity := F_obj_capacity.other W42 (Or.inl ne_obj_aek)
      replace F_obj_left := F_obj_left.other W42 (Or.inl ne_obj_aek)
      replace A_arr := A_arr.other W42 ne_arr_aek
      replace A_app := A_app.other W42 ne_app_aek
      replace A_lf := A_lf.other W42 ne_lf_aek
      replace A_akk := A_akk.other W42 ne_akk_aek
      replace A_all := A_all.other W42 ne_all_aek
      clear A_aek; have A_aek := B42
      refine Go.astore (pc' := 193) at_191 rfl rfl (Ls' := #[.val (.long cap), .second, .val (.long ra), .second, .val (.long rb), .second, .val (.long rc), .second, .val (.int pp), .val (.int qq), .val (.ref arr), .val (.ref app), .val (.int lo), .val (.int hi), .val (.int (1 : Int32)), .val (.int (0 : Int32)), .val (.ref obj), .val (.ref akk), .val (.ref all), .val (.int kc), .val (.ref aek), .unset, .unset, .unset, .unset, .unset]) rfl ?_
      refine Go.iconst (pc' := 194) at_193 rfl (z := (1 : Int32)) (by decide) ?_
      refine Go.new_int (pc' := 196) (k' := 8) (n' := 21) (N := 1) (vs := [(.int (0 : Int32))]) at_194 rfl (hw _ w2) (by decide) rfl 1 (Nat.le_refl _) (by decide) (by decide) (by decide) rfl rfl ?_
      intro h43 ann ha_ann X43 A_ann
      have ne_aek_ann : aek ≠ ann := Nat.ne_of_lt (by rw [ha_ann]; exact A_aek.lt)
      have ne_akk_ann : akk ≠ ann := Nat.ne_of_lt (by rw [ha_ann]; exact A_akk.lt)
      have ne_all_ann : all ≠ ann := Nat.ne_of_lt (by rw [ha_ann]; exact A_all.lt)
      have ne_app_ann : app ≠ ann := Nat.ne_of_lt (by rw [ha_ann]; exact A_app.lt)
      have ne_arr_ann : arr ≠ ann := Nat.ne_of_lt (by rw [ha_ann]; exact A_arr.lt)
      have ne_lf_ann : lf ≠ ann := Nat.ne_of_lt (by rw [ha_ann]; exact A_lf.lt)
      have ne_obj_ann : obj ≠ ann := Nat.ne_of_lt (by rw [ha_ann]; exact E_obj.lt)
      have gn_ann : n0 ≤ ann := by rw [ha_ann]; exact sz0
      replace sz0 : n0 ≤ h43.size := Nat.le_trans sz0 X43.1
      replace E_obj := E_obj.ext X43
      replace F_obj_rates := F_obj_rates.ext X43
      replace F_obj_capacity := F_obj_capacity.ext X43
      replace F_obj_left := F_obj_left.ext X43
      replace A_arr := A_arr.ext X43
      replace A_app := A_app.ext X43
      replace A_lf := A_lf.ext X43
      replace A_akk := A_akk.ext X43
      replace A_all := A_all.ext X43
      replace A_aek := A_aek.ext X43
      refine Go.astore (pc' := 198) at_196 rfl rfl (Ls' := #[.val (.long cap), .second, .val (.long ra), .second, .val (.long rb), .second, .val (.long rc), .second, .val (.int pp), .val (.int qq), .val (.ref arr), .val (.ref app), .val (.int lo), .val (.int hi), .val (.int (1 : Int32)), .val (.int (0 : Int32)), .val (.ref obj), .val (.ref akk), .val (.ref all), .val (.int kc), .val (.ref aek), .val (.ref ann), .unset, .unset, .unset, .unset]) rfl ?_
      refine Go.iconst (pc' := 199) at_198 rfl (z := (3 : Int32)) (by decide) ?_
      refine Go.new_boolean (pc' := 201) (k' := 9) (n' := 24) (N := 3) (vs := [(.int (0 : Int32)), (.int (0 : Int32)), (.int (0 : Int32))]) at_199 rfl (hw _ w33) (by decide) rfl 3 (Nat.le_refl _) (by decide) (by decide) (by decide) rfl rfl ?_
      intro h44 ael ha_ael X44 A_ael
      have ne_aek_ael : aek ≠ ael := Nat.ne_of_lt (by rw [ha_ael]; exact A_aek.lt)
      have ne_akk_ael : akk ≠ ael := Nat.ne_of_lt (by rw [ha_ael]; exact A_akk.lt)
      have ne_all_ael : all ≠ ael := Nat.ne_of_lt (by rw [ha_ael]; exact A_all.lt)
      have ne_ann_ael : ann ≠ ael := Nat.ne_of_lt (by rw [ha_ael]; exact A_ann.lt)
      have ne_app_ael : app ≠ ael := Nat.ne_of_lt (by rw [ha_ael]; exact A_app.lt)
      have ne_arr_ael : arr ≠ ael := Nat.ne_of_lt (by rw [ha_ael]; exact A_arr.lt)
      have ne_lf_ael : lf ≠ ael := Nat.ne_of_lt (by rw [ha_ael]; exact A_lf.lt)
      have ne_obj_ael : obj ≠ ael := Nat.ne_of_lt (by rw [ha_ael]; exact E_obj.lt)
      have gn_ael : n0 ≤ ael := by rw [ha_ael]; exact sz0
      replace sz0 : n0 ≤ h44.size := Nat.le_trans sz0 X44.1
      replace E_obj := E_obj.ext X44
      replace F_obj_rates := F_obj_rates.ext X44
      replace F_obj_capacity := F_obj_capacity.ext X44
      replace F_obj_left := F_obj_left.ext X44
      replace A_arr := A_arr.ext X44
      replace A_app := A_app.ext X44
      replace A_lf := A_lf.ext X44
      replace A_akk := A_akk.ext X44
      replace A_all := A_all.ext X44
      replace A_aek := A_aek.ext X44
      replace A_ann := A_ann.ext X44
      refine Go.astore (pc' := 203) at_201 rfl rfl (Ls' := #[.val (.long cap), .second, .val (.long ra), .second, .val (.long rb), .second, .val (.long rc), .second, .val (.int pp), .val (.int qq), .val (.ref arr), .val (.ref app), .val (.int lo), .val (.int hi), .val (.int (1 : Int32)), .val (.int (0 : Int32)), .val (.ref obj), .val (.ref akk), .val (.ref all), .val (.int kc), .val (.ref aek), .val (.ref ann), .val (.ref ael), .unset, .unset, .unset]) rfl ?_
      refine Go.lloadN (pc' := 204) at_203 rfl rfl ?_
      refine Go.lstore (pc' := 206) at_204 rfl (Ls' := #[.val (.long cap), .second, .val (.long ra), .second, .val (.long rb), .second, .val (.long rc), .second, .val (.int pp), .val (.int qq), .val (.ref arr), .val (.ref app), .val (.int lo), .val (.int hi), .val (.int (1 : Int32)), .val (.int (0 : Int32)), .val (.ref obj), .val (.ref akk), .val (.ref all), .val (.int kc), .val (.ref aek), .val (.ref ann), .val (.ref ael), .val (.long cap), .second, .unset]) rfl ?_
      refine Go.iconst (pc' := 207) at_206 rfl (z := (0 : Int32)) (by decide) ?_
      refine Go.iload (pc' := 209) at_207 rfl rfl ?_
      refine Go.iload (pc' := 211) at_209 rfl rfl ?_
      refine Go.aload (pc' := 213) at_211 rfl rfl rfl ?_
      refine Go.aload (pc' := 215) at_213 rfl rfl rfl ?_
      refine Go.lload (pc' := 217) at_215 rfl rfl ?_
      refine Go.aload (pc' := 219) at_217 rfl rfl rfl ?_
      refine Go.aload (pc' := 221) at_219 rfl rfl rfl ?_
      refine Go.aload (pc' := 223) at_221 rfl rfl rfl ?_
      refine Go.callS (pc' := 226) (W := 0) (argsL := [(.int (0 : Int32)), (.int lo), (.int hi), (.ref app), (.ref arr), (.long cap), (.ref aek), (.ref ann), (.ref ael)]) (rest := []) (k' := 9) (n' := 24) at_223 rfl (hw _ w39) (hw _ w40) (hw _ w41) (hw _ w42) (by decide) (c_step0 hw sz0 app arr aek ann ael lo hi cap (0 : Int32) (-1 : Int32) (-1 : Int32) (-1 : Int32) (0 : Int32) (0 : Int32) (0 : Int32) p0 p1 p2 r0 r1 r2 (Ne.symm ne_arr_app) ne_app_aek ne_app_ann ne_app_ael ne_arr_aek ne_arr_ann ne_arr_ael ne_aek_ann ne_aek_ael ne_ann_ael gn_aek gn_ann gn_ael A_app A_arr A_aek A_ann A_ael g0 g1 g2 ⟨by decide, by decide⟩) (by decide) (by decide) (by decide) (by decide) rfl rfl rfl pd__28III_5bI_5bJJ_5bI_5bI_5bZ_29J rfl rfl (Nat.le_of_eq rfl) ?_
      intro v45 h45 P45 L45 NL45 hq45
      obtain ⟨sr0, sc0, sk0_0, sk0_1, sk0_2, sl0_0, sl0_1, sl0_2, rfl, N45, K45, A_aek_45, A_ann_45, A_ael_45, hT0, hS0⟩ := hq45
      dsimp only [Option.toList, List.cons_append, List.nil_append]
      replace N0 := NL45 _ N0 N45
      replace sz0 : n0 ≤ h45.size := Nat.le_trans sz0 K45.1
      replace E_obj := E_obj.keep K45
      replace F_obj_rates := F_obj_rates.keep K45 (ninS ne_obj_aek (ninS ne_obj_ann (ninS ne_obj_ael nin0)))
      replace F_obj_capacity := F_obj_capacity.keep K45 (ninS ne_obj_aek (ninS ne_obj_ann (ninS ne_obj_ael nin0)))
      replace F_obj_left := F_obj_left.keep K45 (ninS ne_obj_aek (ninS ne_obj_ann (ninS ne_obj_ael nin0)))
      replace A_arr := A_arr.keep K45 (ninS ne_arr_aek (ninS ne_arr_ann (ninS ne_arr_ael nin0)))
      replace A_app := A_app.keep K45 (ninS ne_app_aek (ninS ne_app_ann (ninS ne_app_ael nin0)))
      replace A_lf := A_lf.keep K45 (ninS ne_lf_aek (ninS ne_lf_ann (ninS ne_lf_ael nin0)))
      replace A_akk := A_akk.keep K45 (ninS ne_akk_aek (ninS ne_akk_ann (ninS ne_akk_ael nin0)))
      replace A_all := A_all.keep K45 (ninS ne_all_aek (ninS ne_all_ann (ninS ne_all_ael nin0)))
      clear A_aek
      clear A_ann
      clear A_ael
      have A_aek := A_aek_45; clear A_aek_45
      have A_ann := A_ann_45; clear A_ann_45
      have A_ael := A_ael_45; clear A_ael_45
      refine Go.lstore (pc' := 228) at_226 rfl (Ls' := #[.val (.long cap), .second, .val (.long ra), .second, .val (.long rb), .second, .val (.long rc), .second, .val (.int pp), .val (.int qq), .val (.ref arr), .val (.ref app), .val (.int lo), .val (.int hi), .val (.int (1 : Int32)), .val (.int (0 : Int32)), .val (.ref obj), .val (.ref akk), .val (.ref all), .val (.int kc), .val (.ref aek), .val (.ref ann), .val (.ref ael), .val (.long sr0), .second, .unset]) rfl ?_
      refine Go.iconst (pc' := 229) at_228 rfl (z := (1 : Int32)) (by decide) ?_
      refine Go.iload (pc' := 231) at_229 rfl rfl ?_
      refine Go.iload (pc' := 233) at_231 rfl rfl ?_
      refine Go.aload (pc' := 235) at_233 rfl rfl rfl ?_
      refine Go.aload (pc' := 237) at_235 rfl rfl rfl ?_
      refine Go.lload (pc' := 239) at_237 rfl rfl ?_
      refine Go.aload (pc' := 241) at_239 rfl rfl rfl ?_
      refine Go.aload (pc' := 243) at_241 rfl rfl rfl ?_
      refine Go.aload (pc' := 245) at_243 rfl rfl rfl ?_
      refine Go.callS (pc' := 248) (W := 0) (argsL := [(.int (1 : Int32)), (.int lo), (.int hi), (.ref app), (.ref arr), (.long sr0), (.ref aek), (.ref ann), (.ref ael)]) (rest := []) (k' := 9) (n' := 24) at_245 rfl (hw _ w39) (hw _ w40) (hw _ w41) (hw _ w42) (by decide) (c_step1 hw sz0 app arr aek ann ael lo hi sr0 sc0 sk0_0 sk0_1 sk0_2 sl0_0 sl0_1 sl0_2 p0 p1 p2 r0 r1 r2 (Ne.symm ne_arr_app) ne_app_aek ne_app_ann ne_app_ael ne_arr_aek ne_arr_ann ne_arr_ael ne_aek_ann ne_aek_ael ne_ann_ael gn_aek gn_ann gn_ael A_app A_arr A_aek A_ann A_ael g0 g1 g2 hS0) (by decide) (by decide) (by decide) (by decide) rfl rfl rfl pd__28III_5bI_5bJJ_5bI_5bI_5bZ_29J rfl rfl (Nat.le_of_eq rfl) ?_
      intro v46 h46 P46 L46 NL46 hq46
      obtain ⟨sr1, sc1, sk1_0, sk1_1, sk1_2, sl1_0, sl1_1, sl1_2, rfl, N46, K46, A_aek_46, A_ann_46, A_ael_46, hT1, hS1⟩ := hq46
      dsimp only [Option.toList, List.cons_append, List.nil_append]
      replace N0 := NL46 _ N0 N46
      replace sz0 : n0 ≤ h46.size := Nat.le_trans sz0 K46.1
      replace E_obj := E_obj.keep K46
      replace F_obj_rates := F_obj_rates.keep K46 (ninS ne_obj_aek (ninS ne_obj_ann (ninS ne_obj_ael nin0)))
      replace F_obj_capacity := F_obj_capacity.keep K46 (ninS ne_obj_aek (ninS ne_obj_ann (ninS ne_obj_ael nin0)))
      replace F_obj_left := F_obj_left.keep K46 (ninS ne_obj_aek (ninS ne_obj_ann (ninS ne_obj_ael nin0)))
      replace A_arr := A_arr.keep K46 (ninS ne_arr_aek (ninS ne_arr_ann (ninS ne_arr_ael nin0)))
      replace A_app := A_app.keep K46 (ninS ne_app_aek (ninS ne_app_ann (ninS ne_app_ael nin0)))
      replace A_lf := A_lf.keep K46 (ninS ne_lf_aek (ninS ne_lf_ann (ninS ne_lf_ael nin0)))
      replace A_akk := A_akk.keep K46 (ninS ne_akk_aek (ninS ne_akk_ann (ninS ne_akk_ael nin0)))
      replace A_all := A_all.keep K46 (ninS ne_all_aek (ninS ne_all_ann (ninS ne_all_ael nin0)))
      clear A_aek
      clear A_ann
      clear A_ael
      have A_aek := A_aek_46; clear A_aek_46
      have A_ann := A_ann_46; clear A_ann_46
      have A_ael := A_ael_46; clear A_ael_46
      refine Go.lstore (pc' := 250) at_248 rfl (Ls' := #[.val (.long cap), .second, .val (.long ra), .second, .val (.long rb), .second, .val (.long rc), .second, .val (.int pp), .val (.int qq), .val (.ref arr), .val (.ref app), .val (.int lo), .val (.int hi), .val (.int (1 : Int32)), .val (.int (0 : Int32)), .val (.ref obj), .val (.ref akk), .val (.ref all), .val (.int kc), .val (.ref aek), .val (.ref ann), .val (.ref ael), .val (.long sr1), .second, .unset]) rfl ?_
      refine Go.iconst (pc' := 251) at_250 rfl (z := (2 : Int32)) (by decide) ?_
      refine Go.iload (pc' := 253) at_251 rfl rfl ?_
      refine Go.iload (pc' := 255) at_253 rfl rfl ?_
      refine Go.aload (pc' := 257) at_255 rfl rfl rfl ?_
      refine Go.aload (pc' := 259) at_257 rfl rfl rfl ?_
      refine Go.lload (pc' := 261) at_259 rfl rfl ?_
      refine Go.aload (pc' := 263) at_261 rfl rfl rfl ?_
      refine Go.aload (pc' := 265) at_263 rfl rfl rfl ?_
      refine Go.aload (pc' := 267) at_265 rfl rfl rfl ?_
      refine Go.callS (pc' := 270) (W := 0) (argsL := [(.int (2 : Int32)), (.int lo), (.int hi), (.ref app), (.ref arr), (.long sr1), (.ref aek), (.ref ann), (.ref ael)]) (rest := []) (k' := 9) (n' := 24) at_267 rfl (hw _ w39) (hw _ w40) (hw _ w41) (hw _ w42) (by decide) (c_step2 hw sz0 app arr aek ann ael lo hi sr1 sc1 sk1_0 sk1_1 sk1_2 sl1_0 sl1_1 sl1_2 p0 p1 p2 r0 r1 r2 (Ne.symm ne_arr_app) ne_app_aek ne_app_ann ne_app_ael ne_arr_aek ne_arr_ann ne_arr_ael ne_aek_ann ne_aek_ael ne_ann_ael gn_aek gn_ann gn_ael A_app A_arr A_aek A_ann A_ael g0 g1 g2 hS1) (by decide) (by decide) (by decide) (by decide) rfl rfl rfl pd__28III_5bI_5bJJ_5bI_5bI_5bZ_29J rfl rfl (Nat.le_of_eq rfl) ?_
      intro v47 h47 P47 L47 NL47 hq47
      obtain ⟨sr2, sc2, sk2_0, sk2_1, sk2_2, sl2_0, sl2_1, sl2_2, rfl, N47, K47, A_aek_47, A_ann_47, A_ael_47, hT2, hS2⟩ := hq47
      dsimp only [Option.toList, List.cons_append, List.nil_append]
      replace N0 := NL47 _ N0 N47
      replace sz0 : n0 ≤ h47.size := Nat.le_trans sz0 K47.1
      replace E_obj := E_obj.keep K47
      replace F_obj_rates := F_obj_rates.keep K47 (ninS ne_obj_aek (ninS ne_obj_ann (ninS ne_obj_ael nin0)))
      replace F_obj_capacity := F_obj_capacity.keep K47 (ninS ne_obj_aek (ninS ne_obj_ann (ninS ne_obj_ael nin0)))
      replace F_obj_left := F_obj_left.keep K47 (ninS ne_obj_aek (ninS ne_obj_ann (ninS ne_obj_ael nin0)))
      replace A_arr := A_arr.keep K47 (ninS ne_arr_aek (ninS ne_arr_ann (ninS ne_arr_ael nin0)))
      replace A_app := A_app.keep K47 (ninS ne_app_aek (ninS ne_app_ann (ninS ne_app_ael nin0)))
      replace A_lf := A_lf.keep K47 (ninS ne_lf_aek (ninS ne_lf_ann (ninS ne_lf_ael nin0)))
      replace A_akk := A_akk.keep K47 (ninS ne_akk_aek (ninS ne_akk_ann (ninS ne_akk_ael nin0)))
      replace A_all := A_all.keep K47 (ninS ne_all_aek (ninS ne_all_ann (ninS ne_all_ael nin0)))
      clear A_aek
      clear A_ann
      clear A_ael
      have A_aek := A_aek_47; clear A_aek_47
      have A_ann := A_ann_47; clear A_ann_47
      have A_ael := A_ael_47; clear A_ael_47
      refine Go.lstore (pc' := 272) at_270 rfl (Ls' := #[.val (.long cap), .second, .val (.long ra), .second, .val (.long rb), .second, .val (.long rc), .second, .val (.int pp), .val (.int qq), .val (.ref arr), .val (.ref app), .val (.int lo), .val (.int hi), .val (.int (1 : Int32)), .val (.int (0 : Int32)), .val (.ref obj), .val (.ref akk), .val (.ref all), .val (.int kc), .val (.ref aek), .val (.ref ann), .val (.ref ael), .val (.long sr2), .second, .unset]) rfl ?_
      refine Go.aload (pc' := 274) at_272 rfl rfl rfl ?_
      refine Go.callV0 (pc' := 277) (W := 0) (a := obj) (argsL := []) (rest := []) (v0 := some (.ref lf)) (st2 := [(.ref lf)]) at_274 rfl (hw _ w43) (hw _ w44) (nf_sel (hw _ w46)) (hw _ w46) (hw _ w45) (hw _ w5) (hw _ w47) E_obj (by decide) (c_units hw obj arr lf cap E_obj F_obj_rates F_obj_capacity F_obj_left) (by decide) (by decide) rfl rfl rfl (by decide) (by decide) rfl pd__28_29_5bJ rfl rfl (Nat.le_of_eq rfl) ?_
      refine Go.astore (pc' := 279) at_277 rfl rfl (Ls' := #[.val (.long cap), .second, .val (.long ra), .second, .val (.long rb), .second, .val (.long rc), .second, .val (.int pp), .val (.int qq), .val (.ref arr), .val (.ref app), .val (.int lo), .val (.int hi), .val (.int (1 : Int32)), .val (.int (0 : Int32)), .val (.ref obj), .val (.ref akk), .val (.ref all), .val (.int kc), .val (.ref aek), .val (.ref ann), .val (.ref ael), .val (.long sr2), .second, .val (.ref lf)]) rfl ?_
      have hall := own_eq r0 r1 r2 p0 p1 p2 lo.toInt.toNat N (by omega) hN3 (by omega) (cap, (0 : Int32), (-1 : Int32), (-1 : Int32), (-1 : Int32), (0 : Int32), (0 : Int32), (0 : Int32))
      rw [show ((lo.toInt.toNat : Nat) : Int) = lo.toInt by omega, ← hN, hT0, hT1, hT2, hK] at hall
      simp only [Prod.mk.injEq] at hall
      obtain ⟨j0, j1, j2, j3, j4, j5, j6, j7⟩ := hall
      refine Go.iload (pc' := 281) at_279 rfl rfl ?_
      refine Go.aload (pc' := 283) at_281 rfl rfl rfl ?_
      refine Go.iconst (pc' := 284) at_283 rfl (z := (0 : Int32)) (by decide) ?_
      refine Go.iaload (pc' := 285) at_284 rfl (i := 0) (v := (.int sc2)) A_ann (by decide) rfl ?_
      refine Go.icmpF (pc' := 288) (X := kc.toInt) (Y := sc2.toInt) at_285 rfl rfl rfl (congrArg _ j1 : kc.toInt = sc2.toInt) ?_
      refine Go.aload (pc' := 290) at_288 rfl rfl rfl ?_
      refine Go.iconst (pc' := 291) at_290 rfl (z := (0 : Int32)) (by decide) ?_
      refine Go.iaload (pc' := 292) at_291 rfl (i := 0) (v := (.int kk0)) A_akk (by decide) rfl ?_
      refine Go.aload (pc' := 294) at_292 rfl rfl rfl ?_
      refine Go.iconst (pc' := 295) at_294 rfl (z := (0 : Int32)) (by decide) ?_
      refine Go.iaload (pc' := 296) at_295 rfl (i := 0) (v := (.int sk2_0)) A_aek (by decide) rfl ?_
      refine Go.icmpF (pc' := 299) (X := kk0.toInt) (Y := sk2_0.toInt) at_296 rfl rfl rfl (congrArg _ j2 : kk0.toInt = sk2_0.toInt) ?_
      refine Go.aload (pc' := 301) at_299 rfl rfl rfl ?_
      refine Go.iconst (pc' := 302) at_301 rfl (z := (1 : Int32)) (by decide) ?_
      refine Go.iaload (pc' := 303) at_302 rfl (i := 1) (v := (.int kk1)) A_akk (by decide) rfl ?_
      refine Go.aload (pc' := 305) at_303 rfl rfl rfl ?_
      refine Go.iconst (pc' := 306) at_305 rfl (z := (1 : Int32)) (by decide) ?_
      refine Go.iaload (pc' := 307) at_306 rfl (i := 1) (v := (.int sk2_1)) A_aek (by decide) rfl ?_
      refine Go.icmpF (pc' := 310) (X := kk1.toInt) (Y := sk2_1.toInt) at_307 rfl rfl rfl (congrArg _ j3 : kk1.toInt = sk2_1.toInt) ?_
      refine Go.aload (pc' := 312) at_310 rfl rfl rfl ?_
      refine Go.iconst (pc' := 313) at_312 rfl (z := (2 : Int32)) (by decide) ?_
      refine Go.iaload (pc' := 314) at_313 rfl (i := 2) (v := (.int kk2)) A_akk (by decide) rfl ?_
      refine Go.aload (pc' := 316) at_314 rfl rfl rfl ?_
      refine Go.iconst (pc' := 317) at_316 rfl (z := (2 : Int32)) (by decide) ?_
      refine Go.iaload (pc' := 318) at_317 rfl (i := 2) (v := (.int sk2_2)) A_aek (by decide) rfl ?_
      refine Go.icmpF (pc' := 321) (X := kk2.toInt) (Y := sk2_2.toInt) at_318 rfl rfl rfl (congrArg _ j4 : kk2.toInt = sk2_2.toInt) ?_
      refine Go.aload (pc' := 323) at_321 rfl rfl rfl ?_
      refine Go.iconst (pc' := 324) at_323 rfl (z := (0 : Int32)) (by decide) ?_
      refine Go.baloadZ (pc' := 325) at_324 rfl (i := 0) (v := (.int kl0)) A_all (by decide) rfl ?_
      refine Go.aload (pc' := 327) at_325 rfl rfl rfl ?_
      refine Go.iconst (pc' := 328) at_327 rfl (z := (0 : Int32)) (by decide) ?_
      refine Go.baloadZ (pc' := 329) at_328 rfl (i := 0) (v := (.int sl2_0)) A_ael (by decide) rfl ?_
      refine Go.icmpF (pc' := 332) (X := kl0.toInt) (Y := sl2_0.toInt) at_329 rfl rfl rfl (congrArg _ j5 : kl0.toInt = sl2_0.toInt) ?_
      refine Go.aload (pc' := 334) at_332 rfl rfl rfl ?_
      refine Go.iconst (pc' := 335) at_334 rfl (z := (1 : Int32)) (by decide) ?_
      refine Go.baloadZ (pc' := 336) at_335 rfl (i := 1) (v := (.int kl1)) A_all (by decide) rfl ?_
      refine Go.aload (pc' := 338) at_336 rfl rfl rfl ?_
      refine Go.iconst (pc' := 339) at_338 rfl (z := (1 : Int32)) (by decide) ?_
      refine Go.baloadZ (pc' := 340) at_339 rfl (i := 1) (v := (.int sl2_1)) A_ael (by decide) rfl ?_
      refine Go.icmpF (pc' := 343) (X := kl1.toInt) (Y := sl2_1.toInt) at_340 rfl rfl rfl (congrArg _ j6 : kl1.toInt = sl2_1.toInt) ?_
      refine Go.aload (pc' := 345) at_343 rfl rfl rfl ?_
      refine Go.iconst (pc' := 346) at_345 rfl (z := (2 : Int32)) (by decide) ?_
      refine Go.baloadZ (pc' := 347) at_346 rfl (i := 2) (v := (.int kl2)) A_all (by decide) rfl ?_
      refine Go.aload (pc' := 349) at_347 rfl rfl rfl ?_
      refine Go.iconst (pc' := 350) at_349 rfl (z := (2 : Int32)) (by decide) ?_
      refine Go.baloadZ (pc' := 351) at_350 rfl (i := 2) (v := (.int sl2_2)) A_ael (by decide) rfl ?_
      refine Go.icmpF (pc' := 354) (X := kl2.toInt) (Y := sl2_2.toInt) at_351 rfl rfl rfl (congrArg _ j7 : kl2.toInt = sl2_2.toInt) ?_
      refine Go.aload (pc' := 356) at_354 rfl rfl rfl ?_
      refine Go.iload (pc' := 358) at_356 rfl rfl ?_
      refine Go.laload (pc' := 359) at_358 rfl (i := 1) (v := (.long kr)) A_lf (by decide) rfl ?_
      refine Go.lload (pc' := 361) at_359 rfl rfl ?_
      refine Go.lcmpF (pc' := 365) (X := kr.toInt) (Y := sr2.toInt) at_361 at_362 rfl rfl rfl rfl (congrArg _ j0 : kr.toInt = sr2.toInt) ?_
      refine Go.aload (pc' := 367) at_365 rfl rfl rfl ?_
      refine Go.iload (pc' := 369) at_367 rfl rfl ?_
      refine Go.laload (pc' := 370) at_369 rfl (i := 0) (v := (.long r0)) A_lf (by decide) rfl ?_
      refine Go.aload (pc' := 372) at_370 rfl rfl rfl ?_
      refine Go.iconst (pc' := 373) at_372 rfl (z := (0 : Int32)) (by decide) ?_
      refine Go.laload (pc' := 374) at_373 rfl (i := 0) (v := (.long r0)) A_arr (by decide) rfl ?_
      refine Go.lcmpF (pc' := 378) (X := r0.toInt) (Y := r0.toInt) at_374 at_375 rfl rfl rfl rfl (rfl : r0.toInt = r0.toInt) ?_
      refine Go.iconst (pc' := 379) at_378 rfl (z := (1 : Int32)) (by decide) ?_
      refine Go.goto (pc' := 383) at_379 (by decide) ?_
      refine Go.retZ at_383 rfl (by decide) (by decide) (by decide) ?_
      exact ⟨rfl, N0⟩
  refine Go.iload (pc' := 86) at_84 rfl rfl ?_
  refine Go.iconst (pc' := 87) at_86 rfl (z := (3 : Int32)) (by decide) ?_
  by_cases hc48 : (3 : Int) < hi0.toInt
  · refine Go.icmpF (pc' := 90) (X := hi0.toInt) (Y := (3 : Int)) at_87 rfl rfl (by decide) (hc48 : (3 : Int) < hi0.toInt) ?_
    refine Go.iconst (pc' := 91) at_90 rfl (z := (3 : Int32)) (by decide) ?_
    refine Go.istore (pc' := 93) at_91 rfl (Ls' := #[.val (.long cap), .second, .val (.long ra), .second, .val (.long rb), .second, .val (.long rc), .second, .val (.int pp), .val (.int qq), .val (.ref arr), .val (.ref app), .val (.int lo), .val (.int (3 : Int32)), .unset, .unset, .unset, .unset, .unset, .unset, .unset, .unset, .unset, .unset, .unset, .unset]) rfl ?_
    exact J93 _ (by omega) (by omega)
  · refine Go.icmpT (pc' := 93) (X := hi0.toInt) (Y := (3 : Int)) at_87 (by decide) rfl (by decide) (hc48 : ¬ (3 : Int) < hi0.toInt) ?_
    exact J93 _ (by omega) (by omega)
set_option maxRecDepth 65536 in
set_option maxHeartbeats 40000000 in
theorem comes_1 {Post : Tables → Env → Array Value → State → Outcome → State → Prop} (hpost : ∀ tb e args s v u, (limb_1_1.after args s (.returned v) u = true ∧ limb_1_2.after args s (.returned v) u = true ∧ True) → FrameEnd s (.returned v) u (Jvm.fieldLocs frame_1_writes args s ++ Jvm.arrayLocs frame_1_arrays args s ++ Jvm.staticLocs frame_1_statics s) 32 128 → Post tb e args s (.returned v) u) :
    ArmFor flags0 classFile x code maxLocals ret World_1 tables_1 room_1 Calls_1 rest_1 Pre_1 Post := by
  intro l hfl _ _ p e ha hc hk s m args below hf hA hF happ hP
  obtain ⟨hcalls, hrest, hpre⟩ := hP
  obtain ⟨-, -, -, hnamed, -, -, -, hat⟩ := (Spec.applies_iff hf).mp happ
  obtain ⟨hg, hn⟩ := and_e (Cond.before_iff.mp (show (Jvm.Cond.and given_1 narrow_1).before args s = true from hpre))
  obtain ⟨h1, h2⟩ := and_e hg
  obtain ⟨w0, w1, w2, w3, w4, w5, rfl⟩ : ∃ w0 w1 w2 w3 w4 w5 : Value, args = #[w0, w1, w2, w3, w4, w5] := by
    have hs : args.size = 6 := by simpa [Cond.value, given_1] using h1
    obtain ⟨L⟩ := args
    match L, hs with
    | [w0, w1, w2, w3, w4, w5], _ => exact ⟨w0, w1, w2, w3, w4, w5, rfl⟩
  have hw := fun d (hd : d ∈ tables_1) => atoms_spec (ws := Jvm.Cond.code x code maxLocals ret :: tables_1) hat d (List.mem_cons_of_mem _ hd)
  obtain ⟨q0, h2⟩ := and_e h2
  obtain ⟨i0, e0⟩ := isL_v q0
  obtain rfl : w0 = (.long i0) := Option.some.inj e0
  obtain ⟨q1, h2⟩ := and_e h2
  obtain ⟨i1, e1⟩ := isL_v q1
  obtain rfl : w1 = (.long i1) := Option.some.inj e1
  obtain ⟨q2, h2⟩ := and_e h2
  obtain ⟨i2, e2⟩ := isL_v q2
  obtain rfl : w2 = (.long i2) := Option.some.inj e2
  obtain ⟨q3, h2⟩ := and_e h2
  obtain ⟨i3, e3⟩ := isL_v q3
  obtain rfl : w3 = (.long i3) := Option.some.inj e3
  obtain ⟨q4, h2⟩ := and_e h2
  obtain ⟨i4, e4⟩ := is_v q4
  obtain rfl : w4 = (.int i4) := Option.some.inj e4
  have q5 := h2
  obtain ⟨i5, e5⟩ := is_v q5
  obtain rfl : w5 = (.int i5) := Option.some.inj e5
  obtain ⟨n, o, h1, h2, h3, _, L, rfl, ⟨rfl, N⟩, hq⟩ := law_con (l := l) hw (h0 := s.heap) (n0 := s.heap.size) (Nat.le_refl _) i0 i1 i2 i3 i4 i5 p e ha hc hk s m _ below hf ((Spec.applies_iff_loose hf).mp happ).1 ⟨rfl, State.Warmed39.refl s, rfl⟩ trivial
  refine ⟨n, _, h1, h2, h3, hpost _ _ _ _ _ _ ⟨Cond.after_iff.mpr rfl, Cond.after_iff.mpr (eq_i res_at (Term.int_eval (1)) rfl), trivial⟩ ⟨hq.1, hq.2.1, (hq.2.2.sift fun y hy => Or.inr (N y hy)).mono (by decide) (by decide)⟩⟩
theorem main_1_1 : Claimed_1_1 := comes_1 fun _ _ _ _ _ _ h hF => ⟨h.1, hF⟩
theorem main_1_2 : Claimed_1_2 := comes_1 fun _ _ _ _ _ _ h hF => ⟨h.2.1, hF⟩
end Jvm.Pilot.@@N@@
namespace Jvm.Pilot.@@N@@
open Jvm Jvm.ClassFile Sem Op Lib Jvm.Free Jvm.Stand Jvm.Pilot.@@N@@.Jvm.D
/-! MADE BY PROGRAM (witnessworld.py) out of the Statement's table words and the real class files: 14 classes; the members and pool entries that the words name. The judged class is class 1, her method 1. -/
namespace start1
open Jvm.ClassFile
def u (s : String) : CpInfo := .utf8 (stringToUtf16 s)
/-- a pool by its gaps: so many unusable entries, then the entry; so many at the end -/
def gap : Nat → List CpInfo → List CpInfo
  | 0, r => r
  | n + 1, r => .unusable :: gap n r
def poolList (es : List (Nat × CpInfo)) (last : Nat) : List CpInfo := es.foldr (fun e r => gap e.1 (e.2 :: r)) (gap last [])
def pool (es : List (Nat × CpInfo)) (last : Nat) : Array CpInfo := ⟨poolList es last⟩
def fileOf (pool : Array CpInfo) (this : Nat) (attrs : Array Attribute := #[]) (ms : Array MethodInfo := #[]) (fl : Nat := 33) (sup : Nat := 0) (ifs : Array Nat := #[]) (fds : Array FieldInfo := #[]) : ClassFile where
  minorVersion := 0
  majorVersion := 65
  constantPool := pool
  accessFlags := fl
  thisClass := this
  superClass := sup
  interfaces := ifs
  fields := fds
  methods := ms
  attributes := attrs
def plain (name : String) (sup : Option ClassId) : Class where
  name := name
  kind := .ordinary
  loader := none
  accessFlags := 33
  super := sup
  interfaces := #[]
  cf := none
  fields := #[]
  methods := #[]
  instanceTypes := #[]
  staticTypes := #[]
  resolved := #[]
  callSites := []
  init := .initialized
  statics := none
  mirror := none

def pool0 : Array CpInfo := pool [(5, u "<init>"), (0, u "()V"), (1, .class_ 10), (1, u "java/lang/Object")] 113

def k0c0 : Code := { maxStack := 0, maxLocals := 1, code := object_method_1_code, exceptionTable := #[], attributes := #[] }
def k0m0 : Method := { name := "<init>", desc := "()V", sig := { parameters := [], returnType := none }, accessFlags := 1, code := some k0c0 }
/-- java/lang/Object -/
def k0 : Class := { plain "java/lang/Object" none with
  accessFlags := 33
  interfaces := #[]
  cf := some (fileOf pool0 8 #[] #[{ accessFlags := 1, nameIndex := 5, descriptorIndex := 6, attributes := #[] }] 33 0 #[] #[])
  fields := #[]
  methods := #[k0m0]
  instanceTypes := #[]
  staticTypes := #[]
  resolved := Array.replicate 124 none
  statics := none }

def pool1 : Array CpInfo := pool [(2, .class_ 4), (1, u "java/lang/Object"), (0, u "<init>"), (0, u "()V"), (2, .long 9223372036854775807), (1, .class_ 12), (0, u "com/example/even_keel/evenkeel/plan/Rooms$InUnits"), (0, .methodref 11 14), (0, .nameAndType 5 15), (0, u "(I[JJ)V"), (0, .methodref 11 17), (0, .nameAndType 18 19), (0, u "empty"), (0, u "(I)V"), (0, .methodref 11 21), (0, .nameAndType 22 23), (0, u "setToRate"), (0, u "(II)V"), (0, .methodref 11 25), (0, .nameAndType 26 27), (0, u "keep"), (0, u "(I[III[I[Z)I"), (0, .methodref 29 30), (0, .class_ 31), (0, .nameAndType 32 33), (0, u "com/example/even_keel/evenkeel/plan/InUnitsKeepPinLaw"), (0, u "step"), (0, u "(III[I[JJ[I[I[Z)J"), (0, .methodref 11 35), (0, .nameAndType 36 37), (0, u "units"), (0, u "()[J"), (2, u "law"), (0, u "(JJJJII)Z")] 13

def k1m0 : Method := { name := "<init>", desc := "()V", sig := { parameters := [], returnType := none }, accessFlags := 1, code := none }
def k1c1 : Code := { maxStack := 10, maxLocals := 26, code := code, exceptionTable := #[], attributes := #[] }
def k1m1 : Method := { name := "law", desc := "(JJJJII)Z", sig := { parameters := [.long, .long, .long, .long, .int, .int], returnType := some .boolean }, accessFlags := 9, code := some k1c1 }
def k1c2 : Code := { maxStack := 4, maxLocals := 13, code := method_3_code, exceptionTable := #[], attributes := #[] }
def k1m2 : Method := { name := "step", desc := "(III[I[JJ[I[I[Z)J", sig := { parameters := [.int, .int, .int, (.array .int), (.array .long), .long, (.array .int), (.array .int), (.array .boolean)], returnType := some .long }, accessFlags := 10, code := some k1c2 }
/-- com/example/even_keel/evenkeel/plan/InUnitsKeepPinLaw -/
def k1 : Class := { plain "com/example/even_keel/evenkeel/plan/InUnitsKeepPinLaw" (some 0) with
  accessFlags := 49
  interfaces := #[]
  cf := some (fileOf pool1 29 #[] #[{ accessFlags := 1, nameIndex := 5, descriptorIndex := 6, attributes := #[] }, { accessFlags := 9, nameIndex := 40, descriptorIndex := 41, attributes := #[] }, { accessFlags := 10, nameIndex := 32, descriptorIndex := 33, attributes := #[] }] 49 2 #[] #[])
  fields := #[]
  methods := #[k1m0, k1m1, k1m2]
  instanceTypes := #[]
  staticTypes := #[]
  resolved := Array.replicate 55 none
  statics := none }

def pool2 : Array CpInfo := pool [(1, .methodref 2 3), (0, .class_ 4), (0, .nameAndType 5 6), (0, u "java/lang/Object"), (0, u "<init>"), (0, u "()V"), (0, .class_ 8), (0, u "com/example/even_keel/evenkeel/plan/Rooms"), (23, .class_ 33), (0, u "com/example/even_keel/evenkeel/plan/Rooms$InDecimals"), (0, .class_ 35), (0, u "com/example/even_keel/evenkeel/plan/Rooms$InUnits")] 3

def k2c0 : Code := { maxStack := 1, maxLocals := 1, code := prog_132_method_1_code, exceptionTable := #[], attributes := #[] }
def k2m0 : Method := { name := "<init>", desc := "()V", sig := { parameters := [], returnType := none }, accessFlags := 0, code := some k2c0 }
/-- com/example/even_keel/evenkeel/plan/Rooms -/
def k2 : Class := { plain "com/example/even_keel/evenkeel/plan/Rooms" (some 0) with
  accessFlags := 1056
  interfaces := #[]
  cf := some (fileOf pool2 7 #[.nestMembers #[32, 34]] #[{ accessFlags := 0, nameIndex := 5, descriptorIndex := 6, attributes := #[] }] 1056 2 #[] #[])
  fields := #[]
  methods := #[k2m0]
  instanceTypes := #[]
  staticTypes := #[]
  resolved := Array.replicate 39 none
  statics := none }

def pool3 : Array CpInfo := pool [(1, .methodref 2 3), (0, .class_ 4), (0, .nameAndType 5 6), (0, u "com/example/even_keel/evenkeel/plan/Rooms"), (0, u "<init>"), (0, u "()V"), (0, .fieldref 8 9), (0, .class_ 10), (0, .nameAndType 11 12), (0, u "com/example/even_keel/evenkeel/plan/Rooms$InUnits"), (0, u "rates"), (0, u "[J"), (0, .fieldref 8 14), (0, .nameAndType 15 16), (0, u "capacity"), (0, u "J"), (0, .fieldref 8 18), (0, .nameAndType 19 12), (0, u "left"), (6, u "(I[JJ)V"), (2, u "empty"), (0, u "(I)V"), (1, u "(II)V"), (0, u "units"), (0, u "()[J"), (0, u "setToRate"), (5, u "keep"), (0, u "(I[III[I[Z)I")] 9

def k3c0 : Code := { maxStack := 3, maxLocals := 5, code := prog_134_method_1_code, exceptionTable := #[], attributes := #[] }
def k3m0 : Method := { name := "<init>", desc := "(I[JJ)V", sig := { parameters := [.int, (.array .long), .long], returnType := none }, accessFlags := 0, code := some k3c0 }
def k3c1 : Code := { maxStack := 4, maxLocals := 2, code := prog_134_method_2_code, exceptionTable := #[], attributes := #[] }
def k3m1 : Method := { name := "empty", desc := "(I)V", sig := { parameters := [.int], returnType := none }, accessFlags := 0, code := some k3c1 }
def k3c2 : Code := { maxStack := 1, maxLocals := 1, code := prog_134_method_4_code, exceptionTable := #[], attributes := #[] }
def k3m2 : Method := { name := "units", desc := "()[J", sig := { parameters := [], returnType := some (.array .long) }, accessFlags := 0, code := some k3c2 }
def k3c3 : Code := { maxStack := 4, maxLocals := 3, code := prog_134_method_5_code, exceptionTable := #[], attributes := #[] }
def k3m3 : Method := { name := "setToRate", desc := "(II)V", sig := { parameters := [.int, .int], returnType := none }, accessFlags := 0, code := some k3c3 }
def k3c4 : Code := { maxStack := 4, maxLocals := 14, code := prog_134_method_9_code, exceptionTable := #[], attributes := #[] }
def k3m4 : Method := { name := "keep", desc := "(I[III[I[Z)I", sig := { parameters := [.int, (.array .int), .int, .int, (.array .int), (.array .boolean)], returnType := some .int }, accessFlags := 0, code := some k3c4 }
/-- com/example/even_keel/evenkeel/plan/Rooms$InUnits -/
def k3 : Class := { plain "com/example/even_keel/evenkeel/plan/Rooms$InUnits" (some 2) with
  accessFlags := 48
  interfaces := #[]
  cf := some (fileOf pool3 8 #[.nestHost 2] #[{ accessFlags := 0, nameIndex := 5, descriptorIndex := 26, attributes := #[] }, { accessFlags := 0, nameIndex := 29, descriptorIndex := 30, attributes := #[] }, { accessFlags := 0, nameIndex := 33, descriptorIndex := 34, attributes := #[] }, { accessFlags := 0, nameIndex := 35, descriptorIndex := 32, attributes := #[] }, { accessFlags := 0, nameIndex := 41, descriptorIndex := 42, attributes := #[] }] 48 2 #[] #[{ accessFlags := 18, nameIndex := 11, descriptorIndex := 12, attributes := #[] }, { accessFlags := 18, nameIndex := 15, descriptorIndex := 16, attributes := #[] }, { accessFlags := 18, nameIndex := 19, descriptorIndex := 12, attributes := #[] }])
  fields := #[{ name := "rates", type := (.array .long), accessFlags := 18, slot := 0, constantValue := 0 }, { name := "capacity", type := .long, accessFlags := 18, slot := 1, constantValue := 0 }, { name := "left", type := (.array .long), accessFlags := 18, slot := 2, constantValue := 0 }]
  methods := #[k3m0, k3m1, k3m2, k3m3, k3m4]
  instanceTypes := #[(.array .long), .long, (.array .long)]
  staticTypes := #[]
  resolved := Array.replicate 52 none
  statics := none }

def pool4 : Array CpInfo := pool [(1, u "java/lang/Cloneable"), (0, .class_ 1), (0, u "java/lang/Object"), (0, .class_ 3)] 3

/-- java/lang/Cloneable -/
def k4 : Class := { plain "java/lang/Cloneable" (some 0) with
  accessFlags := 1537
  interfaces := #[]
  cf := some (fileOf pool4 2 #[] #[] 1537 4 #[] #[])
  fields := #[]
  methods := #[]
  instanceTypes := #[]
  staticTypes := #[]
  resolved := Array.replicate 8 none
  statics := none }

def pool5 : Array CpInfo := pool [(1, u "java/io/Serializable"), (0, .class_ 1), (0, u "java/lang/Object"), (0, .class_ 3)] 3

/-- java/io/Serializable -/
def k5 : Class := { plain "java/io/Serializable" (some 0) with
  accessFlags := 1537
  interfaces := #[]
  cf := some (fileOf pool5 2 #[] #[] 1537 4 #[] #[])
  fields := #[]
  methods := #[]
  instanceTypes := #[]
  staticTypes := #[]
  resolved := Array.replicate 8 none
  statics := none }

/-- the primitive boolean -/
def k6 : Class := { plain "boolean" none with kind := .primitive 'Z', accessFlags := 0x411 }
/-- [Z -/
def k7 : Class := { plain "[Z" (some 0) with kind := .array 6 .boolean, interfaces := #[4, 5], accessFlags := 1041 }

/-- the primitive byte -/
def k8 : Class := { plain "byte" none with kind := .primitive 'B', accessFlags := 0x411 }
/-- [B -/
def k9 : Class := { plain "[B" (some 0) with kind := .array 8 .byte, interfaces := #[4, 5], accessFlags := 1041 }

/-- the primitive int -/
def k10 : Class := { plain "int" none with kind := .primitive 'I', accessFlags := 0x411 }
/-- [I -/
def k11 : Class := { plain "[I" (some 0) with kind := .array 10 .int, interfaces := #[4, 5], accessFlags := 1041 }

/-- the primitive long -/
def k12 : Class := { plain "long" none with kind := .primitive 'J', accessFlags := 0x411 }
/-- [J -/
def k13 : Class := { plain "[J" (some 0) with kind := .array 12 .long, interfaces := #[4, 5], accessFlags := 1041 }

def heap : Heap := #[]
def classes : Array Class := #[k0, k1, k2, k3, k4, k5, k6, k7, k8, k9, k10, k11, k12, k13]
def interned : List (Array UInt16 × Addr) := []
def slotsUsed : Nat := 0
def theMethod : MethodId := ⟨1, 1⟩
def args0 : Array Value := #[.long 3, .long 4, .long 5, .long 6, .int 7, .int 8]
def aboutOver (below : List Frame) : State where
  vm := { classes := classes, interned := interned.toArray }
  heap := heap
  slotsUsed := slotsUsed
  threads := #[{ frames := .invoking theMethod args0 :: below }]
def below0 : List Frame := [.native { method := ⟨0, 0⟩, args := #[] }]
def about1 : State := aboutOver below0
def p0 : Program := .bare "" "" ""
def e0 : Env := launch0.env 0 0 0
theorem w_frames : about1.frames = Frame.invoking theMethod args0 :: below0 := rfl
set_option maxRecDepth 65536 in
theorem w_args : argsFit about1.vm theMethod args0 = true := by decide +kernel
set_option maxRecDepth 65536 in
theorem w_heap : heapFits about1 = true := by decide +kernel
set_option maxRecDepth 65536 in
theorem w_runnable : about1.curStatus? = some .runnable := by decide +kernel
set_option maxRecDepth 65536 in
theorem w_alone : about1.alone = true := by decide +kernel
set_option maxRecDepth 65536 in
theorem w_named : about1.methodNamed? x = some theMethod := by decide +kernel
set_option maxRecDepth 65536 in
theorem w_hears : about1.hears theMethod below0 = true := by decide +kernel
set_option maxRecDepth 65536 in
theorem w_ripe : about1.ripe theMethod args0 below0 = true := by decide +kernel
theorem w_running : about1.status = .running := rfl
set_option maxRecDepth 65536 in
theorem w_room : about1.hasRoom e0.platform room_1 = true :=
  launch0.hasRoom_least _ room_1 (by decide +kernel) (by decide +kernel) (by decide +kernel) (by decide +kernel) (by decide +kernel) (by decide +kernel)
theorem allAtoms_all (ts : List Jvm.Cond) (a : Array Jvm.Value) (st : Jvm.State) : (allAtoms ts).before a st = ts.all (fun c => c.before a st) := by
  induction ts with
  | nil => rfl
  | cons c t ih =>
    show (Jvm.Cond.and c (allAtoms t)).before a st = _
    rw [Jvm.Cond.before_and, ih, List.all_cons]
def words1 : List Jvm.Cond := Jvm.Cond.code x code maxLocals ret :: tables_1
/-- a 'code' word, met by the world's own term for the bytes: nothing is compared byte by byte -/
theorem code_word {y : MethodName} {bytes : ByteArray} {mx : Nat} {rt : Option FieldType} {a : Array Value} {s : State} {m : MethodId} {meth : Method} {c : Code} (h1 : s.methodNamed? y = some m) (h2 : s.vm.method? m = some meth) (h3 : meth.code = some c) (h4 : c.code = bytes)
    (h5 : (c.maxLocals == mx && c.exceptionTable.isEmpty && decide (c.maxStack ≤ mostOperands) && decide (meth.sig.returnType = rt) && !meth.locks && decide (parseMethodDescriptor y.desc = some meth.sig)) = true) : (Jvm.Cond.code y bytes mx rt).before a s = true := by
  simp only [Bool.and_eq_true, beq_iff_eq, Bool.not_eq_true', decide_eq_true_eq] at h5
  obtain ⟨⟨⟨⟨⟨g1, g2⟩, g3⟩, g4⟩, g5⟩, g6⟩ := h5
  simp [Cond.before, Cond.holds, Cond.value, h1, h2, h3, h4, g1, g2, g3, g4, g5, g6]
def isCode : Jvm.Cond → Bool
  | .code _ _ _ _ => true
  | _ => false
theorem all_split {L : List Jvm.Cond} {P : Jvm.Cond → Bool} (h1 : L.all (fun c => isCode c || P c) = true) (h2 : ∀ c ∈ L.filter isCode, P c = true) : L.all P = true := by
  refine List.all_eq_true.mpr fun c hc => ?_
  have h := List.all_eq_true.mp h1 c hc
  rcases Bool.eq_false_or_eq_true (isCode c) with hi | hi
  · exact h2 c (List.mem_filter.mpr ⟨hc, hi⟩)
  · simpa [hi] using h
set_option maxRecDepth 65536 in
theorem w_c0 : (Jvm.Cond.code x code maxLocals ret).before args0 about1 = true := code_word (m := ⟨1, 1⟩) (meth := k1m1) (c := k1c1) (by decide +kernel) rfl rfl rfl (by decide +kernel)
set_option maxRecDepth 65536 in
theorem w_c1 : (Jvm.Cond.code ({ cls := "com/example/even_keel/evenkeel/plan/Rooms$InUnits", name := "<init>", desc := "(I[JJ)V" } : Jvm.MethodName) prog_134_method_1_code (5 : Nat) (Option.none : Option Jvm.ClassFile.FieldType)).before args0 about1 = true := code_word (m := ⟨3, 0⟩) (meth := k3m0) (c := k3c0) (by decide +kernel) rfl rfl rfl (by decide +kernel)
set_option maxRecDepth 65536 in
theorem w_c2 : (Jvm.Cond.code ({ cls := "com/example/even_keel/evenkeel/plan/Rooms", name := "<init>", desc := "()V" } : Jvm.MethodName) prog_132_method_1_code (1 : Nat) (Option.none : Option Jvm.ClassFile.FieldType)).before args0 about1 = true := code_word (m := ⟨2, 0⟩) (meth := k2m0) (c := k2c0) (by decide +kernel) rfl rfl rfl (by decide +kernel)
set_option maxRecDepth 65536 in
theorem w_c3 : (Jvm.Cond.code ({ cls := "java/lang/Object", name := "<init>", desc := "()V" } : Jvm.MethodName) object_method_1_code (1 : Nat) (Option.none : Option Jvm.ClassFile.FieldType)).before args0 about1 = true := code_word (m := ⟨0, 0⟩) (meth := k0m0) (c := k0c0) (by decide +kernel) rfl rfl rfl (by decide +kernel)
set_option maxRecDepth 65536 in
theorem w_c4 : (Jvm.Cond.code ({ cls := "com/example/even_keel/evenkeel/plan/Rooms$InUnits", name := "empty", desc := "(I)V" } : Jvm.MethodName) prog_134_method_2_code (2 : Nat) (Option.none : Option Jvm.ClassFile.FieldType)).before args0 about1 = true := code_word (m := ⟨3, 1⟩) (meth := k3m1) (c := k3c1) (by decide +kernel) rfl rfl rfl (by decide +kernel)
set_option maxRecDepth 65536 in
theorem w_c5 : (Jvm.Cond.code ({ cls := "com/example/even_keel/evenkeel/plan/Rooms$InUnits", name := "setToRate", desc := "(II)V" } : Jvm.MethodName) prog_134_method_5_code (3 : Nat) (Option.none : Option Jvm.ClassFile.FieldType)).before args0 about1 = true := code_word (m := ⟨3, 3⟩) (meth := k3m3) (c := k3c3) (by decide +kernel) rfl rfl rfl (by decide +kernel)
set_option maxRecDepth 65536 in
theorem w_c6 : (Jvm.Cond.code ({ cls := "com/example/even_keel/evenkeel/plan/Rooms$InUnits", name := "keep", desc := "(I[III[I[Z)I" } : Jvm.MethodName) prog_134_method_9_code (14 : Nat) (Option.some Jvm.ClassFile.FieldType.int)).before args0 about1 = true := code_word (m := ⟨3, 4⟩) (meth := k3m4) (c := k3c4) (by decide +kernel) rfl rfl rfl (by decide +kernel)
set_option maxRecDepth 65536 in
theorem w_c7 : (Jvm.Cond.code ({ cls := "com/example/even_keel/evenkeel/plan/InUnitsKeepPinLaw", name := "step", desc := "(III[I[JJ[I[I[Z)J" } : Jvm.MethodName) method_3_code (13 : Nat) (Option.some Jvm.ClassFile.FieldType.long)).before args0 about1 = true := code_word (m := ⟨1, 2⟩) (meth := k1m2) (c := k1c2) (by decide +kernel) rfl rfl rfl (by decide +kernel)
set_option maxRecDepth 65536 in
theorem w_c8 : (Jvm.Cond.code ({ cls := "com/example/even_keel/evenkeel/plan/Rooms$InUnits", name := "units", desc := "()[J" } : Jvm.MethodName) prog_134_method_4_code (1 : Nat) (Option.some (Jvm.ClassFile.FieldType.array Jvm.ClassFile.FieldType.long))).before args0 about1 = true := code_word (m := ⟨3, 2⟩) (meth := k3m2) (c := k3c2) (by decide +kernel) rfl rfl rfl (by decide +kernel)
def codes1 : List Jvm.Cond := [Jvm.Cond.code x code maxLocals ret, Jvm.Cond.code ({ cls := "com/example/even_keel/evenkeel/plan/Rooms$InUnits", name := "<init>", desc := "(I[JJ)V" } : Jvm.MethodName) prog_134_method_1_code (5 : Nat) (Option.none : Option Jvm.ClassFile.FieldType), Jvm.Cond.code ({ cls := "com/example/even_keel/evenkeel/plan/Rooms", name := "<init>", desc := "()V" } : Jvm.MethodName) prog_132_method_1_code (1 : Nat) (Option.none : Option Jvm.ClassFile.FieldType), Jvm.Cond.code ({ cls := "java/lang/Object", name := "<init>", desc := "()V" } : Jvm.MethodName) object_method_1_code (1 : Nat) (Option.none : Option Jvm.ClassFile.FieldType), Jvm.Cond.code ({ cls := "com/example/even_keel/evenkeel/plan/Rooms$InUnits", name := "empty", desc := "(I)V" } : Jvm.MethodName) prog_134_method_2_code (2 : Nat) (Option.none : Option Jvm.ClassFile.FieldType), Jvm.Cond.code ({ cls := "com/example/even_keel/evenkeel/plan/Rooms$InUnits", name := "setToRate", desc := "(II)V" } : Jvm.MethodName) prog_134_method_5_code (3 : Nat) (Option.none : Option Jvm.ClassFile.FieldType), Jvm.Cond.code ({ cls := "com/example/even_keel/evenkeel/plan/Rooms$InUnits", name := "keep", desc := "(I[III[I[Z)I" } : Jvm.MethodName) prog_134_method_9_code (14 : Nat) (Option.some Jvm.ClassFile.FieldType.int), Jvm.Cond.code ({ cls := "com/example/even_keel/evenkeel/plan/InUnitsKeepPinLaw", name := "step", desc := "(III[I[JJ[I[I[Z)J" } : Jvm.MethodName) method_3_code (13 : Nat) (Option.some Jvm.ClassFile.FieldType.long), Jvm.Cond.code ({ cls := "com/example/even_keel/evenkeel/plan/Rooms$InUnits", name := "units", desc := "()[J" } : Jvm.MethodName) prog_134_method_4_code (1 : Nat) (Option.some (Jvm.ClassFile.FieldType.array Jvm.ClassFile.FieldType.long))]
set_option maxRecDepth 65536 in
theorem codes_eq : words1.filter isCode = codes1 := rfl
theorem w_codes : ∀ c ∈ words1.filter isCode, c.before args0 about1 = true := by
  rw [codes_eq]
  intro c hc
  simp only [codes1, List.mem_cons, List.not_mem_nil, or_false] at hc
  rcases hc with rfl | rfl | rfl | rfl | rfl | rfl | rfl | rfl | rfl
  · exact w_c0
  · exact w_c1
  · exact w_c2
  · exact w_c3
  · exact w_c4
  · exact w_c5
  · exact w_c6
  · exact w_c7
  · exact w_c8
set_option maxRecDepth 65536 in
theorem w_t1 : (words1.take 24).all (fun c => isCode c || c.before args0 about1) = true := by decide +kernel
set_option maxRecDepth 65536 in
theorem w_t2 : ((words1.drop 24).take 24).all (fun c => isCode c || c.before args0 about1) = true := by decide +kernel
set_option maxRecDepth 65536 in
theorem w_t3 : ((words1.drop 24).drop 24).all (fun c => isCode c || c.before args0 about1) = true := by decide +kernel
theorem w_tables : (allAtoms (Jvm.Cond.code x code maxLocals ret :: tables_1)).before args0 about1 = true := by
  rw [allAtoms_all]
  show words1.all (fun c => c.before args0 about1) = true
  refine all_split ?_ w_codes
  rw [← List.take_append_drop 24 words1, List.all_append, w_t1, ← List.take_append_drop 24 (words1.drop 24), List.all_append, w_t2, w_t3]
  rfl
set_option maxRecDepth 65536 in
theorem w_case : (Jvm.Cond.and given_1 narrow_1).before args0 about1 = true := by decide +kernel
theorem w_applies : (headSpec (Jvm.Cond.code x code maxLocals ret :: tables_1) room_1).applies x e0.platform about1 = true :=
  (Spec.applies_iff w_frames).mpr ⟨w_running, w_runnable, w_alone, w_named, w_hears, w_ripe, w_room, w_tables⟩
theorem atStart : AtStart classFile x code maxLocals ret World_1 tables_1 room_1 Calls_1 rest_1 Pre_1 launch0 p0 e0 about1 theMethod args0 below0 :=
  ⟨lists_1, trivial, launch0.admits_env _ _ _, launch0.least_env, fairChoices_fair.cas, fairChoices_fair.clock, w_frames, w_args, w_heap, w_applies, trivial, trivial, w_case⟩
end start1
theorem witness_1 : WitnessClaimed_1 := ⟨start1.p0, start1.e0, start1.about1, start1.theMethod, start1.args0, start1.below0, start1.atStart⟩
end Jvm.Pilot.@@N@@
