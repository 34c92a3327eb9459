import JvmDerived
import JvmDerived.Pilot.@@N@@Statement
import JvmDerived.Pilot.@@N@@Code
set_option linter.unusedVariables false
set_option linter.unusedSimpArgs false
namespace Jvm.OwnKit
open Sem ClassFile Op Lib Jvm.Stand Jvm.Free Jvm.LawKit Jvm.RoadKit
/-- from this pc, with these locals, this stack and this heap, the body returns and Q holds -/
def Go (Z : State) (l : Launch) (R : Room) (B : ByteArray) (ml : Nat) (own : String) (rt : Option FieldType) (mn : String) (pc : Nat) (Ls : Array Slot) (st : List Value) (h : Heap) (L : List Loc) (k n : Nat) (Q : Option Value → Heap → List Loc → Prop) : Prop :=
  ∀ (p : Program) (e : Env) (s : State) (m : MethodId) (args : Array Value) (below : List Frame) (meth : Method) (c : Code) (T : State),
    Stand p l e R s m args below meth c T L k n → p.tables.exec = Jvm.exec → Z.Warmed39 s.vm → c.code = B → c.maxLocals = ml → s.vm.findClass own = some m.cls → meth.sig.returnType = rt → meth.locks = false → meth.name = mn → T.heap = h →
    ∃ s₂ o, Steps p.tables e below (T.setTop (mkF m pc Ls st)) s₂ ∧ s₂.status = .running ∧ Ended s₂ below o ∧ ∃ v L', o = .returned v ∧ Q v s₂.heap L' ∧ FrameEnd s o s₂ L' R.cells R.slots
/-- a callee's contract at these arguments and this heap -/
def Con (l : Launch) (Z : State) (y : MethodName) (B : ByteArray) (ml : Nat) (rt : Option FieldType) (R : Room) (ws : List Jvm.Cond) (as' : Array Value) (h0 : Heap) (Q : Option Value → Heap → List Loc → Prop) : Prop :=
  MetFree l y (head1 (Jvm.Cond.code y B ml rt :: ws) R) (fun a U => a = as' ∧ Z.Warmed39 U.vm ∧ U.heap = h0) (fun _ _ _ _ _ => True) (fun _ U o U' => ∃ v L, o = .returned v ∧ Q v U'.heap L ∧ FrameEnd U o U' L R.cells R.slots)
/-- the law returns true, and nothing old was written -/
def LawQ (n0 : Nat) (v : Option Value) (_ : Heap) (L : List Loc) : Prop := v = some (.int (1 : Int32)) ∧ Fr n0 L
/-- it returns v0, and nothing was written or made -/
def PQ (h0 : Heap) (v0 : Option Value) (v : Option Value) (h : Heap) (L : List Loc) : Prop := v = v0 ∧ h = h0 ∧ L = []
theorem con_of {l : Launch} {Z : State} {y : MethodName} {B : ByteArray} {ml : Nat} {rt : Option FieldType} {R : Room} {ws : List Jvm.Cond} {as' : Array Value} {h0 : Heap} {Q : Option Value → Heap → List Loc → Prop} {Ls : Array Slot}
    (hp : plainFor y = true) (ef : ∀ m, entryFrame m as' ml = mkF m 0 Ls []) (g : Go Z l R B ml y.cls rt y.name 0 Ls [] h0 [] 0 0 Q) : Con l Z y B ml rt R ws as' h0 Q := by
  refine MetFree.of_bodySF hp hisR ?_
  intro p e s m args below meth c s₁ Bd hml0 hP hK
  obtain ⟨rfl, hZ, hh⟩ := hP
  have e0 : s₁.heap = h0 := by rw [← hh, Bd.state]; rfl
  obtain ⟨s₂, o, h1, h2⟩ := g p e s m _ below meth c s₁ (Stand.of_body Bd) Bd.exec hZ Bd.bytes hml0 (findClass_of_methodNamed Bd.named) Bd.returns (BodyLoose.notSynchronized Bd) (name_of_methodNamed Bd.named Bd.method).1 e0
  exact ⟨s₂, o, castTop (ef m) h1, h2⟩
theorem Con.mono {l : Launch} {Z : State} {y : MethodName} {B : ByteArray} {ml : Nat} {rt : Option FieldType} {R : Room} {ws : List Jvm.Cond} {as' : Array Value} {h0 : Heap} {Q Q' : Option Value → Heap → List Loc → Prop} (c : Con l Z y B ml rt R ws as' h0 Q) (q : ∀ v h L, Q v h L → Q' v h L) : Con l Z y B ml rt R ws as' h0 Q' := by
  intro p e ha hc hk s m args below hf happ hP hK
  obtain ⟨n, o, h1, h2, h3, v, L, h4, h5, h6⟩ := c p e ha hc hk s m args below hf happ hP hK
  exact ⟨n, o, h1, h2, h3, v, L, h4, q _ _ _ h5, h6⟩
theorem fr_one {q : Nat} {L : List Loc} {a : Addr} {sl : Nat} (N : Fr q L) (g : q ≤ a) : Fr q (L ++ [⟨a, sl⟩]) := N.app fun y hy => by cases List.mem_singleton.mp hy; exact g
section Rules
variable {Z : State} {l : Launch} {R : Room} {B : ByteArray} {ml : Nat} {own : String} {rt : Option FieldType} {mn : String} {pc pc' : Nat} {Ls : Array Slot} {h : Heap} {L : List Loc} {k n : Nat} {Q : Option Value → Heap → List Loc → Prop} {rest : List Value}
theorem Go.mono {st : List Value} {Q' : Option Value → Heap → List Loc → Prop} (q : ∀ v h L, Q v h L → Q' v h L) (g : Go Z l R B ml own rt mn pc Ls st h L k n Q) : Go Z l R B ml own rt mn pc Ls st h L k n Q' := by
  intro p e s m args below meth c T X hx hZ hby hml hown hrt hlk hnm eT
  obtain ⟨s₂, o, h1, h2, h3, v, L', h4, h5, h6⟩ := g p e s m args below meth c T X hx hZ hby hml hown hrt hlk hnm eT
  exact ⟨s₂, o, h1, h2, h3, v, L', h4, q _ _ _ h5, h6⟩
theorem Go.pure {st st' : List Value} {Ls' : Array Slot} (step : ∀ (p : Program) (e : Env) (below : List Frame) (T : State) (m : MethodId) (c : Code) (target : State), At T m c below → p.tables.exec = Jvm.exec → c.code = B → Steps p.tables e below (T.setTop (mkF m pc' Ls' st')) target → Steps p.tables e below (T.setTop (mkF m pc Ls st)) target)
    (g : Go Z l R B ml own rt mn pc' Ls' st' h L k n Q) : Go Z l R B ml own rt mn pc Ls st h L k n Q := by
  intro p e s m args below meth c T X hx hZ hby hml hown hrt hlk hnm eT
  obtain ⟨s₂, o, h1, h2⟩ := g p e s m args below meth c T X hx hZ hby hml hown hrt hlk hnm eT
  exact ⟨s₂, o, step p e below T m c s₂ X.here hx hby h1, h2⟩
theorem Go.iload {st : List Value} {i : Nat} {v : Int32} (hd : decode B pc = .ok (.iload i, 2)) (hp : pc + 2 = pc') (hl : Ls[i]? = some (.val (.int v))) (g : Go Z l R B ml own rt mn pc' Ls (.int v :: st) h L k n Q) : Go Z l R B ml own rt mn pc Ls st h L k n Q := by
  subst hp; exact Go.pure (fun p e below T m c t hA hx hB hr => XS.iload hA hx rfl (hb hB hd) hl hr) g
theorem Go.iloadN {st : List Value} {i : Fin 4} {v : Int32} (hd : decode B pc = .ok (.iload_n i, 1)) (hp : pc + 1 = pc') (hl : Ls[i.val]? = some (.val (.int v))) (g : Go Z l R B ml own rt mn pc' Ls (.int v :: st) h L k n Q) : Go Z l R B ml own rt mn pc Ls st h L k n Q := by
  subst hp; exact Go.pure (fun p e below T m c t hA hx hB hr => XS.iloadN hA hx rfl (hb hB hd) hl hr) g
theorem Go.lload {st : List Value} {i : Nat} {v : Int64} (hd : decode B pc = .ok (.lload i, 2)) (hp : pc + 2 = pc') (hl : Ls[i]? = some (.val (.long v))) (g : Go Z l R B ml own rt mn pc' Ls (.long v :: st) h L k n Q) : Go Z l R B ml own rt mn pc Ls st h L k n Q := by
  subst hp; exact Go.pure (fun p e below T m c t hA hx hB hr => XS.lload hA hx rfl (hb hB hd) hl hr) g
theorem Go.lloadN {st : List Value} {i : Fin 4} {v : Int64} (hd : decode B pc = .ok (.lload_n i, 1)) (hp : pc + 1 = pc') (hl : Ls[i.val]? = some (.val (.long v))) (g : Go Z l R B ml own rt mn pc' Ls (.long v :: st) h L k n Q) : Go Z l R B ml own rt mn pc Ls st h L k n Q := by
  subst hp; exact Go.pure (fun p e below T m c t hA hx hB hr => XS.lloadN hA hx rfl (hb hB hd) hl hr) g
theorem Go.aload {st : List Value} {i : Nat} {v : Value} (hd : decode B pc = .ok (.aload i, 2)) (hp : pc + 2 = pc') (hl : Ls[i]? = some (.val v)) (hv : v.isRef = true) (g : Go Z l R B ml own rt mn pc' Ls (v :: st) h L k n Q) : Go Z l R B ml own rt mn pc Ls st h L k n Q := by
  subst hp; exact Go.pure (fun p e below T m c t hA hx hB hr => XS.aload hA hx rfl (hb hB hd) hl hv hr) g
theorem Go.aloadN {st : List Value} {i : Fin 4} {v : Value} (hd : decode B pc = .ok (.aload_n i, 1)) (hp : pc + 1 = pc') (hl : Ls[i.val]? = some (.val v)) (hv : v.isRef = true) (g : Go Z l R B ml own rt mn pc' Ls (v :: st) h L k n Q) : Go Z l R B ml own rt mn pc Ls st h L k n Q := by
  subst hp; exact Go.pure (fun p e below T m c t hA hx hB hr => XS.aloadN hA hx rfl (hb hB hd) hl hv hr) g
theorem Go.istore {i : Nat} {v : Int32} {Ls' : Array Slot} (hd : decode B pc = .ok (.istore i, 2)) (hp : pc + 2 = pc') (hl : storeLocals Ls i (.int v) = some Ls') (g : Go Z l R B ml own rt mn pc' Ls' rest h L k n Q) : Go Z l R B ml own rt mn pc Ls (.int v :: rest) h L k n Q := by
  subst hp; exact Go.pure (fun p e below T m c t hA hx hB hr => XS.istore hA hx rfl (hb hB hd) rfl hl hr) g
theorem Go.istoreN {i : Fin 4} {v : Int32} {Ls' : Array Slot} (hd : decode B pc = .ok (.istore_n i, 1)) (hp : pc + 1 = pc') (hl : storeLocals Ls i.val (.int v) = some Ls') (g : Go Z l R B ml own rt mn pc' Ls' rest h L k n Q) : Go Z l R B ml own rt mn pc Ls (.int v :: rest) h L k n Q := by
  subst hp; exact Go.pure (fun p e below T m c t hA hx hB hr => XS.istoreN hA hx rfl (hb hB hd) rfl hl hr) g
theorem Go.lstore {i : Nat} {v : Int64} {Ls' : Array Slot} (hd : decode B pc = .ok (.lstore i, 2)) (hp : pc + 2 = pc') (hl : storeLocals Ls i (.long v) = some Ls') (g : Go Z l R B ml own rt mn pc' Ls' rest h L k n Q) : Go Z l R B ml own rt mn pc Ls (.long v :: rest) h L k n Q := by
  subst hp; exact Go.pure (fun p e below T m c t hA hx hB hr => XS.lstore hA hx rfl (hb hB hd) rfl hl hr) g
theorem Go.lstoreN {i : Fin 4} {v : Int64} {Ls' : Array Slot} (hd : decode B pc = .ok (.lstore_n i, 1)) (hp : pc + 1 = pc') (hl : storeLocals Ls i.val (.long v) = some Ls') (g : Go Z l R B ml own rt mn pc' Ls' rest h L k n Q) : Go Z l R B ml own rt mn pc Ls (.long v :: rest) h L k n Q := by
  subst hp; exact Go.pure (fun p e below T m c t hA hx hB hr => XS.lstoreN hA hx rfl (hb hB hd) rfl hl hr) g
theorem Go.astore {i : Nat} {v : Value} {Ls' : Array Slot} (hd : decode B pc = .ok (.astore i, 2)) (hp : pc + 2 = pc') (hv : v.isRef = true) (hl : storeLocals Ls i v = some Ls') (g : Go Z l R B ml own rt mn pc' Ls' rest h L k n Q) : Go Z l R B ml own rt mn pc Ls (v :: rest) h L k n Q := by
  subst hp; exact Go.pure (fun p e below T m c t hA hx hB hr => XS.astore hA hx rfl (hb hB hd) rfl hv hl hr) g
theorem Go.astoreN {i : Fin 4} {v : Value} {Ls' : Array Slot} (hd : decode B pc = .ok (.astore_n i, 1)) (hp : pc + 1 = pc') (hv : v.isRef = true) (hl : storeLocals Ls i.val v = some Ls') (g : Go Z l R B ml own rt mn pc' Ls' rest h L k n Q) : Go Z l R B ml own rt mn pc Ls (v :: rest) h L k n Q := by
  subst hp; exact Go.pure (fun p e below T m c t hA hx hB hr => XS.astoreN hA hx rfl (hb hB hd) rfl hv hl hr) g
theorem Go.iinc {st : List Value} {i : Nat} {cst : Int} {x z : Int32} {Ls' : Array Slot} (hd : decode B pc = .ok (.iinc i cst, 3)) (hp : pc + 3 = pc') (hv : Ls[i]? = some (.val (.int x))) (hz : x + Int32.ofInt cst = z) (hl : storeLocals Ls i (.int z) = some Ls') (g : Go Z l R B ml own rt mn pc' Ls' st h L k n Q) : Go Z l R B ml own rt mn pc Ls st h L k n Q := by
  subst hz; subst hp; exact Go.pure (fun p e below T m c t hA hx hB hr => XS.iinc hA hx rfl (hb hB hd) hv hl hr) g
theorem Go.iconst {st : List Value} {i : Int} {z : Int32} (hd : decode B pc = .ok (.iconst i, 1)) (hp : pc + 1 = pc') (hz : Int32.ofInt i = z) (g : Go Z l R B ml own rt mn pc' Ls (.int z :: st) h L k n Q) : Go Z l R B ml own rt mn pc Ls st h L k n Q := by
  subst hz; subst hp; exact Go.pure (fun p e below T m c t hA hx hB hr => XS.iconst hA hx rfl (hb hB hd) hr) g
theorem Go.bipush {st : List Value} {i : Int} {z : Int32} (hd : decode B pc = .ok (.bipush i, 2)) (hp : pc + 2 = pc') (hz : (Int8.ofInt i).toInt32 = z) (g : Go Z l R B ml own rt mn pc' Ls (.int z :: st) h L k n Q) : Go Z l R B ml own rt mn pc Ls st h L k n Q := by
  subst hz; subst hp; exact Go.pure (fun p e below T m c t hA hx hB hr => XS.bipush hA hx rfl (hb hB hd) hr) g
theorem Go.sipush {st : List Value} {i : Int} {z : Int32} (hd : decode B pc = .ok (.sipush i, 3)) (hp : pc + 3 = pc') (hz : (Int16.ofInt i).toInt32 = z) (g : Go Z l R B ml own rt mn pc' Ls (.int z :: st) h L k n Q) : Go Z l R B ml own rt mn pc Ls st h L k n Q := by
  subst hz; subst hp; exact Go.pure (fun p e below T m c t hA hx hB hr => XS.sipush hA hx rfl (hb hB hd) hr) g
theorem Go.lconst {st : List Value} {i : Fin 2} {z : Int64} (hd : decode B pc = .ok (.lconst i, 1)) (hp : pc + 1 = pc') (hz : Int64.ofNat i = z) (g : Go Z l R B ml own rt mn pc' Ls (.long z :: st) h L k n Q) : Go Z l R B ml own rt mn pc Ls st h L k n Q := by
  subst hz; subst hp; exact Go.pure (fun p e below T m c t hA hx hB hr => XS.lconst hA hx rfl (hb hB hd) hr) g
theorem Go.aconstNull {st : List Value} (hd : decode B pc = .ok (.aconst_null, 1)) (hp : pc + 1 = pc') (g : Go Z l R B ml own rt mn pc' Ls (.null :: st) h L k n Q) : Go Z l R B ml own rt mn pc Ls st h L k n Q := by
  subst hp; exact Go.pure (fun p e below T m c t hA hx hB hr => XS.aconstNull hA hx rfl (hb hB hd) hr) g
theorem Go.iadd {x y z : Int32} (hd : decode B pc = .ok (.iadd, 1)) (hp : pc + 1 = pc') (hz : x + y = z) (g : Go Z l R B ml own rt mn pc' Ls (.int z :: rest) h L k n Q) : Go Z l R B ml own rt mn pc Ls (.int y :: .int x :: rest) h L k n Q := by
  subst hz; subst hp; exact Go.pure (fun p e below T m c t hA hx hB hr => XS.iadd hA hx rfl (hb hB hd) rfl hr) g
theorem Go.ladd {x y z : Int64} (hd : decode B pc = .ok (.ladd, 1)) (hp : pc + 1 = pc') (hz : x + y = z) (g : Go Z l R B ml own rt mn pc' Ls (.long z :: rest) h L k n Q) : Go Z l R B ml own rt mn pc Ls (.long y :: .long x :: rest) h L k n Q := by
  subst hz; subst hp; exact Go.pure (fun p e below T m c t hA hx hB hr => XS.ladd hA hx rfl (hb hB hd) rfl hr) g
theorem Go.isub {x y z : Int32} (hd : decode B pc = .ok (.isub, 1)) (hp : pc + 1 = pc') (hz : x - y = z) (g : Go Z l R B ml own rt mn pc' Ls (.int z :: rest) h L k n Q) : Go Z l R B ml own rt mn pc Ls (.int y :: .int x :: rest) h L k n Q := by
  subst hz; subst hp; exact Go.pure (fun p e below T m c t hA hx hB hr => XS.isub hA hx rfl (hb hB hd) rfl hr) g
theorem Go.lsub {x y z : Int64} (hd : decode B pc = .ok (.lsub, 1)) (hp : pc + 1 = pc') (hz : x - y = z) (g : Go Z l R B ml own rt mn pc' Ls (.long z :: rest) h L k n Q) : Go Z l R B ml own rt mn pc Ls (.long y :: .long x :: rest) h L k n Q := by
  subst hz; subst hp; exact Go.pure (fun p e below T m c t hA hx hB hr => XS.lsub hA hx rfl (hb hB hd) rfl hr) g
theorem Go.imul {x y z : Int32} (hd : decode B pc = .ok (.imul, 1)) (hp : pc + 1 = pc') (hz : x * y = z) (g : Go Z l R B ml own rt mn pc' Ls (.int z :: rest) h L k n Q) : Go Z l R B ml own rt mn pc Ls (.int y :: .int x :: rest) h L k n Q := by
  subst hz; subst hp; exact Go.pure (fun p e below T m c t hA hx hB hr => XS.imul hA hx rfl (hb hB hd) rfl hr) g
theorem Go.lmul {x y z : Int64} (hd : decode B pc = .ok (.lmul, 1)) (hp : pc + 1 = pc') (hz : x * y = z) (g : Go Z l R B ml own rt mn pc' Ls (.long z :: rest) h L k n Q) : Go Z l R B ml own rt mn pc Ls (.long y :: .long x :: rest) h L k n Q := by
  subst hz; subst hp; exact Go.pure (fun p e below T m c t hA hx hB hr => XS.lmul hA hx rfl (hb hB hd) rfl hr) g
theorem Go.iand {x y z : Int32} (hd : decode B pc = .ok (.iand, 1)) (hp : pc + 1 = pc') (hz : x &&& y = z) (g : Go Z l R B ml own rt mn pc' Ls (.int z :: rest) h L k n Q) : Go Z l R B ml own rt mn pc Ls (.int y :: .int x :: rest) h L k n Q := by
  subst hz; subst hp; exact Go.pure (fun p e below T m c t hA hx hB hr => XS.iand hA hx rfl (hb hB hd) rfl hr) g
theorem Go.land {x y z : Int64} (hd : decode B pc = .ok (.land, 1)) (hp : pc + 1 = pc') (hz : x &&& y = z) (g : Go Z l R B ml own rt mn pc' Ls (.long z :: rest) h L k n Q) : Go Z l R B ml own rt mn pc Ls (.long y :: .long x :: rest) h L k n Q := by
  subst hz; subst hp; exact Go.pure (fun p e below T m c t hA hx hB hr => XS.land hA hx rfl (hb hB hd) rfl hr) g
theorem Go.ior {x y z : Int32} (hd : decode B pc = .ok (.ior, 1)) (hp : pc + 1 = pc') (hz : x ||| y = z) (g : Go Z l R B ml own rt mn pc' Ls (.int z :: rest) h L k n Q) : Go Z l R B ml own rt mn pc Ls (.int y :: .int x :: rest) h L k n Q := by
  subst hz; subst hp; exact Go.pure (fun p e below T m c t hA hx hB hr => XS.ior hA hx rfl (hb hB hd) rfl hr) g
theorem Go.lor {x y z : Int64} (hd : decode B pc = .ok (.lor, 1)) (hp : pc + 1 = pc') (hz : x ||| y = z) (g : Go Z l R B ml own rt mn pc' Ls (.long z :: rest) h L k n Q) : Go Z l R B ml own rt mn pc Ls (.long y :: .long x :: rest) h L k n Q := by
  subst hz; subst hp; exact Go.pure (fun p e below T m c t hA hx hB hr => XS.lor hA hx rfl (hb hB hd) rfl hr) g
theorem Go.ixor {x y z : Int32} (hd : decode B pc = .ok (.ixor, 1)) (hp : pc + 1 = pc') (hz : x ^^^ y = z) (g : Go Z l R B ml own rt mn pc' Ls (.int z :: rest) h L k n Q) : Go Z l R B ml own rt mn pc Ls (.int y :: .int x :: rest) h L k n Q := by
  subst hz; subst hp; exact Go.pure (fun p e below T m c t hA hx hB hr => XS.ixor hA hx rfl (hb hB hd) rfl hr) g
theorem Go.lxor {x y z : Int64} (hd : decode B pc = .ok (.lxor, 1)) (hp : pc + 1 = pc') (hz : x ^^^ y = z) (g : Go Z l R B ml own rt mn pc' Ls (.long z :: rest) h L k n Q) : Go Z l R B ml own rt mn pc Ls (.long y :: .long x :: rest) h L k n Q := by
  subst hz; subst hp; exact Go.pure (fun p e below T m c t hA hx hB hr => XS.lxor hA hx rfl (hb hB hd) rfl hr) g
theorem Go.idiv {x y z : Int32} (hd : decode B pc = .ok (.idiv, 1)) (hp : pc + 1 = pc') (hy : y ≠ 0) (hz : x / y = z) (g : Go Z l R B ml own rt mn pc' Ls (.int z :: rest) h L k n Q) : Go Z l R B ml own rt mn pc Ls (.int y :: .int x :: rest) h L k n Q := by
  subst hz; subst hp; exact Go.pure (fun p e below T m c t hA hx hB hr => XS.idiv hA hx rfl (hb hB hd) rfl hy hr) g
theorem Go.ldiv {x y z : Int64} (hd : decode B pc = .ok (.ldiv, 1)) (hp : pc + 1 = pc') (hy : y ≠ 0) (hz : x / y = z) (g : Go Z l R B ml own rt mn pc' Ls (.long z :: rest) h L k n Q) : Go Z l R B ml own rt mn pc Ls (.long y :: .long x :: rest) h L k n Q := by
  subst hz; subst hp; exact Go.pure (fun p e below T m c t hA hx hB hr => XS.ldiv hA hx rfl (hb hB hd) rfl hy hr) g
theorem Go.irem {x y z : Int32} (hd : decode B pc = .ok (.irem, 1)) (hp : pc + 1 = pc') (hy : y ≠ 0) (hz : x % y = z) (g : Go Z l R B ml own rt mn pc' Ls (.int z :: rest) h L k n Q) : Go Z l R B ml own rt mn pc Ls (.int y :: .int x :: rest) h L k n Q := by
  subst hz; subst hp; exact Go.pure (fun p e below T m c t hA hx hB hr => XS.irem hA hx rfl (hb hB hd) rfl hy (by rw [show x - x / y * y = x % y from irem_eq_mod x y]; exact hr)) g
theorem Go.lrem {x y z : Int64} (hd : decode B pc = .ok (.lrem, 1)) (hp : pc + 1 = pc') (hy : y ≠ 0) (hz : x % y = z) (g : Go Z l R B ml own rt mn pc' Ls (.long z :: rest) h L k n Q) : Go Z l R B ml own rt mn pc Ls (.long y :: .long x :: rest) h L k n Q := by
  subst hz; subst hp; exact Go.pure (fun p e below T m c t hA hx hB hr => XS.lrem hA hx rfl (hb hB hd) rfl hy (by rw [show x - x / y * y = x % y from lrem_mod x y]; exact hr)) g
theorem Go.ishl {x y z : Int32} (hd : decode B pc = .ok (.ishl, 1)) (hp : pc + 1 = pc') (hz : x <<< (y &&& 31) = z) (g : Go Z l R B ml own rt mn pc' Ls (.int z :: rest) h L k n Q) : Go Z l R B ml own rt mn pc Ls (.int y :: .int x :: rest) h L k n Q := by
  subst hz; subst hp; exact Go.pure (fun p e below T m c t hA hx hB hr => XS.ishl hA hx rfl (hb hB hd) rfl hr) g
theorem Go.ishr {x y z : Int32} (hd : decode B pc = .ok (.ishr, 1)) (hp : pc + 1 = pc') (hz : x >>> (y &&& 31) = z) (g : Go Z l R B ml own rt mn pc' Ls (.int z :: rest) h L k n Q) : Go Z l R B ml own rt mn pc Ls (.int y :: .int x :: rest) h L k n Q := by
  subst hz; subst hp; exact Go.pure (fun p e below T m c t hA hx hB hr => XS.ishr hA hx rfl (hb hB hd) rfl hr) g
theorem Go.iushr {x y z : Int32} (hd : decode B pc = .ok (.iushr, 1)) (hp : pc + 1 = pc') (hz : (x.toUInt32 >>> (y &&& 31).toUInt32).toInt32 = z) (g : Go Z l R B ml own rt mn pc' Ls (.int z :: rest) h L k n Q) : Go Z l R B ml own rt mn pc Ls (.int y :: .int x :: rest) h L k n Q := by
  subst hz; subst hp; exact Go.pure (fun p e below T m c t hA hx hB hr => XS.iushr hA hx rfl (hb hB hd) rfl hr) g
theorem Go.lshl {x z : Int64} {y : Int32} (hd : decode B pc = .ok (.lshl, 1)) (hp : pc + 1 = pc') (hz : x <<< (y &&& 0x3f).toInt64 = z) (g : Go Z l R B ml own rt mn pc' Ls (.long z :: rest) h L k n Q) : Go Z l R B ml own rt mn pc Ls (.int y :: .long x :: rest) h L k n Q := by
  subst hz; subst hp; exact Go.pure (fun p e below T m c t hA hx hB hr => XS.lshl hA hx rfl (hb hB hd) rfl hr) g
theorem Go.lshr {x z : Int64} {y : Int32} (hd : decode B pc = .ok (.lshr, 1)) (hp : pc + 1 = pc') (hz : x >>> (y &&& 0x3f).toInt64 = z) (g : Go Z l R B ml own rt mn pc' Ls (.long z :: rest) h L k n Q) : Go Z l R B ml own rt mn pc Ls (.int y :: .long x :: rest) h L k n Q := by
  subst hz; subst hp; exact Go.pure (fun p e below T m c t hA hx hB hr => XS.lshr hA hx rfl (hb hB hd) rfl hr) g
theorem Go.lushr {x z : Int64} {y : Int32} (hd : decode B pc = .ok (.lushr, 1)) (hp : pc + 1 = pc') (hz : (x.toUInt64 >>> (y &&& 0x3f).toInt64.toUInt64).toInt64 = z) (g : Go Z l R B ml own rt mn pc' Ls (.long z :: rest) h L k n Q) : Go Z l R B ml own rt mn pc Ls (.int y :: .long x :: rest) h L k n Q := by
  subst hz; subst hp; exact Go.pure (fun p e below T m c t hA hx hB hr => XS.lushr hA hx rfl (hb hB hd) rfl hr) g
theorem Go.ineg {x : Int32} {z : Int32} (hd : decode B pc = .ok (.ineg, 1)) (hp : pc + 1 = pc') (hz : -x = z) (g : Go Z l R B ml own rt mn pc' Ls (.int z :: rest) h L k n Q) : Go Z l R B ml own rt mn pc Ls (.int x :: rest) h L k n Q := by
  subst hz; subst hp; exact Go.pure (fun p e below T m c t hA hx hB hr => XS.ineg hA hx rfl (hb hB hd) rfl hr) g
theorem Go.lneg {x : Int64} {z : Int64} (hd : decode B pc = .ok (.lneg, 1)) (hp : pc + 1 = pc') (hz : -x = z) (g : Go Z l R B ml own rt mn pc' Ls (.long z :: rest) h L k n Q) : Go Z l R B ml own rt mn pc Ls (.long x :: rest) h L k n Q := by
  subst hz; subst hp; exact Go.pure (fun p e below T m c t hA hx hB hr => XS.lneg hA hx rfl (hb hB hd) rfl hr) g
theorem Go.i2l {x : Int32} {z : Int64} (hd : decode B pc = .ok (.i2l, 1)) (hp : pc + 1 = pc') (hz : x.toInt64 = z) (g : Go Z l R B ml own rt mn pc' Ls (.long z :: rest) h L k n Q) : Go Z l R B ml own rt mn pc Ls (.int x :: rest) h L k n Q := by
  subst hz; subst hp; exact Go.pure (fun p e below T m c t hA hx hB hr => XS.i2l hA hx rfl (hb hB hd) rfl hr) g
theorem Go.l2i {x : Int64} {z : Int32} (hd : decode B pc = .ok (.l2i, 1)) (hp : pc + 1 = pc') (hz : x.toInt32 = z) (g : Go Z l R B ml own rt mn pc' Ls (.int z :: rest) h L k n Q) : Go Z l R B ml own rt mn pc Ls (.long x :: rest) h L k n Q := by
  subst hz; subst hp; exact Go.pure (fun p e below T m c t hA hx hB hr => XS.l2i hA hx rfl (hb hB hd) rfl hr) g
theorem Go.i2b {x : Int32} {z : Int32} (hd : decode B pc = .ok (.i2b, 1)) (hp : pc + 1 = pc') (hz : x.toInt8.toInt32 = z) (g : Go Z l R B ml own rt mn pc' Ls (.int z :: rest) h L k n Q) : Go Z l R B ml own rt mn pc Ls (.int x :: rest) h L k n Q := by
  subst hz; subst hp; exact Go.pure (fun p e below T m c t hA hx hB hr => XS.i2b hA hx rfl (hb hB hd) rfl hr) g
theorem Go.i2s {x : Int32} {z : Int32} (hd : decode B pc = .ok (.i2s, 1)) (hp : pc + 1 = pc') (hz : x.toInt16.toInt32 = z) (g : Go Z l R B ml own rt mn pc' Ls (.int z :: rest) h L k n Q) : Go Z l R B ml own rt mn pc Ls (.int x :: rest) h L k n Q := by
  subst hz; subst hp; exact Go.pure (fun p e below T m c t hA hx hB hr => XS.i2s hA hx rfl (hb hB hd) rfl hr) g
theorem Go.i2c {x : Int32} {z : Int32} (hd : decode B pc = .ok (.i2c, 1)) (hp : pc + 1 = pc') (hz : x.toUInt32.toUInt16.toUInt32.toInt32 = z) (g : Go Z l R B ml own rt mn pc' Ls (.int z :: rest) h L k n Q) : Go Z l R B ml own rt mn pc Ls (.int x :: rest) h L k n Q := by
  subst hz; subst hp; exact Go.pure (fun p e below T m c t hA hx hB hr => XS.i2c hA hx rfl (hb hB hd) rfl hr) g
theorem Go.dup {x : Value} (hd : decode B pc = .ok (.dup, 1)) (hp : pc + 1 = pc') (hc : x.category = 1) (g : Go Z l R B ml own rt mn pc' Ls (x :: x :: rest) h L k n Q) : Go Z l R B ml own rt mn pc Ls (x :: rest) h L k n Q := by
  subst hp; exact Go.pure (fun p e below T m c t hA hx hB hr => XS.dup hA hx rfl (hb hB hd) rfl hc hr) g
theorem Go.dupX1 {x y : Value} (hd : decode B pc = .ok (.dup_x1, 1)) (hp : pc + 1 = pc') (hc : x.category = 1) (hc' : y.category = 1) (g : Go Z l R B ml own rt mn pc' Ls (x :: y :: x :: rest) h L k n Q) : Go Z l R B ml own rt mn pc Ls (x :: y :: rest) h L k n Q := by
  subst hp; exact Go.pure (fun p e below T m c t hA hx hB hr => XS.dupX1 hA hx rfl (hb hB hd) rfl hc hc' hr) g
theorem Go.pop {x : Value} (hd : decode B pc = .ok (.pop, 1)) (hp : pc + 1 = pc') (hc : x.category = 1) (g : Go Z l R B ml own rt mn pc' Ls rest h L k n Q) : Go Z l R B ml own rt mn pc Ls (x :: rest) h L k n Q := by
  subst hp; exact Go.pure (fun p e below T m c t hA hx hB hr => XS.pop hA hx rfl (hb hB hd) rfl hc hr) g
theorem Go.dup2 {x y : Value} (hd : decode B pc = .ok (.dup2, 1)) (hp : pc + 1 = pc') (hc : x.category = 1) (hc' : y.category = 1) (g : Go Z l R B ml own rt mn pc' Ls (x :: y :: x :: y :: rest) h L k n Q) : Go Z l R B ml own rt mn pc Ls (x :: y :: rest) h L k n Q := by
  subst hp; exact Go.pure (fun p e below T m c t hA hx hB hr => XT.dup2 hA hx rfl (hb hB hd) rfl hc hc' hr) g
theorem Go.dup2L {x : Int64} (hd : decode B pc = .ok (.dup2, 1)) (hp : pc + 1 = pc') (g : Go Z l R B ml own rt mn pc' Ls (.long x :: .long x :: rest) h L k n Q) : Go Z l R B ml own rt mn pc Ls (.long x :: rest) h L k n Q := by
  subst hp; exact Go.pure (fun p e below T m c t hA hx hB hr => XT.dup2L hA hx rfl (hb hB hd) rfl hr) g
theorem Go.goto {st : List Value} {o : Int} (hd : decode B pc = .ok (.goto o, 3)) (hp : (pc : Int) + o = (pc' : Int)) (g : Go Z l R B ml own rt mn pc' Ls st h L k n Q) : Go Z l R B ml own rt mn pc Ls st h L k n Q :=
  Go.pure (fun p e below T m c t hA hx hB hr => XS.goto hA hx rfl rfl (hb hB hd) (by rw [hp]; omega) (by rw [hp]; rfl) hr) g
/-- what a branch says when it is taken, and when it isn't -/
def cT : ClassFile.Cond → Int → Int → Prop
  | .lt, x, y => x < y | .ge, x, y => ¬ x < y | .gt, x, y => y < x | .le, x, y => ¬ y < x | .eq, x, y => x = y | .ne, x, y => ¬ x = y
def cF : ClassFile.Cond → Int → Int → Prop
  | .lt, x, y => ¬ x < y | .ge, x, y => x < y | .gt, x, y => ¬ y < x | .le, x, y => y < x | .eq, x, y => ¬ x = y | .ne, x, y => x = y
theorem icT {cd : ClassFile.Cond} {x y : Int32} (q : cT cd x.toInt y.toInt) : if_icmp.holds cd x y = true := by
  cases cd <;> simp only [cT] at q <;> first
    | exact (teq (Int32.toInt_inj.mp q)).1
    | exact (feq (fun r => q (congrArg _ r))).2
    | exact (tlt (Int32.lt_iff_toInt_lt.mpr q)).1
    | exact (flt (fun r => q (Int32.lt_iff_toInt_lt.mp r))).2.1
    | exact (tlt (Int32.lt_iff_toInt_lt.mpr q)).2.2.1
    | exact (flt (fun r => q (Int32.lt_iff_toInt_lt.mp r))).2.2.2
theorem icF {cd : ClassFile.Cond} {x y : Int32} (q : cF cd x.toInt y.toInt) : if_icmp.holds cd x y = false := by
  cases cd <;> simp only [cF] at q <;> first
    | exact (feq (fun r => q (congrArg _ r))).1
    | exact (teq (Int32.toInt_inj.mp q)).2
    | exact (flt (fun r => q (Int32.lt_iff_toInt_lt.mp r))).1
    | exact (tlt (Int32.lt_iff_toInt_lt.mpr q)).2.1
    | exact (flt (fun r => q (Int32.lt_iff_toInt_lt.mp r))).2.2.1
    | exact (tlt (Int32.lt_iff_toInt_lt.mpr q)).2.2.2
theorem lcT {cd : ClassFile.Cond} {x y : Int64} (q : cT cd x.toInt y.toInt) : ifCond.holds cd (lcmpW x y) = true := by
  rw [if0]; refine icT ?_
  have := c_lcmp x y
  have z0 : (0 : Int32).toInt = 0 := rfl
  cases cd <;> simp only [cT, z0] at q ⊢ <;> omega
theorem lcF {cd : ClassFile.Cond} {x y : Int64} (q : cF cd x.toInt y.toInt) : ifCond.holds cd (lcmpW x y) = false := by
  rw [if0]; refine icF ?_
  have := c_lcmp x y
  have z0 : (0 : Int32).toInt = 0 := rfl
  cases cd <;> simp only [cF, z0] at q ⊢ <;> omega
theorem Go.icmpT {cd : ClassFile.Cond} {x y : Int32} {X Y : Int} {o : Int} (hd : decode B pc = .ok (.if_icmp cd o, 3)) (hp : (pc : Int) + o = (pc' : Int)) (hX : x.toInt = X) (hY : y.toInt = Y) (hc : cT cd X Y) (g : Go Z l R B ml own rt mn pc' Ls rest h L k n Q) : Go Z l R B ml own rt mn pc Ls (.int y :: .int x :: rest) h L k n Q := by
  subst hX hY
  exact Go.pure (fun p e below T m c t hA hx hB hr => XS.icmpYes hA hx rfl rfl (hb hB hd) rfl (icT hc) (by rw [hp]; omega) (by rw [hp]; rfl) hr) g
theorem Go.icmpF {cd : ClassFile.Cond} {x y : Int32} {X Y : Int} {o : Int} (hd : decode B pc = .ok (.if_icmp cd o, 3)) (hp : pc + 3 = pc') (hX : x.toInt = X) (hY : y.toInt = Y) (hc : cF cd X Y) (g : Go Z l R B ml own rt mn pc' Ls rest h L k n Q) : Go Z l R B ml own rt mn pc Ls (.int y :: .int x :: rest) h L k n Q := by
  subst hX hY hp
  exact Go.pure (fun p e below T m c t hA hx hB hr => XS.icmpNo hA hx rfl (hb hB hd) rfl (icF hc) hr) g
theorem Go.ifT {cd : ClassFile.Cond} {x : Int32} {X : Int} {o : Int} (hd : decode B pc = .ok (.ifCond cd o, 3)) (hp : (pc : Int) + o = (pc' : Int)) (hX : x.toInt = X) (hc : cT cd X 0) (g : Go Z l R B ml own rt mn pc' Ls rest h L k n Q) : Go Z l R B ml own rt mn pc Ls (.int x :: rest) h L k n Q := by
  subst hX
  exact Go.pure (fun p e below T m c t hA hx hB hr => XS.ifYes hA hx rfl rfl (hb hB hd) rfl ((if0 _ _).trans (icT hc)) (by rw [hp]; omega) (by rw [hp]; rfl) hr) g
theorem Go.ifF {cd : ClassFile.Cond} {x : Int32} {X : Int} {o : Int} (hd : decode B pc = .ok (.ifCond cd o, 3)) (hp : pc + 3 = pc') (hX : x.toInt = X) (hc : cF cd X 0) (g : Go Z l R B ml own rt mn pc' Ls rest h L k n Q) : Go Z l R B ml own rt mn pc Ls (.int x :: rest) h L k n Q := by
  subst hX hp
  exact Go.pure (fun p e below T m c t hA hx hB hr => XS.ifNo hA hx rfl (hb hB hd) rfl ((if0 _ _).trans (icF hc)) hr) g
/-- lcmp and the branch behind it, in one -/
theorem Go.lcmpT {cd : ClassFile.Cond} {x y : Int64} {X Y : Int} {o : Int} {pc1 : Nat} (hd : decode B pc = .ok (.lcmp, 1)) (hd' : decode B pc1 = .ok (.ifCond cd o, 3)) (hp1 : pc + 1 = pc1) (hp : (pc1 : Int) + o = (pc' : Int)) (hX : x.toInt = X) (hY : y.toInt = Y) (hc : cT cd X Y) (g : Go Z l R B ml own rt mn pc' Ls rest h L k n Q) : Go Z l R B ml own rt mn pc Ls (.long y :: .long x :: rest) h L k n Q := by
  subst hX hY hp1
  exact Go.pure (fun p e below T m c t hA hx hB hr => XS.lcmp hA hx rfl (hb hB hd) rfl hr) (Go.pure (pc := pc + 1) (fun p e below T m c t hA hx hB hr => XS.ifYes hA hx rfl rfl (hb hB hd') rfl (lcT hc) (by rw [hp]; omega) (by rw [hp]; rfl) hr) g)
theorem Go.lcmpF {cd : ClassFile.Cond} {x y : Int64} {X Y : Int} {o : Int} {pc1 : Nat} (hd : decode B pc = .ok (.lcmp, 1)) (hd' : decode B pc1 = .ok (.ifCond cd o, 3)) (hp1 : pc + 1 = pc1) (hp : pc1 + 3 = pc') (hX : x.toInt = X) (hY : y.toInt = Y) (hc : cF cd X Y) (g : Go Z l R B ml own rt mn pc' Ls rest h L k n Q) : Go Z l R B ml own rt mn pc Ls (.long y :: .long x :: rest) h L k n Q := by
  subst hX hY hp1 hp
  exact Go.pure (fun p e below T m c t hA hx hB hr => XS.lcmp hA hx rfl (hb hB hd) rfl hr) (Go.pure (pc := pc + 1) (fun p e below T m c t hA hx hB hr => XS.ifNo hA hx rfl (hb hB hd') rfl (lcF hc) hr) g)
/-- one step that asks where the walk stands -/
theorem Go.stand {st st' : List Value} {Ls' : Array Slot} (step : ∀ (p : Program) (e : Env) (s : State) (m : MethodId) (args : Array Value) (below : List Frame) (meth : Method) (c : Code) (T : State) (target : State), Stand p l e R s m args below meth c T L k n → p.tables.exec = Jvm.exec → Z.Warmed39 s.vm → c.code = B → s.vm.findClass own = some m.cls → T.heap = h →
      Steps p.tables e below (T.setTop (mkF m pc' Ls' st')) target → Steps p.tables e below (T.setTop (mkF m pc Ls st)) target)
    (g : Go Z l R B ml own rt mn pc' Ls' st' h L k n Q) : Go Z l R B ml own rt mn pc Ls st h L k n Q := by
  intro p e s m args below meth c T X hx hZ hby hml hown hrt hlk hnm eT
  obtain ⟨s₂, o, h1, h2⟩ := g p e s m args below meth c T X hx hZ hby hml hown hrt hlk hnm eT
  exact ⟨s₂, o, step p e s m args below meth c T s₂ X hx hZ hby hown eT h1, h2⟩
theorem Go.acmp {cd : ACond} {x y : Value} {o : Int} {same : Bool} (hd : decode B pc = .ok (.if_acmp cd o, 3)) (h1 : x.isRef = true) (h2 : y.isRef = true) (hq : decide (x = y) = same) (ho : 0 ≤ (pc : Int) + o) (hp : pc' = if acV cd same = true then ((pc : Int) + o).toNat else pc + 3) (g : Go Z l R B ml own rt mn pc' Ls rest h L k n Q) : Go Z l R B ml own rt mn pc Ls (y :: x :: rest) h L k n Q :=
  Go.stand (fun p e s m args below meth c T t X hx hZ hB hown eT hr => Jvm.RoadKit.acmp (g := mkF m pc Ls (y :: x :: rest)) X hx rfl h1 h2 (pc0 := pc) (pc' := pc') (same := same) rfl (hb hB hd) rfl hq ho hp hr) g
theorem Go.ldcI {a0 : Array Value} {st : List Value} {i : Nat} {v : Int32} (hd : decode B pc = .ok (.ldc i, 2)) (hp : pc + 2 = pc') (w : (Jvm.Cond.constant own i v).before a0 Z = true) (g : Go Z l R B ml own rt mn pc' Ls (.int v :: st) h L k n Q) : Go Z l R B ml own rt mn pc Ls st h L k n Q := by
  subst hp
  exact Go.stand (fun p e s m args below meth c T t X hx hZ hB hown eT hr => X.ldcInt hx hown (mvT hZ w) (g := mkF m pc Ls st) rfl (hb hB hd) _ hr) g
theorem Go.ldcF {a0 : Array Value} {st : List Value} {i : Nat} {v : UInt32} (hd : decode B pc = .ok (.ldc i, 2)) (hp : pc + 2 = pc') (w : (Jvm.Cond.constantFloat own i v).before a0 Z = true) (g : Go Z l R B ml own rt mn pc' Ls (.float v :: st) h L k n Q) : Go Z l R B ml own rt mn pc Ls st h L k n Q := by
  subst hp
  exact Go.stand (fun p e s m args below meth c T t X hx hZ hB hown eT hr => X.ldcFloatC hx hown (mvT hZ w) (g := mkF m pc Ls st) rfl (hb hB hd) _ hr) g
theorem Go.ldc2 {a0 : Array Value} {st : List Value} {i : Nat} {v : Int64} (hd : decode B pc = .ok (.ldc2_w i, 3)) (hp : pc + 3 = pc') (w : (Jvm.Cond.constantLong own i v).before a0 Z = true) (g : Go Z l R B ml own rt mn pc' Ls (.long v :: st) h L k n Q) : Go Z l R B ml own rt mn pc Ls st h L k n Q := by
  subst hp
  exact Go.stand (fun p e s m args below meth c T t X hx hZ hB hown eT hr => X.ldc2Long hx hown (mvT hZ w) (g := mkF m pc Ls st) rfl (hb hB hd) _ hr) g
theorem Go.retI {z : Int32} (hd : decode B pc = .ok (.ireturn, 1)) (hrt' : rt = some .int) (hk : k ≤ R.cells) (hn : n ≤ R.slots) (q : Q (some (.int z)) h L) : Go Z l R B ml own rt mn pc Ls ((.int z) :: rest) h L k n Q := by
  intro p e s m args below meth c T X hx hZ hby hml hown hrt hlk hnm eT
  obtain ⟨fs, hr, hrun, hended, hW, hsame⟩ := X.leave (v := some (.int z)) (fun r => by rw [hrt, hrt'] at r; cases r)
  refine ⟨_, _, retOut X hx (hrt.trans hrt') (show narrow .int (.int z) = .int z from rfl) (Or.inl ⟨rfl, Or.inl rfl, _, rfl⟩) (hb hby hd) hr, hrun, hended, _, _, rfl, ?_, ⟨_, rfl⟩, hW, hsame.mono hk hn⟩
  show Q _ T.heap _
  rw [eT]; exact q
theorem Go.retZ {z : Int32} (hd : decode B pc = .ok (.ireturn, 1)) (hrt' : rt = some .boolean) (hz : z = 0 ∨ z = 1) (hk : k ≤ R.cells) (hn : n ≤ R.slots) (q : Q (some (.int z)) h L) : Go Z l R B ml own rt mn pc Ls ((.int z) :: rest) h L k n Q := by
  intro p e s m args below meth c T X hx hZ hby hml hown hrt hlk hnm eT
  obtain ⟨fs, hr, hrun, hended, hW, hsame⟩ := X.leave (v := some (.int z)) (fun r => by rw [hrt, hrt'] at r; cases r)
  refine ⟨_, _, retOut X hx (hrt.trans hrt') (show narrow .boolean (.int z) = .int z by rcases hz with rfl | rfl <;> rfl) (Or.inl ⟨rfl, Or.inr (Or.inl rfl), _, rfl⟩) (hb hby hd) hr, hrun, hended, _, _, rfl, ?_, ⟨_, rfl⟩, hW, hsame.mono hk hn⟩
  show Q _ T.heap _
  rw [eT]; exact q
theorem Go.retB {z : Int32} (hd : decode B pc = .ok (.ireturn, 1)) (hrt' : rt = some .byte) (hz : z.toInt8.toInt32 = z) (hk : k ≤ R.cells) (hn : n ≤ R.slots) (q : Q (some (.int z)) h L) : Go Z l R B ml own rt mn pc Ls ((.int z) :: rest) h L k n Q := by
  intro p e s m args below meth c T X hx hZ hby hml hown hrt hlk hnm eT
  obtain ⟨fs, hr, hrun, hended, hW, hsame⟩ := X.leave (v := some (.int z)) (fun r => by rw [hrt, hrt'] at r; cases r)
  refine ⟨_, _, retOut X hx (hrt.trans hrt') (show narrow .byte (.int z) = .int z from congrArg Value.int hz) (Or.inl ⟨rfl, Or.inr (Or.inr (Or.inl rfl)), _, rfl⟩) (hb hby hd) hr, hrun, hended, _, _, rfl, ?_, ⟨_, rfl⟩, hW, hsame.mono hk hn⟩
  show Q _ T.heap _
  rw [eT]; exact q
theorem Go.retJ {z : Int64} (hd : decode B pc = .ok (.lreturn, 1)) (hrt' : rt = some .long) (hk : k ≤ R.cells) (hn : n ≤ R.slots) (q : Q (some (.long z)) h L) : Go Z l R B ml own rt mn pc Ls ((.long z) :: rest) h L k n Q := by
  intro p e s m args below meth c T X hx hZ hby hml hown hrt hlk hnm eT
  obtain ⟨fs, hr, hrun, hended, hW, hsame⟩ := X.leave (v := some (.long z)) (fun r => by rw [hrt, hrt'] at r; cases r)
  refine ⟨_, _, retOut X hx (hrt.trans hrt') (show narrow .long (.long z) = .long z from rfl) (Or.inr (Or.inl ⟨rfl, rfl, _, rfl⟩)) (hb hby hd) hr, hrun, hended, _, _, rfl, ?_, ⟨_, rfl⟩, hW, hsame.mono hk hn⟩
  show Q _ T.heap _
  rw [eT]; exact q
theorem Go.retA {z : Value} {t : FieldType} (hd : decode B pc = .ok (.areturn, 1)) (hrt' : rt = some t) (ht : t.isReference = true) (hz : z.isRef = true) (hk : k ≤ R.cells) (hn : n ≤ R.slots) (q : Q (some z) h L) : Go Z l R B ml own rt mn pc Ls (z :: rest) h L k n Q := by
  intro p e s m args below meth c T X hx hZ hby hml hown hrt hlk hnm eT
  obtain ⟨fs, hr, hrun, hended, hW, hsame⟩ := X.leave (v := some z) (fun r => by rw [hrt, hrt'] at r; cases r)
  refine ⟨_, _, retOut X hx (hrt.trans hrt') (show narrow t z = z by rcases ref_cases hz with rfl | ⟨a, rfl⟩ <;> cases t <;> first | rfl | (simp [FieldType.isReference] at ht)) (Or.inr (Or.inr (Or.inr (Or.inr ⟨rfl, ht, hz⟩)))) (hb hby hd) hr, hrun, hended, _, _, rfl, ?_, ⟨_, rfl⟩, hW, hsame.mono hk hn⟩
  show Q _ T.heap _
  rw [eT]; exact q
theorem Go.retV (hd : decode B pc = .ok (.return_, 1)) (hrt' : rt = none) (hk : k ≤ R.cells) (hn : n ≤ R.slots) (q : Q none h L) : Go Z l R B ml own rt mn pc Ls [] h L k n Q := by
  intro p e s m args below meth c T X hx hZ hby hml hown hrt hlk hnm eT
  obtain ⟨fs, hr, hrun, hended, hW, hsame⟩ := X.leave (v := none) (fun _ => rfl)
  refine ⟨_, _, X.returnOut hx (hrt.trans hrt') (hb hby hd) hr, hrun, hended, _, _, rfl, ?_, ⟨_, rfl⟩, hW, hsame.mono hk hn⟩
  show Q _ T.heap _
  rw [eT]; exact q
theorem sel_priv {a0 args : Array Value} {s : State} {y : MethodName} {kk : Nat} (hZ : Z.Warmed39 s.vm) (wi : (Jvm.Cond.instantiable y.cls kk).before a0 Z = true) (wp : (Jvm.Cond.privateMethod y).before a0 Z = true) (w2 : (Jvm.Cond.instanceMethod y).before a0 Z = true) (hy : y.cls ≠ "java/lang/invoke/MethodHandle" ∧ y.cls ≠ "java/lang/invoke/VarHandle") : (Jvm.Cond.selects y.cls y y).before args s = true := by
  have wi' : (Jvm.Cond.instantiable y.cls kk).before args s = true := mvT hZ wi
  obtain ⟨cI, kI, i1, i2, -, i4, -⟩ := Cond.instantiable_spec wi'
  exact selects_self_of_private i1 i2 (Bool.or_eq_false_iff.mp i4).1 (Cond.privateMethod_at (mvP hZ wp (args := #[]))) (mvT hZ w2) hy
theorem Go.callS {a0 : Array Value} {i : Nat} {y : MethodName} {B' : ByteArray} {ml' : Nat} {rt' : Option FieldType} {R' : Room} {Q' : Option Value → Heap → List Loc → Prop} {W : Nat} {argsL : List Value} {st : List Value} {ps : List FieldType} {r : Option FieldType}
    (hd : decode B pc = .ok (.invokestatic i, 3)) (hp : pc + 3 = pc') (w1 : (Jvm.Cond.methodLink own i y).before a0 Z = true) (w2 : (Jvm.Cond.static y).before a0 Z = true) (w3 : (Jvm.Cond.initialized y.cls).before a0 Z = true) (w4 : (Jvm.Cond.code y B' ml' rt').before a0 Z = true) (hy : y.cls ≠ "java/lang/invoke/MethodHandle" ∧ y.cls ≠ "java/lang/invoke/VarHandle")
    (con : Con l Z y B' ml' rt' R' [] argsL.toArray h Q') (hf : R'.frames + 1 ≤ R.frames) (hl : W + (ml' + 11) + R'.locals ≤ R.locals) {k' n' : Nat} (hc : k + R'.cells ≤ R.cells) (hn : n + R'.slots ≤ R.slots) (hk' : k + R'.cells = k') (hn' : n + R'.slots = n') (hsz : Ls.size = ml) (hpd : parseMethodDescriptor y.desc = some ⟨ps, r⟩) (hlen : argsL.length = ps.length) (hst : st = argsL.reverse ++ rest) (hW : (rest.map fun v => v.category).sum ≤ W)
    (g : ∀ v h' L' L'', (∀ q, Fr q L → Fr q L' → Fr q L'') → Q' v h' L' → Go Z l R B ml own rt mn pc' Ls (v.toList ++ rest) h' L'' k' n' Q) : Go Z l R B ml own rt mn pc Ls st h L k n Q := by
  subst hp hk' hn'
  intro p e s m args below meth c T X hx hZ hby hml hown hrt hlk hnm eT
  obtain ⟨v, _, ⟨U, ls, cc, sl⟩, -, X', ⟨Lc, hQ, l1, y1, z1⟩, stp⟩ := Jvm.LawKit.callS X hx (y := y) hown (mvT hZ w1) (mvT hZ w2) (mvT hZ w3) (mvT hZ w4) hy (backOf (W := W) con hZ w4 w3 hf hl) (g := mkF m pc Ls st) rfl (hsz.trans hml.symm) (argsL := argsL) (rest := rest) (lenOf hpd hlen) hst (by show 2 * 0 + _ ≤ _; omega) (hb hby hd) (fun _ _ => ⟨rfl, eT, hc, hn⟩)
  dsimp only [Pt.U, Pt.locs, Pt.cells, Pt.slots] at X' hQ l1 y1 z1 stp
  subst l1 y1 z1
  obtain ⟨s₂, o, h1, h2⟩ := g v U.heap Lc _ (fun q a b => a.app b) hQ p e s m args below meth c U X' hx hZ hby hml hown hrt hlk hnm rfl
  exact ⟨s₂, o, stp _ h1, h2⟩
theorem Go.callS0 {a0 : Array Value} {i : Nat} {y : MethodName} {B' : ByteArray} {ml' : Nat} {rt' : Option FieldType} {R' : Room} {v0 : Option Value} {W : Nat} {argsL : List Value} {st : List Value} {ps : List FieldType} {r : Option FieldType}
    (hd : decode B pc = .ok (.invokestatic i, 3)) (hp : pc + 3 = pc') (w1 : (Jvm.Cond.methodLink own i y).before a0 Z = true) (w2 : (Jvm.Cond.static y).before a0 Z = true) (w3 : (Jvm.Cond.initialized y.cls).before a0 Z = true) (w4 : (Jvm.Cond.code y B' ml' rt').before a0 Z = true) (hy : y.cls ≠ "java/lang/invoke/MethodHandle" ∧ y.cls ≠ "java/lang/invoke/VarHandle")
    (con : Con l Z y B' ml' rt' R' [] argsL.toArray h (PQ h v0)) (hf : R'.frames + 1 ≤ R.frames) (hl : W + (ml' + 11) + R'.locals ≤ R.locals) {st2 : List Value} (hs2 : v0.toList ++ rest = st2) (hc : R'.cells = 0) (hn : R'.slots = 0) (hk : k ≤ R.cells) (hn2 : n ≤ R.slots) (hsz : Ls.size = ml) (hpd : parseMethodDescriptor y.desc = some ⟨ps, r⟩) (hlen : argsL.length = ps.length) (hst : st = argsL.reverse ++ rest) (hW : (rest.map fun v => v.category).sum ≤ W)
    (g : Go Z l R B ml own rt mn pc' Ls st2 h L k n Q) : Go Z l R B ml own rt mn pc Ls st h L k n Q := by
  subst hp hs2
  intro p e s m args below meth c T X hx hZ hby hml hown hrt hlk hnm eT
  obtain ⟨v, _, ⟨U, ls, cc, sl⟩, -, X', ⟨Lc, hQ, l1, y1, z1⟩, stp⟩ := Jvm.LawKit.callS X hx (y := y) hown (mvT hZ w1) (mvT hZ w2) (mvT hZ w3) (mvT hZ w4) hy (backOf (W := W) con hZ w4 w3 hf hl) (g := mkF m pc Ls st) rfl (hsz.trans hml.symm) (argsL := argsL) (rest := rest) (lenOf hpd hlen) hst (by show 2 * 0 + _ ≤ _; omega) (hb hby hd) (fun _ _ => ⟨rfl, eT, (by rw [hc]; exact hk), (by rw [hn]; exact hn2)⟩)
  dsimp only [Pt.U, Pt.locs, Pt.cells, Pt.slots] at X' hQ l1 y1 z1 stp
  obtain ⟨q1, q2, q3⟩ := hQ
  rw [q3, List.append_nil] at l1
  rw [hc, Nat.add_zero] at y1
  rw [hn, Nat.add_zero] at z1
  subst l1 y1 z1
  rw [q1] at stp
  obtain ⟨s₂, o, h1, h2⟩ := g p e s m args below meth c U X' hx hZ hby hml hown hrt hlk hnm q2
  exact ⟨s₂, o, stp _ h1, h2⟩
theorem Go.callI {a0 : Array Value} {i : Nat} {y : MethodName} {B' : ByteArray} {ml' : Nat} {R' : Room} {Q' : Option Value → Heap → List Loc → Prop} {W : Nat} {a : Addr} {argsL : List Value} {st : List Value} {ps : List FieldType} {r : Option FieldType}
    (hd : decode B pc = .ok (.invokespecial i, 3)) (hp : pc + 3 = pc') (hy1 : y.name = "<init>") (w1 : (Jvm.Cond.methodLink own i y).before a0 Z = true) (w2 : (Jvm.Cond.instanceMethod y).before a0 Z = true) (w3 : (Jvm.Cond.initialized y.cls).before a0 Z = true) (w4 : (Jvm.Cond.code y B' ml' none).before a0 Z = true) (hy : y.cls ≠ "java/lang/invoke/MethodHandle" ∧ y.cls ≠ "java/lang/invoke/VarHandle")
    (con : Con l Z y B' ml' none R' [] (.ref a :: argsL).toArray h Q') (hf : R'.frames + 1 ≤ R.frames) (hl : W + (ml' + 11) + R'.locals ≤ R.locals) {k' n' : Nat} (hc : k + R'.cells ≤ R.cells) (hn : n + R'.slots ≤ R.slots) (hk' : k + R'.cells = k') (hn' : n + R'.slots = n') (hsz : Ls.size = ml) (hpd : parseMethodDescriptor y.desc = some ⟨ps, r⟩) (hlen : argsL.length = ps.length) (hst : st = argsL.reverse ++ .ref a :: rest) (hW : (rest.map fun v => v.category).sum ≤ W)
    (g : ∀ v h' L' L'', (∀ q, Fr q L → Fr q L' → Fr q L'') → Q' v h' L' → Go Z l R B ml own rt mn pc' Ls (v.toList ++ rest) h' L'' k' n' Q) : Go Z l R B ml own rt mn pc Ls st h L k n Q := by
  subst hp hk' hn'
  intro p e s m args below meth c T X hx hZ hby hml hown hrt hlk hnm eT
  obtain ⟨v, _, ⟨U, ls, cc, sl⟩, -, X', ⟨Lc, hQ, l1, y1, z1⟩, stp⟩ := X.specialBack hx (y := y) hy1 hown (mvT hZ w1) (mvT hZ w2) (mvT hZ w4) hy (backOf (W := W) con hZ w4 w3 hf hl) (g := mkF m pc Ls st) rfl (hsz.trans hml.symm) (Steps.refl _) (a := a) (argsL := argsL) (rest := rest) (lenOf hpd hlen) hst (by show 2 * 0 + _ ≤ _; omega) (hb hby hd) (fun _ _ => ⟨rfl, eT, hc, hn⟩)
  dsimp only [Pt.U, Pt.locs, Pt.cells, Pt.slots] at X' hQ l1 y1 z1 stp
  subst l1 y1 z1
  obtain ⟨s₂, o, h1, h2⟩ := g v U.heap Lc _ (fun q a b => a.app b) hQ p e s m args below meth c U X' hx hZ hby hml hown hrt hlk hnm rfl
  exact ⟨s₂, o, stp.trans h1, h2⟩
theorem Go.callI0 {a0 : Array Value} {i : Nat} {y : MethodName} {B' : ByteArray} {ml' : Nat} {R' : Room} {v0 : Option Value} {W : Nat} {a : Addr} {argsL : List Value} {st : List Value} {ps : List FieldType} {r : Option FieldType}
    (hd : decode B pc = .ok (.invokespecial i, 3)) (hp : pc + 3 = pc') (hy1 : y.name = "<init>") (w1 : (Jvm.Cond.methodLink own i y).before a0 Z = true) (w2 : (Jvm.Cond.instanceMethod y).before a0 Z = true) (w3 : (Jvm.Cond.initialized y.cls).before a0 Z = true) (w4 : (Jvm.Cond.code y B' ml' none).before a0 Z = true) (hy : y.cls ≠ "java/lang/invoke/MethodHandle" ∧ y.cls ≠ "java/lang/invoke/VarHandle")
    (con : Con l Z y B' ml' none R' [] (.ref a :: argsL).toArray h (PQ h v0)) (hf : R'.frames + 1 ≤ R.frames) (hl : W + (ml' + 11) + R'.locals ≤ R.locals) {st2 : List Value} (hs2 : v0.toList ++ rest = st2) (hc : R'.cells = 0) (hn : R'.slots = 0) (hk : k ≤ R.cells) (hn2 : n ≤ R.slots) (hsz : Ls.size = ml) (hpd : parseMethodDescriptor y.desc = some ⟨ps, r⟩) (hlen : argsL.length = ps.length) (hst : st = argsL.reverse ++ .ref a :: rest) (hW : (rest.map fun v => v.category).sum ≤ W)
    (g : Go Z l R B ml own rt mn pc' Ls st2 h L k n Q) : Go Z l R B ml own rt mn pc Ls st h L k n Q := by
  subst hp hs2
  intro p e s m args below meth c T X hx hZ hby hml hown hrt hlk hnm eT
  obtain ⟨v, _, ⟨U, ls, cc, sl⟩, -, X', ⟨Lc, hQ, l1, y1, z1⟩, stp⟩ := X.specialBack hx (y := y) hy1 hown (mvT hZ w1) (mvT hZ w2) (mvT hZ w4) hy (backOf (W := W) con hZ w4 w3 hf hl) (g := mkF m pc Ls st) rfl (hsz.trans hml.symm) (Steps.refl _) (a := a) (argsL := argsL) (rest := rest) (lenOf hpd hlen) hst (by show 2 * 0 + _ ≤ _; omega) (hb hby hd) (fun _ _ => ⟨rfl, eT, (by rw [hc]; exact hk), (by rw [hn]; exact hn2)⟩)
  dsimp only [Pt.U, Pt.locs, Pt.cells, Pt.slots] at X' hQ l1 y1 z1 stp
  obtain ⟨q1, q2, q3⟩ := hQ
  rw [q3, List.append_nil] at l1
  rw [hc, Nat.add_zero] at y1
  rw [hn, Nat.add_zero] at z1
  subst l1 y1 z1
  rw [q1] at stp
  obtain ⟨s₂, o, h1, h2⟩ := g p e s m args below meth c U X' hx hZ hby hml hown hrt hlk hnm q2
  exact ⟨s₂, o, stp.trans h1, h2⟩
theorem Go.callV {a0 : Array Value} {i : Nat} {C : String} {y z : MethodName} {B' : ByteArray} {ml' : Nat} {rt' : Option FieldType} {R' : Room} {Q' : Option Value → Heap → List Loc → Prop} {W : Nat} {a : Addr} {argsL : List Value} {st : List Value} {ps : List FieldType} {r : Option FieldType}
    (hd : decode B pc = .ok (.invokevirtual i, 3)) (hp : pc + 3 = pc') (w1 : (Jvm.Cond.methodLink own i y).before a0 Z = true) (w2 : (Jvm.Cond.declares y).before a0 Z = true) (nf : ∀ (s : State) (args : Array Value), Z.Warmed39 s.vm → NotFace s y) (w5 : (Jvm.Cond.selects C y z).before a0 Z = true) (w6 : (Jvm.Cond.instanceMethod z).before a0 Z = true) (w3 : (Jvm.Cond.initialized z.cls).before a0 Z = true) (w4 : (Jvm.Cond.code z B' ml' rt').before a0 Z = true) (E : Exa Z h a C) (hy : y.cls ≠ "java/lang/invoke/MethodHandle" ∧ y.cls ≠ "java/lang/invoke/VarHandle")
    (con : Con l Z z B' ml' rt' R' [] (.ref a :: argsL).toArray h Q') (hf : R'.frames + 1 ≤ R.frames) (hl : W + (ml' + 11) + R'.locals ≤ R.locals) {k' n' : Nat} (hc : k + R'.cells ≤ R.cells) (hn : n + R'.slots ≤ R.slots) (hk' : k + R'.cells = k') (hn' : n + R'.slots = n') (hsz : Ls.size = ml) (hpd : parseMethodDescriptor y.desc = some ⟨ps, r⟩) (hlen : argsL.length = ps.length) (hst : st = argsL.reverse ++ .ref a :: rest) (hW : (rest.map fun v => v.category).sum ≤ W)
    (g : ∀ v h' L' L'', (∀ q, Fr q L → Fr q L' → Fr q L'') → Q' v h' L' → Go Z l R B ml own rt mn pc' Ls (v.toList ++ rest) h' L'' k' n' Q) : Go Z l R B ml own rt mn pc Ls st h L k n Q := by
  subst hp hk' hn'
  intro p e s m args below meth c T X hx hZ hby hml hown hrt hlk hnm eT
  obtain ⟨cq, kq, qa, qb, qc⟩ := isOf hZ eT E
  obtain ⟨v, _, ⟨U, ls, cc, sl⟩, -, X', ⟨Lc, hQ, l1, y1, z1⟩, stp⟩ := X.virtualBack hx (y := y) (z := z) hown (mvT hZ w1) (mvT hZ w2) (nf s args hZ) (mvT hZ w5) (mvT hZ w6) hy (backOf (W := W) con hZ w4 w3 hf hl) qa qc (g := mkF m pc Ls st) rfl (hsz.trans hml.symm) (Steps.refl _) (argsL := argsL) (rest := rest) (lenOf hpd hlen) hst (by show 2 * 0 + _ ≤ _; omega) (hb hby hd) (fun _ _ => ⟨rfl, eT, hc, hn⟩)
  dsimp only [Pt.U, Pt.locs, Pt.cells, Pt.slots] at X' hQ l1 y1 z1 stp
  subst l1 y1 z1
  obtain ⟨s₂, o, h1, h2⟩ := g v U.heap Lc _ (fun q a b => a.app b) hQ p e s m args below meth c U X' hx hZ hby hml hown hrt hlk hnm rfl
  exact ⟨s₂, o, stp.trans h1, h2⟩
theorem Go.callV0 {a0 : Array Value} {i : Nat} {C : String} {y z : MethodName} {B' : ByteArray} {ml' : Nat} {rt' : Option FieldType} {R' : Room} {v0 : Option Value} {W : Nat} {a : Addr} {argsL : List Value} {st : List Value} {ps : List FieldType} {r : Option FieldType}
    (hd : decode B pc = .ok (.invokevirtual i, 3)) (hp : pc + 3 = pc') (w1 : (Jvm.Cond.methodLink own i y).before a0 Z = true) (w2 : (Jvm.Cond.declares y).before a0 Z = true) (nf : ∀ (s : State) (args : Array Value), Z.Warmed39 s.vm → NotFace s y) (w5 : (Jvm.Cond.selects C y z).before a0 Z = true) (w6 : (Jvm.Cond.instanceMethod z).before a0 Z = true) (w3 : (Jvm.Cond.initialized z.cls).before a0 Z = true) (w4 : (Jvm.Cond.code z B' ml' rt').before a0 Z = true) (E : Exa Z h a C) (hy : y.cls ≠ "java/lang/invoke/MethodHandle" ∧ y.cls ≠ "java/lang/invoke/VarHandle")
    (con : Con l Z z B' ml' rt' R' [] (.ref a :: argsL).toArray h (PQ h v0)) (hf : R'.frames + 1 ≤ R.frames) (hl : W + (ml' + 11) + R'.locals ≤ R.locals) {st2 : List Value} (hs2 : v0.toList ++ rest = st2) (hc : R'.cells = 0) (hn : R'.slots = 0) (hk : k ≤ R.cells) (hn2 : n ≤ R.slots) (hsz : Ls.size = ml) (hpd : parseMethodDescriptor y.desc = some ⟨ps, r⟩) (hlen : argsL.length = ps.length) (hst : st = argsL.reverse ++ .ref a :: rest) (hW : (rest.map fun v => v.category).sum ≤ W)
    (g : Go Z l R B ml own rt mn pc' Ls st2 h L k n Q) : Go Z l R B ml own rt mn pc Ls st h L k n Q := by
  subst hp hs2
  intro p e s m args below meth c T X hx hZ hby hml hown hrt hlk hnm eT
  obtain ⟨cq, kq, qa, qb, qc⟩ := isOf hZ eT E
  obtain ⟨v, _, ⟨U, ls, cc, sl⟩, -, X', ⟨Lc, hQ, l1, y1, z1⟩, stp⟩ := X.virtualBack hx (y := y) (z := z) hown (mvT hZ w1) (mvT hZ w2) (nf s args hZ) (mvT hZ w5) (mvT hZ w6) hy (backOf (W := W) con hZ w4 w3 hf hl) qa qc (g := mkF m pc Ls st) rfl (hsz.trans hml.symm) (Steps.refl _) (argsL := argsL) (rest := rest) (lenOf hpd hlen) hst (by show 2 * 0 + _ ≤ _; omega) (hb hby hd) (fun _ _ => ⟨rfl, eT, (by rw [hc]; exact hk), (by rw [hn]; exact hn2)⟩)
  dsimp only [Pt.U, Pt.locs, Pt.cells, Pt.slots] at X' hQ l1 y1 z1 stp
  obtain ⟨q1, q2, q3⟩ := hQ
  rw [q3, List.append_nil] at l1
  rw [hc, Nat.add_zero] at y1
  rw [hn, Nat.add_zero] at z1
  subst l1 y1 z1
  rw [q1] at stp
  obtain ⟨s₂, o, h1, h2⟩ := g p e s m args below meth c U X' hx hZ hby hml hown hrt hlk hnm q2
  exact ⟨s₂, o, stp.trans h1, h2⟩
theorem Go.callP {a0 : Array Value} {i : Nat} {C : String} {kk : Nat} {y : MethodName} {B' : ByteArray} {ml' : Nat} {rt' : Option FieldType} {R' : Room} {Q' : Option Value → Heap → List Loc → Prop} {W : Nat} {a : Addr} {argsL : List Value} {st : List Value} {ps : List FieldType} {r : Option FieldType}
    (hd : decode B pc = .ok (.invokevirtual i, 3)) (hp : pc + 3 = pc') (w1 : (Jvm.Cond.methodLink own i y).before a0 Z = true) (w2 : (Jvm.Cond.instanceMethod y).before a0 Z = true) (w5 : (Jvm.Cond.instantiable y.cls kk).before a0 Z = true) (w6 : (Jvm.Cond.privateMethod y).before a0 Z = true) (w3 : (Jvm.Cond.initialized y.cls).before a0 Z = true) (w4 : (Jvm.Cond.code y B' ml' rt').before a0 Z = true) (E : Exa Z h a C) (hy : y.cls ≠ "java/lang/invoke/MethodHandle" ∧ y.cls ≠ "java/lang/invoke/VarHandle")
    (con : Con l Z y B' ml' rt' R' [] (.ref a :: argsL).toArray h Q') (hf : R'.frames + 1 ≤ R.frames) (hl : W + (ml' + 11) + R'.locals ≤ R.locals) {k' n' : Nat} (hc : k + R'.cells ≤ R.cells) (hn : n + R'.slots ≤ R.slots) (hk' : k + R'.cells = k') (hn' : n + R'.slots = n') (hsz : Ls.size = ml) (hpd : parseMethodDescriptor y.desc = some ⟨ps, r⟩) (hlen : argsL.length = ps.length) (hst : st = argsL.reverse ++ .ref a :: rest) (hW : (rest.map fun v => v.category).sum ≤ W)
    (g : ∀ v h' L' L'', (∀ q, Fr q L → Fr q L' → Fr q L'') → Q' v h' L' → Go Z l R B ml own rt mn pc' Ls (v.toList ++ rest) h' L'' k' n' Q) : Go Z l R B ml own rt mn pc Ls st h L k n Q := by
  subst hp hk' hn'
  intro p e s m args below meth c T X hx hZ hby hml hown hrt hlk hnm eT
  obtain ⟨cq, q1, q2⟩ := E.cell
  obtain ⟨v, _, ⟨U, ls, cc, sl⟩, -, X', ⟨Lc, hQ, l1, y1, z1⟩, stp⟩ := X.privateBack hx (y := y) hown (mvT hZ w1) (mvT hZ w2) (sel_priv hZ w5 w6 w2 hy) (Cond.privateMethod_at (mvP hZ w6 (args := #[]))) (mvT hZ w4) hy (backOf (W := W) con hZ w4 w3 hf hl) (g := mkF m pc Ls st) rfl (hsz.trans hml.symm) (Steps.refl _) (a := a) (by rw [eT]; exact q1) q2 (argsL := argsL) (rest := rest) (lenOf hpd hlen) hst (by show 2 * 0 + _ ≤ _; omega) (hb hby hd) (fun _ _ => ⟨rfl, eT, hc, hn⟩)
  dsimp only [Pt.U, Pt.locs, Pt.cells, Pt.slots] at X' hQ l1 y1 z1 stp
  subst l1 y1 z1
  obtain ⟨s₂, o, h1, h2⟩ := g v U.heap Lc _ (fun q a b => a.app b) hQ p e s m args below meth c U X' hx hZ hby hml hown hrt hlk hnm rfl
  exact ⟨s₂, o, stp.trans h1, h2⟩
theorem Go.callP0 {a0 : Array Value} {i : Nat} {C : String} {kk : Nat} {y : MethodName} {B' : ByteArray} {ml' : Nat} {rt' : Option FieldType} {R' : Room} {v0 : Option Value} {W : Nat} {a : Addr} {argsL : List Value} {st : List Value} {ps : List FieldType} {r : Option FieldType}
    (hd : decode B pc = .ok (.invokevirtual i, 3)) (hp : pc + 3 = pc') (w1 : (Jvm.Cond.methodLink own i y).before a0 Z = true) (w2 : (Jvm.Cond.instanceMethod y).before a0 Z = true) (w5 : (Jvm.Cond.instantiable y.cls kk).before a0 Z = true) (w6 : (Jvm.Cond.privateMethod y).before a0 Z = true) (w3 : (Jvm.Cond.initialized y.cls).before a0 Z = true) (w4 : (Jvm.Cond.code y B' ml' rt').before a0 Z = true) (E : Exa Z h a C) (hy : y.cls ≠ "java/lang/invoke/MethodHandle" ∧ y.cls ≠ "java/lang/invoke/VarHandle")
    (con : Con l Z y B' ml' rt' R' [] (.ref a :: argsL).toArray h (PQ h v0)) (hf : R'.frames + 1 ≤ R.frames) (hl : W + (ml' + 11) + R'.locals ≤ R.locals) {st2 : List Value} (hs2 : v0.toList ++ rest = st2) (hc : R'.cells = 0) (hn : R'.slots = 0) (hk : k ≤ R.cells) (hn2 : n ≤ R.slots) (hsz : Ls.size = ml) (hpd : parseMethodDescriptor y.desc = some ⟨ps, r⟩) (hlen : argsL.length = ps.length) (hst : st = argsL.reverse ++ .ref a :: rest) (hW : (rest.map fun v => v.category).sum ≤ W)
    (g : Go Z l R B ml own rt mn pc' Ls st2 h L k n Q) : Go Z l R B ml own rt mn pc Ls st h L k n Q := by
  subst hp hs2
  intro p e s m args below meth c T X hx hZ hby hml hown hrt hlk hnm eT
  obtain ⟨cq, q1, q2⟩ := E.cell
  obtain ⟨v, _, ⟨U, ls, cc, sl⟩, -, X', ⟨Lc, hQ, l1, y1, z1⟩, stp⟩ := X.privateBack hx (y := y) hown (mvT hZ w1) (mvT hZ w2) (sel_priv hZ w5 w6 w2 hy) (Cond.privateMethod_at (mvP hZ w6 (args := #[]))) (mvT hZ w4) hy (backOf (W := W) con hZ w4 w3 hf hl) (g := mkF m pc Ls st) rfl (hsz.trans hml.symm) (Steps.refl _) (a := a) (by rw [eT]; exact q1) q2 (argsL := argsL) (rest := rest) (lenOf hpd hlen) hst (by show 2 * 0 + _ ≤ _; omega) (hb hby hd) (fun _ _ => ⟨rfl, eT, (by rw [hc]; exact hk), (by rw [hn]; exact hn2)⟩)
  dsimp only [Pt.U, Pt.locs, Pt.cells, Pt.slots] at X' hQ l1 y1 z1 stp
  obtain ⟨q1, q2, q3⟩ := hQ
  rw [q3, List.append_nil] at l1
  rw [hc, Nat.add_zero] at y1
  rw [hn, Nat.add_zero] at z1
  subst l1 y1 z1
  rw [q1] at stp
  obtain ⟨s₂, o, h1, h2⟩ := g p e s m args below meth c U X' hx hZ hby hml hown hrt hlk hnm q2
  exact ⟨s₂, o, stp.trans h1, h2⟩
theorem nf_sel {a0 : Array Value} {C : String} {y : MethodName} (w : (Jvm.Cond.selects C y y).before a0 Z = true) : ∀ (s : State) (args : Array Value), Z.Warmed39 s.vm → NotFace s y := fun s args hZ => notFace_of_selects (args := args) (mvT hZ w)
theorem Go.initO {a0 : Array Value} {i : Nat} {W : Nat} {a : Addr} (hd : decode B pc = .ok (.invokespecial i, 3)) (hp : pc + 3 = pc') (w1 : (Jvm.Cond.methodLink own i Lib.objectInit).before a0 Z = true) (w2 : (Jvm.Cond.instanceMethod Lib.objectInit).before a0 Z = true) (w3 : (Jvm.Cond.code Lib.objectInit ⟨#[0xb1]⟩ 1 none).before a0 Z = true) (hf : 1 ≤ R.frames) (hl : W + 12 ≤ R.locals) (hsz : Ls.size = ml) (hW : (rest.map fun v => v.category).sum ≤ W)
    (g : Go Z l R B ml own rt mn pc' Ls rest h L k n Q) : Go Z l R B ml own rt mn pc Ls (.ref a :: rest) h L k n Q := by
  subst hp
  intro p e s m args below meth c T X hx hZ hby hml hown hrt hlk hnm eT
  obtain ⟨T', X', e', stp⟩ := Jvm.RoadKit.initO X hx hZ hown w1 w2 w3 eT (g := mkF m pc Ls (.ref a :: rest)) rfl (hsz.trans hml.symm) rfl (hb hby hd) hf (W := W) (by show 2 * 0 + _ ≤ _; omega) hl
  obtain ⟨s₂, o, h1, h2⟩ := g p e s m args below meth c T' X' hx hZ hby hml hown hrt hlk hnm e'
  exact ⟨s₂, o, stp _ h1, h2⟩
/-! objects -/
theorem Go.newO {a0 : Array Value} {st : List Value} {i sz : Nat} {C : String} {k' n' : Nat} (hd : decode B pc = .ok (.new i, 3)) (hp : pc + 3 = pc') (w : (Jvm.Cond.classLink own i C).before a0 Z = true) (wi : (Jvm.Cond.instantiable C sz).before a0 Z = true) (wz : (Jvm.Cond.initialized C).before a0 Z = true) (hc : k + 1 ≤ R.cells) (hl : n + sz ≤ R.slots) (hk' : k + 1 = k') (hn' : n + sz = n')
    (g : ∀ h' a, a = h.size → Ext h h' → Exa Z h' a C → (∀ {O nm d : String} {ty : FieldType}, Laid Z a0 C O nm d → parseFieldDescriptor d = some ty → Fld Z h' a O nm d (defaultValue ty)) → Go Z l R B ml own rt mn pc' Ls (.ref a :: st) h' L k' n' Q) : Go Z l R B ml own rt mn pc Ls st h L k n Q := by
  subst hp hk' hn'
  intro p e s m args below meth c T X hx hZ hby hml hown hrt hlk hnm eT
  obtain ⟨T', h', X', e', E', A', D', -, stp⟩ := Jvm.RoadKit.newO X hx hZ hown w wi wz eT (g := mkF m pc Ls st) rfl (hb hby hd) hc hl
  obtain ⟨s₂, o, h1, h2⟩ := g h' _ rfl E' A' D' p e s m args below meth c T' X' hx hZ hby hml hown hrt hlk hnm e'
  exact ⟨s₂, o, stp _ h1, h2⟩
theorem Go.getF {a0 : Array Value} {i : Nat} {R0 O f d : String} {a : Addr} {v : Value} (hd : decode B pc = .ok (.getfield i, 3)) (hp : pc + 3 = pc') (w : (Jvm.Cond.fieldLink own i R0 f d).before a0 Z = true) (via : Via Z R0 O f d) (F : Fld Z h a O f d v) (g : Go Z l R B ml own rt mn pc' Ls (v :: rest) h L k n Q) : Go Z l R B ml own rt mn pc Ls (.ref a :: rest) h L k n Q := by
  subst hp
  intro p e s m args below meth c T X hx hZ hby hml hown hrt hlk hnm eT
  obtain ⟨T', X', e', stp⟩ := Jvm.RoadKit.getF X hx hZ hown (host := "") (Or.inl w) via eT F (g := mkF m pc Ls (.ref a :: rest)) rfl rfl (hb hby hd)
  obtain ⟨s₂, o, h1, h2⟩ := g p e s m args below meth c T' X' hx hZ hby hml hown hrt hlk hnm e'
  exact ⟨s₂, o, stp _ h1, h2⟩
theorem Go.putF {a0 : Array Value} {i kk : Nat} {R0 O f d C : String} {a : Addr} {v old : Value} {ty : FieldType} (hd : decode B pc = .ok (.putfield i, 3)) (hp : pc + 3 = pc') (w : (Jvm.Cond.fieldLink own i R0 f d).before a0 Z = true) (via : Via Z R0 O f d) (F : Fld Z h a O f d old) (E : Exa Z h a C) (lw : (Jvm.Cond.lays C O f d).before a0 Z = true ∨ ((Jvm.Cond.laysFinal C O f d).before a0 Z = true ∧ own = O ∧ mn = "<init>")) (wi : (Jvm.Cond.instantiable C kk).before a0 Z = true)
    (hty : parseFieldDescriptor d = some ty) (hn : narrow ty v = v) (hf : fits ty v = true) (g : ∀ h' L', (∀ q, Fr q L → q ≤ a → Fr q L') → Wr h h' a (Jvm.RoadKit.slotOf Z O f d) v → Go Z l R B ml own rt mn pc' Ls rest h' L' k n Q) : Go Z l R B ml own rt mn pc Ls (v :: .ref a :: rest) h L k n Q := by
  subst hp
  intro p e s m args below meth c T X hx hZ hby hml hown hrt hlk hnm eT
  obtain ⟨T', h', X', e', W', stp⟩ := Jvm.RoadKit.putF X hx hZ hown (host := "") (Or.inl w) via eT F E (lw.imp id fun q => ⟨q.1, q.2.1, hnm.trans q.2.2⟩) wi hty hn hf (g := mkF m pc Ls (v :: .ref a :: rest)) rfl rfl (hb hby hd)
  obtain ⟨s₂, o, h1, h2⟩ := g h' _ (fun q N r => fr_one N r) W' p e s m args below meth c T' X' hx hZ hby hml hown hrt hlk hnm e'
  exact ⟨s₂, o, stp _ h1, h2⟩
/-! arrays: the very list of values -/
def Al (Z : State) (h : Heap) (a : Addr) (ty : FieldType) (vs : List Value) : Prop := vs.length < 2 ^ 31 ∧ ∃ c : Cell, Arr Z h a c ty ∧ c.slots = vs.toArray
theorem Al.lt {a : Addr} {ty : FieldType} {vs : List Value} (A : Al Z h a ty vs) : a < h.size := by obtain ⟨-, c, A, -⟩ := A; exact A.lt
theorem Al.ext {h' : Heap} {a : Addr} {ty : FieldType} {vs : List Value} (A : Al Z h a ty vs) (E : Ext h h') : Al Z h' a ty vs := by obtain ⟨q, c, A, r⟩ := A; exact ⟨q, c, A.ext E, r⟩
theorem Al.other {h' : Heap} {a b : Addr} {sl : Nat} {v : Value} {ty : FieldType} {vs : List Value} (A : Al Z h b ty vs) (W : Wr h h' a sl v) (ne : b ≠ a) : Al Z h' b ty vs := by obtain ⟨q, c, A, r⟩ := A; exact ⟨q, c, A.other W ne, r⟩
theorem Al.keep {h' : Heap} {a : Addr} {ty : FieldType} {vs : List Value} {ws : List Addr} (A : Al Z h a ty vs) (K : Keep h h' ws) (q : a ∉ ws) : Al Z h' a ty vs := by obtain ⟨q0, c, A, r⟩ := A; exact ⟨q0, c, ⟨K.2.1 a c A.1 q, A.2⟩, r⟩
theorem Al.set {h' : Heap} {a : Addr} {ty : FieldType} {vs : List Value} {i : Nat} {v : Value} (A : Al Z h a ty vs) (W : Wr h h' a i v) : Al Z h' a ty (vs.set i v) := by
  obtain ⟨q, c, A, r⟩ := A
  refine ⟨by simpa using q, c.setSlot i v, A.same W, ?_⟩
  simp [Cell.setSlot, r]
theorem Al.new {a : Addr} {ty : FieldType} {kc : ClassId} {z : Int32} {N : Nat} (A : Arr Z h a (newA kc ty z) ty) (hz : z.toInt = (N : Int)) : Al Z h a ty (List.replicate N (defaultValue ty)) := by
  have h1 : z.toNatClampNeg = N := by show z.toInt.toNat = N; omega
  have h2 := z.toInt_lt
  refine ⟨by simp; omega, _, A, ?_⟩
  simp [newA, h1]
theorem ne_al {a0 : Array Value} {a b : Addr} {C : String} {kk : Nat} {ty : FieldType} {vs : List Value} (F : Exa Z h a C) (wi : (Jvm.Cond.instantiable C kk).before a0 Z = true) (A : Al Z h b ty vs) : a ≠ b := by obtain ⟨-, c, A, -⟩ := A; exact ne_arr F wi A
theorem in_of {c : Cell} {vs : List Value} {j : Int32} {i : Nat} (r : c.slots = vs.toArray) (hj : j.toInt = (i : Int)) (hi : i < vs.length) : ¬ (j < 0 ∨ c.slots.size ≤ j.toNatClampNeg) := by
  have h1 : j.toNatClampNeg = i := by show j.toInt.toNat = i; omega
  rw [h1, r, Int32.lt_iff_toInt_lt]
  have z0 : (0 : Int32).toInt = 0 := rfl
  rw [z0]
  intro q
  rcases q with q | q
  · omega
  · rw [List.size_toArray] at q; omega
theorem at_of {c : Cell} {vs : List Value} {j : Int32} {i : Nat} {v : Value} (r : c.slots = vs.toArray) (hj : j.toInt = (i : Int)) (hv : vs[i]? = some v) : c.slots[j.toNatClampNeg]? = some v := by
  have h1 : j.toNatClampNeg = i := by show j.toInt.toNat = i; omega
  rw [h1, r]; simpa using hv
theorem Go.iaload {a : Addr} {vs : List Value} {j : Int32} {i : Nat} {v : Value} (hd : decode B pc = .ok (.iaload, 1)) (hp : pc + 1 = pc') (A : Al Z h a .int vs) (hj : j.toInt = (i : Int)) (hv : vs[i]? = some v) (g : Go Z l R B ml own rt mn pc' Ls (v :: rest) h L k n Q) : Go Z l R B ml own rt mn pc Ls (.int j :: .ref a :: rest) h L k n Q := by
  obtain ⟨q, c, A, r⟩ := A
  subst hp
  exact Go.stand (fun p e s m args below meth c' T t X hx hZ hB hown eT hr => X.iaload hx (j := j) (v := v) (by rw [eT]; exact A.1) (State.isArrayOf_alike hZ.alike A.2.1) A.2.2 (in_of r hj (List.getElem?_eq_some_iff.mp hv).1) (at_of r hj hv) (g := mkF m pc Ls (.int j :: .ref a :: rest)) rfl rfl (hb hB hd) _ hr) g
theorem Go.laload {a : Addr} {vs : List Value} {j : Int32} {i : Nat} {v : Value} (hd : decode B pc = .ok (.laload, 1)) (hp : pc + 1 = pc') (A : Al Z h a .long vs) (hj : j.toInt = (i : Int)) (hv : vs[i]? = some v) (g : Go Z l R B ml own rt mn pc' Ls (v :: rest) h L k n Q) : Go Z l R B ml own rt mn pc Ls (.int j :: .ref a :: rest) h L k n Q := by
  obtain ⟨q, c, A, r⟩ := A
  subst hp
  exact Go.stand (fun p e s m args below meth c' T t X hx hZ hB hown eT hr => X.laload hx (j := j) (v := v) (by rw [eT]; exact A.1) (State.isArrayOf_alike hZ.alike A.2.1) A.2.2 (in_of r hj (List.getElem?_eq_some_iff.mp hv).1) (at_of r hj hv) (g := mkF m pc Ls (.int j :: .ref a :: rest)) rfl rfl (hb hB hd) _ hr) g
theorem Go.baloadB {a : Addr} {vs : List Value} {j : Int32} {i : Nat} {v : Value} (hd : decode B pc = .ok (.baload, 1)) (hp : pc + 1 = pc') (A : Al Z h a .byte vs) (hj : j.toInt = (i : Int)) (hv : vs[i]? = some v) (g : Go Z l R B ml own rt mn pc' Ls (v :: rest) h L k n Q) : Go Z l R B ml own rt mn pc Ls (.int j :: .ref a :: rest) h L k n Q := by
  obtain ⟨q, c, A, r⟩ := A
  subst hp
  exact Go.stand (fun p e s m args below meth c' T t X hx hZ hB hown eT hr => X.baloadBytes hx (j := j) (v := v) (by rw [eT]; exact A.1) (State.isArrayOf_alike hZ.alike A.2.1) A.2.2 (in_of r hj (List.getElem?_eq_some_iff.mp hv).1) (at_of r hj hv) (g := mkF m pc Ls (.int j :: .ref a :: rest)) rfl rfl (hb hB hd) _ hr) g
theorem Go.baloadZ {a : Addr} {vs : List Value} {j : Int32} {i : Nat} {v : Value} (hd : decode B pc = .ok (.baload, 1)) (hp : pc + 1 = pc') (A : Al Z h a .boolean vs) (hj : j.toInt = (i : Int)) (hv : vs[i]? = some v) (g : Go Z l R B ml own rt mn pc' Ls (v :: rest) h L k n Q) : Go Z l R B ml own rt mn pc Ls (.int j :: .ref a :: rest) h L k n Q := by
  obtain ⟨q, c, A, r⟩ := A
  subst hp
  exact Go.stand (fun p e s m args below meth c' T t X hx hZ hB hown eT hr => X.baloadBooleans hx (j := j) (v := v) (by rw [eT]; exact A.1) (State.isArrayOf_alike hZ.alike A.2.1) A.2.2 (in_of r hj (List.getElem?_eq_some_iff.mp hv).1) (at_of r hj hv) (g := mkF m pc Ls (.int j :: .ref a :: rest)) rfl rfl (hb hB hd) _ hr) g
theorem Go.iastore {a : Addr} {vs vs' : List Value} {j : Int32} {x : Int32} {i : Nat} {v : Value} (hd : decode B pc = .ok (.iastore, 1)) (hp : pc + 1 = pc') (A : Al Z h a .int vs) (hj : j.toInt = (i : Int)) (hi : i < vs.length) (hv : .int x = v) (hs : vs.set i v = vs') (g : ∀ h' L', (∀ q, Fr q L → q ≤ a → Fr q L') → Wr h h' a i v → Al Z h' a .int vs' → Go Z l R B ml own rt mn pc' Ls rest h' L' k n Q) : Go Z l R B ml own rt mn pc Ls (.int x :: .int j :: .ref a :: rest) h L k n Q := by
  have A' := A
  obtain ⟨q, c, A, r⟩ := A
  subst hp hs
  intro p e s m args below meth c' T X hx hZ hby hml hown hrt hlk hnm eT
  obtain ⟨T', h', X', e', W', stp⟩ := stI X hx hZ eT A (j := j) (in_of r hj hi) (g := mkF m pc Ls (.int x :: .int j :: .ref a :: rest)) rfl rfl (hb hby hd)
  have h1 : j.toNatClampNeg = i := by show j.toInt.toNat = i; omega
  rw [h1] at X' W'
  subst hv
  obtain ⟨s₂, o, h1, h2⟩ := g h' _ (fun q N r => fr_one N r) W' (A'.set W') p e s m args below meth c' T' X' hx hZ hby hml hown hrt hlk hnm e'
  exact ⟨s₂, o, stp _ h1, h2⟩
theorem Go.lastore {a : Addr} {vs vs' : List Value} {j : Int32} {x : Int64} {i : Nat} {v : Value} (hd : decode B pc = .ok (.lastore, 1)) (hp : pc + 1 = pc') (A : Al Z h a .long vs) (hj : j.toInt = (i : Int)) (hi : i < vs.length) (hv : .long x = v) (hs : vs.set i v = vs') (g : ∀ h' L', (∀ q, Fr q L → q ≤ a → Fr q L') → Wr h h' a i v → Al Z h' a .long vs' → Go Z l R B ml own rt mn pc' Ls rest h' L' k n Q) : Go Z l R B ml own rt mn pc Ls (.long x :: .int j :: .ref a :: rest) h L k n Q := by
  have A' := A
  obtain ⟨q, c, A, r⟩ := A
  subst hp hs
  intro p e s m args below meth c' T X hx hZ hby hml hown hrt hlk hnm eT
  obtain ⟨T', h', X', e', W', stp⟩ := stJ X hx hZ eT A (j := j) (in_of r hj hi) (g := mkF m pc Ls (.long x :: .int j :: .ref a :: rest)) rfl rfl (hb hby hd)
  have h1 : j.toNatClampNeg = i := by show j.toInt.toNat = i; omega
  rw [h1] at X' W'
  subst hv
  obtain ⟨s₂, o, h1, h2⟩ := g h' _ (fun q N r => fr_one N r) W' (A'.set W') p e s m args below meth c' T' X' hx hZ hby hml hown hrt hlk hnm e'
  exact ⟨s₂, o, stp _ h1, h2⟩
theorem Go.bastoreB {a : Addr} {vs vs' : List Value} {j : Int32} {x : Int32} {i : Nat} {v : Value} (hd : decode B pc = .ok (.bastore, 1)) (hp : pc + 1 = pc') (A : Al Z h a .byte vs) (hj : j.toInt = (i : Int)) (hi : i < vs.length) (hv : .int (nar .byte x) = v) (hs : vs.set i v = vs') (g : ∀ h' L', (∀ q, Fr q L → q ≤ a → Fr q L') → Wr h h' a i v → Al Z h' a .byte vs' → Go Z l R B ml own rt mn pc' Ls rest h' L' k n Q) : Go Z l R B ml own rt mn pc Ls (.int x :: .int j :: .ref a :: rest) h L k n Q := by
  have A' := A
  obtain ⟨q, c, A, r⟩ := A
  subst hp hs
  intro p e s m args below meth c' T X hx hZ hby hml hown hrt hlk hnm eT
  obtain ⟨T', h', X', e', W', stp⟩ := stB X hx hZ eT A (j := j) (in_of r hj hi) (g := mkF m pc Ls (.int x :: .int j :: .ref a :: rest)) rfl rfl (hb hby hd)
  have h1 : j.toNatClampNeg = i := by show j.toInt.toNat = i; omega
  rw [h1] at X' W'
  subst hv
  obtain ⟨s₂, o, h1, h2⟩ := g h' _ (fun q N r => fr_one N r) W' (A'.set W') p e s m args below meth c' T' X' hx hZ hby hml hown hrt hlk hnm e'
  exact ⟨s₂, o, stp _ h1, h2⟩
theorem Go.bastoreZ {a : Addr} {vs vs' : List Value} {j : Int32} {x : Int32} {i : Nat} {v : Value} (hd : decode B pc = .ok (.bastore, 1)) (hp : pc + 1 = pc') (A : Al Z h a .boolean vs) (hj : j.toInt = (i : Int)) (hi : i < vs.length) (hv : .int (nar .boolean x) = v) (hs : vs.set i v = vs') (g : ∀ h' L', (∀ q, Fr q L → q ≤ a → Fr q L') → Wr h h' a i v → Al Z h' a .boolean vs' → Go Z l R B ml own rt mn pc' Ls rest h' L' k n Q) : Go Z l R B ml own rt mn pc Ls (.int x :: .int j :: .ref a :: rest) h L k n Q := by
  have A' := A
  obtain ⟨q, c, A, r⟩ := A
  subst hp hs
  intro p e s m args below meth c' T X hx hZ hby hml hown hrt hlk hnm eT
  obtain ⟨T', h', X', e', W', stp⟩ := stZ X hx hZ eT A (j := j) (in_of r hj hi) (g := mkF m pc Ls (.int x :: .int j :: .ref a :: rest)) rfl rfl (hb hby hd)
  have h1 : j.toNatClampNeg = i := by show j.toInt.toNat = i; omega
  rw [h1] at X' W'
  subst hv
  obtain ⟨s₂, o, h1, h2⟩ := g h' _ (fun q N r => fr_one N r) W' (A'.set W') p e s m args below meth c' T' X' hx hZ hby hml hown hrt hlk hnm e'
  exact ⟨s₂, o, stp _ h1, h2⟩
theorem Go.arraylength {a : Addr} {ty : FieldType} {vs : List Value} {z : Int32} (hd : decode B pc = .ok (.arraylength, 1)) (hp : pc + 1 = pc') (A : Al Z h a ty vs) (hz : vs.length.toInt32 = z) (g : Go Z l R B ml own rt mn pc' Ls (.int z :: rest) h L k n Q) : Go Z l R B ml own rt mn pc Ls (.ref a :: rest) h L k n Q := by
  obtain ⟨q, c, A, r⟩ := A
  subst hp hz
  refine Go.stand (fun p e s m args below meth c' T t X hx hZ hB hown eT hr => X.arraylength hx (by rw [eT]; exact A.1) (State.isArrayOf_alike hZ.alike A.2.1) (g := mkF m pc Ls (.ref a :: rest)) rfl rfl (hb hB hd) _ ?_) g
  rw [r]; simpa using hr
theorem Go.new_int {a0 : Array Value} {z : Int32} {N : Nat} {k' n' : Nat} {vs : List Value} (hd : decode B pc = .ok (.newarray .int, 2)) (hp : pc + 2 = pc') (w : (Jvm.Cond.arrayClass (.int)).before a0 Z = true) (hz : z.toInt = (N : Int)) (hvs : List.replicate N (defaultValue .int) = vs) (cap : Nat) (hcap : N ≤ cap) (h8 : cap * 8 ≤ 536870912) (hc : k + 1 ≤ R.cells) (hl : n + cap ≤ R.slots) (hk' : k + 1 = k') (hn' : n + cap = n')
    (g : ∀ h' a, a = h.size → Ext h h' → Al Z h' a .int vs → Go Z l R B ml own rt mn pc' Ls (.ref a :: rest) h' L k' n' Q) : Go Z l R B ml own rt mn pc Ls (.int z :: rest) h L k n Q := by
  subst hp hk' hn' hvs
  intro p e s m args below meth c T X hx hZ hby hml hown hrt hlk hnm eT
  have hz0 : ¬ z < 0 := by
    rw [Int32.lt_iff_toInt_lt]; have z0 : (0 : Int32).toInt = 0 := rfl
    omega
  obtain ⟨T', h', cA, X', e', E', A', stp⟩ := newP X hx hZ (aty := .int) w eT (g := mkF m pc Ls (.int z :: rest)) rfl (hb hby hd) rfl hz0 (cap := cap) (by show z.toInt.toNat ≤ cap; omega) h8 hc hl
  obtain ⟨s₂, o, h1, h2⟩ := g h' _ rfl E' (Al.new A' hz) p e s m args below meth c T' X' hx hZ hby hml hown hrt hlk hnm e'
  exact ⟨s₂, o, stp _ h1, h2⟩
theorem Go.new_long {a0 : Array Value} {z : Int32} {N : Nat} {k' n' : Nat} {vs : List Value} (hd : decode B pc = .ok (.newarray .long, 2)) (hp : pc + 2 = pc') (w : (Jvm.Cond.arrayClass (.long)).before a0 Z = true) (hz : z.toInt = (N : Int)) (hvs : List.replicate N (defaultValue .long) = vs) (cap : Nat) (hcap : N ≤ cap) (h8 : cap * 8 ≤ 536870912) (hc : k + 1 ≤ R.cells) (hl : n + cap ≤ R.slots) (hk' : k + 1 = k') (hn' : n + cap = n')
    (g : ∀ h' a, a = h.size → Ext h h' → Al Z h' a .long vs → Go Z l R B ml own rt mn pc' Ls (.ref a :: rest) h' L k' n' Q) : Go Z l R B ml own rt mn pc Ls (.int z :: rest) h L k n Q := by
  subst hp hk' hn' hvs
  intro p e s m args below meth c T X hx hZ hby hml hown hrt hlk hnm eT
  have hz0 : ¬ z < 0 := by
    rw [Int32.lt_iff_toInt_lt]; have z0 : (0 : Int32).toInt = 0 := rfl
    omega
  obtain ⟨T', h', cA, X', e', E', A', stp⟩ := newP X hx hZ (aty := .long) w eT (g := mkF m pc Ls (.int z :: rest)) rfl (hb hby hd) rfl hz0 (cap := cap) (by show z.toInt.toNat ≤ cap; omega) h8 hc hl
  obtain ⟨s₂, o, h1, h2⟩ := g h' _ rfl E' (Al.new A' hz) p e s m args below meth c T' X' hx hZ hby hml hown hrt hlk hnm e'
  exact ⟨s₂, o, stp _ h1, h2⟩
theorem Go.new_byte {a0 : Array Value} {z : Int32} {N : Nat} {k' n' : Nat} {vs : List Value} (hd : decode B pc = .ok (.newarray .byte, 2)) (hp : pc + 2 = pc') (w : (Jvm.Cond.arrayClass (.byte)).before a0 Z = true) (hz : z.toInt = (N : Int)) (hvs : List.replicate N (defaultValue .byte) = vs) (cap : Nat) (hcap : N ≤ cap) (h8 : cap * 8 ≤ 536870912) (hc : k + 1 ≤ R.cells) (hl : n + cap ≤ R.slots) (hk' : k + 1 = k') (hn' : n + cap = n')
    (g : ∀ h' a, a = h.size → Ext h h' → Al Z h' a .byte vs → Go Z l R B ml own rt mn pc' Ls (.ref a :: rest) h' L k' n' Q) : Go Z l R B ml own rt mn pc Ls (.int z :: rest) h L k n Q := by
  subst hp hk' hn' hvs
  intro p e s m args below meth c T X hx hZ hby hml hown hrt hlk hnm eT
  have hz0 : ¬ z < 0 := by
    rw [Int32.lt_iff_toInt_lt]; have z0 : (0 : Int32).toInt = 0 := rfl
    omega
  obtain ⟨T', h', cA, X', e', E', A', stp⟩ := newP X hx hZ (aty := .byte) w eT (g := mkF m pc Ls (.int z :: rest)) rfl (hb hby hd) rfl hz0 (cap := cap) (by show z.toInt.toNat ≤ cap; omega) h8 hc hl
  obtain ⟨s₂, o, h1, h2⟩ := g h' _ rfl E' (Al.new A' hz) p e s m args below meth c T' X' hx hZ hby hml hown hrt hlk hnm e'
  exact ⟨s₂, o, stp _ h1, h2⟩
theorem Go.new_boolean {a0 : Array Value} {z : Int32} {N : Nat} {k' n' : Nat} {vs : List Value} (hd : decode B pc = .ok (.newarray .boolean, 2)) (hp : pc + 2 = pc') (w : (Jvm.Cond.arrayClass (.boolean)).before a0 Z = true) (hz : z.toInt = (N : Int)) (hvs : List.replicate N (defaultValue .boolean) = vs) (cap : Nat) (hcap : N ≤ cap) (h8 : cap * 8 ≤ 536870912) (hc : k + 1 ≤ R.cells) (hl : n + cap ≤ R.slots) (hk' : k + 1 = k') (hn' : n + cap = n')
    (g : ∀ h' a, a = h.size → Ext h h' → Al Z h' a .boolean vs → Go Z l R B ml own rt mn pc' Ls (.ref a :: rest) h' L k' n' Q) : Go Z l R B ml own rt mn pc Ls (.int z :: rest) h L k n Q := by
  subst hp hk' hn' hvs
  intro p e s m args below meth c T X hx hZ hby hml hown hrt hlk hnm eT
  have hz0 : ¬ z < 0 := by
    rw [Int32.lt_iff_toInt_lt]; have z0 : (0 : Int32).toInt = 0 := rfl
    omega
  obtain ⟨T', h', cA, X', e', E', A', stp⟩ := newP X hx hZ (aty := .boolean) w eT (g := mkF m pc Ls (.int z :: rest)) rfl (hb hby hd) rfl hz0 (cap := cap) (by show z.toInt.toNat ≤ cap; omega) h8 hc hl
  obtain ⟨s₂, o, h1, h2⟩ := g h' _ rfl E' (Al.new A' hz) p e s m args below meth c T' X' hx hZ hby hml hown hrt hlk hnm e'
  exact ⟨s₂, o, stp _ h1, h2⟩
theorem iadd_eq {x y : Int32} (h1 : -2147483648 ≤ x.toInt + y.toInt) (h2 : x.toInt + y.toInt < 2147483648) : (x + y).toInt = x.toInt + y.toInt := by
  have e := c_iadd x y
  have r := rng32 (x + y)
  omega
theorem isub_eq {x y : Int32} (h1 : -2147483648 ≤ x.toInt - y.toInt) (h2 : x.toInt - y.toInt < 2147483648) : (x - y).toInt = x.toInt - y.toInt := by
  have e := c_isub x y
  have r := rng32 (x - y)
  omega
theorem ladd_eq {x y : Int64} (h1 : -9223372036854775808 ≤ x.toInt + y.toInt) (h2 : x.toInt + y.toInt < 9223372036854775808) : (x + y).toInt = x.toInt + y.toInt := by
  have e := c_ladd x y
  have r := rng64 (x + y)
  omega
theorem lsub_eq {x y : Int64} (h1 : -9223372036854775808 ≤ x.toInt - y.toInt) (h2 : x.toInt - y.toInt < 9223372036854775808) : (x - y).toInt = x.toInt - y.toInt := by
  have e := c_lsub x y
  have r := rng64 (x - y)
  omega
theorem irem_bd {x y : Int32} (h1 : 0 ≤ x.toInt) (h2 : 0 < y.toInt) : 0 ≤ (x % y).toInt ∧ (x % y).toInt < y.toInt ∧ (x % y).toInt ≤ x.toInt := by
  have q := (c_iremV x y).1 h1 h2
  exact ⟨q.1, q.2.1, q.2.2.1⟩
theorem mask31 (x : Int32) : 0 ≤ (x &&& (2147483647 : Int32)).toInt ∧ (x &&& (2147483647 : Int32)).toInt ≤ 2147483647 := by
  have q := c_and x (2147483647 : Int32) (by decide)
  have k : (2147483647 : Int32).toInt = 2147483647 := by decide
  omega
theorem nar_b8 (x : Int32) : nar .byte x.toInt8.toInt32 = x.toInt8.toInt32 := by
  show x.toInt8.toInt32.toInt8.toInt32 = x.toInt8.toInt32
  rw [Int8.toInt8_toInt32]
end Rules
end Jvm.OwnKit
namespace Jvm.Pilot.@@N@@
open Jvm Jvm.ClassFile Sem Op Lib Jvm.Free Jvm.Stand Jvm.LawKit Jvm.RoadKit Jvm.OwnKit Bundle Jvm.Pilot.@@N@@.Jvm.D
theorem w0 : (Jvm.Cond.classLink "com/example/rehearsal/rehearsal/engine/OpeningsSetToPinLaw" (7 : Nat) "com/example/rehearsal/rehearsal/engine/Openings") ∈ tables_1 := List.mem_of_getElem? (i := 0) rfl
theorem w1 : (Jvm.Cond.instantiable "com/example/rehearsal/rehearsal/engine/Openings" (3 : Nat)) ∈ tables_1 := List.mem_of_getElem? (i := 1) rfl
theorem w2 : (Jvm.Cond.initialized "com/example/rehearsal/rehearsal/engine/Openings") ∈ tables_1 := List.mem_of_getElem? (i := 2) rfl
theorem w3 : (Jvm.Cond.methodLink "com/example/rehearsal/rehearsal/engine/OpeningsSetToPinLaw" (9 : Nat) ({ cls := "com/example/rehearsal/rehearsal/engine/Openings", name := "<init>", desc := "()V" } : Jvm.MethodName)) ∈ tables_1 := List.mem_of_getElem? (i := 3) rfl
theorem w4 : (Jvm.Cond.instanceMethod ({ cls := "com/example/rehearsal/rehearsal/engine/Openings", name := "<init>", desc := "()V" } : Jvm.MethodName)) ∈ tables_1 := List.mem_of_getElem? (i := 4) rfl
theorem w5 : (Jvm.Cond.code ({ cls := "com/example/rehearsal/rehearsal/engine/Openings", name := "<init>", desc := "()V" } : Jvm.MethodName) prog_63_method_1_code (1 : Nat) (Option.none : Option Jvm.ClassFile.FieldType)) ∈ tables_1 := List.mem_of_getElem? (i := 5) rfl
theorem w6 : (Jvm.Cond.methodLink "com/example/rehearsal/rehearsal/engine/Openings" (1 : Nat) ({ cls := "java/lang/Object", name := "<init>", desc := "()V" } : Jvm.MethodName)) ∈ tables_1 := List.mem_of_getElem? (i := 6) rfl
theorem w7 : (Jvm.Cond.instanceMethod ({ cls := "java/lang/Object", name := "<init>", desc := "()V" } : Jvm.MethodName)) ∈ tables_1 := List.mem_of_getElem? (i := 7) rfl
theorem w8 : (Jvm.Cond.code ({ cls := "java/lang/Object", name := "<init>", desc := "()V" } : Jvm.MethodName) object_method_1_code (1 : Nat) (Option.none : Option Jvm.ClassFile.FieldType)) ∈ tables_1 := List.mem_of_getElem? (i := 8) rfl
theorem w9 : (Jvm.Cond.arrayClass Jvm.ClassFile.FieldType.int) ∈ tables_1 := List.mem_of_getElem? (i := 9) rfl
theorem w10 : (Jvm.Cond.fieldLink "com/example/rehearsal/rehearsal/engine/Openings" (9 : Nat) "com/example/rehearsal/rehearsal/engine/Openings" "units" "[I") ∈ tables_1 := List.mem_of_getElem? (i := 10) rfl
theorem w11 : (Jvm.Cond.lays "com/example/rehearsal/rehearsal/engine/Openings" "com/example/rehearsal/rehearsal/engine/Openings" "units" "[I") ∈ tables_1 := List.mem_of_getElem? (i := 11) rfl
theorem w12 : (Jvm.Cond.arrayClass Jvm.ClassFile.FieldType.long) ∈ tables_1 := List.mem_of_getElem? (i := 12) rfl
theorem w13 : (Jvm.Cond.fieldLink "com/example/rehearsal/rehearsal/engine/Openings" (13 : Nat) "com/example/rehearsal/rehearsal/engine/Openings" "durations" "[J") ∈ tables_1 := List.mem_of_getElem? (i := 13) rfl
theorem w14 : (Jvm.Cond.lays "com/example/rehearsal/rehearsal/engine/Openings" "com/example/rehearsal/rehearsal/engine/Openings" "durations" "[J") ∈ tables_1 := List.mem_of_getElem? (i := 14) rfl
theorem w15 : (Jvm.Cond.methodLink "com/example/rehearsal/rehearsal/engine/OpeningsSetToPinLaw" (10 : Nat) ({ cls := "com/example/rehearsal/rehearsal/engine/Openings", name := "add", desc := "(IJ)V" } : Jvm.MethodName)) ∈ tables_1 := List.mem_of_getElem? (i := 15) rfl
theorem w16 : (Jvm.Cond.declares ({ cls := "com/example/rehearsal/rehearsal/engine/Openings", name := "add", desc := "(IJ)V" } : Jvm.MethodName)) ∈ tables_1 := List.mem_of_getElem? (i := 16) rfl
theorem w17 : (Jvm.Cond.instanceMethod ({ cls := "com/example/rehearsal/rehearsal/engine/Openings", name := "add", desc := "(IJ)V" } : Jvm.MethodName)) ∈ tables_1 := List.mem_of_getElem? (i := 17) rfl
theorem w18 : (Jvm.Cond.selects "com/example/rehearsal/rehearsal/engine/Openings" ({ cls := "com/example/rehearsal/rehearsal/engine/Openings", name := "add", desc := "(IJ)V" } : Jvm.MethodName) ({ cls := "com/example/rehearsal/rehearsal/engine/Openings", name := "add", desc := "(IJ)V" } : Jvm.MethodName)) ∈ tables_1 := List.mem_of_getElem? (i := 18) rfl
theorem w19 : (Jvm.Cond.code ({ cls := "com/example/rehearsal/rehearsal/engine/Openings", name := "add", desc := "(IJ)V" } : Jvm.MethodName) prog_63_method_3_code (8 : Nat) (Option.none : Option Jvm.ClassFile.FieldType)) ∈ tables_1 := List.mem_of_getElem? (i := 19) rfl
theorem w20 : (Jvm.Cond.methodLink "com/example/rehearsal/rehearsal/engine/OpeningsSetToPinLaw" (14 : Nat) ({ cls := "com/example/rehearsal/rehearsal/engine/Openings", name := "setTo", desc := "(IJI)V" } : Jvm.MethodName)) ∈ tables_1 := List.mem_of_getElem? (i := 20) rfl
theorem w21 : (Jvm.Cond.declares ({ cls := "com/example/rehearsal/rehearsal/engine/Openings", name := "setTo", desc := "(IJI)V" } : Jvm.MethodName)) ∈ tables_1 := List.mem_of_getElem? (i := 21) rfl
theorem w22 : (Jvm.Cond.instanceMethod ({ cls := "com/example/rehearsal/rehearsal/engine/Openings", name := "setTo", desc := "(IJI)V" } : Jvm.MethodName)) ∈ tables_1 := List.mem_of_getElem? (i := 22) rfl
theorem w23 : (Jvm.Cond.selects "com/example/rehearsal/rehearsal/engine/Openings" ({ cls := "com/example/rehearsal/rehearsal/engine/Openings", name := "setTo", desc := "(IJI)V" } : Jvm.MethodName) ({ cls := "com/example/rehearsal/rehearsal/engine/Openings", name := "setTo", desc := "(IJI)V" } : Jvm.MethodName)) ∈ tables_1 := List.mem_of_getElem? (i := 23) rfl
theorem w24 : (Jvm.Cond.code ({ cls := "com/example/rehearsal/rehearsal/engine/Openings", name := "setTo", desc := "(IJI)V" } : Jvm.MethodName) prog_63_method_4_code (5 : Nat) (Option.none : Option Jvm.ClassFile.FieldType)) ∈ tables_1 := List.mem_of_getElem? (i := 24) rfl
theorem w25 : (Jvm.Cond.fieldLink "com/example/rehearsal/rehearsal/engine/Openings" (17 : Nat) "com/example/rehearsal/rehearsal/engine/Openings" "count" "I") ∈ tables_1 := List.mem_of_getElem? (i := 25) rfl
theorem w26 : (Jvm.Cond.lays "com/example/rehearsal/rehearsal/engine/Openings" "com/example/rehearsal/rehearsal/engine/Openings" "count" "I") ∈ tables_1 := List.mem_of_getElem? (i := 26) rfl
theorem w27 : (Jvm.Cond.constantLong "com/example/rehearsal/rehearsal/engine/Openings" (36 : Nat) (9223372036854775807 : Int64)) ∈ tables_1 := List.mem_of_getElem? (i := 27) rfl
theorem w28 : (Jvm.Cond.constantLong "com/example/rehearsal/rehearsal/engine/OpeningsSetToPinLaw" (20 : Nat) (9223372036854775807 : Int64)) ∈ tables_1 := List.mem_of_getElem? (i := 28) rfl
theorem w29 : (Jvm.Cond.methodLink "com/example/rehearsal/rehearsal/engine/OpeningsSetToPinLaw" (22 : Nat) ({ cls := "com/example/rehearsal/rehearsal/engine/Openings", name := "count", desc := "()I" } : Jvm.MethodName)) ∈ tables_1 := List.mem_of_getElem? (i := 29) rfl
theorem w30 : (Jvm.Cond.declares ({ cls := "com/example/rehearsal/rehearsal/engine/Openings", name := "count", desc := "()I" } : Jvm.MethodName)) ∈ tables_1 := List.mem_of_getElem? (i := 30) rfl
theorem w31 : (Jvm.Cond.instanceMethod ({ cls := "com/example/rehearsal/rehearsal/engine/Openings", name := "count", desc := "()I" } : Jvm.MethodName)) ∈ tables_1 := List.mem_of_getElem? (i := 31) rfl
theorem w32 : (Jvm.Cond.selects "com/example/rehearsal/rehearsal/engine/Openings" ({ cls := "com/example/rehearsal/rehearsal/engine/Openings", name := "count", desc := "()I" } : Jvm.MethodName) ({ cls := "com/example/rehearsal/rehearsal/engine/Openings", name := "count", desc := "()I" } : Jvm.MethodName)) ∈ tables_1 := List.mem_of_getElem? (i := 32) rfl
theorem w33 : (Jvm.Cond.code ({ cls := "com/example/rehearsal/rehearsal/engine/Openings", name := "count", desc := "()I" } : Jvm.MethodName) prog_63_method_7_code (1 : Nat) (Option.some Jvm.ClassFile.FieldType.int)) ∈ tables_1 := List.mem_of_getElem? (i := 33) rfl
theorem w34 : (Jvm.Cond.methodLink "com/example/rehearsal/rehearsal/engine/OpeningsSetToPinLaw" (26 : Nat) ({ cls := "com/example/rehearsal/rehearsal/engine/Openings", name := "units", desc := "(I)I" } : Jvm.MethodName)) ∈ tables_1 := List.mem_of_getElem? (i := 34) rfl
theorem w35 : (Jvm.Cond.declares ({ cls := "com/example/rehearsal/rehearsal/engine/Openings", name := "units", desc := "(I)I" } : Jvm.MethodName)) ∈ tables_1 := List.mem_of_getElem? (i := 35) rfl
theorem w36 : (Jvm.Cond.instanceMethod ({ cls := "com/example/rehearsal/rehearsal/engine/Openings", name := "units", desc := "(I)I" } : Jvm.MethodName)) ∈ tables_1 := List.mem_of_getElem? (i := 36) rfl
theorem w37 : (Jvm.Cond.selects "com/example/rehearsal/rehearsal/engine/Openings" ({ cls := "com/example/rehearsal/rehearsal/engine/Openings", name := "units", desc := "(I)I" } : Jvm.MethodName) ({ cls := "com/example/rehearsal/rehearsal/engine/Openings", name := "units", desc := "(I)I" } : Jvm.MethodName)) ∈ tables_1 := List.mem_of_getElem? (i := 37) rfl
theorem w38 : (Jvm.Cond.code ({ cls := "com/example/rehearsal/rehearsal/engine/Openings", name := "units", desc := "(I)I" } : Jvm.MethodName) prog_63_method_8_code (2 : Nat) (Option.some Jvm.ClassFile.FieldType.int)) ∈ tables_1 := List.mem_of_getElem? (i := 38) rfl
theorem w39 : (Jvm.Cond.methodLink "com/example/rehearsal/rehearsal/engine/Openings" (48 : Nat) ({ cls := "com/example/rehearsal/rehearsal/engine/Openings", name := "checked", desc := "(I)I" } : Jvm.MethodName)) ∈ tables_1 := List.mem_of_getElem? (i := 39) rfl
theorem w40 : (Jvm.Cond.instanceMethod ({ cls := "com/example/rehearsal/rehearsal/engine/Openings", name := "checked", desc := "(I)I" } : Jvm.MethodName)) ∈ tables_1 := List.mem_of_getElem? (i := 40) rfl
theorem w41 : (Jvm.Cond.privateMethod ({ cls := "com/example/rehearsal/rehearsal/engine/Openings", name := "checked", desc := "(I)I" } : Jvm.MethodName)) ∈ tables_1 := List.mem_of_getElem? (i := 41) rfl
theorem w42 : (Jvm.Cond.code ({ cls := "com/example/rehearsal/rehearsal/engine/Openings", name := "checked", desc := "(I)I" } : Jvm.MethodName) prog_63_method_12_code (2 : Nat) (Option.some Jvm.ClassFile.FieldType.int)) ∈ tables_1 := List.mem_of_getElem? (i := 42) rfl
theorem w43 : (Jvm.Cond.methodLink "com/example/rehearsal/rehearsal/engine/Openings" (52 : Nat) ({ cls := "java/util/Objects", name := "checkIndex", desc := "(II)I" } : Jvm.MethodName)) ∈ tables_1 := List.mem_of_getElem? (i := 43) rfl
theorem w44 : (Jvm.Cond.static ({ cls := "java/util/Objects", name := "checkIndex", desc := "(II)I" } : Jvm.MethodName)) ∈ tables_1 := List.mem_of_getElem? (i := 44) rfl
theorem w45 : (Jvm.Cond.initialized "java/util/Objects") ∈ tables_1 := List.mem_of_getElem? (i := 45) rfl
theorem w46 : (Jvm.Cond.code ({ cls := "java/util/Objects", name := "checkIndex", desc := "(II)I" } : Jvm.MethodName) jdk_31_method_17_code (2 : Nat) (Option.some Jvm.ClassFile.FieldType.int)) ∈ tables_1 := List.mem_of_getElem? (i := 46) rfl
theorem w47 : (Jvm.Cond.methodLink "java/util/Objects" (105 : Nat) ({ cls := "jdk/internal/util/Preconditions", name := "checkIndex", desc := "(IILjava/util/function/BiFunction;)I" } : Jvm.MethodName)) ∈ tables_1 := List.mem_of_getElem? (i := 47) rfl
theorem w48 : (Jvm.Cond.static ({ cls := "jdk/internal/util/Preconditions", name := "checkIndex", desc := "(IILjava/util/function/BiFunction;)I" } : Jvm.MethodName)) ∈ tables_1 := List.mem_of_getElem? (i := 48) rfl
theorem w49 : (Jvm.Cond.initialized "jdk/internal/util/Preconditions") ∈ tables_1 := List.mem_of_getElem? (i := 49) rfl
theorem w50 : (Jvm.Cond.code ({ cls := "jdk/internal/util/Preconditions", name := "checkIndex", desc := "(IILjava/util/function/BiFunction;)I" } : Jvm.MethodName) jdk_41_method_11_code (3 : Nat) (Option.some Jvm.ClassFile.FieldType.int)) ∈ tables_1 := List.mem_of_getElem? (i := 50) rfl
theorem w51 : (Jvm.Cond.methodLink "com/example/rehearsal/rehearsal/engine/OpeningsSetToPinLaw" (30 : Nat) ({ cls := "com/example/rehearsal/rehearsal/engine/Openings", name := "duration", desc := "(I)J" } : Jvm.MethodName)) ∈ tables_1 := List.mem_of_getElem? (i := 51) rfl
theorem w52 : (Jvm.Cond.declares ({ cls := "com/example/rehearsal/rehearsal/engine/Openings", name := "duration", desc := "(I)J" } : Jvm.MethodName)) ∈ tables_1 := List.mem_of_getElem? (i := 52) rfl
theorem w53 : (Jvm.Cond.instanceMethod ({ cls := "com/example/rehearsal/rehearsal/engine/Openings", name := "duration", desc := "(I)J" } : Jvm.MethodName)) ∈ tables_1 := List.mem_of_getElem? (i := 53) rfl
theorem w54 : (Jvm.Cond.selects "com/example/rehearsal/rehearsal/engine/Openings" ({ cls := "com/example/rehearsal/rehearsal/engine/Openings", name := "duration", desc := "(I)J" } : Jvm.MethodName) ({ cls := "com/example/rehearsal/rehearsal/engine/Openings", name := "duration", desc := "(I)J" } : Jvm.MethodName)) ∈ tables_1 := List.mem_of_getElem? (i := 54) rfl
theorem w55 : (Jvm.Cond.code ({ cls := "com/example/rehearsal/rehearsal/engine/Openings", name := "duration", desc := "(I)J" } : Jvm.MethodName) prog_63_method_9_code (2 : Nat) (Option.some Jvm.ClassFile.FieldType.long)) ∈ tables_1 := List.mem_of_getElem? (i := 55) rfl
theorem w56 : (Jvm.Cond.methodLink "com/example/rehearsal/rehearsal/engine/Openings" (21 : Nat) ({ cls := "com/example/rehearsal/rehearsal/engine/Openings", name := "countWithMoreThan", desc := "(J)I" } : Jvm.MethodName)) ∈ tables_1 := List.mem_of_getElem? (i := 56) rfl
theorem w57 : (Jvm.Cond.instanceMethod ({ cls := "com/example/rehearsal/rehearsal/engine/Openings", name := "countWithMoreThan", desc := "(J)I" } : Jvm.MethodName)) ∈ tables_1 := List.mem_of_getElem? (i := 57) rfl
theorem w58 : (Jvm.Cond.privateMethod ({ cls := "com/example/rehearsal/rehearsal/engine/Openings", name := "countWithMoreThan", desc := "(J)I" } : Jvm.MethodName)) ∈ tables_1 := List.mem_of_getElem? (i := 58) rfl
theorem w59 : (Jvm.Cond.code ({ cls := "com/example/rehearsal/rehearsal/engine/Openings", name := "countWithMoreThan", desc := "(J)I" } : Jvm.MethodName) prog_63_method_11_code (6 : Nat) (Option.some Jvm.ClassFile.FieldType.int)) ∈ tables_1 := List.mem_of_getElem? (i := 59) rfl
theorem d1_0 : decode prog_63_method_1_code 0 = .ok (.aload_n 0, 1) := by decide +kernel
theorem d1_1 : decode prog_63_method_1_code 1 = .ok (.invokespecial 1, 3) := by decide +kernel
theorem d1_4 : decode prog_63_method_1_code 4 = .ok (.aload_n 0, 1) := by decide +kernel
theorem d1_5 : decode prog_63_method_1_code 5 = .ok (.bipush 8, 2) := by decide +kernel
theorem d1_7 : decode prog_63_method_1_code 7 = .ok (.newarray .int, 2) := by decide +kernel
theorem d1_9 : decode prog_63_method_1_code 9 = .ok (.putfield 9, 3) := by decide +kernel
theorem d1_12 : decode prog_63_method_1_code 12 = .ok (.aload_n 0, 1) := by decide +kernel
theorem d1_13 : decode prog_63_method_1_code 13 = .ok (.bipush 8, 2) := by decide +kernel
theorem d1_15 : decode prog_63_method_1_code 15 = .ok (.newarray .long, 2) := by decide +kernel
theorem d1_17 : decode prog_63_method_1_code 17 = .ok (.putfield 13, 3) := by decide +kernel
theorem d1_20 : decode prog_63_method_1_code 20 = .ok (.return_, 1) := by decide +kernel
theorem d3_0 : decode prog_63_method_3_code 0 = .ok (.iload_n 1, 1) := by decide +kernel
theorem d3_1 : decode prog_63_method_3_code 1 = .ok (.iconst 1, 1) := by decide +kernel
theorem d3_2 : decode prog_63_method_3_code 2 = .ok (.if_icmp .lt 9, 3) := by decide +kernel
theorem d3_5 : decode prog_63_method_3_code 5 = .ok (.lload_n 2, 1) := by decide +kernel
theorem d3_6 : decode prog_63_method_3_code 6 = .ok (.lconst 1, 1) := by decide +kernel
theorem d3_7 : decode prog_63_method_3_code 7 = .ok (.lcmp, 1) := by decide +kernel
theorem d3_8 : decode prog_63_method_3_code 8 = .ok (.ifCond .ge 4, 3) := by decide +kernel
theorem d3_11 : decode prog_63_method_3_code 11 = .ok (.return_, 1) := by decide +kernel
theorem d3_12 : decode prog_63_method_3_code 12 = .ok (.aload_n 0, 1) := by decide +kernel
theorem d3_13 : decode prog_63_method_3_code 13 = .ok (.getfield 17, 3) := by decide +kernel
theorem d3_16 : decode prog_63_method_3_code 16 = .ok (.ifCond .le 25, 3) := by decide +kernel
theorem d3_41 : decode prog_63_method_3_code 41 = .ok (.aload_n 0, 1) := by decide +kernel
theorem d3_42 : decode prog_63_method_3_code 42 = .ok (.iload_n 1, 1) := by decide +kernel
theorem d3_43 : decode prog_63_method_3_code 43 = .ok (.i2l, 1) := by decide +kernel
theorem d3_44 : decode prog_63_method_3_code 44 = .ok (.invokevirtual 21, 3) := by decide +kernel
theorem d3_47 : decode prog_63_method_3_code 47 = .ok (.istore 4, 2) := by decide +kernel
theorem d3_49 : decode prog_63_method_3_code 49 = .ok (.iload 4, 2) := by decide +kernel
theorem d3_51 : decode prog_63_method_3_code 51 = .ok (.ifCond .le 17, 3) := by decide +kernel
theorem d3_68 : decode prog_63_method_3_code 68 = .ok (.iload 4, 2) := by decide +kernel
theorem d3_70 : decode prog_63_method_3_code 70 = .ok (.aload_n 0, 1) := by decide +kernel
theorem d3_71 : decode prog_63_method_3_code 71 = .ok (.getfield 17, 3) := by decide +kernel
theorem d3_74 : decode prog_63_method_3_code 74 = .ok (.if_icmp .ge 27, 3) := by decide +kernel
theorem d3_101 : decode prog_63_method_3_code 101 = .ok (.iload 4, 2) := by decide +kernel
theorem d3_103 : decode prog_63_method_3_code 103 = .ok (.istore 5, 2) := by decide +kernel
theorem d3_105 : decode prog_63_method_3_code 105 = .ok (.iload 5, 2) := by decide +kernel
theorem d3_107 : decode prog_63_method_3_code 107 = .ok (.aload_n 0, 1) := by decide +kernel
theorem d3_108 : decode prog_63_method_3_code 108 = .ok (.getfield 17, 3) := by decide +kernel
theorem d3_111 : decode prog_63_method_3_code 111 = .ok (.if_icmp .ge 21, 3) := by decide +kernel
theorem d3_132 : decode prog_63_method_3_code 132 = .ok (.iload 5, 2) := by decide +kernel
theorem d3_134 : decode prog_63_method_3_code 134 = .ok (.iload 4, 2) := by decide +kernel
theorem d3_136 : decode prog_63_method_3_code 136 = .ok (.if_icmp .ne 103, 3) := by decide +kernel
theorem d3_139 : decode prog_63_method_3_code 139 = .ok (.aload_n 0, 1) := by decide +kernel
theorem d3_140 : decode prog_63_method_3_code 140 = .ok (.getfield 17, 3) := by decide +kernel
theorem d3_143 : decode prog_63_method_3_code 143 = .ok (.aload_n 0, 1) := by decide +kernel
theorem d3_144 : decode prog_63_method_3_code 144 = .ok (.getfield 9, 3) := by decide +kernel
theorem d3_147 : decode prog_63_method_3_code 147 = .ok (.arraylength, 1) := by decide +kernel
theorem d3_148 : decode prog_63_method_3_code 148 = .ok (.if_icmp .ne 37, 3) := by decide +kernel
theorem d3_185 : decode prog_63_method_3_code 185 = .ok (.aload_n 0, 1) := by decide +kernel
theorem d3_186 : decode prog_63_method_3_code 186 = .ok (.getfield 17, 3) := by decide +kernel
theorem d3_189 : decode prog_63_method_3_code 189 = .ok (.istore 6, 2) := by decide +kernel
theorem d3_191 : decode prog_63_method_3_code 191 = .ok (.iload 6, 2) := by decide +kernel
theorem d3_193 : decode prog_63_method_3_code 193 = .ok (.iload 4, 2) := by decide +kernel
theorem d3_195 : decode prog_63_method_3_code 195 = .ok (.if_icmp .le 41, 3) := by decide +kernel
theorem d3_236 : decode prog_63_method_3_code 236 = .ok (.goto 70, 3) := by decide +kernel
theorem d3_306 : decode prog_63_method_3_code 306 = .ok (.aload_n 0, 1) := by decide +kernel
theorem d3_307 : decode prog_63_method_3_code 307 = .ok (.dup, 1) := by decide +kernel
theorem d3_308 : decode prog_63_method_3_code 308 = .ok (.getfield 17, 3) := by decide +kernel
theorem d3_311 : decode prog_63_method_3_code 311 = .ok (.iload 4, 2) := by decide +kernel
theorem d3_313 : decode prog_63_method_3_code 313 = .ok (.iconst 1, 1) := by decide +kernel
theorem d3_314 : decode prog_63_method_3_code 314 = .ok (.iadd, 1) := by decide +kernel
theorem d3_315 : decode prog_63_method_3_code 315 = .ok (.iload 5, 2) := by decide +kernel
theorem d3_317 : decode prog_63_method_3_code 317 = .ok (.isub, 1) := by decide +kernel
theorem d3_318 : decode prog_63_method_3_code 318 = .ok (.iadd, 1) := by decide +kernel
theorem d3_319 : decode prog_63_method_3_code 319 = .ok (.putfield 17, 3) := by decide +kernel
theorem d3_322 : decode prog_63_method_3_code 322 = .ok (.aload_n 0, 1) := by decide +kernel
theorem d3_323 : decode prog_63_method_3_code 323 = .ok (.getfield 9, 3) := by decide +kernel
theorem d3_326 : decode prog_63_method_3_code 326 = .ok (.iload 4, 2) := by decide +kernel
theorem d3_328 : decode prog_63_method_3_code 328 = .ok (.iload_n 1, 1) := by decide +kernel
theorem d3_329 : decode prog_63_method_3_code 329 = .ok (.iastore, 1) := by decide +kernel
theorem d3_330 : decode prog_63_method_3_code 330 = .ok (.aload_n 0, 1) := by decide +kernel
theorem d3_331 : decode prog_63_method_3_code 331 = .ok (.getfield 13, 3) := by decide +kernel
theorem d3_334 : decode prog_63_method_3_code 334 = .ok (.iload 4, 2) := by decide +kernel
theorem d3_336 : decode prog_63_method_3_code 336 = .ok (.lload_n 2, 1) := by decide +kernel
theorem d3_337 : decode prog_63_method_3_code 337 = .ok (.lastore, 1) := by decide +kernel
theorem d3_338 : decode prog_63_method_3_code 338 = .ok (.return_, 1) := by decide +kernel
theorem d4_0 : decode prog_63_method_4_code 0 = .ok (.aload_n 0, 1) := by decide +kernel
theorem d4_1 : decode prog_63_method_4_code 1 = .ok (.iconst 0, 1) := by decide +kernel
theorem d4_2 : decode prog_63_method_4_code 2 = .ok (.putfield 17, 3) := by decide +kernel
theorem d4_5 : decode prog_63_method_4_code 5 = .ok (.iload_n 1, 1) := by decide +kernel
theorem d4_6 : decode prog_63_method_4_code 6 = .ok (.iload 4, 2) := by decide +kernel
theorem d4_8 : decode prog_63_method_4_code 8 = .ok (.if_icmp .le 33, 3) := by decide +kernel
theorem d4_11 : decode prog_63_method_4_code 11 = .ok (.iload_n 1, 1) := by decide +kernel
theorem d4_12 : decode prog_63_method_4_code 12 = .ok (.iconst 1, 1) := by decide +kernel
theorem d4_13 : decode prog_63_method_4_code 13 = .ok (.if_icmp .lt 28, 3) := by decide +kernel
theorem d4_16 : decode prog_63_method_4_code 16 = .ok (.lload_n 2, 1) := by decide +kernel
theorem d4_17 : decode prog_63_method_4_code 17 = .ok (.lconst 1, 1) := by decide +kernel
theorem d4_18 : decode prog_63_method_4_code 18 = .ok (.lcmp, 1) := by decide +kernel
theorem d4_19 : decode prog_63_method_4_code 19 = .ok (.ifCond .lt 22, 3) := by decide +kernel
theorem d4_22 : decode prog_63_method_4_code 22 = .ok (.aload_n 0, 1) := by decide +kernel
theorem d4_23 : decode prog_63_method_4_code 23 = .ok (.getfield 9, 3) := by decide +kernel
theorem d4_26 : decode prog_63_method_4_code 26 = .ok (.iconst 0, 1) := by decide +kernel
theorem d4_27 : decode prog_63_method_4_code 27 = .ok (.iload_n 1, 1) := by decide +kernel
theorem d4_28 : decode prog_63_method_4_code 28 = .ok (.iastore, 1) := by decide +kernel
theorem d4_29 : decode prog_63_method_4_code 29 = .ok (.aload_n 0, 1) := by decide +kernel
theorem d4_30 : decode prog_63_method_4_code 30 = .ok (.getfield 13, 3) := by decide +kernel
theorem d4_33 : decode prog_63_method_4_code 33 = .ok (.iconst 0, 1) := by decide +kernel
theorem d4_34 : decode prog_63_method_4_code 34 = .ok (.lload_n 2, 1) := by decide +kernel
theorem d4_35 : decode prog_63_method_4_code 35 = .ok (.lastore, 1) := by decide +kernel
theorem d4_36 : decode prog_63_method_4_code 36 = .ok (.aload_n 0, 1) := by decide +kernel
theorem d4_37 : decode prog_63_method_4_code 37 = .ok (.iconst 1, 1) := by decide +kernel
theorem d4_38 : decode prog_63_method_4_code 38 = .ok (.putfield 17, 3) := by decide +kernel
theorem d4_41 : decode prog_63_method_4_code 41 = .ok (.iload 4, 2) := by decide +kernel
theorem d4_43 : decode prog_63_method_4_code 43 = .ok (.iconst 1, 1) := by decide +kernel
theorem d4_44 : decode prog_63_method_4_code 44 = .ok (.if_icmp .lt 51, 3) := by decide +kernel
theorem d4_47 : decode prog_63_method_4_code 47 = .ok (.aload_n 0, 1) := by decide +kernel
theorem d4_48 : decode prog_63_method_4_code 48 = .ok (.getfield 17, 3) := by decide +kernel
theorem d4_51 : decode prog_63_method_4_code 51 = .ok (.ifCond .eq 11, 3) := by decide +kernel
theorem d4_54 : decode prog_63_method_4_code 54 = .ok (.lload_n 2, 1) := by decide +kernel
theorem d4_55 : decode prog_63_method_4_code 55 = .ok (.ldc2_w 36, 3) := by decide +kernel
theorem d4_58 : decode prog_63_method_4_code 58 = .ok (.lcmp, 1) := by decide +kernel
theorem d4_59 : decode prog_63_method_4_code 59 = .ok (.ifCond .ge 36, 3) := by decide +kernel
theorem d4_62 : decode prog_63_method_4_code 62 = .ok (.aload_n 0, 1) := by decide +kernel
theorem d4_63 : decode prog_63_method_4_code 63 = .ok (.getfield 9, 3) := by decide +kernel
theorem d4_66 : decode prog_63_method_4_code 66 = .ok (.aload_n 0, 1) := by decide +kernel
theorem d4_67 : decode prog_63_method_4_code 67 = .ok (.getfield 17, 3) := by decide +kernel
theorem d4_70 : decode prog_63_method_4_code 70 = .ok (.iload 4, 2) := by decide +kernel
theorem d4_72 : decode prog_63_method_4_code 72 = .ok (.iastore, 1) := by decide +kernel
theorem d4_73 : decode prog_63_method_4_code 73 = .ok (.aload_n 0, 1) := by decide +kernel
theorem d4_74 : decode prog_63_method_4_code 74 = .ok (.getfield 13, 3) := by decide +kernel
theorem d4_77 : decode prog_63_method_4_code 77 = .ok (.aload_n 0, 1) := by decide +kernel
theorem d4_78 : decode prog_63_method_4_code 78 = .ok (.getfield 17, 3) := by decide +kernel
theorem d4_81 : decode prog_63_method_4_code 81 = .ok (.ldc2_w 36, 3) := by decide +kernel
theorem d4_84 : decode prog_63_method_4_code 84 = .ok (.lastore, 1) := by decide +kernel
theorem d4_85 : decode prog_63_method_4_code 85 = .ok (.aload_n 0, 1) := by decide +kernel
theorem d4_86 : decode prog_63_method_4_code 86 = .ok (.dup, 1) := by decide +kernel
theorem d4_87 : decode prog_63_method_4_code 87 = .ok (.getfield 17, 3) := by decide +kernel
theorem d4_90 : decode prog_63_method_4_code 90 = .ok (.iconst 1, 1) := by decide +kernel
theorem d4_91 : decode prog_63_method_4_code 91 = .ok (.iadd, 1) := by decide +kernel
theorem d4_92 : decode prog_63_method_4_code 92 = .ok (.putfield 17, 3) := by decide +kernel
theorem d4_95 : decode prog_63_method_4_code 95 = .ok (.return_, 1) := by decide +kernel
theorem d5_0 : decode prog_63_method_7_code 0 = .ok (.aload_n 0, 1) := by decide +kernel
theorem d5_1 : decode prog_63_method_7_code 1 = .ok (.getfield 17, 3) := by decide +kernel
theorem d5_4 : decode prog_63_method_7_code 4 = .ok (.ireturn, 1) := by decide +kernel
theorem d6_0 : decode prog_63_method_8_code 0 = .ok (.aload_n 0, 1) := by decide +kernel
theorem d6_1 : decode prog_63_method_8_code 1 = .ok (.getfield 9, 3) := by decide +kernel
theorem d6_4 : decode prog_63_method_8_code 4 = .ok (.aload_n 0, 1) := by decide +kernel
theorem d6_5 : decode prog_63_method_8_code 5 = .ok (.iload_n 1, 1) := by decide +kernel
theorem d6_6 : decode prog_63_method_8_code 6 = .ok (.invokevirtual 48, 3) := by decide +kernel
theorem d6_9 : decode prog_63_method_8_code 9 = .ok (.iaload, 1) := by decide +kernel
theorem d6_10 : decode prog_63_method_8_code 10 = .ok (.ireturn, 1) := by decide +kernel
theorem d7_0 : decode prog_63_method_12_code 0 = .ok (.iload_n 1, 1) := by decide +kernel
theorem d7_1 : decode prog_63_method_12_code 1 = .ok (.aload_n 0, 1) := by decide +kernel
theorem d7_2 : decode prog_63_method_12_code 2 = .ok (.getfield 17, 3) := by decide +kernel
theorem d7_5 : decode prog_63_method_12_code 5 = .ok (.invokestatic 52, 3) := by decide +kernel
theorem d7_8 : decode prog_63_method_12_code 8 = .ok (.ireturn, 1) := by decide +kernel
theorem d8_0 : decode jdk_31_method_17_code 0 = .ok (.iload_n 0, 1) := by decide +kernel
theorem d8_1 : decode jdk_31_method_17_code 1 = .ok (.iload_n 1, 1) := by decide +kernel
theorem d8_2 : decode jdk_31_method_17_code 2 = .ok (.aconst_null, 1) := by decide +kernel
theorem d8_3 : decode jdk_31_method_17_code 3 = .ok (.invokestatic 105, 3) := by decide +kernel
theorem d8_6 : decode jdk_31_method_17_code 6 = .ok (.ireturn, 1) := by decide +kernel
theorem d9_0 : decode jdk_41_method_11_code 0 = .ok (.iload_n 0, 1) := by decide +kernel
theorem d9_1 : decode jdk_41_method_11_code 1 = .ok (.ifCond .lt 8, 3) := by decide +kernel
theorem d9_4 : decode jdk_41_method_11_code 4 = .ok (.iload_n 0, 1) := by decide +kernel
theorem d9_5 : decode jdk_41_method_11_code 5 = .ok (.iload_n 1, 1) := by decide +kernel
theorem d9_6 : decode jdk_41_method_11_code 6 = .ok (.if_icmp .lt 10, 3) := by decide +kernel
theorem d9_16 : decode jdk_41_method_11_code 16 = .ok (.iload_n 0, 1) := by decide +kernel
theorem d9_17 : decode jdk_41_method_11_code 17 = .ok (.ireturn, 1) := by decide +kernel
theorem d10_0 : decode prog_63_method_9_code 0 = .ok (.aload_n 0, 1) := by decide +kernel
theorem d10_1 : decode prog_63_method_9_code 1 = .ok (.getfield 13, 3) := by decide +kernel
theorem d10_4 : decode prog_63_method_9_code 4 = .ok (.aload_n 0, 1) := by decide +kernel
theorem d10_5 : decode prog_63_method_9_code 5 = .ok (.iload_n 1, 1) := by decide +kernel
theorem d10_6 : decode prog_63_method_9_code 6 = .ok (.invokevirtual 48, 3) := by decide +kernel
theorem d10_9 : decode prog_63_method_9_code 9 = .ok (.laload, 1) := by decide +kernel
theorem d10_10 : decode prog_63_method_9_code 10 = .ok (.lreturn, 1) := by decide +kernel
theorem d11_0 : decode prog_63_method_11_code 0 = .ok (.iconst 0, 1) := by decide +kernel
theorem d11_1 : decode prog_63_method_11_code 1 = .ok (.istore_n 3, 1) := by decide +kernel
theorem d11_2 : decode prog_63_method_11_code 2 = .ok (.aload_n 0, 1) := by decide +kernel
theorem d11_3 : decode prog_63_method_11_code 3 = .ok (.getfield 17, 3) := by decide +kernel
theorem d11_6 : decode prog_63_method_11_code 6 = .ok (.istore 4, 2) := by decide +kernel
theorem d11_8 : decode prog_63_method_11_code 8 = .ok (.iload_n 3, 1) := by decide +kernel
theorem d11_9 : decode prog_63_method_11_code 9 = .ok (.iload 4, 2) := by decide +kernel
theorem d11_11 : decode prog_63_method_11_code 11 = .ok (.if_icmp .ge 39, 3) := by decide +kernel
theorem d11_50 : decode prog_63_method_11_code 50 = .ok (.iload_n 3, 1) := by decide +kernel
theorem d11_51 : decode prog_63_method_11_code 51 = .ok (.ireturn, 1) := by decide +kernel
theorem pd__28_29I : parseMethodDescriptor "()I" = some ⟨[], some .int⟩ := by decide +kernel
theorem pd__28_29V : parseMethodDescriptor "()V" = some ⟨[], none⟩ := by decide +kernel
theorem pd__28I_29I : parseMethodDescriptor "(I)I" = some ⟨[.int], some .int⟩ := by decide +kernel
theorem pd__28I_29J : parseMethodDescriptor "(I)J" = some ⟨[.int], some .long⟩ := by decide +kernel
theorem pd__28II_29I : parseMethodDescriptor "(II)I" = some ⟨[.int, .int], some .int⟩ := by decide +kernel
theorem pd__28IILjava_2futil_2ffunction_2fBiFunction_3b_29I : parseMethodDescriptor "(IILjava/util/function/BiFunction;)I" = some ⟨[.int, .int, (.object "java/util/function/BiFunction")], some .int⟩ := by decide +kernel
theorem pd__28IJ_29V : parseMethodDescriptor "(IJ)V" = some ⟨[.int, .long], none⟩ := by decide +kernel
theorem pd__28IJI_29V : parseMethodDescriptor "(IJI)V" = some ⟨[.int, .long, .int], none⟩ := by decide +kernel
theorem pd__28J_29I : parseMethodDescriptor "(J)I" = some ⟨[.long], some .int⟩ := by decide +kernel
set_option maxRecDepth 65536 in
set_option maxHeartbeats 40000000 in
theorem c_init {l : Launch} {Z : State} {a0 : Array Value} (hw : ∀ d ∈ tables_1, d.before a0 Z = true) {h0 : Heap} {n0 : Nat} (sz0 : n0 ≤ h0.size) (o : Addr) (gn_o : n0 ≤ o) (E_o : Exa Z h0 o "com/example/rehearsal/rehearsal/engine/Openings") (F_o_units : Fld Z h0 o "com/example/rehearsal/rehearsal/engine/Openings" "units" "[I" .null) (F_o_durations : Fld Z h0 o "com/example/rehearsal/rehearsal/engine/Openings" "durations" "[J" .null) (F_o_count : Fld Z h0 o "com/example/rehearsal/rehearsal/engine/Openings" "count" "I" (.int (0 : Int32))) : Con l Z (⟨"com/example/rehearsal/rehearsal/engine/Openings", "<init>", "()V"⟩ : MethodName) prog_63_method_1_code 1 none ({ frames := 1, cells := 2, slots := 16, locals := 12 } : Room) [] #[(.ref o)] h0 (fun v h L => ∃ u d, v = none ∧ h0.size ≤ u ∧ u < d ∧ Fr n0 L ∧ Keep h0 h [o] ∧ Exa Z h o "com/example/rehearsal/rehearsal/engine/Openings" ∧ Fld Z h o "com/example/rehearsal/rehearsal/engine/Openings" "units" "[I" (.ref u) ∧ Fld Z h o "com/example/rehearsal/rehearsal/engine/Openings" "durations" "[J" (.ref d) ∧ Fld Z h o "com/example/rehearsal/rehearsal/engine/Openings" "count" "I" (.int (0 : Int32)) ∧ Al Z h u .int [(.int (0 : Int32)), (.int (0 : Int32)), (.int (0 : Int32)), (.int (0 : Int32)), (.int (0 : Int32)), (.int (0 : Int32)), (.int (0 : Int32)), (.int (0 : Int32))] ∧ Al Z h d .long [(.long (0 : Int64)), (.long (0 : Int64)), (.long (0 : Int64)), (.long (0 : Int64)), (.long (0 : Int64)), (.long (0 : Int64)), (.long (0 : Int64)), (.long (0 : Int64))]) := by
  refine con_of (Ls := #[.val (.ref o)]) (plainFor_of_name (by first | (simp [plainName, overriddenIn]; done) | decide +kernel)) (fun m => by first | rfl | (simp [entryFrame, mkF, argsToLocals, Value.category]; done)) ?_
  have N0 : Fr n0 [] := Fr.nil _
  have K0 : Keep h0 h0 [o] := Keep.refl _ _
  refine Go.aloadN (pc' := 1) d1_0 rfl rfl rfl ?_
  refine Go.initO (pc' := 4) (W := 0) d1_1 rfl (hw _ w6) (hw _ w7) (hw _ w8) (by decide) (by decide) rfl (Nat.le_of_eq rfl) ?_
  refine Go.aloadN (pc' := 5) d1_4 rfl rfl rfl ?_
  refine Go.bipush (pc' := 7) d1_5 rfl (z := (8 : Int32)) (by decide) ?_
  refine Go.new_int (pc' := 9) (k' := 1) (n' := 8) (N := 8) (vs := [(.int (0 : Int32)), (.int (0 : Int32)), (.int (0 : Int32)), (.int (0 : Int32)), (.int (0 : Int32)), (.int (0 : Int32)), (.int (0 : Int32)), (.int (0 : Int32))]) d1_7 rfl (hw _ w9) (by decide) rfl 8 (Nat.le_refl _) (by decide) (by decide) (by decide) rfl rfl ?_
  intro h1 u ha_u X1 A_u
  have ne_o_u : o ≠ u := Nat.ne_of_lt (by rw [ha_u]; exact E_o.lt)
  have gn_u : n0 ≤ u := by rw [ha_u]; exact sz0
  have hs_u : h0.size ≤ u := by rw [ha_u]; exact K0.1
  replace sz0 : n0 ≤ h1.size := Nat.le_trans sz0 X1.1
  replace E_o := E_o.ext X1
  replace F_o_units := F_o_units.ext X1
  replace F_o_durations := F_o_durations.ext X1
  replace F_o_count := F_o_count.ext X1
  replace K0 := K0.ext X1
  refine Go.putF (pc' := 12) d1_9 rfl (hw _ w10) Via.refl F_o_units E_o (Or.inl (hw _ w11)) (hw _ w1) (ty := (.array .int)) (by decide) rfl rfl ?_
  intro h2 L2 NL2 W2
  replace F_o_units := F_o_units.same W2
  replace N0 := NL2 _ N0 gn_o
  replace sz0 : n0 ≤ h2.size := by rw [W2.size]; exact sz0
  replace E_o := E_o.wr W2
  replace F_o_durations := F_o_durations.other W2 (Or.inr (slot_ne (Or.inl (hw _ w14)) (Or.inl (hw _ w11)) (by decide) (t := (.array .long)) (t' := (.array .int)) (by decide) (by decide)))
  replace F_o_count := F_o_count.other W2 (Or.inr (slot_ne (Or.inl (hw _ w26)) (Or.inl (hw _ w11)) (by decide) (t := .int) (t' := (.array .int)) (by decide) (by decide)))
  replace A_u := A_u.other W2 (Ne.symm ne_o_u)
  replace K0 := K0.wr W2 (Or.inl (by simp))
  refine Go.aloadN (pc' := 13) d1_12 rfl rfl rfl ?_
  refine Go.bipush (pc' := 15) d1_13 rfl (z := (8 : Int32)) (by decide) ?_
  have lt_u := A_u.lt
  refine Go.new_long (pc' := 17) (k' := 2) (n' := 16) (N := 8) (vs := [(.long (0 : Int64)), (.long (0 : Int64)), (.long (0 : Int64)), (.long (0 : Int64)), (.long (0 : Int64)), (.long (0 : Int64)), (.long (0 : Int64)), (.long (0 : Int64))]) d1_15 rfl (hw _ w12) (by decide) rfl 8 (Nat.le_refl _) (by decide) (by decide) (by decide) rfl rfl ?_
  intro h3 d ha_d X3 A_d
  have ne_o_d : o ≠ d := Nat.ne_of_lt (by rw [ha_d]; exact E_o.lt)
  have ne_u_d : u ≠ d := Nat.ne_of_lt (by rw [ha_d]; exact A_u.lt)
  have gn_d : n0 ≤ d := by rw [ha_d]; exact sz0
  have hs_d : h0.size ≤ d := by rw [ha_d]; exact K0.1
  replace sz0 : n0 ≤ h3.size := Nat.le_trans sz0 X3.1
  replace E_o := E_o.ext X3
  replace F_o_units := F_o_units.ext X3
  replace F_o_durations := F_o_durations.ext X3
  replace F_o_count := F_o_count.ext X3
  replace A_u := A_u.ext X3
  replace K0 := K0.ext X3
  refine Go.putF (pc' := 20) d1_17 rfl (hw _ w13) Via.refl F_o_durations E_o (Or.inl (hw _ w14)) (hw _ w1) (ty := (.array .long)) (by decide) rfl rfl ?_
  intro h4 L4 NL4 W4
  replace F_o_durations := F_o_durations.same W4
  replace N0 := NL4 _ N0 gn_o
  replace sz0 : n0 ≤ h4.size := by rw [W4.size]; exact sz0
  replace E_o := E_o.wr W4
  replace F_o_units := F_o_units.other W4 (Or.inr (slot_ne (Or.inl (hw _ w11)) (Or.inl (hw _ w14)) (by decide) (t := (.array .int)) (t' := (.array .long)) (by decide) (by decide)))
  replace F_o_count := F_o_count.other W4 (Or.inr (slot_ne (Or.inl (hw _ w26)) (Or.inl (hw _ w14)) (by decide) (t := .int) (t' := (.array .long)) (by decide) (by decide)))
  replace A_u := A_u.other W4 (Ne.symm ne_o_u)
  replace A_d := A_d.other W4 (Ne.symm ne_o_d)
  replace K0 := K0.wr W4 (Or.inl (by simp))
  refine Go.retV d1_20 rfl (by decide) (by decide) ?_
  exact ⟨u, d, rfl, hs_u, by rw [ha_d]; exact lt_u, N0, K0, E_o, F_o_units, F_o_durations, F_o_count, A_u, A_d⟩
set_option maxRecDepth 65536 in
set_option maxHeartbeats 40000000 in
theorem c_cw {l : Launch} {Z : State} {a0 : Array Value} (hw : ∀ d ∈ tables_1, d.before a0 Z = true) {h0 : Heap} (o u d : Addr) (q : Int64) (ne_u_d : u ≠ d) (E_o : Exa Z h0 o "com/example/rehearsal/rehearsal/engine/Openings") (F_o_units : Fld Z h0 o "com/example/rehearsal/rehearsal/engine/Openings" "units" "[I" (.ref u)) (F_o_durations : Fld Z h0 o "com/example/rehearsal/rehearsal/engine/Openings" "durations" "[J" (.ref d)) (F_o_count : Fld Z h0 o "com/example/rehearsal/rehearsal/engine/Openings" "count" "I" (.int (0 : Int32))) (A_u : Al Z h0 u .int [(.int (0 : Int32)), (.int (0 : Int32)), (.int (0 : Int32)), (.int (0 : Int32)), (.int (0 : Int32)), (.int (0 : Int32)), (.int (0 : Int32)), (.int (0 : Int32))]) (A_d : Al Z h0 d .long [(.long (0 : Int64)), (.long (0 : Int64)), (.long (0 : Int64)), (.long (0 : Int64)), (.long (0 : Int64)), (.long (0 : Int64)), (.long (0 : Int64)), (.long (0 : Int64))]) : Con l Z (⟨"com/example/rehearsal/rehearsal/engine/Openings", "countWithMoreThan", "(J)I"⟩ : MethodName) prog_63_method_11_code 6 (some .int) ({ frames := 0, cells := 0, slots := 0, locals := 0 } : Room) [] #[(.ref o), (.long q)] h0 (PQ h0 (some (.int (0 : Int32)))) := by
  refine con_of (Ls := #[.val (.ref o), .val (.long q), .second, .unset, .unset, .unset]) (plainFor_of_name (by first | (simp [plainName, overriddenIn]; done) | decide +kernel)) (fun m => by first | rfl | (simp [entryFrame, mkF, argsToLocals, Value.category]; done)) ?_
  have ne_o_u : o ≠ u := ne_al E_o (hw _ w1) A_u
  have ne_o_d : o ≠ d := ne_al E_o (hw _ w1) A_d
  refine Go.iconst (pc' := 1) d11_0 rfl (z := (0 : Int32)) (by decide) ?_
  refine Go.istoreN (pc' := 2) d11_1 rfl (Ls' := #[.val (.ref o), .val (.long q), .second, .val (.int (0 : Int32)), .unset, .unset]) rfl ?_
  refine Go.aloadN (pc' := 3) d11_2 rfl rfl rfl ?_
  refine Go.getF (pc' := 6) d11_3 rfl (hw _ w25) Via.refl F_o_count ?_
  refine Go.istore (pc' := 8) d11_6 rfl (Ls' := #[.val (.ref o), .val (.long q), .second, .val (.int (0 : Int32)), .val (.int (0 : Int32)), .unset]) rfl ?_
  refine Go.iloadN (pc' := 9) d11_8 rfl rfl ?_
  refine Go.iload (pc' := 11) d11_9 rfl rfl ?_
  refine Go.icmpT (pc' := 50) (X := (0 : Int)) (Y := (0 : Int)) d11_11 (by decide) (by decide) (by decide) (by decide : ¬ (0 : Int) < (0 : Int)) ?_
  refine Go.iloadN (pc' := 51) d11_50 rfl rfl ?_
  refine Go.retI d11_51 rfl (by decide) (by decide) ?_
  exact ⟨rfl, rfl, rfl⟩
set_option maxRecDepth 65536 in
set_option maxHeartbeats 40000000 in
theorem c_add {l : Launch} {Z : State} {a0 : Array Value} (hw : ∀ d ∈ tables_1, d.before a0 Z = true) {h0 : Heap} {n0 : Nat} (sz0 : n0 ≤ h0.size) (o u d : Addr) (a : Int32) (q : Int64) (gn_o : n0 ≤ o) (gn_u : n0 ≤ u) (gn_d : n0 ≤ d) (ne_u_d : u ≠ d) (E_o : Exa Z h0 o "com/example/rehearsal/rehearsal/engine/Openings") (F_o_units : Fld Z h0 o "com/example/rehearsal/rehearsal/engine/Openings" "units" "[I" (.ref u)) (F_o_durations : Fld Z h0 o "com/example/rehearsal/rehearsal/engine/Openings" "durations" "[J" (.ref d)) (F_o_count : Fld Z h0 o "com/example/rehearsal/rehearsal/engine/Openings" "count" "I" (.int (0 : Int32))) (A_u : Al Z h0 u .int [(.int (0 : Int32)), (.int (0 : Int32)), (.int (0 : Int32)), (.int (0 : Int32)), (.int (0 : Int32)), (.int (0 : Int32)), (.int (0 : Int32)), (.int (0 : Int32))]) (A_d : Al Z h0 d .long [(.long (0 : Int64)), (.long (0 : Int64)), (.long (0 : Int64)), (.long (0 : Int64)), (.long (0 : Int64)), (.long (0 : Int64)), (.long (0 : Int64)), (.long (0 : Int64))]) : Con l Z (⟨"com/example/rehearsal/rehearsal/engine/Openings", "add", "(IJ)V"⟩ : MethodName) prog_63_method_3_code 8 none ({ frames := 1, cells := 0, slots := 0, locals := 17 } : Room) [] #[(.ref o), (.int a), (.long q)] h0 (fun v h L => ∃ (cn u0 : Int32) (d0 : Int64), v = none ∧ Fr n0 L ∧ Keep h0 h [o, u, d] ∧ Exa Z h o "com/example/rehearsal/rehearsal/engine/Openings" ∧ Fld Z h o "com/example/rehearsal/rehearsal/engine/Openings" "units" "[I" (.ref u) ∧ Fld Z h o "com/example/rehearsal/rehearsal/engine/Openings" "durations" "[J" (.ref d) ∧ Fld Z h o "com/example/rehearsal/rehearsal/engine/Openings" "count" "I" (.int cn) ∧ Al Z h u .int [(.int u0), (.int (0 : Int32)), (.int (0 : Int32)), (.int (0 : Int32)), (.int (0 : Int32)), (.int (0 : Int32)), (.int (0 : Int32)), (.int (0 : Int32))] ∧ Al Z h d .long [(.long d0), (.long (0 : Int64)), (.long (0 : Int64)), (.long (0 : Int64)), (.long (0 : Int64)), (.long (0 : Int64)), (.long (0 : Int64)), (.long (0 : Int64))]) := by
  refine con_of (Ls := #[.val (.ref o), .val (.int a), .val (.long q), .second, .unset, .unset, .unset, .unset]) (plainFor_of_name (by first | (simp [plainName, overriddenIn]; done) | decide +kernel)) (fun m => by first | rfl | (simp [entryFrame, mkF, argsToLocals, Value.category]; done)) ?_
  have N0 : Fr n0 [] := Fr.nil _
  have K0 : Keep h0 h0 [o, u, d] := Keep.refl _ _
  have ne_o_u : o ≠ u := ne_al E_o (hw _ w1) A_u
  have ne_o_d : o ≠ d := ne_al E_o (hw _ w1) A_d
  refine Go.iloadN (pc' := 1) d3_0 rfl rfl ?_
  refine Go.iconst (pc' := 2) d3_1 rfl (z := (1 : Int32)) (by decide) ?_
  by_cases hc1 : a.toInt < (1 : Int)
  · refine Go.icmpT (pc' := 11) (X := a.toInt) (Y := (1 : Int)) d3_2 (by decide) rfl (by decide) (hc1 : a.toInt < (1 : Int)) ?_
    refine Go.retV d3_11 rfl (by decide) (by decide) ?_
    exact ⟨(0 : Int32), (0 : Int32), (0 : Int64), rfl, N0, K0, E_o, F_o_units, F_o_durations, F_o_count, A_u, A_d⟩
  · refine Go.icmpF (pc' := 5) (X := a.toInt) (Y := (1 : Int)) d3_2 rfl rfl (by decide) (hc1 : ¬ a.toInt < (1 : Int)) ?_
    refine Go.lloadN (pc' := 6) d3_5 rfl rfl ?_
    refine Go.lconst (pc' := 7) d3_6 rfl (z := (1 : Int64)) (by decide) ?_
    by_cases hc2 : q.toInt < (1 : Int)
    · refine Go.lcmpF (pc' := 11) (X := q.toInt) (Y := (1 : Int)) d3_7 d3_8 rfl rfl rfl (by decide) (hc2 : q.toInt < (1 : Int)) ?_
      refine Go.retV d3_11 rfl (by decide) (by decide) ?_
      exact ⟨(0 : Int32), (0 : Int32), (0 : Int64), rfl, N0, K0, E_o, F_o_units, F_o_durations, F_o_count, A_u, A_d⟩
    · refine Go.lcmpT (pc' := 12) (X := q.toInt) (Y := (1 : Int)) d3_7 d3_8 rfl (by decide) rfl (by decide) (hc2 : ¬ q.toInt < (1 : Int)) ?_
      refine Go.aloadN (pc' := 13) d3_12 rfl rfl rfl ?_
      refine Go.getF (pc' := 16) d3_13 rfl (hw _ w25) Via.refl F_o_count ?_
      refine Go.ifT (pc' := 41) (X := (0 : Int)) d3_16 (by decide) (by decide) (by decide : ¬ 0 < (0 : Int)) ?_
      refine Go.aloadN (pc' := 42) d3_41 rfl rfl rfl ?_
      refine Go.iloadN (pc' := 43) d3_42 rfl rfl ?_
      refine Go.i2l (pc' := 44) d3_43 rfl rfl ?_
      refine Go.callP0 (pc' := 47) (W := 0) (a := o) (argsL := [(.long a.toInt64)]) (rest := []) (v0 := some (.int (0 : Int32))) (st2 := [(.int (0 : Int32))]) d3_44 rfl (hw _ w56) (hw _ w57) (hw _ w1) (hw _ w58) (hw _ w2) (hw _ w59) E_o (by decide) (c_cw hw o u d a.toInt64 ne_u_d E_o F_o_units F_o_durations F_o_count A_u A_d) (by decide) (by decide) rfl rfl rfl (by decide) (by decide) rfl pd__28J_29I rfl rfl (Nat.le_of_eq rfl) ?_
      refine Go.istore (pc' := 49) d3_47 rfl (Ls' := #[.val (.ref o), .val (.int a), .val (.long q), .second, .val (.int (0 : Int32)), .unset, .unset, .unset]) rfl ?_
      refine Go.iload (pc' := 51) d3_49 rfl rfl ?_
      refine Go.ifT (pc' := 68) (X := (0 : Int)) d3_51 (by decide) (by decide) (by decide : ¬ 0 < (0 : Int)) ?_
      refine Go.iload (pc' := 70) d3_68 rfl rfl ?_
      refine Go.aloadN (pc' := 71) d3_70 rfl rfl rfl ?_
      refine Go.getF (pc' := 74) d3_71 rfl (hw _ w25) Via.refl F_o_count ?_
      refine Go.icmpT (pc' := 101) (X := (0 : Int)) (Y := (0 : Int)) d3_74 (by decide) (by decide) (by decide) (by decide : ¬ (0 : Int) < (0 : Int)) ?_
      refine Go.iload (pc' := 103) d3_101 rfl rfl ?_
      refine Go.istore (pc' := 105) d3_103 rfl (Ls' := #[.val (.ref o), .val (.int a), .val (.long q), .second, .val (.int (0 : Int32)), .val (.int (0 : Int32)), .unset, .unset]) rfl ?_
      refine Go.iload (pc' := 107) d3_105 rfl rfl ?_
      refine Go.aloadN (pc' := 108) d3_107 rfl rfl rfl ?_
      refine Go.getF (pc' := 111) d3_108 rfl (hw _ w25) Via.refl F_o_count ?_
      refine Go.icmpT (pc' := 132) (X := (0 : Int)) (Y := (0 : Int)) d3_111 (by decide) (by decide) (by decide) (by decide : ¬ (0 : Int) < (0 : Int)) ?_
      refine Go.iload (pc' := 134) d3_132 rfl rfl ?_
      refine Go.iload (pc' := 136) d3_134 rfl rfl ?_
      refine Go.icmpF (pc' := 139) (X := (0 : Int)) (Y := (0 : Int)) d3_136 rfl (by decide) (by decide) (by decide : (0 : Int) = (0 : Int)) ?_
      refine Go.aloadN (pc' := 140) d3_139 rfl rfl rfl ?_
      refine Go.getF (pc' := 143) d3_140 rfl (hw _ w25) Via.refl F_o_count ?_
      refine Go.aloadN (pc' := 144) d3_143 rfl rfl rfl ?_
      refine Go.getF (pc' := 147) d3_144 rfl (hw _ w10) Via.refl F_o_units ?_
      refine Go.arraylength (pc' := 148) d3_147 rfl A_u (z := (8 : Int32)) rfl ?_
      refine Go.icmpT (pc' := 185) (X := (0 : Int)) (Y := (8 : Int)) d3_148 (by decide) (by decide) (by decide) (by decide : ¬ (0 : Int) = (8 : Int)) ?_
      refine Go.aloadN (pc' := 186) d3_185 rfl rfl rfl ?_
      refine Go.getF (pc' := 189) d3_186 rfl (hw _ w25) Via.refl F_o_count ?_
      refine Go.istore (pc' := 191) d3_189 rfl (Ls' := #[.val (.ref o), .val (.int a), .val (.long q), .second, .val (.int (0 : Int32)), .val (.int (0 : Int32)), .val (.int (0 : Int32)), .unset]) rfl ?_
      refine Go.iload (pc' := 193) d3_191 rfl rfl ?_
      refine Go.iload (pc' := 195) d3_193 rfl rfl ?_
      refine Go.icmpT (pc' := 236) (X := (0 : Int)) (Y := (0 : Int)) d3_195 (by decide) (by decide) (by decide) (by decide : ¬ (0 : Int) < (0 : Int)) ?_
      refine Go.goto (pc' := 306) d3_236 (by decide) ?_
      refine Go.aloadN (pc' := 307) d3_306 rfl rfl rfl ?_
      refine Go.dup (pc' := 308) d3_307 rfl rfl ?_
      refine Go.getF (pc' := 311) d3_308 rfl (hw _ w25) Via.refl F_o_count ?_
      refine Go.iload (pc' := 313) d3_311 rfl rfl ?_
      refine Go.iconst (pc' := 314) d3_313 rfl (z := (1 : Int32)) (by decide) ?_
      refine Go.iadd (pc' := 315) d3_314 rfl (z := (1 : Int32)) (by decide) ?_
      refine Go.iload (pc' := 317) d3_315 rfl rfl ?_
      refine Go.isub (pc' := 318) d3_317 rfl (z := (1 : Int32)) (by decide) ?_
      refine Go.iadd (pc' := 319) d3_318 rfl (z := (1 : Int32)) (by decide) ?_
      refine Go.putF (pc' := 322) d3_319 rfl (hw _ w25) Via.refl F_o_count E_o (Or.inl (hw _ w26)) (hw _ w1) (ty := .int) (by decide) rfl rfl ?_
      intro h3 L3 NL3 W3
      replace F_o_count := F_o_count.same W3
      replace N0 := NL3 _ N0 gn_o
      replace sz0 : n0 ≤ h3.size := by rw [W3.size]; exact sz0
      replace E_o := E_o.wr W3
      replace F_o_units := F_o_units.other W3 (Or.inr (slot_ne (Or.inl (hw _ w11)) (Or.inl (hw _ w26)) (by decide) (t := (.array .int)) (t' := .int) (by decide) (by decide)))
      replace F_o_durations := F_o_durations.other W3 (Or.inr (slot_ne (Or.inl (hw _ w14)) (Or.inl (hw _ w26)) (by decide) (t := (.array .long)) (t' := .int) (by decide) (by decide)))
      replace A_u := A_u.other W3 (Ne.symm ne_o_u)
      replace A_d := A_d.other W3 (Ne.symm ne_o_d)
      replace K0 := K0.wr W3 (Or.inl (by simp))
      refine Go.aloadN (pc' := 323) d3_322 rfl rfl rfl ?_
      refine Go.getF (pc' := 326) d3_323 rfl (hw _ w10) Via.refl F_o_units ?_
      refine Go.iload (pc' := 328) d3_326 rfl rfl ?_
      refine Go.iloadN (pc' := 329) d3_328 rfl rfl ?_
      refine Go.iastore (pc' := 330) (i := 0) (v := (.int a)) (vs' := [(.int a), (.int (0 : Int32)), (.int (0 : Int32)), (.int (0 : Int32)), (.int (0 : Int32)), (.int (0 : Int32)), (.int (0 : Int32)), (.int (0 : Int32))]) d3_329 rfl A_u (by decide) (Nat.le_of_ble_eq_true rfl) rfl rfl ?_
      intro h4 L4 NL4 W4 B4
      replace N0 := NL4 _ N0 gn_u
      replace sz0 : n0 ≤ h4.size := by rw [W4.size]; exact sz0
      replace E_o := E_o.wr W4
      replace F_o_units := F_o_units.other W4 (Or.inl ne_o_u)
      replace F_o_durations := F_o_durations.other W4 (Or.inl ne_o_u)
      replace F_o_count := F_o_count.other W4 (Or.inl ne_o_u)
      replace A_d := A_d.other W4 (Ne.symm ne_u_d)
      replace K0 := K0.wr W4 (Or.inl (by simp))
      clear A_u; have A_u := B4
      refine Go.aloadN (pc' := 331) d3_330 rfl rfl rfl ?_
      refine Go.getF (pc' := 334) d3_331 rfl (hw _ w13) Via.refl F_o_durations ?_
      refine Go.iload (pc' := 336) d3_334 rfl rfl ?_
      refine Go.lloadN (pc' := 337) d3_336 rfl rfl ?_
      refine Go.lastore (pc' := 338) (i := 0) (v := (.long q)) (vs' := [(.long q), (.long (0 : Int64)), (.long (0 : Int64)), (.long (0 : Int64)), (.long (0 : Int64)), (.long (0 : Int64)), (.long (0 : Int64)), (.long (0 : Int64))]) d3_337 rfl A_d (by decide) (Nat.le_of_ble_eq_true rfl) rfl rfl ?_
      intro h5 L5 NL5 W5 B5
      replace N0 := NL5 _ N0 gn_d
      replace sz0 : n0 ≤ h5.size := by rw [W5.size]; exact sz0
      replace E_o := E_o.wr W5
      replace F_o_units := F_o_units.other W5 (Or.inl ne_o_d)
      replace F_o_durations := F_o_durations.other W5 (Or.inl ne_o_d)
      replace F_o_count := F_o_count.other W5 (Or.inl ne_o_d)
      replace A_u := A_u.other W5 ne_u_d
      replace K0 := K0.wr W5 (Or.inl (by simp))
      clear A_d; have A_d := B5
      refine Go.retV d3_338 rfl (by decide) (by decide) ?_
      exact ⟨(1 : Int32), a, q, rfl, N0, K0, E_o, F_o_units, F_o_durations, F_o_count, A_u, A_d⟩
def own_first (a : Int32) (e : Int64) (b : Int32) : Prop := b.toInt < a.toInt ∧ 1 ≤ a.toInt ∧ 1 ≤ e.toInt
def own_set (a : Int32) (e : Int64) (b cn u0 u1 : Int32) (d0 d1 : Int64) : Prop :=
  (own_first a e b ∧ b.toInt < 1 ∧ (1 : Int32) = cn ∧ a = u0 ∧ e = d0) ∨ (own_first a e b ∧ 1 ≤ b.toInt ∧ 9223372036854775807 ≤ e.toInt ∧ (1 : Int32) = cn ∧ a = u0 ∧ e = d0) ∨
  (own_first a e b ∧ 1 ≤ b.toInt ∧ e.toInt < 9223372036854775807 ∧ (2 : Int32) = cn ∧ a = u0 ∧ e = d0 ∧ b = u1 ∧ (9223372036854775807 : Int64) = d1) ∨
  (¬ own_first a e b ∧ b.toInt < 1 ∧ (0 : Int32) = cn) ∨ (¬ own_first a e b ∧ 1 ≤ b.toInt ∧ (1 : Int32) = cn ∧ b = u0 ∧ (9223372036854775807 : Int64) = d0)
set_option maxRecDepth 65536 in
set_option maxHeartbeats 40000000 in
theorem c_set {l : Launch} {Z : State} {a0 : Array Value} (hw : ∀ d ∈ tables_1, d.before a0 Z = true) {h0 : Heap} {n0 : Nat} (sz0 : n0 ≤ h0.size) (o u d : Addr) (a : Int32) (e : Int64) (b cn u0 : Int32) (d0 : Int64) (gn_o : n0 ≤ o) (gn_u : n0 ≤ u) (gn_d : n0 ≤ d) (ne_u_d : u ≠ d) (E_o : Exa Z h0 o "com/example/rehearsal/rehearsal/engine/Openings") (F_o_units : Fld Z h0 o "com/example/rehearsal/rehearsal/engine/Openings" "units" "[I" (.ref u)) (F_o_durations : Fld Z h0 o "com/example/rehearsal/rehearsal/engine/Openings" "durations" "[J" (.ref d)) (F_o_count : Fld Z h0 o "com/example/rehearsal/rehearsal/engine/Openings" "count" "I" (.int cn)) (A_u : Al Z h0 u .int [(.int u0), (.int (0 : Int32)), (.int (0 : Int32)), (.int (0 : Int32)), (.int (0 : Int32)), (.int (0 : Int32)), (.int (0 : Int32)), (.int (0 : Int32))]) (A_d : Al Z h0 d .long [(.long d0), (.long (0 : Int64)), (.long (0 : Int64)), (.long (0 : Int64)), (.long (0 : Int64)), (.long (0 : Int64)), (.long (0 : Int64)), (.long (0 : Int64))]) : Con l Z (⟨"com/example/rehearsal/rehearsal/engine/Openings", "setTo", "(IJI)V"⟩ : MethodName) prog_63_method_4_code 5 none ({ frames := 0, cells := 0, slots := 0, locals := 0 } : Room) [] #[(.ref o), (.int a), (.long e), (.int b)] h0 (fun v h L => ∃ (cn u0 u1 : Int32) (d0 d1 : Int64), v = none ∧ Fr n0 L ∧ Keep h0 h [o, u, d] ∧ Exa Z h o "com/example/rehearsal/rehearsal/engine/Openings" ∧ Fld Z h o "com/example/rehearsal/rehearsal/engine/Openings" "units" "[I" (.ref u) ∧ Fld Z h o "com/example/rehearsal/rehearsal/engine/Openings" "durations" "[J" (.ref d) ∧ Fld Z h o "com/example/rehearsal/rehearsal/engine/Openings" "count" "I" (.int cn) ∧ Al Z h u .int [(.int u0), (.int u1), (.int (0 : Int32)), (.int (0 : Int32)), (.int (0 : Int32)), (.int (0 : Int32)), (.int (0 : Int32)), (.int (0 : Int32))] ∧ Al Z h d .long [(.long d0), (.long d1), (.long (0 : Int64)), (.long (0 : Int64)), (.long (0 : Int64)), (.long (0 : Int64)), (.long (0 : Int64)), (.long (0 : Int64))] ∧ own_set a e b cn u0 u1 d0 d1) := by
  refine con_of (Ls := #[.val (.ref o), .val (.int a), .val (.long e), .second, .val (.int b)]) (plainFor_of_name (by first | (simp [plainName, overriddenIn]; done) | decide +kernel)) (fun m => by first | rfl | (simp [entryFrame, mkF, argsToLocals, Value.category]; done)) ?_
  have N0 : Fr n0 [] := Fr.nil _
  have K0 : Keep h0 h0 [o, u, d] := Keep.refl _ _
  have ne_o_u : o ≠ u := ne_al E_o (hw _ w1) A_u
  have ne_o_d : o ≠ d := ne_al E_o (hw _ w1) A_d
  refine Go.aloadN (pc' := 1) d4_0 rfl rfl rfl ?_
  refine Go.iconst (pc' := 2) d4_1 rfl (z := (0 : Int32)) (by decide) ?_
  refine Go.putF (pc' := 5) d4_2 rfl (hw _ w25) Via.refl F_o_count E_o (Or.inl (hw _ w26)) (hw _ w1) (ty := .int) (by decide) rfl rfl ?_
  intro h1 L1 NL1 W1
  replace F_o_count := F_o_count.same W1
  replace N0 := NL1 _ N0 gn_o
  replace sz0 : n0 ≤ h1.size := by rw [W1.size]; exact sz0
  replace E_o := E_o.wr W1
  replace F_o_units := F_o_units.other W1 (Or.inr (slot_ne (Or.inl (hw _ w11)) (Or.inl (hw _ w26)) (by decide) (t := (.array .int)) (t' := .int) (by decide) (by decide)))
  replace F_o_durations := F_o_durations.other W1 (Or.inr (slot_ne (Or.inl (hw _ w14)) (Or.inl (hw _ w26)) (by decide) (t := (.array .long)) (t' := .int) (by decide) (by decide)))
  replace A_u := A_u.other W1 (Ne.symm ne_o_u)
  replace A_d := A_d.other W1 (Ne.symm ne_o_d)
  replace K0 := K0.wr W1 (Or.inl (by simp))
  refine Go.iloadN (pc' := 6) d4_5 rfl rfl ?_
  refine Go.iload (pc' := 8) d4_6 rfl rfl ?_
  by_cases hc2 : b.toInt < a.toInt
  · refine Go.icmpF (pc' := 11) (X := a.toInt) (Y := b.toInt) d4_8 rfl rfl rfl (hc2 : b.toInt < a.toInt) ?_
    refine Go.iloadN (pc' := 12) d4_11 rfl rfl ?_
    refine Go.iconst (pc' := 13) d4_12 rfl (z := (1 : Int32)) (by decide) ?_
    by_cases hc3 : a.toInt < (1 : Int)
    · refine Go.icmpT (pc' := 41) (X := a.toInt) (Y := (1 : Int)) d4_13 (by decide) rfl (by decide) (hc3 : a.toInt < (1 : Int)) ?_
      refine Go.iload (pc' := 43) d4_41 rfl rfl ?_
      refine Go.iconst (pc' := 44) d4_43 rfl (z := (1 : Int32)) (by decide) ?_
      by_cases hc4 : b.toInt < (1 : Int)
      · refine Go.icmpT (pc' := 95) (X := b.toInt) (Y := (1 : Int)) d4_44 (by decide) rfl (by decide) (hc4 : b.toInt < (1 : Int)) ?_
        refine Go.retV d4_95 rfl (by decide) (by decide) ?_
        exact ⟨(0 : Int32), u0, (0 : Int32), d0, (0 : Int64), rfl, N0, K0, E_o, F_o_units, F_o_durations, F_o_count, A_u, A_d, Or.inr (Or.inr (Or.inr (Or.inl ⟨(by unfold own_first; omega), by omega, rfl⟩)))⟩
      · refine Go.icmpF (pc' := 47) (X := b.toInt) (Y := (1 : Int)) d4_44 rfl rfl (by decide) (hc4 : ¬ b.toInt < (1 : Int)) ?_
        refine Go.aloadN (pc' := 48) d4_47 rfl rfl rfl ?_
        refine Go.getF (pc' := 51) d4_48 rfl (hw _ w25) Via.refl F_o_count ?_
        refine Go.ifT (pc' := 62) (X := (0 : Int)) d4_51 (by decide) (by decide) (by decide : (0 : Int) = 0) ?_
        refine Go.aloadN (pc' := 63) d4_62 rfl rfl rfl ?_
        refine Go.getF (pc' := 66) d4_63 rfl (hw _ w10) Via.refl F_o_units ?_
        refine Go.aloadN (pc' := 67) d4_66 rfl rfl rfl ?_
        refine Go.getF (pc' := 70) d4_67 rfl (hw _ w25) Via.refl F_o_count ?_
        refine Go.iload (pc' := 72) d4_70 rfl rfl ?_
        refine Go.iastore (pc' := 73) (i := 0) (v := (.int b)) (vs' := [(.int b), (.int (0 : Int32)), (.int (0 : Int32)), (.int (0 : Int32)), (.int (0 : Int32)), (.int (0 : Int32)), (.int (0 : Int32)), (.int (0 : Int32))]) d4_72 rfl A_u (by decide) (Nat.le_of_ble_eq_true rfl) rfl rfl ?_
        intro h5 L5 NL5 W5 B5
        replace N0 := NL5 _ N0 gn_u
        replace sz0 : n0 ≤ h5.size := by rw [W5.size]; exact sz0
        replace E_o := E_o.wr W5
        replace F_o_units := F_o_units.other W5 (Or.inl ne_o_u)
        replace F_o_durations := F_o_durations.other W5 (Or.inl ne_o_u)
        replace F_o_count := F_o_count.other W5 (Or.inl ne_o_u)
        replace A_d := A_d.other W5 (Ne.symm ne_u_d)
        replace K0 := K0.wr W5 (Or.inl (by simp))
        clear A_u; have A_u := B5
        refine Go.aloadN (pc' := 74) d4_73 rfl rfl rfl ?_
        refine Go.getF (pc' := 77) d4_74 rfl (hw _ w13) Via.refl F_o_durations ?_
        refine Go.aloadN (pc' := 78) d4_77 rfl rfl rfl ?_
        refine Go.getF (pc' := 81) d4_78 rfl (hw _ w25) Via.refl F_o_count ?_
        refine Go.ldc2 (pc' := 84) d4_81 rfl (hw _ w27) ?_
        refine Go.lastore (pc' := 85) (i := 0) (v := (.long (9223372036854775807 : Int64))) (vs' := [(.long (9223372036854775807 : Int64)), (.long (0 : Int64)), (.long (0 : Int64)), (.long (0 : Int64)), (.long (0 : Int64)), (.long (0 : Int64)), (.long (0 : Int64)), (.long (0 : Int64))]) d4_84 rfl A_d (by decide) (Nat.le_of_ble_eq_true rfl) rfl rfl ?_
        intro h6 L6 NL6 W6 B6
        replace N0 := NL6 _ N0 gn_d
        replace sz0 : n0 ≤ h6.size := by rw [W6.size]; exact sz0
        replace E_o := E_o.wr W6
        replace F_o_units := F_o_units.other W6 (Or.inl ne_o_d)
        replace F_o_durations := F_o_durations.other W6 (Or.inl ne_o_d)
        replace F_o_count := F_o_count.other W6 (Or.inl ne_o_d)
        replace A_u := A_u.other W6 ne_u_d
        replace K0 := K0.wr W6 (Or.inl (by simp))
        clear A_d; have A_d := B6
        refine Go.aloadN (pc' := 86) d4_85 rfl rfl rfl ?_
        refine Go.dup (pc' := 87) d4_86 rfl rfl ?_
        refine Go.getF (pc' := 90) d4_87 rfl (hw _ w25) Via.refl F_o_count ?_
        refine Go.iconst (pc' := 91) d4_90 rfl (z := (1 : Int32)) (by decide) ?_
        refine Go.iadd (pc' := 92) d4_91 rfl (z := (1 : Int32)) (by decide) ?_
        refine Go.putF (pc' := 95) d4_92 rfl (hw _ w25) Via.refl F_o_count E_o (Or.inl (hw _ w26)) (hw _ w1) (ty := .int) (by decide) rfl rfl ?_
        intro h7 L7 NL7 W7
        replace F_o_count := F_o_count.same W7
        replace N0 := NL7 _ N0 gn_o
        replace sz0 : n0 ≤ h7.size := by rw [W7.size]; exact sz0
        replace E_o := E_o.wr W7
        replace F_o_units := F_o_units.other W7 (Or.inr (slot_ne (Or.inl (hw _ w11)) (Or.inl (hw _ w26)) (by decide) (t := (.array .int)) (t' := .int) (by decide) (by decide)))
        replace F_o_durations := F_o_durations.other W7 (Or.inr (slot_ne (Or.inl (hw _ w14)) (Or.inl (hw _ w26)) (by decide) (t := (.array .long)) (t' := .int) (by decide) (by decide)))
        replace A_u := A_u.other W7 (Ne.symm ne_o_u)
        replace A_d := A_d.other W7 (Ne.symm ne_o_d)
        replace K0 := K0.wr W7 (Or.inl (by simp))
        refine Go.retV d4_95 rfl (by decide) (by decide) ?_
        exact ⟨(1 : Int32), b, (0 : Int32), (9223372036854775807 : Int64), (0 : Int64), rfl, N0, K0, E_o, F_o_units, F_o_durations, F_o_count, A_u, A_d, Or.inr (Or.inr (Or.inr (Or.inr ⟨(by unfold own_first; omega), by omega, rfl, rfl, rfl⟩)))⟩
    · refine Go.icmpF (pc' := 16) (X := a.toInt) (Y := (1 : Int)) d4_13 rfl rfl (by decide) (hc3 : ¬ a.toInt < (1 : Int)) ?_
      refine Go.lloadN (pc' := 17) d4_16 rfl rfl ?_
      refine Go.lconst (pc' := 18) d4_17 rfl (z := (1 : Int64)) (by decide) ?_
      by_cases hc8 : e.toInt < (1 : Int)
      · refine Go.lcmpT (pc' := 41) (X := e.toInt) (Y := (1 : Int)) d4_18 d4_19 rfl (by decide) rfl (by decide) (hc8 : e.toInt < (1 : Int)) ?_
        refine Go.iload (pc' := 43) d4_41 rfl rfl ?_
        refine Go.iconst (pc' := 44) d4_43 rfl (z := (1 : Int32)) (by decide) ?_
        by_cases hc9 : b.toInt < (1 : Int)
        · refine Go.icmpT (pc' := 95) (X := b.toInt) (Y := (1 : Int)) d4_44 (by decide) rfl (by decide) (hc9 : b.toInt < (1 : Int)) ?_
          refine Go.retV d4_95 rfl (by decide) (by decide) ?_
          exact ⟨(0 : Int32), u0, (0 : Int32), d0, (0 : Int64), rfl, N0, K0, E_o, F_o_units, F_o_durations, F_o_count, A_u, A_d, Or.inr (Or.inr (Or.inr (Or.inl ⟨(by unfold own_first; omega), by omega, rfl⟩)))⟩
        · refine Go.icmpF (pc' := 47) (X := b.toInt) (Y := (1 : Int)) d4_44 rfl rfl (by decide) (hc9 : ¬ b.toInt < (1 : Int)) ?_
          refine Go.aloadN (pc' := 48) d4_47 rfl rfl rfl ?_
          refine Go.getF (pc' := 51) d4_48 rfl (hw _ w25) Via.refl F_o_count ?_
          refine Go.ifT (pc' := 62) (X := (0 : Int)) d4_51 (by decide) (by decide) (by decide : (0 : Int) = 0) ?_
          refine Go.aloadN (pc' := 63) d4_62 rfl rfl rfl ?_
          refine Go.getF (pc' := 66) d4_63 rfl (hw _ w10) Via.refl F_o_units ?_
          refine Go.aloadN (pc' := 67) d4_66 rfl rfl rfl ?_
          refine Go.getF (pc' := 70) d4_67 rfl (hw _ w25) Via.refl F_o_count ?_
          refine Go.iload (pc' := 72) d4_70 rfl rfl ?_
          refine Go.iastore (pc' := 73) (i := 0) (v := (.int b)) (vs' := [(.int b), (.int (0 : Int32)), (.int (0 : Int32)), (.int (0 : Int32)), (.int (0 : Int32)), (.int (0 : Int32)), (.int (0 : Int32)), (.int (0 : Int32))]) d4_72 rfl A_u (by decide) (Nat.le_of_ble_eq_true rfl) rfl rfl ?_
          intro h10 L10 NL10 W10 B10
          replace N0 := NL10 _ N0 gn_u
          replace sz0 : n0 ≤ h10.size := by rw [W10.size]; exact sz0
          replace E_o := E_o.wr W10
          replace F_o_units := F_o_units.other W10 (Or.inl ne_o_u)
          replace F_o_durations := F_o_durations.other W10 (Or.inl ne_o_u)
          replace F_o_count := F_o_count.other W10 (Or.inl ne_o_u)
          replace A_d := A_d.other W10 (Ne.symm ne_u_d)
          replace K0 := K0.wr W10 (Or.inl (by simp))
          clear A_u; have A_u := B10
          refine Go.aloadN (pc' := 74) d4_73 rfl rfl rfl ?_
          refine Go.getF (pc' := 77) d4_74 rfl (hw _ w13) Via.refl F_o_durations ?_
          refine Go.aloadN (pc' := 78) d4_77 rfl rfl rfl ?_
          refine Go.getF (pc' := 81) d4_78 rfl (hw _ w25) Via.refl F_o_count ?_
          refine Go.ldc2 (pc' := 84) d4_81 rfl (hw _ w27) ?_
          refine Go.lastore (pc' := 85) (i := 0) (v := (.long (9223372036854775807 : Int64))) (vs' := [(.long (9223372036854775807 : Int64)), (.long (0 : Int64)), (.long (0 : Int64)), (.long (0 : Int64)), (.long (0 : Int64)), (.long (0 : Int64)), (.long (0 : Int64)), (.long (0 : Int64))]) d4_84 rfl A_d (by decide) (Nat.le_of_ble_eq_true rfl) rfl rfl ?_
          intro h11 L11 NL11 W11 B11
          replace N0 := NL11 _ N0 gn_d
          replace sz0 : n0 ≤ h11.size := by rw [W11.size]; exact sz0
          replace E_o := E_o.wr W11
          replace F_o_units := F_o_units.other W11 (Or.inl ne_o_d)
          replace F_o_durations := F_o_durations.other W11 (Or.inl ne_o_d)
          replace F_o_count := F_o_count.other W11 (Or.inl ne_o_d)
          replace A_u := A_u.other W11 ne_u_d
          replace K0 := K0.wr W11 (Or.inl (by simp))
          clear A_d; have A_d := B11
          refine Go.aloadN (pc' := 86) d4_85 rfl rfl rfl ?_
          refine Go.dup (pc' := 87) d4_86 rfl rfl ?_
          refine Go.getF (pc' := 90) d4_87 rfl (hw _ w25) Via.refl F_o_count ?_
          refine Go.iconst (pc' := 91) d4_90 rfl (z := (1 : Int32)) (by decide) ?_
          refine Go.iadd (pc' := 92) d4_91 rfl (z := (1 : Int32)) (by decide) ?_
          refine Go.putF (pc' := 95) d4_92 rfl (hw _ w25) Via.refl F_o_count E_o (Or.inl (hw _ w26)) (hw _ w1) (ty := .int) (by decide) rfl rfl ?_
          intro h12 L12 NL12 W12
          replace F_o_count := F_o_count.same W12
          replace N0 := NL12 _ N0 gn_o
          replace sz0 : n0 ≤ h12.size := by rw [W12.size]; exact sz0
          replace E_o := E_o.wr W12
          replace F_o_units := F_o_units.other W12 (Or.inr (slot_ne (Or.inl (hw _ w11)) (Or.inl (hw _ w26)) (by decide) (t := (.array .int)) (t' := .int) (by decide) (by decide)))
          replace F_o_durations := F_o_durations.other W12 (Or.inr (slot_ne (Or.inl (hw _ w14)) (Or.inl (hw _ w26)) (by decide) (t := (.array .long)) (t' := .int) (by decide) (by decide)))
          replace A_u := A_u.other W12 (Ne.symm ne_o_u)
          replace A_d := A_d.other W12 (Ne.symm ne_o_d)
          replace K0 := K0.wr W12 (Or.inl (by simp))
          refine Go.retV d4_95 rfl (by decide) (by decide) ?_
          exact ⟨(1 : Int32), b, (0 : Int32), (9223372036854775807 : Int64), (0 : Int64), rfl, N0, K0, E_o, F_o_units, F_o_durations, F_o_count, A_u, A_d, Or.inr (Or.inr (Or.inr (Or.inr ⟨(by unfold own_first; omega), by omega, rfl, rfl, rfl⟩)))⟩
      · refine Go.lcmpF (pc' := 22) (X := e.toInt) (Y := (1 : Int)) d4_18 d4_19 rfl rfl rfl (by decide) (hc8 : ¬ e.toInt < (1 : Int)) ?_
        refine Go.aloadN (pc' := 23) d4_22 rfl rfl rfl ?_
        refine Go.getF (pc' := 26) d4_23 rfl (hw _ w10) Via.refl F_o_units ?_
        refine Go.iconst (pc' := 27) d4_26 rfl (z := (0 : Int32)) (by decide) ?_
        refine Go.iloadN (pc' := 28) d4_27 rfl rfl ?_
        refine Go.iastore (pc' := 29) (i := 0) (v := (.int a)) (vs' := [(.int a), (.int (0 : Int32)), (.int (0 : Int32)), (.int (0 : Int32)), (.int (0 : Int32)), (.int (0 : Int32)), (.int (0 : Int32)), (.int (0 : Int32))]) d4_28 rfl A_u (by decide) (Nat.le_of_ble_eq_true rfl) rfl rfl ?_
        intro h13 L13 NL13 W13 B13
        replace N0 := NL13 _ N0 gn_u
        replace sz0 : n0 ≤ h13.size := by rw [W13.size]; exact sz0
        replace E_o := E_o.wr W13
        replace F_o_units := F_o_units.other W13 (Or.inl ne_o_u)
        replace F_o_durations := F_o_durations.other W13 (Or.inl ne_o_u)
        replace F_o_count := F_o_count.other W13 (Or.inl ne_o_u)
        replace A_d := A_d.other W13 (Ne.symm ne_u_d)
        replace K0 := K0.wr W13 (Or.inl (by simp))
        clear A_u; have A_u := B13
        refine Go.aloadN (pc' := 30) d4_29 rfl rfl rfl ?_
        refine Go.getF (pc' := 33) d4_30 rfl (hw _ w13) Via.refl F_o_durations ?_
        refine Go.iconst (pc' := 34) d4_33 rfl (z := (0 : Int32)) (by decide) ?_
        refine Go.lloadN (pc' := 35) d4_34 rfl rfl ?_
        refine Go.lastore (pc' := 36) (i := 0) (v := (.long e)) (vs' := [(.long e), (.long (0 : Int64)), (.long (0 : Int64)), (.long (0 : Int64)), (.long (0 : Int64)), (.long (0 : Int64)), (.long (0 : Int64)), (.long (0 : Int64))]) d4_35 rfl A_d (by decide) (Nat.le_of_ble_eq_true rfl) rfl rfl ?_
        intro h14 L14 NL14 W14 B14
        replace N0 := NL14 _ N0 gn_d
        replace sz0 : n0 ≤ h14.size := by rw [W14.size]; exact sz0
        replace E_o := E_o.wr W14
        replace F_o_units := F_o_units.other W14 (Or.inl ne_o_d)
        replace F_o_durations := F_o_durations.other W14 (Or.inl ne_o_d)
        replace F_o_count := F_o_count.other W14 (Or.inl ne_o_d)
        replace A_u := A_u.other W14 ne_u_d
        replace K0 := K0.wr W14 (Or.inl (by simp))
        clear A_d; have A_d := B14
        refine Go.aloadN (pc' := 37) d4_36 rfl rfl rfl ?_
        refine Go.iconst (pc' := 38) d4_37 rfl (z := (1 : Int32)) (by decide) ?_
        refine Go.putF (pc' := 41) d4_38 rfl (hw _ w25) Via.refl F_o_count E_o (Or.inl (hw _ w26)) (hw _ w1) (ty := .int) (by decide) rfl rfl ?_
        intro h15 L15 NL15 W15
        replace F_o_count := F_o_count.same W15
        replace N0 := NL15 _ N0 gn_o
        replace sz0 : n0 ≤ h15.size := by rw [W15.size]; exact sz0
        replace E_o := E_o.wr W15
        replace F_o_units := F_o_units.other W15 (Or.inr (slot_ne (Or.inl (hw _ w11)) (Or.inl (hw _ w26)) (by decide) (t := (.array .int)) (t' := .int) (by decide) (by decide)))
        replace F_o_durations := F_o_durations.other W15 (Or.inr (slot_ne (Or.inl (hw _ w14)) (Or.inl (hw _ w26)) (by decide) (t := (.array .long)) (t' := .int) (by decide) (by decide)))
        replace A_u := A_u.other W15 (Ne.symm ne_o_u)
        replace A_d := A_d.other W15 (Ne.symm ne_o_d)
        replace K0 := K0.wr W15 (Or.inl (by simp))
        refine Go.iload (pc' := 43) d4_41 rfl rfl ?_
        refine Go.iconst (pc' := 44) d4_43 rfl (z := (1 : Int32)) (by decide) ?_
        by_cases hc16 : b.toInt < (1 : Int)
        · refine Go.icmpT (pc' := 95) (X := b.toInt) (Y := (1 : Int)) d4_44 (by decide) rfl (by decide) (hc16 : b.toInt < (1 : Int)) ?_
          refine Go.retV d4_95 rfl (by decide) (by decide) ?_
          exact ⟨(1 : Int32), a, (0 : Int32), e, (0 : Int64), rfl, N0, K0, E_o, F_o_units, F_o_durations, F_o_count, A_u, A_d, Or.inl ⟨(by unfold own_first; omega), by omega, rfl, rfl, rfl⟩⟩
        · refine Go.icmpF (pc' := 47) (X := b.toInt) (Y := (1 : Int)) d4_44 rfl rfl (by decide) (hc16 : ¬ b.toInt < (1 : Int)) ?_
          refine Go.aloadN (pc' := 48) d4_47 rfl rfl rfl ?_
          refine Go.getF (pc' := 51) d4_48 rfl (hw _ w25) Via.refl F_o_count ?_
          refine Go.ifF (pc' := 54) (X := (1 : Int)) d4_51 rfl (by decide) (by decide : ¬ (1 : Int) = 0) ?_
          refine Go.lloadN (pc' := 55) d4_54 rfl rfl ?_
          refine Go.ldc2 (pc' := 58) d4_55 rfl (hw _ w27) ?_
          by_cases hc17 : e.toInt < (9223372036854775807 : Int)
          · refine Go.lcmpF (pc' := 62) (X := e.toInt) (Y := (9223372036854775807 : Int)) d4_58 d4_59 rfl rfl rfl (by decide) (hc17 : e.toInt < (9223372036854775807 : Int)) ?_
            refine Go.aloadN (pc' := 63) d4_62 rfl rfl rfl ?_
            refine Go.getF (pc' := 66) d4_63 rfl (hw _ w10) Via.refl F_o_units ?_
            refine Go.aloadN (pc' := 67) d4_66 rfl rfl rfl ?_
            refine Go.getF (pc' := 70) d4_67 rfl (hw _ w25) Via.refl F_o_count ?_
            refine Go.iload (pc' := 72) d4_70 rfl rfl ?_
            refine Go.iastore (pc' := 73) (i := 1) (v := (.int b)) (vs' := [(.int a), (.int b), (.int (0 : Int32)), (.int (0 : Int32)), (.int (0 : Int32)), (.int (0 : Int32)), (.int (0 : Int32)), (.int (0 : Int32))]) d4_72 rfl A_u (by decide) (Nat.le_of_ble_eq_true rfl) rfl rfl ?_
            intro h18 L18 NL18 W18 B18
            replace N0 := NL18 _ N0 gn_u
            replace sz0 : n0 ≤ h18.size := by rw [W18.size]; exact sz0
            replace E_o := E_o.wr W18
            replace F_o_units := F_o_units.other W18 (Or.inl ne_o_u)
            replace F_o_durations := F_o_durations.other W18 (Or.inl ne_o_u)
            replace F_o_count := F_o_count.other W18 (Or.inl ne_o_u)
            replace A_d := A_d.other W18 (Ne.symm ne_u_d)
            replace K0 := K0.wr W18 (Or.inl (by simp))
            clear A_u; have A_u := B18
            refine Go.aloadN (pc' := 74) d4_73 rfl rfl rfl ?_
            refine Go.getF (pc' := 77) d4_74 rfl (hw _ w13) Via.refl F_o_durations ?_
            refine Go.aloadN (pc' := 78) d4_77 rfl rfl rfl ?_
            refine Go.getF (pc' := 81) d4_78 rfl (hw _ w25) Via.refl F_o_count ?_
            refine Go.ldc2 (pc' := 84) d4_81 rfl (hw _ w27) ?_
            refine Go.lastore (pc' := 85) (i := 1) (v := (.long (9223372036854775807 : Int64))) (vs' := [(.long e), (.long (9223372036854775807 : Int64)), (.long (0 : Int64)), (.long (0 : Int64)), (.long (0 : Int64)), (.long (0 : Int64)), (.long (0 : Int64)), (.long (0 : Int64))]) d4_84 rfl A_d (by decide) (Nat.le_of_ble_eq_true rfl) rfl rfl ?_
            intro h19 L19 NL19 W19 B19
            replace N0 := NL19 _ N0 gn_d
            replace sz0 : n0 ≤ h19.size := by rw [W19.size]; exact sz0
            replace E_o := E_o.wr W19
            replace F_o_units := F_o_units.other W19 (Or.inl ne_o_d)
            replace F_o_durations := F_o_durations.other W19 (Or.inl ne_o_d)
            replace F_o_count := F_o_count.other W19 (Or.inl ne_o_d)
            replace A_u := A_u.other W19 ne_u_d
            replace K0 := K0.wr W19 (Or.inl (by simp))
            clear A_d; have A_d := B19
            refine Go.aloadN (pc' := 86) d4_85 rfl rfl rfl ?_
            refine Go.dup (pc' := 87) d4_86 rfl rfl ?_
            refine Go.getF (pc' := 90) d4_87 rfl (hw _ w25) Via.refl F_o_count ?_
            refine Go.iconst (pc' := 91) d4_90 rfl (z := (1 : Int32)) (by decide) ?_
            refine Go.iadd (pc' := 92) d4_91 rfl (z := (2 : Int32)) (by decide) ?_
            refine Go.putF (pc' := 95) d4_92 rfl (hw _ w25) Via.refl F_o_count E_o (Or.inl (hw _ w26)) (hw _ w1) (ty := .int) (by decide) rfl rfl ?_
            intro h20 L20 NL20 W20
            replace F_o_count := F_o_count.same W20
            replace N0 := NL20 _ N0 gn_o
            replace sz0 : n0 ≤ h20.size := by rw [W20.size]; exact sz0
            replace E_o := E_o.wr W20
            replace F_o_units := F_o_units.other W20 (Or.inr (slot_ne (Or.inl (hw _ w11)) (Or.inl (hw _ w26)) (by decide) (t := (.array .int)) (t' := .int) (by decide) (by decide)))
            replace F_o_durations := F_o_durations.other W20 (Or.inr (slot_ne (Or.inl (hw _ w14)) (Or.inl (hw _ w26)) (by decide) (t := (.array .long)) (t' := .int) (by decide) (by decide)))
            replace A_u := A_u.other W20 (Ne.symm ne_o_u)
            replace A_d := A_d.other W20 (Ne.symm ne_o_d)
            replace K0 := K0.wr W20 (Or.inl (by simp))
            refine Go.retV d4_95 rfl (by decide) (by decide) ?_
            exact ⟨(2 : Int32), a, b, e, (9223372036854775807 : Int64), rfl, N0, K0, E_o, F_o_units, F_o_durations, F_o_count, A_u, A_d, Or.inr (Or.inr (Or.inl ⟨(by unfold own_first; omega), by omega, by omega, rfl, rfl, rfl, rfl, rfl⟩))⟩
          · refine Go.lcmpT (pc' := 95) (X := e.toInt) (Y := (9223372036854775807 : Int)) d4_58 d4_59 rfl (by decide) rfl (by decide) (hc17 : ¬ e.toInt < (9223372036854775807 : Int)) ?_
            refine Go.retV d4_95 rfl (by decide) (by decide) ?_
            exact ⟨(1 : Int32), a, (0 : Int32), e, (0 : Int64), rfl, N0, K0, E_o, F_o_units, F_o_durations, F_o_count, A_u, A_d, Or.inr (Or.inl ⟨(by unfold own_first; omega), by omega, by omega, rfl, rfl, rfl⟩)⟩
  · refine Go.icmpT (pc' := 41) (X := a.toInt) (Y := b.toInt) d4_8 (by decide) rfl rfl (hc2 : ¬ b.toInt < a.toInt) ?_
    refine Go.iload (pc' := 43) d4_41 rfl rfl ?_
    refine Go.iconst (pc' := 44) d4_43 rfl (z := (1 : Int32)) (by decide) ?_
    by_cases hc21 : b.toInt < (1 : Int)
    · refine Go.icmpT (pc' := 95) (X := b.toInt) (Y := (1 : Int)) d4_44 (by decide) rfl (by decide) (hc21 : b.toInt < (1 : Int)) ?_
      refine Go.retV d4_95 rfl (by decide) (by decide) ?_
      exact ⟨(0 : Int32), u0, (0 : Int32), d0, (0 : Int64), rfl, N0, K0, E_o, F_o_units, F_o_durations, F_o_count, A_u, A_d, Or.inr (Or.inr (Or.inr (Or.inl ⟨(by unfold own_first; omega), by omega, rfl⟩)))⟩
    · refine Go.icmpF (pc' := 47) (X := b.toInt) (Y := (1 : Int)) d4_44 rfl rfl (by decide) (hc21 : ¬ b.toInt < (1 : Int)) ?_
      refine Go.aloadN (pc' := 48) d4_47 rfl rfl rfl ?_
      refine Go.getF (pc' := 51) d4_48 rfl (hw _ w25) Via.refl F_o_count ?_
      refine Go.ifT (pc' := 62) (X := (0 : Int)) d4_51 (by decide) (by decide) (by decide : (0 : Int) = 0) ?_
      refine Go.aloadN (pc' := 63) d4_62 rfl rfl rfl ?_
      refine Go.getF (pc' := 66) d4_63 rfl (hw _ w10) Via.refl F_o_units ?_
      refine Go.aloadN (pc' := 67) d4_66 rfl rfl rfl ?_
      refine Go.getF (pc' := 70) d4_67 rfl (hw _ w25) Via.refl F_o_count ?_
      refine Go.iload (pc' := 72) d4_70 rfl rfl ?_
      refine Go.iastore (pc' := 73) (i := 0) (v := (.int b)) (vs' := [(.int b), (.int (0 : Int32)), (.int (0 : Int32)), (.int (0 : Int32)), (.int (0 : Int32)), (.int (0 : Int32)), (.int (0 : Int32)), (.int (0 : Int32))]) d4_72 rfl A_u (by decide) (Nat.le_of_ble_eq_true rfl) rfl rfl ?_
      intro h22 L22 NL22 W22 B22
      replace N0 := NL22 _ N0 gn_u
      replace sz0 : n0 ≤ h22.size := by rw [W22.size]; exact sz0
      replace E_o := E_o.wr W22
      replace F_o_units := F_o_units.other W22 (Or.inl ne_o_u)
      replace F_o_durations := F_o_durations.other W22 (Or.inl ne_o_u)
      replace F_o_count := F_o_count.other W22 (Or.inl ne_o_u)
      replace A_d := A_d.other W22 (Ne.symm ne_u_d)
      replace K0 := K0.wr W22 (Or.inl (by simp))
      clear A_u; have A_u := B22
      refine Go.aloadN (pc' := 74) d4_73 rfl rfl rfl ?_
      refine Go.getF (pc' := 77) d4_74 rfl (hw _ w13) Via.refl F_o_durations ?_
      refine Go.aloadN (pc' := 78) d4_77 rfl rfl rfl ?_
      refine Go.getF (pc' := 81) d4_78 rfl (hw _ w25) Via.refl F_o_count ?_
      refine Go.ldc2 (pc' := 84) d4_81 rfl (hw _ w27) ?_
      refine Go.lastore (pc' := 85) (i := 0) (v := (.long (9223372036854775807 : Int64))) (vs' := [(.long (9223372036854775807 : Int64)), (.long (0 : Int64)), (.long (0 : Int64)), (.long (0 : Int64)), (.long (0 : Int64)), (.long (0 : Int64)), (.long (0 : Int64)), (.long (0 : Int64))]) d4_84 rfl A_d (by decide) (Nat.le_of_ble_eq_true rfl) rfl rfl ?_
      intro h23 L23 NL23 W23 B23
      replace N0 := NL23 _ N0 gn_d
      replace sz0 : n0 ≤ h23.size := by rw [W23.size]; exact sz0
      replace E_o := E_o.wr W23
      replace F_o_units := F_o_units.other W23 (Or.inl ne_o_d)
      replace F_o_durations := F_o_durations.other W23 (Or.inl ne_o_d)
      replace F_o_count := F_o_count.other W23 (Or.inl ne_o_d)
      replace A_u := A_u.other W23 ne_u_d
      replace K0 := K0.wr W23 (Or.inl (by simp))
      clear A_d; have A_d := B23
      refine Go.aloadN (pc' := 86) d4_85 rfl rfl rfl ?_
      refine Go.dup (pc' := 87) d4_86 rfl rfl ?_
      refine Go.getF (pc' := 90) d4_87 rfl (hw _ w25) Via.refl F_o_count ?_
      refine Go.iconst (pc' := 91) d4_90 rfl (z := (1 : Int32)) (by decide) ?_
      refine Go.iadd (pc' := 92) d4_91 rfl (z := (1 : Int32)) (by decide) ?_
      refine Go.putF (pc' := 95) d4_92 rfl (hw _ w25) Via.refl F_o_count E_o (Or.inl (hw _ w26)) (hw _ w1) (ty := .int) (by decide) rfl rfl ?_
      intro h24 L24 NL24 W24
      replace F_o_count := F_o_count.same W24
      replace N0 := NL24 _ N0 gn_o
      replace sz0 : n0 ≤ h24.size := by rw [W24.size]; exact sz0
      replace E_o := E_o.wr W24
      replace F_o_units := F_o_units.other W24 (Or.inr (slot_ne (Or.inl (hw _ w11)) (Or.inl (hw _ w26)) (by decide) (t := (.array .int)) (t' := .int) (by decide) (by decide)))
      replace F_o_durations := F_o_durations.other W24 (Or.inr (slot_ne (Or.inl (hw _ w14)) (Or.inl (hw _ w26)) (by decide) (t := (.array .long)) (t' := .int) (by decide) (by decide)))
      replace A_u := A_u.other W24 (Ne.symm ne_o_u)
      replace A_d := A_d.other W24 (Ne.symm ne_o_d)
      replace K0 := K0.wr W24 (Or.inl (by simp))
      refine Go.retV d4_95 rfl (by decide) (by decide) ?_
      exact ⟨(1 : Int32), b, (0 : Int32), (9223372036854775807 : Int64), (0 : Int64), rfl, N0, K0, E_o, F_o_units, F_o_durations, F_o_count, A_u, A_d, Or.inr (Or.inr (Or.inr (Or.inr ⟨(by unfold own_first; omega), by omega, rfl, rfl, rfl⟩)))⟩
set_option maxRecDepth 65536 in
set_option maxHeartbeats 40000000 in
theorem c_count {l : Launch} {Z : State} {a0 : Array Value} (hw : ∀ d ∈ tables_1, d.before a0 Z = true) {h0 : Heap} (o u d : Addr) (cn u0 u1 : Int32) (d0 d1 : Int64) (ne_u_d : u ≠ d) (E_o : Exa Z h0 o "com/example/rehearsal/rehearsal/engine/Openings") (F_o_units : Fld Z h0 o "com/example/rehearsal/rehearsal/engine/Openings" "units" "[I" (.ref u)) (F_o_durations : Fld Z h0 o "com/example/rehearsal/rehearsal/engine/Openings" "durations" "[J" (.ref d)) (F_o_count : Fld Z h0 o "com/example/rehearsal/rehearsal/engine/Openings" "count" "I" (.int cn)) (A_u : Al Z h0 u .int [(.int u0), (.int u1), (.int (0 : Int32)), (.int (0 : Int32)), (.int (0 : Int32)), (.int (0 : Int32)), (.int (0 : Int32)), (.int (0 : Int32))]) (A_d : Al Z h0 d .long [(.long d0), (.long d1), (.long (0 : Int64)), (.long (0 : Int64)), (.long (0 : Int64)), (.long (0 : Int64)), (.long (0 : Int64)), (.long (0 : Int64))]) : Con l Z (⟨"com/example/rehearsal/rehearsal/engine/Openings", "count", "()I"⟩ : MethodName) prog_63_method_7_code 1 (some .int) ({ frames := 0, cells := 0, slots := 0, locals := 0 } : Room) [] #[(.ref o)] h0 (PQ h0 (some (.int cn))) := by
  refine con_of (Ls := #[.val (.ref o)]) (plainFor_of_name (by first | (simp [plainName, overriddenIn]; done) | decide +kernel)) (fun m => by first | rfl | (simp [entryFrame, mkF, argsToLocals, Value.category]; done)) ?_
  have ne_o_u : o ≠ u := ne_al E_o (hw _ w1) A_u
  have ne_o_d : o ≠ d := ne_al E_o (hw _ w1) A_d
  refine Go.aloadN (pc' := 1) d5_0 rfl rfl rfl ?_
  refine Go.getF (pc' := 4) d5_1 rfl (hw _ w25) Via.refl F_o_count ?_
  refine Go.retI d5_4 rfl (by decide) (by decide) ?_
  exact ⟨rfl, rfl, rfl⟩
set_option maxRecDepth 65536 in
set_option maxHeartbeats 40000000 in
theorem c_pre {l : Launch} {Z : State} {a0 : Array Value} (hw : ∀ d ∈ tables_1, d.before a0 Z = true) {h0 : Heap} (i n : Int32) (h1 : ¬ i.toInt < 0) (h2 : i.toInt < n.toInt) : Con l Z (⟨"jdk/internal/util/Preconditions", "checkIndex", "(IILjava/util/function/BiFunction;)I"⟩ : MethodName) jdk_41_method_11_code 3 (some .int) ({ frames := 0, cells := 0, slots := 0, locals := 0 } : Room) [] #[(.int i), (.int n), .null] h0 (PQ h0 (some (.int i))) := by
  refine con_of (Ls := #[.val (.int i), .val (.int n), .val .null]) (plainFor_of_name (by first | (simp [plainName, overriddenIn]; done) | decide +kernel)) (fun m => by first | rfl | (simp [entryFrame, mkF, argsToLocals, Value.category]; done)) ?_
  refine Go.iloadN (pc' := 1) d9_0 rfl rfl ?_
  refine Go.ifF (pc' := 4) (X := i.toInt) d9_1 rfl rfl (h1 : ¬ i.toInt < 0) ?_
  refine Go.iloadN (pc' := 5) d9_4 rfl rfl ?_
  refine Go.iloadN (pc' := 6) d9_5 rfl rfl ?_
  refine Go.icmpT (pc' := 16) (X := i.toInt) (Y := n.toInt) d9_6 (by decide) rfl rfl (h2 : i.toInt < n.toInt) ?_
  refine Go.iloadN (pc' := 17) d9_16 rfl rfl ?_
  refine Go.retI d9_17 rfl (by decide) (by decide) ?_
  exact ⟨rfl, rfl, rfl⟩
set_option maxRecDepth 65536 in
set_option maxHeartbeats 40000000 in
theorem c_ci {l : Launch} {Z : State} {a0 : Array Value} (hw : ∀ d ∈ tables_1, d.before a0 Z = true) {h0 : Heap} (i : Int32) (n : Int32) (h1 : ¬ i.toInt < 0) (h2 : i.toInt < n.toInt) : Con l Z (⟨"java/util/Objects", "checkIndex", "(II)I"⟩ : MethodName) jdk_31_method_17_code 2 (some .int) ({ frames := 1, cells := 0, slots := 0, locals := 14 } : Room) [] #[(.int i), (.int n)] h0 (PQ h0 (some (.int i))) := by
  refine con_of (Ls := #[.val (.int i), .val (.int n)]) (plainFor_of_name (by first | (simp [plainName, overriddenIn]; done) | decide +kernel)) (fun m => by first | rfl | (simp [entryFrame, mkF, argsToLocals, Value.category]; done)) ?_
  refine Go.iloadN (pc' := 1) d8_0 rfl rfl ?_
  refine Go.iloadN (pc' := 2) d8_1 rfl rfl ?_
  refine Go.aconstNull (pc' := 3) d8_2 rfl ?_
  refine Go.callS0 (pc' := 6) (W := 0) (argsL := [(.int i), (.int n), .null]) (rest := []) (v0 := some (.int i)) (st2 := [(.int i)]) d8_3 rfl (hw _ w47) (hw _ w48) (hw _ w49) (hw _ w50) (by decide) (c_pre hw i n h1 h2) (by decide) (by decide) rfl rfl rfl (by decide) (by decide) rfl pd__28IILjava_2futil_2ffunction_2fBiFunction_3b_29I rfl rfl (Nat.le_of_eq rfl) ?_
  refine Go.retI d8_6 rfl (by decide) (by decide) ?_
  exact ⟨rfl, rfl, rfl⟩
set_option maxRecDepth 65536 in
set_option maxHeartbeats 40000000 in
theorem c_chk {l : Launch} {Z : State} {a0 : Array Value} (hw : ∀ d ∈ tables_1, d.before a0 Z = true) {h0 : Heap} (o u d : Addr) (cn u0 u1 : Int32) (d0 d1 : Int64) (i : Int32) (ne_u_d : u ≠ d) (E_o : Exa Z h0 o "com/example/rehearsal/rehearsal/engine/Openings") (F_o_units : Fld Z h0 o "com/example/rehearsal/rehearsal/engine/Openings" "units" "[I" (.ref u)) (F_o_durations : Fld Z h0 o "com/example/rehearsal/rehearsal/engine/Openings" "durations" "[J" (.ref d)) (F_o_count : Fld Z h0 o "com/example/rehearsal/rehearsal/engine/Openings" "count" "I" (.int cn)) (A_u : Al Z h0 u .int [(.int u0), (.int u1), (.int (0 : Int32)), (.int (0 : Int32)), (.int (0 : Int32)), (.int (0 : Int32)), (.int (0 : Int32)), (.int (0 : Int32))]) (A_d : Al Z h0 d .long [(.long d0), (.long d1), (.long (0 : Int64)), (.long (0 : Int64)), (.long (0 : Int64)), (.long (0 : Int64)), (.long (0 : Int64)), (.long (0 : Int64))]) (h1 : ¬ i.toInt < 0) (h2 : i.toInt < cn.toInt) : Con l Z (⟨"com/example/rehearsal/rehearsal/engine/Openings", "checked", "(I)I"⟩ : MethodName) prog_63_method_12_code 2 (some .int) ({ frames := 2, cells := 0, slots := 0, locals := 27 } : Room) [] #[(.ref o), (.int i)] h0 (PQ h0 (some (.int i))) := by
  refine con_of (Ls := #[.val (.ref o), .val (.int i)]) (plainFor_of_name (by first | (simp [plainName, overriddenIn]; done) | decide +kernel)) (fun m => by first | rfl | (simp [entryFrame, mkF, argsToLocals, Value.category]; done)) ?_
  have ne_o_u : o ≠ u := ne_al E_o (hw _ w1) A_u
  have ne_o_d : o ≠ d := ne_al E_o (hw _ w1) A_d
  refine Go.iloadN (pc' := 1) d7_0 rfl rfl ?_
  refine Go.aloadN (pc' := 2) d7_1 rfl rfl rfl ?_
  refine Go.getF (pc' := 5) d7_2 rfl (hw _ w25) Via.refl F_o_count ?_
  refine Go.callS0 (pc' := 8) (W := 0) (argsL := [(.int i), (.int cn)]) (rest := []) (v0 := some (.int i)) (st2 := [(.int i)]) d7_5 rfl (hw _ w43) (hw _ w44) (hw _ w45) (hw _ w46) (by decide) (c_ci hw i cn h1 h2) (by decide) (by decide) rfl rfl rfl (by decide) (by decide) rfl pd__28II_29I rfl rfl (Nat.le_of_eq rfl) ?_
  refine Go.retI d7_8 rfl (by decide) (by decide) ?_
  exact ⟨rfl, rfl, rfl⟩
set_option maxRecDepth 65536 in
set_option maxHeartbeats 40000000 in
theorem c_units {l : Launch} {Z : State} {a0 : Array Value} (hw : ∀ d ∈ tables_1, d.before a0 Z = true) {h0 : Heap} (o u d : Addr) (cn u0 u1 : Int32) (d0 d1 : Int64) (i : Int32) (j : Nat) (zz : Int32) (ne_u_d : u ≠ d) (E_o : Exa Z h0 o "com/example/rehearsal/rehearsal/engine/Openings") (F_o_units : Fld Z h0 o "com/example/rehearsal/rehearsal/engine/Openings" "units" "[I" (.ref u)) (F_o_durations : Fld Z h0 o "com/example/rehearsal/rehearsal/engine/Openings" "durations" "[J" (.ref d)) (F_o_count : Fld Z h0 o "com/example/rehearsal/rehearsal/engine/Openings" "count" "I" (.int cn)) (A_u : Al Z h0 u .int [(.int u0), (.int u1), (.int (0 : Int32)), (.int (0 : Int32)), (.int (0 : Int32)), (.int (0 : Int32)), (.int (0 : Int32)), (.int (0 : Int32))]) (A_d : Al Z h0 d .long [(.long d0), (.long d1), (.long (0 : Int64)), (.long (0 : Int64)), (.long (0 : Int64)), (.long (0 : Int64)), (.long (0 : Int64)), (.long (0 : Int64))]) (h1 : ¬ i.toInt < 0) (h2 : i.toInt < cn.toInt) (hj : i.toInt = (j : Int)) (hz : ([(.int u0), (.int u1), (.int (0 : Int32)), (.int (0 : Int32)), (.int (0 : Int32)), (.int (0 : Int32)), (.int (0 : Int32)), (.int (0 : Int32))] : List Value)[j]? = some (.int zz)) : Con l Z (⟨"com/example/rehearsal/rehearsal/engine/Openings", "units", "(I)I"⟩ : MethodName) prog_63_method_8_code 2 (some .int) ({ frames := 3, cells := 0, slots := 0, locals := 41 } : Room) [] #[(.ref o), (.int i)] h0 (PQ h0 (some (.int zz))) := by
  refine con_of (Ls := #[.val (.ref o), .val (.int i)]) (plainFor_of_name (by first | (simp [plainName, overriddenIn]; done) | decide +kernel)) (fun m => by first | rfl | (simp [entryFrame, mkF, argsToLocals, Value.category]; done)) ?_
  have ne_o_u : o ≠ u := ne_al E_o (hw _ w1) A_u
  have ne_o_d : o ≠ d := ne_al E_o (hw _ w1) A_d
  refine Go.aloadN (pc' := 1) d6_0 rfl rfl rfl ?_
  refine Go.getF (pc' := 4) d6_1 rfl (hw _ w10) Via.refl F_o_units ?_
  refine Go.aloadN (pc' := 5) d6_4 rfl rfl rfl ?_
  refine Go.iloadN (pc' := 6) d6_5 rfl rfl ?_
  refine Go.callP0 (pc' := 9) (W := 1) (a := o) (argsL := [(.int i)]) (rest := [(.ref u)]) (v0 := some (.int i)) (st2 := [(.int i), (.ref u)]) d6_6 rfl (hw _ w39) (hw _ w40) (hw _ w1) (hw _ w41) (hw _ w2) (hw _ w42) E_o (by decide) (c_chk hw o u d cn u0 u1 d0 d1 i ne_u_d E_o F_o_units F_o_durations F_o_count A_u A_d h1 h2) (by decide) (by decide) rfl rfl rfl (by decide) (by decide) rfl pd__28I_29I rfl rfl (Nat.le_of_eq rfl) ?_
  refine Go.iaload (pc' := 10) d6_9 rfl (i := j) (v := (.int zz)) A_u hj hz ?_
  refine Go.retI d6_10 rfl (by decide) (by decide) ?_
  exact ⟨rfl, rfl, rfl⟩
set_option maxRecDepth 65536 in
set_option maxHeartbeats 40000000 in
theorem c_dur {l : Launch} {Z : State} {a0 : Array Value} (hw : ∀ d ∈ tables_1, d.before a0 Z = true) {h0 : Heap} (o u d : Addr) (cn u0 u1 : Int32) (d0 d1 : Int64) (i : Int32) (j : Nat) (zz : Int64) (ne_u_d : u ≠ d) (E_o : Exa Z h0 o "com/example/rehearsal/rehearsal/engine/Openings") (F_o_units : Fld Z h0 o "com/example/rehearsal/rehearsal/engine/Openings" "units" "[I" (.ref u)) (F_o_durations : Fld Z h0 o "com/example/rehearsal/rehearsal/engine/Openings" "durations" "[J" (.ref d)) (F_o_count : Fld Z h0 o "com/example/rehearsal/rehearsal/engine/Openings" "count" "I" (.int cn)) (A_u : Al Z h0 u .int [(.int u0), (.int u1), (.int (0 : Int32)), (.int (0 : Int32)), (.int (0 : Int32)), (.int (0 : Int32)), (.int (0 : Int32)), (.int (0 : Int32))]) (A_d : Al Z h0 d .long [(.long d0), (.long d1), (.long (0 : Int64)), (.long (0 : Int64)), (.long (0 : Int64)), (.long (0 : Int64)), (.long (0 : Int64)), (.long (0 : Int64))]) (h1 : ¬ i.toInt < 0) (h2 : i.toInt < cn.toInt) (hj : i.toInt = (j : Int)) (hz : ([(.long d0), (.long d1), (.long (0 : Int64)), (.long (0 : Int64)), (.long (0 : Int64)), (.long (0 : Int64)), (.long (0 : Int64)), (.long (0 : Int64))] : List Value)[j]? = some (.long zz)) : Con l Z (⟨"com/example/rehearsal/rehearsal/engine/Openings", "duration", "(I)J"⟩ : MethodName) prog_63_method_9_code 2 (some .long) ({ frames := 3, cells := 0, slots := 0, locals := 41 } : Room) [] #[(.ref o), (.int i)] h0 (PQ h0 (some (.long zz))) := by
  refine con_of (Ls := #[.val (.ref o), .val (.int i)]) (plainFor_of_name (by first | (simp [plainName, overriddenIn]; done) | decide +kernel)) (fun m => by first | rfl | (simp [entryFrame, mkF, argsToLocals, Value.category]; done)) ?_
  have ne_o_u : o ≠ u := ne_al E_o (hw _ w1) A_u
  have ne_o_d : o ≠ d := ne_al E_o (hw _ w1) A_d
  refine Go.aloadN (pc' := 1) d10_0 rfl rfl rfl ?_
  refine Go.getF (pc' := 4) d10_1 rfl (hw _ w13) Via.refl F_o_durations ?_
  refine Go.aloadN (pc' := 5) d10_4 rfl rfl rfl ?_
  refine Go.iloadN (pc' := 6) d10_5 rfl rfl ?_
  refine Go.callP0 (pc' := 9) (W := 1) (a := o) (argsL := [(.int i)]) (rest := [(.ref d)]) (v0 := some (.int i)) (st2 := [(.int i), (.ref d)]) d10_6 rfl (hw _ w39) (hw _ w40) (hw _ w1) (hw _ w41) (hw _ w2) (hw _ w42) E_o (by decide) (c_chk hw o u d cn u0 u1 d0 d1 i ne_u_d E_o F_o_units F_o_durations F_o_count A_u A_d h1 h2) (by decide) (by decide) rfl rfl rfl (by decide) (by decide) rfl pd__28I_29I rfl rfl (Nat.le_of_eq rfl) ?_
  refine Go.laload (pc' := 10) d10_9 rfl (i := j) (v := (.long zz)) A_d hj hz ?_
  refine Go.retJ d10_10 rfl (by decide) (by decide) ?_
  exact ⟨rfl, rfl, rfl⟩
set_option maxRecDepth 65536 in
set_option maxHeartbeats 40000000 in
theorem law_con {l : Launch} {Z : State} {a0 : Array Value} (hw : ∀ d ∈ tables_1, d.before a0 Z = true) {h0 : Heap} {n0 : Nat} (sz0 : n0 ≤ h0.size) (a : Int32) (e : Int64) (b : Int32) (pp : Int32) (qq : Int64) : Con l Z x code maxLocals ret room_1 tables_1 #[(.int a), (.long e), (.int b), (.int pp), (.long qq)] h0 (LawQ n0) := by
  refine con_of (Ls := #[.val (.int a), .val (.long e), .second, .val (.int b), .val (.int pp), .val (.long qq), .second, .unset, .unset, .unset, .unset, .unset, .unset, .unset, .unset, .unset, .unset]) (plainFor_of_name (by first | (simp [plainName, overriddenIn]; done) | decide +kernel)) (fun m => by first | rfl | (simp [entryFrame, mkF, argsToLocals, Value.category, maxLocals]; done)) ?_
  have N0 : Fr n0 [] := Fr.nil _
  refine Go.newO (pc' := 3) (k' := 1) (n' := 3) at_0 rfl (hw _ w0) (hw _ w1) (hw _ w2) (by decide) (by decide) rfl rfl ?_
  intro h1 obj ha_obj X1 E_obj D1
  have gn_obj : n0 ≤ obj := by rw [ha_obj]; exact sz0
  replace sz0 : n0 ≤ h1.size := Nat.le_trans sz0 X1.1
  have F_obj_units : Fld Z h1 obj "com/example/rehearsal/rehearsal/engine/Openings" "units" "[I" .null := D1 (Or.inl (hw _ w11)) (ty := (.array .int)) (by decide)
  have F_obj_durations : Fld Z h1 obj "com/example/rehearsal/rehearsal/engine/Openings" "durations" "[J" .null := D1 (Or.inl (hw _ w14)) (ty := (.array .long)) (by decide)
  have F_obj_count : Fld Z h1 obj "com/example/rehearsal/rehearsal/engine/Openings" "count" "I" (.int (0 : Int32)) := D1 (Or.inl (hw _ w26)) (ty := .int) (by decide)
  refine Go.dup (pc' := 4) at_3 rfl rfl ?_
  refine Go.callI (pc' := 7) (W := 1) (a := obj) (argsL := []) (rest := [(.ref obj)]) (k' := 3) (n' := 19) at_4 rfl rfl (hw _ w3) (hw _ w4) (hw _ w2) (hw _ w5) (by decide) (c_init hw sz0 obj gn_obj E_obj F_obj_units F_obj_durations F_obj_count) (by decide) (by decide) (by decide) (by decide) rfl rfl rfl pd__28_29V rfl rfl (Nat.le_of_eq rfl) ?_
  intro v2 h2 P2 L2 NL2 hq2
  obtain ⟨u, d, rfl, ge_u, ge_d, N2, K2, E_obj_2, F_obj_units_2, F_obj_durations_2, F_obj_count_2, A_u_2, A_d_2⟩ := hq2
  dsimp only [Option.toList, List.cons_append, List.nil_append]
  have ne_obj_u : obj ≠ u := Nat.ne_of_lt (Nat.lt_of_lt_of_le E_obj.lt ge_u)
  have gn_u : n0 ≤ u := Nat.le_trans sz0 ge_u
  have ne_u_d : u ≠ d := Nat.ne_of_lt ge_d
  have gt_d := ge_d
  replace ge_d := Nat.le_trans ge_u (Nat.le_of_lt gt_d)
  have ne_obj_d : obj ≠ d := Nat.ne_of_lt (Nat.lt_of_lt_of_le E_obj.lt ge_d)
  have gn_d : n0 ≤ d := Nat.le_trans sz0 ge_d
  replace N0 := NL2 _ N0 N2
  replace sz0 : n0 ≤ h2.size := Nat.le_trans sz0 K2.1
  clear E_obj
  clear F_obj_units
  clear F_obj_durations
  clear F_obj_count
  have E_obj := E_obj_2; clear E_obj_2
  have F_obj_units := F_obj_units_2; clear F_obj_units_2
  have F_obj_durations := F_obj_durations_2; clear F_obj_durations_2
  have F_obj_count := F_obj_count_2; clear F_obj_count_2
  have A_u := A_u_2; clear A_u_2
  have A_d := A_d_2; clear A_d_2
  refine Go.astore (pc' := 9) at_7 rfl rfl (Ls' := #[.val (.int a), .val (.long e), .second, .val (.int b), .val (.int pp), .val (.long qq), .second, .val (.ref obj), .unset, .unset, .unset, .unset, .unset, .unset, .unset, .unset, .unset]) rfl ?_
  refine Go.aload (pc' := 11) at_9 rfl rfl rfl ?_
  refine Go.iload (pc' := 13) at_11 rfl rfl ?_
  refine Go.lload (pc' := 15) at_13 rfl rfl ?_
  refine Go.callV (pc' := 18) (W := 0) (a := obj) (argsL := [(.int pp), (.long qq)]) (rest := []) (k' := 3) (n' := 19) at_15 rfl (hw _ w15) (hw _ w16) (nf_sel (hw _ w18)) (hw _ w18) (hw _ w17) (hw _ w2) (hw _ w19) E_obj (by decide) (c_add hw sz0 obj u d pp qq gn_obj gn_u gn_d ne_u_d E_obj F_obj_units F_obj_durations F_obj_count A_u A_d) (by decide) (by decide) (by decide) (by decide) rfl rfl rfl pd__28IJ_29V rfl rfl (Nat.le_of_eq rfl) ?_
  intro v3 h3 P3 L3 NL3 hq3
  obtain ⟨cn0, u00, d00, rfl, N3, K3, E_obj_3, F_obj_units_3, F_obj_durations_3, F_obj_count_3, A_u_3, A_d_3⟩ := hq3
  dsimp only [Option.toList, List.cons_append, List.nil_append]
  replace N0 := NL3 _ N0 N3
  replace sz0 : n0 ≤ h3.size := Nat.le_trans sz0 K3.1
  clear E_obj
  clear F_obj_units
  clear F_obj_durations
  clear F_obj_count
  clear A_u
  clear A_d
  have E_obj := E_obj_3; clear E_obj_3
  have F_obj_units := F_obj_units_3; clear F_obj_units_3
  have F_obj_durations := F_obj_durations_3; clear F_obj_durations_3
  have F_obj_count := F_obj_count_3; clear F_obj_count_3
  have A_u := A_u_3; clear A_u_3
  have A_d := A_d_3; clear A_d_3
  refine Go.aload (pc' := 20) at_18 rfl rfl rfl ?_
  refine Go.iloadN (pc' := 21) at_20 rfl rfl ?_
  refine Go.lloadN (pc' := 22) at_21 rfl rfl ?_
  refine Go.iloadN (pc' := 23) at_22 rfl rfl ?_
  refine Go.callV (pc' := 26) (W := 0) (a := obj) (argsL := [(.int a), (.long e), (.int b)]) (rest := []) (k' := 3) (n' := 19) at_23 rfl (hw _ w20) (hw _ w21) (nf_sel (hw _ w23)) (hw _ w23) (hw _ w22) (hw _ w2) (hw _ w24) E_obj (by decide) (c_set hw sz0 obj u d a e b cn0 u00 d00 gn_obj gn_u gn_d ne_u_d E_obj F_obj_units F_obj_durations F_obj_count A_u A_d) (by decide) (by decide) (by decide) (by decide) rfl rfl rfl pd__28IJI_29V rfl rfl (Nat.le_of_eq rfl) ?_
  intro v4 h4 P4 L4 NL4 hq4
  obtain ⟨cn, u0, u1, d0, d1, rfl, N4, K4, E_obj_4, F_obj_units_4, F_obj_durations_4, F_obj_count_4, A_u_4, A_d_4, hset⟩ := hq4
  dsimp only [Option.toList, List.cons_append, List.nil_append]
  replace N0 := NL4 _ N0 N4
  replace sz0 : n0 ≤ h4.size := Nat.le_trans sz0 K4.1
  clear E_obj
  clear F_obj_units
  clear F_obj_durations
  clear F_obj_count
  clear A_u
  clear A_d
  have E_obj := E_obj_4; clear E_obj_4
  have F_obj_units := F_obj_units_4; clear F_obj_units_4
  have F_obj_durations := F_obj_durations_4; clear F_obj_durations_4
  have F_obj_count := F_obj_count_4; clear F_obj_count_4
  have A_u := A_u_4; clear A_u_4
  have A_d := A_d_4; clear A_d_4
  have k1 : (1 : Int32).toInt = 1 := by decide
  have k2 : (9223372036854775807 : Int64).toInt = 9223372036854775807 := by decide
  have k3 := rng64 e
  unfold own_set own_first at hset
  rcases hset with ⟨g1, g2, rfl, rfl, rfl⟩ | ⟨g1, g2, g3, rfl, rfl, rfl⟩ | ⟨g1, g2, g3, rfl, rfl, rfl, rfl, rfl⟩ | ⟨g1, g2, rfl⟩ | ⟨g1, g2, rfl, rfl, rfl⟩
  · have _ := k1
    refine Go.iloadN (pc' := 27) at_26 rfl rfl ?_
    refine Go.iconst (pc' := 28) at_27 rfl (z := (1 : Int32)) (by decide) ?_
    refine Go.icmpF (pc' := 31) (X := a.toInt) (Y := (1 : Int)) at_28 rfl rfl (by decide) (by omega : ¬ a.toInt < (1 : Int)) ?_
    refine Go.lloadN (pc' := 32) at_31 rfl rfl ?_
    refine Go.lconst (pc' := 33) at_32 rfl (z := (1 : Int64)) (by decide) ?_
    refine Go.lcmpF (pc' := 37) (X := e.toInt) (Y := (1 : Int)) at_33 at_34 rfl rfl rfl (by decide) (by omega : ¬ e.toInt < (1 : Int)) ?_
    refine Go.iconst (pc' := 38) at_37 rfl (z := (1 : Int32)) (by decide) ?_
    refine Go.goto (pc' := 42) at_38 (by decide) ?_
    refine Go.istore (pc' := 44) at_42 rfl (Ls' := #[.val (.int a), .val (.long e), .second, .val (.int b), .val (.int pp), .val (.long qq), .second, .val (.ref obj), .val (.int (1 : Int32)), .unset, .unset, .unset, .unset, .unset, .unset, .unset, .unset]) rfl ?_
    refine Go.iloadN (pc' := 45) at_44 rfl rfl ?_
    refine Go.iconst (pc' := 46) at_45 rfl (z := (1 : Int32)) (by decide) ?_
    refine Go.icmpT (pc' := 53) (X := b.toInt) (Y := (1 : Int)) at_46 (by decide) rfl (by decide) (by omega : b.toInt < (1 : Int)) ?_
    refine Go.iconst (pc' := 54) at_53 rfl (z := (0 : Int32)) (by decide) ?_
    refine Go.istore (pc' := 56) at_54 rfl (Ls' := #[.val (.int a), .val (.long e), .second, .val (.int b), .val (.int pp), .val (.long qq), .second, .val (.ref obj), .val (.int (1 : Int32)), .val (.int (0 : Int32)), .unset, .unset, .unset, .unset, .unset, .unset, .unset]) rfl ?_
    refine Go.iconst (pc' := 57) at_56 rfl (z := (0 : Int32)) (by decide) ?_
    refine Go.istore (pc' := 59) at_57 rfl (Ls' := #[.val (.int a), .val (.long e), .second, .val (.int b), .val (.int pp), .val (.long qq), .second, .val (.ref obj), .val (.int (1 : Int32)), .val (.int (0 : Int32)), .unset, .val (.int (0 : Int32)), .unset, .unset, .unset, .unset, .unset]) rfl ?_
    refine Go.lconst (pc' := 60) at_59 rfl (z := (0 : Int64)) (by decide) ?_
    refine Go.lstore (pc' := 62) at_60 rfl (Ls' := #[.val (.int a), .val (.long e), .second, .val (.int b), .val (.int pp), .val (.long qq), .second, .val (.ref obj), .val (.int (1 : Int32)), .val (.int (0 : Int32)), .unset, .val (.int (0 : Int32)), .val (.long (0 : Int64)), .second, .unset, .unset, .unset]) rfl ?_
    refine Go.iconst (pc' := 63) at_62 rfl (z := (0 : Int32)) (by decide) ?_
    refine Go.istore (pc' := 65) at_63 rfl (Ls' := #[.val (.int a), .val (.long e), .second, .val (.int b), .val (.int pp), .val (.long qq), .second, .val (.ref obj), .val (.int (1 : Int32)), .val (.int (0 : Int32)), .unset, .val (.int (0 : Int32)), .val (.long (0 : Int64)), .second, .val (.int (0 : Int32)), .unset, .unset]) rfl ?_
    refine Go.lconst (pc' := 66) at_65 rfl (z := (0 : Int64)) (by decide) ?_
    refine Go.lstore (pc' := 68) at_66 rfl (Ls' := #[.val (.int a), .val (.long e), .second, .val (.int b), .val (.int pp), .val (.long qq), .second, .val (.ref obj), .val (.int (1 : Int32)), .val (.int (0 : Int32)), .unset, .val (.int (0 : Int32)), .val (.long (0 : Int64)), .second, .val (.int (0 : Int32)), .val (.long (0 : Int64)), .second]) rfl ?_
    refine Go.iload (pc' := 70) at_68 rfl rfl ?_
    refine Go.ifF (pc' := 73) (X := (1 : Int)) at_70 rfl (by decide) (by decide : ¬ (1 : Int) = 0) ?_
    refine Go.iload (pc' := 75) at_73 rfl rfl ?_
    refine Go.ifT (pc' := 144) (X := (0 : Int)) at_75 (by decide) (by decide) (by decide : (0 : Int) = 0) ?_
    refine Go.iload (pc' := 146) at_144 rfl rfl ?_
    refine Go.ifF (pc' := 149) (X := (1 : Int)) at_146 rfl (by decide) (by decide : ¬ (1 : Int) = 0) ?_
    refine Go.iconst (pc' := 150) at_149 rfl (z := (1 : Int32)) (by decide) ?_
    refine Go.istore (pc' := 152) at_150 rfl (Ls' := #[.val (.int a), .val (.long e), .second, .val (.int b), .val (.int pp), .val (.long qq), .second, .val (.ref obj), .val (.int (1 : Int32)), .val (.int (0 : Int32)), .val (.int (1 : Int32)), .val (.int (0 : Int32)), .val (.long (0 : Int64)), .second, .val (.int (0 : Int32)), .val (.long (0 : Int64)), .second]) rfl ?_
    refine Go.iloadN (pc' := 153) at_152 rfl rfl ?_
    refine Go.istore (pc' := 155) at_153 rfl (Ls' := #[.val (.int a), .val (.long e), .second, .val (.int b), .val (.int pp), .val (.long qq), .second, .val (.ref obj), .val (.int (1 : Int32)), .val (.int (0 : Int32)), .val (.int (1 : Int32)), .val (.int a), .val (.long (0 : Int64)), .second, .val (.int (0 : Int32)), .val (.long (0 : Int64)), .second]) rfl ?_
    refine Go.lloadN (pc' := 156) at_155 rfl rfl ?_
    refine Go.lstore (pc' := 158) at_156 rfl (Ls' := #[.val (.int a), .val (.long e), .second, .val (.int b), .val (.int pp), .val (.long qq), .second, .val (.ref obj), .val (.int (1 : Int32)), .val (.int (0 : Int32)), .val (.int (1 : Int32)), .val (.int a), .val (.long e), .second, .val (.int (0 : Int32)), .val (.long (0 : Int64)), .second]) rfl ?_
    refine Go.goto (pc' := 183) at_158 (by decide) ?_
    refine Go.aload (pc' := 185) at_183 rfl rfl rfl ?_
    refine Go.callV0 (pc' := 188) (W := 0) (a := obj) (argsL := []) (rest := []) (v0 := some (.int (1 : Int32))) (st2 := [(.int (1 : Int32))]) at_185 rfl (hw _ w29) (hw _ w30) (nf_sel (hw _ w32)) (hw _ w32) (hw _ w31) (hw _ w2) (hw _ w33) E_obj (by decide) (c_count hw obj u d (1 : Int32) a u1 e d1 ne_u_d E_obj F_obj_units F_obj_durations F_obj_count A_u A_d) (by decide) (by decide) rfl rfl rfl (by decide) (by decide) rfl pd__28_29I rfl rfl (Nat.le_of_eq rfl) ?_
    refine Go.iload (pc' := 190) at_188 rfl rfl ?_
    refine Go.icmpT (pc' := 195) (X := (1 : Int)) (Y := (1 : Int)) at_190 (by decide) (by decide) (by decide) (by decide : (1 : Int) = (1 : Int)) ?_
    refine Go.iload (pc' := 197) at_195 rfl rfl ?_
    refine Go.iconst (pc' := 198) at_197 rfl (z := (1 : Int32)) (by decide) ?_
    refine Go.icmpF (pc' := 201) (X := (1 : Int)) (Y := (1 : Int)) at_198 rfl (by decide) (by decide) (by decide : ¬ (1 : Int) < (1 : Int)) ?_
    refine Go.aload (pc' := 203) at_201 rfl rfl rfl ?_
    refine Go.iconst (pc' := 204) at_203 rfl (z := (0 : Int32)) (by decide) ?_
    refine Go.callV0 (pc' := 207) (W := 0) (a := obj) (argsL := [(.int (0 : Int32))]) (rest := []) (v0 := some (.int a)) (st2 := [(.int a)]) at_204 rfl (hw _ w34) (hw _ w35) (nf_sel (hw _ w37)) (hw _ w37) (hw _ w36) (hw _ w2) (hw _ w38) E_obj (by decide) (c_units hw obj u d (1 : Int32) a u1 e d1 (0 : Int32) 0 a ne_u_d E_obj F_obj_units F_obj_durations F_obj_count A_u A_d (by decide) (by decide) (by decide) rfl) (by decide) (by decide) rfl rfl rfl (by decide) (by decide) rfl pd__28I_29I rfl rfl (Nat.le_of_eq rfl) ?_
    refine Go.iload (pc' := 209) at_207 rfl rfl ?_
    refine Go.icmpF (pc' := 212) (X := a.toInt) (Y := a.toInt) at_209 rfl rfl rfl (rfl : a.toInt = a.toInt) ?_
    refine Go.aload (pc' := 214) at_212 rfl rfl rfl ?_
    refine Go.iconst (pc' := 215) at_214 rfl (z := (0 : Int32)) (by decide) ?_
    refine Go.callV0 (pc' := 218) (W := 0) (a := obj) (argsL := [(.int (0 : Int32))]) (rest := []) (v0 := some (.long e)) (st2 := [(.long e)]) at_215 rfl (hw _ w51) (hw _ w52) (nf_sel (hw _ w54)) (hw _ w54) (hw _ w53) (hw _ w2) (hw _ w55) E_obj (by decide) (c_dur hw obj u d (1 : Int32) a u1 e d1 (0 : Int32) 0 e ne_u_d E_obj F_obj_units F_obj_durations F_obj_count A_u A_d (by decide) (by decide) (by decide) rfl) (by decide) (by decide) rfl rfl rfl (by decide) (by decide) rfl pd__28I_29J rfl rfl (Nat.le_of_eq rfl) ?_
    refine Go.lload (pc' := 220) at_218 rfl rfl ?_
    refine Go.lcmpT (pc' := 226) (X := e.toInt) (Y := e.toInt) at_220 at_221 rfl (by decide) rfl rfl (rfl : e.toInt = e.toInt) ?_
    refine Go.iload (pc' := 228) at_226 rfl rfl ?_
    refine Go.iconst (pc' := 229) at_228 rfl (z := (2 : Int32)) (by decide) ?_
    refine Go.icmpT (pc' := 257) (X := (1 : Int)) (Y := (2 : Int)) at_229 (by decide) (by decide) (by decide) (by decide : (1 : Int) < (2 : Int)) ?_
    refine Go.iconst (pc' := 258) at_257 rfl (z := (1 : Int32)) (by decide) ?_
    refine Go.retZ at_258 rfl (by decide) (by decide) (by decide) ?_
    exact ⟨rfl, N0⟩
  · have _ := k1
    refine Go.iloadN (pc' := 27) at_26 rfl rfl ?_
    refine Go.iconst (pc' := 28) at_27 rfl (z := (1 : Int32)) (by decide) ?_
    refine Go.icmpF (pc' := 31) (X := a.toInt) (Y := (1 : Int)) at_28 rfl rfl (by decide) (by omega : ¬ a.toInt < (1 : Int)) ?_
    refine Go.lloadN (pc' := 32) at_31 rfl rfl ?_
    refine Go.lconst (pc' := 33) at_32 rfl (z := (1 : Int64)) (by decide) ?_
    refine Go.lcmpF (pc' := 37) (X := e.toInt) (Y := (1 : Int)) at_33 at_34 rfl rfl rfl (by decide) (by omega : ¬ e.toInt < (1 : Int)) ?_
    refine Go.iconst (pc' := 38) at_37 rfl (z := (1 : Int32)) (by decide) ?_
    refine Go.goto (pc' := 42) at_38 (by decide) ?_
    refine Go.istore (pc' := 44) at_42 rfl (Ls' := #[.val (.int a), .val (.long e), .second, .val (.int b), .val (.int pp), .val (.long qq), .second, .val (.ref obj), .val (.int (1 : Int32)), .unset, .unset, .unset, .unset, .unset, .unset, .unset, .unset]) rfl ?_
    refine Go.iloadN (pc' := 45) at_44 rfl rfl ?_
    refine Go.iconst (pc' := 46) at_45 rfl (z := (1 : Int32)) (by decide) ?_
    refine Go.icmpF (pc' := 49) (X := b.toInt) (Y := (1 : Int)) at_46 rfl rfl (by decide) (by omega : ¬ b.toInt < (1 : Int)) ?_
    refine Go.iconst (pc' := 50) at_49 rfl (z := (1 : Int32)) (by decide) ?_
    refine Go.goto (pc' := 54) at_50 (by decide) ?_
    refine Go.istore (pc' := 56) at_54 rfl (Ls' := #[.val (.int a), .val (.long e), .second, .val (.int b), .val (.int pp), .val (.long qq), .second, .val (.ref obj), .val (.int (1 : Int32)), .val (.int (1 : Int32)), .unset, .unset, .unset, .unset, .unset, .unset, .unset]) rfl ?_
    refine Go.iconst (pc' := 57) at_56 rfl (z := (0 : Int32)) (by decide) ?_
    refine Go.istore (pc' := 59) at_57 rfl (Ls' := #[.val (.int a), .val (.long e), .second, .val (.int b), .val (.int pp), .val (.long qq), .second, .val (.ref obj), .val (.int (1 : Int32)), .val (.int (1 : Int32)), .unset, .val (.int (0 : Int32)), .unset, .unset, .unset, .unset, .unset]) rfl ?_
    refine Go.lconst (pc' := 60) at_59 rfl (z := (0 : Int64)) (by decide) ?_
    refine Go.lstore (pc' := 62) at_60 rfl (Ls' := #[.val (.int a), .val (.long e), .second, .val (.int b), .val (.int pp), .val (.long qq), .second, .val (.ref obj), .val (.int (1 : Int32)), .val (.int (1 : Int32)), .unset, .val (.int (0 : Int32)), .val (.long (0 : Int64)), .second, .unset, .unset, .unset]) rfl ?_
    refine Go.iconst (pc' := 63) at_62 rfl (z := (0 : Int32)) (by decide) ?_
    refine Go.istore (pc' := 65) at_63 rfl (Ls' := #[.val (.int a), .val (.long e), .second, .val (.int b), .val (.int pp), .val (.long qq), .second, .val (.ref obj), .val (.int (1 : Int32)), .val (.int (1 : Int32)), .unset, .val (.int (0 : Int32)), .val (.long (0 : Int64)), .second, .val (.int (0 : Int32)), .unset, .unset]) rfl ?_
    refine Go.lconst (pc' := 66) at_65 rfl (z := (0 : Int64)) (by decide) ?_
    refine Go.lstore (pc' := 68) at_66 rfl (Ls' := #[.val (.int a), .val (.long e), .second, .val (.int b), .val (.int pp), .val (.long qq), .second, .val (.ref obj), .val (.int (1 : Int32)), .val (.int (1 : Int32)), .unset, .val (.int (0 : Int32)), .val (.long (0 : Int64)), .second, .val (.int (0 : Int32)), .val (.long (0 : Int64)), .second]) rfl ?_
    refine Go.iload (pc' := 70) at_68 rfl rfl ?_
    refine Go.ifF (pc' := 73) (X := (1 : Int)) at_70 rfl (by decide) (by decide : ¬ (1 : Int) = 0) ?_
    refine Go.iload (pc' := 75) at_73 rfl rfl ?_
    refine Go.ifF (pc' := 78) (X := (1 : Int)) at_75 rfl (by decide) (by decide : ¬ (1 : Int) = 0) ?_
    refine Go.iloadN (pc' := 79) at_78 rfl rfl ?_
    refine Go.iloadN (pc' := 80) at_79 rfl rfl ?_
    refine Go.icmpF (pc' := 83) (X := a.toInt) (Y := b.toInt) at_80 rfl rfl rfl (by omega : b.toInt < a.toInt) ?_
    refine Go.lloadN (pc' := 84) at_83 rfl rfl ?_
    refine Go.ldc2 (pc' := 87) at_84 rfl (hw _ w28) ?_
    refine Go.lcmpT (pc' := 111) (X := e.toInt) (Y := (9223372036854775807 : Int)) at_87 at_88 rfl (by decide) rfl (by decide) (by omega : ¬ e.toInt < (9223372036854775807 : Int)) ?_
    refine Go.iloadN (pc' := 112) at_111 rfl rfl ?_
    refine Go.iloadN (pc' := 113) at_112 rfl rfl ?_
    refine Go.icmpF (pc' := 116) (X := a.toInt) (Y := b.toInt) at_113 rfl rfl rfl (by omega : b.toInt < a.toInt) ?_
    refine Go.iconst (pc' := 117) at_116 rfl (z := (1 : Int32)) (by decide) ?_
    refine Go.istore (pc' := 119) at_117 rfl (Ls' := #[.val (.int a), .val (.long e), .second, .val (.int b), .val (.int pp), .val (.long qq), .second, .val (.ref obj), .val (.int (1 : Int32)), .val (.int (1 : Int32)), .val (.int (1 : Int32)), .val (.int (0 : Int32)), .val (.long (0 : Int64)), .second, .val (.int (0 : Int32)), .val (.long (0 : Int64)), .second]) rfl ?_
    refine Go.iloadN (pc' := 120) at_119 rfl rfl ?_
    refine Go.istore (pc' := 122) at_120 rfl (Ls' := #[.val (.int a), .val (.long e), .second, .val (.int b), .val (.int pp), .val (.long qq), .second, .val (.ref obj), .val (.int (1 : Int32)), .val (.int (1 : Int32)), .val (.int (1 : Int32)), .val (.int a), .val (.long (0 : Int64)), .second, .val (.int (0 : Int32)), .val (.long (0 : Int64)), .second]) rfl ?_
    refine Go.ldc2 (pc' := 125) at_122 rfl (hw _ w28) ?_
    refine Go.lstore (pc' := 127) at_125 rfl (Ls' := #[.val (.int a), .val (.long e), .second, .val (.int b), .val (.int pp), .val (.long qq), .second, .val (.ref obj), .val (.int (1 : Int32)), .val (.int (1 : Int32)), .val (.int (1 : Int32)), .val (.int a), .val (.long (9223372036854775807 : Int64)), .second, .val (.int (0 : Int32)), .val (.long (0 : Int64)), .second]) rfl ?_
    refine Go.goto (pc' := 183) at_127 (by decide) ?_
    refine Go.aload (pc' := 185) at_183 rfl rfl rfl ?_
    refine Go.callV0 (pc' := 188) (W := 0) (a := obj) (argsL := []) (rest := []) (v0 := some (.int (1 : Int32))) (st2 := [(.int (1 : Int32))]) at_185 rfl (hw _ w29) (hw _ w30) (nf_sel (hw _ w32)) (hw _ w32) (hw _ w31) (hw _ w2) (hw _ w33) E_obj (by decide) (c_count hw obj u d (1 : Int32) a u1 e d1 ne_u_d E_obj F_obj_units F_obj_durations F_obj_count A_u A_d) (by decide) (by decide) rfl rfl rfl (by decide) (by decide) rfl pd__28_29I rfl rfl (Nat.le_of_eq rfl) ?_
    refine Go.iload (pc' := 190) at_188 rfl rfl ?_
    refine Go.icmpT (pc' := 195) (X := (1 : Int)) (Y := (1 : Int)) at_190 (by decide) (by decide) (by decide) (by decide : (1 : Int) = (1 : Int)) ?_
    refine Go.iload (pc' := 197) at_195 rfl rfl ?_
    refine Go.iconst (pc' := 198) at_197 rfl (z := (1 : Int32)) (by decide) ?_
    refine Go.icmpF (pc' := 201) (X := (1 : Int)) (Y := (1 : Int)) at_198 rfl (by decide) (by decide) (by decide : ¬ (1 : Int) < (1 : Int)) ?_
    refine Go.aload (pc' := 203) at_201 rfl rfl rfl ?_
    refine Go.iconst (pc' := 204) at_203 rfl (z := (0 : Int32)) (by decide) ?_
    refine Go.callV0 (pc' := 207) (W := 0) (a := obj) (argsL := [(.int (0 : Int32))]) (rest := []) (v0 := some (.int a)) (st2 := [(.int a)]) at_204 rfl (hw _ w34) (hw _ w35) (nf_sel (hw _ w37)) (hw _ w37) (hw _ w36) (hw _ w2) (hw _ w38) E_obj (by decide) (c_units hw obj u d (1 : Int32) a u1 e d1 (0 : Int32) 0 a ne_u_d E_obj F_obj_units F_obj_durations F_obj_count A_u A_d (by decide) (by decide) (by decide) rfl) (by decide) (by decide) rfl rfl rfl (by decide) (by decide) rfl pd__28I_29I rfl rfl (Nat.le_of_eq rfl) ?_
    refine Go.iload (pc' := 209) at_207 rfl rfl ?_
    refine Go.icmpF (pc' := 212) (X := a.toInt) (Y := a.toInt) at_209 rfl rfl rfl (rfl : a.toInt = a.toInt) ?_
    refine Go.aload (pc' := 214) at_212 rfl rfl rfl ?_
    refine Go.iconst (pc' := 215) at_214 rfl (z := (0 : Int32)) (by decide) ?_
    refine Go.callV0 (pc' := 218) (W := 0) (a := obj) (argsL := [(.int (0 : Int32))]) (rest := []) (v0 := some (.long e)) (st2 := [(.long e)]) at_215 rfl (hw _ w51) (hw _ w52) (nf_sel (hw _ w54)) (hw _ w54) (hw _ w53) (hw _ w2) (hw _ w55) E_obj (by decide) (c_dur hw obj u d (1 : Int32) a u1 e d1 (0 : Int32) 0 e ne_u_d E_obj F_obj_units F_obj_durations F_obj_count A_u A_d (by decide) (by decide) (by decide) rfl) (by decide) (by decide) rfl rfl rfl (by decide) (by decide) rfl pd__28I_29J rfl rfl (Nat.le_of_eq rfl) ?_
    refine Go.lload (pc' := 220) at_218 rfl rfl ?_
    by_cases hc5 : e.toInt = (9223372036854775807 : Int)
    · refine Go.lcmpT (pc' := 226) (X := e.toInt) (Y := (9223372036854775807 : Int)) at_220 at_221 rfl (by decide) rfl (by decide) (hc5 : e.toInt = (9223372036854775807 : Int)) ?_
      refine Go.iload (pc' := 228) at_226 rfl rfl ?_
      refine Go.iconst (pc' := 229) at_228 rfl (z := (2 : Int32)) (by decide) ?_
      refine Go.icmpT (pc' := 257) (X := (1 : Int)) (Y := (2 : Int)) at_229 (by decide) (by decide) (by decide) (by decide : (1 : Int) < (2 : Int)) ?_
      refine Go.iconst (pc' := 258) at_257 rfl (z := (1 : Int32)) (by decide) ?_
      refine Go.retZ at_258 rfl (by decide) (by decide) (by decide) ?_
      exact ⟨rfl, N0⟩
    · refine Go.lcmpF (pc' := 224) (X := e.toInt) (Y := (9223372036854775807 : Int)) at_220 at_221 rfl rfl rfl (by decide) (hc5 : ¬ e.toInt = (9223372036854775807 : Int)) ?_
      refine Go.iconst (pc' := 225) at_224 rfl (z := (0 : Int32)) (by decide) ?_
      refine Go.retZ at_225 rfl (by decide) (by decide) (by decide) ?_
      exfalso; omega
  · have _ := k1
    refine Go.iloadN (pc' := 27) at_26 rfl rfl ?_
    refine Go.iconst (pc' := 28) at_27 rfl (z := (1 : Int32)) (by decide) ?_
    refine Go.icmpF (pc' := 31) (X := a.toInt) (Y := (1 : Int)) at_28 rfl rfl (by decide) (by omega : ¬ a.toInt < (1 : Int)) ?_
    refine Go.lloadN (pc' := 32) at_31 rfl rfl ?_
    refine Go.lconst (pc' := 33) at_32 rfl (z := (1 : Int64)) (by decide) ?_
    refine Go.lcmpF (pc' := 37) (X := e.toInt) (Y := (1 : Int)) at_33 at_34 rfl rfl rfl (by decide) (by omega : ¬ e.toInt < (1 : Int)) ?_
    refine Go.iconst (pc' := 38) at_37 rfl (z := (1 : Int32)) (by decide) ?_
    refine Go.goto (pc' := 42) at_38 (by decide) ?_
    refine Go.istore (pc' := 44) at_42 rfl (Ls' := #[.val (.int a), .val (.long e), .second, .val (.int b), .val (.int pp), .val (.long qq), .second, .val (.ref obj), .val (.int (1 : Int32)), .unset, .unset, .unset, .unset, .unset, .unset, .unset, .unset]) rfl ?_
    refine Go.iloadN (pc' := 45) at_44 rfl rfl ?_
    refine Go.iconst (pc' := 46) at_45 rfl (z := (1 : Int32)) (by decide) ?_
    refine Go.icmpF (pc' := 49) (X := b.toInt) (Y := (1 : Int)) at_46 rfl rfl (by decide) (by omega : ¬ b.toInt < (1 : Int)) ?_
    refine Go.iconst (pc' := 50) at_49 rfl (z := (1 : Int32)) (by decide) ?_
    refine Go.goto (pc' := 54) at_50 (by decide) ?_
    refine Go.istore (pc' := 56) at_54 rfl (Ls' := #[.val (.int a), .val (.long e), .second, .val (.int b), .val (.int pp), .val (.long qq), .second, .val (.ref obj), .val (.int (1 : Int32)), .val (.int (1 : Int32)), .unset, .unset, .unset, .unset, .unset, .unset, .unset]) rfl ?_
    refine Go.iconst (pc' := 57) at_56 rfl (z := (0 : Int32)) (by decide) ?_
    refine Go.istore (pc' := 59) at_57 rfl (Ls' := #[.val (.int a), .val (.long e), .second, .val (.int b), .val (.int pp), .val (.long qq), .second, .val (.ref obj), .val (.int (1 : Int32)), .val (.int (1 : Int32)), .unset, .val (.int (0 : Int32)), .unset, .unset, .unset, .unset, .unset]) rfl ?_
    refine Go.lconst (pc' := 60) at_59 rfl (z := (0 : Int64)) (by decide) ?_
    refine Go.lstore (pc' := 62) at_60 rfl (Ls' := #[.val (.int a), .val (.long e), .second, .val (.int b), .val (.int pp), .val (.long qq), .second, .val (.ref obj), .val (.int (1 : Int32)), .val (.int (1 : Int32)), .unset, .val (.int (0 : Int32)), .val (.long (0 : Int64)), .second, .unset, .unset, .unset]) rfl ?_
    refine Go.iconst (pc' := 63) at_62 rfl (z := (0 : Int32)) (by decide) ?_
    refine Go.istore (pc' := 65) at_63 rfl (Ls' := #[.val (.int a), .val (.long e), .second, .val (.int b), .val (.int pp), .val (.long qq), .second, .val (.ref obj), .val (.int (1 : Int32)), .val (.int (1 : Int32)), .unset, .val (.int (0 : Int32)), .val (.long (0 : Int64)), .second, .val (.int (0 : Int32)), .unset, .unset]) rfl ?_
    refine Go.lconst (pc' := 66) at_65 rfl (z := (0 : Int64)) (by decide) ?_
    refine Go.lstore (pc' := 68) at_66 rfl (Ls' := #[.val (.int a), .val (.long e), .second, .val (.int b), .val (.int pp), .val (.long qq), .second, .val (.ref obj), .val (.int (1 : Int32)), .val (.int (1 : Int32)), .unset, .val (.int (0 : Int32)), .val (.long (0 : Int64)), .second, .val (.int (0 : Int32)), .val (.long (0 : Int64)), .second]) rfl ?_
    refine Go.iload (pc' := 70) at_68 rfl rfl ?_
    refine Go.ifF (pc' := 73) (X := (1 : Int)) at_70 rfl (by decide) (by decide : ¬ (1 : Int) = 0) ?_
    refine Go.iload (pc' := 75) at_73 rfl rfl ?_
    refine Go.ifF (pc' := 78) (X := (1 : Int)) at_75 rfl (by decide) (by decide : ¬ (1 : Int) = 0) ?_
    refine Go.iloadN (pc' := 79) at_78 rfl rfl ?_
    refine Go.iloadN (pc' := 80) at_79 rfl rfl ?_
    refine Go.icmpF (pc' := 83) (X := a.toInt) (Y := b.toInt) at_80 rfl rfl rfl (by omega : b.toInt < a.toInt) ?_
    refine Go.lloadN (pc' := 84) at_83 rfl rfl ?_
    refine Go.ldc2 (pc' := 87) at_84 rfl (hw _ w28) ?_
    refine Go.lcmpF (pc' := 91) (X := e.toInt) (Y := (9223372036854775807 : Int)) at_87 at_88 rfl rfl rfl (by decide) (by omega : e.toInt < (9223372036854775807 : Int)) ?_
    refine Go.iconst (pc' := 92) at_91 rfl (z := (2 : Int32)) (by decide) ?_
    refine Go.istore (pc' := 94) at_92 rfl (Ls' := #[.val (.int a), .val (.long e), .second, .val (.int b), .val (.int pp), .val (.long qq), .second, .val (.ref obj), .val (.int (1 : Int32)), .val (.int (1 : Int32)), .val (.int (2 : Int32)), .val (.int (0 : Int32)), .val (.long (0 : Int64)), .second, .val (.int (0 : Int32)), .val (.long (0 : Int64)), .second]) rfl ?_
    refine Go.iloadN (pc' := 95) at_94 rfl rfl ?_
    refine Go.istore (pc' := 97) at_95 rfl (Ls' := #[.val (.int a), .val (.long e), .second, .val (.int b), .val (.int pp), .val (.long qq), .second, .val (.ref obj), .val (.int (1 : Int32)), .val (.int (1 : Int32)), .val (.int (2 : Int32)), .val (.int a), .val (.long (0 : Int64)), .second, .val (.int (0 : Int32)), .val (.long (0 : Int64)), .second]) rfl ?_
    refine Go.lloadN (pc' := 98) at_97 rfl rfl ?_
    refine Go.lstore (pc' := 100) at_98 rfl (Ls' := #[.val (.int a), .val (.long e), .second, .val (.int b), .val (.int pp), .val (.long qq), .second, .val (.ref obj), .val (.int (1 : Int32)), .val (.int (1 : Int32)), .val (.int (2 : Int32)), .val (.int a), .val (.long e), .second, .val (.int (0 : Int32)), .val (.long (0 : Int64)), .second]) rfl ?_
    refine Go.iloadN (pc' := 101) at_100 rfl rfl ?_
    refine Go.istore (pc' := 103) at_101 rfl (Ls' := #[.val (.int a), .val (.long e), .second, .val (.int b), .val (.int pp), .val (.long qq), .second, .val (.ref obj), .val (.int (1 : Int32)), .val (.int (1 : Int32)), .val (.int (2 : Int32)), .val (.int a), .val (.long e), .second, .val (.int b), .val (.long (0 : Int64)), .second]) rfl ?_
    refine Go.ldc2 (pc' := 106) at_103 rfl (hw _ w28) ?_
    refine Go.lstore (pc' := 108) at_106 rfl (Ls' := #[.val (.int a), .val (.long e), .second, .val (.int b), .val (.int pp), .val (.long qq), .second, .val (.ref obj), .val (.int (1 : Int32)), .val (.int (1 : Int32)), .val (.int (2 : Int32)), .val (.int a), .val (.long e), .second, .val (.int b), .val (.long (9223372036854775807 : Int64)), .second]) rfl ?_
    refine Go.goto (pc' := 183) at_108 (by decide) ?_
    refine Go.aload (pc' := 185) at_183 rfl rfl rfl ?_
    refine Go.callV0 (pc' := 188) (W := 0) (a := obj) (argsL := []) (rest := []) (v0 := some (.int (2 : Int32))) (st2 := [(.int (2 : Int32))]) at_185 rfl (hw _ w29) (hw _ w30) (nf_sel (hw _ w32)) (hw _ w32) (hw _ w31) (hw _ w2) (hw _ w33) E_obj (by decide) (c_count hw obj u d (2 : Int32) a b e (9223372036854775807 : Int64) ne_u_d E_obj F_obj_units F_obj_durations F_obj_count A_u A_d) (by decide) (by decide) rfl rfl rfl (by decide) (by decide) rfl pd__28_29I rfl rfl (Nat.le_of_eq rfl) ?_
    refine Go.iload (pc' := 190) at_188 rfl rfl ?_
    refine Go.icmpT (pc' := 195) (X := (2 : Int)) (Y := (2 : Int)) at_190 (by decide) (by decide) (by decide) (by decide : (2 : Int) = (2 : Int)) ?_
    refine Go.iload (pc' := 197) at_195 rfl rfl ?_
    refine Go.iconst (pc' := 198) at_197 rfl (z := (1 : Int32)) (by decide) ?_
    refine Go.icmpF (pc' := 201) (X := (2 : Int)) (Y := (1 : Int)) at_198 rfl (by decide) (by decide) (by decide : ¬ (2 : Int) < (1 : Int)) ?_
    refine Go.aload (pc' := 203) at_201 rfl rfl rfl ?_
    refine Go.iconst (pc' := 204) at_203 rfl (z := (0 : Int32)) (by decide) ?_
    refine Go.callV0 (pc' := 207) (W := 0) (a := obj) (argsL := [(.int (0 : Int32))]) (rest := []) (v0 := some (.int a)) (st2 := [(.int a)]) at_204 rfl (hw _ w34) (hw _ w35) (nf_sel (hw _ w37)) (hw _ w37) (hw _ w36) (hw _ w2) (hw _ w38) E_obj (by decide) (c_units hw obj u d (2 : Int32) a b e (9223372036854775807 : Int64) (0 : Int32) 0 a ne_u_d E_obj F_obj_units F_obj_durations F_obj_count A_u A_d (by decide) (by decide) (by decide) rfl) (by decide) (by decide) rfl rfl rfl (by decide) (by decide) rfl pd__28I_29I rfl rfl (Nat.le_of_eq rfl) ?_
    refine Go.iload (pc' := 209) at_207 rfl rfl ?_
    refine Go.icmpF (pc' := 212) (X := a.toInt) (Y := a.toInt) at_209 rfl rfl rfl (rfl : a.toInt = a.toInt) ?_
    refine Go.aload (pc' := 214) at_212 rfl rfl rfl ?_
    refine Go.iconst (pc' := 215) at_214 rfl (z := (0 : Int32)) (by decide) ?_
    refine Go.callV0 (pc' := 218) (W := 0) (a := obj) (argsL := [(.int (0 : Int32))]) (rest := []) (v0 := some (.long e)) (st2 := [(.long e)]) at_215 rfl (hw _ w51) (hw _ w52) (nf_sel (hw _ w54)) (hw _ w54) (hw _ w53) (hw _ w2) (hw _ w55) E_obj (by decide) (c_dur hw obj u d (2 : Int32) a b e (9223372036854775807 : Int64) (0 : Int32) 0 e ne_u_d E_obj F_obj_units F_obj_durations F_obj_count A_u A_d (by decide) (by decide) (by decide) rfl) (by decide) (by decide) rfl rfl rfl (by decide) (by decide) rfl pd__28I_29J rfl rfl (Nat.le_of_eq rfl) ?_
    refine Go.lload (pc' := 220) at_218 rfl rfl ?_
    refine Go.lcmpT (pc' := 226) (X := e.toInt) (Y := e.toInt) at_220 at_221 rfl (by decide) rfl rfl (rfl : e.toInt = e.toInt) ?_
    refine Go.iload (pc' := 228) at_226 rfl rfl ?_
    refine Go.iconst (pc' := 229) at_228 rfl (z := (2 : Int32)) (by decide) ?_
    refine Go.icmpF (pc' := 232) (X := (2 : Int)) (Y := (2 : Int)) at_229 rfl (by decide) (by decide) (by decide : ¬ (2 : Int) < (2 : Int)) ?_
    refine Go.aload (pc' := 234) at_232 rfl rfl rfl ?_
    refine Go.iconst (pc' := 235) at_234 rfl (z := (1 : Int32)) (by decide) ?_
    refine Go.callV0 (pc' := 238) (W := 0) (a := obj) (argsL := [(.int (1 : Int32))]) (rest := []) (v0 := some (.int b)) (st2 := [(.int b)]) at_235 rfl (hw _ w34) (hw _ w35) (nf_sel (hw _ w37)) (hw _ w37) (hw _ w36) (hw _ w2) (hw _ w38) E_obj (by decide) (c_units hw obj u d (2 : Int32) a b e (9223372036854775807 : Int64) (1 : Int32) 1 b ne_u_d E_obj F_obj_units F_obj_durations F_obj_count A_u A_d (by decide) (by decide) (by decide) rfl) (by decide) (by decide) rfl rfl rfl (by decide) (by decide) rfl pd__28I_29I rfl rfl (Nat.le_of_eq rfl) ?_
    refine Go.iload (pc' := 240) at_238 rfl rfl ?_
    refine Go.icmpF (pc' := 243) (X := b.toInt) (Y := b.toInt) at_240 rfl rfl rfl (rfl : b.toInt = b.toInt) ?_
    refine Go.aload (pc' := 245) at_243 rfl rfl rfl ?_
    refine Go.iconst (pc' := 246) at_245 rfl (z := (1 : Int32)) (by decide) ?_
    refine Go.callV0 (pc' := 249) (W := 0) (a := obj) (argsL := [(.int (1 : Int32))]) (rest := []) (v0 := some (.long (9223372036854775807 : Int64))) (st2 := [(.long (9223372036854775807 : Int64))]) at_246 rfl (hw _ w51) (hw _ w52) (nf_sel (hw _ w54)) (hw _ w54) (hw _ w53) (hw _ w2) (hw _ w55) E_obj (by decide) (c_dur hw obj u d (2 : Int32) a b e (9223372036854775807 : Int64) (1 : Int32) 1 (9223372036854775807 : Int64) ne_u_d E_obj F_obj_units F_obj_durations F_obj_count A_u A_d (by decide) (by decide) (by decide) rfl) (by decide) (by decide) rfl rfl rfl (by decide) (by decide) rfl pd__28I_29J rfl rfl (Nat.le_of_eq rfl) ?_
    refine Go.lload (pc' := 251) at_249 rfl rfl ?_
    refine Go.lcmpT (pc' := 257) (X := (9223372036854775807 : Int)) (Y := (9223372036854775807 : Int)) at_251 at_252 rfl (by decide) (by decide) (by decide) (by decide : (9223372036854775807 : Int) = (9223372036854775807 : Int)) ?_
    refine Go.iconst (pc' := 258) at_257 rfl (z := (1 : Int32)) (by decide) ?_
    refine Go.retZ at_258 rfl (by decide) (by decide) (by decide) ?_
    exact ⟨rfl, N0⟩
  · have _ := k1
    refine Go.iloadN (pc' := 27) at_26 rfl rfl ?_
    refine Go.iconst (pc' := 28) at_27 rfl (z := (1 : Int32)) (by decide) ?_
    by_cases hc6 : a.toInt < (1 : Int)
    · refine Go.icmpT (pc' := 41) (X := a.toInt) (Y := (1 : Int)) at_28 (by decide) rfl (by decide) (hc6 : a.toInt < (1 : Int)) ?_
      refine Go.iconst (pc' := 42) at_41 rfl (z := (0 : Int32)) (by decide) ?_
      refine Go.istore (pc' := 44) at_42 rfl (Ls' := #[.val (.int a), .val (.long e), .second, .val (.int b), .val (.int pp), .val (.long qq), .second, .val (.ref obj), .val (.int (0 : Int32)), .unset, .unset, .unset, .unset, .unset, .unset, .unset, .unset]) rfl ?_
      refine Go.iloadN (pc' := 45) at_44 rfl rfl ?_
      refine Go.iconst (pc' := 46) at_45 rfl (z := (1 : Int32)) (by decide) ?_
      refine Go.icmpT (pc' := 53) (X := b.toInt) (Y := (1 : Int)) at_46 (by decide) rfl (by decide) (by omega : b.toInt < (1 : Int)) ?_
      refine Go.iconst (pc' := 54) at_53 rfl (z := (0 : Int32)) (by decide) ?_
      refine Go.istore (pc' := 56) at_54 rfl (Ls' := #[.val (.int a), .val (.long e), .second, .val (.int b), .val (.int pp), .val (.long qq), .second, .val (.ref obj), .val (.int (0 : Int32)), .val (.int (0 : Int32)), .unset, .unset, .unset, .unset, .unset, .unset, .unset]) rfl ?_
      refine Go.iconst (pc' := 57) at_56 rfl (z := (0 : Int32)) (by decide) ?_
      refine Go.istore (pc' := 59) at_57 rfl (Ls' := #[.val (.int a), .val (.long e), .second, .val (.int b), .val (.int pp), .val (.long qq), .second, .val (.ref obj), .val (.int (0 : Int32)), .val (.int (0 : Int32)), .unset, .val (.int (0 : Int32)), .unset, .unset, .unset, .unset, .unset]) rfl ?_
      refine Go.lconst (pc' := 60) at_59 rfl (z := (0 : Int64)) (by decide) ?_
      refine Go.lstore (pc' := 62) at_60 rfl (Ls' := #[.val (.int a), .val (.long e), .second, .val (.int b), .val (.int pp), .val (.long qq), .second, .val (.ref obj), .val (.int (0 : Int32)), .val (.int (0 : Int32)), .unset, .val (.int (0 : Int32)), .val (.long (0 : Int64)), .second, .unset, .unset, .unset]) rfl ?_
      refine Go.iconst (pc' := 63) at_62 rfl (z := (0 : Int32)) (by decide) ?_
      refine Go.istore (pc' := 65) at_63 rfl (Ls' := #[.val (.int a), .val (.long e), .second, .val (.int b), .val (.int pp), .val (.long qq), .second, .val (.ref obj), .val (.int (0 : Int32)), .val (.int (0 : Int32)), .unset, .val (.int (0 : Int32)), .val (.long (0 : Int64)), .second, .val (.int (0 : Int32)), .unset, .unset]) rfl ?_
      refine Go.lconst (pc' := 66) at_65 rfl (z := (0 : Int64)) (by decide) ?_
      refine Go.lstore (pc' := 68) at_66 rfl (Ls' := #[.val (.int a), .val (.long e), .second, .val (.int b), .val (.int pp), .val (.long qq), .second, .val (.ref obj), .val (.int (0 : Int32)), .val (.int (0 : Int32)), .unset, .val (.int (0 : Int32)), .val (.long (0 : Int64)), .second, .val (.int (0 : Int32)), .val (.long (0 : Int64)), .second]) rfl ?_
      refine Go.iload (pc' := 70) at_68 rfl rfl ?_
      refine Go.ifT (pc' := 144) (X := (0 : Int)) at_70 (by decide) (by decide) (by decide : (0 : Int) = 0) ?_
      refine Go.iload (pc' := 146) at_144 rfl rfl ?_
      refine Go.ifT (pc' := 161) (X := (0 : Int)) at_146 (by decide) (by decide) (by decide : (0 : Int) = 0) ?_
      refine Go.iload (pc' := 163) at_161 rfl rfl ?_
      refine Go.ifT (pc' := 180) (X := (0 : Int)) at_163 (by decide) (by decide) (by decide : (0 : Int) = 0) ?_
      refine Go.iconst (pc' := 181) at_180 rfl (z := (0 : Int32)) (by decide) ?_
      refine Go.istore (pc' := 183) at_181 rfl (Ls' := #[.val (.int a), .val (.long e), .second, .val (.int b), .val (.int pp), .val (.long qq), .second, .val (.ref obj), .val (.int (0 : Int32)), .val (.int (0 : Int32)), .val (.int (0 : Int32)), .val (.int (0 : Int32)), .val (.long (0 : Int64)), .second, .val (.int (0 : Int32)), .val (.long (0 : Int64)), .second]) rfl ?_
      refine Go.aload (pc' := 185) at_183 rfl rfl rfl ?_
      refine Go.callV0 (pc' := 188) (W := 0) (a := obj) (argsL := []) (rest := []) (v0 := some (.int (0 : Int32))) (st2 := [(.int (0 : Int32))]) at_185 rfl (hw _ w29) (hw _ w30) (nf_sel (hw _ w32)) (hw _ w32) (hw _ w31) (hw _ w2) (hw _ w33) E_obj (by decide) (c_count hw obj u d (0 : Int32) u0 u1 d0 d1 ne_u_d E_obj F_obj_units F_obj_durations F_obj_count A_u A_d) (by decide) (by decide) rfl rfl rfl (by decide) (by decide) rfl pd__28_29I rfl rfl (Nat.le_of_eq rfl) ?_
      refine Go.iload (pc' := 190) at_188 rfl rfl ?_
      refine Go.icmpT (pc' := 195) (X := (0 : Int)) (Y := (0 : Int)) at_190 (by decide) (by decide) (by decide) (by decide : (0 : Int) = (0 : Int)) ?_
      refine Go.iload (pc' := 197) at_195 rfl rfl ?_
      refine Go.iconst (pc' := 198) at_197 rfl (z := (1 : Int32)) (by decide) ?_
      refine Go.icmpT (pc' := 226) (X := (0 : Int)) (Y := (1 : Int)) at_198 (by decide) (by decide) (by decide) (by decide : (0 : Int) < (1 : Int)) ?_
      refine Go.iload (pc' := 228) at_226 rfl rfl ?_
      refine Go.iconst (pc' := 229) at_228 rfl (z := (2 : Int32)) (by decide) ?_
      refine Go.icmpT (pc' := 257) (X := (0 : Int)) (Y := (2 : Int)) at_229 (by decide) (by decide) (by decide) (by decide : (0 : Int) < (2 : Int)) ?_
      refine Go.iconst (pc' := 258) at_257 rfl (z := (1 : Int32)) (by decide) ?_
      refine Go.retZ at_258 rfl (by decide) (by decide) (by decide) ?_
      exact ⟨rfl, N0⟩
    · refine Go.icmpF (pc' := 31) (X := a.toInt) (Y := (1 : Int)) at_28 rfl rfl (by decide) (hc6 : ¬ a.toInt < (1 : Int)) ?_
      refine Go.lloadN (pc' := 32) at_31 rfl rfl ?_
      refine Go.lconst (pc' := 33) at_32 rfl (z := (1 : Int64)) (by decide) ?_
      by_cases hc7 : e.toInt < (1 : Int)
      · refine Go.lcmpT (pc' := 41) (X := e.toInt) (Y := (1 : Int)) at_33 at_34 rfl (by decide) rfl (by decide) (hc7 : e.toInt < (1 : Int)) ?_
        refine Go.iconst (pc' := 42) at_41 rfl (z := (0 : Int32)) (by decide) ?_
        refine Go.istore (pc' := 44) at_42 rfl (Ls' := #[.val (.int a), .val (.long e), .second, .val (.int b), .val (.int pp), .val (.long qq), .second, .val (.ref obj), .val (.int (0 : Int32)), .unset, .unset, .unset, .unset, .unset, .unset, .unset, .unset]) rfl ?_
        refine Go.iloadN (pc' := 45) at_44 rfl rfl ?_
        refine Go.iconst (pc' := 46) at_45 rfl (z := (1 : Int32)) (by decide) ?_
        refine Go.icmpT (pc' := 53) (X := b.toInt) (Y := (1 : Int)) at_46 (by decide) rfl (by decide) (by omega : b.toInt < (1 : Int)) ?_
        refine Go.iconst (pc' := 54) at_53 rfl (z := (0 : Int32)) (by decide) ?_
        refine Go.istore (pc' := 56) at_54 rfl (Ls' := #[.val (.int a), .val (.long e), .second, .val (.int b), .val (.int pp), .val (.long qq), .second, .val (.ref obj), .val (.int (0 : Int32)), .val (.int (0 : Int32)), .unset, .unset, .unset, .unset, .unset, .unset, .unset]) rfl ?_
        refine Go.iconst (pc' := 57) at_56 rfl (z := (0 : Int32)) (by decide) ?_
        refine Go.istore (pc' := 59) at_57 rfl (Ls' := #[.val (.int a), .val (.long e), .second, .val (.int b), .val (.int pp), .val (.long qq), .second, .val (.ref obj), .val (.int (0 : Int32)), .val (.int (0 : Int32)), .unset, .val (.int (0 : Int32)), .unset, .unset, .unset, .unset, .unset]) rfl ?_
        refine Go.lconst (pc' := 60) at_59 rfl (z := (0 : Int64)) (by decide) ?_
        refine Go.lstore (pc' := 62) at_60 rfl (Ls' := #[.val (.int a), .val (.long e), .second, .val (.int b), .val (.int pp), .val (.long qq), .second, .val (.ref obj), .val (.int (0 : Int32)), .val (.int (0 : Int32)), .unset, .val (.int (0 : Int32)), .val (.long (0 : Int64)), .second, .unset, .unset, .unset]) rfl ?_
        refine Go.iconst (pc' := 63) at_62 rfl (z := (0 : Int32)) (by decide) ?_
        refine Go.istore (pc' := 65) at_63 rfl (Ls' := #[.val (.int a), .val (.long e), .second, .val (.int b), .val (.int pp), .val (.long qq), .second, .val (.ref obj), .val (.int (0 : Int32)), .val (.int (0 : Int32)), .unset, .val (.int (0 : Int32)), .val (.long (0 : Int64)), .second, .val (.int (0 : Int32)), .unset, .unset]) rfl ?_
        refine Go.lconst (pc' := 66) at_65 rfl (z := (0 : Int64)) (by decide) ?_
        refine Go.lstore (pc' := 68) at_66 rfl (Ls' := #[.val (.int a), .val (.long e), .second, .val (.int b), .val (.int pp), .val (.long qq), .second, .val (.ref obj), .val (.int (0 : Int32)), .val (.int (0 : Int32)), .unset, .val (.int (0 : Int32)), .val (.long (0 : Int64)), .second, .val (.int (0 : Int32)), .val (.long (0 : Int64)), .second]) rfl ?_
        refine Go.iload (pc' := 70) at_68 rfl rfl ?_
        refine Go.ifT (pc' := 144) (X := (0 : Int)) at_70 (by decide) (by decide) (by decide : (0 : Int) = 0) ?_
        refine Go.iload (pc' := 146) at_144 rfl rfl ?_
        refine Go.ifT (pc' := 161) (X := (0 : Int)) at_146 (by decide) (by decide) (by decide : (0 : Int) = 0) ?_
        refine Go.iload (pc' := 163) at_161 rfl rfl ?_
        refine Go.ifT (pc' := 180) (X := (0 : Int)) at_163 (by decide) (by decide) (by decide : (0 : Int) = 0) ?_
        refine Go.iconst (pc' := 181) at_180 rfl (z := (0 : Int32)) (by decide) ?_
        refine Go.istore (pc' := 183) at_181 rfl (Ls' := #[.val (.int a), .val (.long e), .second, .val (.int b), .val (.int pp), .val (.long qq), .second, .val (.ref obj), .val (.int (0 : Int32)), .val (.int (0 : Int32)), .val (.int (0 : Int32)), .val (.int (0 : Int32)), .val (.long (0 : Int64)), .second, .val (.int (0 : Int32)), .val (.long (0 : Int64)), .second]) rfl ?_
        refine Go.aload (pc' := 185) at_183 rfl rfl rfl ?_
        refine Go.callV0 (pc' := 188) (W := 0) (a := obj) (argsL := []) (rest := []) (v0 := some (.int (0 : Int32))) (st2 := [(.int (0 : Int32))]) at_185 rfl (hw _ w29) (hw _ w30) (nf_sel (hw _ w32)) (hw _ w32) (hw _ w31) (hw _ w2) (hw _ w33) E_obj (by decide) (c_count hw obj u d (0 : Int32) u0 u1 d0 d1 ne_u_d E_obj F_obj_units F_obj_durations F_obj_count A_u A_d) (by decide) (by decide) rfl rfl rfl (by decide) (by decide) rfl pd__28_29I rfl rfl (Nat.le_of_eq rfl) ?_
        refine Go.iload (pc' := 190) at_188 rfl rfl ?_
        refine Go.icmpT (pc' := 195) (X := (0 : Int)) (Y := (0 : Int)) at_190 (by decide) (by decide) (by decide) (by decide : (0 : Int) = (0 : Int)) ?_
        refine Go.iload (pc' := 197) at_195 rfl rfl ?_
        refine Go.iconst (pc' := 198) at_197 rfl (z := (1 : Int32)) (by decide) ?_
        refine Go.icmpT (pc' := 226) (X := (0 : Int)) (Y := (1 : Int)) at_198 (by decide) (by decide) (by decide) (by decide : (0 : Int) < (1 : Int)) ?_
        refine Go.iload (pc' := 228) at_226 rfl rfl ?_
        refine Go.iconst (pc' := 229) at_228 rfl (z := (2 : Int32)) (by decide) ?_
        refine Go.icmpT (pc' := 257) (X := (0 : Int)) (Y := (2 : Int)) at_229 (by decide) (by decide) (by decide) (by decide : (0 : Int) < (2 : Int)) ?_
        refine Go.iconst (pc' := 258) at_257 rfl (z := (1 : Int32)) (by decide) ?_
        refine Go.retZ at_258 rfl (by decide) (by decide) (by decide) ?_
        exact ⟨rfl, N0⟩
      · refine Go.lcmpF (pc' := 37) (X := e.toInt) (Y := (1 : Int)) at_33 at_34 rfl rfl rfl (by decide) (hc7 : ¬ e.toInt < (1 : Int)) ?_
        refine Go.iconst (pc' := 38) at_37 rfl (z := (1 : Int32)) (by decide) ?_
        refine Go.goto (pc' := 42) at_38 (by decide) ?_
        refine Go.istore (pc' := 44) at_42 rfl (Ls' := #[.val (.int a), .val (.long e), .second, .val (.int b), .val (.int pp), .val (.long qq), .second, .val (.ref obj), .val (.int (1 : Int32)), .unset, .unset, .unset, .unset, .unset, .unset, .unset, .unset]) rfl ?_
        refine Go.iloadN (pc' := 45) at_44 rfl rfl ?_
        refine Go.iconst (pc' := 46) at_45 rfl (z := (1 : Int32)) (by decide) ?_
        refine Go.icmpT (pc' := 53) (X := b.toInt) (Y := (1 : Int)) at_46 (by decide) rfl (by decide) (by omega : b.toInt < (1 : Int)) ?_
        refine Go.iconst (pc' := 54) at_53 rfl (z := (0 : Int32)) (by decide) ?_
        refine Go.istore (pc' := 56) at_54 rfl (Ls' := #[.val (.int a), .val (.long e), .second, .val (.int b), .val (.int pp), .val (.long qq), .second, .val (.ref obj), .val (.int (1 : Int32)), .val (.int (0 : Int32)), .unset, .unset, .unset, .unset, .unset, .unset, .unset]) rfl ?_
        refine Go.iconst (pc' := 57) at_56 rfl (z := (0 : Int32)) (by decide) ?_
        refine Go.istore (pc' := 59) at_57 rfl (Ls' := #[.val (.int a), .val (.long e), .second, .val (.int b), .val (.int pp), .val (.long qq), .second, .val (.ref obj), .val (.int (1 : Int32)), .val (.int (0 : Int32)), .unset, .val (.int (0 : Int32)), .unset, .unset, .unset, .unset, .unset]) rfl ?_
        refine Go.lconst (pc' := 60) at_59 rfl (z := (0 : Int64)) (by decide) ?_
        refine Go.lstore (pc' := 62) at_60 rfl (Ls' := #[.val (.int a), .val (.long e), .second, .val (.int b), .val (.int pp), .val (.long qq), .second, .val (.ref obj), .val (.int (1 : Int32)), .val (.int (0 : Int32)), .unset, .val (.int (0 : Int32)), .val (.long (0 : Int64)), .second, .unset, .unset, .unset]) rfl ?_
        refine Go.iconst (pc' := 63) at_62 rfl (z := (0 : Int32)) (by decide) ?_
        refine Go.istore (pc' := 65) at_63 rfl (Ls' := #[.val (.int a), .val (.long e), .second, .val (.int b), .val (.int pp), .val (.long qq), .second, .val (.ref obj), .val (.int (1 : Int32)), .val (.int (0 : Int32)), .unset, .val (.int (0 : Int32)), .val (.long (0 : Int64)), .second, .val (.int (0 : Int32)), .unset, .unset]) rfl ?_
        refine Go.lconst (pc' := 66) at_65 rfl (z := (0 : Int64)) (by decide) ?_
        refine Go.lstore (pc' := 68) at_66 rfl (Ls' := #[.val (.int a), .val (.long e), .second, .val (.int b), .val (.int pp), .val (.long qq), .second, .val (.ref obj), .val (.int (1 : Int32)), .val (.int (0 : Int32)), .unset, .val (.int (0 : Int32)), .val (.long (0 : Int64)), .second, .val (.int (0 : Int32)), .val (.long (0 : Int64)), .second]) rfl ?_
        refine Go.iload (pc' := 70) at_68 rfl rfl ?_
        refine Go.ifF (pc' := 73) (X := (1 : Int)) at_70 rfl (by decide) (by decide : ¬ (1 : Int) = 0) ?_
        refine Go.iload (pc' := 75) at_73 rfl rfl ?_
        refine Go.ifT (pc' := 144) (X := (0 : Int)) at_75 (by decide) (by decide) (by decide : (0 : Int) = 0) ?_
        refine Go.iload (pc' := 146) at_144 rfl rfl ?_
        refine Go.ifF (pc' := 149) (X := (1 : Int)) at_146 rfl (by decide) (by decide : ¬ (1 : Int) = 0) ?_
        refine Go.iconst (pc' := 150) at_149 rfl (z := (1 : Int32)) (by decide) ?_
        refine Go.istore (pc' := 152) at_150 rfl (Ls' := #[.val (.int a), .val (.long e), .second, .val (.int b), .val (.int pp), .val (.long qq), .second, .val (.ref obj), .val (.int (1 : Int32)), .val (.int (0 : Int32)), .val (.int (1 : Int32)), .val (.int (0 : Int32)), .val (.long (0 : Int64)), .second, .val (.int (0 : Int32)), .val (.long (0 : Int64)), .second]) rfl ?_
        refine Go.iloadN (pc' := 153) at_152 rfl rfl ?_
        refine Go.istore (pc' := 155) at_153 rfl (Ls' := #[.val (.int a), .val (.long e), .second, .val (.int b), .val (.int pp), .val (.long qq), .second, .val (.ref obj), .val (.int (1 : Int32)), .val (.int (0 : Int32)), .val (.int (1 : Int32)), .val (.int a), .val (.long (0 : Int64)), .second, .val (.int (0 : Int32)), .val (.long (0 : Int64)), .second]) rfl ?_
        refine Go.lloadN (pc' := 156) at_155 rfl rfl ?_
        refine Go.lstore (pc' := 158) at_156 rfl (Ls' := #[.val (.int a), .val (.long e), .second, .val (.int b), .val (.int pp), .val (.long qq), .second, .val (.ref obj), .val (.int (1 : Int32)), .val (.int (0 : Int32)), .val (.int (1 : Int32)), .val (.int a), .val (.long e), .second, .val (.int (0 : Int32)), .val (.long (0 : Int64)), .second]) rfl ?_
        refine Go.goto (pc' := 183) at_158 (by decide) ?_
        refine Go.aload (pc' := 185) at_183 rfl rfl rfl ?_
        refine Go.callV0 (pc' := 188) (W := 0) (a := obj) (argsL := []) (rest := []) (v0 := some (.int (0 : Int32))) (st2 := [(.int (0 : Int32))]) at_185 rfl (hw _ w29) (hw _ w30) (nf_sel (hw _ w32)) (hw _ w32) (hw _ w31) (hw _ w2) (hw _ w33) E_obj (by decide) (c_count hw obj u d (0 : Int32) u0 u1 d0 d1 ne_u_d E_obj F_obj_units F_obj_durations F_obj_count A_u A_d) (by decide) (by decide) rfl rfl rfl (by decide) (by decide) rfl pd__28_29I rfl rfl (Nat.le_of_eq rfl) ?_
        refine Go.iload (pc' := 190) at_188 rfl rfl ?_
        refine Go.icmpF (pc' := 193) (X := (0 : Int)) (Y := (1 : Int)) at_190 rfl (by decide) (by decide) (by decide : ¬ (0 : Int) = (1 : Int)) ?_
        refine Go.iconst (pc' := 194) at_193 rfl (z := (0 : Int32)) (by decide) ?_
        refine Go.retZ at_194 rfl (by decide) (by decide) (by decide) ?_
        exfalso; omega
  · have _ := k1
    refine Go.iloadN (pc' := 27) at_26 rfl rfl ?_
    refine Go.iconst (pc' := 28) at_27 rfl (z := (1 : Int32)) (by decide) ?_
    by_cases hc8 : a.toInt < (1 : Int)
    · refine Go.icmpT (pc' := 41) (X := a.toInt) (Y := (1 : Int)) at_28 (by decide) rfl (by decide) (hc8 : a.toInt < (1 : Int)) ?_
      refine Go.iconst (pc' := 42) at_41 rfl (z := (0 : Int32)) (by decide) ?_
      refine Go.istore (pc' := 44) at_42 rfl (Ls' := #[.val (.int a), .val (.long e), .second, .val (.int b), .val (.int pp), .val (.long qq), .second, .val (.ref obj), .val (.int (0 : Int32)), .unset, .unset, .unset, .unset, .unset, .unset, .unset, .unset]) rfl ?_
      refine Go.iloadN (pc' := 45) at_44 rfl rfl ?_
      refine Go.iconst (pc' := 46) at_45 rfl (z := (1 : Int32)) (by decide) ?_
      refine Go.icmpF (pc' := 49) (X := b.toInt) (Y := (1 : Int)) at_46 rfl rfl (by decide) (by omega : ¬ b.toInt < (1 : Int)) ?_
      refine Go.iconst (pc' := 50) at_49 rfl (z := (1 : Int32)) (by decide) ?_
      refine Go.goto (pc' := 54) at_50 (by decide) ?_
      refine Go.istore (pc' := 56) at_54 rfl (Ls' := #[.val (.int a), .val (.long e), .second, .val (.int b), .val (.int pp), .val (.long qq), .second, .val (.ref obj), .val (.int (0 : Int32)), .val (.int (1 : Int32)), .unset, .unset, .unset, .unset, .unset, .unset, .unset]) rfl ?_
      refine Go.iconst (pc' := 57) at_56 rfl (z := (0 : Int32)) (by decide) ?_
      refine Go.istore (pc' := 59) at_57 rfl (Ls' := #[.val (.int a), .val (.long e), .second, .val (.int b), .val (.int pp), .val (.long qq), .second, .val (.ref obj), .val (.int (0 : Int32)), .val (.int (1 : Int32)), .unset, .val (.int (0 : Int32)), .unset, .unset, .unset, .unset, .unset]) rfl ?_
      refine Go.lconst (pc' := 60) at_59 rfl (z := (0 : Int64)) (by decide) ?_
      refine Go.lstore (pc' := 62) at_60 rfl (Ls' := #[.val (.int a), .val (.long e), .second, .val (.int b), .val (.int pp), .val (.long qq), .second, .val (.ref obj), .val (.int (0 : Int32)), .val (.int (1 : Int32)), .unset, .val (.int (0 : Int32)), .val (.long (0 : Int64)), .second, .unset, .unset, .unset]) rfl ?_
      refine Go.iconst (pc' := 63) at_62 rfl (z := (0 : Int32)) (by decide) ?_
      refine Go.istore (pc' := 65) at_63 rfl (Ls' := #[.val (.int a), .val (.long e), .second, .val (.int b), .val (.int pp), .val (.long qq), .second, .val (.ref obj), .val (.int (0 : Int32)), .val (.int (1 : Int32)), .unset, .val (.int (0 : Int32)), .val (.long (0 : Int64)), .second, .val (.int (0 : Int32)), .unset, .unset]) rfl ?_
      refine Go.lconst (pc' := 66) at_65 rfl (z := (0 : Int64)) (by decide) ?_
      refine Go.lstore (pc' := 68) at_66 rfl (Ls' := #[.val (.int a), .val (.long e), .second, .val (.int b), .val (.int pp), .val (.long qq), .second, .val (.ref obj), .val (.int (0 : Int32)), .val (.int (1 : Int32)), .unset, .val (.int (0 : Int32)), .val (.long (0 : Int64)), .second, .val (.int (0 : Int32)), .val (.long (0 : Int64)), .second]) rfl ?_
      refine Go.iload (pc' := 70) at_68 rfl rfl ?_
      refine Go.ifT (pc' := 144) (X := (0 : Int)) at_70 (by decide) (by decide) (by decide : (0 : Int) = 0) ?_
      refine Go.iload (pc' := 146) at_144 rfl rfl ?_
      refine Go.ifT (pc' := 161) (X := (0 : Int)) at_146 (by decide) (by decide) (by decide : (0 : Int) = 0) ?_
      refine Go.iload (pc' := 163) at_161 rfl rfl ?_
      refine Go.ifF (pc' := 166) (X := (1 : Int)) at_163 rfl (by decide) (by decide : ¬ (1 : Int) = 0) ?_
      refine Go.iconst (pc' := 167) at_166 rfl (z := (1 : Int32)) (by decide) ?_
      refine Go.istore (pc' := 169) at_167 rfl (Ls' := #[.val (.int a), .val (.long e), .second, .val (.int b), .val (.int pp), .val (.long qq), .second, .val (.ref obj), .val (.int (0 : Int32)), .val (.int (1 : Int32)), .val (.int (1 : Int32)), .val (.int (0 : Int32)), .val (.long (0 : Int64)), .second, .val (.int (0 : Int32)), .val (.long (0 : Int64)), .second]) rfl ?_
      refine Go.iloadN (pc' := 170) at_169 rfl rfl ?_
      refine Go.istore (pc' := 172) at_170 rfl (Ls' := #[.val (.int a), .val (.long e), .second, .val (.int b), .val (.int pp), .val (.long qq), .second, .val (.ref obj), .val (.int (0 : Int32)), .val (.int (1 : Int32)), .val (.int (1 : Int32)), .val (.int b), .val (.long (0 : Int64)), .second, .val (.int (0 : Int32)), .val (.long (0 : Int64)), .second]) rfl ?_
      refine Go.ldc2 (pc' := 175) at_172 rfl (hw _ w28) ?_
      refine Go.lstore (pc' := 177) at_175 rfl (Ls' := #[.val (.int a), .val (.long e), .second, .val (.int b), .val (.int pp), .val (.long qq), .second, .val (.ref obj), .val (.int (0 : Int32)), .val (.int (1 : Int32)), .val (.int (1 : Int32)), .val (.int b), .val (.long (9223372036854775807 : Int64)), .second, .val (.int (0 : Int32)), .val (.long (0 : Int64)), .second]) rfl ?_
      refine Go.goto (pc' := 183) at_177 (by decide) ?_
      refine Go.aload (pc' := 185) at_183 rfl rfl rfl ?_
      refine Go.callV0 (pc' := 188) (W := 0) (a := obj) (argsL := []) (rest := []) (v0 := some (.int (1 : Int32))) (st2 := [(.int (1 : Int32))]) at_185 rfl (hw _ w29) (hw _ w30) (nf_sel (hw _ w32)) (hw _ w32) (hw _ w31) (hw _ w2) (hw _ w33) E_obj (by decide) (c_count hw obj u d (1 : Int32) b u1 (9223372036854775807 : Int64) d1 ne_u_d E_obj F_obj_units F_obj_durations F_obj_count A_u A_d) (by decide) (by decide) rfl rfl rfl (by decide) (by decide) rfl pd__28_29I rfl rfl (Nat.le_of_eq rfl) ?_
      refine Go.iload (pc' := 190) at_188 rfl rfl ?_
      refine Go.icmpT (pc' := 195) (X := (1 : Int)) (Y := (1 : Int)) at_190 (by decide) (by decide) (by decide) (by decide : (1 : Int) = (1 : Int)) ?_
      refine Go.iload (pc' := 197) at_195 rfl rfl ?_
      refine Go.iconst (pc' := 198) at_197 rfl (z := (1 : Int32)) (by decide) ?_
      refine Go.icmpF (pc' := 201) (X := (1 : Int)) (Y := (1 : Int)) at_198 rfl (by decide) (by decide) (by decide : ¬ (1 : Int) < (1 : Int)) ?_
      refine Go.aload (pc' := 203) at_201 rfl rfl rfl ?_
      refine Go.iconst (pc' := 204) at_203 rfl (z := (0 : Int32)) (by decide) ?_
      refine Go.callV0 (pc' := 207) (W := 0) (a := obj) (argsL := [(.int (0 : Int32))]) (rest := []) (v0 := some (.int b)) (st2 := [(.int b)]) at_204 rfl (hw _ w34) (hw _ w35) (nf_sel (hw _ w37)) (hw _ w37) (hw _ w36) (hw _ w2) (hw _ w38) E_obj (by decide) (c_units hw obj u d (1 : Int32) b u1 (9223372036854775807 : Int64) d1 (0 : Int32) 0 b ne_u_d E_obj F_obj_units F_obj_durations F_obj_count A_u A_d (by decide) (by decide) (by decide) rfl) (by decide) (by decide) rfl rfl rfl (by decide) (by decide) rfl pd__28I_29I rfl rfl (Nat.le_of_eq rfl) ?_
      refine Go.iload (pc' := 209) at_207 rfl rfl ?_
      refine Go.icmpF (pc' := 212) (X := b.toInt) (Y := b.toInt) at_209 rfl rfl rfl (rfl : b.toInt = b.toInt) ?_
      refine Go.aload (pc' := 214) at_212 rfl rfl rfl ?_
      refine Go.iconst (pc' := 215) at_214 rfl (z := (0 : Int32)) (by decide) ?_
      refine Go.callV0 (pc' := 218) (W := 0) (a := obj) (argsL := [(.int (0 : Int32))]) (rest := []) (v0 := some (.long (9223372036854775807 : Int64))) (st2 := [(.long (9223372036854775807 : Int64))]) at_215 rfl (hw _ w51) (hw _ w52) (nf_sel (hw _ w54)) (hw _ w54) (hw _ w53) (hw _ w2) (hw _ w55) E_obj (by decide) (c_dur hw obj u d (1 : Int32) b u1 (9223372036854775807 : Int64) d1 (0 : Int32) 0 (9223372036854775807 : Int64) ne_u_d E_obj F_obj_units F_obj_durations F_obj_count A_u A_d (by decide) (by decide) (by decide) rfl) (by decide) (by decide) rfl rfl rfl (by decide) (by decide) rfl pd__28I_29J rfl rfl (Nat.le_of_eq rfl) ?_
      refine Go.lload (pc' := 220) at_218 rfl rfl ?_
      refine Go.lcmpT (pc' := 226) (X := (9223372036854775807 : Int)) (Y := (9223372036854775807 : Int)) at_220 at_221 rfl (by decide) (by decide) (by decide) (by decide : (9223372036854775807 : Int) = (9223372036854775807 : Int)) ?_
      refine Go.iload (pc' := 228) at_226 rfl rfl ?_
      refine Go.iconst (pc' := 229) at_228 rfl (z := (2 : Int32)) (by decide) ?_
      refine Go.icmpT (pc' := 257) (X := (1 : Int)) (Y := (2 : Int)) at_229 (by decide) (by decide) (by decide) (by decide : (1 : Int) < (2 : Int)) ?_
      refine Go.iconst (pc' := 258) at_257 rfl (z := (1 : Int32)) (by decide) ?_
      refine Go.retZ at_258 rfl (by decide) (by decide) (by decide) ?_
      exact ⟨rfl, N0⟩
    · refine Go.icmpF (pc' := 31) (X := a.toInt) (Y := (1 : Int)) at_28 rfl rfl (by decide) (hc8 : ¬ a.toInt < (1 : Int)) ?_
      refine Go.lloadN (pc' := 32) at_31 rfl rfl ?_
      refine Go.lconst (pc' := 33) at_32 rfl (z := (1 : Int64)) (by decide) ?_
      by_cases hc9 : e.toInt < (1 : Int)
      · refine Go.lcmpT (pc' := 41) (X := e.toInt) (Y := (1 : Int)) at_33 at_34 rfl (by decide) rfl (by decide) (hc9 : e.toInt < (1 : Int)) ?_
        refine Go.iconst (pc' := 42) at_41 rfl (z := (0 : Int32)) (by decide) ?_
        refine Go.istore (pc' := 44) at_42 rfl (Ls' := #[.val (.int a), .val (.long e), .second, .val (.int b), .val (.int pp), .val (.long qq), .second, .val (.ref obj), .val (.int (0 : Int32)), .unset, .unset, .unset, .unset, .unset, .unset, .unset, .unset]) rfl ?_
        refine Go.iloadN (pc' := 45) at_44 rfl rfl ?_
        refine Go.iconst (pc' := 46) at_45 rfl (z := (1 : Int32)) (by decide) ?_
        refine Go.icmpF (pc' := 49) (X := b.toInt) (Y := (1 : Int)) at_46 rfl rfl (by decide) (by omega : ¬ b.toInt < (1 : Int)) ?_
        refine Go.iconst (pc' := 50) at_49 rfl (z := (1 : Int32)) (by decide) ?_
        refine Go.goto (pc' := 54) at_50 (by decide) ?_
        refine Go.istore (pc' := 56) at_54 rfl (Ls' := #[.val (.int a), .val (.long e), .second, .val (.int b), .val (.int pp), .val (.long qq), .second, .val (.ref obj), .val (.int (0 : Int32)), .val (.int (1 : Int32)), .unset, .unset, .unset, .unset, .unset, .unset, .unset]) rfl ?_
        refine Go.iconst (pc' := 57) at_56 rfl (z := (0 : Int32)) (by decide) ?_
        refine Go.istore (pc' := 59) at_57 rfl (Ls' := #[.val (.int a), .val (.long e), .second, .val (.int b), .val (.int pp), .val (.long qq), .second, .val (.ref obj), .val (.int (0 : Int32)), .val (.int (1 : Int32)), .unset, .val (.int (0 : Int32)), .unset, .unset, .unset, .unset, .unset]) rfl ?_
        refine Go.lconst (pc' := 60) at_59 rfl (z := (0 : Int64)) (by decide) ?_
        refine Go.lstore (pc' := 62) at_60 rfl (Ls' := #[.val (.int a), .val (.long e), .second, .val (.int b), .val (.int pp), .val (.long qq), .second, .val (.ref obj), .val (.int (0 : Int32)), .val (.int (1 : Int32)), .unset, .val (.int (0 : Int32)), .val (.long (0 : Int64)), .second, .unset, .unset, .unset]) rfl ?_
        refine Go.iconst (pc' := 63) at_62 rfl (z := (0 : Int32)) (by decide) ?_
        refine Go.istore (pc' := 65) at_63 rfl (Ls' := #[.val (.int a), .val (.long e), .second, .val (.int b), .val (.int pp), .val (.long qq), .second, .val (.ref obj), .val (.int (0 : Int32)), .val (.int (1 : Int32)), .unset, .val (.int (0 : Int32)), .val (.long (0 : Int64)), .second, .val (.int (0 : Int32)), .unset, .unset]) rfl ?_
        refine Go.lconst (pc' := 66) at_65 rfl (z := (0 : Int64)) (by decide) ?_
        refine Go.lstore (pc' := 68) at_66 rfl (Ls' := #[.val (.int a), .val (.long e), .second, .val (.int b), .val (.int pp), .val (.long qq), .second, .val (.ref obj), .val (.int (0 : Int32)), .val (.int (1 : Int32)), .unset, .val (.int (0 : Int32)), .val (.long (0 : Int64)), .second, .val (.int (0 : Int32)), .val (.long (0 : Int64)), .second]) rfl ?_
        refine Go.iload (pc' := 70) at_68 rfl rfl ?_
        refine Go.ifT (pc' := 144) (X := (0 : Int)) at_70 (by decide) (by decide) (by decide : (0 : Int) = 0) ?_
        refine Go.iload (pc' := 146) at_144 rfl rfl ?_
        refine Go.ifT (pc' := 161) (X := (0 : Int)) at_146 (by decide) (by decide) (by decide : (0 : Int) = 0) ?_
        refine Go.iload (pc' := 163) at_161 rfl rfl ?_
        refine Go.ifF (pc' := 166) (X := (1 : Int)) at_163 rfl (by decide) (by decide : ¬ (1 : Int) = 0) ?_
        refine Go.iconst (pc' := 167) at_166 rfl (z := (1 : Int32)) (by decide) ?_
        refine Go.istore (pc' := 169) at_167 rfl (Ls' := #[.val (.int a), .val (.long e), .second, .val (.int b), .val (.int pp), .val (.long qq), .second, .val (.ref obj), .val (.int (0 : Int32)), .val (.int (1 : Int32)), .val (.int (1 : Int32)), .val (.int (0 : Int32)), .val (.long (0 : Int64)), .second, .val (.int (0 : Int32)), .val (.long (0 : Int64)), .second]) rfl ?_
        refine Go.iloadN (pc' := 170) at_169 rfl rfl ?_
        refine Go.istore (pc' := 172) at_170 rfl (Ls' := #[.val (.int a), .val (.long e), .second, .val (.int b), .val (.int pp), .val (.long qq), .second, .val (.ref obj), .val (.int (0 : Int32)), .val (.int (1 : Int32)), .val (.int (1 : Int32)), .val (.int b), .val (.long (0 : Int64)), .second, .val (.int (0 : Int32)), .val (.long (0 : Int64)), .second]) rfl ?_
        refine Go.ldc2 (pc' := 175) at_172 rfl (hw _ w28) ?_
        refine Go.lstore (pc' := 177) at_175 rfl (Ls' := #[.val (.int a), .val (.long e), .second, .val (.int b), .val (.int pp), .val (.long qq), .second, .val (.ref obj), .val (.int (0 : Int32)), .val (.int (1 : Int32)), .val (.int (1 : Int32)), .val (.int b), .val (.long (9223372036854775807 : Int64)), .second, .val (.int (0 : Int32)), .val (.long (0 : Int64)), .second]) rfl ?_
        refine Go.goto (pc' := 183) at_177 (by decide) ?_
        refine Go.aload (pc' := 185) at_183 rfl rfl rfl ?_
        refine Go.callV0 (pc' := 188) (W := 0) (a := obj) (argsL := []) (rest := []) (v0 := some (.int (1 : Int32))) (st2 := [(.int (1 : Int32))]) at_185 rfl (hw _ w29) (hw _ w30) (nf_sel (hw _ w32)) (hw _ w32) (hw _ w31) (hw _ w2) (hw _ w33) E_obj (by decide) (c_count hw obj u d (1 : Int32) b u1 (9223372036854775807 : Int64) d1 ne_u_d E_obj F_obj_units F_obj_durations F_obj_count A_u A_d) (by decide) (by decide) rfl rfl rfl (by decide) (by decide) rfl pd__28_29I rfl rfl (Nat.le_of_eq rfl) ?_
        refine Go.iload (pc' := 190) at_188 rfl rfl ?_
        refine Go.icmpT (pc' := 195) (X := (1 : Int)) (Y := (1 : Int)) at_190 (by decide) (by decide) (by decide) (by decide : (1 : Int) = (1 : Int)) ?_
        refine Go.iload (pc' := 197) at_195 rfl rfl ?_
        refine Go.iconst (pc' := 198) at_197 rfl (z := (1 : Int32)) (by decide) ?_
        refine Go.icmpF (pc' := 201) (X := (1 : Int)) (Y := (1 : Int)) at_198 rfl (by decide) (by decide) (by decide : ¬ (1 : Int) < (1 : Int)) ?_
        refine Go.aload (pc' := 203) at_201 rfl rfl rfl ?_
        refine Go.iconst (pc' := 204) at_203 rfl (z := (0 : Int32)) (by decide) ?_
        refine Go.callV0 (pc' := 207) (W := 0) (a := obj) (argsL := [(.int (0 : Int32))]) (rest := []) (v0 := some (.int b)) (st2 := [(.int b)]) at_204 rfl (hw _ w34) (hw _ w35) (nf_sel (hw _ w37)) (hw _ w37) (hw _ w36) (hw _ w2) (hw _ w38) E_obj (by decide) (c_units hw obj u d (1 : Int32) b u1 (9223372036854775807 : Int64) d1 (0 : Int32) 0 b ne_u_d E_obj F_obj_units F_obj_durations F_obj_count A_u A_d (by decide) (by decide) (by decide) rfl) (by decide) (by decide) rfl rfl rfl (by decide) (by decide) rfl pd__28I_29I rfl rfl (Nat.le_of_eq rfl) ?_
        refine Go.iload (pc' := 209) at_207 rfl rfl ?_
        refine Go.icmpF (pc' := 212) (X := b.toInt) (Y := b.toInt) at_209 rfl rfl rfl (rfl : b.toInt = b.toInt) ?_
        refine Go.aload (pc' := 214) at_212 rfl rfl rfl ?_
        refine Go.iconst (pc' := 215) at_214 rfl (z := (0 : Int32)) (by decide) ?_
        refine Go.callV0 (pc' := 218) (W := 0) (a := obj) (argsL := [(.int (0 : Int32))]) (rest := []) (v0 := some (.long (9223372036854775807 : Int64))) (st2 := [(.long (9223372036854775807 : Int64))]) at_215 rfl (hw _ w51) (hw _ w52) (nf_sel (hw _ w54)) (hw _ w54) (hw _ w53) (hw _ w2) (hw _ w55) E_obj (by decide) (c_dur hw obj u d (1 : Int32) b u1 (9223372036854775807 : Int64) d1 (0 : Int32) 0 (9223372036854775807 : Int64) ne_u_d E_obj F_obj_units F_obj_durations F_obj_count A_u A_d (by decide) (by decide) (by decide) rfl) (by decide) (by decide) rfl rfl rfl (by decide) (by decide) rfl pd__28I_29J rfl rfl (Nat.le_of_eq rfl) ?_
        refine Go.lload (pc' := 220) at_218 rfl rfl ?_
        refine Go.lcmpT (pc' := 226) (X := (9223372036854775807 : Int)) (Y := (9223372036854775807 : Int)) at_220 at_221 rfl (by decide) (by decide) (by decide) (by decide : (9223372036854775807 : Int) = (9223372036854775807 : Int)) ?_
        refine Go.iload (pc' := 228) at_226 rfl rfl ?_
        refine Go.iconst (pc' := 229) at_228 rfl (z := (2 : Int32)) (by decide) ?_
        refine Go.icmpT (pc' := 257) (X := (1 : Int)) (Y := (2 : Int)) at_229 (by decide) (by decide) (by decide) (by decide : (1 : Int) < (2 : Int)) ?_
        refine Go.iconst (pc' := 258) at_257 rfl (z := (1 : Int32)) (by decide) ?_
        refine Go.retZ at_258 rfl (by decide) (by decide) (by decide) ?_
        exact ⟨rfl, N0⟩
      · refine Go.lcmpF (pc' := 37) (X := e.toInt) (Y := (1 : Int)) at_33 at_34 rfl rfl rfl (by decide) (hc9 : ¬ e.toInt < (1 : Int)) ?_
        refine Go.iconst (pc' := 38) at_37 rfl (z := (1 : Int32)) (by decide) ?_
        refine Go.goto (pc' := 42) at_38 (by decide) ?_
        refine Go.istore (pc' := 44) at_42 rfl (Ls' := #[.val (.int a), .val (.long e), .second, .val (.int b), .val (.int pp), .val (.long qq), .second, .val (.ref obj), .val (.int (1 : Int32)), .unset, .unset, .unset, .unset, .unset, .unset, .unset, .unset]) rfl ?_
        refine Go.iloadN (pc' := 45) at_44 rfl rfl ?_
        refine Go.iconst (pc' := 46) at_45 rfl (z := (1 : Int32)) (by decide) ?_
        refine Go.icmpF (pc' := 49) (X := b.toInt) (Y := (1 : Int)) at_46 rfl rfl (by decide) (by omega : ¬ b.toInt < (1 : Int)) ?_
        refine Go.iconst (pc' := 50) at_49 rfl (z := (1 : Int32)) (by decide) ?_
        refine Go.goto (pc' := 54) at_50 (by decide) ?_
        refine Go.istore (pc' := 56) at_54 rfl (Ls' := #[.val (.int a), .val (.long e), .second, .val (.int b), .val (.int pp), .val (.long qq), .second, .val (.ref obj), .val (.int (1 : Int32)), .val (.int (1 : Int32)), .unset, .unset, .unset, .unset, .unset, .unset, .unset]) rfl ?_
        refine Go.iconst (pc' := 57) at_56 rfl (z := (0 : Int32)) (by decide) ?_
        refine Go.istore (pc' := 59) at_57 rfl (Ls' := #[.val (.int a), .val (.long e), .second, .val (.int b), .val (.int pp), .val (.long qq), .second, .val (.ref obj), .val (.int (1 : Int32)), .val (.int (1 : Int32)), .unset, .val (.int (0 : Int32)), .unset, .unset, .unset, .unset, .unset]) rfl ?_
        refine Go.lconst (pc' := 60) at_59 rfl (z := (0 : Int64)) (by decide) ?_
        refine Go.lstore (pc' := 62) at_60 rfl (Ls' := #[.val (.int a), .val (.long e), .second, .val (.int b), .val (.int pp), .val (.long qq), .second, .val (.ref obj), .val (.int (1 : Int32)), .val (.int (1 : Int32)), .unset, .val (.int (0 : Int32)), .val (.long (0 : Int64)), .second, .unset, .unset, .unset]) rfl ?_
        refine Go.iconst (pc' := 63) at_62 rfl (z := (0 : Int32)) (by decide) ?_
        refine Go.istore (pc' := 65) at_63 rfl (Ls' := #[.val (.int a), .val (.long e), .second, .val (.int b), .val (.int pp), .val (.long qq), .second, .val (.ref obj), .val (.int (1 : Int32)), .val (.int (1 : Int32)), .unset, .val (.int (0 : Int32)), .val (.long (0 : Int64)), .second, .val (.int (0 : Int32)), .unset, .unset]) rfl ?_
        refine Go.lconst (pc' := 66) at_65 rfl (z := (0 : Int64)) (by decide) ?_
        refine Go.lstore (pc' := 68) at_66 rfl (Ls' := #[.val (.int a), .val (.long e), .second, .val (.int b), .val (.int pp), .val (.long qq), .second, .val (.ref obj), .val (.int (1 : Int32)), .val (.int (1 : Int32)), .unset, .val (.int (0 : Int32)), .val (.long (0 : Int64)), .second, .val (.int (0 : Int32)), .val (.long (0 : Int64)), .second]) rfl ?_
        refine Go.iload (pc' := 70) at_68 rfl rfl ?_
        refine Go.ifF (pc' := 73) (X := (1 : Int)) at_70 rfl (by decide) (by decide : ¬ (1 : Int) = 0) ?_
        refine Go.iload (pc' := 75) at_73 rfl rfl ?_
        refine Go.ifF (pc' := 78) (X := (1 : Int)) at_75 rfl (by decide) (by decide : ¬ (1 : Int) = 0) ?_
        refine Go.iloadN (pc' := 79) at_78 rfl rfl ?_
        refine Go.iloadN (pc' := 80) at_79 rfl rfl ?_
        refine Go.icmpT (pc' := 111) (X := a.toInt) (Y := b.toInt) at_80 (by decide) rfl rfl (by omega : ¬ b.toInt < a.toInt) ?_
        refine Go.iloadN (pc' := 112) at_111 rfl rfl ?_
        refine Go.iloadN (pc' := 113) at_112 rfl rfl ?_
        refine Go.icmpT (pc' := 130) (X := a.toInt) (Y := b.toInt) at_113 (by decide) rfl rfl (by omega : ¬ b.toInt < a.toInt) ?_
        refine Go.iconst (pc' := 131) at_130 rfl (z := (1 : Int32)) (by decide) ?_
        refine Go.istore (pc' := 133) at_131 rfl (Ls' := #[.val (.int a), .val (.long e), .second, .val (.int b), .val (.int pp), .val (.long qq), .second, .val (.ref obj), .val (.int (1 : Int32)), .val (.int (1 : Int32)), .val (.int (1 : Int32)), .val (.int (0 : Int32)), .val (.long (0 : Int64)), .second, .val (.int (0 : Int32)), .val (.long (0 : Int64)), .second]) rfl ?_
        refine Go.iloadN (pc' := 134) at_133 rfl rfl ?_
        refine Go.istore (pc' := 136) at_134 rfl (Ls' := #[.val (.int a), .val (.long e), .second, .val (.int b), .val (.int pp), .val (.long qq), .second, .val (.ref obj), .val (.int (1 : Int32)), .val (.int (1 : Int32)), .val (.int (1 : Int32)), .val (.int b), .val (.long (0 : Int64)), .second, .val (.int (0 : Int32)), .val (.long (0 : Int64)), .second]) rfl ?_
        refine Go.ldc2 (pc' := 139) at_136 rfl (hw _ w28) ?_
        refine Go.lstore (pc' := 141) at_139 rfl (Ls' := #[.val (.int a), .val (.long e), .second, .val (.int b), .val (.int pp), .val (.long qq), .second, .val (.ref obj), .val (.int (1 : Int32)), .val (.int (1 : Int32)), .val (.int (1 : Int32)), .val (.int b), .val (.long (9223372036854775807 : Int64)), .second, .val (.int (0 : Int32)), .val (.long (0 : Int64)), .second]) rfl ?_
        refine Go.goto (pc' := 183) at_141 (by decide) ?_
        refine Go.aload (pc' := 185) at_183 rfl rfl rfl ?_
        refine Go.callV0 (pc' := 188) (W := 0) (a := obj) (argsL := []) (rest := []) (v0 := some (.int (1 : Int32))) (st2 := [(.int (1 : Int32))]) at_185 rfl (hw _ w29) (hw _ w30) (nf_sel (hw _ w32)) (hw _ w32) (hw _ w31) (hw _ w2) (hw _ w33) E_obj (by decide) (c_count hw obj u d (1 : Int32) b u1 (9223372036854775807 : Int64) d1 ne_u_d E_obj F_obj_units F_obj_durations F_obj_count A_u A_d) (by decide) (by decide) rfl rfl rfl (by decide) (by decide) rfl pd__28_29I rfl rfl (Nat.le_of_eq rfl) ?_
        refine Go.iload (pc' := 190) at_188 rfl rfl ?_
        refine Go.icmpT (pc' := 195) (X := (1 : Int)) (Y := (1 : Int)) at_190 (by decide) (by decide) (by decide) (by decide : (1 : Int) = (1 : Int)) ?_
        refine Go.iload (pc' := 197) at_195 rfl rfl ?_
        refine Go.iconst (pc' := 198) at_197 rfl (z := (1 : Int32)) (by decide) ?_
        refine Go.icmpF (pc' := 201) (X := (1 : Int)) (Y := (1 : Int)) at_198 rfl (by decide) (by decide) (by decide : ¬ (1 : Int) < (1 : Int)) ?_
        refine Go.aload (pc' := 203) at_201 rfl rfl rfl ?_
        refine Go.iconst (pc' := 204) at_203 rfl (z := (0 : Int32)) (by decide) ?_
        refine Go.callV0 (pc' := 207) (W := 0) (a := obj) (argsL := [(.int (0 : Int32))]) (rest := []) (v0 := some (.int b)) (st2 := [(.int b)]) at_204 rfl (hw _ w34) (hw _ w35) (nf_sel (hw _ w37)) (hw _ w37) (hw _ w36) (hw _ w2) (hw _ w38) E_obj (by decide) (c_units hw obj u d (1 : Int32) b u1 (9223372036854775807 : Int64) d1 (0 : Int32) 0 b ne_u_d E_obj F_obj_units F_obj_durations F_obj_count A_u A_d (by decide) (by decide) (by decide) rfl) (by decide) (by decide) rfl rfl rfl (by decide) (by decide) rfl pd__28I_29I rfl rfl (Nat.le_of_eq rfl) ?_
        refine Go.iload (pc' := 209) at_207 rfl rfl ?_
        refine Go.icmpF (pc' := 212) (X := b.toInt) (Y := b.toInt) at_209 rfl rfl rfl (rfl : b.toInt = b.toInt) ?_
        refine Go.aload (pc' := 214) at_212 rfl rfl rfl ?_
        refine Go.iconst (pc' := 215) at_214 rfl (z := (0 : Int32)) (by decide) ?_
        refine Go.callV0 (pc' := 218) (W := 0) (a := obj) (argsL := [(.int (0 : Int32))]) (rest := []) (v0 := some (.long (9223372036854775807 : Int64))) (st2 := [(.long (9223372036854775807 : Int64))]) at_215 rfl (hw _ w51) (hw _ w52) (nf_sel (hw _ w54)) (hw _ w54) (hw _ w53) (hw _ w2) (hw _ w55) E_obj (by decide) (c_dur hw obj u d (1 : Int32) b u1 (9223372036854775807 : Int64) d1 (0 : Int32) 0 (9223372036854775807 : Int64) ne_u_d E_obj F_obj_units F_obj_durations F_obj_count A_u A_d (by decide) (by decide) (by decide) rfl) (by decide) (by decide) rfl rfl rfl (by decide) (by decide) rfl pd__28I_29J rfl rfl (Nat.le_of_eq rfl) ?_
        refine Go.lload (pc' := 220) at_218 rfl rfl ?_
        refine Go.lcmpT (pc' := 226) (X := (9223372036854775807 : Int)) (Y := (9223372036854775807 : Int)) at_220 at_221 rfl (by decide) (by decide) (by decide) (by decide : (9223372036854775807 : Int) = (9223372036854775807 : Int)) ?_
        refine Go.iload (pc' := 228) at_226 rfl rfl ?_
        refine Go.iconst (pc' := 229) at_228 rfl (z := (2 : Int32)) (by decide) ?_
        refine Go.icmpT (pc' := 257) (X := (1 : Int)) (Y := (2 : Int)) at_229 (by decide) (by decide) (by decide) (by decide : (1 : Int) < (2 : Int)) ?_
        refine Go.iconst (pc' := 258) at_257 rfl (z := (1 : Int32)) (by decide) ?_
        refine Go.retZ at_258 rfl (by decide) (by decide) (by decide) ?_
        exact ⟨rfl, N0⟩
set_option maxRecDepth 65536 in
set_option maxHeartbeats 40000000 in
theorem comes_1 {Post : Tables → Env → Array Value → State → Outcome → State → Prop} (hpost : ∀ tb e args s v u, (limb_1_1.after args s (.returned v) u = true ∧ limb_1_2.after args s (.returned v) u = true ∧ True) → FrameEnd s (.returned v) u (Jvm.fieldLocs frame_1_writes args s ++ Jvm.arrayLocs frame_1_arrays args s ++ Jvm.staticLocs frame_1_statics s) 16 128 → Post tb e args s (.returned v) u) :
    ArmFor flags0 classFile x code maxLocals ret World_1 tables_1 room_1 Calls_1 rest_1 Pre_1 Post := by
  intro l hfl _ _ p e ha hc hk s m args below hf hA hF happ hP
  obtain ⟨hcalls, hrest, hpre⟩ := hP
  obtain ⟨-, -, -, hnamed, -, -, -, hat⟩ := (Spec.applies_iff hf).mp happ
  obtain ⟨hg, hn⟩ := and_e (Cond.before_iff.mp (show (Jvm.Cond.and given_1 narrow_1).before args s = true from hpre))
  obtain ⟨h1, h2⟩ := and_e hg
  obtain ⟨w0, w1, w2, w3, w4, rfl⟩ : ∃ w0 w1 w2 w3 w4 : Value, args = #[w0, w1, w2, w3, w4] := by
    have hs : args.size = 5 := by simpa [Cond.value, given_1] using h1
    obtain ⟨L⟩ := args
    match L, hs with
    | [w0, w1, w2, w3, w4], _ => exact ⟨w0, w1, w2, w3, w4, rfl⟩
  have hw := fun d (hd : d ∈ tables_1) => atoms_spec (ws := Jvm.Cond.code x code maxLocals ret :: tables_1) hat d (List.mem_cons_of_mem _ hd)
  obtain ⟨q0, h2⟩ := and_e h2
  obtain ⟨i0, e0⟩ := is_v q0
  obtain rfl : w0 = (.int i0) := Option.some.inj e0
  obtain ⟨q1, h2⟩ := and_e h2
  obtain ⟨i1, e1⟩ := isL_v q1
  obtain rfl : w1 = (.long i1) := Option.some.inj e1
  obtain ⟨q2, h2⟩ := and_e h2
  obtain ⟨i2, e2⟩ := is_v q2
  obtain rfl : w2 = (.int i2) := Option.some.inj e2
  obtain ⟨q3, h2⟩ := and_e h2
  obtain ⟨i3, e3⟩ := is_v q3
  obtain rfl : w3 = (.int i3) := Option.some.inj e3
  have q4 := h2
  obtain ⟨i4, e4⟩ := isL_v q4
  obtain rfl : w4 = (.long i4) := Option.some.inj e4
  obtain ⟨n, o, h1, h2, h3, _, L, rfl, ⟨rfl, N⟩, hq⟩ := law_con (l := l) hw (h0 := s.heap) (n0 := s.heap.size) (Nat.le_refl _) i0 i1 i2 i3 i4 p e ha hc hk s m _ below hf ((Spec.applies_iff_loose hf).mp happ).1 ⟨rfl, State.Warmed39.refl s, rfl⟩ trivial
  refine ⟨n, _, h1, h2, h3, hpost _ _ _ _ _ _ ⟨Cond.after_iff.mpr rfl, Cond.after_iff.mpr (eq_i res_at (Term.int_eval (1)) rfl), trivial⟩ ⟨hq.1, hq.2.1, (hq.2.2.sift fun y hy => Or.inr (N y hy)).mono (by decide) (by decide)⟩⟩
theorem main_1_1 : Claimed_1_1 := comes_1 fun _ _ _ _ _ _ h hF => ⟨h.1, hF⟩
theorem main_1_2 : Claimed_1_2 := comes_1 fun _ _ _ _ _ _ h hF => ⟨h.2.1, hF⟩
end Jvm.Pilot.@@N@@
namespace Jvm.Pilot.@@N@@
open Jvm Jvm.ClassFile Sem Op Lib Jvm.Free Jvm.Stand Jvm.Pilot.@@N@@.Jvm.D
/-! MADE BY PROGRAM (witnessworld.py) out of the Statement's table words and the real class files: 13 classes; the members and pool entries that the words name. The judged class is class 1, her method 1. -/
namespace start1
open Jvm.ClassFile
def u (s : String) : CpInfo := .utf8 (stringToUtf16 s)
/-- a pool by its gaps: so many unusable entries, then the entry; so many at the end -/
def gap : Nat → List CpInfo → List CpInfo
  | 0, r => r
  | n + 1, r => .unusable :: gap n r
def poolList (es : List (Nat × CpInfo)) (last : Nat) : List CpInfo := es.foldr (fun e r => gap e.1 (e.2 :: r)) (gap last [])
def pool (es : List (Nat × CpInfo)) (last : Nat) : Array CpInfo := ⟨poolList es last⟩
def fileOf (pool : Array CpInfo) (this : Nat) (attrs : Array Attribute := #[]) (ms : Array MethodInfo := #[]) (fl : Nat := 33) (sup : Nat := 0) (ifs : Array Nat := #[]) (fds : Array FieldInfo := #[]) : ClassFile where
  minorVersion := 0
  majorVersion := 65
  constantPool := pool
  accessFlags := fl
  thisClass := this
  superClass := sup
  interfaces := ifs
  fields := fds
  methods := ms
  attributes := attrs
def plain (name : String) (sup : Option ClassId) : Class where
  name := name
  kind := .ordinary
  loader := none
  accessFlags := 33
  super := sup
  interfaces := #[]
  cf := none
  fields := #[]
  methods := #[]
  instanceTypes := #[]
  staticTypes := #[]
  resolved := #[]
  callSites := []
  init := .initialized
  statics := none
  mirror := none

def pool0 : Array CpInfo := pool [(5, u "<init>"), (0, u "()V"), (1, .class_ 10), (1, u "java/lang/Object")] 113

def k0c0 : Code := { maxStack := 0, maxLocals := 1, code := object_method_1_code, exceptionTable := #[], attributes := #[] }
def k0m0 : Method := { name := "<init>", desc := "()V", sig := { parameters := [], returnType := none }, accessFlags := 1, code := some k0c0 }
/-- java/lang/Object -/
def k0 : Class := { plain "java/lang/Object" none with
  accessFlags := 33
  interfaces := #[]
  cf := some (fileOf pool0 8 #[] #[{ accessFlags := 1, nameIndex := 5, descriptorIndex := 6, attributes := #[] }] 33 0 #[] #[])
  fields := #[]
  methods := #[k0m0]
  instanceTypes := #[]
  staticTypes := #[]
  resolved := Array.replicate 124 none
  statics := none }

def pool1 : Array CpInfo := pool [(2, .class_ 4), (0, .nameAndType 5 6), (0, u "java/lang/Object"), (0, u "<init>"), (0, u "()V"), (0, .class_ 8), (0, u "com/example/rehearsal/rehearsal/engine/Openings"), (0, .methodref 7 3), (0, .methodref 7 11), (0, .nameAndType 12 13), (0, u "add"), (0, u "(IJ)V"), (0, .methodref 7 15), (0, .nameAndType 16 17), (0, u "setTo"), (0, u "(IJI)V"), (2, .long 9223372036854775807), (1, .methodref 7 23), (0, .nameAndType 24 25), (0, u "count"), (0, u "()I"), (0, .methodref 7 27), (0, .nameAndType 28 29), (0, u "units"), (0, u "(I)I"), (0, .methodref 7 31), (0, .nameAndType 32 33), (0, u "duration"), (0, u "(I)J"), (0, .class_ 35), (0, u "com/example/rehearsal/rehearsal/engine/OpeningsSetToPinLaw"), (2, u "law"), (0, u "(IJIIJ)Z")] 3

def k1m0 : Method := { name := "<init>", desc := "()V", sig := { parameters := [], returnType := none }, accessFlags := 1, code := none }
def k1c1 : Code := { maxStack := 5, maxLocals := 17, code := code, exceptionTable := #[], attributes := #[] }
def k1m1 : Method := { name := "law", desc := "(IJIIJ)Z", sig := { parameters := [.int, .long, .int, .int, .long], returnType := some .boolean }, accessFlags := 9, code := some k1c1 }
/-- com/example/rehearsal/rehearsal/engine/OpeningsSetToPinLaw -/
def k1 : Class := { plain "com/example/rehearsal/rehearsal/engine/OpeningsSetToPinLaw" (some 0) with
  accessFlags := 49
  interfaces := #[]
  cf := some (fileOf pool1 34 #[] #[{ accessFlags := 1, nameIndex := 5, descriptorIndex := 6, attributes := #[] }, { accessFlags := 9, nameIndex := 38, descriptorIndex := 39, attributes := #[] }] 49 2 #[] #[])
  fields := #[]
  methods := #[k1m0, k1m1]
  instanceTypes := #[]
  staticTypes := #[]
  resolved := Array.replicate 43 none
  statics := none }

def pool2 : Array CpInfo := pool [(1, .methodref 2 3), (0, .class_ 4), (0, .nameAndType 5 6), (0, u "java/lang/Object"), (0, u "<init>"), (0, u "()V"), (0, .class_ 8), (0, u "com/example/rehearsal/rehearsal/engine/Openings"), (0, .fieldref 7 10), (0, .nameAndType 11 12), (0, u "units"), (0, u "[I"), (0, .fieldref 7 14), (0, .nameAndType 15 16), (0, u "durations"), (0, u "[J"), (0, .fieldref 7 18), (0, .nameAndType 19 20), (0, u "count"), (0, u "I"), (0, .methodref 7 22), (0, .nameAndType 23 24), (0, u "countWithMoreThan"), (0, u "(J)I"), (11, .long 9223372036854775807), (11, .methodref 7 49), (0, .nameAndType 50 51), (0, u "checked"), (0, u "(I)I"), (0, .methodref 53 54), (0, .class_ 55), (0, .nameAndType 56 57), (0, u "java/util/Objects"), (0, u "checkIndex"), (0, u "(II)I"), (0, u "INITIAL_ROOM"), (5, u "add"), (0, u "(IJ)V"), (1, u "setTo"), (0, u "(IJI)V"), (3, u "()I"), (0, u "duration"), (0, u "(I)J")] 2

def k2c0 : Code := { maxStack := 2, maxLocals := 1, code := prog_63_method_1_code, exceptionTable := #[], attributes := #[] }
def k2m0 : Method := { name := "<init>", desc := "()V", sig := { parameters := [], returnType := none }, accessFlags := 1, code := some k2c0 }
def k2c1 : Code := { maxStack := 5, maxLocals := 8, code := prog_63_method_3_code, exceptionTable := #[], attributes := #[] }
def k2m1 : Method := { name := "add", desc := "(IJ)V", sig := { parameters := [.int, .long], returnType := none }, accessFlags := 1, code := some k2c1 }
def k2c2 : Code := { maxStack := 4, maxLocals := 5, code := prog_63_method_4_code, exceptionTable := #[], attributes := #[] }
def k2m2 : Method := { name := "setTo", desc := "(IJI)V", sig := { parameters := [.int, .long, .int], returnType := none }, accessFlags := 0, code := some k2c2 }
def k2c3 : Code := { maxStack := 1, maxLocals := 1, code := prog_63_method_7_code, exceptionTable := #[], attributes := #[] }
def k2m3 : Method := { name := "count", desc := "()I", sig := { parameters := [], returnType := some .int }, accessFlags := 1, code := some k2c3 }
def k2c4 : Code := { maxStack := 3, maxLocals := 2, code := prog_63_method_8_code, exceptionTable := #[], attributes := #[] }
def k2m4 : Method := { name := "units", desc := "(I)I", sig := { parameters := [.int], returnType := some .int }, accessFlags := 1, code := some k2c4 }
def k2c5 : Code := { maxStack := 3, maxLocals := 2, code := prog_63_method_9_code, exceptionTable := #[], attributes := #[] }
def k2m5 : Method := { name := "duration", desc := "(I)J", sig := { parameters := [.int], returnType := some .long }, accessFlags := 1, code := some k2c5 }
def k2c6 : Code := { maxStack := 4, maxLocals := 6, code := prog_63_method_11_code, exceptionTable := #[], attributes := #[] }
def k2m6 : Method := { name := "countWithMoreThan", desc := "(J)I", sig := { parameters := [.long], returnType := some .int }, accessFlags := 2, code := some k2c6 }
def k2c7 : Code := { maxStack := 2, maxLocals := 2, code := prog_63_method_12_code, exceptionTable := #[], attributes := #[] }
def k2m7 : Method := { name := "checked", desc := "(I)I", sig := { parameters := [.int], returnType := some .int }, accessFlags := 2, code := some k2c7 }
/-- com/example/rehearsal/rehearsal/engine/Openings -/
def k2 : Class := { plain "com/example/rehearsal/rehearsal/engine/Openings" (some 0) with
  accessFlags := 49
  interfaces := #[]
  cf := some (fileOf pool2 7 #[] #[{ accessFlags := 1, nameIndex := 5, descriptorIndex := 6, attributes := #[] }, { accessFlags := 1, nameIndex := 64, descriptorIndex := 65, attributes := #[] }, { accessFlags := 0, nameIndex := 67, descriptorIndex := 68, attributes := #[] }, { accessFlags := 1, nameIndex := 19, descriptorIndex := 72, attributes := #[] }, { accessFlags := 1, nameIndex := 11, descriptorIndex := 51, attributes := #[] }, { accessFlags := 1, nameIndex := 73, descriptorIndex := 74, attributes := #[] }, { accessFlags := 2, nameIndex := 23, descriptorIndex := 24, attributes := #[] }, { accessFlags := 2, nameIndex := 50, descriptorIndex := 51, attributes := #[] }] 49 2 #[] #[{ accessFlags := 26, nameIndex := 58, descriptorIndex := 20, attributes := #[] }, { accessFlags := 2, nameIndex := 11, descriptorIndex := 12, attributes := #[] }, { accessFlags := 2, nameIndex := 15, descriptorIndex := 16, attributes := #[] }, { accessFlags := 2, nameIndex := 19, descriptorIndex := 20, attributes := #[] }])
  fields := #[{ name := "INITIAL_ROOM", type := .int, accessFlags := 26, slot := 0, constantValue := 0 }, { name := "units", type := (.array .int), accessFlags := 2, slot := 0, constantValue := 0 }, { name := "durations", type := (.array .long), accessFlags := 2, slot := 1, constantValue := 0 }, { name := "count", type := .int, accessFlags := 2, slot := 2, constantValue := 0 }]
  methods := #[k2m0, k2m1, k2m2, k2m3, k2m4, k2m5, k2m6, k2m7]
  instanceTypes := #[(.array .int), (.array .long), .int]
  staticTypes := #[.int]
  resolved := Array.replicate 77 none
  statics := none }

def pool3 : Array CpInfo := pool [(2, .class_ 4), (1, u "java/lang/Object"), (0, u "<init>"), (0, u "()V"), (35, .class_ 44), (1, u "java/util/Objects"), (60, .methodref 106 107), (0, .class_ 108), (0, .nameAndType 109 110), (0, u "jdk/internal/util/Preconditions"), (0, u "checkIndex"), (0, u "(IILjava/util/function/BiFunction;)I"), (60, u "(II)I")] 12

def k3m0 : Method := { name := "<init>", desc := "()V", sig := { parameters := [], returnType := none }, accessFlags := 2, code := none }
def k3c1 : Code := { maxStack := 3, maxLocals := 2, code := jdk_31_method_17_code, exceptionTable := #[], attributes := #[] }
def k3m1 : Method := { name := "checkIndex", desc := "(II)I", sig := { parameters := [.int, .int], returnType := some .int }, accessFlags := 9, code := some k3c1 }
/-- java/util/Objects -/
def k3 : Class := { plain "java/util/Objects" (some 0) with
  accessFlags := 49
  interfaces := #[]
  cf := some (fileOf pool3 42 #[] #[{ accessFlags := 2, nameIndex := 5, descriptorIndex := 6, attributes := #[] }, { accessFlags := 9, nameIndex := 109, descriptorIndex := 171, attributes := #[] }] 49 2 #[] #[])
  fields := #[]
  methods := #[k3m0, k3m1]
  instanceTypes := #[]
  staticTypes := #[]
  resolved := Array.replicate 184 none
  statics := none }

def pool4 : Array CpInfo := pool [(2, .class_ 4), (1, u "java/lang/Object"), (0, u "<init>"), (0, u "()V"), (17, .class_ 26), (1, u "jdk/internal/util/Preconditions"), (6, u "checkIndex"), (21, .class_ 56), (0, u "jdk/internal/util/Preconditions$4"), (57, .class_ 115), (0, u "jdk/internal/util/Preconditions$1"), (7, u "SIOOBE_FORMATTER"), (0, u "Ljava/util/function/BiFunction;"), (0, .class_ 126), (0, u "jdk/internal/util/Preconditions$2"), (3, u "AIOOBE_FORMATTER"), (0, .class_ 132), (0, u "jdk/internal/util/Preconditions$3"), (3, u "IOOBE_FORMATTER"), (41, u "(IILjava/util/function/BiFunction;)I")] 15

def k4m0 : Method := { name := "<init>", desc := "()V", sig := { parameters := [], returnType := none }, accessFlags := 1, code := none }
def k4c1 : Code := { maxStack := 3, maxLocals := 3, code := jdk_41_method_11_code, exceptionTable := #[], attributes := #[] }
def k4m1 : Method := { name := "checkIndex", desc := "(IILjava/util/function/BiFunction;)I", sig := { parameters := [.int, .int, (.object "java/util/function/BiFunction")], returnType := some .int }, accessFlags := 9, code := some k4c1 }
/-- jdk/internal/util/Preconditions -/
def k4 : Class := { plain "jdk/internal/util/Preconditions" (some 0) with
  accessFlags := 33
  interfaces := #[]
  cf := some (fileOf pool4 24 #[.nestMembers #[55, 131, 125, 114]] #[{ accessFlags := 1, nameIndex := 5, descriptorIndex := 6, attributes := #[] }, { accessFlags := 9, nameIndex := 33, descriptorIndex := 178, attributes := #[] }] 33 2 #[] #[{ accessFlags := 25, nameIndex := 123, descriptorIndex := 124, attributes := #[] }, { accessFlags := 25, nameIndex := 130, descriptorIndex := 124, attributes := #[] }, { accessFlags := 25, nameIndex := 136, descriptorIndex := 124, attributes := #[] }])
  fields := #[{ name := "SIOOBE_FORMATTER", type := (.object "java/util/function/BiFunction"), accessFlags := 25, slot := 0, constantValue := 0 }, { name := "AIOOBE_FORMATTER", type := (.object "java/util/function/BiFunction"), accessFlags := 25, slot := 1, constantValue := 0 }, { name := "IOOBE_FORMATTER", type := (.object "java/util/function/BiFunction"), accessFlags := 25, slot := 2, constantValue := 0 }]
  methods := #[k4m0, k4m1]
  instanceTypes := #[]
  staticTypes := #[(.object "java/util/function/BiFunction"), (.object "java/util/function/BiFunction"), (.object "java/util/function/BiFunction")]
  resolved := Array.replicate 194 none
  statics := none }

def pool5 : Array CpInfo := pool [(1, u "java/lang/Cloneable"), (0, .class_ 1), (0, u "java/lang/Object"), (0, .class_ 3)] 3

/-- java/lang/Cloneable -/
def k5 : Class := { plain "java/lang/Cloneable" (some 0) with
  accessFlags := 1537
  interfaces := #[]
  cf := some (fileOf pool5 2 #[] #[] 1537 4 #[] #[])
  fields := #[]
  methods := #[]
  instanceTypes := #[]
  staticTypes := #[]
  resolved := Array.replicate 8 none
  statics := none }

def pool6 : Array CpInfo := pool [(1, u "java/io/Serializable"), (0, .class_ 1), (0, u "java/lang/Object"), (0, .class_ 3)] 3

/-- java/io/Serializable -/
def k6 : Class := { plain "java/io/Serializable" (some 0) with
  accessFlags := 1537
  interfaces := #[]
  cf := some (fileOf pool6 2 #[] #[] 1537 4 #[] #[])
  fields := #[]
  methods := #[]
  instanceTypes := #[]
  staticTypes := #[]
  resolved := Array.replicate 8 none
  statics := none }

/-- the primitive byte -/
def k7 : Class := { plain "byte" none with kind := .primitive 'B', accessFlags := 0x411 }
/-- [B -/
def k8 : Class := { plain "[B" (some 0) with kind := .array 7 .byte, interfaces := #[5, 6], accessFlags := 1041 }

/-- the primitive int -/
def k9 : Class := { plain "int" none with kind := .primitive 'I', accessFlags := 0x411 }
/-- [I -/
def k10 : Class := { plain "[I" (some 0) with kind := .array 9 .int, interfaces := #[5, 6], accessFlags := 1041 }

/-- the primitive long -/
def k11 : Class := { plain "long" none with kind := .primitive 'J', accessFlags := 0x411 }
/-- [J -/
def k12 : Class := { plain "[J" (some 0) with kind := .array 11 .long, interfaces := #[5, 6], accessFlags := 1041 }

def heap : Heap := #[]
def classes : Array Class := #[k0, k1, k2, k3, k4, k5, k6, k7, k8, k9, k10, k11, k12]
def interned : List (Array UInt16 × Addr) := []
def slotsUsed : Nat := 0
def theMethod : MethodId := ⟨1, 1⟩
def args0 : Array Value := #[.int 3, .long 4, .int 5, .int 6, .long 7]
def aboutOver (below : List Frame) : State where
  vm := { classes := classes, interned := interned.toArray }
  heap := heap
  slotsUsed := slotsUsed
  threads := #[{ frames := .invoking theMethod args0 :: below }]
def below0 : List Frame := [.native { method := ⟨0, 0⟩, args := #[] }]
def about1 : State := aboutOver below0
def p0 : Program := .bare "" "" ""
def e0 : Env := launch0.env 0 0 0
theorem w_frames : about1.frames = Frame.invoking theMethod args0 :: below0 := rfl
set_option maxRecDepth 65536 in
theorem w_args : argsFit about1.vm theMethod args0 = true := by decide +kernel
set_option maxRecDepth 65536 in
theorem w_heap : heapFits about1 = true := by decide +kernel
set_option maxRecDepth 65536 in
theorem w_runnable : about1.curStatus? = some .runnable := by decide +kernel
set_option maxRecDepth 65536 in
theorem w_alone : about1.alone = true := by decide +kernel
set_option maxRecDepth 65536 in
theorem w_named : about1.methodNamed? x = some theMethod := by decide +kernel
set_option maxRecDepth 65536 in
theorem w_hears : about1.hears theMethod below0 = true := by decide +kernel
set_option maxRecDepth 65536 in
theorem w_ripe : about1.ripe theMethod args0 below0 = true := by decide +kernel
theorem w_running : about1.status = .running := rfl
set_option maxRecDepth 65536 in
theorem w_room : about1.hasRoom e0.platform room_1 = true :=
  launch0.hasRoom_least _ room_1 (by decide +kernel) (by decide +kernel) (by decide +kernel) (by decide +kernel) (by decide +kernel) (by decide +kernel)
theorem allAtoms_all (ts : List Jvm.Cond) (a : Array Jvm.Value) (st : Jvm.State) : (allAtoms ts).before a st = ts.all (fun c => c.before a st) := by
  induction ts with
  | nil => rfl
  | cons c t ih =>
    show (Jvm.Cond.and c (allAtoms t)).before a st = _
    rw [Jvm.Cond.before_and, ih, List.all_cons]
def words1 : List Jvm.Cond := Jvm.Cond.code x code maxLocals ret :: tables_1
/-- a 'code' word, met by the world's own term for the bytes: nothing is compared byte by byte -/
theorem code_word {y : MethodName} {bytes : ByteArray} {mx : Nat} {rt : Option FieldType} {a : Array Value} {s : State} {m : MethodId} {meth : Method} {c : Code} (h1 : s.methodNamed? y = some m) (h2 : s.vm.method? m = some meth) (h3 : meth.code = some c) (h4 : c.code = bytes)
    (h5 : (c.maxLocals == mx && c.exceptionTable.isEmpty && decide (c.maxStack ≤ mostOperands) && decide (meth.sig.returnType = rt) && !meth.locks && decide (parseMethodDescriptor y.desc = some meth.sig)) = true) : (Jvm.Cond.code y bytes mx rt).before a s = true := by
  simp only [Bool.and_eq_true, beq_iff_eq, Bool.not_eq_true', decide_eq_true_eq] at h5
  obtain ⟨⟨⟨⟨⟨g1, g2⟩, g3⟩, g4⟩, g5⟩, g6⟩ := h5
  simp [Cond.before, Cond.holds, Cond.value, h1, h2, h3, h4, g1, g2, g3, g4, g5, g6]
def isCode : Jvm.Cond → Bool
  | .code _ _ _ _ => true
  | _ => false
theorem all_split {L : List Jvm.Cond} {P : Jvm.Cond → Bool} (h1 : L.all (fun c => isCode c || P c) = true) (h2 : ∀ c ∈ L.filter isCode, P c = true) : L.all P = true := by
  refine List.all_eq_true.mpr fun c hc => ?_
  have h := List.all_eq_true.mp h1 c hc
  rcases Bool.eq_false_or_eq_true (isCode c) with hi | hi
  · exact h2 c (List.mem_filter.mpr ⟨hc, hi⟩)
  · simpa [hi] using h
set_option maxRecDepth 65536 in
theorem w_c0 : (Jvm.Cond.code x code maxLocals ret).before args0 about1 = true := code_word (m := ⟨1, 1⟩) (meth := k1m1) (c := k1c1) (by decide +kernel) rfl rfl rfl (by decide +kernel)
set_option maxRecDepth 65536 in
theorem w_c1 : (Jvm.Cond.code ({ cls := "com/example/rehearsal/rehearsal/engine/Openings", name := "<init>", desc := "()V" } : Jvm.MethodName) prog_63_method_1_code (1 : Nat) (Option.none : Option Jvm.ClassFile.FieldType)).before args0 about1 = true := code_word (m := ⟨2, 0⟩) (meth := k2m0) (c := k2c0) (by decide +kernel) rfl rfl rfl (by decide +kernel)
set_option maxRecDepth 65536 in
theorem w_c2 : (Jvm.Cond.code ({ cls := "java/lang/Object", name := "<init>", desc := "()V" } : Jvm.MethodName) object_method_1_code (1 : Nat) (Option.none : Option Jvm.ClassFile.FieldType)).before args0 about1 = true := code_word (m := ⟨0, 0⟩) (meth := k0m0) (c := k0c0) (by decide +kernel) rfl rfl rfl (by decide +kernel)
set_option maxRecDepth 65536 in
theorem w_c3 : (Jvm.Cond.code ({ cls := "com/example/rehearsal/rehearsal/engine/Openings", name := "add", desc := "(IJ)V" } : Jvm.MethodName) prog_63_method_3_code (8 : Nat) (Option.none : Option Jvm.ClassFile.FieldType)).before args0 about1 = true := code_word (m := ⟨2, 1⟩) (meth := k2m1) (c := k2c1) (by decide +kernel) rfl rfl rfl (by decide +kernel)
set_option maxRecDepth 65536 in
theorem w_c4 : (Jvm.Cond.code ({ cls := "com/example/rehearsal/rehearsal/engine/Openings", name := "setTo", desc := "(IJI)V" } : Jvm.MethodName) prog_63_method_4_code (5 : Nat) (Option.none : Option Jvm.ClassFile.FieldType)).before args0 about1 = true := code_word (m := ⟨2, 2⟩) (meth := k2m2) (c := k2c2) (by decide +kernel) rfl rfl rfl (by decide +kernel)
set_option maxRecDepth 65536 in
theorem w_c5 : (Jvm.Cond.code ({ cls := "com/example/rehearsal/rehearsal/engine/Openings", name := "count", desc := "()I" } : Jvm.MethodName) prog_63_method_7_code (1 : Nat) (Option.some Jvm.ClassFile.FieldType.int)).before args0 about1 = true := code_word (m := ⟨2, 3⟩) (meth := k2m3) (c := k2c3) (by decide +kernel) rfl rfl rfl (by decide +kernel)
set_option maxRecDepth 65536 in
theorem w_c6 : (Jvm.Cond.code ({ cls := "com/example/rehearsal/rehearsal/engine/Openings", name := "units", desc := "(I)I" } : Jvm.MethodName) prog_63_method_8_code (2 : Nat) (Option.some Jvm.ClassFile.FieldType.int)).before args0 about1 = true := code_word (m := ⟨2, 4⟩) (meth := k2m4) (c := k2c4) (by decide +kernel) rfl rfl rfl (by decide +kernel)
set_option maxRecDepth 65536 in
theorem w_c7 : (Jvm.Cond.code ({ cls := "com/example/rehearsal/rehearsal/engine/Openings", name := "checked", desc := "(I)I" } : Jvm.MethodName) prog_63_method_12_code (2 : Nat) (Option.some Jvm.ClassFile.FieldType.int)).before args0 about1 = true := code_word (m := ⟨2, 7⟩) (meth := k2m7) (c := k2c7) (by decide +kernel) rfl rfl rfl (by decide +kernel)
set_option maxRecDepth 65536 in
theorem w_c8 : (Jvm.Cond.code ({ cls := "java/util/Objects", name := "checkIndex", desc := "(II)I" } : Jvm.MethodName) jdk_31_method_17_code (2 : Nat) (Option.some Jvm.ClassFile.FieldType.int)).before args0 about1 = true := code_word (m := ⟨3, 1⟩) (meth := k3m1) (c := k3c1) (by decide +kernel) rfl rfl rfl (by decide +kernel)
set_option maxRecDepth 65536 in
theorem w_c9 : (Jvm.Cond.code ({ cls := "jdk/internal/util/Preconditions", name := "checkIndex", desc := "(IILjava/util/function/BiFunction;)I" } : Jvm.MethodName) jdk_41_method_11_code (3 : Nat) (Option.some Jvm.ClassFile.FieldType.int)).before args0 about1 = true := code_word (m := ⟨4, 1⟩) (meth := k4m1) (c := k4c1) (by decide +kernel) rfl rfl rfl (by decide +kernel)
set_option maxRecDepth 65536 in
theorem w_c10 : (Jvm.Cond.code ({ cls := "com/example/rehearsal/rehearsal/engine/Openings", name := "duration", desc := "(I)J" } : Jvm.MethodName) prog_63_method_9_code (2 : Nat) (Option.some Jvm.ClassFile.FieldType.long)).before args0 about1 = true := code_word (m := ⟨2, 5⟩) (meth := k2m5) (c := k2c5) (by decide +kernel) rfl rfl rfl (by decide +kernel)
set_option maxRecDepth 65536 in
theorem w_c11 : (Jvm.Cond.code ({ cls := "com/example/rehearsal/rehearsal/engine/Openings", name := "countWithMoreThan", desc := "(J)I" } : Jvm.MethodName) prog_63_method_11_code (6 : Nat) (Option.some Jvm.ClassFile.FieldType.int)).before args0 about1 = true := code_word (m := ⟨2, 6⟩) (meth := k2m6) (c := k2c6) (by decide +kernel) rfl rfl rfl (by decide +kernel)
def codes1 : List Jvm.Cond := [Jvm.Cond.code x code maxLocals ret, Jvm.Cond.code ({ cls := "com/example/rehearsal/rehearsal/engine/Openings", name := "<init>", desc := "()V" } : Jvm.MethodName) prog_63_method_1_code (1 : Nat) (Option.none : Option Jvm.ClassFile.FieldType), Jvm.Cond.code ({ cls := "java/lang/Object", name := "<init>", desc := "()V" } : Jvm.MethodName) object_method_1_code (1 : Nat) (Option.none : Option Jvm.ClassFile.FieldType), Jvm.Cond.code ({ cls := "com/example/rehearsal/rehearsal/engine/Openings", name := "add", desc := "(IJ)V" } : Jvm.MethodName) prog_63_method_3_code (8 : Nat) (Option.none : Option Jvm.ClassFile.FieldType), Jvm.Cond.code ({ cls := "com/example/rehearsal/rehearsal/engine/Openings", name := "setTo", desc := "(IJI)V" } : Jvm.MethodName) prog_63_method_4_code (5 : Nat) (Option.none : Option Jvm.ClassFile.FieldType), Jvm.Cond.code ({ cls := "com/example/rehearsal/rehearsal/engine/Openings", name := "count", desc := "()I" } : Jvm.MethodName) prog_63_method_7_code (1 : Nat) (Option.some Jvm.ClassFile.FieldType.int), Jvm.Cond.code ({ cls := "com/example/rehearsal/rehearsal/engine/Openings", name := "units", desc := "(I)I" } : Jvm.MethodName) prog_63_method_8_code (2 : Nat) (Option.some Jvm.ClassFile.FieldType.int), Jvm.Cond.code ({ cls := "com/example/rehearsal/rehearsal/engine/Openings", name := "checked", desc := "(I)I" } : Jvm.MethodName) prog_63_method_12_code (2 : Nat) (Option.some Jvm.ClassFile.FieldType.int), Jvm.Cond.code ({ cls := "java/util/Objects", name := "checkIndex", desc := "(II)I" } : Jvm.MethodName) jdk_31_method_17_code (2 : Nat) (Option.some Jvm.ClassFile.FieldType.int), Jvm.Cond.code ({ cls := "jdk/internal/util/Preconditions", name := "checkIndex", desc := "(IILjava/util/function/BiFunction;)I" } : Jvm.MethodName) jdk_41_method_11_code (3 : Nat) (Option.some Jvm.ClassFile.FieldType.int), Jvm.Cond.code ({ cls := "com/example/rehearsal/rehearsal/engine/Openings", name := "duration", desc := "(I)J" } : Jvm.MethodName) prog_63_method_9_code (2 : Nat) (Option.some Jvm.ClassFile.FieldType.long), Jvm.Cond.code ({ cls := "com/example/rehearsal/rehearsal/engine/Openings", name := "countWithMoreThan", desc := "(J)I" } : Jvm.MethodName) prog_63_method_11_code (6 : Nat) (Option.some Jvm.ClassFile.FieldType.int)]
set_option maxRecDepth 65536 in
theorem codes_eq : words1.filter isCode = codes1 := rfl
theorem w_codes : ∀ c ∈ words1.filter isCode, c.before args0 about1 = true := by
  rw [codes_eq]
  intro c hc
  simp only [codes1, List.mem_cons, List.not_mem_nil, or_false] at hc
  rcases hc with rfl | rfl | rfl | rfl | rfl | rfl | rfl | rfl | rfl | rfl | rfl | rfl
  · exact w_c0
  · exact w_c1
  · exact w_c2
  · exact w_c3
  · exact w_c4
  · exact w_c5
  · exact w_c6
  · exact w_c7
  · exact w_c8
  · exact w_c9
  · exact w_c10
  · exact w_c11
set_option maxRecDepth 65536 in
theorem w_t1 : (words1.take 24).all (fun c => isCode c || c.before args0 about1) = true := by decide +kernel
set_option maxRecDepth 65536 in
theorem w_t2 : ((words1.drop 24).take 24).all (fun c => isCode c || c.before args0 about1) = true := by decide +kernel
set_option maxRecDepth 65536 in
theorem w_t3 : ((words1.drop 24).drop 24).all (fun c => isCode c || c.before args0 about1) = true := by decide +kernel
theorem w_tables : (allAtoms (Jvm.Cond.code x code maxLocals ret :: tables_1)).before args0 about1 = true := by
  rw [allAtoms_all]
  show words1.all (fun c => c.before args0 about1) = true
  refine all_split ?_ w_codes
  rw [← List.take_append_drop 24 words1, List.all_append, w_t1, ← List.take_append_drop 24 (words1.drop 24), List.all_append, w_t2, w_t3]
  rfl
set_option maxRecDepth 65536 in
theorem w_case : (Jvm.Cond.and given_1 narrow_1).before args0 about1 = true := by decide +kernel
theorem w_applies : (headSpec (Jvm.Cond.code x code maxLocals ret :: tables_1) room_1).applies x e0.platform about1 = true :=
  (Spec.applies_iff w_frames).mpr ⟨w_running, w_runnable, w_alone, w_named, w_hears, w_ripe, w_room, w_tables⟩
theorem atStart : AtStart classFile x code maxLocals ret World_1 tables_1 room_1 Calls_1 rest_1 Pre_1 launch0 p0 e0 about1 theMethod args0 below0 :=
  ⟨lists_1, trivial, launch0.admits_env _ _ _, launch0.least_env, fairChoices_fair.cas, fairChoices_fair.clock, w_frames, w_args, w_heap, w_applies, trivial, trivial, w_case⟩
end start1
theorem witness_1 : WitnessClaimed_1 := ⟨start1.p0, start1.e0, start1.about1, start1.theMethod, start1.args0, start1.below0, start1.atStart⟩
end Jvm.Pilot.@@N@@
