import JvmDerived
import JvmDerived.Pilot.@@N@@Statement
import JvmDerived.Pilot.@@N@@Code
set_option linter.unusedVariables false
set_option linter.unusedSimpArgs false
namespace Jvm.OwnKit
open Sem ClassFile Op Lib Jvm.Stand Jvm.Free Jvm.LawKit Jvm.RoadKit
/-- from this pc, with these locals, this stack and this heap, the body returns and Q holds -/
def Go (Z : State) (l : Launch) (R : Room) (B : ByteArray) (ml : Nat) (own : String) (rt : Option FieldType) (mn : String) (pc : Nat) (Ls : Array Slot) (st : List Value) (h : Heap) (L : List Loc) (k n : Nat) (Q : Option Value → Heap → List Loc → Prop) : Prop :=
  ∀ (p : Program) (e : Env) (s : State) (m : MethodId) (args : Array Value) (below : List Frame) (meth : Method) (c : Code) (T : State),
    Stand p l e R s m args below meth c T L k n → p.tables.exec = Jvm.exec → Z.Warmed39 s.vm → c.code = B → c.maxLocals = ml → s.vm.findClass own = some m.cls → meth.sig.returnType = rt → meth.locks = false → meth.name = mn → T.heap = h →
    ∃ s₂ o, Steps p.tables e below (T.setTop (mkF m pc Ls st)) s₂ ∧ s₂.status = .running ∧ Ended s₂ below o ∧ ∃ v L', o = .returned v ∧ Q v s₂.heap L' ∧ FrameEnd s o s₂ L' R.cells R.slots
/-- a callee's contract at these arguments and this heap -/
def Con (l : Launch) (Z : State) (y : MethodName) (B : ByteArray) (ml : Nat) (rt : Option FieldType) (R : Room) (ws : List Jvm.Cond) (as' : Array Value) (h0 : Heap) (Q : Option Value → Heap → List Loc → Prop) : Prop :=
  MetFree l y (head1 (Jvm.Cond.code y B ml rt :: ws) R) (fun a U => a = as' ∧ Z.Warmed39 U.vm ∧ U.heap = h0) (fun _ _ _ _ _ => True) (fun _ U o U' => ∃ v L, o = .returned v ∧ Q v U'.heap L ∧ FrameEnd U o U' L R.cells R.slots)
/-- the law returns true, and nothing old was written -/
def LawQ (n0 : Nat) (v : Option Value) (_ : Heap) (L : List Loc) : Prop := v = some (.int (1 : Int32)) ∧ Fr n0 L
/-- it returns v0, and nothing was written or made -/
def PQ (h0 : Heap) (v0 : Option Value) (v : Option Value) (h : Heap) (L : List Loc) : Prop := v = v0 ∧ h = h0 ∧ L = []
theorem con_of {l : Launch} {Z : State} {y : MethodName} {B : ByteArray} {ml : Nat} {rt : Option FieldType} {R : Room} {ws : List Jvm.Cond} {as' : Array Value} {h0 : Heap} {Q : Option Value → Heap → List Loc → Prop} {Ls : Array Slot}
    (hp : plainFor y = true) (ef : ∀ m, entryFrame m as' ml = mkF m 0 Ls []) (g : Go Z l R B ml y.cls rt y.name 0 Ls [] h0 [] 0 0 Q) : Con l Z y B ml rt R ws as' h0 Q := by
  refine MetFree.of_bodySF hp hisR ?_
  intro p e s m args below meth c s₁ Bd hml0 hP hK
  obtain ⟨rfl, hZ, hh⟩ := hP
  have e0 : s₁.heap = h0 := by rw [← hh, Bd.state]; rfl
  obtain ⟨s₂, o, h1, h2⟩ := g p e s m _ below meth c s₁ (Stand.of_body Bd) Bd.exec hZ Bd.bytes hml0 (findClass_of_methodNamed Bd.named) Bd.returns (BodyLoose.notSynchronized Bd) (name_of_methodNamed Bd.named Bd.method).1 e0
  exact ⟨s₂, o, castTop (ef m) h1, h2⟩
theorem Con.mono {l : Launch} {Z : State} {y : MethodName} {B : ByteArray} {ml : Nat} {rt : Option FieldType} {R : Room} {ws : List Jvm.Cond} {as' : Array Value} {h0 : Heap} {Q Q' : Option Value → Heap → List Loc → Prop} (c : Con l Z y B ml rt R ws as' h0 Q) (q : ∀ v h L, Q v h L → Q' v h L) : Con l Z y B ml rt R ws as' h0 Q' := by
  intro p e ha hc hk s m args below hf happ hP hK
  obtain ⟨n, o, h1, h2, h3, v, L, h4, h5, h6⟩ := c p e ha hc hk s m args below hf happ hP hK
  exact ⟨n, o, h1, h2, h3, v, L, h4, q _ _ _ h5, h6⟩
theorem fr_one {q : Nat} {L : List Loc} {a : Addr} {sl : Nat} (N : Fr q L) (g : q ≤ a) : Fr q (L ++ [⟨a, sl⟩]) := N.app fun y hy => by cases List.mem_singleton.mp hy; exact g
section Rules
variable {Z : State} {l : Launch} {R : Room} {B : ByteArray} {ml : Nat} {own : String} {rt : Option FieldType} {mn : String} {pc pc' : Nat} {Ls : Array Slot} {h : Heap} {L : List Loc} {k n : Nat} {Q : Option Value → Heap → List Loc → Prop} {rest : List Value}
theorem Go.mono {st : List Value} {Q' : Option Value → Heap → List Loc → Prop} (q : ∀ v h L, Q v h L → Q' v h L) (g : Go Z l R B ml own rt mn pc Ls st h L k n Q) : Go Z l R B ml own rt mn pc Ls st h L k n Q' := by
  intro p e s m args below meth c T X hx hZ hby hml hown hrt hlk hnm eT
  obtain ⟨s₂, o, h1, h2, h3, v, L', h4, h5, h6⟩ := g p e s m args below meth c T X hx hZ hby hml hown hrt hlk hnm eT
  exact ⟨s₂, o, h1, h2, h3, v, L', h4, q _ _ _ h5, h6⟩
theorem Go.pure {st st' : List Value} {Ls' : Array Slot} (step : ∀ (p : Program) (e : Env) (below : List Frame) (T : State) (m : MethodId) (c : Code) (target : State), At T m c below → p.tables.exec = Jvm.exec → c.code = B → Steps p.tables e below (T.setTop (mkF m pc' Ls' st')) target → Steps p.tables e below (T.setTop (mkF m pc Ls st)) target)
    (g : Go Z l R B ml own rt mn pc' Ls' st' h L k n Q) : Go Z l R B ml own rt mn pc Ls st h L k n Q := by
  intro p e s m args below meth c T X hx hZ hby hml hown hrt hlk hnm eT
  obtain ⟨s₂, o, h1, h2⟩ := g p e s m args below meth c T X hx hZ hby hml hown hrt hlk hnm eT
  exact ⟨s₂, o, step p e below T m c s₂ X.here hx hby h1, h2⟩
theorem Go.iload {st : List Value} {i : Nat} {v : Int32} (hd : decode B pc = .ok (.iload i, 2)) (hp : pc + 2 = pc') (hl : Ls[i]? = some (.val (.int v))) (g : Go Z l R B ml own rt mn pc' Ls (.int v :: st) h L k n Q) : Go Z l R B ml own rt mn pc Ls st h L k n Q := by
  subst hp; exact Go.pure (fun p e below T m c t hA hx hB hr => XS.iload hA hx rfl (hb hB hd) hl hr) g
theorem Go.iloadN {st : List Value} {i : Fin 4} {v : Int32} (hd : decode B pc = .ok (.iload_n i, 1)) (hp : pc + 1 = pc') (hl : Ls[i.val]? = some (.val (.int v))) (g : Go Z l R B ml own rt mn pc' Ls (.int v :: st) h L k n Q) : Go Z l R B ml own rt mn pc Ls st h L k n Q := by
  subst hp; exact Go.pure (fun p e below T m c t hA hx hB hr => XS.iloadN hA hx rfl (hb hB hd) hl hr) g
theorem Go.lload {st : List Value} {i : Nat} {v : Int64} (hd : decode B pc = .ok (.lload i, 2)) (hp : pc + 2 = pc') (hl : Ls[i]? = some (.val (.long v))) (g : Go Z l R B ml own rt mn pc' Ls (.long v :: st) h L k n Q) : Go Z l R B ml own rt mn pc Ls st h L k n Q := by
  subst hp; exact Go.pure (fun p e below T m c t hA hx hB hr => XS.lload hA hx rfl (hb hB hd) hl hr) g
theorem Go.lloadN {st : List Value} {i : Fin 4} {v : Int64} (hd : decode B pc = .ok (.lload_n i, 1)) (hp : pc + 1 = pc') (hl : Ls[i.val]? = some (.val (.long v))) (g : Go Z l R B ml own rt mn pc' Ls (.long v :: st) h L k n Q) : Go Z l R B ml own rt mn pc Ls st h L k n Q := by
  subst hp; exact Go.pure (fun p e below T m c t hA hx hB hr => XS.lloadN hA hx rfl (hb hB hd) hl hr) g
theorem Go.aload {st : List Value} {i : Nat} {v : Value} (hd : decode B pc = .ok (.aload i, 2)) (hp : pc + 2 = pc') (hl : Ls[i]? = some (.val v)) (hv : v.isRef = true) (g : Go Z l R B ml own rt mn pc' Ls (v :: st) h L k n Q) : Go Z l R B ml own rt mn pc Ls st h L k n Q := by
  subst hp; exact Go.pure (fun p e below T m c t hA hx hB hr => XS.aload hA hx rfl (hb hB hd) hl hv hr) g
theorem Go.aloadN {st : List Value} {i : Fin 4} {v : Value} (hd : decode B pc = .ok (.aload_n i, 1)) (hp : pc + 1 = pc') (hl : Ls[i.val]? = some (.val v)) (hv : v.isRef = true) (g : Go Z l R B ml own rt mn pc' Ls (v :: st) h L k n Q) : Go Z l R B ml own rt mn pc Ls st h L k n Q := by
  subst hp; exact Go.pure (fun p e below T m c t hA hx hB hr => XS.aloadN hA hx rfl (hb hB hd) hl hv hr) g
theorem Go.istore {i : Nat} {v : Int32} {Ls' : Array Slot} (hd : decode B pc = .ok (.istore i, 2)) (hp : pc + 2 = pc') (hl : storeLocals Ls i (.int v) = some Ls') (g : Go Z l R B ml own rt mn pc' Ls' rest h L k n Q) : Go Z l R B ml own rt mn pc Ls (.int v :: rest) h L k n Q := by
  subst hp; exact Go.pure (fun p e below T m c t hA hx hB hr => XS.istore hA hx rfl (hb hB hd) rfl hl hr) g
theorem Go.istoreN {i : Fin 4} {v : Int32} {Ls' : Array Slot} (hd : decode B pc = .ok (.istore_n i, 1)) (hp : pc + 1 = pc') (hl : storeLocals Ls i.val (.int v) = some Ls') (g : Go Z l R B ml own rt mn pc' Ls' rest h L k n Q) : Go Z l R B ml own rt mn pc Ls (.int v :: rest) h L k n Q := by
  subst hp; exact Go.pure (fun p e below T m c t hA hx hB hr => XS.istoreN hA hx rfl (hb hB hd) rfl hl hr) g
theorem Go.lstore {i : Nat} {v : Int64} {Ls' : Array Slot} (hd : decode B pc = .ok (.lstore i, 2)) (hp : pc + 2 = pc') (hl : storeLocals Ls i (.long v) = some Ls') (g : Go Z l R B ml own rt mn pc' Ls' rest h L k n Q) : Go Z l R B ml own rt mn pc Ls (.long v :: rest) h L k n Q := by
  subst hp; exact Go.pure (fun p e below T m c t hA hx hB hr => XS.lstore hA hx rfl (hb hB hd) rfl hl hr) g
theorem Go.lstoreN {i : Fin 4} {v : Int64} {Ls' : Array Slot} (hd : decode B pc = .ok (.lstore_n i, 1)) (hp : pc + 1 = pc') (hl : storeLocals Ls i.val (.long v) = some Ls') (g : Go Z l R B ml own rt mn pc' Ls' rest h L k n Q) : Go Z l R B ml own rt mn pc Ls (.long v :: rest) h L k n Q := by
  subst hp; exact Go.pure (fun p e below T m c t hA hx hB hr => XS.lstoreN hA hx rfl (hb hB hd) rfl hl hr) g
theorem Go.astore {i : Nat} {v : Value} {Ls' : Array Slot} (hd : decode B pc = .ok (.astore i, 2)) (hp : pc + 2 = pc') (hv : v.isRef = true) (hl : storeLocals Ls i v = some Ls') (g : Go Z l R B ml own rt mn pc' Ls' rest h L k n Q) : Go Z l R B ml own rt mn pc Ls (v :: rest) h L k n Q := by
  subst hp; exact Go.pure (fun p e below T m c t hA hx hB hr => XS.astore hA hx rfl (hb hB hd) rfl hv hl hr) g
theorem Go.astoreN {i : Fin 4} {v : Value} {Ls' : Array Slot} (hd : decode B pc = .ok (.astore_n i, 1)) (hp : pc + 1 = pc') (hv : v.isRef = true) (hl : storeLocals Ls i.val v = some Ls') (g : Go Z l R B ml own rt mn pc' Ls' rest h L k n Q) : Go Z l R B ml own rt mn pc Ls (v :: rest) h L k n Q := by
  subst hp; exact Go.pure (fun p e below T m c t hA hx hB hr => XS.astoreN hA hx rfl (hb hB hd) rfl hv hl hr) g
theorem Go.iinc {st : List Value} {i : Nat} {cst : Int} {x z : Int32} {Ls' : Array Slot} (hd : decode B pc = .ok (.iinc i cst, 3)) (hp : pc + 3 = pc') (hv : Ls[i]? = some (.val (.int x))) (hz : x + Int32.ofInt cst = z) (hl : storeLocals Ls i (.int z) = some Ls') (g : Go Z l R B ml own rt mn pc' Ls' st h L k n Q) : Go Z l R B ml own rt mn pc Ls st h L k n Q := by
  subst hz; subst hp; exact Go.pure (fun p e below T m c t hA hx hB hr => XS.iinc hA hx rfl (hb hB hd) hv hl hr) g
theorem Go.iconst {st : List Value} {i : Int} {z : Int32} (hd : decode B pc = .ok (.iconst i, 1)) (hp : pc + 1 = pc') (hz : Int32.ofInt i = z) (g : Go Z l R B ml own rt mn pc' Ls (.int z :: st) h L k n Q) : Go Z l R B ml own rt mn pc Ls st h L k n Q := by
  subst hz; subst hp; exact Go.pure (fun p e below T m c t hA hx hB hr => XS.iconst hA hx rfl (hb hB hd) hr) g
theorem Go.bipush {st : List Value} {i : Int} {z : Int32} (hd : decode B pc = .ok (.bipush i, 2)) (hp : pc + 2 = pc') (hz : (Int8.ofInt i).toInt32 = z) (g : Go Z l R B ml own rt mn pc' Ls (.int z :: st) h L k n Q) : Go Z l R B ml own rt mn pc Ls st h L k n Q := by
  subst hz; subst hp; exact Go.pure (fun p e below T m c t hA hx hB hr => XS.bipush hA hx rfl (hb hB hd) hr) g
theorem Go.sipush {st : List Value} {i : Int} {z : Int32} (hd : decode B pc = .ok (.sipush i, 3)) (hp : pc + 3 = pc') (hz : (Int16.ofInt i).toInt32 = z) (g : Go Z l R B ml own rt mn pc' Ls (.int z :: st) h L k n Q) : Go Z l R B ml own rt mn pc Ls st h L k n Q := by
  subst hz; subst hp; exact Go.pure (fun p e below T m c t hA hx hB hr => XS.sipush hA hx rfl (hb hB hd) hr) g
theorem Go.lconst {st : List Value} {i : Fin 2} {z : Int64} (hd : decode B pc = .ok (.lconst i, 1)) (hp : pc + 1 = pc') (hz : Int64.ofNat i = z) (g : Go Z l R B ml own rt mn pc' Ls (.long z :: st) h L k n Q) : Go Z l R B ml own rt mn pc Ls st h L k n Q := by
  subst hz; subst hp; exact Go.pure (fun p e below T m c t hA hx hB hr => XS.lconst hA hx rfl (hb hB hd) hr) g
theorem Go.aconstNull {st : List Value} (hd : decode B pc = .ok (.aconst_null, 1)) (hp : pc + 1 = pc') (g : Go Z l R B ml own rt mn pc' Ls (.null :: st) h L k n Q) : Go Z l R B ml own rt mn pc Ls st h L k n Q := by
  subst hp; exact Go.pure (fun p e below T m c t hA hx hB hr => XS.aconstNull hA hx rfl (hb hB hd) hr) g
theorem Go.iadd {x y z : Int32} (hd : decode B pc = .ok (.iadd, 1)) (hp : pc + 1 = pc') (hz : x + y = z) (g : Go Z l R B ml own rt mn pc' Ls (.int z :: rest) h L k n Q) : Go Z l R B ml own rt mn pc Ls (.int y :: .int x :: rest) h L k n Q := by
  subst hz; subst hp; exact Go.pure (fun p e below T m c t hA hx hB hr => XS.iadd hA hx rfl (hb hB hd) rfl hr) g
theorem Go.ladd {x y z : Int64} (hd : decode B pc = .ok (.ladd, 1)) (hp : pc + 1 = pc') (hz : x + y = z) (g : Go Z l R B ml own rt mn pc' Ls (.long z :: rest) h L k n Q) : Go Z l R B ml own rt mn pc Ls (.long y :: .long x :: rest) h L k n Q := by
  subst hz; subst hp; exact Go.pure (fun p e below T m c t hA hx hB hr => XS.ladd hA hx rfl (hb hB hd) rfl hr) g
theorem Go.isub {x y z : Int32} (hd : decode B pc = .ok (.isub, 1)) (hp : pc + 1 = pc') (hz : x - y = z) (g : Go Z l R B ml own rt mn pc' Ls (.int z :: rest) h L k n Q) : Go Z l R B ml own rt mn pc Ls (.int y :: .int x :: rest) h L k n Q := by
  subst hz; subst hp; exact Go.pure (fun p e below T m c t hA hx hB hr => XS.isub hA hx rfl (hb hB hd) rfl hr) g
theorem Go.lsub {x y z : Int64} (hd : decode B pc = .ok (.lsub, 1)) (hp : pc + 1 = pc') (hz : x - y = z) (g : Go Z l R B ml own rt mn pc' Ls (.long z :: rest) h L k n Q) : Go Z l R B ml own rt mn pc Ls (.long y :: .long x :: rest) h L k n Q := by
  subst hz; subst hp; exact Go.pure (fun p e below T m c t hA hx hB hr => XS.lsub hA hx rfl (hb hB hd) rfl hr) g
theorem Go.imul {x y z : Int32} (hd : decode B pc = .ok (.imul, 1)) (hp : pc + 1 = pc') (hz : x * y = z) (g : Go Z l R B ml own rt mn pc' Ls (.int z :: rest) h L k n Q) : Go Z l R B ml own rt mn pc Ls (.int y :: .int x :: rest) h L k n Q := by
  subst hz; subst hp; exact Go.pure (fun p e below T m c t hA hx hB hr => XS.imul hA hx rfl (hb hB hd) rfl hr) g
theorem Go.lmul {x y z : Int64} (hd : decode B pc = .ok (.lmul, 1)) (hp : pc + 1 = pc') (hz : x * y = z) (g : Go Z l R B ml own rt mn pc' Ls (.long z :: rest) h L k n Q) : Go Z l R B ml own rt mn pc Ls (.long y :: .long x :: rest) h L k n Q := by
  subst hz; subst hp; exact Go.pure (fun p e below T m c t hA hx hB hr => XS.lmul hA hx rfl (hb hB hd) rfl hr) g
theorem Go.iand {x y z : Int32} (hd : decode B pc = .ok (.iand, 1)) (hp : pc + 1 = pc') (hz : x &&& y = z) (g : Go Z l R B ml own rt mn pc' Ls (.int z :: rest) h L k n Q) : Go Z l R B ml own rt mn pc Ls (.int y :: .int x :: rest) h L k n Q := by
  subst hz; subst hp; exact Go.pure (fun p e below T m c t hA hx hB hr => XS.iand hA hx rfl (hb hB hd) rfl hr) g
theorem Go.land {x y z : Int64} (hd : decode B pc = .ok (.land, 1)) (hp : pc + 1 = pc') (hz : x &&& y = z) (g : Go Z l R B ml own rt mn pc' Ls (.long z :: rest) h L k n Q) : Go Z l R B ml own rt mn pc Ls (.long y :: .long x :: rest) h L k n Q := by
  subst hz; subst hp; exact Go.pure (fun p e below T m c t hA hx hB hr => XS.land hA hx rfl (hb hB hd) rfl hr) g
theorem Go.ior {x y z : Int32} (hd : decode B pc = .ok (.ior, 1)) (hp : pc + 1 = pc') (hz : x ||| y = z) (g : Go Z l R B ml own rt mn pc' Ls (.int z :: rest) h L k n Q) : Go Z l R B ml own rt mn pc Ls (.int y :: .int x :: rest) h L k n Q := by
  subst hz; subst hp; exact Go.pure (fun p e below T m c t hA hx hB hr => XS.ior hA hx rfl (hb hB hd) rfl hr) g
theorem Go.lor {x y z : Int64} (hd : decode B pc = .ok (.lor, 1)) (hp : pc + 1 = pc') (hz : x ||| y = z) (g : Go Z l R B ml own rt mn pc' Ls (.long z :: rest) h L k n Q) : Go Z l R B ml own rt mn pc Ls (.long y :: .long x :: rest) h L k n Q := by
  subst hz; subst hp; exact Go.pure (fun p e below T m c t hA hx hB hr => XS.lor hA hx rfl (hb hB hd) rfl hr) g
theorem Go.ixor {x y z : Int32} (hd : decode B pc = .ok (.ixor, 1)) (hp : pc + 1 = pc') (hz : x ^^^ y = z) (g : Go Z l R B ml own rt mn pc' Ls (.int z :: rest) h L k n Q) : Go Z l R B ml own rt mn pc Ls (.int y :: .int x :: rest) h L k n Q := by
  subst hz; subst hp; exact Go.pure (fun p e below T m c t hA hx hB hr => XS.ixor hA hx rfl (hb hB hd) rfl hr) g
theorem Go.lxor {x y z : Int64} (hd : decode B pc = .ok (.lxor, 1)) (hp : pc + 1 = pc') (hz : x ^^^ y = z) (g : Go Z l R B ml own rt mn pc' Ls (.long z :: rest) h L k n Q) : Go Z l R B ml own rt mn pc Ls (.long y :: .long x :: rest) h L k n Q := by
  subst hz; subst hp; exact Go.pure (fun p e below T m c t hA hx hB hr => XS.lxor hA hx rfl (hb hB hd) rfl hr) g
theorem Go.idiv {x y z : Int32} (hd : decode B pc = .ok (.idiv, 1)) (hp : pc + 1 = pc') (hy : y ≠ 0) (hz : x / y = z) (g : Go Z l R B ml own rt mn pc' Ls (.int z :: rest) h L k n Q) : Go Z l R B ml own rt mn pc Ls (.int y :: .int x :: rest) h L k n Q := by
  subst hz; subst hp; exact Go.pure (fun p e below T m c t hA hx hB hr => XS.idiv hA hx rfl (hb hB hd) rfl hy hr) g
theorem Go.ldiv {x y z : Int64} (hd : decode B pc = .ok (.ldiv, 1)) (hp : pc + 1 = pc') (hy : y ≠ 0) (hz : x / y = z) (g : Go Z l R B ml own rt mn pc' Ls (.long z :: rest) h L k n Q) : Go Z l R B ml own rt mn pc Ls (.long y :: .long x :: rest) h L k n Q := by
  subst hz; subst hp; exact Go.pure (fun p e below T m c t hA hx hB hr => XS.ldiv hA hx rfl (hb hB hd) rfl hy hr) g
theorem Go.irem {x y z : Int32} (hd : decode B pc = .ok (.irem, 1)) (hp : pc + 1 = pc') (hy : y ≠ 0) (hz : x % y = z) (g : Go Z l R B ml own rt mn pc' Ls (.int z :: rest) h L k n Q) : Go Z l R B ml own rt mn pc Ls (.int y :: .int x :: rest) h L k n Q := by
  subst hz; subst hp; exact Go.pure (fun p e below T m c t hA hx hB hr => XS.irem hA hx rfl (hb hB hd) rfl hy (by rw [show x - x / y * y = x % y from irem_eq_mod x y]; exact hr)) g
theorem Go.lrem {x y z : Int64} (hd : decode B pc = .ok (.lrem, 1)) (hp : pc + 1 = pc') (hy : y ≠ 0) (hz : x % y = z) (g : Go Z l R B ml own rt mn pc' Ls (.long z :: rest) h L k n Q) : Go Z l R B ml own rt mn pc Ls (.long y :: .long x :: rest) h L k n Q := by
  subst hz; subst hp; exact Go.pure (fun p e below T m c t hA hx hB hr => XS.lrem hA hx rfl (hb hB hd) rfl hy (by rw [show x - x / y * y = x % y from lrem_mod x y]; exact hr)) g
theorem Go.ishl {x y z : Int32} (hd : decode B pc = .ok (.ishl, 1)) (hp : pc + 1 = pc') (hz : x <<< (y &&& 31) = z) (g : Go Z l R B ml own rt mn pc' Ls (.int z :: rest) h L k n Q) : Go Z l R B ml own rt mn pc Ls (.int y :: .int x :: rest) h L k n Q := by
  subst hz; subst hp; exact Go.pure (fun p e below T m c t hA hx hB hr => XS.ishl hA hx rfl (hb hB hd) rfl hr) g
theorem Go.ishr {x y z : Int32} (hd : decode B pc = .ok (.ishr, 1)) (hp : pc + 1 = pc') (hz : x >>> (y &&& 31) = z) (g : Go Z l R B ml own rt mn pc' Ls (.int z :: rest) h L k n Q) : Go Z l R B ml own rt mn pc Ls (.int y :: .int x :: rest) h L k n Q := by
  subst hz; subst hp; exact Go.pure (fun p e below T m c t hA hx hB hr => XS.ishr hA hx rfl (hb hB hd) rfl hr) g
theorem Go.iushr {x y z : Int32} (hd : decode B pc = .ok (.iushr, 1)) (hp : pc + 1 = pc') (hz : (x.toUInt32 >>> (y &&& 31).toUInt32).toInt32 = z) (g : Go Z l R B ml own rt mn pc' Ls (.int z :: rest) h L k n Q) : Go Z l R B ml own rt mn pc Ls (.int y :: .int x :: rest) h L k n Q := by
  subst hz; subst hp; exact Go.pure (fun p e below T m c t hA hx hB hr => XS.iushr hA hx rfl (hb hB hd) rfl hr) g
theorem Go.lshl {x z : Int64} {y : Int32} (hd : decode B pc = .ok (.lshl, 1)) (hp : pc + 1 = pc') (hz : x <<< (y &&& 0x3f).toInt64 = z) (g : Go Z l R B ml own rt mn pc' Ls (.long z :: rest) h L k n Q) : Go Z l R B ml own rt mn pc Ls (.int y :: .long x :: rest) h L k n Q := by
  subst hz; subst hp; exact Go.pure (fun p e below T m c t hA hx hB hr => XS.lshl hA hx rfl (hb hB hd) rfl hr) g
theorem Go.lshr {x z : Int64} {y : Int32} (hd : decode B pc = .ok (.lshr, 1)) (hp : pc + 1 = pc') (hz : x >>> (y &&& 0x3f).toInt64 = z) (g : Go Z l R B ml own rt mn pc' Ls (.long z :: rest) h L k n Q) : Go Z l R B ml own rt mn pc Ls (.int y :: .long x :: rest) h L k n Q := by
  subst hz; subst hp; exact Go.pure (fun p e below T m c t hA hx hB hr => XS.lshr hA hx rfl (hb hB hd) rfl hr) g
theorem Go.lushr {x z : Int64} {y : Int32} (hd : decode B pc = .ok (.lushr, 1)) (hp : pc + 1 = pc') (hz : (x.toUInt64 >>> (y &&& 0x3f).toInt64.toUInt64).toInt64 = z) (g : Go Z l R B ml own rt mn pc' Ls (.long z :: rest) h L k n Q) : Go Z l R B ml own rt mn pc Ls (.int y :: .long x :: rest) h L k n Q := by
  subst hz; subst hp; exact Go.pure (fun p e below T m c t hA hx hB hr => XS.lushr hA hx rfl (hb hB hd) rfl hr) g
theorem Go.ineg {x : Int32} {z : Int32} (hd : decode B pc = .ok (.ineg, 1)) (hp : pc + 1 = pc') (hz : -x = z) (g : Go Z l R B ml own rt mn pc' Ls (.int z :: rest) h L k n Q) : Go Z l R B ml own rt mn pc Ls (.int x :: rest) h L k n Q := by
  subst hz; subst hp; exact Go.pure (fun p e below T m c t hA hx hB hr => XS.ineg hA hx rfl (hb hB hd) rfl hr) g
theorem Go.lneg {x : Int64} {z : Int64} (hd : decode B pc = .ok (.lneg, 1)) (hp : pc + 1 = pc') (hz : -x = z) (g : Go Z l R B ml own rt mn pc' Ls (.long z :: rest) h L k n Q) : Go Z l R B ml own rt mn pc Ls (.long x :: rest) h L k n Q := by
  subst hz; subst hp; exact Go.pure (fun p e below T m c t hA hx hB hr => XS.lneg hA hx rfl (hb hB hd) rfl hr) g
theorem Go.i2l {x : Int32} {z : Int64} (hd : decode B pc = .ok (.i2l, 1)) (hp : pc + 1 = pc') (hz : x.toInt64 = z) (g : Go Z l R B ml own rt mn pc' Ls (.long z :: rest) h L k n Q) : Go Z l R B ml own rt mn pc Ls (.int x :: rest) h L k n Q := by
  subst hz; subst hp; exact Go.pure (fun p e below T m c t hA hx hB hr => XS.i2l hA hx rfl (hb hB hd) rfl hr) g
theorem Go.l2i {x : Int64} {z : Int32} (hd : decode B pc = .ok (.l2i, 1)) (hp : pc + 1 = pc') (hz : x.toInt32 = z) (g : Go Z l R B ml own rt mn pc' Ls (.int z :: rest) h L k n Q) : Go Z l R B ml own rt mn pc Ls (.long x :: rest) h L k n Q := by
  subst hz; subst hp; exact Go.pure (fun p e below T m c t hA hx hB hr => XS.l2i hA hx rfl (hb hB hd) rfl hr) g
theorem Go.i2b {x : Int32} {z : Int32} (hd : decode B pc = .ok (.i2b, 1)) (hp : pc + 1 = pc') (hz : x.toInt8.toInt32 = z) (g : Go Z l R B ml own rt mn pc' Ls (.int z :: rest) h L k n Q) : Go Z l R B ml own rt mn pc Ls (.int x :: rest) h L k n Q := by
  subst hz; subst hp; exact Go.pure (fun p e below T m c t hA hx hB hr => XS.i2b hA hx rfl (hb hB hd) rfl hr) g
theorem Go.i2s {x : Int32} {z : Int32} (hd : decode B pc = .ok (.i2s, 1)) (hp : pc + 1 = pc') (hz : x.toInt16.toInt32 = z) (g : Go Z l R B ml own rt mn pc' Ls (.int z :: rest) h L k n Q) : Go Z l R B ml own rt mn pc Ls (.int x :: rest) h L k n Q := by
  subst hz; subst hp; exact Go.pure (fun p e below T m c t hA hx hB hr => XS.i2s hA hx rfl (hb hB hd) rfl hr) g
theorem Go.i2c {x : Int32} {z : Int32} (hd : decode B pc = .ok (.i2c, 1)) (hp : pc + 1 = pc') (hz : x.toUInt32.toUInt16.toUInt32.toInt32 = z) (g : Go Z l R B ml own rt mn pc' Ls (.int z :: rest) h L k n Q) : Go Z l R B ml own rt mn pc Ls (.int x :: rest) h L k n Q := by
  subst hz; subst hp; exact Go.pure (fun p e below T m c t hA hx hB hr => XS.i2c hA hx rfl (hb hB hd) rfl hr) g
theorem Go.dup {x : Value} (hd : decode B pc = .ok (.dup, 1)) (hp : pc + 1 = pc') (hc : x.category = 1) (g : Go Z l R B ml own rt mn pc' Ls (x :: x :: rest) h L k n Q) : Go Z l R B ml own rt mn pc Ls (x :: rest) h L k n Q := by
  subst hp; exact Go.pure (fun p e below T m c t hA hx hB hr => XS.dup hA hx rfl (hb hB hd) rfl hc hr) g
theorem Go.dupX1 {x y : Value} (hd : decode B pc = .ok (.dup_x1, 1)) (hp : pc + 1 = pc') (hc : x.category = 1) (hc' : y.category = 1) (g : Go Z l R B ml own rt mn pc' Ls (x :: y :: x :: rest) h L k n Q) : Go Z l R B ml own rt mn pc Ls (x :: y :: rest) h L k n Q := by
  subst hp; exact Go.pure (fun p e below T m c t hA hx hB hr => XS.dupX1 hA hx rfl (hb hB hd) rfl hc hc' hr) g
theorem Go.pop {x : Value} (hd : decode B pc = .ok (.pop, 1)) (hp : pc + 1 = pc') (hc : x.category = 1) (g : Go Z l R B ml own rt mn pc' Ls rest h L k n Q) : Go Z l R B ml own rt mn pc Ls (x :: rest) h L k n Q := by
  subst hp; exact Go.pure (fun p e below T m c t hA hx hB hr => XS.pop hA hx rfl (hb hB hd) rfl hc hr) g
theorem Go.dup2 {x y : Value} (hd : decode B pc = .ok (.dup2, 1)) (hp : pc + 1 = pc') (hc : x.category = 1) (hc' : y.category = 1) (g : Go Z l R B ml own rt mn pc' Ls (x :: y :: x :: y :: rest) h L k n Q) : Go Z l R B ml own rt mn pc Ls (x :: y :: rest) h L k n Q := by
  subst hp; exact Go.pure (fun p e below T m c t hA hx hB hr => XT.dup2 hA hx rfl (hb hB hd) rfl hc hc' hr) g
theorem Go.dup2L {x : Int64} (hd : decode B pc = .ok (.dup2, 1)) (hp : pc + 1 = pc') (g : Go Z l R B ml own rt mn pc' Ls (.long x :: .long x :: rest) h L k n Q) : Go Z l R B ml own rt mn pc Ls (.long x :: rest) h L k n Q := by
  subst hp; exact Go.pure (fun p e below T m c t hA hx hB hr => XT.dup2L hA hx rfl (hb hB hd) rfl hr) g
theorem Go.goto {st : List Value} {o : Int} (hd : decode B pc = .ok (.goto o, 3)) (hp : (pc : Int) + o = (pc' : Int)) (g : Go Z l R B ml own rt mn pc' Ls st h L k n Q) : Go Z l R B ml own rt mn pc Ls st h L k n Q :=
  Go.pure (fun p e below T m c t hA hx hB hr => XS.goto hA hx rfl rfl (hb hB hd) (by rw [hp]; omega) (by rw [hp]; rfl) hr) g
/-- what a branch says when it is taken, and when it isn't -/
def cT : ClassFile.Cond → Int → Int → Prop
  | .lt, x, y => x < y | .ge, x, y => ¬ x < y | .gt, x, y => y < x | .le, x, y => ¬ y < x | .eq, x, y => x = y | .ne, x, y => ¬ x = y
def cF : ClassFile.Cond → Int → Int → Prop
  | .lt, x, y => ¬ x < y | .ge, x, y => x < y | .gt, x, y => ¬ y < x | .le, x, y => y < x | .eq, x, y => ¬ x = y | .ne, x, y => x = y
theorem icT {cd : ClassFile.Cond} {x y : Int32} (q : cT cd x.toInt y.toInt) : if_icmp.holds cd x y = true := by
  cases cd <;> simp only [cT] at q <;> first
    | exact (teq (Int32.toInt_inj.mp q)).1
    | exact (feq (fun r => q (congrArg _ r))).2
    | exact (tlt (Int32.lt_iff_toInt_lt.mpr q)).1
    | exact (flt (fun r => q (Int32.lt_iff_toInt_lt.mp r))).2.1
    | exact (tlt (Int32.lt_iff_toInt_lt.mpr q)).2.2.1
    | exact (flt (fun r => q (Int32.lt_iff_toInt_lt.mp r))).2.2.2
theorem icF {cd : ClassFile.Cond} {x y : Int32} (q : cF cd x.toInt y.toInt) : if_icmp.holds cd x y = false := by
  cases cd <;> simp only [cF] at q <;> first
    | exact (feq (fun r => q (congrArg _ r))).1
    | exact (teq (Int32.toInt_inj.mp q)).2
    | exact (flt (fun r => q (Int32.lt_iff_toInt_lt.mp r))).1
    | exact (tlt (Int32.lt_iff_toInt_lt.mpr q)).2.1
    | exact (flt (fun r => q (Int32.lt_iff_toInt_lt.mp r))).2.2.1
    | exact (tlt (Int32.lt_iff_toInt_lt.mpr q)).2.2.2
theorem lcT {cd : ClassFile.Cond} {x y : Int64} (q : cT cd x.toInt y.toInt) : ifCond.holds cd (lcmpW x y) = true := by
  rw [if0]; refine icT ?_
  have := c_lcmp x y
  have z0 : (0 : Int32).toInt = 0 := rfl
  cases cd <;> simp only [cT, z0] at q ⊢ <;> omega
theorem lcF {cd : ClassFile.Cond} {x y : Int64} (q : cF cd x.toInt y.toInt) : ifCond.holds cd (lcmpW x y) = false := by
  rw [if0]; refine icF ?_
  have := c_lcmp x y
  have z0 : (0 : Int32).toInt = 0 := rfl
  cases cd <;> simp only [cF, z0] at q ⊢ <;> omega
theorem Go.icmpT {cd : ClassFile.Cond} {x y : Int32} {X Y : Int} {o : Int} (hd : decode B pc = .ok (.if_icmp cd o, 3)) (hp : (pc : Int) + o = (pc' : Int)) (hX : x.toInt = X) (hY : y.toInt = Y) (hc : cT cd X Y) (g : Go Z l R B ml own rt mn pc' Ls rest h L k n Q) : Go Z l R B ml own rt mn pc Ls (.int y :: .int x :: rest) h L k n Q := by
  subst hX hY
  exact Go.pure (fun p e below T m c t hA hx hB hr => XS.icmpYes hA hx rfl rfl (hb hB hd) rfl (icT hc) (by rw [hp]; omega) (by rw [hp]; rfl) hr) g
theorem Go.icmpF {cd : ClassFile.Cond} {x y : Int32} {X Y : Int} {o : Int} (hd : decode B pc = .ok (.if_icmp cd o, 3)) (hp : pc + 3 = pc') (hX : x.toInt = X) (hY : y.toInt = Y) (hc : cF cd X Y) (g : Go Z l R B ml own rt mn pc' Ls rest h L k n Q) : Go Z l R B ml own rt mn pc Ls (.int y :: .int x :: rest) h L k n Q := by
  subst hX hY hp
  exact Go.pure (fun p e below T m c t hA hx hB hr => XS.icmpNo hA hx rfl (hb hB hd) rfl (icF hc) hr) g
theorem Go.ifT {cd : ClassFile.Cond} {x : Int32} {X : Int} {o : Int} (hd : decode B pc = .ok (.ifCond cd o, 3)) (hp : (pc : Int) + o = (pc' : Int)) (hX : x.toInt = X) (hc : cT cd X 0) (g : Go Z l R B ml own rt mn pc' Ls rest h L k n Q) : Go Z l R B ml own rt mn pc Ls (.int x :: rest) h L k n Q := by
  subst hX
  exact Go.pure (fun p e below T m c t hA hx hB hr => XS.ifYes hA hx rfl rfl (hb hB hd) rfl ((if0 _ _).trans (icT hc)) (by rw [hp]; omega) (by rw [hp]; rfl) hr) g
theorem Go.ifF {cd : ClassFile.Cond} {x : Int32} {X : Int} {o : Int} (hd : decode B pc = .ok (.ifCond cd o, 3)) (hp : pc + 3 = pc') (hX : x.toInt = X) (hc : cF cd X 0) (g : Go Z l R B ml own rt mn pc' Ls rest h L k n Q) : Go Z l R B ml own rt mn pc Ls (.int x :: rest) h L k n Q := by
  subst hX hp
  exact Go.pure (fun p e below T m c t hA hx hB hr => XS.ifNo hA hx rfl (hb hB hd) rfl ((if0 _ _).trans (icF hc)) hr) g
/-- lcmp and the branch behind it, in one -/
theorem Go.lcmpT {cd : ClassFile.Cond} {x y : Int64} {X Y : Int} {o : Int} {pc1 : Nat} (hd : decode B pc = .ok (.lcmp, 1)) (hd' : decode B pc1 = .ok (.ifCond cd o, 3)) (hp1 : pc + 1 = pc1) (hp : (pc1 : Int) + o = (pc' : Int)) (hX : x.toInt = X) (hY : y.toInt = Y) (hc : cT cd X Y) (g : Go Z l R B ml own rt mn pc' Ls rest h L k n Q) : Go Z l R B ml own rt mn pc Ls (.long y :: .long x :: rest) h L k n Q := by
  subst hX hY hp1
  exact Go.pure (fun p e below T m c t hA hx hB hr => XS.lcmp hA hx rfl (hb hB hd) rfl hr) (Go.pure (pc := pc + 1) (fun p e below T m c t hA hx hB hr => XS.ifYes hA hx rfl rfl (hb hB hd') rfl (lcT hc) (by rw [hp]; omega) (by rw [hp]; rfl) hr) g)
theorem Go.lcmpF {cd : ClassFile.Cond} {x y : Int64} {X Y : Int} {o : Int} {pc1 : Nat} (hd : decode B pc = .ok (.lcmp, 1)) (hd' : decode B pc1 = .ok (.ifCond cd o, 3)) (hp1 : pc + 1 = pc1) (hp : pc1 + 3 = pc') (hX : x.toInt = X) (hY : y.toInt = Y) (hc : cF cd X Y) (g : Go Z l R B ml own rt mn pc' Ls rest h L k n Q) : Go Z l R B ml own rt mn pc Ls (.long y :: .long x :: rest) h L k n Q := by
  subst hX hY hp1 hp
  exact Go.pure (fun p e below T m c t hA hx hB hr => XS.lcmp hA hx rfl (hb hB hd) rfl hr) (Go.pure (pc := pc + 1) (fun p e below T m c t hA hx hB hr => XS.ifNo hA hx rfl (hb hB hd') rfl (lcF hc) hr) g)
/-- one step that asks where the walk stands -/
theorem Go.stand {st st' : List Value} {Ls' : Array Slot} (step : ∀ (p : Program) (e : Env) (s : State) (m : MethodId) (args : Array Value) (below : List Frame) (meth : Method) (c : Code) (T : State) (target : State), Stand p l e R s m args below meth c T L k n → p.tables.exec = Jvm.exec → Z.Warmed39 s.vm → c.code = B → s.vm.findClass own = some m.cls → T.heap = h →
      Steps p.tables e below (T.setTop (mkF m pc' Ls' st')) target → Steps p.tables e below (T.setTop (mkF m pc Ls st)) target)
    (g : Go Z l R B ml own rt mn pc' Ls' st' h L k n Q) : Go Z l R B ml own rt mn pc Ls st h L k n Q := by
  intro p e s m args below meth c T X hx hZ hby hml hown hrt hlk hnm eT
  obtain ⟨s₂, o, h1, h2⟩ := g p e s m args below meth c T X hx hZ hby hml hown hrt hlk hnm eT
  exact ⟨s₂, o, step p e s m args below meth c T s₂ X hx hZ hby hown eT h1, h2⟩
theorem Go.acmp {cd : ACond} {x y : Value} {o : Int} {same : Bool} (hd : decode B pc = .ok (.if_acmp cd o, 3)) (h1 : x.isRef = true) (h2 : y.isRef = true) (hq : decide (x = y) = same) (ho : 0 ≤ (pc : Int) + o) (hp : pc' = if acV cd same = true then ((pc : Int) + o).toNat else pc + 3) (g : Go Z l R B ml own rt mn pc' Ls rest h L k n Q) : Go Z l R B ml own rt mn pc Ls (y :: x :: rest) h L k n Q :=
  Go.stand (fun p e s m args below meth c T t X hx hZ hB hown eT hr => Jvm.RoadKit.acmp (g := mkF m pc Ls (y :: x :: rest)) X hx rfl h1 h2 (pc0 := pc) (pc' := pc') (same := same) rfl (hb hB hd) rfl hq ho hp hr) g
theorem Go.ldcI {a0 : Array Value} {st : List Value} {i : Nat} {v : Int32} (hd : decode B pc = .ok (.ldc i, 2)) (hp : pc + 2 = pc') (w : (Jvm.Cond.constant own i v).before a0 Z = true) (g : Go Z l R B ml own rt mn pc' Ls (.int v :: st) h L k n Q) : Go Z l R B ml own rt mn pc Ls st h L k n Q := by
  subst hp
  exact Go.stand (fun p e s m args below meth c T t X hx hZ hB hown eT hr => X.ldcInt hx hown (mvT hZ w) (g := mkF m pc Ls st) rfl (hb hB hd) _ hr) g
theorem Go.ldcF {a0 : Array Value} {st : List Value} {i : Nat} {v : UInt32} (hd : decode B pc = .ok (.ldc i, 2)) (hp : pc + 2 = pc') (w : (Jvm.Cond.constantFloat own i v).before a0 Z = true) (g : Go Z l R B ml own rt mn pc' Ls (.float v :: st) h L k n Q) : Go Z l R B ml own rt mn pc Ls st h L k n Q := by
  subst hp
  exact Go.stand (fun p e s m args below meth c T t X hx hZ hB hown eT hr => X.ldcFloatC hx hown (mvT hZ w) (g := mkF m pc Ls st) rfl (hb hB hd) _ hr) g
theorem Go.ldc2 {a0 : Array Value} {st : List Value} {i : Nat} {v : Int64} (hd : decode B pc = .ok (.ldc2_w i, 3)) (hp : pc + 3 = pc') (w : (Jvm.Cond.constantLong own i v).before a0 Z = true) (g : Go Z l R B ml own rt mn pc' Ls (.long v :: st) h L k n Q) : Go Z l R B ml own rt mn pc Ls st h L k n Q := by
  subst hp
  exact Go.stand (fun p e s m args below meth c T t X hx hZ hB hown eT hr => X.ldc2Long hx hown (mvT hZ w) (g := mkF m pc Ls st) rfl (hb hB hd) _ hr) g
theorem Go.retI {z : Int32} (hd : decode B pc = .ok (.ireturn, 1)) (hrt' : rt = some .int) (hk : k ≤ R.cells) (hn : n ≤ R.slots) (q : Q (some (.int z)) h L) : Go Z l R B ml own rt mn pc Ls ((.int z) :: rest) h L k n Q := by
  intro p e s m args below meth c T X hx hZ hby hml hown hrt hlk hnm eT
  obtain ⟨fs, hr, hrun, hended, hW, hsame⟩ := X.leave (v := some (.int z)) (fun r => by rw [hrt, hrt'] at r; cases r)
  refine ⟨_, _, retOut X hx (hrt.trans hrt') (show narrow .int (.int z) = .int z from rfl) (Or.inl ⟨rfl, Or.inl rfl, _, rfl⟩) (hb hby hd) hr, hrun, hended, _, _, rfl, ?_, ⟨_, rfl⟩, hW, hsame.mono hk hn⟩
  show Q _ T.heap _
  rw [eT]; exact q
theorem Go.retZ {z : Int32} (hd : decode B pc = .ok (.ireturn, 1)) (hrt' : rt = some .boolean) (hz : z = 0 ∨ z = 1) (hk : k ≤ R.cells) (hn : n ≤ R.slots) (q : Q (some (.int z)) h L) : Go Z l R B ml own rt mn pc Ls ((.int z) :: rest) h L k n Q := by
  intro p e s m args below meth c T X hx hZ hby hml hown hrt hlk hnm eT
  obtain ⟨fs, hr, hrun, hended, hW, hsame⟩ := X.leave (v := some (.int z)) (fun r => by rw [hrt, hrt'] at r; cases r)
  refine ⟨_, _, retOut X hx (hrt.trans hrt') (show narrow .boolean (.int z) = .int z by rcases hz with rfl | rfl <;> rfl) (Or.inl ⟨rfl, Or.inr (Or.inl rfl), _, rfl⟩) (hb hby hd) hr, hrun, hended, _, _, rfl, ?_, ⟨_, rfl⟩, hW, hsame.mono hk hn⟩
  show Q _ T.heap _
  rw [eT]; exact q
theorem Go.retB {z : Int32} (hd : decode B pc = .ok (.ireturn, 1)) (hrt' : rt = some .byte) (hz : z.toInt8.toInt32 = z) (hk : k ≤ R.cells) (hn : n ≤ R.slots) (q : Q (some (.int z)) h L) : Go Z l R B ml own rt mn pc Ls ((.int z) :: rest) h L k n Q := by
  intro p e s m args below meth c T X hx hZ hby hml hown hrt hlk hnm eT
  obtain ⟨fs, hr, hrun, hended, hW, hsame⟩ := X.leave (v := some (.int z)) (fun r => by rw [hrt, hrt'] at r; cases r)
  refine ⟨_, _, retOut X hx (hrt.trans hrt') (show narrow .byte (.int z) = .int z from congrArg Value.int hz) (Or.inl ⟨rfl, Or.inr (Or.inr (Or.inl rfl)), _, rfl⟩) (hb hby hd) hr, hrun, hended, _, _, rfl, ?_, ⟨_, rfl⟩, hW, hsame.mono hk hn⟩
  show Q _ T.heap _
  rw [eT]; exact q
theorem Go.retJ {z : Int64} (hd : decode B pc = .ok (.lreturn, 1)) (hrt' : rt = some .long) (hk : k ≤ R.cells) (hn : n ≤ R.slots) (q : Q (some (.long z)) h L) : Go Z l R B ml own rt mn pc Ls ((.long z) :: rest) h L k n Q := by
  intro p e s m args below meth c T X hx hZ hby hml hown hrt hlk hnm eT
  obtain ⟨fs, hr, hrun, hended, hW, hsame⟩ := X.leave (v := some (.long z)) (fun r => by rw [hrt, hrt'] at r; cases r)
  refine ⟨_, _, retOut X hx (hrt.trans hrt') (show narrow .long (.long z) = .long z from rfl) (Or.inr (Or.inl ⟨rfl, rfl, _, rfl⟩)) (hb hby hd) hr, hrun, hended, _, _, rfl, ?_, ⟨_, rfl⟩, hW, hsame.mono hk hn⟩
  show Q _ T.heap _
  rw [eT]; exact q
theorem Go.retA {z : Value} {t : FieldType} (hd : decode B pc = .ok (.areturn, 1)) (hrt' : rt = some t) (ht : t.isReference = true) (hz : z.isRef = true) (hk : k ≤ R.cells) (hn : n ≤ R.slots) (q : Q (some z) h L) : Go Z l R B ml own rt mn pc Ls (z :: rest) h L k n Q := by
  intro p e s m args below meth c T X hx hZ hby hml hown hrt hlk hnm eT
  obtain ⟨fs, hr, hrun, hended, hW, hsame⟩ := X.leave (v := some z) (fun r => by rw [hrt, hrt'] at r; cases r)
  refine ⟨_, _, retOut X hx (hrt.trans hrt') (show narrow t z = z by rcases ref_cases hz with rfl | ⟨a, rfl⟩ <;> cases t <;> first | rfl | (simp [FieldType.isReference] at ht)) (Or.inr (Or.inr (Or.inr (Or.inr ⟨rfl, ht, hz⟩)))) (hb hby hd) hr, hrun, hended, _, _, rfl, ?_, ⟨_, rfl⟩, hW, hsame.mono hk hn⟩
  show Q _ T.heap _
  rw [eT]; exact q
theorem Go.retV (hd : decode B pc = .ok (.return_, 1)) (hrt' : rt = none) (hk : k ≤ R.cells) (hn : n ≤ R.slots) (q : Q none h L) : Go Z l R B ml own rt mn pc Ls [] h L k n Q := by
  intro p e s m args below meth c T X hx hZ hby hml hown hrt hlk hnm eT
  obtain ⟨fs, hr, hrun, hended, hW, hsame⟩ := X.leave (v := none) (fun _ => rfl)
  refine ⟨_, _, X.returnOut hx (hrt.trans hrt') (hb hby hd) hr, hrun, hended, _, _, rfl, ?_, ⟨_, rfl⟩, hW, hsame.mono hk hn⟩
  show Q _ T.heap _
  rw [eT]; exact q
theorem sel_priv {a0 args : Array Value} {s : State} {y : MethodName} {kk : Nat} (hZ : Z.Warmed39 s.vm) (wi : (Jvm.Cond.instantiable y.cls kk).before a0 Z = true) (wp : (Jvm.Cond.privateMethod y).before a0 Z = true) (w2 : (Jvm.Cond.instanceMethod y).before a0 Z = true) (hy : y.cls ≠ "java/lang/invoke/MethodHandle" ∧ y.cls ≠ "java/lang/invoke/VarHandle") : (Jvm.Cond.selects y.cls y y).before args s = true := by
  have wi' : (Jvm.Cond.instantiable y.cls kk).before args s = true := mvT hZ wi
  obtain ⟨cI, kI, i1, i2, -, i4, -⟩ := Cond.instantiable_spec wi'
  exact selects_self_of_private i1 i2 (Bool.or_eq_false_iff.mp i4).1 (Cond.privateMethod_at (mvP hZ wp (args := #[]))) (mvT hZ w2) hy
theorem Go.callS {a0 : Array Value} {i : Nat} {y : MethodName} {B' : ByteArray} {ml' : Nat} {rt' : Option FieldType} {R' : Room} {Q' : Option Value → Heap → List Loc → Prop} {W : Nat} {argsL : List Value} {st : List Value} {ps : List FieldType} {r : Option FieldType}
    (hd : decode B pc = .ok (.invokestatic i, 3)) (hp : pc + 3 = pc') (w1 : (Jvm.Cond.methodLink own i y).before a0 Z = true) (w2 : (Jvm.Cond.static y).before a0 Z = true) (w3 : (Jvm.Cond.initialized y.cls).before a0 Z = true) (w4 : (Jvm.Cond.code y B' ml' rt').before a0 Z = true) (hy : y.cls ≠ "java/lang/invoke/MethodHandle" ∧ y.cls ≠ "java/lang/invoke/VarHandle")
    (con : Con l Z y B' ml' rt' R' [] argsL.toArray h Q') (hf : R'.frames + 1 ≤ R.frames) (hl : W + (ml' + 11) + R'.locals ≤ R.locals) {k' n' : Nat} (hc : k + R'.cells ≤ R.cells) (hn : n + R'.slots ≤ R.slots) (hk' : k + R'.cells = k') (hn' : n + R'.slots = n') (hsz : Ls.size = ml) (hpd : parseMethodDescriptor y.desc = some ⟨ps, r⟩) (hlen : argsL.length = ps.length) (hst : st = argsL.reverse ++ rest) (hW : (rest.map fun v => v.category).sum ≤ W)
    (g : ∀ v h' L' L'', (∀ q, Fr q L → Fr q L' → Fr q L'') → Q' v h' L' → Go Z l R B ml own rt mn pc' Ls (v.toList ++ rest) h' L'' k' n' Q) : Go Z l R B ml own rt mn pc Ls st h L k n Q := by
  subst hp hk' hn'
  intro p e s m args below meth c T X hx hZ hby hml hown hrt hlk hnm eT
  obtain ⟨v, _, ⟨U, ls, cc, sl⟩, -, X', ⟨Lc, hQ, l1, y1, z1⟩, stp⟩ := Jvm.LawKit.callS X hx (y := y) hown (mvT hZ w1) (mvT hZ w2) (mvT hZ w3) (mvT hZ w4) hy (backOf (W := W) con hZ w4 w3 hf hl) (g := mkF m pc Ls st) rfl (hsz.trans hml.symm) (argsL := argsL) (rest := rest) (lenOf hpd hlen) hst (by show 2 * 0 + _ ≤ _; omega) (hb hby hd) (fun _ _ => ⟨rfl, eT, hc, hn⟩)
  dsimp only [Pt.U, Pt.locs, Pt.cells, Pt.slots] at X' hQ l1 y1 z1 stp
  subst l1 y1 z1
  obtain ⟨s₂, o, h1, h2⟩ := g v U.heap Lc _ (fun q a b => a.app b) hQ p e s m args below meth c U X' hx hZ hby hml hown hrt hlk hnm rfl
  exact ⟨s₂, o, stp _ h1, h2⟩
theorem Go.callS0 {a0 : Array Value} {i : Nat} {y : MethodName} {B' : ByteArray} {ml' : Nat} {rt' : Option FieldType} {R' : Room} {v0 : Option Value} {W : Nat} {argsL : List Value} {st : List Value} {ps : List FieldType} {r : Option FieldType}
    (hd : decode B pc = .ok (.invokestatic i, 3)) (hp : pc + 3 = pc') (w1 : (Jvm.Cond.methodLink own i y).before a0 Z = true) (w2 : (Jvm.Cond.static y).before a0 Z = true) (w3 : (Jvm.Cond.initialized y.cls).before a0 Z = true) (w4 : (Jvm.Cond.code y B' ml' rt').before a0 Z = true) (hy : y.cls ≠ "java/lang/invoke/MethodHandle" ∧ y.cls ≠ "java/lang/invoke/VarHandle")
    (con : Con l Z y B' ml' rt' R' [] argsL.toArray h (PQ h v0)) (hf : R'.frames + 1 ≤ R.frames) (hl : W + (ml' + 11) + R'.locals ≤ R.locals) {st2 : List Value} (hs2 : v0.toList ++ rest = st2) (hc : R'.cells = 0) (hn : R'.slots = 0) (hk : k ≤ R.cells) (hn2 : n ≤ R.slots) (hsz : Ls.size = ml) (hpd : parseMethodDescriptor y.desc = some ⟨ps, r⟩) (hlen : argsL.length = ps.length) (hst : st = argsL.reverse ++ rest) (hW : (rest.map fun v => v.category).sum ≤ W)
    (g : Go Z l R B ml own rt mn pc' Ls st2 h L k n Q) : Go Z l R B ml own rt mn pc Ls st h L k n Q := by
  subst hp hs2
  intro p e s m args below meth c T X hx hZ hby hml hown hrt hlk hnm eT
  obtain ⟨v, _, ⟨U, ls, cc, sl⟩, -, X', ⟨Lc, hQ, l1, y1, z1⟩, stp⟩ := Jvm.LawKit.callS X hx (y := y) hown (mvT hZ w1) (mvT hZ w2) (mvT hZ w3) (mvT hZ w4) hy (backOf (W := W) con hZ w4 w3 hf hl) (g := mkF m pc Ls st) rfl (hsz.trans hml.symm) (argsL := argsL) (rest := rest) (lenOf hpd hlen) hst (by show 2 * 0 + _ ≤ _; omega) (hb hby hd) (fun _ _ => ⟨rfl, eT, (by rw [hc]; exact hk), (by rw [hn]; exact hn2)⟩)
  dsimp only [Pt.U, Pt.locs, Pt.cells, Pt.slots] at X' hQ l1 y1 z1 stp
  obtain ⟨q1, q2, q3⟩ := hQ
  rw [q3, List.append_nil] at l1
  rw [hc, Nat.add_zero] at y1
  rw [hn, Nat.add_zero] at z1
  subst l1 y1 z1
  rw [q1] at stp
  obtain ⟨s₂, o, h1, h2⟩ := g p e s m args below meth c U X' hx hZ hby hml hown hrt hlk hnm q2
  exact ⟨s₂, o, stp _ h1, h2⟩
theorem Go.callI {a0 : Array Value} {i : Nat} {y : MethodName} {B' : ByteArray} {ml' : Nat} {R' : Room} {Q' : Option Value → Heap → List Loc → Prop} {W : Nat} {a : Addr} {argsL : List Value} {st : List Value} {ps : List FieldType} {r : Option FieldType}
    (hd : decode B pc = .ok (.invokespecial i, 3)) (hp : pc + 3 = pc') (hy1 : y.name = "<init>") (w1 : (Jvm.Cond.methodLink own i y).before a0 Z = true) (w2 : (Jvm.Cond.instanceMethod y).before a0 Z = true) (w3 : (Jvm.Cond.initialized y.cls).before a0 Z = true) (w4 : (Jvm.Cond.code y B' ml' none).before a0 Z = true) (hy : y.cls ≠ "java/lang/invoke/MethodHandle" ∧ y.cls ≠ "java/lang/invoke/VarHandle")
    (con : Con l Z y B' ml' none R' [] (.ref a :: argsL).toArray h Q') (hf : R'.frames + 1 ≤ R.frames) (hl : W + (ml' + 11) + R'.locals ≤ R.locals) {k' n' : Nat} (hc : k + R'.cells ≤ R.cells) (hn : n + R'.slots ≤ R.slots) (hk' : k + R'.cells = k') (hn' : n + R'.slots = n') (hsz : Ls.size = ml) (hpd : parseMethodDescriptor y.desc = some ⟨ps, r⟩) (hlen : argsL.length = ps.length) (hst : st = argsL.reverse ++ .ref a :: rest) (hW : (rest.map fun v => v.category).sum ≤ W)
    (g : ∀ v h' L' L'', (∀ q, Fr q L → Fr q L' → Fr q L'') → Q' v h' L' → Go Z l R B ml own rt mn pc' Ls (v.toList ++ rest) h' L'' k' n' Q) : Go Z l R B ml own rt mn pc Ls st h L k n Q := by
  subst hp hk' hn'
  intro p e s m args below meth c T X hx hZ hby hml hown hrt hlk hnm eT
  obtain ⟨v, _, ⟨U, ls, cc, sl⟩, -, X', ⟨Lc, hQ, l1, y1, z1⟩, stp⟩ := X.specialBack hx (y := y) hy1 hown (mvT hZ w1) (mvT hZ w2) (mvT hZ w4) hy (backOf (W := W) con hZ w4 w3 hf hl) (g := mkF m pc Ls st) rfl (hsz.trans hml.symm) (Steps.refl _) (a := a) (argsL := argsL) (rest := rest) (lenOf hpd hlen) hst (by show 2 * 0 + _ ≤ _; omega) (hb hby hd) (fun _ _ => ⟨rfl, eT, hc, hn⟩)
  dsimp only [Pt.U, Pt.locs, Pt.cells, Pt.slots] at X' hQ l1 y1 z1 stp
  subst l1 y1 z1
  obtain ⟨s₂, o, h1, h2⟩ := g v U.heap Lc _ (fun q a b => a.app b) hQ p e s m args below meth c U X' hx hZ hby hml hown hrt hlk hnm rfl
  exact ⟨s₂, o, stp.trans h1, h2⟩
theorem Go.callI0 {a0 : Array Value} {i : Nat} {y : MethodName} {B' : ByteArray} {ml' : Nat} {R' : Room} {v0 : Option Value} {W : Nat} {a : Addr} {argsL : List Value} {st : List Value} {ps : List FieldType} {r : Option FieldType}
    (hd : decode B pc = .ok (.invokespecial i, 3)) (hp : pc + 3 = pc') (hy1 : y.name = "<init>") (w1 : (Jvm.Cond.methodLink own i y).before a0 Z = true) (w2 : (Jvm.Cond.instanceMethod y).before a0 Z = true) (w3 : (Jvm.Cond.initialized y.cls).before a0 Z = true) (w4 : (Jvm.Cond.code y B' ml' none).before a0 Z = true) (hy : y.cls ≠ "java/lang/invoke/MethodHandle" ∧ y.cls ≠ "java/lang/invoke/VarHandle")
    (con : Con l Z y B' ml' none R' [] (.ref a :: argsL).toArray h (PQ h v0)) (hf : R'.frames + 1 ≤ R.frames) (hl : W + (ml' + 11) + R'.locals ≤ R.locals) {st2 : List Value} (hs2 : v0.toList ++ rest = st2) (hc : R'.cells = 0) (hn : R'.slots = 0) (hk : k ≤ R.cells) (hn2 : n ≤ R.slots) (hsz : Ls.size = ml) (hpd : parseMethodDescriptor y.desc = some ⟨ps, r⟩) (hlen : argsL.length = ps.length) (hst : st = argsL.reverse ++ .ref a :: rest) (hW : (rest.map fun v => v.category).sum ≤ W)
    (g : Go Z l R B ml own rt mn pc' Ls st2 h L k n Q) : Go Z l R B ml own rt mn pc Ls st h L k n Q := by
  subst hp hs2
  intro p e s m args below meth c T X hx hZ hby hml hown hrt hlk hnm eT
  obtain ⟨v, _, ⟨U, ls, cc, sl⟩, -, X', ⟨Lc, hQ, l1, y1, z1⟩, stp⟩ := X.specialBack hx (y := y) hy1 hown (mvT hZ w1) (mvT hZ w2) (mvT hZ w4) hy (backOf (W := W) con hZ w4 w3 hf hl) (g := mkF m pc Ls st) rfl (hsz.trans hml.symm) (Steps.refl _) (a := a) (argsL := argsL) (rest := rest) (lenOf hpd hlen) hst (by show 2 * 0 + _ ≤ _; omega) (hb hby hd) (fun _ _ => ⟨rfl, eT, (by rw [hc]; exact hk), (by rw [hn]; exact hn2)⟩)
  dsimp only [Pt.U, Pt.locs, Pt.cells, Pt.slots] at X' hQ l1 y1 z1 stp
  obtain ⟨q1, q2, q3⟩ := hQ
  rw [q3, List.append_nil] at l1
  rw [hc, Nat.add_zero] at y1
  rw [hn, Nat.add_zero] at z1
  subst l1 y1 z1
  rw [q1] at stp
  obtain ⟨s₂, o, h1, h2⟩ := g p e s m args below meth c U X' hx hZ hby hml hown hrt hlk hnm q2
  exact ⟨s₂, o, stp.trans h1, h2⟩
theorem Go.callV {a0 : Array Value} {i : Nat} {C : String} {y z : MethodName} {B' : ByteArray} {ml' : Nat} {rt' : Option FieldType} {R' : Room} {Q' : Option Value → Heap → List Loc → Prop} {W : Nat} {a : Addr} {argsL : List Value} {st : List Value} {ps : List FieldType} {r : Option FieldType}
    (hd : decode B pc = .ok (.invokevirtual i, 3)) (hp : pc + 3 = pc') (w1 : (Jvm.Cond.methodLink own i y).before a0 Z = true) (w2 : (Jvm.Cond.declares y).before a0 Z = true) (nf : ∀ (s : State) (args : Array Value), Z.Warmed39 s.vm → NotFace s y) (w5 : (Jvm.Cond.selects C y z).before a0 Z = true) (w6 : (Jvm.Cond.instanceMethod z).before a0 Z = true) (w3 : (Jvm.Cond.initialized z.cls).before a0 Z = true) (w4 : (Jvm.Cond.code z B' ml' rt').before a0 Z = true) (E : Exa Z h a C) (hy : y.cls ≠ "java/lang/invoke/MethodHandle" ∧ y.cls ≠ "java/lang/invoke/VarHandle")
    (con : Con l Z z B' ml' rt' R' [] (.ref a :: argsL).toArray h Q') (hf : R'.frames + 1 ≤ R.frames) (hl : W + (ml' + 11) + R'.locals ≤ R.locals) {k' n' : Nat} (hc : k + R'.cells ≤ R.cells) (hn : n + R'.slots ≤ R.slots) (hk' : k + R'.cells = k') (hn' : n + R'.slots = n') (hsz : Ls.size = ml) (hpd : parseMethodDescriptor y.desc = some ⟨ps, r⟩) (hlen : argsL.length = ps.length) (hst : st = argsL.reverse ++ .ref a :: rest) (hW : (rest.map fun v => v.category).sum ≤ W)
    (g : ∀ v h' L' L'', (∀ q, Fr q L → Fr q L' → Fr q L'') → Q' v h' L' → Go Z l R B ml own rt mn pc' Ls (v.toList ++ rest) h' L'' k' n' Q) : Go Z l R B ml own rt mn pc Ls st h L k n Q := by
  subst hp hk' hn'
  intro p e s m args below meth c T X hx hZ hby hml hown hrt hlk hnm eT
  obtain ⟨cq, kq, qa, qb, qc⟩ := isOf hZ eT E
  obtain ⟨v, _, ⟨U, ls, cc, sl⟩, -, X', ⟨Lc, hQ, l1, y1, z1⟩, stp⟩ := X.virtualBack hx (y := y) (z := z) hown (mvT hZ w1) (mvT hZ w2) (nf s args hZ) (mvT hZ w5) (mvT hZ w6) hy (backOf (W := W) con hZ w4 w3 hf hl) qa qc (g := mkF m pc Ls st) rfl (hsz.trans hml.symm) (Steps.refl _) (argsL := argsL) (rest := rest) (lenOf hpd hlen) hst (by show 2 * 0 + _ ≤ _; omega) (hb hby hd) (fun _ _ => ⟨rfl, eT, hc, hn⟩)
  dsimp only [Pt.U, Pt.locs, Pt.cells, Pt.slots] at X' hQ l1 y1 z1 stp
  subst l1 y1 z1
  obtain ⟨s₂, o, h1, h2⟩ := g v U.heap Lc _ (fun q a b => a.app b) hQ p e s m args below meth c U X' hx hZ hby hml hown hrt hlk hnm rfl
  exact ⟨s₂, o, stp.trans h1, h2⟩
theorem Go.callV0 {a0 : Array Value} {i : Nat} {C : String} {y z : MethodName} {B' : ByteArray} {ml' : Nat} {rt' : Option FieldType} {R' : Room} {v0 : Option Value} {W : Nat} {a : Addr} {argsL : List Value} {st : List Value} {ps : List FieldType} {r : Option FieldType}
    (hd : decode B pc = .ok (.invokevirtual i, 3)) (hp : pc + 3 = pc') (w1 : (Jvm.Cond.methodLink own i y).before a0 Z = true) (w2 : (Jvm.Cond.declares y).before a0 Z = true) (nf : ∀ (s : State) (args : Array Value), Z.Warmed39 s.vm → NotFace s y) (w5 : (Jvm.Cond.selects C y z).before a0 Z = true) (w6 : (Jvm.Cond.instanceMethod z).before a0 Z = true) (w3 : (Jvm.Cond.initialized z.cls).before a0 Z = true) (w4 : (Jvm.Cond.code z B' ml' rt').before a0 Z = true) (E : Exa Z h a C) (hy : y.cls ≠ "java/lang/invoke/MethodHandle" ∧ y.cls ≠ "java/lang/invoke/VarHandle")
    (con : Con l Z z B' ml' rt' R' [] (.ref a :: argsL).toArray h (PQ h v0)) (hf : R'.frames + 1 ≤ R.frames) (hl : W + (ml' + 11) + R'.locals ≤ R.locals) {st2 : List Value} (hs2 : v0.toList ++ rest = st2) (hc : R'.cells = 0) (hn : R'.slots = 0) (hk : k ≤ R.cells) (hn2 : n ≤ R.slots) (hsz : Ls.size = ml) (hpd : parseMethodDescriptor y.desc = some ⟨ps, r⟩) (hlen : argsL.length = ps.length) (hst : st = argsL.reverse ++ .ref a :: rest) (hW : (rest.map fun v => v.category).sum ≤ W)
    (g : Go Z l R B ml own rt mn pc' Ls st2 h L k n Q) : Go Z l R B ml own rt mn pc Ls st h L k n Q := by
  subst hp hs2
  intro p e s m args below meth c T X hx hZ hby hml hown hrt hlk hnm eT
  obtain ⟨cq, kq, qa, qb, qc⟩ := isOf hZ eT E
  obtain ⟨v, _, ⟨U, ls, cc, sl⟩, -, X', ⟨Lc, hQ, l1, y1, z1⟩, stp⟩ := X.virtualBack hx (y := y) (z := z) hown (mvT hZ w1) (mvT hZ w2) (nf s args hZ) (mvT hZ w5) (mvT hZ w6) hy (backOf (W := W) con hZ w4 w3 hf hl) qa qc (g := mkF m pc Ls st) rfl (hsz.trans hml.symm) (Steps.refl _) (argsL := argsL) (rest := rest) (lenOf hpd hlen) hst (by show 2 * 0 + _ ≤ _; omega) (hb hby hd) (fun _ _ => ⟨rfl, eT, (by rw [hc]; exact hk), (by rw [hn]; exact hn2)⟩)
  dsimp only [Pt.U, Pt.locs, Pt.cells, Pt.slots] at X' hQ l1 y1 z1 stp
  obtain ⟨q1, q2, q3⟩ := hQ
  rw [q3, List.append_nil] at l1
  rw [hc, Nat.add_zero] at y1
  rw [hn, Nat.add_zero] at z1
  subst l1 y1 z1
  rw [q1] at stp
  obtain ⟨s₂, o, h1, h2⟩ := g p e s m args below meth c U X' hx hZ hby hml hown hrt hlk hnm q2
  exact ⟨s₂, o, stp.trans h1, h2⟩
theorem Go.callP {a0 : Array Value} {i : Nat} {C : String} {kk : Nat} {y : MethodName} {B' : ByteArray} {ml' : Nat} {rt' : Option FieldType} {R' : Room} {Q' : Option Value → Heap → List Loc → Prop} {W : Nat} {a : Addr} {argsL : List Value} {st : List Value} {ps : List FieldType} {r : Option FieldType}
    (hd : decode B pc = .ok (.invokevirtual i, 3)) (hp : pc + 3 = pc') (w1 : (Jvm.Cond.methodLink own i y).before a0 Z = true) (w2 : (Jvm.Cond.instanceMethod y).before a0 Z = true) (w5 : (Jvm.Cond.instantiable y.cls kk).before a0 Z = true) (w6 : (Jvm.Cond.privateMethod y).before a0 Z = true) (w3 : (Jvm.Cond.initialized y.cls).before a0 Z = true) (w4 : (Jvm.Cond.code y B' ml' rt').before a0 Z = true) (E : Exa Z h a C) (hy : y.cls ≠ "java/lang/invoke/MethodHandle" ∧ y.cls ≠ "java/lang/invoke/VarHandle")
    (con : Con l Z y B' ml' rt' R' [] (.ref a :: argsL).toArray h Q') (hf : R'.frames + 1 ≤ R.frames) (hl : W + (ml' + 11) + R'.locals ≤ R.locals) {k' n' : Nat} (hc : k + R'.cells ≤ R.cells) (hn : n + R'.slots ≤ R.slots) (hk' : k + R'.cells = k') (hn' : n + R'.slots = n') (hsz : Ls.size = ml) (hpd : parseMethodDescriptor y.desc = some ⟨ps, r⟩) (hlen : argsL.length = ps.length) (hst : st = argsL.reverse ++ .ref a :: rest) (hW : (rest.map fun v => v.category).sum ≤ W)
    (g : ∀ v h' L' L'', (∀ q, Fr q L → Fr q L' → Fr q L'') → Q' v h' L' → Go Z l R B ml own rt mn pc' Ls (v.toList ++ rest) h' L'' k' n' Q) : Go Z l R B ml own rt mn pc Ls st h L k n Q := by
  subst hp hk' hn'
  intro p e s m args below meth c T X hx hZ hby hml hown hrt hlk hnm eT
  obtain ⟨cq, q1, q2⟩ := E.cell
  obtain ⟨v, _, ⟨U, ls, cc, sl⟩, -, X', ⟨Lc, hQ, l1, y1, z1⟩, stp⟩ := X.privateBack hx (y := y) hown (mvT hZ w1) (mvT hZ w2) (sel_priv hZ w5 w6 w2 hy) (Cond.privateMethod_at (mvP hZ w6 (args := #[]))) (mvT hZ w4) hy (backOf (W := W) con hZ w4 w3 hf hl) (g := mkF m pc Ls st) rfl (hsz.trans hml.symm) (Steps.refl _) (a := a) (by rw [eT]; exact q1) q2 (argsL := argsL) (rest := rest) (lenOf hpd hlen) hst (by show 2 * 0 + _ ≤ _; omega) (hb hby hd) (fun _ _ => ⟨rfl, eT, hc, hn⟩)
  dsimp only [Pt.U, Pt.locs, Pt.cells, Pt.slots] at X' hQ l1 y1 z1 stp
  subst l1 y1 z1
  obtain ⟨s₂, o, h1, h2⟩ := g v U.heap Lc _ (fun q a b => a.app b) hQ p e s m args below meth c U X' hx hZ hby hml hown hrt hlk hnm rfl
  exact ⟨s₂, o, stp.trans h1, h2⟩
theorem Go.callP0 {a0 : Array Value} {i : Nat} {C : String} {kk : Nat} {y : MethodName} {B' : ByteArray} {ml' : Nat} {rt' : Option FieldType} {R' : Room} {v0 : Option Value} {W : Nat} {a : Addr} {argsL : List Value} {st : List Value} {ps : List FieldType} {r : Option FieldType}
    (hd : decode B pc = .ok (.invokevirtual i, 3)) (hp : pc + 3 = pc') (w1 : (Jvm.Cond.methodLink own i y).before a0 Z = true) (w2 : (Jvm.Cond.instanceMethod y).before a0 Z = true) (w5 : (Jvm.Cond.instantiable y.cls kk).before a0 Z = true) (w6 : (Jvm.Cond.privateMethod y).before a0 Z = true) (w3 : (Jvm.Cond.initialized y.cls).before a0 Z = true) (w4 : (Jvm.Cond.code y B' ml' rt').before a0 Z = true) (E : Exa Z h a C) (hy : y.cls ≠ "java/lang/invoke/MethodHandle" ∧ y.cls ≠ "java/lang/invoke/VarHandle")
    (con : Con l Z y B' ml' rt' R' [] (.ref a :: argsL).toArray h (PQ h v0)) (hf : R'.frames + 1 ≤ R.frames) (hl : W + (ml' + 11) + R'.locals ≤ R.locals) {st2 : List Value} (hs2 : v0.toList ++ rest = st2) (hc : R'.cells = 0) (hn : R'.slots = 0) (hk : k ≤ R.cells) (hn2 : n ≤ R.slots) (hsz : Ls.size = ml) (hpd : parseMethodDescriptor y.desc = some ⟨ps, r⟩) (hlen : argsL.length = ps.length) (hst : st = argsL.reverse ++ .ref a :: rest) (hW : (rest.map fun v => v.category).sum ≤ W)
    (g : Go Z l R B ml own rt mn pc' Ls st2 h L k n Q) : Go Z l R B ml own rt mn pc Ls st h L k n Q := by
  subst hp hs2
  intro p e s m args below meth c T X hx hZ hby hml hown hrt hlk hnm eT
  obtain ⟨cq, q1, q2⟩ := E.cell
  obtain ⟨v, _, ⟨U, ls, cc, sl⟩, -, X', ⟨Lc, hQ, l1, y1, z1⟩, stp⟩ := X.privateBack hx (y := y) hown (mvT hZ w1) (mvT hZ w2) (sel_priv hZ w5 w6 w2 hy) (Cond.privateMethod_at (mvP hZ w6 (args := #[]))) (mvT hZ w4) hy (backOf (W := W) con hZ w4 w3 hf hl) (g := mkF m pc Ls st) rfl (hsz.trans hml.symm) (Steps.refl _) (a := a) (by rw [eT]; exact q1) q2 (argsL := argsL) (rest := rest) (lenOf hpd hlen) hst (by show 2 * 0 + _ ≤ _; omega) (hb hby hd) (fun _ _ => ⟨rfl, eT, (by rw [hc]; exact hk), (by rw [hn]; exact hn2)⟩)
  dsimp only [Pt.U, Pt.locs, Pt.cells, Pt.slots] at X' hQ l1 y1 z1 stp
  obtain ⟨q1, q2, q3⟩ := hQ
  rw [q3, List.append_nil] at l1
  rw [hc, Nat.add_zero] at y1
  rw [hn, Nat.add_zero] at z1
  subst l1 y1 z1
  rw [q1] at stp
  obtain ⟨s₂, o, h1, h2⟩ := g p e s m args below meth c U X' hx hZ hby hml hown hrt hlk hnm q2
  exact ⟨s₂, o, stp.trans h1, h2⟩
theorem nf_sel {a0 : Array Value} {C : String} {y : MethodName} (w : (Jvm.Cond.selects C y y).before a0 Z = true) : ∀ (s : State) (args : Array Value), Z.Warmed39 s.vm → NotFace s y := fun s args hZ => notFace_of_selects (args := args) (mvT hZ w)
theorem Go.initO {a0 : Array Value} {i : Nat} {W : Nat} {a : Addr} (hd : decode B pc = .ok (.invokespecial i, 3)) (hp : pc + 3 = pc') (w1 : (Jvm.Cond.methodLink own i Lib.objectInit).before a0 Z = true) (w2 : (Jvm.Cond.instanceMethod Lib.objectInit).before a0 Z = true) (w3 : (Jvm.Cond.code Lib.objectInit ⟨#[0xb1]⟩ 1 none).before a0 Z = true) (hf : 1 ≤ R.frames) (hl : W + 12 ≤ R.locals) (hsz : Ls.size = ml) (hW : (rest.map fun v => v.category).sum ≤ W)
    (g : Go Z l R B ml own rt mn pc' Ls rest h L k n Q) : Go Z l R B ml own rt mn pc Ls (.ref a :: rest) h L k n Q := by
  subst hp
  intro p e s m args below meth c T X hx hZ hby hml hown hrt hlk hnm eT
  obtain ⟨T', X', e', stp⟩ := Jvm.RoadKit.initO X hx hZ hown w1 w2 w3 eT (g := mkF m pc Ls (.ref a :: rest)) rfl (hsz.trans hml.symm) rfl (hb hby hd) hf (W := W) (by show 2 * 0 + _ ≤ _; omega) hl
  obtain ⟨s₂, o, h1, h2⟩ := g p e s m args below meth c T' X' hx hZ hby hml hown hrt hlk hnm e'
  exact ⟨s₂, o, stp _ h1, h2⟩
/-! objects -/
theorem Go.newO {a0 : Array Value} {st : List Value} {i sz : Nat} {C : String} {k' n' : Nat} (hd : decode B pc = .ok (.new i, 3)) (hp : pc + 3 = pc') (w : (Jvm.Cond.classLink own i C).before a0 Z = true) (wi : (Jvm.Cond.instantiable C sz).before a0 Z = true) (wz : (Jvm.Cond.initialized C).before a0 Z = true) (hc : k + 1 ≤ R.cells) (hl : n + sz ≤ R.slots) (hk' : k + 1 = k') (hn' : n + sz = n')
    (g : ∀ h' a, a = h.size → Ext h h' → Exa Z h' a C → (∀ {O nm d : String} {ty : FieldType}, Laid Z a0 C O nm d → parseFieldDescriptor d = some ty → Fld Z h' a O nm d (defaultValue ty)) → Go Z l R B ml own rt mn pc' Ls (.ref a :: st) h' L k' n' Q) : Go Z l R B ml own rt mn pc Ls st h L k n Q := by
  subst hp hk' hn'
  intro p e s m args below meth c T X hx hZ hby hml hown hrt hlk hnm eT
  obtain ⟨T', h', X', e', E', A', D', -, stp⟩ := Jvm.RoadKit.newO X hx hZ hown w wi wz eT (g := mkF m pc Ls st) rfl (hb hby hd) hc hl
  obtain ⟨s₂, o, h1, h2⟩ := g h' _ rfl E' A' D' p e s m args below meth c T' X' hx hZ hby hml hown hrt hlk hnm e'
  exact ⟨s₂, o, stp _ h1, h2⟩
theorem Go.getF {a0 : Array Value} {i : Nat} {R0 O f d : String} {a : Addr} {v : Value} (hd : decode B pc = .ok (.getfield i, 3)) (hp : pc + 3 = pc') (w : (Jvm.Cond.fieldLink own i R0 f d).before a0 Z = true) (via : Via Z R0 O f d) (F : Fld Z h a O f d v) (g : Go Z l R B ml own rt mn pc' Ls (v :: rest) h L k n Q) : Go Z l R B ml own rt mn pc Ls (.ref a :: rest) h L k n Q := by
  subst hp
  intro p e s m args below meth c T X hx hZ hby hml hown hrt hlk hnm eT
  obtain ⟨T', X', e', stp⟩ := Jvm.RoadKit.getF X hx hZ hown (host := "") (Or.inl w) via eT F (g := mkF m pc Ls (.ref a :: rest)) rfl rfl (hb hby hd)
  obtain ⟨s₂, o, h1, h2⟩ := g p e s m args below meth c T' X' hx hZ hby hml hown hrt hlk hnm e'
  exact ⟨s₂, o, stp _ h1, h2⟩
theorem Go.putF {a0 : Array Value} {i kk : Nat} {R0 O f d C : String} {a : Addr} {v old : Value} {ty : FieldType} (hd : decode B pc = .ok (.putfield i, 3)) (hp : pc + 3 = pc') (w : (Jvm.Cond.fieldLink own i R0 f d).before a0 Z = true) (via : Via Z R0 O f d) (F : Fld Z h a O f d old) (E : Exa Z h a C) (lw : (Jvm.Cond.lays C O f d).before a0 Z = true ∨ ((Jvm.Cond.laysFinal C O f d).before a0 Z = true ∧ own = O ∧ mn = "<init>")) (wi : (Jvm.Cond.instantiable C kk).before a0 Z = true)
    (hty : parseFieldDescriptor d = some ty) (hn : narrow ty v = v) (hf : fits ty v = true) (g : ∀ h' L', (∀ q, Fr q L → q ≤ a → Fr q L') → Wr h h' a (Jvm.RoadKit.slotOf Z O f d) v → Go Z l R B ml own rt mn pc' Ls rest h' L' k n Q) : Go Z l R B ml own rt mn pc Ls (v :: .ref a :: rest) h L k n Q := by
  subst hp
  intro p e s m args below meth c T X hx hZ hby hml hown hrt hlk hnm eT
  obtain ⟨T', h', X', e', W', stp⟩ := Jvm.RoadKit.putF X hx hZ hown (host := "") (Or.inl w) via eT F E (lw.imp id fun q => ⟨q.1, q.2.1, hnm.trans q.2.2⟩) wi hty hn hf (g := mkF m pc Ls (v :: .ref a :: rest)) rfl rfl (hb hby hd)
  obtain ⟨s₂, o, h1, h2⟩ := g h' _ (fun q N r => fr_one N r) W' p e s m args below meth c T' X' hx hZ hby hml hown hrt hlk hnm e'
  exact ⟨s₂, o, stp _ h1, h2⟩
/-! arrays: the very list of values -/
def Al (Z : State) (h : Heap) (a : Addr) (ty : FieldType) (vs : List Value) : Prop := vs.length < 2 ^ 31 ∧ ∃ c : Cell, Arr Z h a c ty ∧ c.slots = vs.toArray
theorem Al.lt {a : Addr} {ty : FieldType} {vs : List Value} (A : Al Z h a ty vs) : a < h.size := by obtain ⟨-, c, A, -⟩ := A; exact A.lt
theorem Al.ext {h' : Heap} {a : Addr} {ty : FieldType} {vs : List Value} (A : Al Z h a ty vs) (E : Ext h h') : Al Z h' a ty vs := by obtain ⟨q, c, A, r⟩ := A; exact ⟨q, c, A.ext E, r⟩
theorem Al.other {h' : Heap} {a b : Addr} {sl : Nat} {v : Value} {ty : FieldType} {vs : List Value} (A : Al Z h b ty vs) (W : Wr h h' a sl v) (ne : b ≠ a) : Al Z h' b ty vs := by obtain ⟨q, c, A, r⟩ := A; exact ⟨q, c, A.other W ne, r⟩
theorem Al.keep {h' : Heap} {a : Addr} {ty : FieldType} {vs : List Value} {ws : List Addr} (A : Al Z h a ty vs) (K : Keep h h' ws) (q : a ∉ ws) : Al Z h' a ty vs := by obtain ⟨q0, c, A, r⟩ := A; exact ⟨q0, c, ⟨K.2.1 a c A.1 q, A.2⟩, r⟩
theorem Al.set {h' : Heap} {a : Addr} {ty : FieldType} {vs : List Value} {i : Nat} {v : Value} (A : Al Z h a ty vs) (W : Wr h h' a i v) : Al Z h' a ty (vs.set i v) := by
  obtain ⟨q, c, A, r⟩ := A
  refine ⟨by simpa using q, c.setSlot i v, A.same W, ?_⟩
  simp [Cell.setSlot, r]
theorem Al.new {a : Addr} {ty : FieldType} {kc : ClassId} {z : Int32} {N : Nat} (A : Arr Z h a (newA kc ty z) ty) (hz : z.toInt = (N : Int)) : Al Z h a ty (List.replicate N (defaultValue ty)) := by
  have h1 : z.toNatClampNeg = N := by show z.toInt.toNat = N; omega
  have h2 := z.toInt_lt
  refine ⟨by simp; omega, _, A, ?_⟩
  simp [newA, h1]
theorem ne_al {a0 : Array Value} {a b : Addr} {C : String} {kk : Nat} {ty : FieldType} {vs : List Value} (F : Exa Z h a C) (wi : (Jvm.Cond.instantiable C kk).before a0 Z = true) (A : Al Z h b ty vs) : a ≠ b := by obtain ⟨-, c, A, -⟩ := A; exact ne_arr F wi A
theorem in_of {c : Cell} {vs : List Value} {j : Int32} {i : Nat} (r : c.slots = vs.toArray) (hj : j.toInt = (i : Int)) (hi : i < vs.length) : ¬ (j < 0 ∨ c.slots.size ≤ j.toNatClampNeg) := by
  have h1 : j.toNatClampNeg = i := by show j.toInt.toNat = i; omega
  rw [h1, r, Int32.lt_iff_toInt_lt]
  have z0 : (0 : Int32).toInt = 0 := rfl
  rw [z0]
  intro q
  rcases q with q | q
  · omega
  · rw [List.size_toArray] at q; omega
theorem at_of {c : Cell} {vs : List Value} {j : Int32} {i : Nat} {v : Value} (r : c.slots = vs.toArray) (hj : j.toInt = (i : Int)) (hv : vs[i]? = some v) : c.slots[j.toNatClampNeg]? = some v := by
  have h1 : j.toNatClampNeg = i := by show j.toInt.toNat = i; omega
  rw [h1, r]; simpa using hv
theorem Go.iaload {a : Addr} {vs : List Value} {j : Int32} {i : Nat} {v : Value} (hd : decode B pc = .ok (.iaload, 1)) (hp : pc + 1 = pc') (A : Al Z h a .int vs) (hj : j.toInt = (i : Int)) (hv : vs[i]? = some v) (g : Go Z l R B ml own rt mn pc' Ls (v :: rest) h L k n Q) : Go Z l R B ml own rt mn pc Ls (.int j :: .ref a :: rest) h L k n Q := by
  obtain ⟨q, c, A, r⟩ := A
  subst hp
  exact Go.stand (fun p e s m args below meth c' T t X hx hZ hB hown eT hr => X.iaload hx (j := j) (v := v) (by rw [eT]; exact A.1) (State.isArrayOf_alike hZ.alike A.2.1) A.2.2 (in_of r hj (List.getElem?_eq_some_iff.mp hv).1) (at_of r hj hv) (g := mkF m pc Ls (.int j :: .ref a :: rest)) rfl rfl (hb hB hd) _ hr) g
theorem Go.laload {a : Addr} {vs : List Value} {j : Int32} {i : Nat} {v : Value} (hd : decode B pc = .ok (.laload, 1)) (hp : pc + 1 = pc') (A : Al Z h a .long vs) (hj : j.toInt = (i : Int)) (hv : vs[i]? = some v) (g : Go Z l R B ml own rt mn pc' Ls (v :: rest) h L k n Q) : Go Z l R B ml own rt mn pc Ls (.int j :: .ref a :: rest) h L k n Q := by
  obtain ⟨q, c, A, r⟩ := A
  subst hp
  exact Go.stand (fun p e s m args below meth c' T t X hx hZ hB hown eT hr => X.laload hx (j := j) (v := v) (by rw [eT]; exact A.1) (State.isArrayOf_alike hZ.alike A.2.1) A.2.2 (in_of r hj (List.getElem?_eq_some_iff.mp hv).1) (at_of r hj hv) (g := mkF m pc Ls (.int j :: .ref a :: rest)) rfl rfl (hb hB hd) _ hr) g
theorem Go.baloadB {a : Addr} {vs : List Value} {j : Int32} {i : Nat} {v : Value} (hd : decode B pc = .ok (.baload, 1)) (hp : pc + 1 = pc') (A : Al Z h a .byte vs) (hj : j.toInt = (i : Int)) (hv : vs[i]? = some v) (g : Go Z l R B ml own rt mn pc' Ls (v :: rest) h L k n Q) : Go Z l R B ml own rt mn pc Ls (.int j :: .ref a :: rest) h L k n Q := by
  obtain ⟨q, c, A, r⟩ := A
  subst hp
  exact Go.stand (fun p e s m args below meth c' T t X hx hZ hB hown eT hr => X.baloadBytes hx (j := j) (v := v) (by rw [eT]; exact A.1) (State.isArrayOf_alike hZ.alike A.2.1) A.2.2 (in_of r hj (List.getElem?_eq_some_iff.mp hv).1) (at_of r hj hv) (g := mkF m pc Ls (.int j :: .ref a :: rest)) rfl rfl (hb hB hd) _ hr) g
theorem Go.baloadZ {a : Addr} {vs : List Value} {j : Int32} {i : Nat} {v : Value} (hd : decode B pc = .ok (.baload, 1)) (hp : pc + 1 = pc') (A : Al Z h a .boolean vs) (hj : j.toInt = (i : Int)) (hv : vs[i]? = some v) (g : Go Z l R B ml own rt mn pc' Ls (v :: rest) h L k n Q) : Go Z l R B ml own rt mn pc Ls (.int j :: .ref a :: rest) h L k n Q := by
  obtain ⟨q, c, A, r⟩ := A
  subst hp
  exact Go.stand (fun p e s m args below meth c' T t X hx hZ hB hown eT hr => X.baloadBooleans hx (j := j) (v := v) (by rw [eT]; exact A.1) (State.isArrayOf_alike hZ.alike A.2.1) A.2.2 (in_of r hj (List.getElem?_eq_some_iff.mp hv).1) (at_of r hj hv) (g := mkF m pc Ls (.int j :: .ref a :: rest)) rfl rfl (hb hB hd) _ hr) g
theorem Go.iastore {a : Addr} {vs vs' : List Value} {j : Int32} {x : Int32} {i : Nat} {v : Value} (hd : decode B pc = .ok (.iastore, 1)) (hp : pc + 1 = pc') (A : Al Z h a .int vs) (hj : j.toInt = (i : Int)) (hi : i < vs.length) (hv : .int x = v) (hs : vs.set i v = vs') (g : ∀ h' L', (∀ q, Fr q L → q ≤ a → Fr q L') → Wr h h' a i v → Al Z h' a .int vs' → Go Z l R B ml own rt mn pc' Ls rest h' L' k n Q) : Go Z l R B ml own rt mn pc Ls (.int x :: .int j :: .ref a :: rest) h L k n Q := by
  have A' := A
  obtain ⟨q, c, A, r⟩ := A
  subst hp hs
  intro p e s m args below meth c' T X hx hZ hby hml hown hrt hlk hnm eT
  obtain ⟨T', h', X', e', W', stp⟩ := stI X hx hZ eT A (j := j) (in_of r hj hi) (g := mkF m pc Ls (.int x :: .int j :: .ref a :: rest)) rfl rfl (hb hby hd)
  have h1 : j.toNatClampNeg = i := by show j.toInt.toNat = i; omega
  rw [h1] at X' W'
  subst hv
  obtain ⟨s₂, o, h1, h2⟩ := g h' _ (fun q N r => fr_one N r) W' (A'.set W') p e s m args below meth c' T' X' hx hZ hby hml hown hrt hlk hnm e'
  exact ⟨s₂, o, stp _ h1, h2⟩
theorem Go.lastore {a : Addr} {vs vs' : List Value} {j : Int32} {x : Int64} {i : Nat} {v : Value} (hd : decode B pc = .ok (.lastore, 1)) (hp : pc + 1 = pc') (A : Al Z h a .long vs) (hj : j.toInt = (i : Int)) (hi : i < vs.length) (hv : .long x = v) (hs : vs.set i v = vs') (g : ∀ h' L', (∀ q, Fr q L → q ≤ a → Fr q L') → Wr h h' a i v → Al Z h' a .long vs' → Go Z l R B ml own rt mn pc' Ls rest h' L' k n Q) : Go Z l R B ml own rt mn pc Ls (.long x :: .int j :: .ref a :: rest) h L k n Q := by
  have A' := A
  obtain ⟨q, c, A, r⟩ := A
  subst hp hs
  intro p e s m args below meth c' T X hx hZ hby hml hown hrt hlk hnm eT
  obtain ⟨T', h', X', e', W', stp⟩ := stJ X hx hZ eT A (j := j) (in_of r hj hi) (g := mkF m pc Ls (.long x :: .int j :: .ref a :: rest)) rfl rfl (hb hby hd)
  have h1 : j.toNatClampNeg = i := by show j.toInt.toNat = i; omega
  rw [h1] at X' W'
  subst hv
  obtain ⟨s₂, o, h1, h2⟩ := g h' _ (fun q N r => fr_one N r) W' (A'.set W') p e s m args below meth c' T' X' hx hZ hby hml hown hrt hlk hnm e'
  exact ⟨s₂, o, stp _ h1, h2⟩
theorem Go.bastoreB {a : Addr} {vs vs' : List Value} {j : Int32} {x : Int32} {i : Nat} {v : Value} (hd : decode B pc = .ok (.bastore, 1)) (hp : pc + 1 = pc') (A : Al Z h a .byte vs) (hj : j.toInt = (i : Int)) (hi : i < vs.length) (hv : .int (nar .byte x) = v) (hs : vs.set i v = vs') (g : ∀ h' L', (∀ q, Fr q L → q ≤ a → Fr q L') → Wr h h' a i v → Al Z h' a .byte vs' → Go Z l R B ml own rt mn pc' Ls rest h' L' k n Q) : Go Z l R B ml own rt mn pc Ls (.int x :: .int j :: .ref a :: rest) h L k n Q := by
  have A' := A
  obtain ⟨q, c, A, r⟩ := A
  subst hp hs
  intro p e s m args below meth c' T X hx hZ hby hml hown hrt hlk hnm eT
  obtain ⟨T', h', X', e', W', stp⟩ := stB X hx hZ eT A (j := j) (in_of r hj hi) (g := mkF m pc Ls (.int x :: .int j :: .ref a :: rest)) rfl rfl (hb hby hd)
  have h1 : j.toNatClampNeg = i := by show j.toInt.toNat = i; omega
  rw [h1] at X' W'
  subst hv
  obtain ⟨s₂, o, h1, h2⟩ := g h' _ (fun q N r => fr_one N r) W' (A'.set W') p e s m args below meth c' T' X' hx hZ hby hml hown hrt hlk hnm e'
  exact ⟨s₂, o, stp _ h1, h2⟩
theorem Go.bastoreZ {a : Addr} {vs vs' : List Value} {j : Int32} {x : Int32} {i : Nat} {v : Value} (hd : decode B pc = .ok (.bastore, 1)) (hp : pc + 1 = pc') (A : Al Z h a .boolean vs) (hj : j.toInt = (i : Int)) (hi : i < vs.length) (hv : .int (nar .boolean x) = v) (hs : vs.set i v = vs') (g : ∀ h' L', (∀ q, Fr q L → q ≤ a → Fr q L') → Wr h h' a i v → Al Z h' a .boolean vs' → Go Z l R B ml own rt mn pc' Ls rest h' L' k n Q) : Go Z l R B ml own rt mn pc Ls (.int x :: .int j :: .ref a :: rest) h L k n Q := by
  have A' := A
  obtain ⟨q, c, A, r⟩ := A
  subst hp hs
  intro p e s m args below meth c' T X hx hZ hby hml hown hrt hlk hnm eT
  obtain ⟨T', h', X', e', W', stp⟩ := stZ X hx hZ eT A (j := j) (in_of r hj hi) (g := mkF m pc Ls (.int x :: .int j :: .ref a :: rest)) rfl rfl (hb hby hd)
  have h1 : j.toNatClampNeg = i := by show j.toInt.toNat = i; omega
  rw [h1] at X' W'
  subst hv
  obtain ⟨s₂, o, h1, h2⟩ := g h' _ (fun q N r => fr_one N r) W' (A'.set W') p e s m args below meth c' T' X' hx hZ hby hml hown hrt hlk hnm e'
  exact ⟨s₂, o, stp _ h1, h2⟩
theorem Go.arraylength {a : Addr} {ty : FieldType} {vs : List Value} {z : Int32} (hd : decode B pc = .ok (.arraylength, 1)) (hp : pc + 1 = pc') (A : Al Z h a ty vs) (hz : vs.length.toInt32 = z) (g : Go Z l R B ml own rt mn pc' Ls (.int z :: rest) h L k n Q) : Go Z l R B ml own rt mn pc Ls (.ref a :: rest) h L k n Q := by
  obtain ⟨q, c, A, r⟩ := A
  subst hp hz
  refine Go.stand (fun p e s m args below meth c' T t X hx hZ hB hown eT hr => X.arraylength hx (by rw [eT]; exact A.1) (State.isArrayOf_alike hZ.alike A.2.1) (g := mkF m pc Ls (.ref a :: rest)) rfl rfl (hb hB hd) _ ?_) g
  rw [r]; simpa using hr
theorem Go.new_int {a0 : Array Value} {z : Int32} {N : Nat} {k' n' : Nat} {vs : List Value} (hd : decode B pc = .ok (.newarray .int, 2)) (hp : pc + 2 = pc') (w : (Jvm.Cond.arrayClass (.int)).before a0 Z = true) (hz : z.toInt = (N : Int)) (hvs : List.replicate N (defaultValue .int) = vs) (cap : Nat) (hcap : N ≤ cap) (h8 : cap * 8 ≤ 536870912) (hc : k + 1 ≤ R.cells) (hl : n + cap ≤ R.slots) (hk' : k + 1 = k') (hn' : n + cap = n')
    (g : ∀ h' a, a = h.size → Ext h h' → Al Z h' a .int vs → Go Z l R B ml own rt mn pc' Ls (.ref a :: rest) h' L k' n' Q) : Go Z l R B ml own rt mn pc Ls (.int z :: rest) h L k n Q := by
  subst hp hk' hn' hvs
  intro p e s m args below meth c T X hx hZ hby hml hown hrt hlk hnm eT
  have hz0 : ¬ z < 0 := by
    rw [Int32.lt_iff_toInt_lt]; have z0 : (0 : Int32).toInt = 0 := rfl
    omega
  obtain ⟨T', h', cA, X', e', E', A', stp⟩ := newP X hx hZ (aty := .int) w eT (g := mkF m pc Ls (.int z :: rest)) rfl (hb hby hd) rfl hz0 (cap := cap) (by show z.toInt.toNat ≤ cap; omega) h8 hc hl
  obtain ⟨s₂, o, h1, h2⟩ := g h' _ rfl E' (Al.new A' hz) p e s m args below meth c T' X' hx hZ hby hml hown hrt hlk hnm e'
  exact ⟨s₂, o, stp _ h1, h2⟩
theorem Go.new_long {a0 : Array Value} {z : Int32} {N : Nat} {k' n' : Nat} {vs : List Value} (hd : decode B pc = .ok (.newarray .long, 2)) (hp : pc + 2 = pc') (w : (Jvm.Cond.arrayClass (.long)).before a0 Z = true) (hz : z.toInt = (N : Int)) (hvs : List.replicate N (defaultValue .long) = vs) (cap : Nat) (hcap : N ≤ cap) (h8 : cap * 8 ≤ 536870912) (hc : k + 1 ≤ R.cells) (hl : n + cap ≤ R.slots) (hk' : k + 1 = k') (hn' : n + cap = n')
    (g : ∀ h' a, a = h.size → Ext h h' → Al Z h' a .long vs → Go Z l R B ml own rt mn pc' Ls (.ref a :: rest) h' L k' n' Q) : Go Z l R B ml own rt mn pc Ls (.int z :: rest) h L k n Q := by
  subst hp hk' hn' hvs
  intro p e s m args below meth c T X hx hZ hby hml hown hrt hlk hnm eT
  have hz0 : ¬ z < 0 := by
    rw [Int32.lt_iff_toInt_lt]; have z0 : (0 : Int32).toInt = 0 := rfl
    omega
  obtain ⟨T', h', cA, X', e', E', A', stp⟩ := newP X hx hZ (aty := .long) w eT (g := mkF m pc Ls (.int z :: rest)) rfl (hb hby hd) rfl hz0 (cap := cap) (by show z.toInt.toNat ≤ cap; omega) h8 hc hl
  obtain ⟨s₂, o, h1, h2⟩ := g h' _ rfl E' (Al.new A' hz) p e s m args below meth c T' X' hx hZ hby hml hown hrt hlk hnm e'
  exact ⟨s₂, o, stp _ h1, h2⟩
theorem Go.new_byte {a0 : Array Value} {z : Int32} {N : Nat} {k' n' : Nat} {vs : List Value} (hd : decode B pc = .ok (.newarray .byte, 2)) (hp : pc + 2 = pc') (w : (Jvm.Cond.arrayClass (.byte)).before a0 Z = true) (hz : z.toInt = (N : Int)) (hvs : List.replicate N (defaultValue .byte) = vs) (cap : Nat) (hcap : N ≤ cap) (h8 : cap * 8 ≤ 536870912) (hc : k + 1 ≤ R.cells) (hl : n + cap ≤ R.slots) (hk' : k + 1 = k') (hn' : n + cap = n')
    (g : ∀ h' a, a = h.size → Ext h h' → Al Z h' a .byte vs → Go Z l R B ml own rt mn pc' Ls (.ref a :: rest) h' L k' n' Q) : Go Z l R B ml own rt mn pc Ls (.int z :: rest) h L k n Q := by
  subst hp hk' hn' hvs
  intro p e s m args below meth c T X hx hZ hby hml hown hrt hlk hnm eT
  have hz0 : ¬ z < 0 := by
    rw [Int32.lt_iff_toInt_lt]; have z0 : (0 : Int32).toInt = 0 := rfl
    omega
  obtain ⟨T', h', cA, X', e', E', A', stp⟩ := newP X hx hZ (aty := .byte) w eT (g := mkF m pc Ls (.int z :: rest)) rfl (hb hby hd) rfl hz0 (cap := cap) (by show z.toInt.toNat ≤ cap; omega) h8 hc hl
  obtain ⟨s₂, o, h1, h2⟩ := g h' _ rfl E' (Al.new A' hz) p e s m args below meth c T' X' hx hZ hby hml hown hrt hlk hnm e'
  exact ⟨s₂, o, stp _ h1, h2⟩
theorem Go.new_boolean {a0 : Array Value} {z : Int32} {N : Nat} {k' n' : Nat} {vs : List Value} (hd : decode B pc = .ok (.newarray .boolean, 2)) (hp : pc + 2 = pc') (w : (Jvm.Cond.arrayClass (.boolean)).before a0 Z = true) (hz : z.toInt = (N : Int)) (hvs : List.replicate N (defaultValue .boolean) = vs) (cap : Nat) (hcap : N ≤ cap) (h8 : cap * 8 ≤ 536870912) (hc : k + 1 ≤ R.cells) (hl : n + cap ≤ R.slots) (hk' : k + 1 = k') (hn' : n + cap = n')
    (g : ∀ h' a, a = h.size → Ext h h' → Al Z h' a .boolean vs → Go Z l R B ml own rt mn pc' Ls (.ref a :: rest) h' L k' n' Q) : Go Z l R B ml own rt mn pc Ls (.int z :: rest) h L k n Q := by
  subst hp hk' hn' hvs
  intro p e s m args below meth c T X hx hZ hby hml hown hrt hlk hnm eT
  have hz0 : ¬ z < 0 := by
    rw [Int32.lt_iff_toInt_lt]; have z0 : (0 : Int32).toInt = 0 := rfl
    omega
  obtain ⟨T', h', cA, X', e', E', A', stp⟩ := newP X hx hZ (aty := .boolean) w eT (g := mkF m pc Ls (.int z :: rest)) rfl (hb hby hd) rfl hz0 (cap := cap) (by show z.toInt.toNat ≤ cap; omega) h8 hc hl
  obtain ⟨s₂, o, h1, h2⟩ := g h' _ rfl E' (Al.new A' hz) p e s m args below meth c T' X' hx hZ hby hml hown hrt hlk hnm e'
  exact ⟨s₂, o, stp _ h1, h2⟩
theorem iadd_eq {x y : Int32} (h1 : -2147483648 ≤ x.toInt + y.toInt) (h2 : x.toInt + y.toInt < 2147483648) : (x + y).toInt = x.toInt + y.toInt := by
  have e := c_iadd x y
  have r := rng32 (x + y)
  omega
theorem isub_eq {x y : Int32} (h1 : -2147483648 ≤ x.toInt - y.toInt) (h2 : x.toInt - y.toInt < 2147483648) : (x - y).toInt = x.toInt - y.toInt := by
  have e := c_isub x y
  have r := rng32 (x - y)
  omega
theorem ladd_eq {x y : Int64} (h1 : -9223372036854775808 ≤ x.toInt + y.toInt) (h2 : x.toInt + y.toInt < 9223372036854775808) : (x + y).toInt = x.toInt + y.toInt := by
  have e := c_ladd x y
  have r := rng64 (x + y)
  omega
theorem lsub_eq {x y : Int64} (h1 : -9223372036854775808 ≤ x.toInt - y.toInt) (h2 : x.toInt - y.toInt < 9223372036854775808) : (x - y).toInt = x.toInt - y.toInt := by
  have e := c_lsub x y
  have r := rng64 (x - y)
  omega
theorem irem_bd {x y : Int32} (h1 : 0 ≤ x.toInt) (h2 : 0 < y.toInt) : 0 ≤ (x % y).toInt ∧ (x % y).toInt < y.toInt ∧ (x % y).toInt ≤ x.toInt := by
  have q := (c_iremV x y).1 h1 h2
  exact ⟨q.1, q.2.1, q.2.2.1⟩
theorem mask31 (x : Int32) : 0 ≤ (x &&& (2147483647 : Int32)).toInt ∧ (x &&& (2147483647 : Int32)).toInt ≤ 2147483647 := by
  have q := c_and x (2147483647 : Int32) (by decide)
  have k : (2147483647 : Int32).toInt = 2147483647 := by decide
  omega
theorem nar_b8 (x : Int32) : nar .byte x.toInt8.toInt32 = x.toInt8.toInt32 := by
  show x.toInt8.toInt32.toInt8.toInt32 = x.toInt8.toInt32
  rw [Int8.toInt8_toInt32]
end Rules
end Jvm.OwnKit
namespace Jvm.Pilot.@@N@@
open Jvm Jvm.ClassFile Sem Op Lib Jvm.Free Jvm.Stand Jvm.LawKit Jvm.RoadKit Jvm.OwnKit Bundle Jvm.Pilot.@@N@@.Jvm.D
theorem w0 : (Jvm.Cond.constant "com/example/rehearsal/rehearsal/policies/KnownRunsKeepToPinLaw" (7 : Nat) (65535 : Int32)) ∈ tables_1 := List.mem_of_getElem? (i := 0) rfl
theorem w1 : (Jvm.Cond.classLink "com/example/rehearsal/rehearsal/policies/KnownRunsKeepToPinLaw" (8 : Nat) "com/example/rehearsal/rehearsal/policies/KnownRuns") ∈ tables_1 := List.mem_of_getElem? (i := 1) rfl
theorem w2 : (Jvm.Cond.instantiable "com/example/rehearsal/rehearsal/policies/KnownRuns" (9 : Nat)) ∈ tables_1 := List.mem_of_getElem? (i := 2) rfl
theorem w3 : (Jvm.Cond.initialized "com/example/rehearsal/rehearsal/policies/KnownRuns") ∈ tables_1 := List.mem_of_getElem? (i := 3) rfl
theorem w4 : (Jvm.Cond.methodLink "com/example/rehearsal/rehearsal/policies/KnownRunsKeepToPinLaw" (10 : Nat) ({ cls := "com/example/rehearsal/rehearsal/policies/KnownRuns", name := "<init>", desc := "()V" } : Jvm.MethodName)) ∈ tables_1 := List.mem_of_getElem? (i := 4) rfl
theorem w5 : (Jvm.Cond.instanceMethod ({ cls := "com/example/rehearsal/rehearsal/policies/KnownRuns", name := "<init>", desc := "()V" } : Jvm.MethodName)) ∈ tables_1 := List.mem_of_getElem? (i := 5) rfl
theorem w6 : (Jvm.Cond.code ({ cls := "com/example/rehearsal/rehearsal/policies/KnownRuns", name := "<init>", desc := "()V" } : Jvm.MethodName) prog_102_method_1_code (1 : Nat) (Option.none : Option Jvm.ClassFile.FieldType)) ∈ tables_1 := List.mem_of_getElem? (i := 6) rfl
theorem w7 : (Jvm.Cond.methodLink "com/example/rehearsal/rehearsal/policies/KnownRuns" (1 : Nat) ({ cls := "java/lang/Object", name := "<init>", desc := "()V" } : Jvm.MethodName)) ∈ tables_1 := List.mem_of_getElem? (i := 7) rfl
theorem w8 : (Jvm.Cond.instanceMethod ({ cls := "java/lang/Object", name := "<init>", desc := "()V" } : Jvm.MethodName)) ∈ tables_1 := List.mem_of_getElem? (i := 8) rfl
theorem w9 : (Jvm.Cond.code ({ cls := "java/lang/Object", name := "<init>", desc := "()V" } : Jvm.MethodName) object_method_1_code (1 : Nat) (Option.none : Option Jvm.ClassFile.FieldType)) ∈ tables_1 := List.mem_of_getElem? (i := 9) rfl
theorem w10 : (Jvm.Cond.fieldLink "com/example/rehearsal/rehearsal/policies/KnownRuns" (9 : Nat) "com/example/rehearsal/rehearsal/policies/KnownRuns" "room" "I") ∈ tables_1 := List.mem_of_getElem? (i := 10) rfl
theorem w11 : (Jvm.Cond.lays "com/example/rehearsal/rehearsal/policies/KnownRuns" "com/example/rehearsal/rehearsal/policies/KnownRuns" "room" "I") ∈ tables_1 := List.mem_of_getElem? (i := 11) rfl
theorem w12 : (Jvm.Cond.arrayClass Jvm.ClassFile.FieldType.long) ∈ tables_1 := List.mem_of_getElem? (i := 12) rfl
theorem w13 : (Jvm.Cond.fieldLink "com/example/rehearsal/rehearsal/policies/KnownRuns" (13 : Nat) "com/example/rehearsal/rehearsal/policies/KnownRuns" "starts" "[J") ∈ tables_1 := List.mem_of_getElem? (i := 13) rfl
theorem w14 : (Jvm.Cond.lays "com/example/rehearsal/rehearsal/policies/KnownRuns" "com/example/rehearsal/rehearsal/policies/KnownRuns" "starts" "[J") ∈ tables_1 := List.mem_of_getElem? (i := 14) rfl
theorem w15 : (Jvm.Cond.fieldLink "com/example/rehearsal/rehearsal/policies/KnownRuns" (17 : Nat) "com/example/rehearsal/rehearsal/policies/KnownRuns" "ends" "[J") ∈ tables_1 := List.mem_of_getElem? (i := 15) rfl
theorem w16 : (Jvm.Cond.lays "com/example/rehearsal/rehearsal/policies/KnownRuns" "com/example/rehearsal/rehearsal/policies/KnownRuns" "ends" "[J") ∈ tables_1 := List.mem_of_getElem? (i := 16) rfl
theorem w17 : (Jvm.Cond.arrayClass Jvm.ClassFile.FieldType.int) ∈ tables_1 := List.mem_of_getElem? (i := 17) rfl
theorem w18 : (Jvm.Cond.fieldLink "com/example/rehearsal/rehearsal/policies/KnownRuns" (20 : Nat) "com/example/rehearsal/rehearsal/policies/KnownRuns" "spans" "[I") ∈ tables_1 := List.mem_of_getElem? (i := 18) rfl
theorem w19 : (Jvm.Cond.lays "com/example/rehearsal/rehearsal/policies/KnownRuns" "com/example/rehearsal/rehearsal/policies/KnownRuns" "spans" "[I") ∈ tables_1 := List.mem_of_getElem? (i := 19) rfl
theorem w20 : (Jvm.Cond.fieldLink "com/example/rehearsal/rehearsal/policies/KnownRuns" (24 : Nat) "com/example/rehearsal/rehearsal/policies/KnownRuns" "maxima" "[J") ∈ tables_1 := List.mem_of_getElem? (i := 20) rfl
theorem w21 : (Jvm.Cond.lays "com/example/rehearsal/rehearsal/policies/KnownRuns" "com/example/rehearsal/rehearsal/policies/KnownRuns" "maxima" "[J") ∈ tables_1 := List.mem_of_getElem? (i := 21) rfl
theorem w22 : (Jvm.Cond.methodLink "com/example/rehearsal/rehearsal/policies/KnownRunsKeepToPinLaw" (15 : Nat) ({ cls := "com/example/rehearsal/rehearsal/policies/KnownRuns", name := "moveFrontier", desc := "(JI)V" } : Jvm.MethodName)) ∈ tables_1 := List.mem_of_getElem? (i := 22) rfl
theorem w23 : (Jvm.Cond.declares ({ cls := "com/example/rehearsal/rehearsal/policies/KnownRuns", name := "moveFrontier", desc := "(JI)V" } : Jvm.MethodName)) ∈ tables_1 := List.mem_of_getElem? (i := 23) rfl
theorem w24 : (Jvm.Cond.instanceMethod ({ cls := "com/example/rehearsal/rehearsal/policies/KnownRuns", name := "moveFrontier", desc := "(JI)V" } : Jvm.MethodName)) ∈ tables_1 := List.mem_of_getElem? (i := 24) rfl
theorem w25 : (Jvm.Cond.selects "com/example/rehearsal/rehearsal/policies/KnownRuns" ({ cls := "com/example/rehearsal/rehearsal/policies/KnownRuns", name := "moveFrontier", desc := "(JI)V" } : Jvm.MethodName) ({ cls := "com/example/rehearsal/rehearsal/policies/KnownRuns", name := "moveFrontier", desc := "(JI)V" } : Jvm.MethodName)) ∈ tables_1 := List.mem_of_getElem? (i := 25) rfl
theorem w26 : (Jvm.Cond.code ({ cls := "com/example/rehearsal/rehearsal/policies/KnownRuns", name := "moveFrontier", desc := "(JI)V" } : Jvm.MethodName) prog_102_method_5_code (4 : Nat) (Option.none : Option Jvm.ClassFile.FieldType)) ∈ tables_1 := List.mem_of_getElem? (i := 26) rfl
theorem w27 : (Jvm.Cond.fieldLink "com/example/rehearsal/rehearsal/policies/KnownRuns" (34 : Nat) "com/example/rehearsal/rehearsal/policies/KnownRuns" "frontier" "J") ∈ tables_1 := List.mem_of_getElem? (i := 27) rfl
theorem w28 : (Jvm.Cond.lays "com/example/rehearsal/rehearsal/policies/KnownRuns" "com/example/rehearsal/rehearsal/policies/KnownRuns" "frontier" "J") ∈ tables_1 := List.mem_of_getElem? (i := 28) rfl
theorem w29 : (Jvm.Cond.fieldLink "com/example/rehearsal/rehearsal/policies/KnownRuns" (37 : Nat) "com/example/rehearsal/rehearsal/policies/KnownRuns" "frontierSpan" "I") ∈ tables_1 := List.mem_of_getElem? (i := 29) rfl
theorem w30 : (Jvm.Cond.lays "com/example/rehearsal/rehearsal/policies/KnownRuns" "com/example/rehearsal/rehearsal/policies/KnownRuns" "frontierSpan" "I") ∈ tables_1 := List.mem_of_getElem? (i := 30) rfl
theorem w31 : (Jvm.Cond.methodLink "com/example/rehearsal/rehearsal/policies/KnownRunsKeepToPinLaw" (19 : Nat) ({ cls := "com/example/rehearsal/rehearsal/policies/KnownRuns", name := "keepTo", desc := "(J)V" } : Jvm.MethodName)) ∈ tables_1 := List.mem_of_getElem? (i := 31) rfl
theorem w32 : (Jvm.Cond.declares ({ cls := "com/example/rehearsal/rehearsal/policies/KnownRuns", name := "keepTo", desc := "(J)V" } : Jvm.MethodName)) ∈ tables_1 := List.mem_of_getElem? (i := 32) rfl
theorem w33 : (Jvm.Cond.instanceMethod ({ cls := "com/example/rehearsal/rehearsal/policies/KnownRuns", name := "keepTo", desc := "(J)V" } : Jvm.MethodName)) ∈ tables_1 := List.mem_of_getElem? (i := 33) rfl
theorem w34 : (Jvm.Cond.selects "com/example/rehearsal/rehearsal/policies/KnownRuns" ({ cls := "com/example/rehearsal/rehearsal/policies/KnownRuns", name := "keepTo", desc := "(J)V" } : Jvm.MethodName) ({ cls := "com/example/rehearsal/rehearsal/policies/KnownRuns", name := "keepTo", desc := "(J)V" } : Jvm.MethodName)) ∈ tables_1 := List.mem_of_getElem? (i := 34) rfl
theorem w35 : (Jvm.Cond.code ({ cls := "com/example/rehearsal/rehearsal/policies/KnownRuns", name := "keepTo", desc := "(J)V" } : Jvm.MethodName) prog_102_method_2_code (5 : Nat) (Option.none : Option Jvm.ClassFile.FieldType)) ∈ tables_1 := List.mem_of_getElem? (i := 35) rfl
theorem w36 : (Jvm.Cond.fieldLink "com/example/rehearsal/rehearsal/policies/KnownRuns" (27 : Nat) "com/example/rehearsal/rehearsal/policies/KnownRuns" "setting" "J") ∈ tables_1 := List.mem_of_getElem? (i := 36) rfl
theorem w37 : (Jvm.Cond.lays "com/example/rehearsal/rehearsal/policies/KnownRuns" "com/example/rehearsal/rehearsal/policies/KnownRuns" "setting" "J") ∈ tables_1 := List.mem_of_getElem? (i := 37) rfl
theorem w38 : (Jvm.Cond.fieldLink "com/example/rehearsal/rehearsal/policies/KnownRuns" (31 : Nat) "com/example/rehearsal/rehearsal/policies/KnownRuns" "count" "I") ∈ tables_1 := List.mem_of_getElem? (i := 38) rfl
theorem w39 : (Jvm.Cond.lays "com/example/rehearsal/rehearsal/policies/KnownRuns" "com/example/rehearsal/rehearsal/policies/KnownRuns" "count" "I") ∈ tables_1 := List.mem_of_getElem? (i := 39) rfl
theorem w40 : (Jvm.Cond.methodLink "com/example/rehearsal/rehearsal/policies/KnownRunsKeepToPinLaw" (23 : Nat) ({ cls := "com/example/rehearsal/rehearsal/policies/KnownRuns", name := "frontier", desc := "()J" } : Jvm.MethodName)) ∈ tables_1 := List.mem_of_getElem? (i := 40) rfl
theorem w41 : (Jvm.Cond.declares ({ cls := "com/example/rehearsal/rehearsal/policies/KnownRuns", name := "frontier", desc := "()J" } : Jvm.MethodName)) ∈ tables_1 := List.mem_of_getElem? (i := 41) rfl
theorem w42 : (Jvm.Cond.instanceMethod ({ cls := "com/example/rehearsal/rehearsal/policies/KnownRuns", name := "frontier", desc := "()J" } : Jvm.MethodName)) ∈ tables_1 := List.mem_of_getElem? (i := 42) rfl
theorem w43 : (Jvm.Cond.selects "com/example/rehearsal/rehearsal/policies/KnownRuns" ({ cls := "com/example/rehearsal/rehearsal/policies/KnownRuns", name := "frontier", desc := "()J" } : Jvm.MethodName) ({ cls := "com/example/rehearsal/rehearsal/policies/KnownRuns", name := "frontier", desc := "()J" } : Jvm.MethodName)) ∈ tables_1 := List.mem_of_getElem? (i := 43) rfl
theorem w44 : (Jvm.Cond.code ({ cls := "com/example/rehearsal/rehearsal/policies/KnownRuns", name := "frontier", desc := "()J" } : Jvm.MethodName) prog_102_method_3_code (1 : Nat) (Option.some Jvm.ClassFile.FieldType.long)) ∈ tables_1 := List.mem_of_getElem? (i := 44) rfl
theorem w45 : (Jvm.Cond.methodLink "com/example/rehearsal/rehearsal/policies/KnownRunsKeepToPinLaw" (27 : Nat) ({ cls := "com/example/rehearsal/rehearsal/policies/KnownRuns", name := "frontierSpan", desc := "()I" } : Jvm.MethodName)) ∈ tables_1 := List.mem_of_getElem? (i := 45) rfl
theorem w46 : (Jvm.Cond.declares ({ cls := "com/example/rehearsal/rehearsal/policies/KnownRuns", name := "frontierSpan", desc := "()I" } : Jvm.MethodName)) ∈ tables_1 := List.mem_of_getElem? (i := 46) rfl
theorem w47 : (Jvm.Cond.instanceMethod ({ cls := "com/example/rehearsal/rehearsal/policies/KnownRuns", name := "frontierSpan", desc := "()I" } : Jvm.MethodName)) ∈ tables_1 := List.mem_of_getElem? (i := 47) rfl
theorem w48 : (Jvm.Cond.selects "com/example/rehearsal/rehearsal/policies/KnownRuns" ({ cls := "com/example/rehearsal/rehearsal/policies/KnownRuns", name := "frontierSpan", desc := "()I" } : Jvm.MethodName) ({ cls := "com/example/rehearsal/rehearsal/policies/KnownRuns", name := "frontierSpan", desc := "()I" } : Jvm.MethodName)) ∈ tables_1 := List.mem_of_getElem? (i := 48) rfl
theorem w49 : (Jvm.Cond.code ({ cls := "com/example/rehearsal/rehearsal/policies/KnownRuns", name := "frontierSpan", desc := "()I" } : Jvm.MethodName) prog_102_method_4_code (1 : Nat) (Option.some Jvm.ClassFile.FieldType.int)) ∈ tables_1 := List.mem_of_getElem? (i := 49) rfl
theorem w50 : (Jvm.Cond.methodLink "com/example/rehearsal/rehearsal/policies/KnownRunsKeepToPinLaw" (31 : Nat) ({ cls := "com/example/rehearsal/rehearsal/policies/KnownRuns", name := "first", desc := "(J)I" } : Jvm.MethodName)) ∈ tables_1 := List.mem_of_getElem? (i := 50) rfl
theorem w51 : (Jvm.Cond.declares ({ cls := "com/example/rehearsal/rehearsal/policies/KnownRuns", name := "first", desc := "(J)I" } : Jvm.MethodName)) ∈ tables_1 := List.mem_of_getElem? (i := 51) rfl
theorem w52 : (Jvm.Cond.instanceMethod ({ cls := "com/example/rehearsal/rehearsal/policies/KnownRuns", name := "first", desc := "(J)I" } : Jvm.MethodName)) ∈ tables_1 := List.mem_of_getElem? (i := 52) rfl
theorem w53 : (Jvm.Cond.selects "com/example/rehearsal/rehearsal/policies/KnownRuns" ({ cls := "com/example/rehearsal/rehearsal/policies/KnownRuns", name := "first", desc := "(J)I" } : Jvm.MethodName) ({ cls := "com/example/rehearsal/rehearsal/policies/KnownRuns", name := "first", desc := "(J)I" } : Jvm.MethodName)) ∈ tables_1 := List.mem_of_getElem? (i := 53) rfl
theorem w54 : (Jvm.Cond.code ({ cls := "com/example/rehearsal/rehearsal/policies/KnownRuns", name := "first", desc := "(J)I" } : Jvm.MethodName) prog_102_method_6_code (3 : Nat) (Option.some Jvm.ClassFile.FieldType.int)) ∈ tables_1 := List.mem_of_getElem? (i := 54) rfl
theorem w55 : (Jvm.Cond.methodLink "com/example/rehearsal/rehearsal/policies/KnownRunsKeepToPinLaw" (35 : Nat) ({ cls := "com/example/rehearsal/rehearsal/policies/KnownRuns", name := "bound", desc := "(I)J" } : Jvm.MethodName)) ∈ tables_1 := List.mem_of_getElem? (i := 55) rfl
theorem w56 : (Jvm.Cond.declares ({ cls := "com/example/rehearsal/rehearsal/policies/KnownRuns", name := "bound", desc := "(I)J" } : Jvm.MethodName)) ∈ tables_1 := List.mem_of_getElem? (i := 56) rfl
theorem w57 : (Jvm.Cond.instanceMethod ({ cls := "com/example/rehearsal/rehearsal/policies/KnownRuns", name := "bound", desc := "(I)J" } : Jvm.MethodName)) ∈ tables_1 := List.mem_of_getElem? (i := 57) rfl
theorem w58 : (Jvm.Cond.selects "com/example/rehearsal/rehearsal/policies/KnownRuns" ({ cls := "com/example/rehearsal/rehearsal/policies/KnownRuns", name := "bound", desc := "(I)J" } : Jvm.MethodName) ({ cls := "com/example/rehearsal/rehearsal/policies/KnownRuns", name := "bound", desc := "(I)J" } : Jvm.MethodName)) ∈ tables_1 := List.mem_of_getElem? (i := 58) rfl
theorem w59 : (Jvm.Cond.code ({ cls := "com/example/rehearsal/rehearsal/policies/KnownRuns", name := "bound", desc := "(I)J" } : Jvm.MethodName) prog_102_method_11_code (2 : Nat) (Option.some Jvm.ClassFile.FieldType.long)) ∈ tables_1 := List.mem_of_getElem? (i := 59) rfl
theorem w60 : (Jvm.Cond.methodLink "com/example/rehearsal/rehearsal/policies/KnownRunsKeepToPinLaw" (11 : Nat) ({ cls := "com/example/rehearsal/rehearsal/policies/KnownRuns", name := "add", desc := "(JJI)V" } : Jvm.MethodName)) ∈ tables_1 := List.mem_of_getElem? (i := 60) rfl
theorem w61 : (Jvm.Cond.declares ({ cls := "com/example/rehearsal/rehearsal/policies/KnownRuns", name := "add", desc := "(JJI)V" } : Jvm.MethodName)) ∈ tables_1 := List.mem_of_getElem? (i := 61) rfl
theorem w62 : (Jvm.Cond.instanceMethod ({ cls := "com/example/rehearsal/rehearsal/policies/KnownRuns", name := "add", desc := "(JJI)V" } : Jvm.MethodName)) ∈ tables_1 := List.mem_of_getElem? (i := 62) rfl
theorem w63 : (Jvm.Cond.selects "com/example/rehearsal/rehearsal/policies/KnownRuns" ({ cls := "com/example/rehearsal/rehearsal/policies/KnownRuns", name := "add", desc := "(JJI)V" } : Jvm.MethodName) ({ cls := "com/example/rehearsal/rehearsal/policies/KnownRuns", name := "add", desc := "(JJI)V" } : Jvm.MethodName)) ∈ tables_1 := List.mem_of_getElem? (i := 63) rfl
theorem w64 : (Jvm.Cond.code ({ cls := "com/example/rehearsal/rehearsal/policies/KnownRuns", name := "add", desc := "(JJI)V" } : Jvm.MethodName) prog_102_method_13_code (9 : Nat) (Option.none : Option Jvm.ClassFile.FieldType)) ∈ tables_1 := List.mem_of_getElem? (i := 64) rfl
theorem w65 : (Jvm.Cond.methodLink "com/example/rehearsal/rehearsal/policies/KnownRuns" (40 : Nat) ({ cls := "com/example/rehearsal/rehearsal/policies/KnownRuns", name := "firstUnder", desc := "(IJ)I" } : Jvm.MethodName)) ∈ tables_1 := List.mem_of_getElem? (i := 65) rfl
theorem w66 : (Jvm.Cond.instanceMethod ({ cls := "com/example/rehearsal/rehearsal/policies/KnownRuns", name := "firstUnder", desc := "(IJ)I" } : Jvm.MethodName)) ∈ tables_1 := List.mem_of_getElem? (i := 66) rfl
theorem w67 : (Jvm.Cond.privateMethod ({ cls := "com/example/rehearsal/rehearsal/policies/KnownRuns", name := "firstUnder", desc := "(IJ)I" } : Jvm.MethodName)) ∈ tables_1 := List.mem_of_getElem? (i := 67) rfl
theorem w68 : (Jvm.Cond.code ({ cls := "com/example/rehearsal/rehearsal/policies/KnownRuns", name := "firstUnder", desc := "(IJ)I" } : Jvm.MethodName) prog_102_method_8_code (5 : Nat) (Option.some Jvm.ClassFile.FieldType.int)) ∈ tables_1 := List.mem_of_getElem? (i := 68) rfl
theorem d1_0 : decode prog_102_method_1_code 0 = .ok (.aload_n 0, 1) := by decide +kernel
theorem d1_1 : decode prog_102_method_1_code 1 = .ok (.invokespecial 1, 3) := by decide +kernel
theorem d1_4 : decode prog_102_method_1_code 4 = .ok (.aload_n 0, 1) := by decide +kernel
theorem d1_5 : decode prog_102_method_1_code 5 = .ok (.bipush 16, 2) := by decide +kernel
theorem d1_7 : decode prog_102_method_1_code 7 = .ok (.putfield 9, 3) := by decide +kernel
theorem d1_10 : decode prog_102_method_1_code 10 = .ok (.aload_n 0, 1) := by decide +kernel
theorem d1_11 : decode prog_102_method_1_code 11 = .ok (.bipush 16, 2) := by decide +kernel
theorem d1_13 : decode prog_102_method_1_code 13 = .ok (.newarray .long, 2) := by decide +kernel
theorem d1_15 : decode prog_102_method_1_code 15 = .ok (.putfield 13, 3) := by decide +kernel
theorem d1_18 : decode prog_102_method_1_code 18 = .ok (.aload_n 0, 1) := by decide +kernel
theorem d1_19 : decode prog_102_method_1_code 19 = .ok (.bipush 16, 2) := by decide +kernel
theorem d1_21 : decode prog_102_method_1_code 21 = .ok (.newarray .long, 2) := by decide +kernel
theorem d1_23 : decode prog_102_method_1_code 23 = .ok (.putfield 17, 3) := by decide +kernel
theorem d1_26 : decode prog_102_method_1_code 26 = .ok (.aload_n 0, 1) := by decide +kernel
theorem d1_27 : decode prog_102_method_1_code 27 = .ok (.bipush 16, 2) := by decide +kernel
theorem d1_29 : decode prog_102_method_1_code 29 = .ok (.newarray .int, 2) := by decide +kernel
theorem d1_31 : decode prog_102_method_1_code 31 = .ok (.putfield 20, 3) := by decide +kernel
theorem d1_34 : decode prog_102_method_1_code 34 = .ok (.aload_n 0, 1) := by decide +kernel
theorem d1_35 : decode prog_102_method_1_code 35 = .ok (.bipush 32, 2) := by decide +kernel
theorem d1_37 : decode prog_102_method_1_code 37 = .ok (.newarray .long, 2) := by decide +kernel
theorem d1_39 : decode prog_102_method_1_code 39 = .ok (.putfield 24, 3) := by decide +kernel
theorem d1_42 : decode prog_102_method_1_code 42 = .ok (.return_, 1) := by decide +kernel
theorem d3_0 : decode prog_102_method_5_code 0 = .ok (.aload_n 0, 1) := by decide +kernel
theorem d3_1 : decode prog_102_method_5_code 1 = .ok (.lload_n 1, 1) := by decide +kernel
theorem d3_2 : decode prog_102_method_5_code 2 = .ok (.putfield 34, 3) := by decide +kernel
theorem d3_5 : decode prog_102_method_5_code 5 = .ok (.aload_n 0, 1) := by decide +kernel
theorem d3_6 : decode prog_102_method_5_code 6 = .ok (.iload_n 3, 1) := by decide +kernel
theorem d3_7 : decode prog_102_method_5_code 7 = .ok (.putfield 37, 3) := by decide +kernel
theorem d3_10 : decode prog_102_method_5_code 10 = .ok (.return_, 1) := by decide +kernel
theorem d4_0 : decode prog_102_method_2_code 0 = .ok (.aload_n 0, 1) := by decide +kernel
theorem d4_1 : decode prog_102_method_2_code 1 = .ok (.getfield 27, 3) := by decide +kernel
theorem d4_4 : decode prog_102_method_2_code 4 = .ok (.lload_n 1, 1) := by decide +kernel
theorem d4_5 : decode prog_102_method_2_code 5 = .ok (.lcmp, 1) := by decide +kernel
theorem d4_6 : decode prog_102_method_2_code 6 = .ok (.ifCond .ne 4, 3) := by decide +kernel
theorem d4_9 : decode prog_102_method_2_code 9 = .ok (.return_, 1) := by decide +kernel
theorem d4_10 : decode prog_102_method_2_code 10 = .ok (.iconst 0, 1) := by decide +kernel
theorem d4_11 : decode prog_102_method_2_code 11 = .ok (.istore_n 3, 1) := by decide +kernel
theorem d4_12 : decode prog_102_method_2_code 12 = .ok (.iload_n 3, 1) := by decide +kernel
theorem d4_13 : decode prog_102_method_2_code 13 = .ok (.aload_n 0, 1) := by decide +kernel
theorem d4_14 : decode prog_102_method_2_code 14 = .ok (.getfield 31, 3) := by decide +kernel
theorem d4_17 : decode prog_102_method_2_code 17 = .ok (.if_icmp .ge 52, 3) := by decide +kernel
theorem d4_20 : decode prog_102_method_2_code 20 = .ok (.aload_n 0, 1) := by decide +kernel
theorem d4_21 : decode prog_102_method_2_code 21 = .ok (.getfield 9, 3) := by decide +kernel
theorem d4_24 : decode prog_102_method_2_code 24 = .ok (.iload_n 3, 1) := by decide +kernel
theorem d4_25 : decode prog_102_method_2_code 25 = .ok (.iadd, 1) := by decide +kernel
theorem d4_26 : decode prog_102_method_2_code 26 = .ok (.istore 4, 2) := by decide +kernel
theorem d4_28 : decode prog_102_method_2_code 28 = .ok (.iload 4, 2) := by decide +kernel
theorem d4_30 : decode prog_102_method_2_code 30 = .ok (.iconst 1, 1) := by decide +kernel
theorem d4_31 : decode prog_102_method_2_code 31 = .ok (.if_icmp .lt 32, 3) := by decide +kernel
theorem d4_34 : decode prog_102_method_2_code 34 = .ok (.aload_n 0, 1) := by decide +kernel
theorem d4_35 : decode prog_102_method_2_code 35 = .ok (.getfield 24, 3) := by decide +kernel
theorem d4_38 : decode prog_102_method_2_code 38 = .ok (.iload 4, 2) := by decide +kernel
theorem d4_40 : decode prog_102_method_2_code 40 = .ok (.laload, 1) := by decide +kernel
theorem d4_41 : decode prog_102_method_2_code 41 = .ok (.lconst 0, 1) := by decide +kernel
theorem d4_42 : decode prog_102_method_2_code 42 = .ok (.lcmp, 1) := by decide +kernel
theorem d4_43 : decode prog_102_method_2_code 43 = .ok (.ifCond .eq 20, 3) := by decide +kernel
theorem d4_46 : decode prog_102_method_2_code 46 = .ok (.aload_n 0, 1) := by decide +kernel
theorem d4_47 : decode prog_102_method_2_code 47 = .ok (.getfield 24, 3) := by decide +kernel
theorem d4_50 : decode prog_102_method_2_code 50 = .ok (.iload 4, 2) := by decide +kernel
theorem d4_52 : decode prog_102_method_2_code 52 = .ok (.lconst 0, 1) := by decide +kernel
theorem d4_53 : decode prog_102_method_2_code 53 = .ok (.lastore, 1) := by decide +kernel
theorem d4_54 : decode prog_102_method_2_code 54 = .ok (.iload 4, 2) := by decide +kernel
theorem d4_56 : decode prog_102_method_2_code 56 = .ok (.iconst 2, 1) := by decide +kernel
theorem d4_57 : decode prog_102_method_2_code 57 = .ok (.idiv, 1) := by decide +kernel
theorem d4_58 : decode prog_102_method_2_code 58 = .ok (.istore 4, 2) := by decide +kernel
theorem d4_60 : decode prog_102_method_2_code 60 = .ok (.goto (-32), 3) := by decide +kernel
theorem d4_63 : decode prog_102_method_2_code 63 = .ok (.iinc 3 1, 3) := by decide +kernel
theorem d4_66 : decode prog_102_method_2_code 66 = .ok (.goto (-54), 3) := by decide +kernel
theorem d4_69 : decode prog_102_method_2_code 69 = .ok (.aload_n 0, 1) := by decide +kernel
theorem d4_70 : decode prog_102_method_2_code 70 = .ok (.lload_n 1, 1) := by decide +kernel
theorem d4_71 : decode prog_102_method_2_code 71 = .ok (.putfield 27, 3) := by decide +kernel
theorem d4_74 : decode prog_102_method_2_code 74 = .ok (.aload_n 0, 1) := by decide +kernel
theorem d4_75 : decode prog_102_method_2_code 75 = .ok (.lconst 0, 1) := by decide +kernel
theorem d4_76 : decode prog_102_method_2_code 76 = .ok (.putfield 34, 3) := by decide +kernel
theorem d4_79 : decode prog_102_method_2_code 79 = .ok (.aload_n 0, 1) := by decide +kernel
theorem d4_80 : decode prog_102_method_2_code 80 = .ok (.iconst 0, 1) := by decide +kernel
theorem d4_81 : decode prog_102_method_2_code 81 = .ok (.putfield 37, 3) := by decide +kernel
theorem d4_84 : decode prog_102_method_2_code 84 = .ok (.aload_n 0, 1) := by decide +kernel
theorem d4_85 : decode prog_102_method_2_code 85 = .ok (.iconst 0, 1) := by decide +kernel
theorem d4_86 : decode prog_102_method_2_code 86 = .ok (.putfield 31, 3) := by decide +kernel
theorem d4_89 : decode prog_102_method_2_code 89 = .ok (.return_, 1) := by decide +kernel
theorem d5_0 : decode prog_102_method_3_code 0 = .ok (.aload_n 0, 1) := by decide +kernel
theorem d5_1 : decode prog_102_method_3_code 1 = .ok (.getfield 34, 3) := by decide +kernel
theorem d5_4 : decode prog_102_method_3_code 4 = .ok (.lreturn, 1) := by decide +kernel
theorem d6_0 : decode prog_102_method_4_code 0 = .ok (.aload_n 0, 1) := by decide +kernel
theorem d6_1 : decode prog_102_method_4_code 1 = .ok (.getfield 37, 3) := by decide +kernel
theorem d6_4 : decode prog_102_method_4_code 4 = .ok (.ireturn, 1) := by decide +kernel
theorem d7_0 : decode prog_102_method_6_code 0 = .ok (.aload_n 0, 1) := by decide +kernel
theorem d7_1 : decode prog_102_method_6_code 1 = .ok (.getfield 24, 3) := by decide +kernel
theorem d7_4 : decode prog_102_method_6_code 4 = .ok (.iconst 1, 1) := by decide +kernel
theorem d7_5 : decode prog_102_method_6_code 5 = .ok (.laload, 1) := by decide +kernel
theorem d7_6 : decode prog_102_method_6_code 6 = .ok (.lload_n 1, 1) := by decide +kernel
theorem d7_7 : decode prog_102_method_6_code 7 = .ok (.lcmp, 1) := by decide +kernel
theorem d7_8 : decode prog_102_method_6_code 8 = .ok (.ifCond .ge 5, 3) := by decide +kernel
theorem d7_11 : decode prog_102_method_6_code 11 = .ok (.iconst (-1), 1) := by decide +kernel
theorem d7_12 : decode prog_102_method_6_code 12 = .ok (.ireturn, 1) := by decide +kernel
theorem d7_13 : decode prog_102_method_6_code 13 = .ok (.aload_n 0, 1) := by decide +kernel
theorem d7_14 : decode prog_102_method_6_code 14 = .ok (.iconst 1, 1) := by decide +kernel
theorem d7_15 : decode prog_102_method_6_code 15 = .ok (.lload_n 1, 1) := by decide +kernel
theorem d7_16 : decode prog_102_method_6_code 16 = .ok (.invokevirtual 40, 3) := by decide +kernel
theorem d7_19 : decode prog_102_method_6_code 19 = .ok (.ireturn, 1) := by decide +kernel
theorem d8_0 : decode prog_102_method_11_code 0 = .ok (.aload_n 0, 1) := by decide +kernel
theorem d8_1 : decode prog_102_method_11_code 1 = .ok (.getfield 24, 3) := by decide +kernel
theorem d8_4 : decode prog_102_method_11_code 4 = .ok (.aload_n 0, 1) := by decide +kernel
theorem d8_5 : decode prog_102_method_11_code 5 = .ok (.getfield 9, 3) := by decide +kernel
theorem d8_8 : decode prog_102_method_11_code 8 = .ok (.iload_n 1, 1) := by decide +kernel
theorem d8_9 : decode prog_102_method_11_code 9 = .ok (.iadd, 1) := by decide +kernel
theorem d8_10 : decode prog_102_method_11_code 10 = .ok (.laload, 1) := by decide +kernel
theorem d8_11 : decode prog_102_method_11_code 11 = .ok (.lreturn, 1) := by decide +kernel
theorem d9_0 : decode prog_102_method_13_code 0 = .ok (.aload_n 0, 1) := by decide +kernel
theorem d9_1 : decode prog_102_method_13_code 1 = .ok (.getfield 31, 3) := by decide +kernel
theorem d9_4 : decode prog_102_method_13_code 4 = .ok (.aload_n 0, 1) := by decide +kernel
theorem d9_5 : decode prog_102_method_13_code 5 = .ok (.getfield 9, 3) := by decide +kernel
theorem d9_8 : decode prog_102_method_13_code 8 = .ok (.if_icmp .ne 7, 3) := by decide +kernel
theorem d9_15 : decode prog_102_method_13_code 15 = .ok (.aload_n 0, 1) := by decide +kernel
theorem d9_16 : decode prog_102_method_13_code 16 = .ok (.getfield 13, 3) := by decide +kernel
theorem d9_19 : decode prog_102_method_13_code 19 = .ok (.aload_n 0, 1) := by decide +kernel
theorem d9_20 : decode prog_102_method_13_code 20 = .ok (.getfield 31, 3) := by decide +kernel
theorem d9_23 : decode prog_102_method_13_code 23 = .ok (.lload_n 1, 1) := by decide +kernel
theorem d9_24 : decode prog_102_method_13_code 24 = .ok (.lastore, 1) := by decide +kernel
theorem d9_25 : decode prog_102_method_13_code 25 = .ok (.aload_n 0, 1) := by decide +kernel
theorem d9_26 : decode prog_102_method_13_code 26 = .ok (.getfield 17, 3) := by decide +kernel
theorem d9_29 : decode prog_102_method_13_code 29 = .ok (.aload_n 0, 1) := by decide +kernel
theorem d9_30 : decode prog_102_method_13_code 30 = .ok (.getfield 31, 3) := by decide +kernel
theorem d9_33 : decode prog_102_method_13_code 33 = .ok (.lload_n 3, 1) := by decide +kernel
theorem d9_34 : decode prog_102_method_13_code 34 = .ok (.lastore, 1) := by decide +kernel
theorem d9_35 : decode prog_102_method_13_code 35 = .ok (.aload_n 0, 1) := by decide +kernel
theorem d9_36 : decode prog_102_method_13_code 36 = .ok (.getfield 20, 3) := by decide +kernel
theorem d9_39 : decode prog_102_method_13_code 39 = .ok (.aload_n 0, 1) := by decide +kernel
theorem d9_40 : decode prog_102_method_13_code 40 = .ok (.getfield 31, 3) := by decide +kernel
theorem d9_43 : decode prog_102_method_13_code 43 = .ok (.iload 5, 2) := by decide +kernel
theorem d9_45 : decode prog_102_method_13_code 45 = .ok (.iastore, 1) := by decide +kernel
theorem d9_46 : decode prog_102_method_13_code 46 = .ok (.lload_n 3, 1) := by decide +kernel
theorem d9_47 : decode prog_102_method_13_code 47 = .ok (.lload_n 1, 1) := by decide +kernel
theorem d9_48 : decode prog_102_method_13_code 48 = .ok (.lsub, 1) := by decide +kernel
theorem d9_49 : decode prog_102_method_13_code 49 = .ok (.lstore 6, 2) := by decide +kernel
theorem d9_51 : decode prog_102_method_13_code 51 = .ok (.aload_n 0, 1) := by decide +kernel
theorem d9_52 : decode prog_102_method_13_code 52 = .ok (.getfield 9, 3) := by decide +kernel
theorem d9_55 : decode prog_102_method_13_code 55 = .ok (.aload_n 0, 1) := by decide +kernel
theorem d9_56 : decode prog_102_method_13_code 56 = .ok (.getfield 31, 3) := by decide +kernel
theorem d9_59 : decode prog_102_method_13_code 59 = .ok (.iadd, 1) := by decide +kernel
theorem d9_60 : decode prog_102_method_13_code 60 = .ok (.istore 8, 2) := by decide +kernel
theorem d9_62 : decode prog_102_method_13_code 62 = .ok (.aload_n 0, 1) := by decide +kernel
theorem d9_63 : decode prog_102_method_13_code 63 = .ok (.getfield 24, 3) := by decide +kernel
theorem d9_66 : decode prog_102_method_13_code 66 = .ok (.iload 8, 2) := by decide +kernel
theorem d9_68 : decode prog_102_method_13_code 68 = .ok (.lload 6, 2) := by decide +kernel
theorem d9_70 : decode prog_102_method_13_code 70 = .ok (.lastore, 1) := by decide +kernel
theorem d9_71 : decode prog_102_method_13_code 71 = .ok (.iload 8, 2) := by decide +kernel
theorem d9_73 : decode prog_102_method_13_code 73 = .ok (.iconst 2, 1) := by decide +kernel
theorem d9_74 : decode prog_102_method_13_code 74 = .ok (.idiv, 1) := by decide +kernel
theorem d9_75 : decode prog_102_method_13_code 75 = .ok (.istore 8, 2) := by decide +kernel
theorem d9_77 : decode prog_102_method_13_code 77 = .ok (.iload 8, 2) := by decide +kernel
theorem d9_79 : decode prog_102_method_13_code 79 = .ok (.iconst 1, 1) := by decide +kernel
theorem d9_80 : decode prog_102_method_13_code 80 = .ok (.if_icmp .lt 34, 3) := by decide +kernel
theorem d9_83 : decode prog_102_method_13_code 83 = .ok (.aload_n 0, 1) := by decide +kernel
theorem d9_84 : decode prog_102_method_13_code 84 = .ok (.getfield 24, 3) := by decide +kernel
theorem d9_87 : decode prog_102_method_13_code 87 = .ok (.iload 8, 2) := by decide +kernel
theorem d9_89 : decode prog_102_method_13_code 89 = .ok (.laload, 1) := by decide +kernel
theorem d9_90 : decode prog_102_method_13_code 90 = .ok (.lload 6, 2) := by decide +kernel
theorem d9_92 : decode prog_102_method_13_code 92 = .ok (.lcmp, 1) := by decide +kernel
theorem d9_93 : decode prog_102_method_13_code 93 = .ok (.ifCond .ge 21, 3) := by decide +kernel
theorem d9_96 : decode prog_102_method_13_code 96 = .ok (.aload_n 0, 1) := by decide +kernel
theorem d9_97 : decode prog_102_method_13_code 97 = .ok (.getfield 24, 3) := by decide +kernel
theorem d9_100 : decode prog_102_method_13_code 100 = .ok (.iload 8, 2) := by decide +kernel
theorem d9_102 : decode prog_102_method_13_code 102 = .ok (.lload 6, 2) := by decide +kernel
theorem d9_104 : decode prog_102_method_13_code 104 = .ok (.lastore, 1) := by decide +kernel
theorem d9_105 : decode prog_102_method_13_code 105 = .ok (.iload 8, 2) := by decide +kernel
theorem d9_107 : decode prog_102_method_13_code 107 = .ok (.iconst 2, 1) := by decide +kernel
theorem d9_108 : decode prog_102_method_13_code 108 = .ok (.idiv, 1) := by decide +kernel
theorem d9_109 : decode prog_102_method_13_code 109 = .ok (.istore 8, 2) := by decide +kernel
theorem d9_111 : decode prog_102_method_13_code 111 = .ok (.goto (-34), 3) := by decide +kernel
theorem d9_114 : decode prog_102_method_13_code 114 = .ok (.aload_n 0, 1) := by decide +kernel
theorem d9_115 : decode prog_102_method_13_code 115 = .ok (.dup, 1) := by decide +kernel
theorem d9_116 : decode prog_102_method_13_code 116 = .ok (.getfield 31, 3) := by decide +kernel
theorem d9_119 : decode prog_102_method_13_code 119 = .ok (.iconst 1, 1) := by decide +kernel
theorem d9_120 : decode prog_102_method_13_code 120 = .ok (.iadd, 1) := by decide +kernel
theorem d9_121 : decode prog_102_method_13_code 121 = .ok (.putfield 31, 3) := by decide +kernel
theorem d9_124 : decode prog_102_method_13_code 124 = .ok (.return_, 1) := by decide +kernel
theorem d10_0 : decode prog_102_method_8_code 0 = .ok (.iload_n 1, 1) := by decide +kernel
theorem d10_1 : decode prog_102_method_8_code 1 = .ok (.istore 4, 2) := by decide +kernel
theorem d10_3 : decode prog_102_method_8_code 3 = .ok (.iload 4, 2) := by decide +kernel
theorem d10_5 : decode prog_102_method_8_code 5 = .ok (.aload_n 0, 1) := by decide +kernel
theorem d10_6 : decode prog_102_method_8_code 6 = .ok (.getfield 9, 3) := by decide +kernel
theorem d10_9 : decode prog_102_method_8_code 9 = .ok (.if_icmp .ge 28, 3) := by decide +kernel
theorem d10_12 : decode prog_102_method_8_code 12 = .ok (.iconst 2, 1) := by decide +kernel
theorem d10_13 : decode prog_102_method_8_code 13 = .ok (.iload 4, 2) := by decide +kernel
theorem d10_15 : decode prog_102_method_8_code 15 = .ok (.imul, 1) := by decide +kernel
theorem d10_16 : decode prog_102_method_8_code 16 = .ok (.aload_n 0, 1) := by decide +kernel
theorem d10_17 : decode prog_102_method_8_code 17 = .ok (.getfield 24, 3) := by decide +kernel
theorem d10_20 : decode prog_102_method_8_code 20 = .ok (.iconst 2, 1) := by decide +kernel
theorem d10_21 : decode prog_102_method_8_code 21 = .ok (.iload 4, 2) := by decide +kernel
theorem d10_23 : decode prog_102_method_8_code 23 = .ok (.imul, 1) := by decide +kernel
theorem d10_24 : decode prog_102_method_8_code 24 = .ok (.laload, 1) := by decide +kernel
theorem d10_25 : decode prog_102_method_8_code 25 = .ok (.lload_n 2, 1) := by decide +kernel
theorem d10_26 : decode prog_102_method_8_code 26 = .ok (.lsub, 1) := by decide +kernel
theorem d10_27 : decode prog_102_method_8_code 27 = .ok (.bipush 63, 2) := by decide +kernel
theorem d10_29 : decode prog_102_method_8_code 29 = .ok (.lushr, 1) := by decide +kernel
theorem d10_30 : decode prog_102_method_8_code 30 = .ok (.l2i, 1) := by decide +kernel
theorem d10_31 : decode prog_102_method_8_code 31 = .ok (.iadd, 1) := by decide +kernel
theorem d10_32 : decode prog_102_method_8_code 32 = .ok (.istore 4, 2) := by decide +kernel
theorem d10_34 : decode prog_102_method_8_code 34 = .ok (.goto (-31), 3) := by decide +kernel
theorem d10_37 : decode prog_102_method_8_code 37 = .ok (.iload 4, 2) := by decide +kernel
theorem d10_39 : decode prog_102_method_8_code 39 = .ok (.aload_n 0, 1) := by decide +kernel
theorem d10_40 : decode prog_102_method_8_code 40 = .ok (.getfield 9, 3) := by decide +kernel
theorem d10_43 : decode prog_102_method_8_code 43 = .ok (.isub, 1) := by decide +kernel
theorem d10_44 : decode prog_102_method_8_code 44 = .ok (.ireturn, 1) := by decide +kernel
theorem pd__28_29I : parseMethodDescriptor "()I" = some ⟨[], some .int⟩ := by decide +kernel
theorem pd__28_29J : parseMethodDescriptor "()J" = some ⟨[], some .long⟩ := by decide +kernel
theorem pd__28_29V : parseMethodDescriptor "()V" = some ⟨[], none⟩ := by decide +kernel
theorem pd__28I_29J : parseMethodDescriptor "(I)J" = some ⟨[.int], some .long⟩ := by decide +kernel
theorem pd__28IJ_29I : parseMethodDescriptor "(IJ)I" = some ⟨[.int, .long], some .int⟩ := by decide +kernel
theorem pd__28J_29I : parseMethodDescriptor "(J)I" = some ⟨[.long], some .int⟩ := by decide +kernel
theorem pd__28J_29V : parseMethodDescriptor "(J)V" = some ⟨[.long], none⟩ := by decide +kernel
theorem pd__28JI_29V : parseMethodDescriptor "(JI)V" = some ⟨[.long, .int], none⟩ := by decide +kernel
theorem pd__28JJI_29V : parseMethodDescriptor "(JJI)V" = some ⟨[.long, .long, .int], none⟩ := by decide +kernel
set_option maxRecDepth 65536 in
set_option maxHeartbeats 40000000 in
theorem c_init {l : Launch} {Z : State} {a0 : Array Value} (hw : ∀ d ∈ tables_1, d.before a0 Z = true) {h0 : Heap} {n0 : Nat} (sz0 : n0 ≤ h0.size) (o : Addr) (gn_o : n0 ≤ o) (E_o : Exa Z h0 o "com/example/rehearsal/rehearsal/policies/KnownRuns") (F_o_setting : Fld Z h0 o "com/example/rehearsal/rehearsal/policies/KnownRuns" "setting" "J" (.long (0 : Int64))) (F_o_frontier : Fld Z h0 o "com/example/rehearsal/rehearsal/policies/KnownRuns" "frontier" "J" (.long (0 : Int64))) (F_o_frontierSpan : Fld Z h0 o "com/example/rehearsal/rehearsal/policies/KnownRuns" "frontierSpan" "I" (.int (0 : Int32))) (F_o_count : Fld Z h0 o "com/example/rehearsal/rehearsal/policies/KnownRuns" "count" "I" (.int (0 : Int32))) (F_o_room : Fld Z h0 o "com/example/rehearsal/rehearsal/policies/KnownRuns" "room" "I" (.int (0 : Int32))) (F_o_starts : Fld Z h0 o "com/example/rehearsal/rehearsal/policies/KnownRuns" "starts" "[J" .null) (F_o_ends : Fld Z h0 o "com/example/rehearsal/rehearsal/policies/KnownRuns" "ends" "[J" .null) (F_o_spans : Fld Z h0 o "com/example/rehearsal/rehearsal/policies/KnownRuns" "spans" "[I" .null) (F_o_maxima : Fld Z h0 o "com/example/rehearsal/rehearsal/policies/KnownRuns" "maxima" "[J" .null) : Con l Z (⟨"com/example/rehearsal/rehearsal/policies/KnownRuns", "<init>", "()V"⟩ : MethodName) prog_102_method_1_code 1 none ({ frames := 1, cells := 4, slots := 80, locals := 12 } : Room) [] #[(.ref o)] h0 (fun v h L => ∃ ast aen asp amx, v = none ∧ h0.size ≤ ast ∧ ast < aen ∧ aen < asp ∧ asp < amx ∧ Fr n0 L ∧ Keep h0 h [o] ∧ Exa Z h o "com/example/rehearsal/rehearsal/policies/KnownRuns" ∧ Fld Z h o "com/example/rehearsal/rehearsal/policies/KnownRuns" "setting" "J" (.long (0 : Int64)) ∧ Fld Z h o "com/example/rehearsal/rehearsal/policies/KnownRuns" "frontier" "J" (.long (0 : Int64)) ∧ Fld Z h o "com/example/rehearsal/rehearsal/policies/KnownRuns" "frontierSpan" "I" (.int (0 : Int32)) ∧ Fld Z h o "com/example/rehearsal/rehearsal/policies/KnownRuns" "count" "I" (.int (0 : Int32)) ∧ Fld Z h o "com/example/rehearsal/rehearsal/policies/KnownRuns" "room" "I" (.int (16 : Int32)) ∧ Fld Z h o "com/example/rehearsal/rehearsal/policies/KnownRuns" "starts" "[J" (.ref ast) ∧ Fld Z h o "com/example/rehearsal/rehearsal/policies/KnownRuns" "ends" "[J" (.ref aen) ∧ Fld Z h o "com/example/rehearsal/rehearsal/policies/KnownRuns" "spans" "[I" (.ref asp) ∧ Fld Z h o "com/example/rehearsal/rehearsal/policies/KnownRuns" "maxima" "[J" (.ref amx) ∧ Al Z h ast .long [(.long (0 : Int64)), (.long (0 : Int64)), (.long (0 : Int64)), (.long (0 : Int64)), (.long (0 : Int64)), (.long (0 : Int64)), (.long (0 : Int64)), (.long (0 : Int64)), (.long (0 : Int64)), (.long (0 : Int64)), (.long (0 : Int64)), (.long (0 : Int64)), (.long (0 : Int64)), (.long (0 : Int64)), (.long (0 : Int64)), (.long (0 : Int64))] ∧ Al Z h aen .long [(.long (0 : Int64)), (.long (0 : Int64)), (.long (0 : Int64)), (.long (0 : Int64)), (.long (0 : Int64)), (.long (0 : Int64)), (.long (0 : Int64)), (.long (0 : Int64)), (.long (0 : Int64)), (.long (0 : Int64)), (.long (0 : Int64)), (.long (0 : Int64)), (.long (0 : Int64)), (.long (0 : Int64)), (.long (0 : Int64)), (.long (0 : Int64))] ∧ Al Z h asp .int [(.int (0 : Int32)), (.int (0 : Int32)), (.int (0 : Int32)), (.int (0 : Int32)), (.int (0 : Int32)), (.int (0 : Int32)), (.int (0 : Int32)), (.int (0 : Int32)), (.int (0 : Int32)), (.int (0 : Int32)), (.int (0 : Int32)), (.int (0 : Int32)), (.int (0 : Int32)), (.int (0 : Int32)), (.int (0 : Int32)), (.int (0 : Int32))] ∧ Al Z h amx .long [(.long (0 : Int64)), (.long (0 : Int64)), (.long (0 : Int64)), (.long (0 : Int64)), (.long (0 : Int64)), (.long (0 : Int64)), (.long (0 : Int64)), (.long (0 : Int64)), (.long (0 : Int64)), (.long (0 : Int64)), (.long (0 : Int64)), (.long (0 : Int64)), (.long (0 : Int64)), (.long (0 : Int64)), (.long (0 : Int64)), (.long (0 : Int64)), (.long (0 : Int64)), (.long (0 : Int64)), (.long (0 : Int64)), (.long (0 : Int64)), (.long (0 : Int64)), (.long (0 : Int64)), (.long (0 : Int64)), (.long (0 : Int64)), (.long (0 : Int64)), (.long (0 : Int64)), (.long (0 : Int64)), (.long (0 : Int64)), (.long (0 : Int64)), (.long (0 : Int64)), (.long (0 : Int64)), (.long (0 : Int64))]) := by
  refine con_of (Ls := #[.val (.ref o)]) (plainFor_of_name (by first | (simp [plainName, overriddenIn]; done) | decide +kernel)) (fun m => by first | (simp [entryFrame, mkF, argsToLocals, Value.category]; done) | rfl) ?_
  have N0 : Fr n0 [] := Fr.nil _
  have K0 : Keep h0 h0 [o] := Keep.refl _ _
  refine Go.aloadN (pc' := 1) d1_0 rfl rfl rfl ?_
  refine Go.initO (pc' := 4) (W := 0) d1_1 rfl (hw _ w7) (hw _ w8) (hw _ w9) (by decide) (by decide) rfl (Nat.le_of_eq rfl) ?_
  refine Go.aloadN (pc' := 5) d1_4 rfl rfl rfl ?_
  refine Go.bipush (pc' := 7) d1_5 rfl (z := (16 : Int32)) (by decide) ?_
  refine Go.putF (pc' := 10) d1_7 rfl (hw _ w10) Via.refl F_o_room E_o (Or.inl (hw _ w11)) (hw _ w2) (ty := .int) (by decide) rfl rfl ?_
  intro h1 L1 NL1 W1
  replace F_o_room := F_o_room.same W1
  replace N0 := NL1 _ N0 gn_o
  replace sz0 : n0 ≤ h1.size := by rw [W1.size]; exact sz0
  replace E_o := E_o.wr W1
  replace F_o_setting := F_o_setting.other W1 (Or.inr (slot_ne (Or.inl (hw _ w37)) (Or.inl (hw _ w11)) (by decide) (t := .long) (t' := .int) (by decide) (by decide)))
  replace F_o_frontier := F_o_frontier.other W1 (Or.inr (slot_ne (Or.inl (hw _ w28)) (Or.inl (hw _ w11)) (by decide) (t := .long) (t' := .int) (by decide) (by decide)))
  replace F_o_frontierSpan := F_o_frontierSpan.other W1 (Or.inr (slot_ne (Or.inl (hw _ w30)) (Or.inl (hw _ w11)) (by decide) (t := .int) (t' := .int) (by decide) (by decide)))
  replace F_o_count := F_o_count.other W1 (Or.inr (slot_ne (Or.inl (hw _ w39)) (Or.inl (hw _ w11)) (by decide) (t := .int) (t' := .int) (by decide) (by decide)))
  replace F_o_starts := F_o_starts.other W1 (Or.inr (slot_ne (Or.inl (hw _ w14)) (Or.inl (hw _ w11)) (by decide) (t := (.array .long)) (t' := .int) (by decide) (by decide)))
  replace F_o_ends := F_o_ends.other W1 (Or.inr (slot_ne (Or.inl (hw _ w16)) (Or.inl (hw _ w11)) (by decide) (t := (.array .long)) (t' := .int) (by decide) (by decide)))
  replace F_o_spans := F_o_spans.other W1 (Or.inr (slot_ne (Or.inl (hw _ w19)) (Or.inl (hw _ w11)) (by decide) (t := (.array .int)) (t' := .int) (by decide) (by decide)))
  replace F_o_maxima := F_o_maxima.other W1 (Or.inr (slot_ne (Or.inl (hw _ w21)) (Or.inl (hw _ w11)) (by decide) (t := (.array .long)) (t' := .int) (by decide) (by decide)))
  replace K0 := K0.wr W1 (Or.inl (by simp))
  refine Go.aloadN (pc' := 11) d1_10 rfl rfl rfl ?_
  refine Go.bipush (pc' := 13) d1_11 rfl (z := (16 : Int32)) (by decide) ?_
  refine Go.new_long (pc' := 15) (k' := 1) (n' := 16) (N := 16) (vs := [(.long (0 : Int64)), (.long (0 : Int64)), (.long (0 : Int64)), (.long (0 : Int64)), (.long (0 : Int64)), (.long (0 : Int64)), (.long (0 : Int64)), (.long (0 : Int64)), (.long (0 : Int64)), (.long (0 : Int64)), (.long (0 : Int64)), (.long (0 : Int64)), (.long (0 : Int64)), (.long (0 : Int64)), (.long (0 : Int64)), (.long (0 : Int64))]) d1_13 rfl (hw _ w12) (by decide) rfl 16 (Nat.le_refl _) (by decide) (by decide) (by decide) rfl rfl ?_
  intro h2 ast ha_ast X2 A_ast
  have ne_o_ast : o ≠ ast := Nat.ne_of_lt (by rw [ha_ast]; exact E_o.lt)
  have gn_ast : n0 ≤ ast := by rw [ha_ast]; exact sz0
  have hs_ast : h0.size ≤ ast := by rw [ha_ast]; exact K0.1
  replace sz0 : n0 ≤ h2.size := Nat.le_trans sz0 X2.1
  replace E_o := E_o.ext X2
  replace F_o_setting := F_o_setting.ext X2
  replace F_o_frontier := F_o_frontier.ext X2
  replace F_o_frontierSpan := F_o_frontierSpan.ext X2
  replace F_o_count := F_o_count.ext X2
  replace F_o_room := F_o_room.ext X2
  replace F_o_starts := F_o_starts.ext X2
  replace F_o_ends := F_o_ends.ext X2
  replace F_o_spans := F_o_spans.ext X2
  replace F_o_maxima := F_o_maxima.ext X2
  replace K0 := K0.ext X2
  refine Go.putF (pc' := 18) d1_15 rfl (hw _ w13) Via.refl F_o_starts E_o (Or.inl (hw _ w14)) (hw _ w2) (ty := (.array .long)) (by decide) rfl rfl ?_
  intro h3 L3 NL3 W3
  replace F_o_starts := F_o_starts.same W3
  replace N0 := NL3 _ N0 gn_o
  replace sz0 : n0 ≤ h3.size := by rw [W3.size]; exact sz0
  replace E_o := E_o.wr W3
  replace F_o_setting := F_o_setting.other W3 (Or.inr (slot_ne (Or.inl (hw _ w37)) (Or.inl (hw _ w14)) (by decide) (t := .long) (t' := (.array .long)) (by decide) (by decide)))
  replace F_o_frontier := F_o_frontier.other W3 (Or.inr (slot_ne (Or.inl (hw _ w28)) (Or.inl (hw _ w14)) (by decide) (t := .long) (t' := (.array .long)) (by decide) (by decide)))
  replace F_o_frontierSpan := F_o_frontierSpan.other W3 (Or.inr (slot_ne (Or.inl (hw _ w30)) (Or.inl (hw _ w14)) (by decide) (t := .int) (t' := (.array .long)) (by decide) (by decide)))
  replace F_o_count := F_o_count.other W3 (Or.inr (slot_ne (Or.inl (hw _ w39)) (Or.inl (hw _ w14)) (by decide) (t := .int) (t' := (.array .long)) (by decide) (by decide)))
  replace F_o_room := F_o_room.other W3 (Or.inr (slot_ne (Or.inl (hw _ w11)) (Or.inl (hw _ w14)) (by decide) (t := .int) (t' := (.array .long)) (by decide) (by decide)))
  replace F_o_ends := F_o_ends.other W3 (Or.inr (slot_ne (Or.inl (hw _ w16)) (Or.inl (hw _ w14)) (by decide) (t := (.array .long)) (t' := (.array .long)) (by decide) (by decide)))
  replace F_o_spans := F_o_spans.other W3 (Or.inr (slot_ne (Or.inl (hw _ w19)) (Or.inl (hw _ w14)) (by decide) (t := (.array .int)) (t' := (.array .long)) (by decide) (by decide)))
  replace F_o_maxima := F_o_maxima.other W3 (Or.inr (slot_ne (Or.inl (hw _ w21)) (Or.inl (hw _ w14)) (by decide) (t := (.array .long)) (t' := (.array .long)) (by decide) (by decide)))
  replace A_ast := A_ast.other W3 (Ne.symm ne_o_ast)
  replace K0 := K0.wr W3 (Or.inl (by simp))
  refine Go.aloadN (pc' := 19) d1_18 rfl rfl rfl ?_
  refine Go.bipush (pc' := 21) d1_19 rfl (z := (16 : Int32)) (by decide) ?_
  have lt_1 := A_ast.lt
  refine Go.new_long (pc' := 23) (k' := 2) (n' := 32) (N := 16) (vs := [(.long (0 : Int64)), (.long (0 : Int64)), (.long (0 : Int64)), (.long (0 : Int64)), (.long (0 : Int64)), (.long (0 : Int64)), (.long (0 : Int64)), (.long (0 : Int64)), (.long (0 : Int64)), (.long (0 : Int64)), (.long (0 : Int64)), (.long (0 : Int64)), (.long (0 : Int64)), (.long (0 : Int64)), (.long (0 : Int64)), (.long (0 : Int64))]) d1_21 rfl (hw _ w12) (by decide) rfl 16 (Nat.le_refl _) (by decide) (by decide) (by decide) rfl rfl ?_
  intro h4 aen ha_aen X4 A_aen
  have ne_ast_aen : ast ≠ aen := Nat.ne_of_lt (by rw [ha_aen]; exact A_ast.lt)
  have ne_o_aen : o ≠ aen := Nat.ne_of_lt (by rw [ha_aen]; exact E_o.lt)
  have gn_aen : n0 ≤ aen := by rw [ha_aen]; exact sz0
  have hs_aen : h0.size ≤ aen := by rw [ha_aen]; exact K0.1
  replace sz0 : n0 ≤ h4.size := Nat.le_trans sz0 X4.1
  replace E_o := E_o.ext X4
  replace F_o_setting := F_o_setting.ext X4
  replace F_o_frontier := F_o_frontier.ext X4
  replace F_o_frontierSpan := F_o_frontierSpan.ext X4
  replace F_o_count := F_o_count.ext X4
  replace F_o_room := F_o_room.ext X4
  replace F_o_starts := F_o_starts.ext X4
  replace F_o_ends := F_o_ends.ext X4
  replace F_o_spans := F_o_spans.ext X4
  replace F_o_maxima := F_o_maxima.ext X4
  replace A_ast := A_ast.ext X4
  replace K0 := K0.ext X4
  refine Go.putF (pc' := 26) d1_23 rfl (hw _ w15) Via.refl F_o_ends E_o (Or.inl (hw _ w16)) (hw _ w2) (ty := (.array .long)) (by decide) rfl rfl ?_
  intro h5 L5 NL5 W5
  replace F_o_ends := F_o_ends.same W5
  replace N0 := NL5 _ N0 gn_o
  replace sz0 : n0 ≤ h5.size := by rw [W5.size]; exact sz0
  replace E_o := E_o.wr W5
  replace F_o_setting := F_o_setting.other W5 (Or.inr (slot_ne (Or.inl (hw _ w37)) (Or.inl (hw _ w16)) (by decide) (t := .long) (t' := (.array .long)) (by decide) (by decide)))
  replace F_o_frontier := F_o_frontier.other W5 (Or.inr (slot_ne (Or.inl (hw _ w28)) (Or.inl (hw _ w16)) (by decide) (t := .long) (t' := (.array .long)) (by decide) (by decide)))
  replace F_o_frontierSpan := F_o_frontierSpan.other W5 (Or.inr (slot_ne (Or.inl (hw _ w30)) (Or.inl (hw _ w16)) (by decide) (t := .int) (t' := (.array .long)) (by decide) (by decide)))
  replace F_o_count := F_o_count.other W5 (Or.inr (slot_ne (Or.inl (hw _ w39)) (Or.inl (hw _ w16)) (by decide) (t := .int) (t' := (.array .long)) (by decide) (by decide)))
  replace F_o_room := F_o_room.other W5 (Or.inr (slot_ne (Or.inl (hw _ w11)) (Or.inl (hw _ w16)) (by decide) (t := .int) (t' := (.array .long)) (by decide) (by decide)))
  replace F_o_starts := F_o_starts.other W5 (Or.inr (slot_ne (Or.inl (hw _ w14)) (Or.inl (hw _ w16)) (by decide) (t := (.array .long)) (t' := (.array .long)) (by decide) (by decide)))
  replace F_o_spans := F_o_spans.other W5 (Or.inr (slot_ne (Or.inl (hw _ w19)) (Or.inl (hw _ w16)) (by decide) (t := (.array .int)) (t' := (.array .long)) (by decide) (by decide)))
  replace F_o_maxima := F_o_maxima.other W5 (Or.inr (slot_ne (Or.inl (hw _ w21)) (Or.inl (hw _ w16)) (by decide) (t := (.array .long)) (t' := (.array .long)) (by decide) (by decide)))
  replace A_ast := A_ast.other W5 (Ne.symm ne_o_ast)
  replace A_aen := A_aen.other W5 (Ne.symm ne_o_aen)
  replace K0 := K0.wr W5 (Or.inl (by simp))
  refine Go.aloadN (pc' := 27) d1_26 rfl rfl rfl ?_
  refine Go.bipush (pc' := 29) d1_27 rfl (z := (16 : Int32)) (by decide) ?_
  have lt_2 := A_aen.lt
  refine Go.new_int (pc' := 31) (k' := 3) (n' := 48) (N := 16) (vs := [(.int (0 : Int32)), (.int (0 : Int32)), (.int (0 : Int32)), (.int (0 : Int32)), (.int (0 : Int32)), (.int (0 : Int32)), (.int (0 : Int32)), (.int (0 : Int32)), (.int (0 : Int32)), (.int (0 : Int32)), (.int (0 : Int32)), (.int (0 : Int32)), (.int (0 : Int32)), (.int (0 : Int32)), (.int (0 : Int32)), (.int (0 : Int32))]) d1_29 rfl (hw _ w17) (by decide) rfl 16 (Nat.le_refl _) (by decide) (by decide) (by decide) rfl rfl ?_
  intro h6 asp ha_asp X6 A_asp
  have ne_aen_asp : aen ≠ asp := Nat.ne_of_lt (by rw [ha_asp]; exact A_aen.lt)
  have ne_ast_asp : ast ≠ asp := Nat.ne_of_lt (by rw [ha_asp]; exact A_ast.lt)
  have ne_o_asp : o ≠ asp := Nat.ne_of_lt (by rw [ha_asp]; exact E_o.lt)
  have gn_asp : n0 ≤ asp := by rw [ha_asp]; exact sz0
  have hs_asp : h0.size ≤ asp := by rw [ha_asp]; exact K0.1
  replace sz0 : n0 ≤ h6.size := Nat.le_trans sz0 X6.1
  replace E_o := E_o.ext X6
  replace F_o_setting := F_o_setting.ext X6
  replace F_o_frontier := F_o_frontier.ext X6
  replace F_o_frontierSpan := F_o_frontierSpan.ext X6
  replace F_o_count := F_o_count.ext X6
  replace F_o_room := F_o_room.ext X6
  replace F_o_starts := F_o_starts.ext X6
  replace F_o_ends := F_o_ends.ext X6
  replace F_o_spans := F_o_spans.ext X6
  replace F_o_maxima := F_o_maxima.ext X6
  replace A_ast := A_ast.ext X6
  replace A_aen := A_aen.ext X6
  replace K0 := K0.ext X6
  refine Go.putF (pc' := 34) d1_31 rfl (hw _ w18) Via.refl F_o_spans E_o (Or.inl (hw _ w19)) (hw _ w2) (ty := (.array .int)) (by decide) rfl rfl ?_
  intro h7 L7 NL7 W7
  replace F_o_spans := F_o_spans.same W7
  replace N0 := NL7 _ N0 gn_o
  replace sz0 : n0 ≤ h7.size := by rw [W7.size]; exact sz0
  replace E_o := E_o.wr W7
  replace F_o_setting := F_o_setting.other W7 (Or.inr (slot_ne (Or.inl (hw _ w37)) (Or.inl (hw _ w19)) (by decide) (t := .long) (t' := (.array .int)) (by decide) (by decide)))
  replace F_o_frontier := F_o_frontier.other W7 (Or.inr (slot_ne (Or.inl (hw _ w28)) (Or.inl (hw _ w19)) (by decide) (t := .long) (t' := (.array .int)) (by decide) (by decide)))
  replace F_o_frontierSpan := F_o_frontierSpan.other W7 (Or.inr (slot_ne (Or.inl (hw _ w30)) (Or.inl (hw _ w19)) (by decide) (t := .int) (t' := (.array .int)) (by decide) (by decide)))
  replace F_o_count := F_o_count.other W7 (Or.inr (slot_ne (Or.inl (hw _ w39)) (Or.inl (hw _ w19)) (by decide) (t := .int) (t' := (.array .int)) (by decide) (by decide)))
  replace F_o_room := F_o_room.other W7 (Or.inr (slot_ne (Or.inl (hw _ w11)) (Or.inl (hw _ w19)) (by decide) (t := .int) (t' := (.array .int)) (by decide) (by decide)))
  replace F_o_starts := F_o_starts.other W7 (Or.inr (slot_ne (Or.inl (hw _ w14)) (Or.inl (hw _ w19)) (by decide) (t := (.array .long)) (t' := (.array .int)) (by decide) (by decide)))
  replace F_o_ends := F_o_ends.other W7 (Or.inr (slot_ne (Or.inl (hw _ w16)) (Or.inl (hw _ w19)) (by decide) (t := (.array .long)) (t' := (.array .int)) (by decide) (by decide)))
  replace F_o_maxima := F_o_maxima.other W7 (Or.inr (slot_ne (Or.inl (hw _ w21)) (Or.inl (hw _ w19)) (by decide) (t := (.array .long)) (t' := (.array .int)) (by decide) (by decide)))
  replace A_ast := A_ast.other W7 (Ne.symm ne_o_ast)
  replace A_aen := A_aen.other W7 (Ne.symm ne_o_aen)
  replace A_asp := A_asp.other W7 (Ne.symm ne_o_asp)
  replace K0 := K0.wr W7 (Or.inl (by simp))
  refine Go.aloadN (pc' := 35) d1_34 rfl rfl rfl ?_
  refine Go.bipush (pc' := 37) d1_35 rfl (z := (32 : Int32)) (by decide) ?_
  have lt_3 := A_asp.lt
  refine Go.new_long (pc' := 39) (k' := 4) (n' := 80) (N := 32) (vs := [(.long (0 : Int64)), (.long (0 : Int64)), (.long (0 : Int64)), (.long (0 : Int64)), (.long (0 : Int64)), (.long (0 : Int64)), (.long (0 : Int64)), (.long (0 : Int64)), (.long (0 : Int64)), (.long (0 : Int64)), (.long (0 : Int64)), (.long (0 : Int64)), (.long (0 : Int64)), (.long (0 : Int64)), (.long (0 : Int64)), (.long (0 : Int64)), (.long (0 : Int64)), (.long (0 : Int64)), (.long (0 : Int64)), (.long (0 : Int64)), (.long (0 : Int64)), (.long (0 : Int64)), (.long (0 : Int64)), (.long (0 : Int64)), (.long (0 : Int64)), (.long (0 : Int64)), (.long (0 : Int64)), (.long (0 : Int64)), (.long (0 : Int64)), (.long (0 : Int64)), (.long (0 : Int64)), (.long (0 : Int64))]) d1_37 rfl (hw _ w12) (by decide) rfl 32 (Nat.le_refl _) (by decide) (by decide) (by decide) rfl rfl ?_
  intro h8 amx ha_amx X8 A_amx
  have ne_aen_amx : aen ≠ amx := Nat.ne_of_lt (by rw [ha_amx]; exact A_aen.lt)
  have ne_asp_amx : asp ≠ amx := Nat.ne_of_lt (by rw [ha_amx]; exact A_asp.lt)
  have ne_ast_amx : ast ≠ amx := Nat.ne_of_lt (by rw [ha_amx]; exact A_ast.lt)
  have ne_o_amx : o ≠ amx := Nat.ne_of_lt (by rw [ha_amx]; exact E_o.lt)
  have gn_amx : n0 ≤ amx := by rw [ha_amx]; exact sz0
  have hs_amx : h0.size ≤ amx := by rw [ha_amx]; exact K0.1
  replace sz0 : n0 ≤ h8.size := Nat.le_trans sz0 X8.1
  replace E_o := E_o.ext X8
  replace F_o_setting := F_o_setting.ext X8
  replace F_o_frontier := F_o_frontier.ext X8
  replace F_o_frontierSpan := F_o_frontierSpan.ext X8
  replace F_o_count := F_o_count.ext X8
  replace F_o_room := F_o_room.ext X8
  replace F_o_starts := F_o_starts.ext X8
  replace F_o_ends := F_o_ends.ext X8
  replace F_o_spans := F_o_spans.ext X8
  replace F_o_maxima := F_o_maxima.ext X8
  replace A_ast := A_ast.ext X8
  replace A_aen := A_aen.ext X8
  replace A_asp := A_asp.ext X8
  replace K0 := K0.ext X8
  refine Go.putF (pc' := 42) d1_39 rfl (hw _ w20) Via.refl F_o_maxima E_o (Or.inl (hw _ w21)) (hw _ w2) (ty := (.array .long)) (by decide) rfl rfl ?_
  intro h9 L9 NL9 W9
  replace F_o_maxima := F_o_maxima.same W9
  replace N0 := NL9 _ N0 gn_o
  replace sz0 : n0 ≤ h9.size := by rw [W9.size]; exact sz0
  replace E_o := E_o.wr W9
  replace F_o_setting := F_o_setting.other W9 (Or.inr (slot_ne (Or.inl (hw _ w37)) (Or.inl (hw _ w21)) (by decide) (t := .long) (t' := (.array .long)) (by decide) (by decide)))
  replace F_o_frontier := F_o_frontier.other W9 (Or.inr (slot_ne (Or.inl (hw _ w28)) (Or.inl (hw _ w21)) (by decide) (t := .long) (t' := (.array .long)) (by decide) (by decide)))
  replace F_o_frontierSpan := F_o_frontierSpan.other W9 (Or.inr (slot_ne (Or.inl (hw _ w30)) (Or.inl (hw _ w21)) (by decide) (t := .int) (t' := (.array .long)) (by decide) (by decide)))
  replace F_o_count := F_o_count.other W9 (Or.inr (slot_ne (Or.inl (hw _ w39)) (Or.inl (hw _ w21)) (by decide) (t := .int) (t' := (.array .long)) (by decide) (by decide)))
  replace F_o_room := F_o_room.other W9 (Or.inr (slot_ne (Or.inl (hw _ w11)) (Or.inl (hw _ w21)) (by decide) (t := .int) (t' := (.array .long)) (by decide) (by decide)))
  replace F_o_starts := F_o_starts.other W9 (Or.inr (slot_ne (Or.inl (hw _ w14)) (Or.inl (hw _ w21)) (by decide) (t := (.array .long)) (t' := (.array .long)) (by decide) (by decide)))
  replace F_o_ends := F_o_ends.other W9 (Or.inr (slot_ne (Or.inl (hw _ w16)) (Or.inl (hw _ w21)) (by decide) (t := (.array .long)) (t' := (.array .long)) (by decide) (by decide)))
  replace F_o_spans := F_o_spans.other W9 (Or.inr (slot_ne (Or.inl (hw _ w19)) (Or.inl (hw _ w21)) (by decide) (t := (.array .int)) (t' := (.array .long)) (by decide) (by decide)))
  replace A_ast := A_ast.other W9 (Ne.symm ne_o_ast)
  replace A_aen := A_aen.other W9 (Ne.symm ne_o_aen)
  replace A_asp := A_asp.other W9 (Ne.symm ne_o_asp)
  replace A_amx := A_amx.other W9 (Ne.symm ne_o_amx)
  replace K0 := K0.wr W9 (Or.inl (by simp))
  refine Go.retV d1_42 rfl (by decide) (by decide) ?_
  exact ⟨ast, aen, asp, amx, rfl, hs_ast, by rw [ha_aen]; exact lt_1, by rw [ha_asp]; exact lt_2, by rw [ha_amx]; exact lt_3, N0, K0, E_o, F_o_setting, F_o_frontier, F_o_frontierSpan, F_o_count, F_o_room, F_o_starts, F_o_ends, F_o_spans, F_o_maxima, A_ast, A_aen, A_asp, A_amx⟩
set_option maxRecDepth 65536 in
set_option maxHeartbeats 40000000 in
theorem c_add0 {l : Launch} {Z : State} {a0 : Array Value} (hw : ∀ d ∈ tables_1, d.before a0 Z = true) {h0 : Heap} {n0 : Nat} (sz0 : n0 ≤ h0.size) (o ast aen asp amx : Addr) (st0 en0 : Int64) (sp0 : Int32) (se fr : Int64) (sp : Int32) (bd : Int64) (hb : en0 - st0 = bd) (hbd : 0 < bd.toInt) (gn_o : n0 ≤ o) (gn_ast : n0 ≤ ast) (gn_aen : n0 ≤ aen) (gn_asp : n0 ≤ asp) (gn_amx : n0 ≤ amx) (ne_ast_aen : ast ≠ aen) (ne_ast_asp : ast ≠ asp) (ne_ast_amx : ast ≠ amx) (ne_aen_asp : aen ≠ asp) (ne_aen_amx : aen ≠ amx) (ne_asp_amx : asp ≠ amx) (E_o : Exa Z h0 o "com/example/rehearsal/rehearsal/policies/KnownRuns") (F_o_setting : Fld Z h0 o "com/example/rehearsal/rehearsal/policies/KnownRuns" "setting" "J" (.long se)) (F_o_frontier : Fld Z h0 o "com/example/rehearsal/rehearsal/policies/KnownRuns" "frontier" "J" (.long fr)) (F_o_frontierSpan : Fld Z h0 o "com/example/rehearsal/rehearsal/policies/KnownRuns" "frontierSpan" "I" (.int sp)) (F_o_count : Fld Z h0 o "com/example/rehearsal/rehearsal/policies/KnownRuns" "count" "I" (.int (0 : Int32))) (F_o_room : Fld Z h0 o "com/example/rehearsal/rehearsal/policies/KnownRuns" "room" "I" (.int (16 : Int32))) (F_o_starts : Fld Z h0 o "com/example/rehearsal/rehearsal/policies/KnownRuns" "starts" "[J" (.ref ast)) (F_o_ends : Fld Z h0 o "com/example/rehearsal/rehearsal/policies/KnownRuns" "ends" "[J" (.ref aen)) (F_o_spans : Fld Z h0 o "com/example/rehearsal/rehearsal/policies/KnownRuns" "spans" "[I" (.ref asp)) (F_o_maxima : Fld Z h0 o "com/example/rehearsal/rehearsal/policies/KnownRuns" "maxima" "[J" (.ref amx)) (A_ast : Al Z h0 ast .long [(.long (0 : Int64)), (.long (0 : Int64)), (.long (0 : Int64)), (.long (0 : Int64)), (.long (0 : Int64)), (.long (0 : Int64)), (.long (0 : Int64)), (.long (0 : Int64)), (.long (0 : Int64)), (.long (0 : Int64)), (.long (0 : Int64)), (.long (0 : Int64)), (.long (0 : Int64)), (.long (0 : Int64)), (.long (0 : Int64)), (.long (0 : Int64))]) (A_aen : Al Z h0 aen .long [(.long (0 : Int64)), (.long (0 : Int64)), (.long (0 : Int64)), (.long (0 : Int64)), (.long (0 : Int64)), (.long (0 : Int64)), (.long (0 : Int64)), (.long (0 : Int64)), (.long (0 : Int64)), (.long (0 : Int64)), (.long (0 : Int64)), (.long (0 : Int64)), (.long (0 : Int64)), (.long (0 : Int64)), (.long (0 : Int64)), (.long (0 : Int64))]) (A_asp : Al Z h0 asp .int [(.int (0 : Int32)), (.int (0 : Int32)), (.int (0 : Int32)), (.int (0 : Int32)), (.int (0 : Int32)), (.int (0 : Int32)), (.int (0 : Int32)), (.int (0 : Int32)), (.int (0 : Int32)), (.int (0 : Int32)), (.int (0 : Int32)), (.int (0 : Int32)), (.int (0 : Int32)), (.int (0 : Int32)), (.int (0 : Int32)), (.int (0 : Int32))]) (A_amx : Al Z h0 amx .long [(.long (0 : Int64)), (.long (0 : Int64)), (.long (0 : Int64)), (.long (0 : Int64)), (.long (0 : Int64)), (.long (0 : Int64)), (.long (0 : Int64)), (.long (0 : Int64)), (.long (0 : Int64)), (.long (0 : Int64)), (.long (0 : Int64)), (.long (0 : Int64)), (.long (0 : Int64)), (.long (0 : Int64)), (.long (0 : Int64)), (.long (0 : Int64)), (.long (0 : Int64)), (.long (0 : Int64)), (.long (0 : Int64)), (.long (0 : Int64)), (.long (0 : Int64)), (.long (0 : Int64)), (.long (0 : Int64)), (.long (0 : Int64)), (.long (0 : Int64)), (.long (0 : Int64)), (.long (0 : Int64)), (.long (0 : Int64)), (.long (0 : Int64)), (.long (0 : Int64)), (.long (0 : Int64)), (.long (0 : Int64))]) : Con l Z (⟨"com/example/rehearsal/rehearsal/policies/KnownRuns", "add", "(JJI)V"⟩ : MethodName) prog_102_method_13_code 9 none ({ frames := 0, cells := 0, slots := 0, locals := 0 } : Room) [] #[(.ref o), (.long st0), (.long en0), (.int sp0)] h0 (fun v h L => v = none ∧ Fr n0 L ∧ Keep h0 h [o, ast, aen, asp, amx] ∧ Exa Z h o "com/example/rehearsal/rehearsal/policies/KnownRuns" ∧ Fld Z h o "com/example/rehearsal/rehearsal/policies/KnownRuns" "setting" "J" (.long se) ∧ Fld Z h o "com/example/rehearsal/rehearsal/policies/KnownRuns" "frontier" "J" (.long fr) ∧ Fld Z h o "com/example/rehearsal/rehearsal/policies/KnownRuns" "frontierSpan" "I" (.int sp) ∧ Fld Z h o "com/example/rehearsal/rehearsal/policies/KnownRuns" "count" "I" (.int (1 : Int32)) ∧ Fld Z h o "com/example/rehearsal/rehearsal/policies/KnownRuns" "room" "I" (.int (16 : Int32)) ∧ Fld Z h o "com/example/rehearsal/rehearsal/policies/KnownRuns" "starts" "[J" (.ref ast) ∧ Fld Z h o "com/example/rehearsal/rehearsal/policies/KnownRuns" "ends" "[J" (.ref aen) ∧ Fld Z h o "com/example/rehearsal/rehearsal/policies/KnownRuns" "spans" "[I" (.ref asp) ∧ Fld Z h o "com/example/rehearsal/rehearsal/policies/KnownRuns" "maxima" "[J" (.ref amx) ∧ Al Z h ast .long [(.long st0), (.long (0 : Int64)), (.long (0 : Int64)), (.long (0 : Int64)), (.long (0 : Int64)), (.long (0 : Int64)), (.long (0 : Int64)), (.long (0 : Int64)), (.long (0 : Int64)), (.long (0 : Int64)), (.long (0 : Int64)), (.long (0 : Int64)), (.long (0 : Int64)), (.long (0 : Int64)), (.long (0 : Int64)), (.long (0 : Int64))] ∧ Al Z h aen .long [(.long en0), (.long (0 : Int64)), (.long (0 : Int64)), (.long (0 : Int64)), (.long (0 : Int64)), (.long (0 : Int64)), (.long (0 : Int64)), (.long (0 : Int64)), (.long (0 : Int64)), (.long (0 : Int64)), (.long (0 : Int64)), (.long (0 : Int64)), (.long (0 : Int64)), (.long (0 : Int64)), (.long (0 : Int64)), (.long (0 : Int64))] ∧ Al Z h asp .int [(.int sp0), (.int (0 : Int32)), (.int (0 : Int32)), (.int (0 : Int32)), (.int (0 : Int32)), (.int (0 : Int32)), (.int (0 : Int32)), (.int (0 : Int32)), (.int (0 : Int32)), (.int (0 : Int32)), (.int (0 : Int32)), (.int (0 : Int32)), (.int (0 : Int32)), (.int (0 : Int32)), (.int (0 : Int32)), (.int (0 : Int32))] ∧ Al Z h amx .long [(.long (0 : Int64)), (.long bd), (.long bd), (.long (0 : Int64)), (.long bd), (.long (0 : Int64)), (.long (0 : Int64)), (.long (0 : Int64)), (.long bd), (.long (0 : Int64)), (.long (0 : Int64)), (.long (0 : Int64)), (.long (0 : Int64)), (.long (0 : Int64)), (.long (0 : Int64)), (.long (0 : Int64)), (.long bd), (.long (0 : Int64)), (.long (0 : Int64)), (.long (0 : Int64)), (.long (0 : Int64)), (.long (0 : Int64)), (.long (0 : Int64)), (.long (0 : Int64)), (.long (0 : Int64)), (.long (0 : Int64)), (.long (0 : Int64)), (.long (0 : Int64)), (.long (0 : Int64)), (.long (0 : Int64)), (.long (0 : Int64)), (.long (0 : Int64))]) := by
  refine con_of (Ls := #[.val (.ref o), .val (.long st0), .second, .val (.long en0), .second, .val (.int sp0), .unset, .unset, .unset]) (plainFor_of_name (by first | (simp [plainName, overriddenIn]; done) | decide +kernel)) (fun m => by first | (simp [entryFrame, mkF, argsToLocals, Value.category]; done) | rfl) ?_
  have N0 : Fr n0 [] := Fr.nil _
  have K0 : Keep h0 h0 [o, ast, aen, asp, amx] := Keep.refl _ _
  have ne_o_ast : o ≠ ast := ne_al E_o (hw _ w2) A_ast
  have ne_o_aen : o ≠ aen := ne_al E_o (hw _ w2) A_aen
  have ne_o_asp : o ≠ asp := ne_al E_o (hw _ w2) A_asp
  have ne_o_amx : o ≠ amx := ne_al E_o (hw _ w2) A_amx
  refine Go.aloadN (pc' := 1) d9_0 rfl rfl rfl ?_
  refine Go.getF (pc' := 4) d9_1 rfl (hw _ w38) Via.refl F_o_count ?_
  refine Go.aloadN (pc' := 5) d9_4 rfl rfl rfl ?_
  refine Go.getF (pc' := 8) d9_5 rfl (hw _ w10) Via.refl F_o_room ?_
  refine Go.icmpT (pc' := 15) (X := (0 : Int)) (Y := (16 : Int)) d9_8 (by decide) (by decide) (by decide) (by decide : ¬ (0 : Int) = (16 : Int)) ?_
  refine Go.aloadN (pc' := 16) d9_15 rfl rfl rfl ?_
  refine Go.getF (pc' := 19) d9_16 rfl (hw _ w13) Via.refl F_o_starts ?_
  refine Go.aloadN (pc' := 20) d9_19 rfl rfl rfl ?_
  refine Go.getF (pc' := 23) d9_20 rfl (hw _ w38) Via.refl F_o_count ?_
  refine Go.lloadN (pc' := 24) d9_23 rfl rfl ?_
  refine Go.lastore (pc' := 25) (i := 0) (v := (.long st0)) (vs' := [(.long st0), (.long (0 : Int64)), (.long (0 : Int64)), (.long (0 : Int64)), (.long (0 : Int64)), (.long (0 : Int64)), (.long (0 : Int64)), (.long (0 : Int64)), (.long (0 : Int64)), (.long (0 : Int64)), (.long (0 : Int64)), (.long (0 : Int64)), (.long (0 : Int64)), (.long (0 : Int64)), (.long (0 : Int64)), (.long (0 : Int64))]) d9_24 rfl A_ast (by decide) (Nat.le_of_ble_eq_true rfl) rfl rfl ?_
  intro h1 L1 NL1 W1 B1
  replace N0 := NL1 _ N0 gn_ast
  replace sz0 : n0 ≤ h1.size := by rw [W1.size]; exact sz0
  replace E_o := E_o.wr W1
  replace F_o_setting := F_o_setting.other W1 (Or.inl ne_o_ast)
  replace F_o_frontier := F_o_frontier.other W1 (Or.inl ne_o_ast)
  replace F_o_frontierSpan := F_o_frontierSpan.other W1 (Or.inl ne_o_ast)
  replace F_o_count := F_o_count.other W1 (Or.inl ne_o_ast)
  replace F_o_room := F_o_room.other W1 (Or.inl ne_o_ast)
  replace F_o_starts := F_o_starts.other W1 (Or.inl ne_o_ast)
  replace F_o_ends := F_o_ends.other W1 (Or.inl ne_o_ast)
  replace F_o_spans := F_o_spans.other W1 (Or.inl ne_o_ast)
  replace F_o_maxima := F_o_maxima.other W1 (Or.inl ne_o_ast)
  replace A_aen := A_aen.other W1 (Ne.symm ne_ast_aen)
  replace A_asp := A_asp.other W1 (Ne.symm ne_ast_asp)
  replace A_amx := A_amx.other W1 (Ne.symm ne_ast_amx)
  replace K0 := K0.wr W1 (Or.inl (by simp))
  clear A_ast; have A_ast := B1
  refine Go.aloadN (pc' := 26) d9_25 rfl rfl rfl ?_
  refine Go.getF (pc' := 29) d9_26 rfl (hw _ w15) Via.refl F_o_ends ?_
  refine Go.aloadN (pc' := 30) d9_29 rfl rfl rfl ?_
  refine Go.getF (pc' := 33) d9_30 rfl (hw _ w38) Via.refl F_o_count ?_
  refine Go.lloadN (pc' := 34) d9_33 rfl rfl ?_
  refine Go.lastore (pc' := 35) (i := 0) (v := (.long en0)) (vs' := [(.long en0), (.long (0 : Int64)), (.long (0 : Int64)), (.long (0 : Int64)), (.long (0 : Int64)), (.long (0 : Int64)), (.long (0 : Int64)), (.long (0 : Int64)), (.long (0 : Int64)), (.long (0 : Int64)), (.long (0 : Int64)), (.long (0 : Int64)), (.long (0 : Int64)), (.long (0 : Int64)), (.long (0 : Int64)), (.long (0 : Int64))]) d9_34 rfl A_aen (by decide) (Nat.le_of_ble_eq_true rfl) rfl rfl ?_
  intro h2 L2 NL2 W2 B2
  replace N0 := NL2 _ N0 gn_aen
  replace sz0 : n0 ≤ h2.size := by rw [W2.size]; exact sz0
  replace E_o := E_o.wr W2
  replace F_o_setting := F_o_setting.other W2 (Or.inl ne_o_aen)
  replace F_o_frontier := F_o_frontier.other W2 (Or.inl ne_o_aen)
  replace F_o_frontierSpan := F_o_frontierSpan.other W2 (Or.inl ne_o_aen)
  replace F_o_count := F_o_count.other W2 (Or.inl ne_o_aen)
  replace F_o_room := F_o_room.other W2 (Or.inl ne_o_aen)
  replace F_o_starts := F_o_starts.other W2 (Or.inl ne_o_aen)
  replace F_o_ends := F_o_ends.other W2 (Or.inl ne_o_aen)
  replace F_o_spans := F_o_spans.other W2 (Or.inl ne_o_aen)
  replace F_o_maxima := F_o_maxima.other W2 (Or.inl ne_o_aen)
  replace A_ast := A_ast.other W2 ne_ast_aen
  replace A_asp := A_asp.other W2 (Ne.symm ne_aen_asp)
  replace A_amx := A_amx.other W2 (Ne.symm ne_aen_amx)
  replace K0 := K0.wr W2 (Or.inl (by simp))
  clear A_aen; have A_aen := B2
  refine Go.aloadN (pc' := 36) d9_35 rfl rfl rfl ?_
  refine Go.getF (pc' := 39) d9_36 rfl (hw _ w18) Via.refl F_o_spans ?_
  refine Go.aloadN (pc' := 40) d9_39 rfl rfl rfl ?_
  refine Go.getF (pc' := 43) d9_40 rfl (hw _ w38) Via.refl F_o_count ?_
  refine Go.iload (pc' := 45) d9_43 rfl rfl ?_
  refine Go.iastore (pc' := 46) (i := 0) (v := (.int sp0)) (vs' := [(.int sp0), (.int (0 : Int32)), (.int (0 : Int32)), (.int (0 : Int32)), (.int (0 : Int32)), (.int (0 : Int32)), (.int (0 : Int32)), (.int (0 : Int32)), (.int (0 : Int32)), (.int (0 : Int32)), (.int (0 : Int32)), (.int (0 : Int32)), (.int (0 : Int32)), (.int (0 : Int32)), (.int (0 : Int32)), (.int (0 : Int32))]) d9_45 rfl A_asp (by decide) (Nat.le_of_ble_eq_true rfl) rfl rfl ?_
  intro h3 L3 NL3 W3 B3
  replace N0 := NL3 _ N0 gn_asp
  replace sz0 : n0 ≤ h3.size := by rw [W3.size]; exact sz0
  replace E_o := E_o.wr W3
  replace F_o_setting := F_o_setting.other W3 (Or.inl ne_o_asp)
  replace F_o_frontier := F_o_frontier.other W3 (Or.inl ne_o_asp)
  replace F_o_frontierSpan := F_o_frontierSpan.other W3 (Or.inl ne_o_asp)
  replace F_o_count := F_o_count.other W3 (Or.inl ne_o_asp)
  replace F_o_room := F_o_room.other W3 (Or.inl ne_o_asp)
  replace F_o_starts := F_o_starts.other W3 (Or.inl ne_o_asp)
  replace F_o_ends := F_o_ends.other W3 (Or.inl ne_o_asp)
  replace F_o_spans := F_o_spans.other W3 (Or.inl ne_o_asp)
  replace F_o_maxima := F_o_maxima.other W3 (Or.inl ne_o_asp)
  replace A_ast := A_ast.other W3 ne_ast_asp
  replace A_aen := A_aen.other W3 ne_aen_asp
  replace A_amx := A_amx.other W3 (Ne.symm ne_asp_amx)
  replace K0 := K0.wr W3 (Or.inl (by simp))
  clear A_asp; have A_asp := B3
  refine Go.lloadN (pc' := 47) d9_46 rfl rfl ?_
  refine Go.lloadN (pc' := 48) d9_47 rfl rfl ?_
  refine Go.lsub (pc' := 49) d9_48 rfl rfl ?_
  rw [hb]
  refine Go.lstore (pc' := 51) d9_49 rfl (Ls' := #[.val (.ref o), .val (.long st0), .second, .val (.long en0), .second, .val (.int sp0), .val (.long bd), .second, .unset]) rfl ?_
  refine Go.aloadN (pc' := 52) d9_51 rfl rfl rfl ?_
  refine Go.getF (pc' := 55) d9_52 rfl (hw _ w10) Via.refl F_o_room ?_
  refine Go.aloadN (pc' := 56) d9_55 rfl rfl rfl ?_
  refine Go.getF (pc' := 59) d9_56 rfl (hw _ w38) Via.refl F_o_count ?_
  refine Go.iadd (pc' := 60) d9_59 rfl (z := (16 : Int32)) (by decide) ?_
  refine Go.istore (pc' := 62) d9_60 rfl (Ls' := #[.val (.ref o), .val (.long st0), .second, .val (.long en0), .second, .val (.int sp0), .val (.long bd), .second, .val (.int (16 : Int32))]) rfl ?_
  refine Go.aloadN (pc' := 63) d9_62 rfl rfl rfl ?_
  refine Go.getF (pc' := 66) d9_63 rfl (hw _ w20) Via.refl F_o_maxima ?_
  refine Go.iload (pc' := 68) d9_66 rfl rfl ?_
  refine Go.lload (pc' := 70) d9_68 rfl rfl ?_
  refine Go.lastore (pc' := 71) (i := 16) (v := (.long bd)) (vs' := [(.long (0 : Int64)), (.long (0 : Int64)), (.long (0 : Int64)), (.long (0 : Int64)), (.long (0 : Int64)), (.long (0 : Int64)), (.long (0 : Int64)), (.long (0 : Int64)), (.long (0 : Int64)), (.long (0 : Int64)), (.long (0 : Int64)), (.long (0 : Int64)), (.long (0 : Int64)), (.long (0 : Int64)), (.long (0 : Int64)), (.long (0 : Int64)), (.long bd), (.long (0 : Int64)), (.long (0 : Int64)), (.long (0 : Int64)), (.long (0 : Int64)), (.long (0 : Int64)), (.long (0 : Int64)), (.long (0 : Int64)), (.long (0 : Int64)), (.long (0 : Int64)), (.long (0 : Int64)), (.long (0 : Int64)), (.long (0 : Int64)), (.long (0 : Int64)), (.long (0 : Int64)), (.long (0 : Int64))]) d9_70 rfl A_amx (by decide) (Nat.le_of_ble_eq_true rfl) rfl rfl ?_
  intro h4 L4 NL4 W4 B4
  replace N0 := NL4 _ N0 gn_amx
  replace sz0 : n0 ≤ h4.size := by rw [W4.size]; exact sz0
  replace E_o := E_o.wr W4
  replace F_o_setting := F_o_setting.other W4 (Or.inl ne_o_amx)
  replace F_o_frontier := F_o_frontier.other W4 (Or.inl ne_o_amx)
  replace F_o_frontierSpan := F_o_frontierSpan.other W4 (Or.inl ne_o_amx)
  replace F_o_count := F_o_count.other W4 (Or.inl ne_o_amx)
  replace F_o_room := F_o_room.other W4 (Or.inl ne_o_amx)
  replace F_o_starts := F_o_starts.other W4 (Or.inl ne_o_amx)
  replace F_o_ends := F_o_ends.other W4 (Or.inl ne_o_amx)
  replace F_o_spans := F_o_spans.other W4 (Or.inl ne_o_amx)
  replace F_o_maxima := F_o_maxima.other W4 (Or.inl ne_o_amx)
  replace A_ast := A_ast.other W4 ne_ast_amx
  replace A_aen := A_aen.other W4 ne_aen_amx
  replace A_asp := A_asp.other W4 ne_asp_amx
  replace K0 := K0.wr W4 (Or.inl (by simp))
  clear A_amx; have A_amx := B4
  refine Go.iload (pc' := 73) d9_71 rfl rfl ?_
  refine Go.iconst (pc' := 74) d9_73 rfl (z := (2 : Int32)) (by decide) ?_
  refine Go.idiv (pc' := 75) d9_74 rfl (by decide) (z := (8 : Int32)) (by decide) ?_
  refine Go.istore (pc' := 77) d9_75 rfl (Ls' := #[.val (.ref o), .val (.long st0), .second, .val (.long en0), .second, .val (.int sp0), .val (.long bd), .second, .val (.int (8 : Int32))]) rfl ?_
  refine Go.iload (pc' := 79) d9_77 rfl rfl ?_
  refine Go.iconst (pc' := 80) d9_79 rfl (z := (1 : Int32)) (by decide) ?_
  refine Go.icmpF (pc' := 83) (X := (8 : Int)) (Y := (1 : Int)) d9_80 rfl (by decide) (by decide) (by decide : ¬ (8 : Int) < (1 : Int)) ?_
  refine Go.aloadN (pc' := 84) d9_83 rfl rfl rfl ?_
  refine Go.getF (pc' := 87) d9_84 rfl (hw _ w20) Via.refl F_o_maxima ?_
  refine Go.iload (pc' := 89) d9_87 rfl rfl ?_
  refine Go.laload (pc' := 90) d9_89 rfl (i := 8) (v := (.long (0 : Int64))) A_amx (by decide) rfl ?_
  refine Go.lload (pc' := 92) d9_90 rfl rfl ?_
  refine Go.lcmpF (pc' := 96) (X := (0 : Int)) (Y := bd.toInt) d9_92 d9_93 rfl rfl (by decide) rfl (hbd : (0 : Int) < bd.toInt) ?_
  refine Go.aloadN (pc' := 97) d9_96 rfl rfl rfl ?_
  refine Go.getF (pc' := 100) d9_97 rfl (hw _ w20) Via.refl F_o_maxima ?_
  refine Go.iload (pc' := 102) d9_100 rfl rfl ?_
  refine Go.lload (pc' := 104) d9_102 rfl rfl ?_
  refine Go.lastore (pc' := 105) (i := 8) (v := (.long bd)) (vs' := [(.long (0 : Int64)), (.long (0 : Int64)), (.long (0 : Int64)), (.long (0 : Int64)), (.long (0 : Int64)), (.long (0 : Int64)), (.long (0 : Int64)), (.long (0 : Int64)), (.long bd), (.long (0 : Int64)), (.long (0 : Int64)), (.long (0 : Int64)), (.long (0 : Int64)), (.long (0 : Int64)), (.long (0 : Int64)), (.long (0 : Int64)), (.long bd), (.long (0 : Int64)), (.long (0 : Int64)), (.long (0 : Int64)), (.long (0 : Int64)), (.long (0 : Int64)), (.long (0 : Int64)), (.long (0 : Int64)), (.long (0 : Int64)), (.long (0 : Int64)), (.long (0 : Int64)), (.long (0 : Int64)), (.long (0 : Int64)), (.long (0 : Int64)), (.long (0 : Int64)), (.long (0 : Int64))]) d9_104 rfl A_amx (by decide) (Nat.le_of_ble_eq_true rfl) rfl rfl ?_
  intro h5 L5 NL5 W5 B5
  replace N0 := NL5 _ N0 gn_amx
  replace sz0 : n0 ≤ h5.size := by rw [W5.size]; exact sz0
  replace E_o := E_o.wr W5
  replace F_o_setting := F_o_setting.other W5 (Or.inl ne_o_amx)
  replace F_o_frontier := F_o_frontier.other W5 (Or.inl ne_o_amx)
  replace F_o_frontierSpan := F_o_frontierSpan.other W5 (Or.inl ne_o_amx)
  replace F_o_count := F_o_count.other W5 (Or.inl ne_o_amx)
  replace F_o_room := F_o_room.other W5 (Or.inl ne_o_amx)
  replace F_o_starts := F_o_starts.other W5 (Or.inl ne_o_amx)
  replace F_o_ends := F_o_ends.other W5 (Or.inl ne_o_amx)
  replace F_o_spans := F_o_spans.other W5 (Or.inl ne_o_amx)
  replace F_o_maxima := F_o_maxima.other W5 (Or.inl ne_o_amx)
  replace A_ast := A_ast.other W5 ne_ast_amx
  replace A_aen := A_aen.other W5 ne_aen_amx
  replace A_asp := A_asp.other W5 ne_asp_amx
  replace K0 := K0.wr W5 (Or.inl (by simp))
  clear A_amx; have A_amx := B5
  refine Go.iload (pc' := 107) d9_105 rfl rfl ?_
  refine Go.iconst (pc' := 108) d9_107 rfl (z := (2 : Int32)) (by decide) ?_
  refine Go.idiv (pc' := 109) d9_108 rfl (by decide) (z := (4 : Int32)) (by decide) ?_
  refine Go.istore (pc' := 111) d9_109 rfl (Ls' := #[.val (.ref o), .val (.long st0), .second, .val (.long en0), .second, .val (.int sp0), .val (.long bd), .second, .val (.int (4 : Int32))]) rfl ?_
  refine Go.goto (pc' := 77) d9_111 (by decide) ?_
  refine Go.iload (pc' := 79) d9_77 rfl rfl ?_
  refine Go.iconst (pc' := 80) d9_79 rfl (z := (1 : Int32)) (by decide) ?_
  refine Go.icmpF (pc' := 83) (X := (4 : Int)) (Y := (1 : Int)) d9_80 rfl (by decide) (by decide) (by decide : ¬ (4 : Int) < (1 : Int)) ?_
  refine Go.aloadN (pc' := 84) d9_83 rfl rfl rfl ?_
  refine Go.getF (pc' := 87) d9_84 rfl (hw _ w20) Via.refl F_o_maxima ?_
  refine Go.iload (pc' := 89) d9_87 rfl rfl ?_
  refine Go.laload (pc' := 90) d9_89 rfl (i := 4) (v := (.long (0 : Int64))) A_amx (by decide) rfl ?_
  refine Go.lload (pc' := 92) d9_90 rfl rfl ?_
  refine Go.lcmpF (pc' := 96) (X := (0 : Int)) (Y := bd.toInt) d9_92 d9_93 rfl rfl (by decide) rfl (hbd : (0 : Int) < bd.toInt) ?_
  refine Go.aloadN (pc' := 97) d9_96 rfl rfl rfl ?_
  refine Go.getF (pc' := 100) d9_97 rfl (hw _ w20) Via.refl F_o_maxima ?_
  refine Go.iload (pc' := 102) d9_100 rfl rfl ?_
  refine Go.lload (pc' := 104) d9_102 rfl rfl ?_
  refine Go.lastore (pc' := 105) (i := 4) (v := (.long bd)) (vs' := [(.long (0 : Int64)), (.long (0 : Int64)), (.long (0 : Int64)), (.long (0 : Int64)), (.long bd), (.long (0 : Int64)), (.long (0 : Int64)), (.long (0 : Int64)), (.long bd), (.long (0 : Int64)), (.long (0 : Int64)), (.long (0 : Int64)), (.long (0 : Int64)), (.long (0 : Int64)), (.long (0 : Int64)), (.long (0 : Int64)), (.long bd), (.long (0 : Int64)), (.long (0 : Int64)), (.long (0 : Int64)), (.long (0 : Int64)), (.long (0 : Int64)), (.long (0 : Int64)), (.long (0 : Int64)), (.long (0 : Int64)), (.long (0 : Int64)), (.long (0 : Int64)), (.long (0 : Int64)), (.long (0 : Int64)), (.long (0 : Int64)), (.long (0 : Int64)), (.long (0 : Int64))]) d9_104 rfl A_amx (by decide) (Nat.le_of_ble_eq_true rfl) rfl rfl ?_
  intro h6 L6 NL6 W6 B6
  replace N0 := NL6 _ N0 gn_amx
  replace sz0 : n0 ≤ h6.size := by rw [W6.size]; exact sz0
  replace E_o := E_o.wr W6
  replace F_o_setting := F_o_setting.other W6 (Or.inl ne_o_amx)
  replace F_o_frontier := F_o_frontier.other W6 (Or.inl ne_o_amx)
  replace F_o_frontierSpan := F_o_frontierSpan.other W6 (Or.inl ne_o_amx)
  replace F_o_count := F_o_count.other W6 (Or.inl ne_o_amx)
  replace F_o_room := F_o_room.other W6 (Or.inl ne_o_amx)
  replace F_o_starts := F_o_starts.other W6 (Or.inl ne_o_amx)
  replace F_o_ends := F_o_ends.other W6 (Or.inl ne_o_amx)
  replace F_o_spans := F_o_spans.other W6 (Or.inl ne_o_amx)
  replace F_o_maxima := F_o_maxima.other W6 (Or.inl ne_o_amx)
  replace A_ast := A_ast.other W6 ne_ast_amx
  replace A_aen := A_aen.other W6 ne_aen_amx
  replace A_asp := A_asp.other W6 ne_asp_amx
  replace K0 := K0.wr W6 (Or.inl (by simp))
  clear A_amx; have A_amx := B6
  refine Go.iload (pc' := 107) d9_105 rfl rfl ?_
  refine Go.iconst (pc' := 108) d9_107 rfl (z := (2 : Int32)) (by decide) ?_
  refine Go.idiv (pc' := 109) d9_108 rfl (by decide) (z := (2 : Int32)) (by decide) ?_
  refine Go.istore (pc' := 111) d9_109 rfl (Ls' := #[.val (.ref o), .val (.long st0), .second, .val (.long en0), .second, .val (.int sp0), .val (.long bd), .second, .val (.int (2 : Int32))]) rfl ?_
  refine Go.goto (pc' := 77) d9_111 (by decide) ?_
  refine Go.iload (pc' := 79) d9_77 rfl rfl ?_
  refine Go.iconst (pc' := 80) d9_79 rfl (z := (1 : Int32)) (by decide) ?_
  refine Go.icmpF (pc' := 83) (X := (2 : Int)) (Y := (1 : Int)) d9_80 rfl (by decide) (by decide) (by decide : ¬ (2 : Int) < (1 : Int)) ?_
  refine Go.aloadN (pc' := 84) d9_83 rfl rfl rfl ?_
  refine Go.getF (pc' := 87) d9_84 rfl (hw _ w20) Via.refl F_o_maxima ?_
  refine Go.iload (pc' := 89) d9_87 rfl rfl ?_
  refine Go.laload (pc' := 90) d9_89 rfl (i := 2) (v := (.long (0 : Int64))) A_amx (by decide) rfl ?_
  refine Go.lload (pc' := 92) d9_90 rfl rfl ?_
  refine Go.lcmpF (pc' := 96) (X := (0 : Int)) (Y := bd.toInt) d9_92 d9_93 rfl rfl (by decide) rfl (hbd : (0 : Int) < bd.toInt) ?_
  refine Go.aloadN (pc' := 97) d9_96 rfl rfl rfl ?_
  refine Go.getF (pc' := 100) d9_97 rfl (hw _ w20) Via.refl F_o_maxima ?_
  refine Go.iload (pc' := 102) d9_100 rfl rfl ?_
  refine Go.lload (pc' := 104) d9_102 rfl rfl ?_
  refine Go.lastore (pc' := 105) (i := 2) (v := (.long bd)) (vs' := [(.long (0 : Int64)), (.long (0 : Int64)), (.long bd), (.long (0 : Int64)), (.long bd), (.long (0 : Int64)), (.long (0 : Int64)), (.long (0 : Int64)), (.long bd), (.long (0 : Int64)), (.long (0 : Int64)), (.long (0 : Int64)), (.long (0 : Int64)), (.long (0 : Int64)), (.long (0 : Int64)), (.long (0 : Int64)), (.long bd), (.long (0 : Int64)), (.long (0 : Int64)), (.long (0 : Int64)), (.long (0 : Int64)), (.long (0 : Int64)), (.long (0 : Int64)), (.long (0 : Int64)), (.long (0 : Int64)), (.long (0 : Int64)), (.long (0 : Int64)), (.long (0 : Int64)), (.long (0 : Int64)), (.long (0 : Int64)), (.long (0 : Int64)), (.long (0 : Int64))]) d9_104 rfl A_amx (by decide) (Nat.le_of_ble_eq_true rfl) rfl rfl ?_
  intro h7 L7 NL7 W7 B7
  replace N0 := NL7 _ N0 gn_amx
  replace sz0 : n0 ≤ h7.size := by rw [W7.size]; exact sz0
  replace E_o := E_o.wr W7
  replace F_o_setting := F_o_setting.other W7 (Or.inl ne_o_amx)
  replace F_o_frontier := F_o_frontier.other W7 (Or.inl ne_o_amx)
  replace F_o_frontierSpan := F_o_frontierSpan.other W7 (Or.inl ne_o_amx)
  replace F_o_count := F_o_count.other W7 (Or.inl ne_o_amx)
  replace F_o_room := F_o_room.other W7 (Or.inl ne_o_amx)
  replace F_o_starts := F_o_starts.other W7 (Or.inl ne_o_amx)
  replace F_o_ends := F_o_ends.other W7 (Or.inl ne_o_amx)
  replace F_o_spans := F_o_spans.other W7 (Or.inl ne_o_amx)
  replace F_o_maxima := F_o_maxima.other W7 (Or.inl ne_o_amx)
  replace A_ast := A_ast.other W7 ne_ast_amx
  replace A_aen := A_aen.other W7 ne_aen_amx
  replace A_asp := A_asp.other W7 ne_asp_amx
  replace K0 := K0.wr W7 (Or.inl (by simp))
  clear A_amx; have A_amx := B7
  refine Go.iload (pc' := 107) d9_105 rfl rfl ?_
  refine Go.iconst (pc' := 108) d9_107 rfl (z := (2 : Int32)) (by decide) ?_
  refine Go.idiv (pc' := 109) d9_108 rfl (by decide) (z := (1 : Int32)) (by decide) ?_
  refine Go.istore (pc' := 111) d9_109 rfl (Ls' := #[.val (.ref o), .val (.long st0), .second, .val (.long en0), .second, .val (.int sp0), .val (.long bd), .second, .val (.int (1 : Int32))]) rfl ?_
  refine Go.goto (pc' := 77) d9_111 (by decide) ?_
  refine Go.iload (pc' := 79) d9_77 rfl rfl ?_
  refine Go.iconst (pc' := 80) d9_79 rfl (z := (1 : Int32)) (by decide) ?_
  refine Go.icmpF (pc' := 83) (X := (1 : Int)) (Y := (1 : Int)) d9_80 rfl (by decide) (by decide) (by decide : ¬ (1 : Int) < (1 : Int)) ?_
  refine Go.aloadN (pc' := 84) d9_83 rfl rfl rfl ?_
  refine Go.getF (pc' := 87) d9_84 rfl (hw _ w20) Via.refl F_o_maxima ?_
  refine Go.iload (pc' := 89) d9_87 rfl rfl ?_
  refine Go.laload (pc' := 90) d9_89 rfl (i := 1) (v := (.long (0 : Int64))) A_amx (by decide) rfl ?_
  refine Go.lload (pc' := 92) d9_90 rfl rfl ?_
  refine Go.lcmpF (pc' := 96) (X := (0 : Int)) (Y := bd.toInt) d9_92 d9_93 rfl rfl (by decide) rfl (hbd : (0 : Int) < bd.toInt) ?_
  refine Go.aloadN (pc' := 97) d9_96 rfl rfl rfl ?_
  refine Go.getF (pc' := 100) d9_97 rfl (hw _ w20) Via.refl F_o_maxima ?_
  refine Go.iload (pc' := 102) d9_100 rfl rfl ?_
  refine Go.lload (pc' := 104) d9_102 rfl rfl ?_
  refine Go.lastore (pc' := 105) (i := 1) (v := (.long bd)) (vs' := [(.long (0 : Int64)), (.long bd), (.long bd), (.long (0 : Int64)), (.long bd), (.long (0 : Int64)), (.long (0 : Int64)), (.long (0 : Int64)), (.long bd), (.long (0 : Int64)), (.long (0 : Int64)), (.long (0 : Int64)), (.long (0 : Int64)), (.long (0 : Int64)), (.long (0 : Int64)), (.long (0 : Int64)), (.long bd), (.long (0 : Int64)), (.long (0 : Int64)), (.long (0 : Int64)), (.long (0 : Int64)), (.long (0 : Int64)), (.long (0 : Int64)), (.long (0 : Int64)), (.long (0 : Int64)), (.long (0 : Int64)), (.long (0 : Int64)), (.long (0 : Int64)), (.long (0 : Int64)), (.long (0 : Int64)), (.long (0 : Int64)), (.long (0 : Int64))]) d9_104 rfl A_amx (by decide) (Nat.le_of_ble_eq_true rfl) rfl rfl ?_
  intro h8 L8 NL8 W8 B8
  replace N0 := NL8 _ N0 gn_amx
  replace sz0 : n0 ≤ h8.size := by rw [W8.size]; exact sz0
  replace E_o := E_o.wr W8
  replace F_o_setting := F_o_setting.other W8 (Or.inl ne_o_amx)
  replace F_o_frontier := F_o_frontier.other W8 (Or.inl ne_o_amx)
  replace F_o_frontierSpan := F_o_frontierSpan.other W8 (Or.inl ne_o_amx)
  replace F_o_count := F_o_count.other W8 (Or.inl ne_o_amx)
  replace F_o_room := F_o_room.other W8 (Or.inl ne_o_amx)
  replace F_o_starts := F_o_starts.other W8 (Or.inl ne_o_amx)
  replace F_o_ends := F_o_ends.other W8 (Or.inl ne_o_amx)
  replace F_o_spans := F_o_spans.other W8 (Or.inl ne_o_amx)
  replace F_o_maxima := F_o_maxima.other W8 (Or.inl ne_o_amx)
  replace A_ast := A_ast.other W8 ne_ast_amx
  replace A_aen := A_aen.other W8 ne_aen_amx
  replace A_asp := A_asp.other W8 ne_asp_amx
  replace K0 := K0.wr W8 (Or.inl (by simp))
  clear A_amx; have A_amx := B8
  refine Go.iload (pc' := 107) d9_105 rfl rfl ?_
  refine Go.iconst (pc' := 108) d9_107 rfl (z := (2 : Int32)) (by decide) ?_
  refine Go.idiv (pc' := 109) d9_108 rfl (by decide) (z := (0 : Int32)) (by decide) ?_
  refine Go.istore (pc' := 111) d9_109 rfl (Ls' := #[.val (.ref o), .val (.long st0), .second, .val (.long en0), .second, .val (.int sp0), .val (.long bd), .second, .val (.int (0 : Int32))]) rfl ?_
  refine Go.goto (pc' := 77) d9_111 (by decide) ?_
  refine Go.iload (pc' := 79) d9_77 rfl rfl ?_
  refine Go.iconst (pc' := 80) d9_79 rfl (z := (1 : Int32)) (by decide) ?_
  refine Go.icmpT (pc' := 114) (X := (0 : Int)) (Y := (1 : Int)) d9_80 (by decide) (by decide) (by decide) (by decide : (0 : Int) < (1 : Int)) ?_
  refine Go.aloadN (pc' := 115) d9_114 rfl rfl rfl ?_
  refine Go.dup (pc' := 116) d9_115 rfl rfl ?_
  refine Go.getF (pc' := 119) d9_116 rfl (hw _ w38) Via.refl F_o_count ?_
  refine Go.iconst (pc' := 120) d9_119 rfl (z := (1 : Int32)) (by decide) ?_
  refine Go.iadd (pc' := 121) d9_120 rfl (z := (1 : Int32)) (by decide) ?_
  refine Go.putF (pc' := 124) d9_121 rfl (hw _ w38) Via.refl F_o_count E_o (Or.inl (hw _ w39)) (hw _ w2) (ty := .int) (by decide) rfl rfl ?_
  intro h9 L9 NL9 W9
  replace F_o_count := F_o_count.same W9
  replace N0 := NL9 _ N0 gn_o
  replace sz0 : n0 ≤ h9.size := by rw [W9.size]; exact sz0
  replace E_o := E_o.wr W9
  replace F_o_setting := F_o_setting.other W9 (Or.inr (slot_ne (Or.inl (hw _ w37)) (Or.inl (hw _ w39)) (by decide) (t := .long) (t' := .int) (by decide) (by decide)))
  replace F_o_frontier := F_o_frontier.other W9 (Or.inr (slot_ne (Or.inl (hw _ w28)) (Or.inl (hw _ w39)) (by decide) (t := .long) (t' := .int) (by decide) (by decide)))
  replace F_o_frontierSpan := F_o_frontierSpan.other W9 (Or.inr (slot_ne (Or.inl (hw _ w30)) (Or.inl (hw _ w39)) (by decide) (t := .int) (t' := .int) (by decide) (by decide)))
  replace F_o_room := F_o_room.other W9 (Or.inr (slot_ne (Or.inl (hw _ w11)) (Or.inl (hw _ w39)) (by decide) (t := .int) (t' := .int) (by decide) (by decide)))
  replace F_o_starts := F_o_starts.other W9 (Or.inr (slot_ne (Or.inl (hw _ w14)) (Or.inl (hw _ w39)) (by decide) (t := (.array .long)) (t' := .int) (by decide) (by decide)))
  replace F_o_ends := F_o_ends.other W9 (Or.inr (slot_ne (Or.inl (hw _ w16)) (Or.inl (hw _ w39)) (by decide) (t := (.array .long)) (t' := .int) (by decide) (by decide)))
  replace F_o_spans := F_o_spans.other W9 (Or.inr (slot_ne (Or.inl (hw _ w19)) (Or.inl (hw _ w39)) (by decide) (t := (.array .int)) (t' := .int) (by decide) (by decide)))
  replace F_o_maxima := F_o_maxima.other W9 (Or.inr (slot_ne (Or.inl (hw _ w21)) (Or.inl (hw _ w39)) (by decide) (t := (.array .long)) (t' := .int) (by decide) (by decide)))
  replace A_ast := A_ast.other W9 (Ne.symm ne_o_ast)
  replace A_aen := A_aen.other W9 (Ne.symm ne_o_aen)
  replace A_asp := A_asp.other W9 (Ne.symm ne_o_asp)
  replace A_amx := A_amx.other W9 (Ne.symm ne_o_amx)
  replace K0 := K0.wr W9 (Or.inl (by simp))
  refine Go.retV d9_124 rfl (by decide) (by decide) ?_
  exact ⟨rfl, N0, K0, E_o, F_o_setting, F_o_frontier, F_o_frontierSpan, F_o_count, F_o_room, F_o_starts, F_o_ends, F_o_spans, F_o_maxima, A_ast, A_aen, A_asp, A_amx⟩
set_option maxRecDepth 65536 in
set_option maxHeartbeats 40000000 in
theorem c_add1 {l : Launch} {Z : State} {a0 : Array Value} (hw : ∀ d ∈ tables_1, d.before a0 Z = true) {h0 : Heap} {n0 : Nat} (sz0 : n0 ≤ h0.size) (o ast aen asp amx : Addr) (st1 en1 : Int64) (sp1 : Int32) (se fr : Int64) (sp : Int32) (st0 en0 : Int64) (sp0 : Int32) (b1 bd : Int64) (hb : en1 - st1 = bd) (hbd : 0 < bd.toInt) (hb1 : 0 < b1.toInt) (gn_o : n0 ≤ o) (gn_ast : n0 ≤ ast) (gn_aen : n0 ≤ aen) (gn_asp : n0 ≤ asp) (gn_amx : n0 ≤ amx) (ne_ast_aen : ast ≠ aen) (ne_ast_asp : ast ≠ asp) (ne_ast_amx : ast ≠ amx) (ne_aen_asp : aen ≠ asp) (ne_aen_amx : aen ≠ amx) (ne_asp_amx : asp ≠ amx) (E_o : Exa Z h0 o "com/example/rehearsal/rehearsal/policies/KnownRuns") (F_o_setting : Fld Z h0 o "com/example/rehearsal/rehearsal/policies/KnownRuns" "setting" "J" (.long se)) (F_o_frontier : Fld Z h0 o "com/example/rehearsal/rehearsal/policies/KnownRuns" "frontier" "J" (.long fr)) (F_o_frontierSpan : Fld Z h0 o "com/example/rehearsal/rehearsal/policies/KnownRuns" "frontierSpan" "I" (.int sp)) (F_o_count : Fld Z h0 o "com/example/rehearsal/rehearsal/policies/KnownRuns" "count" "I" (.int (1 : Int32))) (F_o_room : Fld Z h0 o "com/example/rehearsal/rehearsal/policies/KnownRuns" "room" "I" (.int (16 : Int32))) (F_o_starts : Fld Z h0 o "com/example/rehearsal/rehearsal/policies/KnownRuns" "starts" "[J" (.ref ast)) (F_o_ends : Fld Z h0 o "com/example/rehearsal/rehearsal/policies/KnownRuns" "ends" "[J" (.ref aen)) (F_o_spans : Fld Z h0 o "com/example/rehearsal/rehearsal/policies/KnownRuns" "spans" "[I" (.ref asp)) (F_o_maxima : Fld Z h0 o "com/example/rehearsal/rehearsal/policies/KnownRuns" "maxima" "[J" (.ref amx)) (A_ast : Al Z h0 ast .long [(.long st0), (.long (0 : Int64)), (.long (0 : Int64)), (.long (0 : Int64)), (.long (0 : Int64)), (.long (0 : Int64)), (.long (0 : Int64)), (.long (0 : Int64)), (.long (0 : Int64)), (.long (0 : Int64)), (.long (0 : Int64)), (.long (0 : Int64)), (.long (0 : Int64)), (.long (0 : Int64)), (.long (0 : Int64)), (.long (0 : Int64))]) (A_aen : Al Z h0 aen .long [(.long en0), (.long (0 : Int64)), (.long (0 : Int64)), (.long (0 : Int64)), (.long (0 : Int64)), (.long (0 : Int64)), (.long (0 : Int64)), (.long (0 : Int64)), (.long (0 : Int64)), (.long (0 : Int64)), (.long (0 : Int64)), (.long (0 : Int64)), (.long (0 : Int64)), (.long (0 : Int64)), (.long (0 : Int64)), (.long (0 : Int64))]) (A_asp : Al Z h0 asp .int [(.int sp0), (.int (0 : Int32)), (.int (0 : Int32)), (.int (0 : Int32)), (.int (0 : Int32)), (.int (0 : Int32)), (.int (0 : Int32)), (.int (0 : Int32)), (.int (0 : Int32)), (.int (0 : Int32)), (.int (0 : Int32)), (.int (0 : Int32)), (.int (0 : Int32)), (.int (0 : Int32)), (.int (0 : Int32)), (.int (0 : Int32))]) (A_amx : Al Z h0 amx .long [(.long (0 : Int64)), (.long b1), (.long b1), (.long (0 : Int64)), (.long b1), (.long (0 : Int64)), (.long (0 : Int64)), (.long (0 : Int64)), (.long b1), (.long (0 : Int64)), (.long (0 : Int64)), (.long (0 : Int64)), (.long (0 : Int64)), (.long (0 : Int64)), (.long (0 : Int64)), (.long (0 : Int64)), (.long b1), (.long (0 : Int64)), (.long (0 : Int64)), (.long (0 : Int64)), (.long (0 : Int64)), (.long (0 : Int64)), (.long (0 : Int64)), (.long (0 : Int64)), (.long (0 : Int64)), (.long (0 : Int64)), (.long (0 : Int64)), (.long (0 : Int64)), (.long (0 : Int64)), (.long (0 : Int64)), (.long (0 : Int64)), (.long (0 : Int64))]) : Con l Z (⟨"com/example/rehearsal/rehearsal/policies/KnownRuns", "add", "(JJI)V"⟩ : MethodName) prog_102_method_13_code 9 none ({ frames := 0, cells := 0, slots := 0, locals := 0 } : Room) [] #[(.ref o), (.long st1), (.long en1), (.int sp1)] h0 (fun v h L => ∃ mm : Int64, v = none ∧ Fr n0 L ∧ Keep h0 h [o, ast, aen, asp, amx] ∧ Exa Z h o "com/example/rehearsal/rehearsal/policies/KnownRuns" ∧ Fld Z h o "com/example/rehearsal/rehearsal/policies/KnownRuns" "setting" "J" (.long se) ∧ Fld Z h o "com/example/rehearsal/rehearsal/policies/KnownRuns" "frontier" "J" (.long fr) ∧ Fld Z h o "com/example/rehearsal/rehearsal/policies/KnownRuns" "frontierSpan" "I" (.int sp) ∧ Fld Z h o "com/example/rehearsal/rehearsal/policies/KnownRuns" "count" "I" (.int (2 : Int32)) ∧ Fld Z h o "com/example/rehearsal/rehearsal/policies/KnownRuns" "room" "I" (.int (16 : Int32)) ∧ Fld Z h o "com/example/rehearsal/rehearsal/policies/KnownRuns" "starts" "[J" (.ref ast) ∧ Fld Z h o "com/example/rehearsal/rehearsal/policies/KnownRuns" "ends" "[J" (.ref aen) ∧ Fld Z h o "com/example/rehearsal/rehearsal/policies/KnownRuns" "spans" "[I" (.ref asp) ∧ Fld Z h o "com/example/rehearsal/rehearsal/policies/KnownRuns" "maxima" "[J" (.ref amx) ∧ Al Z h ast .long [(.long st0), (.long st1), (.long (0 : Int64)), (.long (0 : Int64)), (.long (0 : Int64)), (.long (0 : Int64)), (.long (0 : Int64)), (.long (0 : Int64)), (.long (0 : Int64)), (.long (0 : Int64)), (.long (0 : Int64)), (.long (0 : Int64)), (.long (0 : Int64)), (.long (0 : Int64)), (.long (0 : Int64)), (.long (0 : Int64))] ∧ Al Z h aen .long [(.long en0), (.long en1), (.long (0 : Int64)), (.long (0 : Int64)), (.long (0 : Int64)), (.long (0 : Int64)), (.long (0 : Int64)), (.long (0 : Int64)), (.long (0 : Int64)), (.long (0 : Int64)), (.long (0 : Int64)), (.long (0 : Int64)), (.long (0 : Int64)), (.long (0 : Int64)), (.long (0 : Int64)), (.long (0 : Int64))] ∧ Al Z h asp .int [(.int sp0), (.int sp1), (.int (0 : Int32)), (.int (0 : Int32)), (.int (0 : Int32)), (.int (0 : Int32)), (.int (0 : Int32)), (.int (0 : Int32)), (.int (0 : Int32)), (.int (0 : Int32)), (.int (0 : Int32)), (.int (0 : Int32)), (.int (0 : Int32)), (.int (0 : Int32)), (.int (0 : Int32)), (.int (0 : Int32))] ∧ Al Z h amx .long [(.long (0 : Int64)), (.long mm), (.long mm), (.long (0 : Int64)), (.long mm), (.long (0 : Int64)), (.long (0 : Int64)), (.long (0 : Int64)), (.long mm), (.long (0 : Int64)), (.long (0 : Int64)), (.long (0 : Int64)), (.long (0 : Int64)), (.long (0 : Int64)), (.long (0 : Int64)), (.long (0 : Int64)), (.long b1), (.long bd), (.long (0 : Int64)), (.long (0 : Int64)), (.long (0 : Int64)), (.long (0 : Int64)), (.long (0 : Int64)), (.long (0 : Int64)), (.long (0 : Int64)), (.long (0 : Int64)), (.long (0 : Int64)), (.long (0 : Int64)), (.long (0 : Int64)), (.long (0 : Int64)), (.long (0 : Int64)), (.long (0 : Int64))] ∧ 0 < mm.toInt) := by
  refine con_of (Ls := #[.val (.ref o), .val (.long st1), .second, .val (.long en1), .second, .val (.int sp1), .unset, .unset, .unset]) (plainFor_of_name (by first | (simp [plainName, overriddenIn]; done) | decide +kernel)) (fun m => by first | (simp [entryFrame, mkF, argsToLocals, Value.category]; done) | rfl) ?_
  have N0 : Fr n0 [] := Fr.nil _
  have K0 : Keep h0 h0 [o, ast, aen, asp, amx] := Keep.refl _ _
  have ne_o_ast : o ≠ ast := ne_al E_o (hw _ w2) A_ast
  have ne_o_aen : o ≠ aen := ne_al E_o (hw _ w2) A_aen
  have ne_o_asp : o ≠ asp := ne_al E_o (hw _ w2) A_asp
  have ne_o_amx : o ≠ amx := ne_al E_o (hw _ w2) A_amx
  refine Go.aloadN (pc' := 1) d9_0 rfl rfl rfl ?_
  refine Go.getF (pc' := 4) d9_1 rfl (hw _ w38) Via.refl F_o_count ?_
  refine Go.aloadN (pc' := 5) d9_4 rfl rfl rfl ?_
  refine Go.getF (pc' := 8) d9_5 rfl (hw _ w10) Via.refl F_o_room ?_
  refine Go.icmpT (pc' := 15) (X := (1 : Int)) (Y := (16 : Int)) d9_8 (by decide) (by decide) (by decide) (by decide : ¬ (1 : Int) = (16 : Int)) ?_
  refine Go.aloadN (pc' := 16) d9_15 rfl rfl rfl ?_
  refine Go.getF (pc' := 19) d9_16 rfl (hw _ w13) Via.refl F_o_starts ?_
  refine Go.aloadN (pc' := 20) d9_19 rfl rfl rfl ?_
  refine Go.getF (pc' := 23) d9_20 rfl (hw _ w38) Via.refl F_o_count ?_
  refine Go.lloadN (pc' := 24) d9_23 rfl rfl ?_
  refine Go.lastore (pc' := 25) (i := 1) (v := (.long st1)) (vs' := [(.long st0), (.long st1), (.long (0 : Int64)), (.long (0 : Int64)), (.long (0 : Int64)), (.long (0 : Int64)), (.long (0 : Int64)), (.long (0 : Int64)), (.long (0 : Int64)), (.long (0 : Int64)), (.long (0 : Int64)), (.long (0 : Int64)), (.long (0 : Int64)), (.long (0 : Int64)), (.long (0 : Int64)), (.long (0 : Int64))]) d9_24 rfl A_ast (by decide) (Nat.le_of_ble_eq_true rfl) rfl rfl ?_
  intro h1 L1 NL1 W1 B1
  replace N0 := NL1 _ N0 gn_ast
  replace sz0 : n0 ≤ h1.size := by rw [W1.size]; exact sz0
  replace E_o := E_o.wr W1
  replace F_o_setting := F_o_setting.other W1 (Or.inl ne_o_ast)
  replace F_o_frontier := F_o_frontier.other W1 (Or.inl ne_o_ast)
  replace F_o_frontierSpan := F_o_frontierSpan.other W1 (Or.inl ne_o_ast)
  replace F_o_count := F_o_count.other W1 (Or.inl ne_o_ast)
  replace F_o_room := F_o_room.other W1 (Or.inl ne_o_ast)
  replace F_o_starts := F_o_starts.other W1 (Or.inl ne_o_ast)
  replace F_o_ends := F_o_ends.other W1 (Or.inl ne_o_ast)
  replace F_o_spans := F_o_spans.other W1 (Or.inl ne_o_ast)
  replace F_o_maxima := F_o_maxima.other W1 (Or.inl ne_o_ast)
  replace A_aen := A_aen.other W1 (Ne.symm ne_ast_aen)
  replace A_asp := A_asp.other W1 (Ne.symm ne_ast_asp)
  replace A_amx := A_amx.other W1 (Ne.symm ne_ast_amx)
  replace K0 := K0.wr W1 (Or.inl (by simp))
  clear A_ast; have A_ast := B1
  refine Go.aloadN (pc' := 26) d9_25 rfl rfl rfl ?_
  refine Go.getF (pc' := 29) d9_26 rfl (hw _ w15) Via.refl F_o_ends ?_
  refine Go.aloadN (pc' := 30) d9_29 rfl rfl rfl ?_
  refine Go.getF (pc' := 33) d9_30 rfl (hw _ w38) Via.refl F_o_count ?_
  refine Go.lloadN (pc' := 34) d9_33 rfl rfl ?_
  refine Go.lastore (pc' := 35) (i := 1) (v := (.long en1)) (vs' := [(.long en0), (.long en1), (.long (0 : Int64)), (.long (0 : Int64)), (.long (0 : Int64)), (.long (0 : Int64)), (.long (0 : Int64)), (.long (0 : Int64)), (.long (0 : Int64)), (.long (0 : Int64)), (.long (0 : Int64)), (.long (0 : Int64)), (.long (0 : Int64)), (.long (0 : Int64)), (.long (0 : Int64)), (.long (0 : Int64))]) d9_34 rfl A_aen (by decide) (Nat.le_of_ble_eq_true rfl) rfl rfl ?_
  intro h2 L2 NL2 W2 B2
  replace N0 := NL2 _ N0 gn_aen
  replace sz0 : n0 ≤ h2.size := by rw [W2.size]; exact sz0
  replace E_o := E_o.wr W2
  replace F_o_setting := F_o_setting.other W2 (Or.inl ne_o_aen)
  replace F_o_frontier := F_o_frontier.other W2 (Or.inl ne_o_aen)
  replace F_o_frontierSpan := F_o_frontierSpan.other W2 (Or.inl ne_o_aen)
  replace F_o_count := F_o_count.other W2 (Or.inl ne_o_aen)
  replace F_o_room := F_o_room.other W2 (Or.inl ne_o_aen)
  replace F_o_starts := F_o_starts.other W2 (Or.inl ne_o_aen)
  replace F_o_ends := F_o_ends.other W2 (Or.inl ne_o_aen)
  replace F_o_spans := F_o_spans.other W2 (Or.inl ne_o_aen)
  replace F_o_maxima := F_o_maxima.other W2 (Or.inl ne_o_aen)
  replace A_ast := A_ast.other W2 ne_ast_aen
  replace A_asp := A_asp.other W2 (Ne.symm ne_aen_asp)
  replace A_amx := A_amx.other W2 (Ne.symm ne_aen_amx)
  replace K0 := K0.wr W2 (Or.inl (by simp))
  clear A_aen; have A_aen := B2
  refine Go.aloadN (pc' := 36) d9_35 rfl rfl rfl ?_
  refine Go.getF (pc' := 39) d9_36 rfl (hw _ w18) Via.refl F_o_spans ?_
  refine Go.aloadN (pc' := 40) d9_39 rfl rfl rfl ?_
  refine Go.getF (pc' := 43) d9_40 rfl (hw _ w38) Via.refl F_o_count ?_
  refine Go.iload (pc' := 45) d9_43 rfl rfl ?_
  refine Go.iastore (pc' := 46) (i := 1) (v := (.int sp1)) (vs' := [(.int sp0), (.int sp1), (.int (0 : Int32)), (.int (0 : Int32)), (.int (0 : Int32)), (.int (0 : Int32)), (.int (0 : Int32)), (.int (0 : Int32)), (.int (0 : Int32)), (.int (0 : Int32)), (.int (0 : Int32)), (.int (0 : Int32)), (.int (0 : Int32)), (.int (0 : Int32)), (.int (0 : Int32)), (.int (0 : Int32))]) d9_45 rfl A_asp (by decide) (Nat.le_of_ble_eq_true rfl) rfl rfl ?_
  intro h3 L3 NL3 W3 B3
  replace N0 := NL3 _ N0 gn_asp
  replace sz0 : n0 ≤ h3.size := by rw [W3.size]; exact sz0
  replace E_o := E_o.wr W3
  replace F_o_setting := F_o_setting.other W3 (Or.inl ne_o_asp)
  replace F_o_frontier := F_o_frontier.other W3 (Or.inl ne_o_asp)
  replace F_o_frontierSpan := F_o_frontierSpan.other W3 (Or.inl ne_o_asp)
  replace F_o_count := F_o_count.other W3 (Or.inl ne_o_asp)
  replace F_o_room := F_o_room.other W3 (Or.inl ne_o_asp)
  replace F_o_starts := F_o_starts.other W3 (Or.inl ne_o_asp)
  replace F_o_ends := F_o_ends.other W3 (Or.inl ne_o_asp)
  replace F_o_spans := F_o_spans.other W3 (Or.inl ne_o_asp)
  replace F_o_maxima := F_o_maxima.other W3 (Or.inl ne_o_asp)
  replace A_ast := A_ast.other W3 ne_ast_asp
  replace A_aen := A_aen.other W3 ne_aen_asp
  replace A_amx := A_amx.other W3 (Ne.symm ne_asp_amx)
  replace K0 := K0.wr W3 (Or.inl (by simp))
  clear A_asp; have A_asp := B3
  refine Go.lloadN (pc' := 47) d9_46 rfl rfl ?_
  refine Go.lloadN (pc' := 48) d9_47 rfl rfl ?_
  refine Go.lsub (pc' := 49) d9_48 rfl rfl ?_
  rw [hb]
  refine Go.lstore (pc' := 51) d9_49 rfl (Ls' := #[.val (.ref o), .val (.long st1), .second, .val (.long en1), .second, .val (.int sp1), .val (.long bd), .second, .unset]) rfl ?_
  refine Go.aloadN (pc' := 52) d9_51 rfl rfl rfl ?_
  refine Go.getF (pc' := 55) d9_52 rfl (hw _ w10) Via.refl F_o_room ?_
  refine Go.aloadN (pc' := 56) d9_55 rfl rfl rfl ?_
  refine Go.getF (pc' := 59) d9_56 rfl (hw _ w38) Via.refl F_o_count ?_
  refine Go.iadd (pc' := 60) d9_59 rfl (z := (17 : Int32)) (by decide) ?_
  refine Go.istore (pc' := 62) d9_60 rfl (Ls' := #[.val (.ref o), .val (.long st1), .second, .val (.long en1), .second, .val (.int sp1), .val (.long bd), .second, .val (.int (17 : Int32))]) rfl ?_
  refine Go.aloadN (pc' := 63) d9_62 rfl rfl rfl ?_
  refine Go.getF (pc' := 66) d9_63 rfl (hw _ w20) Via.refl F_o_maxima ?_
  refine Go.iload (pc' := 68) d9_66 rfl rfl ?_
  refine Go.lload (pc' := 70) d9_68 rfl rfl ?_
  refine Go.lastore (pc' := 71) (i := 17) (v := (.long bd)) (vs' := [(.long (0 : Int64)), (.long b1), (.long b1), (.long (0 : Int64)), (.long b1), (.long (0 : Int64)), (.long (0 : Int64)), (.long (0 : Int64)), (.long b1), (.long (0 : Int64)), (.long (0 : Int64)), (.long (0 : Int64)), (.long (0 : Int64)), (.long (0 : Int64)), (.long (0 : Int64)), (.long (0 : Int64)), (.long b1), (.long bd), (.long (0 : Int64)), (.long (0 : Int64)), (.long (0 : Int64)), (.long (0 : Int64)), (.long (0 : Int64)), (.long (0 : Int64)), (.long (0 : Int64)), (.long (0 : Int64)), (.long (0 : Int64)), (.long (0 : Int64)), (.long (0 : Int64)), (.long (0 : Int64)), (.long (0 : Int64)), (.long (0 : Int64))]) d9_70 rfl A_amx (by decide) (Nat.le_of_ble_eq_true rfl) rfl rfl ?_
  intro h4 L4 NL4 W4 B4
  replace N0 := NL4 _ N0 gn_amx
  replace sz0 : n0 ≤ h4.size := by rw [W4.size]; exact sz0
  replace E_o := E_o.wr W4
  replace F_o_setting := F_o_setting.other W4 (Or.inl ne_o_amx)
  replace F_o_frontier := F_o_frontier.other W4 (Or.inl ne_o_amx)
  replace F_o_frontierSpan := F_o_frontierSpan.other W4 (Or.inl ne_o_amx)
  replace F_o_count := F_o_count.other W4 (Or.inl ne_o_amx)
  replace F_o_room := F_o_room.other W4 (Or.inl ne_o_amx)
  replace F_o_starts := F_o_starts.other W4 (Or.inl ne_o_amx)
  replace F_o_ends := F_o_ends.other W4 (Or.inl ne_o_amx)
  replace F_o_spans := F_o_spans.other W4 (Or.inl ne_o_amx)
  replace F_o_maxima := F_o_maxima.other W4 (Or.inl ne_o_amx)
  replace A_ast := A_ast.other W4 ne_ast_amx
  replace A_aen := A_aen.other W4 ne_aen_amx
  replace A_asp := A_asp.other W4 ne_asp_amx
  replace K0 := K0.wr W4 (Or.inl (by simp))
  clear A_amx; have A_amx := B4
  refine Go.iload (pc' := 73) d9_71 rfl rfl ?_
  refine Go.iconst (pc' := 74) d9_73 rfl (z := (2 : Int32)) (by decide) ?_
  refine Go.idiv (pc' := 75) d9_74 rfl (by decide) (z := (8 : Int32)) (by decide) ?_
  refine Go.istore (pc' := 77) d9_75 rfl (Ls' := #[.val (.ref o), .val (.long st1), .second, .val (.long en1), .second, .val (.int sp1), .val (.long bd), .second, .val (.int (8 : Int32))]) rfl ?_
  refine Go.iload (pc' := 79) d9_77 rfl rfl ?_
  refine Go.iconst (pc' := 80) d9_79 rfl (z := (1 : Int32)) (by decide) ?_
  refine Go.icmpF (pc' := 83) (X := (8 : Int)) (Y := (1 : Int)) d9_80 rfl (by decide) (by decide) (by decide : ¬ (8 : Int) < (1 : Int)) ?_
  refine Go.aloadN (pc' := 84) d9_83 rfl rfl rfl ?_
  refine Go.getF (pc' := 87) d9_84 rfl (hw _ w20) Via.refl F_o_maxima ?_
  refine Go.iload (pc' := 89) d9_87 rfl rfl ?_
  refine Go.laload (pc' := 90) d9_89 rfl (i := 8) (v := (.long b1)) A_amx (by decide) rfl ?_
  refine Go.lload (pc' := 92) d9_90 rfl rfl ?_
  by_cases hc5 : b1.toInt < bd.toInt
  · refine Go.lcmpF (pc' := 96) (X := b1.toInt) (Y := bd.toInt) d9_92 d9_93 rfl rfl rfl rfl (hc5 : b1.toInt < bd.toInt) ?_
    refine Go.aloadN (pc' := 97) d9_96 rfl rfl rfl ?_
    refine Go.getF (pc' := 100) d9_97 rfl (hw _ w20) Via.refl F_o_maxima ?_
    refine Go.iload (pc' := 102) d9_100 rfl rfl ?_
    refine Go.lload (pc' := 104) d9_102 rfl rfl ?_
    refine Go.lastore (pc' := 105) (i := 8) (v := (.long bd)) (vs' := [(.long (0 : Int64)), (.long b1), (.long b1), (.long (0 : Int64)), (.long b1), (.long (0 : Int64)), (.long (0 : Int64)), (.long (0 : Int64)), (.long bd), (.long (0 : Int64)), (.long (0 : Int64)), (.long (0 : Int64)), (.long (0 : Int64)), (.long (0 : Int64)), (.long (0 : Int64)), (.long (0 : Int64)), (.long b1), (.long bd), (.long (0 : Int64)), (.long (0 : Int64)), (.long (0 : Int64)), (.long (0 : Int64)), (.long (0 : Int64)), (.long (0 : Int64)), (.long (0 : Int64)), (.long (0 : Int64)), (.long (0 : Int64)), (.long (0 : Int64)), (.long (0 : Int64)), (.long (0 : Int64)), (.long (0 : Int64)), (.long (0 : Int64))]) d9_104 rfl A_amx (by decide) (Nat.le_of_ble_eq_true rfl) rfl rfl ?_
    intro h6 L6 NL6 W6 B6
    replace N0 := NL6 _ N0 gn_amx
    replace sz0 : n0 ≤ h6.size := by rw [W6.size]; exact sz0
    replace E_o := E_o.wr W6
    replace F_o_setting := F_o_setting.other W6 (Or.inl ne_o_amx)
    replace F_o_frontier := F_o_frontier.other W6 (Or.inl ne_o_amx)
    replace F_o_frontierSpan := F_o_frontierSpan.other W6 (Or.inl ne_o_amx)
    replace F_o_count := F_o_count.other W6 (Or.inl ne_o_amx)
    replace F_o_room := F_o_room.other W6 (Or.inl ne_o_amx)
    replace F_o_starts := F_o_starts.other W6 (Or.inl ne_o_amx)
    replace F_o_ends := F_o_ends.other W6 (Or.inl ne_o_amx)
    replace F_o_spans := F_o_spans.other W6 (Or.inl ne_o_amx)
    replace F_o_maxima := F_o_maxima.other W6 (Or.inl ne_o_amx)
    replace A_ast := A_ast.other W6 ne_ast_amx
    replace A_aen := A_aen.other W6 ne_aen_amx
    replace A_asp := A_asp.other W6 ne_asp_amx
    replace K0 := K0.wr W6 (Or.inl (by simp))
    clear A_amx; have A_amx := B6
    refine Go.iload (pc' := 107) d9_105 rfl rfl ?_
    refine Go.iconst (pc' := 108) d9_107 rfl (z := (2 : Int32)) (by decide) ?_
    refine Go.idiv (pc' := 109) d9_108 rfl (by decide) (z := (4 : Int32)) (by decide) ?_
    refine Go.istore (pc' := 111) d9_109 rfl (Ls' := #[.val (.ref o), .val (.long st1), .second, .val (.long en1), .second, .val (.int sp1), .val (.long bd), .second, .val (.int (4 : Int32))]) rfl ?_
    refine Go.goto (pc' := 77) d9_111 (by decide) ?_
    refine Go.iload (pc' := 79) d9_77 rfl rfl ?_
    refine Go.iconst (pc' := 80) d9_79 rfl (z := (1 : Int32)) (by decide) ?_
    refine Go.icmpF (pc' := 83) (X := (4 : Int)) (Y := (1 : Int)) d9_80 rfl (by decide) (by decide) (by decide : ¬ (4 : Int) < (1 : Int)) ?_
    refine Go.aloadN (pc' := 84) d9_83 rfl rfl rfl ?_
    refine Go.getF (pc' := 87) d9_84 rfl (hw _ w20) Via.refl F_o_maxima ?_
    refine Go.iload (pc' := 89) d9_87 rfl rfl ?_
    refine Go.laload (pc' := 90) d9_89 rfl (i := 4) (v := (.long b1)) A_amx (by decide) rfl ?_
    refine Go.lload (pc' := 92) d9_90 rfl rfl ?_
    refine Go.lcmpF (pc' := 96) (X := b1.toInt) (Y := bd.toInt) d9_92 d9_93 rfl rfl rfl rfl (hc5 : b1.toInt < bd.toInt) ?_
    refine Go.aloadN (pc' := 97) d9_96 rfl rfl rfl ?_
    refine Go.getF (pc' := 100) d9_97 rfl (hw _ w20) Via.refl F_o_maxima ?_
    refine Go.iload (pc' := 102) d9_100 rfl rfl ?_
    refine Go.lload (pc' := 104) d9_102 rfl rfl ?_
    refine Go.lastore (pc' := 105) (i := 4) (v := (.long bd)) (vs' := [(.long (0 : Int64)), (.long b1), (.long b1), (.long (0 : Int64)), (.long bd), (.long (0 : Int64)), (.long (0 : Int64)), (.long (0 : Int64)), (.long bd), (.long (0 : Int64)), (.long (0 : Int64)), (.long (0 : Int64)), (.long (0 : Int64)), (.long (0 : Int64)), (.long (0 : Int64)), (.long (0 : Int64)), (.long b1), (.long bd), (.long (0 : Int64)), (.long (0 : Int64)), (.long (0 : Int64)), (.long (0 : Int64)), (.long (0 : Int64)), (.long (0 : Int64)), (.long (0 : Int64)), (.long (0 : Int64)), (.long (0 : Int64)), (.long (0 : Int64)), (.long (0 : Int64)), (.long (0 : Int64)), (.long (0 : Int64)), (.long (0 : Int64))]) d9_104 rfl A_amx (by decide) (Nat.le_of_ble_eq_true rfl) rfl rfl ?_
    intro h7 L7 NL7 W7 B7
    replace N0 := NL7 _ N0 gn_amx
    replace sz0 : n0 ≤ h7.size := by rw [W7.size]; exact sz0
    replace E_o := E_o.wr W7
    replace F_o_setting := F_o_setting.other W7 (Or.inl ne_o_amx)
    replace F_o_frontier := F_o_frontier.other W7 (Or.inl ne_o_amx)
    replace F_o_frontierSpan := F_o_frontierSpan.other W7 (Or.inl ne_o_amx)
    replace F_o_count := F_o_count.other W7 (Or.inl ne_o_amx)
    replace F_o_room := F_o_room.other W7 (Or.inl ne_o_amx)
    replace F_o_starts := F_o_starts.other W7 (Or.inl ne_o_amx)
    replace F_o_ends := F_o_ends.other W7 (Or.inl ne_o_amx)
    replace F_o_spans := F_o_spans.other W7 (Or.inl ne_o_amx)
    replace F_o_maxima := F_o_maxima.other W7 (Or.inl ne_o_amx)
    replace A_ast := A_ast.other W7 ne_ast_amx
    replace A_aen := A_aen.other W7 ne_aen_amx
    replace A_asp := A_asp.other W7 ne_asp_amx
    replace K0 := K0.wr W7 (Or.inl (by simp))
    clear A_amx; have A_amx := B7
    refine Go.iload (pc' := 107) d9_105 rfl rfl ?_
    refine Go.iconst (pc' := 108) d9_107 rfl (z := (2 : Int32)) (by decide) ?_
    refine Go.idiv (pc' := 109) d9_108 rfl (by decide) (z := (2 : Int32)) (by decide) ?_
    refine Go.istore (pc' := 111) d9_109 rfl (Ls' := #[.val (.ref o), .val (.long st1), .second, .val (.long en1), .second, .val (.int sp1), .val (.long bd), .second, .val (.int (2 : Int32))]) rfl ?_
    refine Go.goto (pc' := 77) d9_111 (by decide) ?_
    refine Go.iload (pc' := 79) d9_77 rfl rfl ?_
    refine Go.iconst (pc' := 80) d9_79 rfl (z := (1 : Int32)) (by decide) ?_
    refine Go.icmpF (pc' := 83) (X := (2 : Int)) (Y := (1 : Int)) d9_80 rfl (by decide) (by decide) (by decide : ¬ (2 : Int) < (1 : Int)) ?_
    refine Go.aloadN (pc' := 84) d9_83 rfl rfl rfl ?_
    refine Go.getF (pc' := 87) d9_84 rfl (hw _ w20) Via.refl F_o_maxima ?_
    refine Go.iload (pc' := 89) d9_87 rfl rfl ?_
    refine Go.laload (pc' := 90) d9_89 rfl (i := 2) (v := (.long b1)) A_amx (by decide) rfl ?_
    refine Go.lload (pc' := 92) d9_90 rfl rfl ?_
    refine Go.lcmpF (pc' := 96) (X := b1.toInt) (Y := bd.toInt) d9_92 d9_93 rfl rfl rfl rfl (hc5 : b1.toInt < bd.toInt) ?_
    refine Go.aloadN (pc' := 97) d9_96 rfl rfl rfl ?_
    refine Go.getF (pc' := 100) d9_97 rfl (hw _ w20) Via.refl F_o_maxima ?_
    refine Go.iload (pc' := 102) d9_100 rfl rfl ?_
    refine Go.lload (pc' := 104) d9_102 rfl rfl ?_
    refine Go.lastore (pc' := 105) (i := 2) (v := (.long bd)) (vs' := [(.long (0 : Int64)), (.long b1), (.long bd), (.long (0 : Int64)), (.long bd), (.long (0 : Int64)), (.long (0 : Int64)), (.long (0 : Int64)), (.long bd), (.long (0 : Int64)), (.long (0 : Int64)), (.long (0 : Int64)), (.long (0 : Int64)), (.long (0 : Int64)), (.long (0 : Int64)), (.long (0 : Int64)), (.long b1), (.long bd), (.long (0 : Int64)), (.long (0 : Int64)), (.long (0 : Int64)), (.long (0 : Int64)), (.long (0 : Int64)), (.long (0 : Int64)), (.long (0 : Int64)), (.long (0 : Int64)), (.long (0 : Int64)), (.long (0 : Int64)), (.long (0 : Int64)), (.long (0 : Int64)), (.long (0 : Int64)), (.long (0 : Int64))]) d9_104 rfl A_amx (by decide) (Nat.le_of_ble_eq_true rfl) rfl rfl ?_
    intro h8 L8 NL8 W8 B8
    replace N0 := NL8 _ N0 gn_amx
    replace sz0 : n0 ≤ h8.size := by rw [W8.size]; exact sz0
    replace E_o := E_o.wr W8
    replace F_o_setting := F_o_setting.other W8 (Or.inl ne_o_amx)
    replace F_o_frontier := F_o_frontier.other W8 (Or.inl ne_o_amx)
    replace F_o_frontierSpan := F_o_frontierSpan.other W8 (Or.inl ne_o_amx)
    replace F_o_count := F_o_count.other W8 (Or.inl ne_o_amx)
    replace F_o_room := F_o_room.other W8 (Or.inl ne_o_amx)
    replace F_o_starts := F_o_starts.other W8 (Or.inl ne_o_amx)
    replace F_o_ends := F_o_ends.other W8 (Or.inl ne_o_amx)
    replace F_o_spans := F_o_spans.other W8 (Or.inl ne_o_amx)
    replace F_o_maxima := F_o_maxima.other W8 (Or.inl ne_o_amx)
    replace A_ast := A_ast.other W8 ne_ast_amx
    replace A_aen := A_aen.other W8 ne_aen_amx
    replace A_asp := A_asp.other W8 ne_asp_amx
    replace K0 := K0.wr W8 (Or.inl (by simp))
    clear A_amx; have A_amx := B8
    refine Go.iload (pc' := 107) d9_105 rfl rfl ?_
    refine Go.iconst (pc' := 108) d9_107 rfl (z := (2 : Int32)) (by decide) ?_
    refine Go.idiv (pc' := 109) d9_108 rfl (by decide) (z := (1 : Int32)) (by decide) ?_
    refine Go.istore (pc' := 111) d9_109 rfl (Ls' := #[.val (.ref o), .val (.long st1), .second, .val (.long en1), .second, .val (.int sp1), .val (.long bd), .second, .val (.int (1 : Int32))]) rfl ?_
    refine Go.goto (pc' := 77) d9_111 (by decide) ?_
    refine Go.iload (pc' := 79) d9_77 rfl rfl ?_
    refine Go.iconst (pc' := 80) d9_79 rfl (z := (1 : Int32)) (by decide) ?_
    refine Go.icmpF (pc' := 83) (X := (1 : Int)) (Y := (1 : Int)) d9_80 rfl (by decide) (by decide) (by decide : ¬ (1 : Int) < (1 : Int)) ?_
    refine Go.aloadN (pc' := 84) d9_83 rfl rfl rfl ?_
    refine Go.getF (pc' := 87) d9_84 rfl (hw _ w20) Via.refl F_o_maxima ?_
    refine Go.iload (pc' := 89) d9_87 rfl rfl ?_
    refine Go.laload (pc' := 90) d9_89 rfl (i := 1) (v := (.long b1)) A_amx (by decide) rfl ?_
    refine Go.lload (pc' := 92) d9_90 rfl rfl ?_
    refine Go.lcmpF (pc' := 96) (X := b1.toInt) (Y := bd.toInt) d9_92 d9_93 rfl rfl rfl rfl (hc5 : b1.toInt < bd.toInt) ?_
    refine Go.aloadN (pc' := 97) d9_96 rfl rfl rfl ?_
    refine Go.getF (pc' := 100) d9_97 rfl (hw _ w20) Via.refl F_o_maxima ?_
    refine Go.iload (pc' := 102) d9_100 rfl rfl ?_
    refine Go.lload (pc' := 104) d9_102 rfl rfl ?_
    refine Go.lastore (pc' := 105) (i := 1) (v := (.long bd)) (vs' := [(.long (0 : Int64)), (.long bd), (.long bd), (.long (0 : Int64)), (.long bd), (.long (0 : Int64)), (.long (0 : Int64)), (.long (0 : Int64)), (.long bd), (.long (0 : Int64)), (.long (0 : Int64)), (.long (0 : Int64)), (.long (0 : Int64)), (.long (0 : Int64)), (.long (0 : Int64)), (.long (0 : Int64)), (.long b1), (.long bd), (.long (0 : Int64)), (.long (0 : Int64)), (.long (0 : Int64)), (.long (0 : Int64)), (.long (0 : Int64)), (.long (0 : Int64)), (.long (0 : Int64)), (.long (0 : Int64)), (.long (0 : Int64)), (.long (0 : Int64)), (.long (0 : Int64)), (.long (0 : Int64)), (.long (0 : Int64)), (.long (0 : Int64))]) d9_104 rfl A_amx (by decide) (Nat.le_of_ble_eq_true rfl) rfl rfl ?_
    intro h9 L9 NL9 W9 B9
    replace N0 := NL9 _ N0 gn_amx
    replace sz0 : n0 ≤ h9.size := by rw [W9.size]; exact sz0
    replace E_o := E_o.wr W9
    replace F_o_setting := F_o_setting.other W9 (Or.inl ne_o_amx)
    replace F_o_frontier := F_o_frontier.other W9 (Or.inl ne_o_amx)
    replace F_o_frontierSpan := F_o_frontierSpan.other W9 (Or.inl ne_o_amx)
    replace F_o_count := F_o_count.other W9 (Or.inl ne_o_amx)
    replace F_o_room := F_o_room.other W9 (Or.inl ne_o_amx)
    replace F_o_starts := F_o_starts.other W9 (Or.inl ne_o_amx)
    replace F_o_ends := F_o_ends.other W9 (Or.inl ne_o_amx)
    replace F_o_spans := F_o_spans.other W9 (Or.inl ne_o_amx)
    replace F_o_maxima := F_o_maxima.other W9 (Or.inl ne_o_amx)
    replace A_ast := A_ast.other W9 ne_ast_amx
    replace A_aen := A_aen.other W9 ne_aen_amx
    replace A_asp := A_asp.other W9 ne_asp_amx
    replace K0 := K0.wr W9 (Or.inl (by simp))
    clear A_amx; have A_amx := B9
    refine Go.iload (pc' := 107) d9_105 rfl rfl ?_
    refine Go.iconst (pc' := 108) d9_107 rfl (z := (2 : Int32)) (by decide) ?_
    refine Go.idiv (pc' := 109) d9_108 rfl (by decide) (z := (0 : Int32)) (by decide) ?_
    refine Go.istore (pc' := 111) d9_109 rfl (Ls' := #[.val (.ref o), .val (.long st1), .second, .val (.long en1), .second, .val (.int sp1), .val (.long bd), .second, .val (.int (0 : Int32))]) rfl ?_
    refine Go.goto (pc' := 77) d9_111 (by decide) ?_
    refine Go.iload (pc' := 79) d9_77 rfl rfl ?_
    refine Go.iconst (pc' := 80) d9_79 rfl (z := (1 : Int32)) (by decide) ?_
    refine Go.icmpT (pc' := 114) (X := (0 : Int)) (Y := (1 : Int)) d9_80 (by decide) (by decide) (by decide) (by decide : (0 : Int) < (1 : Int)) ?_
    refine Go.aloadN (pc' := 115) d9_114 rfl rfl rfl ?_
    refine Go.dup (pc' := 116) d9_115 rfl rfl ?_
    refine Go.getF (pc' := 119) d9_116 rfl (hw _ w38) Via.refl F_o_count ?_
    refine Go.iconst (pc' := 120) d9_119 rfl (z := (1 : Int32)) (by decide) ?_
    refine Go.iadd (pc' := 121) d9_120 rfl (z := (2 : Int32)) (by decide) ?_
    refine Go.putF (pc' := 124) d9_121 rfl (hw _ w38) Via.refl F_o_count E_o (Or.inl (hw _ w39)) (hw _ w2) (ty := .int) (by decide) rfl rfl ?_
    intro h10 L10 NL10 W10
    replace F_o_count := F_o_count.same W10
    replace N0 := NL10 _ N0 gn_o
    replace sz0 : n0 ≤ h10.size := by rw [W10.size]; exact sz0
    replace E_o := E_o.wr W10
    replace F_o_setting := F_o_setting.other W10 (Or.inr (slot_ne (Or.inl (hw _ w37)) (Or.inl (hw _ w39)) (by decide) (t := .long) (t' := .int) (by decide) (by decide)))
    replace F_o_frontier := F_o_frontier.other W10 (Or.inr (slot_ne (Or.inl (hw _ w28)) (Or.inl (hw _ w39)) (by decide) (t := .long) (t' := .int) (by decide) (by decide)))
    replace F_o_frontierSpan := F_o_frontierSpan.other W10 (Or.inr (slot_ne (Or.inl (hw _ w30)) (Or.inl (hw _ w39)) (by decide) (t := .int) (t' := .int) (by decide) (by decide)))
    replace F_o_room := F_o_room.other W10 (Or.inr (slot_ne (Or.inl (hw _ w11)) (Or.inl (hw _ w39)) (by decide) (t := .int) (t' := .int) (by decide) (by decide)))
    replace F_o_starts := F_o_starts.other W10 (Or.inr (slot_ne (Or.inl (hw _ w14)) (Or.inl (hw _ w39)) (by decide) (t := (.array .long)) (t' := .int) (by decide) (by decide)))
    replace F_o_ends := F_o_ends.other W10 (Or.inr (slot_ne (Or.inl (hw _ w16)) (Or.inl (hw _ w39)) (by decide) (t := (.array .long)) (t' := .int) (by decide) (by decide)))
    replace F_o_spans := F_o_spans.other W10 (Or.inr (slot_ne (Or.inl (hw _ w19)) (Or.inl (hw _ w39)) (by decide) (t := (.array .int)) (t' := .int) (by decide) (by decide)))
    replace F_o_maxima := F_o_maxima.other W10 (Or.inr (slot_ne (Or.inl (hw _ w21)) (Or.inl (hw _ w39)) (by decide) (t := (.array .long)) (t' := .int) (by decide) (by decide)))
    replace A_ast := A_ast.other W10 (Ne.symm ne_o_ast)
    replace A_aen := A_aen.other W10 (Ne.symm ne_o_aen)
    replace A_asp := A_asp.other W10 (Ne.symm ne_o_asp)
    replace A_amx := A_amx.other W10 (Ne.symm ne_o_amx)
    replace K0 := K0.wr W10 (Or.inl (by simp))
    refine Go.retV d9_124 rfl (by decide) (by decide) ?_
    exact ⟨bd, rfl, N0, K0, E_o, F_o_setting, F_o_frontier, F_o_frontierSpan, F_o_count, F_o_room, F_o_starts, F_o_ends, F_o_spans, F_o_maxima, A_ast, A_aen, A_asp, A_amx, by omega⟩
  · refine Go.lcmpT (pc' := 114) (X := b1.toInt) (Y := bd.toInt) d9_92 d9_93 rfl (by decide) rfl rfl (hc5 : ¬ b1.toInt < bd.toInt) ?_
    refine Go.aloadN (pc' := 115) d9_114 rfl rfl rfl ?_
    refine Go.dup (pc' := 116) d9_115 rfl rfl ?_
    refine Go.getF (pc' := 119) d9_116 rfl (hw _ w38) Via.refl F_o_count ?_
    refine Go.iconst (pc' := 120) d9_119 rfl (z := (1 : Int32)) (by decide) ?_
    refine Go.iadd (pc' := 121) d9_120 rfl (z := (2 : Int32)) (by decide) ?_
    refine Go.putF (pc' := 124) d9_121 rfl (hw _ w38) Via.refl F_o_count E_o (Or.inl (hw _ w39)) (hw _ w2) (ty := .int) (by decide) rfl rfl ?_
    intro h11 L11 NL11 W11
    replace F_o_count := F_o_count.same W11
    replace N0 := NL11 _ N0 gn_o
    replace sz0 : n0 ≤ h11.size := by rw [W11.size]; exact sz0
    replace E_o := E_o.wr W11
    replace F_o_setting := F_o_setting.other W11 (Or.inr (slot_ne (Or.inl (hw _ w37)) (Or.inl (hw _ w39)) (by decide) (t := .long) (t' := .int) (by decide) (by decide)))
    replace F_o_frontier := F_o_frontier.other W11 (Or.inr (slot_ne (Or.inl (hw _ w28)) (Or.inl (hw _ w39)) (by decide) (t := .long) (t' := .int) (by decide) (by decide)))
    replace F_o_frontierSpan := F_o_frontierSpan.other W11 (Or.inr (slot_ne (Or.inl (hw _ w30)) (Or.inl (hw _ w39)) (by decide) (t := .int) (t' := .int) (by decide) (by decide)))
    replace F_o_room := F_o_room.other W11 (Or.inr (slot_ne (Or.inl (hw _ w11)) (Or.inl (hw _ w39)) (by decide) (t := .int) (t' := .int) (by decide) (by decide)))
    replace F_o_starts := F_o_starts.other W11 (Or.inr (slot_ne (Or.inl (hw _ w14)) (Or.inl (hw _ w39)) (by decide) (t := (.array .long)) (t' := .int) (by decide) (by decide)))
    replace F_o_ends := F_o_ends.other W11 (Or.inr (slot_ne (Or.inl (hw _ w16)) (Or.inl (hw _ w39)) (by decide) (t := (.array .long)) (t' := .int) (by decide) (by decide)))
    replace F_o_spans := F_o_spans.other W11 (Or.inr (slot_ne (Or.inl (hw _ w19)) (Or.inl (hw _ w39)) (by decide) (t := (.array .int)) (t' := .int) (by decide) (by decide)))
    replace F_o_maxima := F_o_maxima.other W11 (Or.inr (slot_ne (Or.inl (hw _ w21)) (Or.inl (hw _ w39)) (by decide) (t := (.array .long)) (t' := .int) (by decide) (by decide)))
    replace A_ast := A_ast.other W11 (Ne.symm ne_o_ast)
    replace A_aen := A_aen.other W11 (Ne.symm ne_o_aen)
    replace A_asp := A_asp.other W11 (Ne.symm ne_o_asp)
    replace A_amx := A_amx.other W11 (Ne.symm ne_o_amx)
    replace K0 := K0.wr W11 (Or.inl (by simp))
    refine Go.retV d9_124 rfl (by decide) (by decide) ?_
    exact ⟨b1, rfl, N0, K0, E_o, F_o_setting, F_o_frontier, F_o_frontierSpan, F_o_count, F_o_room, F_o_starts, F_o_ends, F_o_spans, F_o_maxima, A_ast, A_aen, A_asp, A_amx, by omega⟩
set_option maxRecDepth 65536 in
set_option maxHeartbeats 40000000 in
theorem c_move {l : Launch} {Z : State} {a0 : Array Value} (hw : ∀ d ∈ tables_1, d.before a0 Z = true) {h0 : Heap} {n0 : Nat} (sz0 : n0 ≤ h0.size) (o ast aen asp amx : Addr) (se fr : Int64) (sp : Int32) (ct : Int32) (st0 st1 en0 en1 : Int64) (sp0 sp1 : Int32) (m1 m2 m4 m8 m16 m17 : Int64) (q : Int64) (t : Int32) (gn_o : n0 ≤ o) (gn_ast : n0 ≤ ast) (gn_aen : n0 ≤ aen) (gn_asp : n0 ≤ asp) (gn_amx : n0 ≤ amx) (ne_ast_aen : ast ≠ aen) (ne_ast_asp : ast ≠ asp) (ne_ast_amx : ast ≠ amx) (ne_aen_asp : aen ≠ asp) (ne_aen_amx : aen ≠ amx) (ne_asp_amx : asp ≠ amx) (E_o : Exa Z h0 o "com/example/rehearsal/rehearsal/policies/KnownRuns") (F_o_setting : Fld Z h0 o "com/example/rehearsal/rehearsal/policies/KnownRuns" "setting" "J" (.long se)) (F_o_frontier : Fld Z h0 o "com/example/rehearsal/rehearsal/policies/KnownRuns" "frontier" "J" (.long fr)) (F_o_frontierSpan : Fld Z h0 o "com/example/rehearsal/rehearsal/policies/KnownRuns" "frontierSpan" "I" (.int sp)) (F_o_count : Fld Z h0 o "com/example/rehearsal/rehearsal/policies/KnownRuns" "count" "I" (.int ct)) (F_o_room : Fld Z h0 o "com/example/rehearsal/rehearsal/policies/KnownRuns" "room" "I" (.int (16 : Int32))) (F_o_starts : Fld Z h0 o "com/example/rehearsal/rehearsal/policies/KnownRuns" "starts" "[J" (.ref ast)) (F_o_ends : Fld Z h0 o "com/example/rehearsal/rehearsal/policies/KnownRuns" "ends" "[J" (.ref aen)) (F_o_spans : Fld Z h0 o "com/example/rehearsal/rehearsal/policies/KnownRuns" "spans" "[I" (.ref asp)) (F_o_maxima : Fld Z h0 o "com/example/rehearsal/rehearsal/policies/KnownRuns" "maxima" "[J" (.ref amx)) (A_ast : Al Z h0 ast .long [(.long st0), (.long st1), (.long (0 : Int64)), (.long (0 : Int64)), (.long (0 : Int64)), (.long (0 : Int64)), (.long (0 : Int64)), (.long (0 : Int64)), (.long (0 : Int64)), (.long (0 : Int64)), (.long (0 : Int64)), (.long (0 : Int64)), (.long (0 : Int64)), (.long (0 : Int64)), (.long (0 : Int64)), (.long (0 : Int64))]) (A_aen : Al Z h0 aen .long [(.long en0), (.long en1), (.long (0 : Int64)), (.long (0 : Int64)), (.long (0 : Int64)), (.long (0 : Int64)), (.long (0 : Int64)), (.long (0 : Int64)), (.long (0 : Int64)), (.long (0 : Int64)), (.long (0 : Int64)), (.long (0 : Int64)), (.long (0 : Int64)), (.long (0 : Int64)), (.long (0 : Int64)), (.long (0 : Int64))]) (A_asp : Al Z h0 asp .int [(.int sp0), (.int sp1), (.int (0 : Int32)), (.int (0 : Int32)), (.int (0 : Int32)), (.int (0 : Int32)), (.int (0 : Int32)), (.int (0 : Int32)), (.int (0 : Int32)), (.int (0 : Int32)), (.int (0 : Int32)), (.int (0 : Int32)), (.int (0 : Int32)), (.int (0 : Int32)), (.int (0 : Int32)), (.int (0 : Int32))]) (A_amx : Al Z h0 amx .long [(.long (0 : Int64)), (.long m1), (.long m2), (.long (0 : Int64)), (.long m4), (.long (0 : Int64)), (.long (0 : Int64)), (.long (0 : Int64)), (.long m8), (.long (0 : Int64)), (.long (0 : Int64)), (.long (0 : Int64)), (.long (0 : Int64)), (.long (0 : Int64)), (.long (0 : Int64)), (.long (0 : Int64)), (.long m16), (.long m17), (.long (0 : Int64)), (.long (0 : Int64)), (.long (0 : Int64)), (.long (0 : Int64)), (.long (0 : Int64)), (.long (0 : Int64)), (.long (0 : Int64)), (.long (0 : Int64)), (.long (0 : Int64)), (.long (0 : Int64)), (.long (0 : Int64)), (.long (0 : Int64)), (.long (0 : Int64)), (.long (0 : Int64))]) : Con l Z (⟨"com/example/rehearsal/rehearsal/policies/KnownRuns", "moveFrontier", "(JI)V"⟩ : MethodName) prog_102_method_5_code 4 none ({ frames := 0, cells := 0, slots := 0, locals := 0 } : Room) [] #[(.ref o), (.long q), (.int t)] h0 (fun v h L => v = none ∧ Fr n0 L ∧ Keep h0 h [o] ∧ Exa Z h o "com/example/rehearsal/rehearsal/policies/KnownRuns" ∧ Fld Z h o "com/example/rehearsal/rehearsal/policies/KnownRuns" "setting" "J" (.long se) ∧ Fld Z h o "com/example/rehearsal/rehearsal/policies/KnownRuns" "frontier" "J" (.long q) ∧ Fld Z h o "com/example/rehearsal/rehearsal/policies/KnownRuns" "frontierSpan" "I" (.int t) ∧ Fld Z h o "com/example/rehearsal/rehearsal/policies/KnownRuns" "count" "I" (.int ct) ∧ Fld Z h o "com/example/rehearsal/rehearsal/policies/KnownRuns" "room" "I" (.int (16 : Int32)) ∧ Fld Z h o "com/example/rehearsal/rehearsal/policies/KnownRuns" "starts" "[J" (.ref ast) ∧ Fld Z h o "com/example/rehearsal/rehearsal/policies/KnownRuns" "ends" "[J" (.ref aen) ∧ Fld Z h o "com/example/rehearsal/rehearsal/policies/KnownRuns" "spans" "[I" (.ref asp) ∧ Fld Z h o "com/example/rehearsal/rehearsal/policies/KnownRuns" "maxima" "[J" (.ref amx)) := by
  refine con_of (Ls := #[.val (.ref o), .val (.long q), .second, .val (.int t)]) (plainFor_of_name (by first | (simp [plainName, overriddenIn]; done) | decide +kernel)) (fun m => by first | (simp [entryFrame, mkF, argsToLocals, Value.category]; done) | rfl) ?_
  have N0 : Fr n0 [] := Fr.nil _
  have K0 : Keep h0 h0 [o] := Keep.refl _ _
  have ne_o_ast : o ≠ ast := ne_al E_o (hw _ w2) A_ast
  have ne_o_aen : o ≠ aen := ne_al E_o (hw _ w2) A_aen
  have ne_o_asp : o ≠ asp := ne_al E_o (hw _ w2) A_asp
  have ne_o_amx : o ≠ amx := ne_al E_o (hw _ w2) A_amx
  refine Go.aloadN (pc' := 1) d3_0 rfl rfl rfl ?_
  refine Go.lloadN (pc' := 2) d3_1 rfl rfl ?_
  refine Go.putF (pc' := 5) d3_2 rfl (hw _ w27) Via.refl F_o_frontier E_o (Or.inl (hw _ w28)) (hw _ w2) (ty := .long) (by decide) rfl rfl ?_
  intro h1 L1 NL1 W1
  replace F_o_frontier := F_o_frontier.same W1
  replace N0 := NL1 _ N0 gn_o
  replace sz0 : n0 ≤ h1.size := by rw [W1.size]; exact sz0
  replace E_o := E_o.wr W1
  replace F_o_setting := F_o_setting.other W1 (Or.inr (slot_ne (Or.inl (hw _ w37)) (Or.inl (hw _ w28)) (by decide) (t := .long) (t' := .long) (by decide) (by decide)))
  replace F_o_frontierSpan := F_o_frontierSpan.other W1 (Or.inr (slot_ne (Or.inl (hw _ w30)) (Or.inl (hw _ w28)) (by decide) (t := .int) (t' := .long) (by decide) (by decide)))
  replace F_o_count := F_o_count.other W1 (Or.inr (slot_ne (Or.inl (hw _ w39)) (Or.inl (hw _ w28)) (by decide) (t := .int) (t' := .long) (by decide) (by decide)))
  replace F_o_room := F_o_room.other W1 (Or.inr (slot_ne (Or.inl (hw _ w11)) (Or.inl (hw _ w28)) (by decide) (t := .int) (t' := .long) (by decide) (by decide)))
  replace F_o_starts := F_o_starts.other W1 (Or.inr (slot_ne (Or.inl (hw _ w14)) (Or.inl (hw _ w28)) (by decide) (t := (.array .long)) (t' := .long) (by decide) (by decide)))
  replace F_o_ends := F_o_ends.other W1 (Or.inr (slot_ne (Or.inl (hw _ w16)) (Or.inl (hw _ w28)) (by decide) (t := (.array .long)) (t' := .long) (by decide) (by decide)))
  replace F_o_spans := F_o_spans.other W1 (Or.inr (slot_ne (Or.inl (hw _ w19)) (Or.inl (hw _ w28)) (by decide) (t := (.array .int)) (t' := .long) (by decide) (by decide)))
  replace F_o_maxima := F_o_maxima.other W1 (Or.inr (slot_ne (Or.inl (hw _ w21)) (Or.inl (hw _ w28)) (by decide) (t := (.array .long)) (t' := .long) (by decide) (by decide)))
  replace A_ast := A_ast.other W1 (Ne.symm ne_o_ast)
  replace A_aen := A_aen.other W1 (Ne.symm ne_o_aen)
  replace A_asp := A_asp.other W1 (Ne.symm ne_o_asp)
  replace A_amx := A_amx.other W1 (Ne.symm ne_o_amx)
  replace K0 := K0.wr W1 (Or.inl (by simp))
  refine Go.aloadN (pc' := 6) d3_5 rfl rfl rfl ?_
  refine Go.iloadN (pc' := 7) d3_6 rfl rfl ?_
  refine Go.putF (pc' := 10) d3_7 rfl (hw _ w29) Via.refl F_o_frontierSpan E_o (Or.inl (hw _ w30)) (hw _ w2) (ty := .int) (by decide) rfl rfl ?_
  intro h2 L2 NL2 W2
  replace F_o_frontierSpan := F_o_frontierSpan.same W2
  replace N0 := NL2 _ N0 gn_o
  replace sz0 : n0 ≤ h2.size := by rw [W2.size]; exact sz0
  replace E_o := E_o.wr W2
  replace F_o_setting := F_o_setting.other W2 (Or.inr (slot_ne (Or.inl (hw _ w37)) (Or.inl (hw _ w30)) (by decide) (t := .long) (t' := .int) (by decide) (by decide)))
  replace F_o_frontier := F_o_frontier.other W2 (Or.inr (slot_ne (Or.inl (hw _ w28)) (Or.inl (hw _ w30)) (by decide) (t := .long) (t' := .int) (by decide) (by decide)))
  replace F_o_count := F_o_count.other W2 (Or.inr (slot_ne (Or.inl (hw _ w39)) (Or.inl (hw _ w30)) (by decide) (t := .int) (t' := .int) (by decide) (by decide)))
  replace F_o_room := F_o_room.other W2 (Or.inr (slot_ne (Or.inl (hw _ w11)) (Or.inl (hw _ w30)) (by decide) (t := .int) (t' := .int) (by decide) (by decide)))
  replace F_o_starts := F_o_starts.other W2 (Or.inr (slot_ne (Or.inl (hw _ w14)) (Or.inl (hw _ w30)) (by decide) (t := (.array .long)) (t' := .int) (by decide) (by decide)))
  replace F_o_ends := F_o_ends.other W2 (Or.inr (slot_ne (Or.inl (hw _ w16)) (Or.inl (hw _ w30)) (by decide) (t := (.array .long)) (t' := .int) (by decide) (by decide)))
  replace F_o_spans := F_o_spans.other W2 (Or.inr (slot_ne (Or.inl (hw _ w19)) (Or.inl (hw _ w30)) (by decide) (t := (.array .int)) (t' := .int) (by decide) (by decide)))
  replace F_o_maxima := F_o_maxima.other W2 (Or.inr (slot_ne (Or.inl (hw _ w21)) (Or.inl (hw _ w30)) (by decide) (t := (.array .long)) (t' := .int) (by decide) (by decide)))
  replace A_ast := A_ast.other W2 (Ne.symm ne_o_ast)
  replace A_aen := A_aen.other W2 (Ne.symm ne_o_aen)
  replace A_asp := A_asp.other W2 (Ne.symm ne_o_asp)
  replace A_amx := A_amx.other W2 (Ne.symm ne_o_amx)
  replace K0 := K0.wr W2 (Or.inl (by simp))
  refine Go.retV d3_10 rfl (by decide) (by decide) ?_
  exact ⟨rfl, N0, K0, E_o, F_o_setting, F_o_frontier, F_o_frontierSpan, F_o_count, F_o_room, F_o_starts, F_o_ends, F_o_spans, F_o_maxima⟩
set_option maxRecDepth 65536 in
set_option maxHeartbeats 40000000 in
theorem c_keq {l : Launch} {Z : State} {a0 : Array Value} (hw : ∀ d ∈ tables_1, d.before a0 Z = true) {h0 : Heap} (o ast aen asp amx : Addr) (se fr : Int64) (sp : Int32) (ct : Int32) (st0 st1 en0 en1 : Int64) (sp0 sp1 : Int32) (m1 m2 m4 m8 m16 m17 : Int64) (q : Int64) (ne_ast_aen : ast ≠ aen) (ne_ast_asp : ast ≠ asp) (ne_ast_amx : ast ≠ amx) (ne_aen_asp : aen ≠ asp) (ne_aen_amx : aen ≠ amx) (ne_asp_amx : asp ≠ amx) (E_o : Exa Z h0 o "com/example/rehearsal/rehearsal/policies/KnownRuns") (F_o_setting : Fld Z h0 o "com/example/rehearsal/rehearsal/policies/KnownRuns" "setting" "J" (.long se)) (F_o_frontier : Fld Z h0 o "com/example/rehearsal/rehearsal/policies/KnownRuns" "frontier" "J" (.long fr)) (F_o_frontierSpan : Fld Z h0 o "com/example/rehearsal/rehearsal/policies/KnownRuns" "frontierSpan" "I" (.int sp)) (F_o_count : Fld Z h0 o "com/example/rehearsal/rehearsal/policies/KnownRuns" "count" "I" (.int ct)) (F_o_room : Fld Z h0 o "com/example/rehearsal/rehearsal/policies/KnownRuns" "room" "I" (.int (16 : Int32))) (F_o_starts : Fld Z h0 o "com/example/rehearsal/rehearsal/policies/KnownRuns" "starts" "[J" (.ref ast)) (F_o_ends : Fld Z h0 o "com/example/rehearsal/rehearsal/policies/KnownRuns" "ends" "[J" (.ref aen)) (F_o_spans : Fld Z h0 o "com/example/rehearsal/rehearsal/policies/KnownRuns" "spans" "[I" (.ref asp)) (F_o_maxima : Fld Z h0 o "com/example/rehearsal/rehearsal/policies/KnownRuns" "maxima" "[J" (.ref amx)) (A_ast : Al Z h0 ast .long [(.long st0), (.long st1), (.long (0 : Int64)), (.long (0 : Int64)), (.long (0 : Int64)), (.long (0 : Int64)), (.long (0 : Int64)), (.long (0 : Int64)), (.long (0 : Int64)), (.long (0 : Int64)), (.long (0 : Int64)), (.long (0 : Int64)), (.long (0 : Int64)), (.long (0 : Int64)), (.long (0 : Int64)), (.long (0 : Int64))]) (A_aen : Al Z h0 aen .long [(.long en0), (.long en1), (.long (0 : Int64)), (.long (0 : Int64)), (.long (0 : Int64)), (.long (0 : Int64)), (.long (0 : Int64)), (.long (0 : Int64)), (.long (0 : Int64)), (.long (0 : Int64)), (.long (0 : Int64)), (.long (0 : Int64)), (.long (0 : Int64)), (.long (0 : Int64)), (.long (0 : Int64)), (.long (0 : Int64))]) (A_asp : Al Z h0 asp .int [(.int sp0), (.int sp1), (.int (0 : Int32)), (.int (0 : Int32)), (.int (0 : Int32)), (.int (0 : Int32)), (.int (0 : Int32)), (.int (0 : Int32)), (.int (0 : Int32)), (.int (0 : Int32)), (.int (0 : Int32)), (.int (0 : Int32)), (.int (0 : Int32)), (.int (0 : Int32)), (.int (0 : Int32)), (.int (0 : Int32))]) (A_amx : Al Z h0 amx .long [(.long (0 : Int64)), (.long m1), (.long m2), (.long (0 : Int64)), (.long m4), (.long (0 : Int64)), (.long (0 : Int64)), (.long (0 : Int64)), (.long m8), (.long (0 : Int64)), (.long (0 : Int64)), (.long (0 : Int64)), (.long (0 : Int64)), (.long (0 : Int64)), (.long (0 : Int64)), (.long (0 : Int64)), (.long m16), (.long m17), (.long (0 : Int64)), (.long (0 : Int64)), (.long (0 : Int64)), (.long (0 : Int64)), (.long (0 : Int64)), (.long (0 : Int64)), (.long (0 : Int64)), (.long (0 : Int64)), (.long (0 : Int64)), (.long (0 : Int64)), (.long (0 : Int64)), (.long (0 : Int64)), (.long (0 : Int64)), (.long (0 : Int64))]) (hq : se.toInt = q.toInt) : Con l Z (⟨"com/example/rehearsal/rehearsal/policies/KnownRuns", "keepTo", "(J)V"⟩ : MethodName) prog_102_method_2_code 5 none ({ frames := 0, cells := 0, slots := 0, locals := 0 } : Room) [] #[(.ref o), (.long q)] h0 (PQ h0 none) := by
  refine con_of (Ls := #[.val (.ref o), .val (.long q), .second, .unset, .unset]) (plainFor_of_name (by first | (simp [plainName, overriddenIn]; done) | decide +kernel)) (fun m => by first | (simp [entryFrame, mkF, argsToLocals, Value.category]; done) | rfl) ?_
  have ne_o_ast : o ≠ ast := ne_al E_o (hw _ w2) A_ast
  have ne_o_aen : o ≠ aen := ne_al E_o (hw _ w2) A_aen
  have ne_o_asp : o ≠ asp := ne_al E_o (hw _ w2) A_asp
  have ne_o_amx : o ≠ amx := ne_al E_o (hw _ w2) A_amx
  refine Go.aloadN (pc' := 1) d4_0 rfl rfl rfl ?_
  refine Go.getF (pc' := 4) d4_1 rfl (hw _ w36) Via.refl F_o_setting ?_
  refine Go.lloadN (pc' := 5) d4_4 rfl rfl ?_
  refine Go.lcmpF (pc' := 9) (X := se.toInt) (Y := q.toInt) d4_5 d4_6 rfl rfl rfl rfl (hq : se.toInt = q.toInt) ?_
  refine Go.retV d4_9 rfl (by decide) (by decide) ?_
  exact ⟨rfl, rfl, rfl⟩
set_option maxRecDepth 65536 in
set_option maxHeartbeats 40000000 in
theorem c_kne0 {l : Launch} {Z : State} {a0 : Array Value} (hw : ∀ d ∈ tables_1, d.before a0 Z = true) {h0 : Heap} {n0 : Nat} (sz0 : n0 ≤ h0.size) (o ast aen asp amx : Addr) (se fr : Int64) (sp : Int32) (st0 st1 en0 en1 : Int64) (sp0 sp1 : Int32) (q : Int64) (hq : ¬ se.toInt = q.toInt) (gn_o : n0 ≤ o) (gn_ast : n0 ≤ ast) (gn_aen : n0 ≤ aen) (gn_asp : n0 ≤ asp) (gn_amx : n0 ≤ amx) (ne_ast_aen : ast ≠ aen) (ne_ast_asp : ast ≠ asp) (ne_ast_amx : ast ≠ amx) (ne_aen_asp : aen ≠ asp) (ne_aen_amx : aen ≠ amx) (ne_asp_amx : asp ≠ amx) (E_o : Exa Z h0 o "com/example/rehearsal/rehearsal/policies/KnownRuns") (F_o_setting : Fld Z h0 o "com/example/rehearsal/rehearsal/policies/KnownRuns" "setting" "J" (.long se)) (F_o_frontier : Fld Z h0 o "com/example/rehearsal/rehearsal/policies/KnownRuns" "frontier" "J" (.long fr)) (F_o_frontierSpan : Fld Z h0 o "com/example/rehearsal/rehearsal/policies/KnownRuns" "frontierSpan" "I" (.int sp)) (F_o_count : Fld Z h0 o "com/example/rehearsal/rehearsal/policies/KnownRuns" "count" "I" (.int (0 : Int32))) (F_o_room : Fld Z h0 o "com/example/rehearsal/rehearsal/policies/KnownRuns" "room" "I" (.int (16 : Int32))) (F_o_starts : Fld Z h0 o "com/example/rehearsal/rehearsal/policies/KnownRuns" "starts" "[J" (.ref ast)) (F_o_ends : Fld Z h0 o "com/example/rehearsal/rehearsal/policies/KnownRuns" "ends" "[J" (.ref aen)) (F_o_spans : Fld Z h0 o "com/example/rehearsal/rehearsal/policies/KnownRuns" "spans" "[I" (.ref asp)) (F_o_maxima : Fld Z h0 o "com/example/rehearsal/rehearsal/policies/KnownRuns" "maxima" "[J" (.ref amx)) (A_ast : Al Z h0 ast .long [(.long st0), (.long st1), (.long (0 : Int64)), (.long (0 : Int64)), (.long (0 : Int64)), (.long (0 : Int64)), (.long (0 : Int64)), (.long (0 : Int64)), (.long (0 : Int64)), (.long (0 : Int64)), (.long (0 : Int64)), (.long (0 : Int64)), (.long (0 : Int64)), (.long (0 : Int64)), (.long (0 : Int64)), (.long (0 : Int64))]) (A_aen : Al Z h0 aen .long [(.long en0), (.long en1), (.long (0 : Int64)), (.long (0 : Int64)), (.long (0 : Int64)), (.long (0 : Int64)), (.long (0 : Int64)), (.long (0 : Int64)), (.long (0 : Int64)), (.long (0 : Int64)), (.long (0 : Int64)), (.long (0 : Int64)), (.long (0 : Int64)), (.long (0 : Int64)), (.long (0 : Int64)), (.long (0 : Int64))]) (A_asp : Al Z h0 asp .int [(.int sp0), (.int sp1), (.int (0 : Int32)), (.int (0 : Int32)), (.int (0 : Int32)), (.int (0 : Int32)), (.int (0 : Int32)), (.int (0 : Int32)), (.int (0 : Int32)), (.int (0 : Int32)), (.int (0 : Int32)), (.int (0 : Int32)), (.int (0 : Int32)), (.int (0 : Int32)), (.int (0 : Int32)), (.int (0 : Int32))]) (A_amx : Al Z h0 amx .long [(.long (0 : Int64)), (.long (0 : Int64)), (.long (0 : Int64)), (.long (0 : Int64)), (.long (0 : Int64)), (.long (0 : Int64)), (.long (0 : Int64)), (.long (0 : Int64)), (.long (0 : Int64)), (.long (0 : Int64)), (.long (0 : Int64)), (.long (0 : Int64)), (.long (0 : Int64)), (.long (0 : Int64)), (.long (0 : Int64)), (.long (0 : Int64)), (.long (0 : Int64)), (.long (0 : Int64)), (.long (0 : Int64)), (.long (0 : Int64)), (.long (0 : Int64)), (.long (0 : Int64)), (.long (0 : Int64)), (.long (0 : Int64)), (.long (0 : Int64)), (.long (0 : Int64)), (.long (0 : Int64)), (.long (0 : Int64)), (.long (0 : Int64)), (.long (0 : Int64)), (.long (0 : Int64)), (.long (0 : Int64))]) : Con l Z (⟨"com/example/rehearsal/rehearsal/policies/KnownRuns", "keepTo", "(J)V"⟩ : MethodName) prog_102_method_2_code 5 none ({ frames := 0, cells := 0, slots := 0, locals := 0 } : Room) [] #[(.ref o), (.long q)] h0 (fun v h L => v = none ∧ Fr n0 L ∧ Keep h0 h [o, amx] ∧ Exa Z h o "com/example/rehearsal/rehearsal/policies/KnownRuns" ∧ Fld Z h o "com/example/rehearsal/rehearsal/policies/KnownRuns" "setting" "J" (.long q) ∧ Fld Z h o "com/example/rehearsal/rehearsal/policies/KnownRuns" "frontier" "J" (.long (0 : Int64)) ∧ Fld Z h o "com/example/rehearsal/rehearsal/policies/KnownRuns" "frontierSpan" "I" (.int (0 : Int32)) ∧ Fld Z h o "com/example/rehearsal/rehearsal/policies/KnownRuns" "count" "I" (.int (0 : Int32)) ∧ Fld Z h o "com/example/rehearsal/rehearsal/policies/KnownRuns" "room" "I" (.int (16 : Int32)) ∧ Fld Z h o "com/example/rehearsal/rehearsal/policies/KnownRuns" "starts" "[J" (.ref ast) ∧ Fld Z h o "com/example/rehearsal/rehearsal/policies/KnownRuns" "ends" "[J" (.ref aen) ∧ Fld Z h o "com/example/rehearsal/rehearsal/policies/KnownRuns" "spans" "[I" (.ref asp) ∧ Fld Z h o "com/example/rehearsal/rehearsal/policies/KnownRuns" "maxima" "[J" (.ref amx) ∧ Al Z h amx .long [(.long (0 : Int64)), (.long (0 : Int64)), (.long (0 : Int64)), (.long (0 : Int64)), (.long (0 : Int64)), (.long (0 : Int64)), (.long (0 : Int64)), (.long (0 : Int64)), (.long (0 : Int64)), (.long (0 : Int64)), (.long (0 : Int64)), (.long (0 : Int64)), (.long (0 : Int64)), (.long (0 : Int64)), (.long (0 : Int64)), (.long (0 : Int64)), (.long (0 : Int64)), (.long (0 : Int64)), (.long (0 : Int64)), (.long (0 : Int64)), (.long (0 : Int64)), (.long (0 : Int64)), (.long (0 : Int64)), (.long (0 : Int64)), (.long (0 : Int64)), (.long (0 : Int64)), (.long (0 : Int64)), (.long (0 : Int64)), (.long (0 : Int64)), (.long (0 : Int64)), (.long (0 : Int64)), (.long (0 : Int64))]) := by
  refine con_of (Ls := #[.val (.ref o), .val (.long q), .second, .unset, .unset]) (plainFor_of_name (by first | (simp [plainName, overriddenIn]; done) | decide +kernel)) (fun m => by first | (simp [entryFrame, mkF, argsToLocals, Value.category]; done) | rfl) ?_
  have N0 : Fr n0 [] := Fr.nil _
  have K0 : Keep h0 h0 [o, amx] := Keep.refl _ _
  have ne_o_ast : o ≠ ast := ne_al E_o (hw _ w2) A_ast
  have ne_o_aen : o ≠ aen := ne_al E_o (hw _ w2) A_aen
  have ne_o_asp : o ≠ asp := ne_al E_o (hw _ w2) A_asp
  have ne_o_amx : o ≠ amx := ne_al E_o (hw _ w2) A_amx
  refine Go.aloadN (pc' := 1) d4_0 rfl rfl rfl ?_
  refine Go.getF (pc' := 4) d4_1 rfl (hw _ w36) Via.refl F_o_setting ?_
  refine Go.lloadN (pc' := 5) d4_4 rfl rfl ?_
  refine Go.lcmpT (pc' := 10) (X := se.toInt) (Y := q.toInt) d4_5 d4_6 rfl (by decide) rfl rfl (hq : ¬ se.toInt = q.toInt) ?_
  refine Go.iconst (pc' := 11) d4_10 rfl (z := (0 : Int32)) (by decide) ?_
  refine Go.istoreN (pc' := 12) d4_11 rfl (Ls' := #[.val (.ref o), .val (.long q), .second, .val (.int (0 : Int32)), .unset]) rfl ?_
  refine Go.iloadN (pc' := 13) d4_12 rfl rfl ?_
  refine Go.aloadN (pc' := 14) d4_13 rfl rfl rfl ?_
  refine Go.getF (pc' := 17) d4_14 rfl (hw _ w38) Via.refl F_o_count ?_
  refine Go.icmpT (pc' := 69) (X := (0 : Int)) (Y := (0 : Int)) d4_17 (by decide) (by decide) (by decide) (by decide : ¬ (0 : Int) < (0 : Int)) ?_
  refine Go.aloadN (pc' := 70) d4_69 rfl rfl rfl ?_
  refine Go.lloadN (pc' := 71) d4_70 rfl rfl ?_
  refine Go.putF (pc' := 74) d4_71 rfl (hw _ w36) Via.refl F_o_setting E_o (Or.inl (hw _ w37)) (hw _ w2) (ty := .long) (by decide) rfl rfl ?_
  intro h1 L1 NL1 W1
  replace F_o_setting := F_o_setting.same W1
  replace N0 := NL1 _ N0 gn_o
  replace sz0 : n0 ≤ h1.size := by rw [W1.size]; exact sz0
  replace E_o := E_o.wr W1
  replace F_o_frontier := F_o_frontier.other W1 (Or.inr (slot_ne (Or.inl (hw _ w28)) (Or.inl (hw _ w37)) (by decide) (t := .long) (t' := .long) (by decide) (by decide)))
  replace F_o_frontierSpan := F_o_frontierSpan.other W1 (Or.inr (slot_ne (Or.inl (hw _ w30)) (Or.inl (hw _ w37)) (by decide) (t := .int) (t' := .long) (by decide) (by decide)))
  replace F_o_count := F_o_count.other W1 (Or.inr (slot_ne (Or.inl (hw _ w39)) (Or.inl (hw _ w37)) (by decide) (t := .int) (t' := .long) (by decide) (by decide)))
  replace F_o_room := F_o_room.other W1 (Or.inr (slot_ne (Or.inl (hw _ w11)) (Or.inl (hw _ w37)) (by decide) (t := .int) (t' := .long) (by decide) (by decide)))
  replace F_o_starts := F_o_starts.other W1 (Or.inr (slot_ne (Or.inl (hw _ w14)) (Or.inl (hw _ w37)) (by decide) (t := (.array .long)) (t' := .long) (by decide) (by decide)))
  replace F_o_ends := F_o_ends.other W1 (Or.inr (slot_ne (Or.inl (hw _ w16)) (Or.inl (hw _ w37)) (by decide) (t := (.array .long)) (t' := .long) (by decide) (by decide)))
  replace F_o_spans := F_o_spans.other W1 (Or.inr (slot_ne (Or.inl (hw _ w19)) (Or.inl (hw _ w37)) (by decide) (t := (.array .int)) (t' := .long) (by decide) (by decide)))
  replace F_o_maxima := F_o_maxima.other W1 (Or.inr (slot_ne (Or.inl (hw _ w21)) (Or.inl (hw _ w37)) (by decide) (t := (.array .long)) (t' := .long) (by decide) (by decide)))
  replace A_ast := A_ast.other W1 (Ne.symm ne_o_ast)
  replace A_aen := A_aen.other W1 (Ne.symm ne_o_aen)
  replace A_asp := A_asp.other W1 (Ne.symm ne_o_asp)
  replace A_amx := A_amx.other W1 (Ne.symm ne_o_amx)
  replace K0 := K0.wr W1 (Or.inl (by simp))
  refine Go.aloadN (pc' := 75) d4_74 rfl rfl rfl ?_
  refine Go.lconst (pc' := 76) d4_75 rfl (z := (0 : Int64)) (by decide) ?_
  refine Go.putF (pc' := 79) d4_76 rfl (hw _ w27) Via.refl F_o_frontier E_o (Or.inl (hw _ w28)) (hw _ w2) (ty := .long) (by decide) rfl rfl ?_
  intro h2 L2 NL2 W2
  replace F_o_frontier := F_o_frontier.same W2
  replace N0 := NL2 _ N0 gn_o
  replace sz0 : n0 ≤ h2.size := by rw [W2.size]; exact sz0
  replace E_o := E_o.wr W2
  replace F_o_setting := F_o_setting.other W2 (Or.inr (slot_ne (Or.inl (hw _ w37)) (Or.inl (hw _ w28)) (by decide) (t := .long) (t' := .long) (by decide) (by decide)))
  replace F_o_frontierSpan := F_o_frontierSpan.other W2 (Or.inr (slot_ne (Or.inl (hw _ w30)) (Or.inl (hw _ w28)) (by decide) (t := .int) (t' := .long) (by decide) (by decide)))
  replace F_o_count := F_o_count.other W2 (Or.inr (slot_ne (Or.inl (hw _ w39)) (Or.inl (hw _ w28)) (by decide) (t := .int) (t' := .long) (by decide) (by decide)))
  replace F_o_room := F_o_room.other W2 (Or.inr (slot_ne (Or.inl (hw _ w11)) (Or.inl (hw _ w28)) (by decide) (t := .int) (t' := .long) (by decide) (by decide)))
  replace F_o_starts := F_o_starts.other W2 (Or.inr (slot_ne (Or.inl (hw _ w14)) (Or.inl (hw _ w28)) (by decide) (t := (.array .long)) (t' := .long) (by decide) (by decide)))
  replace F_o_ends := F_o_ends.other W2 (Or.inr (slot_ne (Or.inl (hw _ w16)) (Or.inl (hw _ w28)) (by decide) (t := (.array .long)) (t' := .long) (by decide) (by decide)))
  replace F_o_spans := F_o_spans.other W2 (Or.inr (slot_ne (Or.inl (hw _ w19)) (Or.inl (hw _ w28)) (by decide) (t := (.array .int)) (t' := .long) (by decide) (by decide)))
  replace F_o_maxima := F_o_maxima.other W2 (Or.inr (slot_ne (Or.inl (hw _ w21)) (Or.inl (hw _ w28)) (by decide) (t := (.array .long)) (t' := .long) (by decide) (by decide)))
  replace A_ast := A_ast.other W2 (Ne.symm ne_o_ast)
  replace A_aen := A_aen.other W2 (Ne.symm ne_o_aen)
  replace A_asp := A_asp.other W2 (Ne.symm ne_o_asp)
  replace A_amx := A_amx.other W2 (Ne.symm ne_o_amx)
  replace K0 := K0.wr W2 (Or.inl (by simp))
  refine Go.aloadN (pc' := 80) d4_79 rfl rfl rfl ?_
  refine Go.iconst (pc' := 81) d4_80 rfl (z := (0 : Int32)) (by decide) ?_
  refine Go.putF (pc' := 84) d4_81 rfl (hw _ w29) Via.refl F_o_frontierSpan E_o (Or.inl (hw _ w30)) (hw _ w2) (ty := .int) (by decide) rfl rfl ?_
  intro h3 L3 NL3 W3
  replace F_o_frontierSpan := F_o_frontierSpan.same W3
  replace N0 := NL3 _ N0 gn_o
  replace sz0 : n0 ≤ h3.size := by rw [W3.size]; exact sz0
  replace E_o := E_o.wr W3
  replace F_o_setting := F_o_setting.other W3 (Or.inr (slot_ne (Or.inl (hw _ w37)) (Or.inl (hw _ w30)) (by decide) (t := .long) (t' := .int) (by decide) (by decide)))
  replace F_o_frontier := F_o_frontier.other W3 (Or.inr (slot_ne (Or.inl (hw _ w28)) (Or.inl (hw _ w30)) (by decide) (t := .long) (t' := .int) (by decide) (by decide)))
  replace F_o_count := F_o_count.other W3 (Or.inr (slot_ne (Or.inl (hw _ w39)) (Or.inl (hw _ w30)) (by decide) (t := .int) (t' := .int) (by decide) (by decide)))
  replace F_o_room := F_o_room.other W3 (Or.inr (slot_ne (Or.inl (hw _ w11)) (Or.inl (hw _ w30)) (by decide) (t := .int) (t' := .int) (by decide) (by decide)))
  replace F_o_starts := F_o_starts.other W3 (Or.inr (slot_ne (Or.inl (hw _ w14)) (Or.inl (hw _ w30)) (by decide) (t := (.array .long)) (t' := .int) (by decide) (by decide)))
  replace F_o_ends := F_o_ends.other W3 (Or.inr (slot_ne (Or.inl (hw _ w16)) (Or.inl (hw _ w30)) (by decide) (t := (.array .long)) (t' := .int) (by decide) (by decide)))
  replace F_o_spans := F_o_spans.other W3 (Or.inr (slot_ne (Or.inl (hw _ w19)) (Or.inl (hw _ w30)) (by decide) (t := (.array .int)) (t' := .int) (by decide) (by decide)))
  replace F_o_maxima := F_o_maxima.other W3 (Or.inr (slot_ne (Or.inl (hw _ w21)) (Or.inl (hw _ w30)) (by decide) (t := (.array .long)) (t' := .int) (by decide) (by decide)))
  replace A_ast := A_ast.other W3 (Ne.symm ne_o_ast)
  replace A_aen := A_aen.other W3 (Ne.symm ne_o_aen)
  replace A_asp := A_asp.other W3 (Ne.symm ne_o_asp)
  replace A_amx := A_amx.other W3 (Ne.symm ne_o_amx)
  replace K0 := K0.wr W3 (Or.inl (by simp))
  refine Go.aloadN (pc' := 85) d4_84 rfl rfl rfl ?_
  refine Go.iconst (pc' := 86) d4_85 rfl (z := (0 : Int32)) (by decide) ?_
  refine Go.putF (pc' := 89) d4_86 rfl (hw _ w38) Via.refl F_o_count E_o (Or.inl (hw _ w39)) (hw _ w2) (ty := .int) (by decide) rfl rfl ?_
  intro h4 L4 NL4 W4
  replace F_o_count := F_o_count.same W4
  replace N0 := NL4 _ N0 gn_o
  replace sz0 : n0 ≤ h4.size := by rw [W4.size]; exact sz0
  replace E_o := E_o.wr W4
  replace F_o_setting := F_o_setting.other W4 (Or.inr (slot_ne (Or.inl (hw _ w37)) (Or.inl (hw _ w39)) (by decide) (t := .long) (t' := .int) (by decide) (by decide)))
  replace F_o_frontier := F_o_frontier.other W4 (Or.inr (slot_ne (Or.inl (hw _ w28)) (Or.inl (hw _ w39)) (by decide) (t := .long) (t' := .int) (by decide) (by decide)))
  replace F_o_frontierSpan := F_o_frontierSpan.other W4 (Or.inr (slot_ne (Or.inl (hw _ w30)) (Or.inl (hw _ w39)) (by decide) (t := .int) (t' := .int) (by decide) (by decide)))
  replace F_o_room := F_o_room.other W4 (Or.inr (slot_ne (Or.inl (hw _ w11)) (Or.inl (hw _ w39)) (by decide) (t := .int) (t' := .int) (by decide) (by decide)))
  replace F_o_starts := F_o_starts.other W4 (Or.inr (slot_ne (Or.inl (hw _ w14)) (Or.inl (hw _ w39)) (by decide) (t := (.array .long)) (t' := .int) (by decide) (by decide)))
  replace F_o_ends := F_o_ends.other W4 (Or.inr (slot_ne (Or.inl (hw _ w16)) (Or.inl (hw _ w39)) (by decide) (t := (.array .long)) (t' := .int) (by decide) (by decide)))
  replace F_o_spans := F_o_spans.other W4 (Or.inr (slot_ne (Or.inl (hw _ w19)) (Or.inl (hw _ w39)) (by decide) (t := (.array .int)) (t' := .int) (by decide) (by decide)))
  replace F_o_maxima := F_o_maxima.other W4 (Or.inr (slot_ne (Or.inl (hw _ w21)) (Or.inl (hw _ w39)) (by decide) (t := (.array .long)) (t' := .int) (by decide) (by decide)))
  replace A_ast := A_ast.other W4 (Ne.symm ne_o_ast)
  replace A_aen := A_aen.other W4 (Ne.symm ne_o_aen)
  replace A_asp := A_asp.other W4 (Ne.symm ne_o_asp)
  replace A_amx := A_amx.other W4 (Ne.symm ne_o_amx)
  replace K0 := K0.wr W4 (Or.inl (by simp))
  refine Go.retV d4_89 rfl (by decide) (by decide) ?_
  exact ⟨rfl, N0, K0, E_o, F_o_setting, F_o_frontier, F_o_frontierSpan, F_o_count, F_o_room, F_o_starts, F_o_ends, F_o_spans, F_o_maxima, A_amx⟩
set_option maxRecDepth 65536 in
set_option maxHeartbeats 40000000 in
theorem c_kne1 {l : Launch} {Z : State} {a0 : Array Value} (hw : ∀ d ∈ tables_1, d.before a0 Z = true) {h0 : Heap} {n0 : Nat} (sz0 : n0 ≤ h0.size) (o ast aen asp amx : Addr) (se fr : Int64) (sp : Int32) (st0 st1 en0 en1 : Int64) (sp0 sp1 : Int32) (m1 m2 m4 m8 m16 : Int64) (q : Int64) (hq : ¬ se.toInt = q.toInt) (hm1 : ¬ m1.toInt = 0) (hm2 : ¬ m2.toInt = 0) (hm4 : ¬ m4.toInt = 0) (hm8 : ¬ m8.toInt = 0) (hm16 : ¬ m16.toInt = 0) (gn_o : n0 ≤ o) (gn_ast : n0 ≤ ast) (gn_aen : n0 ≤ aen) (gn_asp : n0 ≤ asp) (gn_amx : n0 ≤ amx) (ne_ast_aen : ast ≠ aen) (ne_ast_asp : ast ≠ asp) (ne_ast_amx : ast ≠ amx) (ne_aen_asp : aen ≠ asp) (ne_aen_amx : aen ≠ amx) (ne_asp_amx : asp ≠ amx) (E_o : Exa Z h0 o "com/example/rehearsal/rehearsal/policies/KnownRuns") (F_o_setting : Fld Z h0 o "com/example/rehearsal/rehearsal/policies/KnownRuns" "setting" "J" (.long se)) (F_o_frontier : Fld Z h0 o "com/example/rehearsal/rehearsal/policies/KnownRuns" "frontier" "J" (.long fr)) (F_o_frontierSpan : Fld Z h0 o "com/example/rehearsal/rehearsal/policies/KnownRuns" "frontierSpan" "I" (.int sp)) (F_o_count : Fld Z h0 o "com/example/rehearsal/rehearsal/policies/KnownRuns" "count" "I" (.int (1 : Int32))) (F_o_room : Fld Z h0 o "com/example/rehearsal/rehearsal/policies/KnownRuns" "room" "I" (.int (16 : Int32))) (F_o_starts : Fld Z h0 o "com/example/rehearsal/rehearsal/policies/KnownRuns" "starts" "[J" (.ref ast)) (F_o_ends : Fld Z h0 o "com/example/rehearsal/rehearsal/policies/KnownRuns" "ends" "[J" (.ref aen)) (F_o_spans : Fld Z h0 o "com/example/rehearsal/rehearsal/policies/KnownRuns" "spans" "[I" (.ref asp)) (F_o_maxima : Fld Z h0 o "com/example/rehearsal/rehearsal/policies/KnownRuns" "maxima" "[J" (.ref amx)) (A_ast : Al Z h0 ast .long [(.long st0), (.long st1), (.long (0 : Int64)), (.long (0 : Int64)), (.long (0 : Int64)), (.long (0 : Int64)), (.long (0 : Int64)), (.long (0 : Int64)), (.long (0 : Int64)), (.long (0 : Int64)), (.long (0 : Int64)), (.long (0 : Int64)), (.long (0 : Int64)), (.long (0 : Int64)), (.long (0 : Int64)), (.long (0 : Int64))]) (A_aen : Al Z h0 aen .long [(.long en0), (.long en1), (.long (0 : Int64)), (.long (0 : Int64)), (.long (0 : Int64)), (.long (0 : Int64)), (.long (0 : Int64)), (.long (0 : Int64)), (.long (0 : Int64)), (.long (0 : Int64)), (.long (0 : Int64)), (.long (0 : Int64)), (.long (0 : Int64)), (.long (0 : Int64)), (.long (0 : Int64)), (.long (0 : Int64))]) (A_asp : Al Z h0 asp .int [(.int sp0), (.int sp1), (.int (0 : Int32)), (.int (0 : Int32)), (.int (0 : Int32)), (.int (0 : Int32)), (.int (0 : Int32)), (.int (0 : Int32)), (.int (0 : Int32)), (.int (0 : Int32)), (.int (0 : Int32)), (.int (0 : Int32)), (.int (0 : Int32)), (.int (0 : Int32)), (.int (0 : Int32)), (.int (0 : Int32))]) (A_amx : Al Z h0 amx .long [(.long (0 : Int64)), (.long m1), (.long m2), (.long (0 : Int64)), (.long m4), (.long (0 : Int64)), (.long (0 : Int64)), (.long (0 : Int64)), (.long m8), (.long (0 : Int64)), (.long (0 : Int64)), (.long (0 : Int64)), (.long (0 : Int64)), (.long (0 : Int64)), (.long (0 : Int64)), (.long (0 : Int64)), (.long m16), (.long (0 : Int64)), (.long (0 : Int64)), (.long (0 : Int64)), (.long (0 : Int64)), (.long (0 : Int64)), (.long (0 : Int64)), (.long (0 : Int64)), (.long (0 : Int64)), (.long (0 : Int64)), (.long (0 : Int64)), (.long (0 : Int64)), (.long (0 : Int64)), (.long (0 : Int64)), (.long (0 : Int64)), (.long (0 : Int64))]) : Con l Z (⟨"com/example/rehearsal/rehearsal/policies/KnownRuns", "keepTo", "(J)V"⟩ : MethodName) prog_102_method_2_code 5 none ({ frames := 0, cells := 0, slots := 0, locals := 0 } : Room) [] #[(.ref o), (.long q)] h0 (fun v h L => v = none ∧ Fr n0 L ∧ Keep h0 h [o, amx] ∧ Exa Z h o "com/example/rehearsal/rehearsal/policies/KnownRuns" ∧ Fld Z h o "com/example/rehearsal/rehearsal/policies/KnownRuns" "setting" "J" (.long q) ∧ Fld Z h o "com/example/rehearsal/rehearsal/policies/KnownRuns" "frontier" "J" (.long (0 : Int64)) ∧ Fld Z h o "com/example/rehearsal/rehearsal/policies/KnownRuns" "frontierSpan" "I" (.int (0 : Int32)) ∧ Fld Z h o "com/example/rehearsal/rehearsal/policies/KnownRuns" "count" "I" (.int (0 : Int32)) ∧ Fld Z h o "com/example/rehearsal/rehearsal/policies/KnownRuns" "room" "I" (.int (16 : Int32)) ∧ Fld Z h o "com/example/rehearsal/rehearsal/policies/KnownRuns" "starts" "[J" (.ref ast) ∧ Fld Z h o "com/example/rehearsal/rehearsal/policies/KnownRuns" "ends" "[J" (.ref aen) ∧ Fld Z h o "com/example/rehearsal/rehearsal/policies/KnownRuns" "spans" "[I" (.ref asp) ∧ Fld Z h o "com/example/rehearsal/rehearsal/policies/KnownRuns" "maxima" "[J" (.ref amx) ∧ Al Z h amx .long [(.long (0 : Int64)), (.long (0 : Int64)), (.long (0 : Int64)), (.long (0 : Int64)), (.long (0 : Int64)), (.long (0 : Int64)), (.long (0 : Int64)), (.long (0 : Int64)), (.long (0 : Int64)), (.long (0 : Int64)), (.long (0 : Int64)), (.long (0 : Int64)), (.long (0 : Int64)), (.long (0 : Int64)), (.long (0 : Int64)), (.long (0 : Int64)), (.long (0 : Int64)), (.long (0 : Int64)), (.long (0 : Int64)), (.long (0 : Int64)), (.long (0 : Int64)), (.long (0 : Int64)), (.long (0 : Int64)), (.long (0 : Int64)), (.long (0 : Int64)), (.long (0 : Int64)), (.long (0 : Int64)), (.long (0 : Int64)), (.long (0 : Int64)), (.long (0 : Int64)), (.long (0 : Int64)), (.long (0 : Int64))]) := by
  refine con_of (Ls := #[.val (.ref o), .val (.long q), .second, .unset, .unset]) (plainFor_of_name (by first | (simp [plainName, overriddenIn]; done) | decide +kernel)) (fun m => by first | (simp [entryFrame, mkF, argsToLocals, Value.category]; done) | rfl) ?_
  have N0 : Fr n0 [] := Fr.nil _
  have K0 : Keep h0 h0 [o, amx] := Keep.refl _ _
  have ne_o_ast : o ≠ ast := ne_al E_o (hw _ w2) A_ast
  have ne_o_aen : o ≠ aen := ne_al E_o (hw _ w2) A_aen
  have ne_o_asp : o ≠ asp := ne_al E_o (hw _ w2) A_asp
  have ne_o_amx : o ≠ amx := ne_al E_o (hw _ w2) A_amx
  refine Go.aloadN (pc' := 1) d4_0 rfl rfl rfl ?_
  refine Go.getF (pc' := 4) d4_1 rfl (hw _ w36) Via.refl F_o_setting ?_
  refine Go.lloadN (pc' := 5) d4_4 rfl rfl ?_
  refine Go.lcmpT (pc' := 10) (X := se.toInt) (Y := q.toInt) d4_5 d4_6 rfl (by decide) rfl rfl (hq : ¬ se.toInt = q.toInt) ?_
  refine Go.iconst (pc' := 11) d4_10 rfl (z := (0 : Int32)) (by decide) ?_
  refine Go.istoreN (pc' := 12) d4_11 rfl (Ls' := #[.val (.ref o), .val (.long q), .second, .val (.int (0 : Int32)), .unset]) rfl ?_
  refine Go.iloadN (pc' := 13) d4_12 rfl rfl ?_
  refine Go.aloadN (pc' := 14) d4_13 rfl rfl rfl ?_
  refine Go.getF (pc' := 17) d4_14 rfl (hw _ w38) Via.refl F_o_count ?_
  refine Go.icmpF (pc' := 20) (X := (0 : Int)) (Y := (1 : Int)) d4_17 rfl (by decide) (by decide) (by decide : (0 : Int) < (1 : Int)) ?_
  refine Go.aloadN (pc' := 21) d4_20 rfl rfl rfl ?_
  refine Go.getF (pc' := 24) d4_21 rfl (hw _ w10) Via.refl F_o_room ?_
  refine Go.iloadN (pc' := 25) d4_24 rfl rfl ?_
  refine Go.iadd (pc' := 26) d4_25 rfl (z := (16 : Int32)) (by decide) ?_
  refine Go.istore (pc' := 28) d4_26 rfl (Ls' := #[.val (.ref o), .val (.long q), .second, .val (.int (0 : Int32)), .val (.int (16 : Int32))]) rfl ?_
  refine Go.iload (pc' := 30) d4_28 rfl rfl ?_
  refine Go.iconst (pc' := 31) d4_30 rfl (z := (1 : Int32)) (by decide) ?_
  refine Go.icmpF (pc' := 34) (X := (16 : Int)) (Y := (1 : Int)) d4_31 rfl (by decide) (by decide) (by decide : ¬ (16 : Int) < (1 : Int)) ?_
  refine Go.aloadN (pc' := 35) d4_34 rfl rfl rfl ?_
  refine Go.getF (pc' := 38) d4_35 rfl (hw _ w20) Via.refl F_o_maxima ?_
  refine Go.iload (pc' := 40) d4_38 rfl rfl ?_
  refine Go.laload (pc' := 41) d4_40 rfl (i := 16) (v := (.long m16)) A_amx (by decide) rfl ?_
  refine Go.lconst (pc' := 42) d4_41 rfl (z := (0 : Int64)) (by decide) ?_
  refine Go.lcmpF (pc' := 46) (X := m16.toInt) (Y := (0 : Int)) d4_42 d4_43 rfl rfl rfl (by decide) (hm16 : ¬ m16.toInt = (0 : Int)) ?_
  refine Go.aloadN (pc' := 47) d4_46 rfl rfl rfl ?_
  refine Go.getF (pc' := 50) d4_47 rfl (hw _ w20) Via.refl F_o_maxima ?_
  refine Go.iload (pc' := 52) d4_50 rfl rfl ?_
  refine Go.lconst (pc' := 53) d4_52 rfl (z := (0 : Int64)) (by decide) ?_
  refine Go.lastore (pc' := 54) (i := 16) (v := (.long (0 : Int64))) (vs' := [(.long (0 : Int64)), (.long m1), (.long m2), (.long (0 : Int64)), (.long m4), (.long (0 : Int64)), (.long (0 : Int64)), (.long (0 : Int64)), (.long m8), (.long (0 : Int64)), (.long (0 : Int64)), (.long (0 : Int64)), (.long (0 : Int64)), (.long (0 : Int64)), (.long (0 : Int64)), (.long (0 : Int64)), (.long (0 : Int64)), (.long (0 : Int64)), (.long (0 : Int64)), (.long (0 : Int64)), (.long (0 : Int64)), (.long (0 : Int64)), (.long (0 : Int64)), (.long (0 : Int64)), (.long (0 : Int64)), (.long (0 : Int64)), (.long (0 : Int64)), (.long (0 : Int64)), (.long (0 : Int64)), (.long (0 : Int64)), (.long (0 : Int64)), (.long (0 : Int64))]) d4_53 rfl A_amx (by decide) (Nat.le_of_ble_eq_true rfl) rfl rfl ?_
  intro h1 L1 NL1 W1 B1
  replace N0 := NL1 _ N0 gn_amx
  replace sz0 : n0 ≤ h1.size := by rw [W1.size]; exact sz0
  replace E_o := E_o.wr W1
  replace F_o_setting := F_o_setting.other W1 (Or.inl ne_o_amx)
  replace F_o_frontier := F_o_frontier.other W1 (Or.inl ne_o_amx)
  replace F_o_frontierSpan := F_o_frontierSpan.other W1 (Or.inl ne_o_amx)
  replace F_o_count := F_o_count.other W1 (Or.inl ne_o_amx)
  replace F_o_room := F_o_room.other W1 (Or.inl ne_o_amx)
  replace F_o_starts := F_o_starts.other W1 (Or.inl ne_o_amx)
  replace F_o_ends := F_o_ends.other W1 (Or.inl ne_o_amx)
  replace F_o_spans := F_o_spans.other W1 (Or.inl ne_o_amx)
  replace F_o_maxima := F_o_maxima.other W1 (Or.inl ne_o_amx)
  replace A_ast := A_ast.other W1 ne_ast_amx
  replace A_aen := A_aen.other W1 ne_aen_amx
  replace A_asp := A_asp.other W1 ne_asp_amx
  replace K0 := K0.wr W1 (Or.inl (by simp))
  clear A_amx; have A_amx := B1
  refine Go.iload (pc' := 56) d4_54 rfl rfl ?_
  refine Go.iconst (pc' := 57) d4_56 rfl (z := (2 : Int32)) (by decide) ?_
  refine Go.idiv (pc' := 58) d4_57 rfl (by decide) (z := (8 : Int32)) (by decide) ?_
  refine Go.istore (pc' := 60) d4_58 rfl (Ls' := #[.val (.ref o), .val (.long q), .second, .val (.int (0 : Int32)), .val (.int (8 : Int32))]) rfl ?_
  refine Go.goto (pc' := 28) d4_60 (by decide) ?_
  refine Go.iload (pc' := 30) d4_28 rfl rfl ?_
  refine Go.iconst (pc' := 31) d4_30 rfl (z := (1 : Int32)) (by decide) ?_
  refine Go.icmpF (pc' := 34) (X := (8 : Int)) (Y := (1 : Int)) d4_31 rfl (by decide) (by decide) (by decide : ¬ (8 : Int) < (1 : Int)) ?_
  refine Go.aloadN (pc' := 35) d4_34 rfl rfl rfl ?_
  refine Go.getF (pc' := 38) d4_35 rfl (hw _ w20) Via.refl F_o_maxima ?_
  refine Go.iload (pc' := 40) d4_38 rfl rfl ?_
  refine Go.laload (pc' := 41) d4_40 rfl (i := 8) (v := (.long m8)) A_amx (by decide) rfl ?_
  refine Go.lconst (pc' := 42) d4_41 rfl (z := (0 : Int64)) (by decide) ?_
  refine Go.lcmpF (pc' := 46) (X := m8.toInt) (Y := (0 : Int)) d4_42 d4_43 rfl rfl rfl (by decide) (hm8 : ¬ m8.toInt = (0 : Int)) ?_
  refine Go.aloadN (pc' := 47) d4_46 rfl rfl rfl ?_
  refine Go.getF (pc' := 50) d4_47 rfl (hw _ w20) Via.refl F_o_maxima ?_
  refine Go.iload (pc' := 52) d4_50 rfl rfl ?_
  refine Go.lconst (pc' := 53) d4_52 rfl (z := (0 : Int64)) (by decide) ?_
  refine Go.lastore (pc' := 54) (i := 8) (v := (.long (0 : Int64))) (vs' := [(.long (0 : Int64)), (.long m1), (.long m2), (.long (0 : Int64)), (.long m4), (.long (0 : Int64)), (.long (0 : Int64)), (.long (0 : Int64)), (.long (0 : Int64)), (.long (0 : Int64)), (.long (0 : Int64)), (.long (0 : Int64)), (.long (0 : Int64)), (.long (0 : Int64)), (.long (0 : Int64)), (.long (0 : Int64)), (.long (0 : Int64)), (.long (0 : Int64)), (.long (0 : Int64)), (.long (0 : Int64)), (.long (0 : Int64)), (.long (0 : Int64)), (.long (0 : Int64)), (.long (0 : Int64)), (.long (0 : Int64)), (.long (0 : Int64)), (.long (0 : Int64)), (.long (0 : Int64)), (.long (0 : Int64)), (.long (0 : Int64)), (.long (0 : Int64)), (.long (0 : Int64))]) d4_53 rfl A_amx (by decide) (Nat.le_of_ble_eq_true rfl) rfl rfl ?_
  intro h2 L2 NL2 W2 B2
  replace N0 := NL2 _ N0 gn_amx
  replace sz0 : n0 ≤ h2.size := by rw [W2.size]; exact sz0
  replace E_o := E_o.wr W2
  replace F_o_setting := F_o_setting.other W2 (Or.inl ne_o_amx)
  replace F_o_frontier := F_o_frontier.other W2 (Or.inl ne_o_amx)
  replace F_o_frontierSpan := F_o_frontierSpan.other W2 (Or.inl ne_o_amx)
  replace F_o_count := F_o_count.other W2 (Or.inl ne_o_amx)
  replace F_o_room := F_o_room.other W2 (Or.inl ne_o_amx)
  replace F_o_starts := F_o_starts.other W2 (Or.inl ne_o_amx)
  replace F_o_ends := F_o_ends.other W2 (Or.inl ne_o_amx)
  replace F_o_spans := F_o_spans.other W2 (Or.inl ne_o_amx)
  replace F_o_maxima := F_o_maxima.other W2 (Or.inl ne_o_amx)
  replace A_ast := A_ast.other W2 ne_ast_amx
  replace A_aen := A_aen.other W2 ne_aen_amx
  replace A_asp := A_asp.other W2 ne_asp_amx
  replace K0 := K0.wr W2 (Or.inl (by simp))
  clear A_amx; have A_amx := B2
  refine Go.iload (pc' := 56) d4_54 rfl rfl ?_
  refine Go.iconst (pc' := 57) d4_56 rfl (z := (2 : Int32)) (by decide) ?_
  refine Go.idiv (pc' := 58) d4_57 rfl (by decide) (z := (4 : Int32)) (by decide) ?_
  refine Go.istore (pc' := 60) d4_58 rfl (Ls' := #[.val (.ref o), .val (.long q), .second, .val (.int (0 : Int32)), .val (.int (4 : Int32))]) rfl ?_
  refine Go.goto (pc' := 28) d4_60 (by decide) ?_
  refine Go.iload (pc' := 30) d4_28 rfl rfl ?_
  refine Go.iconst (pc' := 31) d4_30 rfl (z := (1 : Int32)) (by decide) ?_
  refine Go.icmpF (pc' := 34) (X := (4 : Int)) (Y := (1 : Int)) d4_31 rfl (by decide) (by decide) (by decide : ¬ (4 : Int) < (1 : Int)) ?_
  refine Go.aloadN (pc' := 35) d4_34 rfl rfl rfl ?_
  refine Go.getF (pc' := 38) d4_35 rfl (hw _ w20) Via.refl F_o_maxima ?_
  refine Go.iload (pc' := 40) d4_38 rfl rfl ?_
  refine Go.laload (pc' := 41) d4_40 rfl (i := 4) (v := (.long m4)) A_amx (by decide) rfl ?_
  refine Go.lconst (pc' := 42) d4_41 rfl (z := (0 : Int64)) (by decide) ?_
  refine Go.lcmpF (pc' := 46) (X := m4.toInt) (Y := (0 : Int)) d4_42 d4_43 rfl rfl rfl (by decide) (hm4 : ¬ m4.toInt = (0 : Int)) ?_
  refine Go.aloadN (pc' := 47) d4_46 rfl rfl rfl ?_
  refine Go.getF (pc' := 50) d4_47 rfl (hw _ w20) Via.refl F_o_maxima ?_
  refine Go.iload (pc' := 52) d4_50 rfl rfl ?_
  refine Go.lconst (pc' := 53) d4_52 rfl (z := (0 : Int64)) (by decide) ?_
  refine Go.lastore (pc' := 54) (i := 4) (v := (.long (0 : Int64))) (vs' := [(.long (0 : Int64)), (.long m1), (.long m2), (.long (0 : Int64)), (.long (0 : Int64)), (.long (0 : Int64)), (.long (0 : Int64)), (.long (0 : Int64)), (.long (0 : Int64)), (.long (0 : Int64)), (.long (0 : Int64)), (.long (0 : Int64)), (.long (0 : Int64)), (.long (0 : Int64)), (.long (0 : Int64)), (.long (0 : Int64)), (.long (0 : Int64)), (.long (0 : Int64)), (.long (0 : Int64)), (.long (0 : Int64)), (.long (0 : Int64)), (.long (0 : Int64)), (.long (0 : Int64)), (.long (0 : Int64)), (.long (0 : Int64)), (.long (0 : Int64)), (.long (0 : Int64)), (.long (0 : Int64)), (.long (0 : Int64)), (.long (0 : Int64)), (.long (0 : Int64)), (.long (0 : Int64))]) d4_53 rfl A_amx (by decide) (Nat.le_of_ble_eq_true rfl) rfl rfl ?_
  intro h3 L3 NL3 W3 B3
  replace N0 := NL3 _ N0 gn_amx
  replace sz0 : n0 ≤ h3.size := by rw [W3.size]; exact sz0
  replace E_o := E_o.wr W3
  replace F_o_setting := F_o_setting.other W3 (Or.inl ne_o_amx)
  replace F_o_frontier := F_o_frontier.other W3 (Or.inl ne_o_amx)
  replace F_o_frontierSpan := F_o_frontierSpan.other W3 (Or.inl ne_o_amx)
  replace F_o_count := F_o_count.other W3 (Or.inl ne_o_amx)
  replace F_o_room := F_o_room.other W3 (Or.inl ne_o_amx)
  replace F_o_starts := F_o_starts.other W3 (Or.inl ne_o_amx)
  replace F_o_ends := F_o_ends.other W3 (Or.inl ne_o_amx)
  replace F_o_spans := F_o_spans.other W3 (Or.inl ne_o_amx)
  replace F_o_maxima := F_o_maxima.other W3 (Or.inl ne_o_amx)
  replace A_ast := A_ast.other W3 ne_ast_amx
  replace A_aen := A_aen.other W3 ne_aen_amx
  replace A_asp := A_asp.other W3 ne_asp_amx
  replace K0 := K0.wr W3 (Or.inl (by simp))
  clear A_amx; have A_amx := B3
  refine Go.iload (pc' := 56) d4_54 rfl rfl ?_
  refine Go.iconst (pc' := 57) d4_56 rfl (z := (2 : Int32)) (by decide) ?_
  refine Go.idiv (pc' := 58) d4_57 rfl (by decide) (z := (2 : Int32)) (by decide) ?_
  refine Go.istore (pc' := 60) d4_58 rfl (Ls' := #[.val (.ref o), .val (.long q), .second, .val (.int (0 : Int32)), .val (.int (2 : Int32))]) rfl ?_
  refine Go.goto (pc' := 28) d4_60 (by decide) ?_
  refine Go.iload (pc' := 30) d4_28 rfl rfl ?_
  refine Go.iconst (pc' := 31) d4_30 rfl (z := (1 : Int32)) (by decide) ?_
  refine Go.icmpF (pc' := 34) (X := (2 : Int)) (Y := (1 : Int)) d4_31 rfl (by decide) (by decide) (by decide : ¬ (2 : Int) < (1 : Int)) ?_
  refine Go.aloadN (pc' := 35) d4_34 rfl rfl rfl ?_
  refine Go.getF (pc' := 38) d4_35 rfl (hw _ w20) Via.refl F_o_maxima ?_
  refine Go.iload (pc' := 40) d4_38 rfl rfl ?_
  refine Go.laload (pc' := 41) d4_40 rfl (i := 2) (v := (.long m2)) A_amx (by decide) rfl ?_
  refine Go.lconst (pc' := 42) d4_41 rfl (z := (0 : Int64)) (by decide) ?_
  refine Go.lcmpF (pc' := 46) (X := m2.toInt) (Y := (0 : Int)) d4_42 d4_43 rfl rfl rfl (by decide) (hm2 : ¬ m2.toInt = (0 : Int)) ?_
  refine Go.aloadN (pc' := 47) d4_46 rfl rfl rfl ?_
  refine Go.getF (pc' := 50) d4_47 rfl (hw _ w20) Via.refl F_o_maxima ?_
  refine Go.iload (pc' := 52) d4_50 rfl rfl ?_
  refine Go.lconst (pc' := 53) d4_52 rfl (z := (0 : Int64)) (by decide) ?_
  refine Go.lastore (pc' := 54) (i := 2) (v := (.long (0 : Int64))) (vs' := [(.long (0 : Int64)), (.long m1), (.long (0 : Int64)), (.long (0 : Int64)), (.long (0 : Int64)), (.long (0 : Int64)), (.long (0 : Int64)), (.long (0 : Int64)), (.long (0 : Int64)), (.long (0 : Int64)), (.long (0 : Int64)), (.long (0 : Int64)), (.long (0 : Int64)), (.long (0 : Int64)), (.long (0 : Int64)), (.long (0 : Int64)), (.long (0 : Int64)), (.long (0 : Int64)), (.long (0 : Int64)), (.long (0 : Int64)), (.long (0 : Int64)), (.long (0 : Int64)), (.long (0 : Int64)), (.long (0 : Int64)), (.long (0 : Int64)), (.long (0 : Int64)), (.long (0 : Int64)), (.long (0 : Int64)), (.long (0 : Int64)), (.long (0 : Int64)), (.long (0 : Int64)), (.long (0 : Int64))]) d4_53 rfl A_amx (by decide) (Nat.le_of_ble_eq_true rfl) rfl rfl ?_
  intro h4 L4 NL4 W4 B4
  replace N0 := NL4 _ N0 gn_amx
  replace sz0 : n0 ≤ h4.size := by rw [W4.size]; exact sz0
  replace E_o := E_o.wr W4
  replace F_o_setting := F_o_setting.other W4 (Or.inl ne_o_amx)
  replace F_o_frontier := F_o_frontier.other W4 (Or.inl ne_o_amx)
  replace F_o_frontierSpan := F_o_frontierSpan.other W4 (Or.inl ne_o_amx)
  replace F_o_count := F_o_count.other W4 (Or.inl ne_o_amx)
  replace F_o_room := F_o_room.other W4 (Or.inl ne_o_amx)
  replace F_o_starts := F_o_starts.other W4 (Or.inl ne_o_amx)
  replace F_o_ends := F_o_ends.other W4 (Or.inl ne_o_amx)
  replace F_o_spans := F_o_spans.other W4 (Or.inl ne_o_amx)
  replace F_o_maxima := F_o_maxima.other W4 (Or.inl ne_o_amx)
  replace A_ast := A_ast.other W4 ne_ast_amx
  replace A_aen := A_aen.other W4 ne_aen_amx
  replace A_asp := A_asp.other W4 ne_asp_amx
  replace K0 := K0.wr W4 (Or.inl (by simp))
  clear A_amx; have A_amx := B4
  refine Go.iload (pc' := 56) d4_54 rfl rfl ?_
  refine Go.iconst (pc' := 57) d4_56 rfl (z := (2 : Int32)) (by decide) ?_
  refine Go.idiv (pc' := 58) d4_57 rfl (by decide) (z := (1 : Int32)) (by decide) ?_
  refine Go.istore (pc' := 60) d4_58 rfl (Ls' := #[.val (.ref o), .val (.long q), .second, .val (.int (0 : Int32)), .val (.int (1 : Int32))]) rfl ?_
  refine Go.goto (pc' := 28) d4_60 (by decide) ?_
  refine Go.iload (pc' := 30) d4_28 rfl rfl ?_
  refine Go.iconst (pc' := 31) d4_30 rfl (z := (1 : Int32)) (by decide) ?_
  refine Go.icmpF (pc' := 34) (X := (1 : Int)) (Y := (1 : Int)) d4_31 rfl (by decide) (by decide) (by decide : ¬ (1 : Int) < (1 : Int)) ?_
  refine Go.aloadN (pc' := 35) d4_34 rfl rfl rfl ?_
  refine Go.getF (pc' := 38) d4_35 rfl (hw _ w20) Via.refl F_o_maxima ?_
  refine Go.iload (pc' := 40) d4_38 rfl rfl ?_
  refine Go.laload (pc' := 41) d4_40 rfl (i := 1) (v := (.long m1)) A_amx (by decide) rfl ?_
  refine Go.lconst (pc' := 42) d4_41 rfl (z := (0 : Int64)) (by decide) ?_
  refine Go.lcmpF (pc' := 46) (X := m1.toInt) (Y := (0 : Int)) d4_42 d4_43 rfl rfl rfl (by decide) (hm1 : ¬ m1.toInt = (0 : Int)) ?_
  refine Go.aloadN (pc' := 47) d4_46 rfl rfl rfl ?_
  refine Go.getF (pc' := 50) d4_47 rfl (hw _ w20) Via.refl F_o_maxima ?_
  refine Go.iload (pc' := 52) d4_50 rfl rfl ?_
  refine Go.lconst (pc' := 53) d4_52 rfl (z := (0 : Int64)) (by decide) ?_
  refine Go.lastore (pc' := 54) (i := 1) (v := (.long (0 : Int64))) (vs' := [(.long (0 : Int64)), (.long (0 : Int64)), (.long (0 : Int64)), (.long (0 : Int64)), (.long (0 : Int64)), (.long (0 : Int64)), (.long (0 : Int64)), (.long (0 : Int64)), (.long (0 : Int64)), (.long (0 : Int64)), (.long (0 : Int64)), (.long (0 : Int64)), (.long (0 : Int64)), (.long (0 : Int64)), (.long (0 : Int64)), (.long (0 : Int64)), (.long (0 : Int64)), (.long (0 : Int64)), (.long (0 : Int64)), (.long (0 : Int64)), (.long (0 : Int64)), (.long (0 : Int64)), (.long (0 : Int64)), (.long (0 : Int64)), (.long (0 : Int64)), (.long (0 : Int64)), (.long (0 : Int64)), (.long (0 : Int64)), (.long (0 : Int64)), (.long (0 : Int64)), (.long (0 : Int64)), (.long (0 : Int64))]) d4_53 rfl A_amx (by decide) (Nat.le_of_ble_eq_true rfl) rfl rfl ?_
  intro h5 L5 NL5 W5 B5
  replace N0 := NL5 _ N0 gn_amx
  replace sz0 : n0 ≤ h5.size := by rw [W5.size]; exact sz0
  replace E_o := E_o.wr W5
  replace F_o_setting := F_o_setting.other W5 (Or.inl ne_o_amx)
  replace F_o_frontier := F_o_frontier.other W5 (Or.inl ne_o_amx)
  replace F_o_frontierSpan := F_o_frontierSpan.other W5 (Or.inl ne_o_amx)
  replace F_o_count := F_o_count.other W5 (Or.inl ne_o_amx)
  replace F_o_room := F_o_room.other W5 (Or.inl ne_o_amx)
  replace F_o_starts := F_o_starts.other W5 (Or.inl ne_o_amx)
  replace F_o_ends := F_o_ends.other W5 (Or.inl ne_o_amx)
  replace F_o_spans := F_o_spans.other W5 (Or.inl ne_o_amx)
  replace F_o_maxima := F_o_maxima.other W5 (Or.inl ne_o_amx)
  replace A_ast := A_ast.other W5 ne_ast_amx
  replace A_aen := A_aen.other W5 ne_aen_amx
  replace A_asp := A_asp.other W5 ne_asp_amx
  replace K0 := K0.wr W5 (Or.inl (by simp))
  clear A_amx; have A_amx := B5
  refine Go.iload (pc' := 56) d4_54 rfl rfl ?_
  refine Go.iconst (pc' := 57) d4_56 rfl (z := (2 : Int32)) (by decide) ?_
  refine Go.idiv (pc' := 58) d4_57 rfl (by decide) (z := (0 : Int32)) (by decide) ?_
  refine Go.istore (pc' := 60) d4_58 rfl (Ls' := #[.val (.ref o), .val (.long q), .second, .val (.int (0 : Int32)), .val (.int (0 : Int32))]) rfl ?_
  refine Go.goto (pc' := 28) d4_60 (by decide) ?_
  refine Go.iload (pc' := 30) d4_28 rfl rfl ?_
  refine Go.iconst (pc' := 31) d4_30 rfl (z := (1 : Int32)) (by decide) ?_
  refine Go.icmpT (pc' := 63) (X := (0 : Int)) (Y := (1 : Int)) d4_31 (by decide) (by decide) (by decide) (by decide : (0 : Int) < (1 : Int)) ?_
  refine Go.iinc (pc' := 66) d4_63 rfl rfl (z := (1 : Int32)) (by decide) (Ls' := #[.val (.ref o), .val (.long q), .second, .val (.int (1 : Int32)), .val (.int (0 : Int32))]) rfl ?_
  refine Go.goto (pc' := 12) d4_66 (by decide) ?_
  refine Go.iloadN (pc' := 13) d4_12 rfl rfl ?_
  refine Go.aloadN (pc' := 14) d4_13 rfl rfl rfl ?_
  refine Go.getF (pc' := 17) d4_14 rfl (hw _ w38) Via.refl F_o_count ?_
  refine Go.icmpT (pc' := 69) (X := (1 : Int)) (Y := (1 : Int)) d4_17 (by decide) (by decide) (by decide) (by decide : ¬ (1 : Int) < (1 : Int)) ?_
  refine Go.aloadN (pc' := 70) d4_69 rfl rfl rfl ?_
  refine Go.lloadN (pc' := 71) d4_70 rfl rfl ?_
  refine Go.putF (pc' := 74) d4_71 rfl (hw _ w36) Via.refl F_o_setting E_o (Or.inl (hw _ w37)) (hw _ w2) (ty := .long) (by decide) rfl rfl ?_
  intro h6 L6 NL6 W6
  replace F_o_setting := F_o_setting.same W6
  replace N0 := NL6 _ N0 gn_o
  replace sz0 : n0 ≤ h6.size := by rw [W6.size]; exact sz0
  replace E_o := E_o.wr W6
  replace F_o_frontier := F_o_frontier.other W6 (Or.inr (slot_ne (Or.inl (hw _ w28)) (Or.inl (hw _ w37)) (by decide) (t := .long) (t' := .long) (by decide) (by decide)))
  replace F_o_frontierSpan := F_o_frontierSpan.other W6 (Or.inr (slot_ne (Or.inl (hw _ w30)) (Or.inl (hw _ w37)) (by decide) (t := .int) (t' := .long) (by decide) (by decide)))
  replace F_o_count := F_o_count.other W6 (Or.inr (slot_ne (Or.inl (hw _ w39)) (Or.inl (hw _ w37)) (by decide) (t := .int) (t' := .long) (by decide) (by decide)))
  replace F_o_room := F_o_room.other W6 (Or.inr (slot_ne (Or.inl (hw _ w11)) (Or.inl (hw _ w37)) (by decide) (t := .int) (t' := .long) (by decide) (by decide)))
  replace F_o_starts := F_o_starts.other W6 (Or.inr (slot_ne (Or.inl (hw _ w14)) (Or.inl (hw _ w37)) (by decide) (t := (.array .long)) (t' := .long) (by decide) (by decide)))
  replace F_o_ends := F_o_ends.other W6 (Or.inr (slot_ne (Or.inl (hw _ w16)) (Or.inl (hw _ w37)) (by decide) (t := (.array .long)) (t' := .long) (by decide) (by decide)))
  replace F_o_spans := F_o_spans.other W6 (Or.inr (slot_ne (Or.inl (hw _ w19)) (Or.inl (hw _ w37)) (by decide) (t := (.array .int)) (t' := .long) (by decide) (by decide)))
  replace F_o_maxima := F_o_maxima.other W6 (Or.inr (slot_ne (Or.inl (hw _ w21)) (Or.inl (hw _ w37)) (by decide) (t := (.array .long)) (t' := .long) (by decide) (by decide)))
  replace A_ast := A_ast.other W6 (Ne.symm ne_o_ast)
  replace A_aen := A_aen.other W6 (Ne.symm ne_o_aen)
  replace A_asp := A_asp.other W6 (Ne.symm ne_o_asp)
  replace A_amx := A_amx.other W6 (Ne.symm ne_o_amx)
  replace K0 := K0.wr W6 (Or.inl (by simp))
  refine Go.aloadN (pc' := 75) d4_74 rfl rfl rfl ?_
  refine Go.lconst (pc' := 76) d4_75 rfl (z := (0 : Int64)) (by decide) ?_
  refine Go.putF (pc' := 79) d4_76 rfl (hw _ w27) Via.refl F_o_frontier E_o (Or.inl (hw _ w28)) (hw _ w2) (ty := .long) (by decide) rfl rfl ?_
  intro h7 L7 NL7 W7
  replace F_o_frontier := F_o_frontier.same W7
  replace N0 := NL7 _ N0 gn_o
  replace sz0 : n0 ≤ h7.size := by rw [W7.size]; exact sz0
  replace E_o := E_o.wr W7
  replace F_o_setting := F_o_setting.other W7 (Or.inr (slot_ne (Or.inl (hw _ w37)) (Or.inl (hw _ w28)) (by decide) (t := .long) (t' := .long) (by decide) (by decide)))
  replace F_o_frontierSpan := F_o_frontierSpan.other W7 (Or.inr (slot_ne (Or.inl (hw _ w30)) (Or.inl (hw _ w28)) (by decide) (t := .int) (t' := .long) (by decide) (by decide)))
  replace F_o_count := F_o_count.other W7 (Or.inr (slot_ne (Or.inl (hw _ w39)) (Or.inl (hw _ w28)) (by decide) (t := .int) (t' := .long) (by decide) (by decide)))
  replace F_o_room := F_o_room.other W7 (Or.inr (slot_ne (Or.inl (hw _ w11)) (Or.inl (hw _ w28)) (by decide) (t := .int) (t' := .long) (by decide) (by decide)))
  replace F_o_starts := F_o_starts.other W7 (Or.inr (slot_ne (Or.inl (hw _ w14)) (Or.inl (hw _ w28)) (by decide) (t := (.array .long)) (t' := .long) (by decide) (by decide)))
  replace F_o_ends := F_o_ends.other W7 (Or.inr (slot_ne (Or.inl (hw _ w16)) (Or.inl (hw _ w28)) (by decide) (t := (.array .long)) (t' := .long) (by decide) (by decide)))
  replace F_o_spans := F_o_spans.other W7 (Or.inr (slot_ne (Or.inl (hw _ w19)) (Or.inl (hw _ w28)) (by decide) (t := (.array .int)) (t' := .long) (by decide) (by decide)))
  replace F_o_maxima := F_o_maxima.other W7 (Or.inr (slot_ne (Or.inl (hw _ w21)) (Or.inl (hw _ w28)) (by decide) (t := (.array .long)) (t' := .long) (by decide) (by decide)))
  replace A_ast := A_ast.other W7 (Ne.symm ne_o_ast)
  replace A_aen := A_aen.other W7 (Ne.symm ne_o_aen)
  replace A_asp := A_asp.other W7 (Ne.symm ne_o_asp)
  replace A_amx := A_amx.other W7 (Ne.symm ne_o_amx)
  replace K0 := K0.wr W7 (Or.inl (by simp))
  refine Go.aloadN (pc' := 80) d4_79 rfl rfl rfl ?_
  refine Go.iconst (pc' := 81) d4_80 rfl (z := (0 : Int32)) (by decide) ?_
  refine Go.putF (pc' := 84) d4_81 rfl (hw _ w29) Via.refl F_o_frontierSpan E_o (Or.inl (hw _ w30)) (hw _ w2) (ty := .int) (by decide) rfl rfl ?_
  intro h8 L8 NL8 W8
  replace F_o_frontierSpan := F_o_frontierSpan.same W8
  replace N0 := NL8 _ N0 gn_o
  replace sz0 : n0 ≤ h8.size := by rw [W8.size]; exact sz0
  replace E_o := E_o.wr W8
  replace F_o_setting := F_o_setting.other W8 (Or.inr (slot_ne (Or.inl (hw _ w37)) (Or.inl (hw _ w30)) (by decide) (t := .long) (t' := .int) (by decide) (by decide)))
  replace F_o_frontier := F_o_frontier.other W8 (Or.inr (slot_ne (Or.inl (hw _ w28)) (Or.inl (hw _ w30)) (by decide) (t := .long) (t' := .int) (by decide) (by decide)))
  replace F_o_count := F_o_count.other W8 (Or.inr (slot_ne (Or.inl (hw _ w39)) (Or.inl (hw _ w30)) (by decide) (t := .int) (t' := .int) (by decide) (by decide)))
  replace F_o_room := F_o_room.other W8 (Or.inr (slot_ne (Or.inl (hw _ w11)) (Or.inl (hw _ w30)) (by decide) (t := .int) (t' := .int) (by decide) (by decide)))
  replace F_o_starts := F_o_starts.other W8 (Or.inr (slot_ne (Or.inl (hw _ w14)) (Or.inl (hw _ w30)) (by decide) (t := (.array .long)) (t' := .int) (by decide) (by decide)))
  replace F_o_ends := F_o_ends.other W8 (Or.inr (slot_ne (Or.inl (hw _ w16)) (Or.inl (hw _ w30)) (by decide) (t := (.array .long)) (t' := .int) (by decide) (by decide)))
  replace F_o_spans := F_o_spans.other W8 (Or.inr (slot_ne (Or.inl (hw _ w19)) (Or.inl (hw _ w30)) (by decide) (t := (.array .int)) (t' := .int) (by decide) (by decide)))
  replace F_o_maxima := F_o_maxima.other W8 (Or.inr (slot_ne (Or.inl (hw _ w21)) (Or.inl (hw _ w30)) (by decide) (t := (.array .long)) (t' := .int) (by decide) (by decide)))
  replace A_ast := A_ast.other W8 (Ne.symm ne_o_ast)
  replace A_aen := A_aen.other W8 (Ne.symm ne_o_aen)
  replace A_asp := A_asp.other W8 (Ne.symm ne_o_asp)
  replace A_amx := A_amx.other W8 (Ne.symm ne_o_amx)
  replace K0 := K0.wr W8 (Or.inl (by simp))
  refine Go.aloadN (pc' := 85) d4_84 rfl rfl rfl ?_
  refine Go.iconst (pc' := 86) d4_85 rfl (z := (0 : Int32)) (by decide) ?_
  refine Go.putF (pc' := 89) d4_86 rfl (hw _ w38) Via.refl F_o_count E_o (Or.inl (hw _ w39)) (hw _ w2) (ty := .int) (by decide) rfl rfl ?_
  intro h9 L9 NL9 W9
  replace F_o_count := F_o_count.same W9
  replace N0 := NL9 _ N0 gn_o
  replace sz0 : n0 ≤ h9.size := by rw [W9.size]; exact sz0
  replace E_o := E_o.wr W9
  replace F_o_setting := F_o_setting.other W9 (Or.inr (slot_ne (Or.inl (hw _ w37)) (Or.inl (hw _ w39)) (by decide) (t := .long) (t' := .int) (by decide) (by decide)))
  replace F_o_frontier := F_o_frontier.other W9 (Or.inr (slot_ne (Or.inl (hw _ w28)) (Or.inl (hw _ w39)) (by decide) (t := .long) (t' := .int) (by decide) (by decide)))
  replace F_o_frontierSpan := F_o_frontierSpan.other W9 (Or.inr (slot_ne (Or.inl (hw _ w30)) (Or.inl (hw _ w39)) (by decide) (t := .int) (t' := .int) (by decide) (by decide)))
  replace F_o_room := F_o_room.other W9 (Or.inr (slot_ne (Or.inl (hw _ w11)) (Or.inl (hw _ w39)) (by decide) (t := .int) (t' := .int) (by decide) (by decide)))
  replace F_o_starts := F_o_starts.other W9 (Or.inr (slot_ne (Or.inl (hw _ w14)) (Or.inl (hw _ w39)) (by decide) (t := (.array .long)) (t' := .int) (by decide) (by decide)))
  replace F_o_ends := F_o_ends.other W9 (Or.inr (slot_ne (Or.inl (hw _ w16)) (Or.inl (hw _ w39)) (by decide) (t := (.array .long)) (t' := .int) (by decide) (by decide)))
  replace F_o_spans := F_o_spans.other W9 (Or.inr (slot_ne (Or.inl (hw _ w19)) (Or.inl (hw _ w39)) (by decide) (t := (.array .int)) (t' := .int) (by decide) (by decide)))
  replace F_o_maxima := F_o_maxima.other W9 (Or.inr (slot_ne (Or.inl (hw _ w21)) (Or.inl (hw _ w39)) (by decide) (t := (.array .long)) (t' := .int) (by decide) (by decide)))
  replace A_ast := A_ast.other W9 (Ne.symm ne_o_ast)
  replace A_aen := A_aen.other W9 (Ne.symm ne_o_aen)
  replace A_asp := A_asp.other W9 (Ne.symm ne_o_asp)
  replace A_amx := A_amx.other W9 (Ne.symm ne_o_amx)
  replace K0 := K0.wr W9 (Or.inl (by simp))
  refine Go.retV d4_89 rfl (by decide) (by decide) ?_
  exact ⟨rfl, N0, K0, E_o, F_o_setting, F_o_frontier, F_o_frontierSpan, F_o_count, F_o_room, F_o_starts, F_o_ends, F_o_spans, F_o_maxima, A_amx⟩
set_option maxRecDepth 65536 in
set_option maxHeartbeats 40000000 in
theorem c_kne2 {l : Launch} {Z : State} {a0 : Array Value} (hw : ∀ d ∈ tables_1, d.before a0 Z = true) {h0 : Heap} {n0 : Nat} (sz0 : n0 ≤ h0.size) (o ast aen asp amx : Addr) (se fr : Int64) (sp : Int32) (st0 st1 en0 en1 : Int64) (sp0 sp1 : Int32) (m1 m2 m4 m8 m16 m17 : Int64) (q : Int64) (hq : ¬ se.toInt = q.toInt) (hm1 : ¬ m1.toInt = 0) (hm2 : ¬ m2.toInt = 0) (hm4 : ¬ m4.toInt = 0) (hm8 : ¬ m8.toInt = 0) (hm16 : ¬ m16.toInt = 0) (hm17 : ¬ m17.toInt = 0) (gn_o : n0 ≤ o) (gn_ast : n0 ≤ ast) (gn_aen : n0 ≤ aen) (gn_asp : n0 ≤ asp) (gn_amx : n0 ≤ amx) (ne_ast_aen : ast ≠ aen) (ne_ast_asp : ast ≠ asp) (ne_ast_amx : ast ≠ amx) (ne_aen_asp : aen ≠ asp) (ne_aen_amx : aen ≠ amx) (ne_asp_amx : asp ≠ amx) (E_o : Exa Z h0 o "com/example/rehearsal/rehearsal/policies/KnownRuns") (F_o_setting : Fld Z h0 o "com/example/rehearsal/rehearsal/policies/KnownRuns" "setting" "J" (.long se)) (F_o_frontier : Fld Z h0 o "com/example/rehearsal/rehearsal/policies/KnownRuns" "frontier" "J" (.long fr)) (F_o_frontierSpan : Fld Z h0 o "com/example/rehearsal/rehearsal/policies/KnownRuns" "frontierSpan" "I" (.int sp)) (F_o_count : Fld Z h0 o "com/example/rehearsal/rehearsal/policies/KnownRuns" "count" "I" (.int (2 : Int32))) (F_o_room : Fld Z h0 o "com/example/rehearsal/rehearsal/policies/KnownRuns" "room" "I" (.int (16 : Int32))) (F_o_starts : Fld Z h0 o "com/example/rehearsal/rehearsal/policies/KnownRuns" "starts" "[J" (.ref ast)) (F_o_ends : Fld Z h0 o "com/example/rehearsal/rehearsal/policies/KnownRuns" "ends" "[J" (.ref aen)) (F_o_spans : Fld Z h0 o "com/example/rehearsal/rehearsal/policies/KnownRuns" "spans" "[I" (.ref asp)) (F_o_maxima : Fld Z h0 o "com/example/rehearsal/rehearsal/policies/KnownRuns" "maxima" "[J" (.ref amx)) (A_ast : Al Z h0 ast .long [(.long st0), (.long st1), (.long (0 : Int64)), (.long (0 : Int64)), (.long (0 : Int64)), (.long (0 : Int64)), (.long (0 : Int64)), (.long (0 : Int64)), (.long (0 : Int64)), (.long (0 : Int64)), (.long (0 : Int64)), (.long (0 : Int64)), (.long (0 : Int64)), (.long (0 : Int64)), (.long (0 : Int64)), (.long (0 : Int64))]) (A_aen : Al Z h0 aen .long [(.long en0), (.long en1), (.long (0 : Int64)), (.long (0 : Int64)), (.long (0 : Int64)), (.long (0 : Int64)), (.long (0 : Int64)), (.long (0 : Int64)), (.long (0 : Int64)), (.long (0 : Int64)), (.long (0 : Int64)), (.long (0 : Int64)), (.long (0 : Int64)), (.long (0 : Int64)), (.long (0 : Int64)), (.long (0 : Int64))]) (A_asp : Al Z h0 asp .int [(.int sp0), (.int sp1), (.int (0 : Int32)), (.int (0 : Int32)), (.int (0 : Int32)), (.int (0 : Int32)), (.int (0 : Int32)), (.int (0 : Int32)), (.int (0 : Int32)), (.int (0 : Int32)), (.int (0 : Int32)), (.int (0 : Int32)), (.int (0 : Int32)), (.int (0 : Int32)), (.int (0 : Int32)), (.int (0 : Int32))]) (A_amx : Al Z h0 amx .long [(.long (0 : Int64)), (.long m1), (.long m2), (.long (0 : Int64)), (.long m4), (.long (0 : Int64)), (.long (0 : Int64)), (.long (0 : Int64)), (.long m8), (.long (0 : Int64)), (.long (0 : Int64)), (.long (0 : Int64)), (.long (0 : Int64)), (.long (0 : Int64)), (.long (0 : Int64)), (.long (0 : Int64)), (.long m16), (.long m17), (.long (0 : Int64)), (.long (0 : Int64)), (.long (0 : Int64)), (.long (0 : Int64)), (.long (0 : Int64)), (.long (0 : Int64)), (.long (0 : Int64)), (.long (0 : Int64)), (.long (0 : Int64)), (.long (0 : Int64)), (.long (0 : Int64)), (.long (0 : Int64)), (.long (0 : Int64)), (.long (0 : Int64))]) : Con l Z (⟨"com/example/rehearsal/rehearsal/policies/KnownRuns", "keepTo", "(J)V"⟩ : MethodName) prog_102_method_2_code 5 none ({ frames := 0, cells := 0, slots := 0, locals := 0 } : Room) [] #[(.ref o), (.long q)] h0 (fun v h L => v = none ∧ Fr n0 L ∧ Keep h0 h [o, amx] ∧ Exa Z h o "com/example/rehearsal/rehearsal/policies/KnownRuns" ∧ Fld Z h o "com/example/rehearsal/rehearsal/policies/KnownRuns" "setting" "J" (.long q) ∧ Fld Z h o "com/example/rehearsal/rehearsal/policies/KnownRuns" "frontier" "J" (.long (0 : Int64)) ∧ Fld Z h o "com/example/rehearsal/rehearsal/policies/KnownRuns" "frontierSpan" "I" (.int (0 : Int32)) ∧ Fld Z h o "com/example/rehearsal/rehearsal/policies/KnownRuns" "count" "I" (.int (0 : Int32)) ∧ Fld Z h o "com/example/rehearsal/rehearsal/policies/KnownRuns" "room" "I" (.int (16 : Int32)) ∧ Fld Z h o "com/example/rehearsal/rehearsal/policies/KnownRuns" "starts" "[J" (.ref ast) ∧ Fld Z h o "com/example/rehearsal/rehearsal/policies/KnownRuns" "ends" "[J" (.ref aen) ∧ Fld Z h o "com/example/rehearsal/rehearsal/policies/KnownRuns" "spans" "[I" (.ref asp) ∧ Fld Z h o "com/example/rehearsal/rehearsal/policies/KnownRuns" "maxima" "[J" (.ref amx) ∧ Al Z h amx .long [(.long (0 : Int64)), (.long (0 : Int64)), (.long (0 : Int64)), (.long (0 : Int64)), (.long (0 : Int64)), (.long (0 : Int64)), (.long (0 : Int64)), (.long (0 : Int64)), (.long (0 : Int64)), (.long (0 : Int64)), (.long (0 : Int64)), (.long (0 : Int64)), (.long (0 : Int64)), (.long (0 : Int64)), (.long (0 : Int64)), (.long (0 : Int64)), (.long (0 : Int64)), (.long (0 : Int64)), (.long (0 : Int64)), (.long (0 : Int64)), (.long (0 : Int64)), (.long (0 : Int64)), (.long (0 : Int64)), (.long (0 : Int64)), (.long (0 : Int64)), (.long (0 : Int64)), (.long (0 : Int64)), (.long (0 : Int64)), (.long (0 : Int64)), (.long (0 : Int64)), (.long (0 : Int64)), (.long (0 : Int64))]) := by
  refine con_of (Ls := #[.val (.ref o), .val (.long q), .second, .unset, .unset]) (plainFor_of_name (by first | (simp [plainName, overriddenIn]; done) | decide +kernel)) (fun m => by first | (simp [entryFrame, mkF, argsToLocals, Value.category]; done) | rfl) ?_
  have N0 : Fr n0 [] := Fr.nil _
  have K0 : Keep h0 h0 [o, amx] := Keep.refl _ _
  have ne_o_ast : o ≠ ast := ne_al E_o (hw _ w2) A_ast
  have ne_o_aen : o ≠ aen := ne_al E_o (hw _ w2) A_aen
  have ne_o_asp : o ≠ asp := ne_al E_o (hw _ w2) A_asp
  have ne_o_amx : o ≠ amx := ne_al E_o (hw _ w2) A_amx
  refine Go.aloadN (pc' := 1) d4_0 rfl rfl rfl ?_
  refine Go.getF (pc' := 4) d4_1 rfl (hw _ w36) Via.refl F_o_setting ?_
  refine Go.lloadN (pc' := 5) d4_4 rfl rfl ?_
  refine Go.lcmpT (pc' := 10) (X := se.toInt) (Y := q.toInt) d4_5 d4_6 rfl (by decide) rfl rfl (hq : ¬ se.toInt = q.toInt) ?_
  refine Go.iconst (pc' := 11) d4_10 rfl (z := (0 : Int32)) (by decide) ?_
  refine Go.istoreN (pc' := 12) d4_11 rfl (Ls' := #[.val (.ref o), .val (.long q), .second, .val (.int (0 : Int32)), .unset]) rfl ?_
  refine Go.iloadN (pc' := 13) d4_12 rfl rfl ?_
  refine Go.aloadN (pc' := 14) d4_13 rfl rfl rfl ?_
  refine Go.getF (pc' := 17) d4_14 rfl (hw _ w38) Via.refl F_o_count ?_
  refine Go.icmpF (pc' := 20) (X := (0 : Int)) (Y := (2 : Int)) d4_17 rfl (by decide) (by decide) (by decide : (0 : Int) < (2 : Int)) ?_
  refine Go.aloadN (pc' := 21) d4_20 rfl rfl rfl ?_
  refine Go.getF (pc' := 24) d4_21 rfl (hw _ w10) Via.refl F_o_room ?_
  refine Go.iloadN (pc' := 25) d4_24 rfl rfl ?_
  refine Go.iadd (pc' := 26) d4_25 rfl (z := (16 : Int32)) (by decide) ?_
  refine Go.istore (pc' := 28) d4_26 rfl (Ls' := #[.val (.ref o), .val (.long q), .second, .val (.int (0 : Int32)), .val (.int (16 : Int32))]) rfl ?_
  refine Go.iload (pc' := 30) d4_28 rfl rfl ?_
  refine Go.iconst (pc' := 31) d4_30 rfl (z := (1 : Int32)) (by decide) ?_
  refine Go.icmpF (pc' := 34) (X := (16 : Int)) (Y := (1 : Int)) d4_31 rfl (by decide) (by decide) (by decide : ¬ (16 : Int) < (1 : Int)) ?_
  refine Go.aloadN (pc' := 35) d4_34 rfl rfl rfl ?_
  refine Go.getF (pc' := 38) d4_35 rfl (hw _ w20) Via.refl F_o_maxima ?_
  refine Go.iload (pc' := 40) d4_38 rfl rfl ?_
  refine Go.laload (pc' := 41) d4_40 rfl (i := 16) (v := (.long m16)) A_amx (by decide) rfl ?_
  refine Go.lconst (pc' := 42) d4_41 rfl (z := (0 : Int64)) (by decide) ?_
  refine Go.lcmpF (pc' := 46) (X := m16.toInt) (Y := (0 : Int)) d4_42 d4_43 rfl rfl rfl (by decide) (hm16 : ¬ m16.toInt = (0 : Int)) ?_
  refine Go.aloadN (pc' := 47) d4_46 rfl rfl rfl ?_
  refine Go.getF (pc' := 50) d4_47 rfl (hw _ w20) Via.refl F_o_maxima ?_
  refine Go.iload (pc' := 52) d4_50 rfl rfl ?_
  refine Go.lconst (pc' := 53) d4_52 rfl (z := (0 : Int64)) (by decide) ?_
  refine Go.lastore (pc' := 54) (i := 16) (v := (.long (0 : Int64))) (vs' := [(.long (0 : Int64)), (.long m1), (.long m2), (.long (0 : Int64)), (.long m4), (.long (0 : Int64)), (.long (0 : Int64)), (.long (0 : Int64)), (.long m8), (.long (0 : Int64)), (.long (0 : Int64)), (.long (0 : Int64)), (.long (0 : Int64)), (.long (0 : Int64)), (.long (0 : Int64)), (.long (0 : Int64)), (.long (0 : Int64)), (.long m17), (.long (0 : Int64)), (.long (0 : Int64)), (.long (0 : Int64)), (.long (0 : Int64)), (.long (0 : Int64)), (.long (0 : Int64)), (.long (0 : Int64)), (.long (0 : Int64)), (.long (0 : Int64)), (.long (0 : Int64)), (.long (0 : Int64)), (.long (0 : Int64)), (.long (0 : Int64)), (.long (0 : Int64))]) d4_53 rfl A_amx (by decide) (Nat.le_of_ble_eq_true rfl) rfl rfl ?_
  intro h1 L1 NL1 W1 B1
  replace N0 := NL1 _ N0 gn_amx
  replace sz0 : n0 ≤ h1.size := by rw [W1.size]; exact sz0
  replace E_o := E_o.wr W1
  replace F_o_setting := F_o_setting.other W1 (Or.inl ne_o_amx)
  replace F_o_frontier := F_o_frontier.other W1 (Or.inl ne_o_amx)
  replace F_o_frontierSpan := F_o_frontierSpan.other W1 (Or.inl ne_o_amx)
  replace F_o_count := F_o_count.other W1 (Or.inl ne_o_amx)
  replace F_o_room := F_o_room.other W1 (Or.inl ne_o_amx)
  replace F_o_starts := F_o_starts.other W1 (Or.inl ne_o_amx)
  replace F_o_ends := F_o_ends.other W1 (Or.inl ne_o_amx)
  replace F_o_spans := F_o_spans.other W1 (Or.inl ne_o_amx)
  replace F_o_maxima := F_o_maxima.other W1 (Or.inl ne_o_amx)
  replace A_ast := A_ast.other W1 ne_ast_amx
  replace A_aen := A_aen.other W1 ne_aen_amx
  replace A_asp := A_asp.other W1 ne_asp_amx
  replace K0 := K0.wr W1 (Or.inl (by simp))
  clear A_amx; have A_amx := B1
  refine Go.iload (pc' := 56) d4_54 rfl rfl ?_
  refine Go.iconst (pc' := 57) d4_56 rfl (z := (2 : Int32)) (by decide) ?_
  refine Go.idiv (pc' := 58) d4_57 rfl (by decide) (z := (8 : Int32)) (by decide) ?_
  refine Go.istore (pc' := 60) d4_58 rfl (Ls' := #[.val (.ref o), .val (.long q), .second, .val (.int (0 : Int32)), .val (.int (8 : Int32))]) rfl ?_
  refine Go.goto (pc' := 28) d4_60 (by decide) ?_
  refine Go.iload (pc' := 30) d4_28 rfl rfl ?_
  refine Go.iconst (pc' := 31) d4_30 rfl (z := (1 : Int32)) (by decide) ?_
  refine Go.icmpF (pc' := 34) (X := (8 : Int)) (Y := (1 : Int)) d4_31 rfl (by decide) (by decide) (by decide : ¬ (8 : Int) < (1 : Int)) ?_
  refine Go.aloadN (pc' := 35) d4_34 rfl rfl rfl ?_
  refine Go.getF (pc' := 38) d4_35 rfl (hw _ w20) Via.refl F_o_maxima ?_
  refine Go.iload (pc' := 40) d4_38 rfl rfl ?_
  refine Go.laload (pc' := 41) d4_40 rfl (i := 8) (v := (.long m8)) A_amx (by decide) rfl ?_
  refine Go.lconst (pc' := 42) d4_41 rfl (z := (0 : Int64)) (by decide) ?_
  refine Go.lcmpF (pc' := 46) (X := m8.toInt) (Y := (0 : Int)) d4_42 d4_43 rfl rfl rfl (by decide) (hm8 : ¬ m8.toInt = (0 : Int)) ?_
  refine Go.aloadN (pc' := 47) d4_46 rfl rfl rfl ?_
  refine Go.getF (pc' := 50) d4_47 rfl (hw _ w20) Via.refl F_o_maxima ?_
  refine Go.iload (pc' := 52) d4_50 rfl rfl ?_
  refine Go.lconst (pc' := 53) d4_52 rfl (z := (0 : Int64)) (by decide) ?_
  refine Go.lastore (pc' := 54) (i := 8) (v := (.long (0 : Int64))) (vs' := [(.long (0 : Int64)), (.long m1), (.long m2), (.long (0 : Int64)), (.long m4), (.long (0 : Int64)), (.long (0 : Int64)), (.long (0 : Int64)), (.long (0 : Int64)), (.long (0 : Int64)), (.long (0 : Int64)), (.long (0 : Int64)), (.long (0 : Int64)), (.long (0 : Int64)), (.long (0 : Int64)), (.long (0 : Int64)), (.long (0 : Int64)), (.long m17), (.long (0 : Int64)), (.long (0 : Int64)), (.long (0 : Int64)), (.long (0 : Int64)), (.long (0 : Int64)), (.long (0 : Int64)), (.long (0 : Int64)), (.long (0 : Int64)), (.long (0 : Int64)), (.long (0 : Int64)), (.long (0 : Int64)), (.long (0 : Int64)), (.long (0 : Int64)), (.long (0 : Int64))]) d4_53 rfl A_amx (by decide) (Nat.le_of_ble_eq_true rfl) rfl rfl ?_
  intro h2 L2 NL2 W2 B2
  replace N0 := NL2 _ N0 gn_amx
  replace sz0 : n0 ≤ h2.size := by rw [W2.size]; exact sz0
  replace E_o := E_o.wr W2
  replace F_o_setting := F_o_setting.other W2 (Or.inl ne_o_amx)
  replace F_o_frontier := F_o_frontier.other W2 (Or.inl ne_o_amx)
  replace F_o_frontierSpan := F_o_frontierSpan.other W2 (Or.inl ne_o_amx)
  replace F_o_count := F_o_count.other W2 (Or.inl ne_o_amx)
  replace F_o_room := F_o_room.other W2 (Or.inl ne_o_amx)
  replace F_o_starts := F_o_starts.other W2 (Or.inl ne_o_amx)
  replace F_o_ends := F_o_ends.other W2 (Or.inl ne_o_amx)
  replace F_o_spans := F_o_spans.other W2 (Or.inl ne_o_amx)
  replace F_o_maxima := F_o_maxima.other W2 (Or.inl ne_o_amx)
  replace A_ast := A_ast.other W2 ne_ast_amx
  replace A_aen := A_aen.other W2 ne_aen_amx
  replace A_asp := A_asp.other W2 ne_asp_amx
  replace K0 := K0.wr W2 (Or.inl (by simp))
  clear A_amx; have A_amx := B2
  refine Go.iload (pc' := 56) d4_54 rfl rfl ?_
  refine Go.iconst (pc' := 57) d4_56 rfl (z := (2 : Int32)) (by decide) ?_
  refine Go.idiv (pc' := 58) d4_57 rfl (by decide) (z := (4 : Int32)) (by decide) ?_
  refine Go.istore (pc' := 60) d4_58 rfl (Ls' := #[.val (.ref o), .val (.long q), .second, .val (.int (0 : Int32)), .val (.int (4 : Int32))]) rfl ?_
  refine Go.goto (pc' := 28) d4_60 (by decide) ?_
  refine Go.iload (pc' := 30) d4_28 rfl rfl ?_
  refine Go.iconst (pc' := 31) d4_30 rfl (z := (1 : Int32)) (by decide) ?_
  refine Go.icmpF (pc' := 34) (X := (4 : Int)) (Y := (1 : Int)) d4_31 rfl (by decide) (by decide) (by decide : ¬ (4 : Int) < (1 : Int)) ?_
  refine Go.aloadN (pc' := 35) d4_34 rfl rfl rfl ?_
  refine Go.getF (pc' := 38) d4_35 rfl (hw _ w20) Via.refl F_o_maxima ?_
  refine Go.iload (pc' := 40) d4_38 rfl rfl ?_
  refine Go.laload (pc' := 41) d4_40 rfl (i := 4) (v := (.long m4)) A_amx (by decide) rfl ?_
  refine Go.lconst (pc' := 42) d4_41 rfl (z := (0 : Int64)) (by decide) ?_
  refine Go.lcmpF (pc' := 46) (X := m4.toInt) (Y := (0 : Int)) d4_42 d4_43 rfl rfl rfl (by decide) (hm4 : ¬ m4.toInt = (0 : Int)) ?_
  refine Go.aloadN (pc' := 47) d4_46 rfl rfl rfl ?_
  refine Go.getF (pc' := 50) d4_47 rfl (hw _ w20) Via.refl F_o_maxima ?_
  refine Go.iload (pc' := 52) d4_50 rfl rfl ?_
  refine Go.lconst (pc' := 53) d4_52 rfl (z := (0 : Int64)) (by decide) ?_
  refine Go.lastore (pc' := 54) (i := 4) (v := (.long (0 : Int64))) (vs' := [(.long (0 : Int64)), (.long m1), (.long m2), (.long (0 : Int64)), (.long (0 : Int64)), (.long (0 : Int64)), (.long (0 : Int64)), (.long (0 : Int64)), (.long (0 : Int64)), (.long (0 : Int64)), (.long (0 : Int64)), (.long (0 : Int64)), (.long (0 : Int64)), (.long (0 : Int64)), (.long (0 : Int64)), (.long (0 : Int64)), (.long (0 : Int64)), (.long m17), (.long (0 : Int64)), (.long (0 : Int64)), (.long (0 : Int64)), (.long (0 : Int64)), (.long (0 : Int64)), (.long (0 : Int64)), (.long (0 : Int64)), (.long (0 : Int64)), (.long (0 : Int64)), (.long (0 : Int64)), (.long (0 : Int64)), (.long (0 : Int64)), (.long (0 : Int64)), (.long (0 : Int64))]) d4_53 rfl A_amx (by decide) (Nat.le_of_ble_eq_true rfl) rfl rfl ?_
  intro h3 L3 NL3 W3 B3
  replace N0 := NL3 _ N0 gn_amx
  replace sz0 : n0 ≤ h3.size := by rw [W3.size]; exact sz0
  replace E_o := E_o.wr W3
  replace F_o_setting := F_o_setting.other W3 (Or.inl ne_o_amx)
  replace F_o_frontier := F_o_frontier.other W3 (Or.inl ne_o_amx)
  replace F_o_frontierSpan := F_o_frontierSpan.other W3 (Or.inl ne_o_amx)
  replace F_o_count := F_o_count.other W3 (Or.inl ne_o_amx)
  replace F_o_room := F_o_room.other W3 (Or.inl ne_o_amx)
  replace F_o_starts := F_o_starts.other W3 (Or.inl ne_o_amx)
  replace F_o_ends := F_o_ends.other W3 (Or.inl ne_o_amx)
  replace F_o_spans := F_o_spans.other W3 (Or.inl ne_o_amx)
  replace F_o_maxima := F_o_maxima.other W3 (Or.inl ne_o_amx)
  replace A_ast := A_ast.other W3 ne_ast_amx
  replace A_aen := A_aen.other W3 ne_aen_amx
  replace A_asp := A_asp.other W3 ne_asp_amx
  replace K0 := K0.wr W3 (Or.inl (by simp))
  clear A_amx; have A_amx := B3
  refine Go.iload (pc' := 56) d4_54 rfl rfl ?_
  refine Go.iconst (pc' := 57) d4_56 rfl (z := (2 : Int32)) (by decide) ?_
  refine Go.idiv (pc' := 58) d4_57 rfl (by decide) (z := (2 : Int32)) (by decide) ?_
  refine Go.istore (pc' := 60) d4_58 rfl (Ls' := #[.val (.ref o), .val (.long q), .second, .val (.int (0 : Int32)), .val (.int (2 : Int32))]) rfl ?_
  refine Go.goto (pc' := 28) d4_60 (by decide) ?_
  refine Go.iload (pc' := 30) d4_28 rfl rfl ?_
  refine Go.iconst (pc' := 31) d4_30 rfl (z := (1 : Int32)) (by decide) ?_
  refine Go.icmpF (pc' := 34) (X := (2 : Int)) (Y := (1 : Int)) d4_31 rfl (by decide) (by decide) (by decide : ¬ (2 : Int) < (1 : Int)) ?_
  refine Go.aloadN (pc' := 35) d4_34 rfl rfl rfl ?_
  refine Go.getF (pc' := 38) d4_35 rfl (hw _ w20) Via.refl F_o_maxima ?_
  refine Go.iload (pc' := 40) d4_38 rfl rfl ?_
  refine Go.laload (pc' := 41) d4_40 rfl (i := 2) (v := (.long m2)) A_amx (by decide) rfl ?_
  refine Go.lconst (pc' := 42) d4_41 rfl (z := (0 : Int64)) (by decide) ?_
  refine Go.lcmpF (pc' := 46) (X := m2.toInt) (Y := (0 : Int)) d4_42 d4_43 rfl rfl rfl (by decide) (hm2 : ¬ m2.toInt = (0 : Int)) ?_
  refine Go.aloadN (pc' := 47) d4_46 rfl rfl rfl ?_
  refine Go.getF (pc' := 50) d4_47 rfl (hw _ w20) Via.refl F_o_maxima ?_
  refine Go.iload (pc' := 52) d4_50 rfl rfl ?_
  refine Go.lconst (pc' := 53) d4_52 rfl (z := (0 : Int64)) (by decide) ?_
  refine Go.lastore (pc' := 54) (i := 2) (v := (.long (0 : Int64))) (vs' := [(.long (0 : Int64)), (.long m1), (.long (0 : Int64)), (.long (0 : Int64)), (.long (0 : Int64)), (.long (0 : Int64)), (.long (0 : Int64)), (.long (0 : Int64)), (.long (0 : Int64)), (.long (0 : Int64)), (.long (0 : Int64)), (.long (0 : Int64)), (.long (0 : Int64)), (.long (0 : Int64)), (.long (0 : Int64)), (.long (0 : Int64)), (.long (0 : Int64)), (.long m17), (.long (0 : Int64)), (.long (0 : Int64)), (.long (0 : Int64)), (.long (0 : Int64)), (.long (0 : Int64)), (.long (0 : Int64)), (.long (0 : Int64)), (.long (0 : Int64)), (.long (0 : Int64)), (.long (0 : Int64)), (.long (0 : Int64)), (.long (0 : Int64)), (.long (0 : Int64)), (.long (0 : Int64))]) d4_53 rfl A_amx (by decide) (Nat.le_of_ble_eq_true rfl) rfl rfl ?_
  intro h4 L4 NL4 W4 B4
  replace N0 := NL4 _ N0 gn_amx
  replace sz0 : n0 ≤ h4.size := by rw [W4.size]; exact sz0
  replace E_o := E_o.wr W4
  replace F_o_setting := F_o_setting.other W4 (Or.inl ne_o_amx)
  replace F_o_frontier := F_o_frontier.other W4 (Or.inl ne_o_amx)
  replace F_o_frontierSpan := F_o_frontierSpan.other W4 (Or.inl ne_o_amx)
  replace F_o_count := F_o_count.other W4 (Or.inl ne_o_amx)
  replace F_o_room := F_o_room.other W4 (Or.inl ne_o_amx)
  replace F_o_starts := F_o_starts.other W4 (Or.inl ne_o_amx)
  replace F_o_ends := F_o_ends.other W4 (Or.inl ne_o_amx)
  replace F_o_spans := F_o_spans.other W4 (Or.inl ne_o_amx)
  replace F_o_maxima := F_o_maxima.other W4 (Or.inl ne_o_amx)
  replace A_ast := A_ast.other W4 ne_ast_amx
  replace A_aen := A_aen.other W4 ne_aen_amx
  replace A_asp := A_asp.other W4 ne_asp_amx
  replace K0 := K0.wr W4 (Or.inl (by simp))
  clear A_amx; have A_amx := B4
  refine Go.iload (pc' := 56) d4_54 rfl rfl ?_
  refine Go.iconst (pc' := 57) d4_56 rfl (z := (2 : Int32)) (by decide) ?_
  refine Go.idiv (pc' := 58) d4_57 rfl (by decide) (z := (1 : Int32)) (by decide) ?_
  refine Go.istore (pc' := 60) d4_58 rfl (Ls' := #[.val (.ref o), .val (.long q), .second, .val (.int (0 : Int32)), .val (.int (1 : Int32))]) rfl ?_
  refine Go.goto (pc' := 28) d4_60 (by decide) ?_
  refine Go.iload (pc' := 30) d4_28 rfl rfl ?_
  refine Go.iconst (pc' := 31) d4_30 rfl (z := (1 : Int32)) (by decide) ?_
  refine Go.icmpF (pc' := 34) (X := (1 : Int)) (Y := (1 : Int)) d4_31 rfl (by decide) (by decide) (by decide : ¬ (1 : Int) < (1 : Int)) ?_
  refine Go.aloadN (pc' := 35) d4_34 rfl rfl rfl ?_
  refine Go.getF (pc' := 38) d4_35 rfl (hw _ w20) Via.refl F_o_maxima ?_
  refine Go.iload (pc' := 40) d4_38 rfl rfl ?_
  refine Go.laload (pc' := 41) d4_40 rfl (i := 1) (v := (.long m1)) A_amx (by decide) rfl ?_
  refine Go.lconst (pc' := 42) d4_41 rfl (z := (0 : Int64)) (by decide) ?_
  refine Go.lcmpF (pc' := 46) (X := m1.toInt) (Y := (0 : Int)) d4_42 d4_43 rfl rfl rfl (by decide) (hm1 : ¬ m1.toInt = (0 : Int)) ?_
  refine Go.aloadN (pc' := 47) d4_46 rfl rfl rfl ?_
  refine Go.getF (pc' := 50) d4_47 rfl (hw _ w20) Via.refl F_o_maxima ?_
  refine Go.iload (pc' := 52) d4_50 rfl rfl ?_
  refine Go.lconst (pc' := 53) d4_52 rfl (z := (0 : Int64)) (by decide) ?_
  refine Go.lastore (pc' := 54) (i := 1) (v := (.long (0 : Int64))) (vs' := [(.long (0 : Int64)), (.long (0 : Int64)), (.long (0 : Int64)), (.long (0 : Int64)), (.long (0 : Int64)), (.long (0 : Int64)), (.long (0 : Int64)), (.long (0 : Int64)), (.long (0 : Int64)), (.long (0 : Int64)), (.long (0 : Int64)), (.long (0 : Int64)), (.long (0 : Int64)), (.long (0 : Int64)), (.long (0 : Int64)), (.long (0 : Int64)), (.long (0 : Int64)), (.long m17), (.long (0 : Int64)), (.long (0 : Int64)), (.long (0 : Int64)), (.long (0 : Int64)), (.long (0 : Int64)), (.long (0 : Int64)), (.long (0 : Int64)), (.long (0 : Int64)), (.long (0 : Int64)), (.long (0 : Int64)), (.long (0 : Int64)), (.long (0 : Int64)), (.long (0 : Int64)), (.long (0 : Int64))]) d4_53 rfl A_amx (by decide) (Nat.le_of_ble_eq_true rfl) rfl rfl ?_
  intro h5 L5 NL5 W5 B5
  replace N0 := NL5 _ N0 gn_amx
  replace sz0 : n0 ≤ h5.size := by rw [W5.size]; exact sz0
  replace E_o := E_o.wr W5
  replace F_o_setting := F_o_setting.other W5 (Or.inl ne_o_amx)
  replace F_o_frontier := F_o_frontier.other W5 (Or.inl ne_o_amx)
  replace F_o_frontierSpan := F_o_frontierSpan.other W5 (Or.inl ne_o_amx)
  replace F_o_count := F_o_count.other W5 (Or.inl ne_o_amx)
  replace F_o_room := F_o_room.other W5 (Or.inl ne_o_amx)
  replace F_o_starts := F_o_starts.other W5 (Or.inl ne_o_amx)
  replace F_o_ends := F_o_ends.other W5 (Or.inl ne_o_amx)
  replace F_o_spans := F_o_spans.other W5 (Or.inl ne_o_amx)
  replace F_o_maxima := F_o_maxima.other W5 (Or.inl ne_o_amx)
  replace A_ast := A_ast.other W5 ne_ast_amx
  replace A_aen := A_aen.other W5 ne_aen_amx
  replace A_asp := A_asp.other W5 ne_asp_amx
  replace K0 := K0.wr W5 (Or.inl (by simp))
  clear A_amx; have A_amx := B5
  refine Go.iload (pc' := 56) d4_54 rfl rfl ?_
  refine Go.iconst (pc' := 57) d4_56 rfl (z := (2 : Int32)) (by decide) ?_
  refine Go.idiv (pc' := 58) d4_57 rfl (by decide) (z := (0 : Int32)) (by decide) ?_
  refine Go.istore (pc' := 60) d4_58 rfl (Ls' := #[.val (.ref o), .val (.long q), .second, .val (.int (0 : Int32)), .val (.int (0 : Int32))]) rfl ?_
  refine Go.goto (pc' := 28) d4_60 (by decide) ?_
  refine Go.iload (pc' := 30) d4_28 rfl rfl ?_
  refine Go.iconst (pc' := 31) d4_30 rfl (z := (1 : Int32)) (by decide) ?_
  refine Go.icmpT (pc' := 63) (X := (0 : Int)) (Y := (1 : Int)) d4_31 (by decide) (by decide) (by decide) (by decide : (0 : Int) < (1 : Int)) ?_
  refine Go.iinc (pc' := 66) d4_63 rfl rfl (z := (1 : Int32)) (by decide) (Ls' := #[.val (.ref o), .val (.long q), .second, .val (.int (1 : Int32)), .val (.int (0 : Int32))]) rfl ?_
  refine Go.goto (pc' := 12) d4_66 (by decide) ?_
  refine Go.iloadN (pc' := 13) d4_12 rfl rfl ?_
  refine Go.aloadN (pc' := 14) d4_13 rfl rfl rfl ?_
  refine Go.getF (pc' := 17) d4_14 rfl (hw _ w38) Via.refl F_o_count ?_
  refine Go.icmpF (pc' := 20) (X := (1 : Int)) (Y := (2 : Int)) d4_17 rfl (by decide) (by decide) (by decide : (1 : Int) < (2 : Int)) ?_
  refine Go.aloadN (pc' := 21) d4_20 rfl rfl rfl ?_
  refine Go.getF (pc' := 24) d4_21 rfl (hw _ w10) Via.refl F_o_room ?_
  refine Go.iloadN (pc' := 25) d4_24 rfl rfl ?_
  refine Go.iadd (pc' := 26) d4_25 rfl (z := (17 : Int32)) (by decide) ?_
  refine Go.istore (pc' := 28) d4_26 rfl (Ls' := #[.val (.ref o), .val (.long q), .second, .val (.int (1 : Int32)), .val (.int (17 : Int32))]) rfl ?_
  refine Go.iload (pc' := 30) d4_28 rfl rfl ?_
  refine Go.iconst (pc' := 31) d4_30 rfl (z := (1 : Int32)) (by decide) ?_
  refine Go.icmpF (pc' := 34) (X := (17 : Int)) (Y := (1 : Int)) d4_31 rfl (by decide) (by decide) (by decide : ¬ (17 : Int) < (1 : Int)) ?_
  refine Go.aloadN (pc' := 35) d4_34 rfl rfl rfl ?_
  refine Go.getF (pc' := 38) d4_35 rfl (hw _ w20) Via.refl F_o_maxima ?_
  refine Go.iload (pc' := 40) d4_38 rfl rfl ?_
  refine Go.laload (pc' := 41) d4_40 rfl (i := 17) (v := (.long m17)) A_amx (by decide) rfl ?_
  refine Go.lconst (pc' := 42) d4_41 rfl (z := (0 : Int64)) (by decide) ?_
  refine Go.lcmpF (pc' := 46) (X := m17.toInt) (Y := (0 : Int)) d4_42 d4_43 rfl rfl rfl (by decide) (hm17 : ¬ m17.toInt = (0 : Int)) ?_
  refine Go.aloadN (pc' := 47) d4_46 rfl rfl rfl ?_
  refine Go.getF (pc' := 50) d4_47 rfl (hw _ w20) Via.refl F_o_maxima ?_
  refine Go.iload (pc' := 52) d4_50 rfl rfl ?_
  refine Go.lconst (pc' := 53) d4_52 rfl (z := (0 : Int64)) (by decide) ?_
  refine Go.lastore (pc' := 54) (i := 17) (v := (.long (0 : Int64))) (vs' := [(.long (0 : Int64)), (.long (0 : Int64)), (.long (0 : Int64)), (.long (0 : Int64)), (.long (0 : Int64)), (.long (0 : Int64)), (.long (0 : Int64)), (.long (0 : Int64)), (.long (0 : Int64)), (.long (0 : Int64)), (.long (0 : Int64)), (.long (0 : Int64)), (.long (0 : Int64)), (.long (0 : Int64)), (.long (0 : Int64)), (.long (0 : Int64)), (.long (0 : Int64)), (.long (0 : Int64)), (.long (0 : Int64)), (.long (0 : Int64)), (.long (0 : Int64)), (.long (0 : Int64)), (.long (0 : Int64)), (.long (0 : Int64)), (.long (0 : Int64)), (.long (0 : Int64)), (.long (0 : Int64)), (.long (0 : Int64)), (.long (0 : Int64)), (.long (0 : Int64)), (.long (0 : Int64)), (.long (0 : Int64))]) d4_53 rfl A_amx (by decide) (Nat.le_of_ble_eq_true rfl) rfl rfl ?_
  intro h6 L6 NL6 W6 B6
  replace N0 := NL6 _ N0 gn_amx
  replace sz0 : n0 ≤ h6.size := by rw [W6.size]; exact sz0
  replace E_o := E_o.wr W6
  replace F_o_setting := F_o_setting.other W6 (Or.inl ne_o_amx)
  replace F_o_frontier := F_o_frontier.other W6 (Or.inl ne_o_amx)
  replace F_o_frontierSpan := F_o_frontierSpan.other W6 (Or.inl ne_o_amx)
  replace F_o_count := F_o_count.other W6 (Or.inl ne_o_amx)
  replace F_o_room := F_o_room.other W6 (Or.inl ne_o_amx)
  replace F_o_starts := F_o_starts.other W6 (Or.inl ne_o_amx)
  replace F_o_ends := F_o_ends.other W6 (Or.inl ne_o_amx)
  replace F_o_spans := F_o_spans.other W6 (Or.inl ne_o_amx)
  replace F_o_maxima := F_o_maxima.other W6 (Or.inl ne_o_amx)
  replace A_ast := A_ast.other W6 ne_ast_amx
  replace A_aen := A_aen.other W6 ne_aen_amx
  replace A_asp := A_asp.other W6 ne_asp_amx
  replace K0 := K0.wr W6 (Or.inl (by simp))
  clear A_amx; have A_amx := B6
  refine Go.iload (pc' := 56) d4_54 rfl rfl ?_
  refine Go.iconst (pc' := 57) d4_56 rfl (z := (2 : Int32)) (by decide) ?_
  refine Go.idiv (pc' := 58) d4_57 rfl (by decide) (z := (8 : Int32)) (by decide) ?_
  refine Go.istore (pc' := 60) d4_58 rfl (Ls' := #[.val (.ref o), .val (.long q), .second, .val (.int (1 : Int32)), .val (.int (8 : Int32))]) rfl ?_
  refine Go.goto (pc' := 28) d4_60 (by decide) ?_
  refine Go.iload (pc' := 30) d4_28 rfl rfl ?_
  refine Go.iconst (pc' := 31) d4_30 rfl (z := (1 : Int32)) (by decide) ?_
  refine Go.icmpF (pc' := 34) (X := (8 : Int)) (Y := (1 : Int)) d4_31 rfl (by decide) (by decide) (by decide : ¬ (8 : Int) < (1 : Int)) ?_
  refine Go.aloadN (pc' := 35) d4_34 rfl rfl rfl ?_
  refine Go.getF (pc' := 38) d4_35 rfl (hw _ w20) Via.refl F_o_maxima ?_
  refine Go.iload (pc' := 40) d4_38 rfl rfl ?_
  refine Go.laload (pc' := 41) d4_40 rfl (i := 8) (v := (.long (0 : Int64))) A_amx (by decide) rfl ?_
  refine Go.lconst (pc' := 42) d4_41 rfl (z := (0 : Int64)) (by decide) ?_
  refine Go.lcmpT (pc' := 63) (X := (0 : Int)) (Y := (0 : Int)) d4_42 d4_43 rfl (by decide) (by decide) (by decide) (by decide : (0 : Int) = (0 : Int)) ?_
  refine Go.iinc (pc' := 66) d4_63 rfl rfl (z := (2 : Int32)) (by decide) (Ls' := #[.val (.ref o), .val (.long q), .second, .val (.int (2 : Int32)), .val (.int (8 : Int32))]) rfl ?_
  refine Go.goto (pc' := 12) d4_66 (by decide) ?_
  refine Go.iloadN (pc' := 13) d4_12 rfl rfl ?_
  refine Go.aloadN (pc' := 14) d4_13 rfl rfl rfl ?_
  refine Go.getF (pc' := 17) d4_14 rfl (hw _ w38) Via.refl F_o_count ?_
  refine Go.icmpT (pc' := 69) (X := (2 : Int)) (Y := (2 : Int)) d4_17 (by decide) (by decide) (by decide) (by decide : ¬ (2 : Int) < (2 : Int)) ?_
  refine Go.aloadN (pc' := 70) d4_69 rfl rfl rfl ?_
  refine Go.lloadN (pc' := 71) d4_70 rfl rfl ?_
  refine Go.putF (pc' := 74) d4_71 rfl (hw _ w36) Via.refl F_o_setting E_o (Or.inl (hw _ w37)) (hw _ w2) (ty := .long) (by decide) rfl rfl ?_
  intro h7 L7 NL7 W7
  replace F_o_setting := F_o_setting.same W7
  replace N0 := NL7 _ N0 gn_o
  replace sz0 : n0 ≤ h7.size := by rw [W7.size]; exact sz0
  replace E_o := E_o.wr W7
  replace F_o_frontier := F_o_frontier.other W7 (Or.inr (slot_ne (Or.inl (hw _ w28)) (Or.inl (hw _ w37)) (by decide) (t := .long) (t' := .long) (by decide) (by decide)))
  replace F_o_frontierSpan := F_o_frontierSpan.other W7 (Or.inr (slot_ne (Or.inl (hw _ w30)) (Or.inl (hw _ w37)) (by decide) (t := .int) (t' := .long) (by decide) (by decide)))
  replace F_o_count := F_o_count.other W7 (Or.inr (slot_ne (Or.inl (hw _ w39)) (Or.inl (hw _ w37)) (by decide) (t := .int) (t' := .long) (by decide) (by decide)))
  replace F_o_room := F_o_room.other W7 (Or.inr (slot_ne (Or.inl (hw _ w11)) (Or.inl (hw _ w37)) (by decide) (t := .int) (t' := .long) (by decide) (by decide)))
  replace F_o_starts := F_o_starts.other W7 (Or.inr (slot_ne (Or.inl (hw _ w14)) (Or.inl (hw _ w37)) (by decide) (t := (.array .long)) (t' := .long) (by decide) (by decide)))
  replace F_o_ends := F_o_ends.other W7 (Or.inr (slot_ne (Or.inl (hw _ w16)) (Or.inl (hw _ w37)) (by decide) (t := (.array .long)) (t' := .long) (by decide) (by decide)))
  replace F_o_spans := F_o_spans.other W7 (Or.inr (slot_ne (Or.inl (hw _ w19)) (Or.inl (hw _ w37)) (by decide) (t := (.array .int)) (t' := .long) (by decide) (by decide)))
  replace F_o_maxima := F_o_maxima.other W7 (Or.inr (slot_ne (Or.inl (hw _ w21)) (Or.inl (hw _ w37)) (by decide) (t := (.array .long)) (t' := .long) (by decide) (by decide)))
  replace A_ast := A_ast.other W7 (Ne.symm ne_o_ast)
  replace A_aen := A_aen.other W7 (Ne.symm ne_o_aen)
  replace A_asp := A_asp.other W7 (Ne.symm ne_o_asp)
  replace A_amx := A_amx.other W7 (Ne.symm ne_o_amx)
  replace K0 := K0.wr W7 (Or.inl (by simp))
  refine Go.aloadN (pc' := 75) d4_74 rfl rfl rfl ?_
  refine Go.lconst (pc' := 76) d4_75 rfl (z := (0 : Int64)) (by decide) ?_
  refine Go.putF (pc' := 79) d4_76 rfl (hw _ w27) Via.refl F_o_frontier E_o (Or.inl (hw _ w28)) (hw _ w2) (ty := .long) (by decide) rfl rfl ?_
  intro h8 L8 NL8 W8
  replace F_o_frontier := F_o_frontier.same W8
  replace N0 := NL8 _ N0 gn_o
  replace sz0 : n0 ≤ h8.size := by rw [W8.size]; exact sz0
  replace E_o := E_o.wr W8
  replace F_o_setting := F_o_setting.other W8 (Or.inr (slot_ne (Or.inl (hw _ w37)) (Or.inl (hw _ w28)) (by decide) (t := .long) (t' := .long) (by decide) (by decide)))
  replace F_o_frontierSpan := F_o_frontierSpan.other W8 (Or.inr (slot_ne (Or.inl (hw _ w30)) (Or.inl (hw _ w28)) (by decide) (t := .int) (t' := .long) (by decide) (by decide)))
  replace F_o_count := F_o_count.other W8 (Or.inr (slot_ne (Or.inl (hw _ w39)) (Or.inl (hw _ w28)) (by decide) (t := .int) (t' := .long) (by decide) (by decide)))
  replace F_o_room := F_o_room.other W8 (Or.inr (slot_ne (Or.inl (hw _ w11)) (Or.inl (hw _ w28)) (by decide) (t := .int) (t' := .long) (by decide) (by decide)))
  replace F_o_starts := F_o_starts.other W8 (Or.inr (slot_ne (Or.inl (hw _ w14)) (Or.inl (hw _ w28)) (by decide) (t := (.array .long)) (t' := .long) (by decide) (by decide)))
  replace F_o_ends := F_o_ends.other W8 (Or.inr (slot_ne (Or.inl (hw _ w16)) (Or.inl (hw _ w28)) (by decide) (t := (.array .long)) (t' := .long) (by decide) (by decide)))
  replace F_o_spans := F_o_spans.other W8 (Or.inr (slot_ne (Or.inl (hw _ w19)) (Or.inl (hw _ w28)) (by decide) (t := (.array .int)) (t' := .long) (by decide) (by decide)))
  replace F_o_maxima := F_o_maxima.other W8 (Or.inr (slot_ne (Or.inl (hw _ w21)) (Or.inl (hw _ w28)) (by decide) (t := (.array .long)) (t' := .long) (by decide) (by decide)))
  replace A_ast := A_ast.other W8 (Ne.symm ne_o_ast)
  replace A_aen := A_aen.other W8 (Ne.symm ne_o_aen)
  replace A_asp := A_asp.other W8 (Ne.symm ne_o_asp)
  replace A_amx := A_amx.other W8 (Ne.symm ne_o_amx)
  replace K0 := K0.wr W8 (Or.inl (by simp))
  refine Go.aloadN (pc' := 80) d4_79 rfl rfl rfl ?_
  refine Go.iconst (pc' := 81) d4_80 rfl (z := (0 : Int32)) (by decide) ?_
  refine Go.putF (pc' := 84) d4_81 rfl (hw _ w29) Via.refl F_o_frontierSpan E_o (Or.inl (hw _ w30)) (hw _ w2) (ty := .int) (by decide) rfl rfl ?_
  intro h9 L9 NL9 W9
  replace F_o_frontierSpan := F_o_frontierSpan.same W9
  replace N0 := NL9 _ N0 gn_o
  replace sz0 : n0 ≤ h9.size := by rw [W9.size]; exact sz0
  replace E_o := E_o.wr W9
  replace F_o_setting := F_o_setting.other W9 (Or.inr (slot_ne (Or.inl (hw _ w37)) (Or.inl (hw _ w30)) (by decide) (t := .long) (t' := .int) (by decide) (by decide)))
  replace F_o_frontier := F_o_frontier.other W9 (Or.inr (slot_ne (Or.inl (hw _ w28)) (Or.inl (hw _ w30)) (by decide) (t := .long) (t' := .int) (by decide) (by decide)))
  replace F_o_count := F_o_count.other W9 (Or.inr (slot_ne (Or.inl (hw _ w39)) (Or.inl (hw _ w30)) (by decide) (t := .int) (t' := .int) (by decide) (by decide)))
  replace F_o_room := F_o_room.other W9 (Or.inr (slot_ne (Or.inl (hw _ w11)) (Or.inl (hw _ w30)) (by decide) (t := .int) (t' := .int) (by decide) (by decide)))
  replace F_o_starts := F_o_starts.other W9 (Or.inr (slot_ne (Or.inl (hw _ w14)) (Or.inl (hw _ w30)) (by decide) (t := (.array .long)) (t' := .int) (by decide) (by decide)))
  replace F_o_ends := F_o_ends.other W9 (Or.inr (slot_ne (Or.inl (hw _ w16)) (Or.inl (hw _ w30)) (by decide) (t := (.array .long)) (t' := .int) (by decide) (by decide)))
  replace F_o_spans := F_o_spans.other W9 (Or.inr (slot_ne (Or.inl (hw _ w19)) (Or.inl (hw _ w30)) (by decide) (t := (.array .int)) (t' := .int) (by decide) (by decide)))
  replace F_o_maxima := F_o_maxima.other W9 (Or.inr (slot_ne (Or.inl (hw _ w21)) (Or.inl (hw _ w30)) (by decide) (t := (.array .long)) (t' := .int) (by decide) (by decide)))
  replace A_ast := A_ast.other W9 (Ne.symm ne_o_ast)
  replace A_aen := A_aen.other W9 (Ne.symm ne_o_aen)
  replace A_asp := A_asp.other W9 (Ne.symm ne_o_asp)
  replace A_amx := A_amx.other W9 (Ne.symm ne_o_amx)
  replace K0 := K0.wr W9 (Or.inl (by simp))
  refine Go.aloadN (pc' := 85) d4_84 rfl rfl rfl ?_
  refine Go.iconst (pc' := 86) d4_85 rfl (z := (0 : Int32)) (by decide) ?_
  refine Go.putF (pc' := 89) d4_86 rfl (hw _ w38) Via.refl F_o_count E_o (Or.inl (hw _ w39)) (hw _ w2) (ty := .int) (by decide) rfl rfl ?_
  intro h10 L10 NL10 W10
  replace F_o_count := F_o_count.same W10
  replace N0 := NL10 _ N0 gn_o
  replace sz0 : n0 ≤ h10.size := by rw [W10.size]; exact sz0
  replace E_o := E_o.wr W10
  replace F_o_setting := F_o_setting.other W10 (Or.inr (slot_ne (Or.inl (hw _ w37)) (Or.inl (hw _ w39)) (by decide) (t := .long) (t' := .int) (by decide) (by decide)))
  replace F_o_frontier := F_o_frontier.other W10 (Or.inr (slot_ne (Or.inl (hw _ w28)) (Or.inl (hw _ w39)) (by decide) (t := .long) (t' := .int) (by decide) (by decide)))
  replace F_o_frontierSpan := F_o_frontierSpan.other W10 (Or.inr (slot_ne (Or.inl (hw _ w30)) (Or.inl (hw _ w39)) (by decide) (t := .int) (t' := .int) (by decide) (by decide)))
  replace F_o_room := F_o_room.other W10 (Or.inr (slot_ne (Or.inl (hw _ w11)) (Or.inl (hw _ w39)) (by decide) (t := .int) (t' := .int) (by decide) (by decide)))
  replace F_o_starts := F_o_starts.other W10 (Or.inr (slot_ne (Or.inl (hw _ w14)) (Or.inl (hw _ w39)) (by decide) (t := (.array .long)) (t' := .int) (by decide) (by decide)))
  replace F_o_ends := F_o_ends.other W10 (Or.inr (slot_ne (Or.inl (hw _ w16)) (Or.inl (hw _ w39)) (by decide) (t := (.array .long)) (t' := .int) (by decide) (by decide)))
  replace F_o_spans := F_o_spans.other W10 (Or.inr (slot_ne (Or.inl (hw _ w19)) (Or.inl (hw _ w39)) (by decide) (t := (.array .int)) (t' := .int) (by decide) (by decide)))
  replace F_o_maxima := F_o_maxima.other W10 (Or.inr (slot_ne (Or.inl (hw _ w21)) (Or.inl (hw _ w39)) (by decide) (t := (.array .long)) (t' := .int) (by decide) (by decide)))
  replace A_ast := A_ast.other W10 (Ne.symm ne_o_ast)
  replace A_aen := A_aen.other W10 (Ne.symm ne_o_aen)
  replace A_asp := A_asp.other W10 (Ne.symm ne_o_asp)
  replace A_amx := A_amx.other W10 (Ne.symm ne_o_amx)
  replace K0 := K0.wr W10 (Or.inl (by simp))
  refine Go.retV d4_89 rfl (by decide) (by decide) ?_
  exact ⟨rfl, N0, K0, E_o, F_o_setting, F_o_frontier, F_o_frontierSpan, F_o_count, F_o_room, F_o_starts, F_o_ends, F_o_spans, F_o_maxima, A_amx⟩
set_option maxRecDepth 65536 in
set_option maxHeartbeats 40000000 in
theorem c_front {l : Launch} {Z : State} {a0 : Array Value} (hw : ∀ d ∈ tables_1, d.before a0 Z = true) {h0 : Heap} (o ast aen asp amx : Addr) (se fr : Int64) (sp : Int32) (ct : Int32) (st0 st1 en0 en1 : Int64) (sp0 sp1 : Int32) (m1 m2 m4 m8 m16 m17 : Int64) (ne_ast_aen : ast ≠ aen) (ne_ast_asp : ast ≠ asp) (ne_ast_amx : ast ≠ amx) (ne_aen_asp : aen ≠ asp) (ne_aen_amx : aen ≠ amx) (ne_asp_amx : asp ≠ amx) (E_o : Exa Z h0 o "com/example/rehearsal/rehearsal/policies/KnownRuns") (F_o_setting : Fld Z h0 o "com/example/rehearsal/rehearsal/policies/KnownRuns" "setting" "J" (.long se)) (F_o_frontier : Fld Z h0 o "com/example/rehearsal/rehearsal/policies/KnownRuns" "frontier" "J" (.long fr)) (F_o_frontierSpan : Fld Z h0 o "com/example/rehearsal/rehearsal/policies/KnownRuns" "frontierSpan" "I" (.int sp)) (F_o_count : Fld Z h0 o "com/example/rehearsal/rehearsal/policies/KnownRuns" "count" "I" (.int ct)) (F_o_room : Fld Z h0 o "com/example/rehearsal/rehearsal/policies/KnownRuns" "room" "I" (.int (16 : Int32))) (F_o_starts : Fld Z h0 o "com/example/rehearsal/rehearsal/policies/KnownRuns" "starts" "[J" (.ref ast)) (F_o_ends : Fld Z h0 o "com/example/rehearsal/rehearsal/policies/KnownRuns" "ends" "[J" (.ref aen)) (F_o_spans : Fld Z h0 o "com/example/rehearsal/rehearsal/policies/KnownRuns" "spans" "[I" (.ref asp)) (F_o_maxima : Fld Z h0 o "com/example/rehearsal/rehearsal/policies/KnownRuns" "maxima" "[J" (.ref amx)) (A_ast : Al Z h0 ast .long [(.long st0), (.long st1), (.long (0 : Int64)), (.long (0 : Int64)), (.long (0 : Int64)), (.long (0 : Int64)), (.long (0 : Int64)), (.long (0 : Int64)), (.long (0 : Int64)), (.long (0 : Int64)), (.long (0 : Int64)), (.long (0 : Int64)), (.long (0 : Int64)), (.long (0 : Int64)), (.long (0 : Int64)), (.long (0 : Int64))]) (A_aen : Al Z h0 aen .long [(.long en0), (.long en1), (.long (0 : Int64)), (.long (0 : Int64)), (.long (0 : Int64)), (.long (0 : Int64)), (.long (0 : Int64)), (.long (0 : Int64)), (.long (0 : Int64)), (.long (0 : Int64)), (.long (0 : Int64)), (.long (0 : Int64)), (.long (0 : Int64)), (.long (0 : Int64)), (.long (0 : Int64)), (.long (0 : Int64))]) (A_asp : Al Z h0 asp .int [(.int sp0), (.int sp1), (.int (0 : Int32)), (.int (0 : Int32)), (.int (0 : Int32)), (.int (0 : Int32)), (.int (0 : Int32)), (.int (0 : Int32)), (.int (0 : Int32)), (.int (0 : Int32)), (.int (0 : Int32)), (.int (0 : Int32)), (.int (0 : Int32)), (.int (0 : Int32)), (.int (0 : Int32)), (.int (0 : Int32))]) (A_amx : Al Z h0 amx .long [(.long (0 : Int64)), (.long m1), (.long m2), (.long (0 : Int64)), (.long m4), (.long (0 : Int64)), (.long (0 : Int64)), (.long (0 : Int64)), (.long m8), (.long (0 : Int64)), (.long (0 : Int64)), (.long (0 : Int64)), (.long (0 : Int64)), (.long (0 : Int64)), (.long (0 : Int64)), (.long (0 : Int64)), (.long m16), (.long m17), (.long (0 : Int64)), (.long (0 : Int64)), (.long (0 : Int64)), (.long (0 : Int64)), (.long (0 : Int64)), (.long (0 : Int64)), (.long (0 : Int64)), (.long (0 : Int64)), (.long (0 : Int64)), (.long (0 : Int64)), (.long (0 : Int64)), (.long (0 : Int64)), (.long (0 : Int64)), (.long (0 : Int64))]) : Con l Z (⟨"com/example/rehearsal/rehearsal/policies/KnownRuns", "frontier", "()J"⟩ : MethodName) prog_102_method_3_code 1 (some .long) ({ frames := 0, cells := 0, slots := 0, locals := 0 } : Room) [] #[(.ref o)] h0 (PQ h0 (some (.long fr))) := by
  refine con_of (Ls := #[.val (.ref o)]) (plainFor_of_name (by first | (simp [plainName, overriddenIn]; done) | decide +kernel)) (fun m => by first | (simp [entryFrame, mkF, argsToLocals, Value.category]; done) | rfl) ?_
  have ne_o_ast : o ≠ ast := ne_al E_o (hw _ w2) A_ast
  have ne_o_aen : o ≠ aen := ne_al E_o (hw _ w2) A_aen
  have ne_o_asp : o ≠ asp := ne_al E_o (hw _ w2) A_asp
  have ne_o_amx : o ≠ amx := ne_al E_o (hw _ w2) A_amx
  refine Go.aloadN (pc' := 1) d5_0 rfl rfl rfl ?_
  refine Go.getF (pc' := 4) d5_1 rfl (hw _ w27) Via.refl F_o_frontier ?_
  refine Go.retJ d5_4 rfl (by decide) (by decide) ?_
  exact ⟨rfl, rfl, rfl⟩
set_option maxRecDepth 65536 in
set_option maxHeartbeats 40000000 in
theorem c_fspan {l : Launch} {Z : State} {a0 : Array Value} (hw : ∀ d ∈ tables_1, d.before a0 Z = true) {h0 : Heap} (o ast aen asp amx : Addr) (se fr : Int64) (sp : Int32) (ct : Int32) (st0 st1 en0 en1 : Int64) (sp0 sp1 : Int32) (m1 m2 m4 m8 m16 m17 : Int64) (ne_ast_aen : ast ≠ aen) (ne_ast_asp : ast ≠ asp) (ne_ast_amx : ast ≠ amx) (ne_aen_asp : aen ≠ asp) (ne_aen_amx : aen ≠ amx) (ne_asp_amx : asp ≠ amx) (E_o : Exa Z h0 o "com/example/rehearsal/rehearsal/policies/KnownRuns") (F_o_setting : Fld Z h0 o "com/example/rehearsal/rehearsal/policies/KnownRuns" "setting" "J" (.long se)) (F_o_frontier : Fld Z h0 o "com/example/rehearsal/rehearsal/policies/KnownRuns" "frontier" "J" (.long fr)) (F_o_frontierSpan : Fld Z h0 o "com/example/rehearsal/rehearsal/policies/KnownRuns" "frontierSpan" "I" (.int sp)) (F_o_count : Fld Z h0 o "com/example/rehearsal/rehearsal/policies/KnownRuns" "count" "I" (.int ct)) (F_o_room : Fld Z h0 o "com/example/rehearsal/rehearsal/policies/KnownRuns" "room" "I" (.int (16 : Int32))) (F_o_starts : Fld Z h0 o "com/example/rehearsal/rehearsal/policies/KnownRuns" "starts" "[J" (.ref ast)) (F_o_ends : Fld Z h0 o "com/example/rehearsal/rehearsal/policies/KnownRuns" "ends" "[J" (.ref aen)) (F_o_spans : Fld Z h0 o "com/example/rehearsal/rehearsal/policies/KnownRuns" "spans" "[I" (.ref asp)) (F_o_maxima : Fld Z h0 o "com/example/rehearsal/rehearsal/policies/KnownRuns" "maxima" "[J" (.ref amx)) (A_ast : Al Z h0 ast .long [(.long st0), (.long st1), (.long (0 : Int64)), (.long (0 : Int64)), (.long (0 : Int64)), (.long (0 : Int64)), (.long (0 : Int64)), (.long (0 : Int64)), (.long (0 : Int64)), (.long (0 : Int64)), (.long (0 : Int64)), (.long (0 : Int64)), (.long (0 : Int64)), (.long (0 : Int64)), (.long (0 : Int64)), (.long (0 : Int64))]) (A_aen : Al Z h0 aen .long [(.long en0), (.long en1), (.long (0 : Int64)), (.long (0 : Int64)), (.long (0 : Int64)), (.long (0 : Int64)), (.long (0 : Int64)), (.long (0 : Int64)), (.long (0 : Int64)), (.long (0 : Int64)), (.long (0 : Int64)), (.long (0 : Int64)), (.long (0 : Int64)), (.long (0 : Int64)), (.long (0 : Int64)), (.long (0 : Int64))]) (A_asp : Al Z h0 asp .int [(.int sp0), (.int sp1), (.int (0 : Int32)), (.int (0 : Int32)), (.int (0 : Int32)), (.int (0 : Int32)), (.int (0 : Int32)), (.int (0 : Int32)), (.int (0 : Int32)), (.int (0 : Int32)), (.int (0 : Int32)), (.int (0 : Int32)), (.int (0 : Int32)), (.int (0 : Int32)), (.int (0 : Int32)), (.int (0 : Int32))]) (A_amx : Al Z h0 amx .long [(.long (0 : Int64)), (.long m1), (.long m2), (.long (0 : Int64)), (.long m4), (.long (0 : Int64)), (.long (0 : Int64)), (.long (0 : Int64)), (.long m8), (.long (0 : Int64)), (.long (0 : Int64)), (.long (0 : Int64)), (.long (0 : Int64)), (.long (0 : Int64)), (.long (0 : Int64)), (.long (0 : Int64)), (.long m16), (.long m17), (.long (0 : Int64)), (.long (0 : Int64)), (.long (0 : Int64)), (.long (0 : Int64)), (.long (0 : Int64)), (.long (0 : Int64)), (.long (0 : Int64)), (.long (0 : Int64)), (.long (0 : Int64)), (.long (0 : Int64)), (.long (0 : Int64)), (.long (0 : Int64)), (.long (0 : Int64)), (.long (0 : Int64))]) : Con l Z (⟨"com/example/rehearsal/rehearsal/policies/KnownRuns", "frontierSpan", "()I"⟩ : MethodName) prog_102_method_4_code 1 (some .int) ({ frames := 0, cells := 0, slots := 0, locals := 0 } : Room) [] #[(.ref o)] h0 (PQ h0 (some (.int sp))) := by
  refine con_of (Ls := #[.val (.ref o)]) (plainFor_of_name (by first | (simp [plainName, overriddenIn]; done) | decide +kernel)) (fun m => by first | (simp [entryFrame, mkF, argsToLocals, Value.category]; done) | rfl) ?_
  have ne_o_ast : o ≠ ast := ne_al E_o (hw _ w2) A_ast
  have ne_o_aen : o ≠ aen := ne_al E_o (hw _ w2) A_aen
  have ne_o_asp : o ≠ asp := ne_al E_o (hw _ w2) A_asp
  have ne_o_amx : o ≠ amx := ne_al E_o (hw _ w2) A_amx
  refine Go.aloadN (pc' := 1) d6_0 rfl rfl rfl ?_
  refine Go.getF (pc' := 4) d6_1 rfl (hw _ w29) Via.refl F_o_frontierSpan ?_
  refine Go.retI d6_4 rfl (by decide) (by decide) ?_
  exact ⟨rfl, rfl, rfl⟩
set_option maxRecDepth 65536 in
set_option maxHeartbeats 40000000 in
theorem c_bound {l : Launch} {Z : State} {a0 : Array Value} (hw : ∀ d ∈ tables_1, d.before a0 Z = true) {h0 : Heap} (o ast aen asp amx : Addr) (se fr : Int64) (sp : Int32) (ct : Int32) (st0 st1 en0 en1 : Int64) (sp0 sp1 : Int32) (m1 m2 m4 m8 m16 m17 : Int64) (ne_ast_aen : ast ≠ aen) (ne_ast_asp : ast ≠ asp) (ne_ast_amx : ast ≠ amx) (ne_aen_asp : aen ≠ asp) (ne_aen_amx : aen ≠ amx) (ne_asp_amx : asp ≠ amx) (E_o : Exa Z h0 o "com/example/rehearsal/rehearsal/policies/KnownRuns") (F_o_setting : Fld Z h0 o "com/example/rehearsal/rehearsal/policies/KnownRuns" "setting" "J" (.long se)) (F_o_frontier : Fld Z h0 o "com/example/rehearsal/rehearsal/policies/KnownRuns" "frontier" "J" (.long fr)) (F_o_frontierSpan : Fld Z h0 o "com/example/rehearsal/rehearsal/policies/KnownRuns" "frontierSpan" "I" (.int sp)) (F_o_count : Fld Z h0 o "com/example/rehearsal/rehearsal/policies/KnownRuns" "count" "I" (.int ct)) (F_o_room : Fld Z h0 o "com/example/rehearsal/rehearsal/policies/KnownRuns" "room" "I" (.int (16 : Int32))) (F_o_starts : Fld Z h0 o "com/example/rehearsal/rehearsal/policies/KnownRuns" "starts" "[J" (.ref ast)) (F_o_ends : Fld Z h0 o "com/example/rehearsal/rehearsal/policies/KnownRuns" "ends" "[J" (.ref aen)) (F_o_spans : Fld Z h0 o "com/example/rehearsal/rehearsal/policies/KnownRuns" "spans" "[I" (.ref asp)) (F_o_maxima : Fld Z h0 o "com/example/rehearsal/rehearsal/policies/KnownRuns" "maxima" "[J" (.ref amx)) (A_ast : Al Z h0 ast .long [(.long st0), (.long st1), (.long (0 : Int64)), (.long (0 : Int64)), (.long (0 : Int64)), (.long (0 : Int64)), (.long (0 : Int64)), (.long (0 : Int64)), (.long (0 : Int64)), (.long (0 : Int64)), (.long (0 : Int64)), (.long (0 : Int64)), (.long (0 : Int64)), (.long (0 : Int64)), (.long (0 : Int64)), (.long (0 : Int64))]) (A_aen : Al Z h0 aen .long [(.long en0), (.long en1), (.long (0 : Int64)), (.long (0 : Int64)), (.long (0 : Int64)), (.long (0 : Int64)), (.long (0 : Int64)), (.long (0 : Int64)), (.long (0 : Int64)), (.long (0 : Int64)), (.long (0 : Int64)), (.long (0 : Int64)), (.long (0 : Int64)), (.long (0 : Int64)), (.long (0 : Int64)), (.long (0 : Int64))]) (A_asp : Al Z h0 asp .int [(.int sp0), (.int sp1), (.int (0 : Int32)), (.int (0 : Int32)), (.int (0 : Int32)), (.int (0 : Int32)), (.int (0 : Int32)), (.int (0 : Int32)), (.int (0 : Int32)), (.int (0 : Int32)), (.int (0 : Int32)), (.int (0 : Int32)), (.int (0 : Int32)), (.int (0 : Int32)), (.int (0 : Int32)), (.int (0 : Int32))]) (A_amx : Al Z h0 amx .long [(.long (0 : Int64)), (.long m1), (.long m2), (.long (0 : Int64)), (.long m4), (.long (0 : Int64)), (.long (0 : Int64)), (.long (0 : Int64)), (.long m8), (.long (0 : Int64)), (.long (0 : Int64)), (.long (0 : Int64)), (.long (0 : Int64)), (.long (0 : Int64)), (.long (0 : Int64)), (.long (0 : Int64)), (.long m16), (.long m17), (.long (0 : Int64)), (.long (0 : Int64)), (.long (0 : Int64)), (.long (0 : Int64)), (.long (0 : Int64)), (.long (0 : Int64)), (.long (0 : Int64)), (.long (0 : Int64)), (.long (0 : Int64)), (.long (0 : Int64)), (.long (0 : Int64)), (.long (0 : Int64)), (.long (0 : Int64)), (.long (0 : Int64))]) : Con l Z (⟨"com/example/rehearsal/rehearsal/policies/KnownRuns", "bound", "(I)J"⟩ : MethodName) prog_102_method_11_code 2 (some .long) ({ frames := 0, cells := 0, slots := 0, locals := 0 } : Room) [] #[(.ref o), (.int (0 : Int32))] h0 (PQ h0 (some (.long m16))) := by
  refine con_of (Ls := #[.val (.ref o), .val (.int (0 : Int32))]) (plainFor_of_name (by first | (simp [plainName, overriddenIn]; done) | decide +kernel)) (fun m => by first | (simp [entryFrame, mkF, argsToLocals, Value.category]; done) | rfl) ?_
  have ne_o_ast : o ≠ ast := ne_al E_o (hw _ w2) A_ast
  have ne_o_aen : o ≠ aen := ne_al E_o (hw _ w2) A_aen
  have ne_o_asp : o ≠ asp := ne_al E_o (hw _ w2) A_asp
  have ne_o_amx : o ≠ amx := ne_al E_o (hw _ w2) A_amx
  refine Go.aloadN (pc' := 1) d8_0 rfl rfl rfl ?_
  refine Go.getF (pc' := 4) d8_1 rfl (hw _ w20) Via.refl F_o_maxima ?_
  refine Go.aloadN (pc' := 5) d8_4 rfl rfl rfl ?_
  refine Go.getF (pc' := 8) d8_5 rfl (hw _ w10) Via.refl F_o_room ?_
  refine Go.iloadN (pc' := 9) d8_8 rfl rfl ?_
  refine Go.iadd (pc' := 10) d8_9 rfl (z := (16 : Int32)) (by decide) ?_
  refine Go.laload (pc' := 11) d8_10 rfl (i := 16) (v := (.long m16)) A_amx (by decide) rfl ?_
  refine Go.retJ d8_11 rfl (by decide) (by decide) ?_
  exact ⟨rfl, rfl, rfl⟩
theorem own_s63 (x : Int64) (h : 0 < x.toInt) : ((x - (1 : Int64)).toUInt64 >>> ((63 : Int32) &&& 0x3f).toInt64.toUInt64).toInt64.toInt32 = (0 : Int32) := by
  have e1 := c_lsub x (1 : Int64)
  have r1 := rng64 (x - (1 : Int64))
  have r2 := rng64 x
  have k1 : (1 : Int64).toInt = 1 := by decide
  have e2 : ((x - (1 : Int64)).toUInt64 >>> ((63 : Int32) &&& 0x3f).toInt64.toUInt64).toInt64.toInt = ((x - (1 : Int64)).toInt % 18446744073709551616) / (2 ^ 63 : Nat) := c_lushr (x - (1 : Int64)) 63 63 (by decide) (by decide)
  have e3 : ((x - (1 : Int64)).toUInt64 >>> ((63 : Int32) &&& 0x3f).toInt64.toUInt64).toInt64.toInt = 0 := by rw [e2]; omega
  have e4 : ((x - (1 : Int64)).toUInt64 >>> ((63 : Int32) &&& 0x3f).toInt64.toUInt64).toInt64 = (0 : Int64) := Int64.toInt_inj.mp e3
  rw [e4]; decide
set_option maxRecDepth 65536 in
set_option maxHeartbeats 40000000 in
theorem c_fu {l : Launch} {Z : State} {a0 : Array Value} (hw : ∀ d ∈ tables_1, d.before a0 Z = true) {h0 : Heap} (o ast aen asp amx : Addr) (se fr : Int64) (sp : Int32) (ct : Int32) (st0 st1 en0 en1 : Int64) (sp0 sp1 : Int32) (m1 m2 m4 m8 m16 m17 : Int64) (ne_ast_aen : ast ≠ aen) (ne_ast_asp : ast ≠ asp) (ne_ast_amx : ast ≠ amx) (ne_aen_asp : aen ≠ asp) (ne_aen_amx : aen ≠ amx) (ne_asp_amx : asp ≠ amx) (E_o : Exa Z h0 o "com/example/rehearsal/rehearsal/policies/KnownRuns") (F_o_setting : Fld Z h0 o "com/example/rehearsal/rehearsal/policies/KnownRuns" "setting" "J" (.long se)) (F_o_frontier : Fld Z h0 o "com/example/rehearsal/rehearsal/policies/KnownRuns" "frontier" "J" (.long fr)) (F_o_frontierSpan : Fld Z h0 o "com/example/rehearsal/rehearsal/policies/KnownRuns" "frontierSpan" "I" (.int sp)) (F_o_count : Fld Z h0 o "com/example/rehearsal/rehearsal/policies/KnownRuns" "count" "I" (.int ct)) (F_o_room : Fld Z h0 o "com/example/rehearsal/rehearsal/policies/KnownRuns" "room" "I" (.int (16 : Int32))) (F_o_starts : Fld Z h0 o "com/example/rehearsal/rehearsal/policies/KnownRuns" "starts" "[J" (.ref ast)) (F_o_ends : Fld Z h0 o "com/example/rehearsal/rehearsal/policies/KnownRuns" "ends" "[J" (.ref aen)) (F_o_spans : Fld Z h0 o "com/example/rehearsal/rehearsal/policies/KnownRuns" "spans" "[I" (.ref asp)) (F_o_maxima : Fld Z h0 o "com/example/rehearsal/rehearsal/policies/KnownRuns" "maxima" "[J" (.ref amx)) (A_ast : Al Z h0 ast .long [(.long st0), (.long st1), (.long (0 : Int64)), (.long (0 : Int64)), (.long (0 : Int64)), (.long (0 : Int64)), (.long (0 : Int64)), (.long (0 : Int64)), (.long (0 : Int64)), (.long (0 : Int64)), (.long (0 : Int64)), (.long (0 : Int64)), (.long (0 : Int64)), (.long (0 : Int64)), (.long (0 : Int64)), (.long (0 : Int64))]) (A_aen : Al Z h0 aen .long [(.long en0), (.long en1), (.long (0 : Int64)), (.long (0 : Int64)), (.long (0 : Int64)), (.long (0 : Int64)), (.long (0 : Int64)), (.long (0 : Int64)), (.long (0 : Int64)), (.long (0 : Int64)), (.long (0 : Int64)), (.long (0 : Int64)), (.long (0 : Int64)), (.long (0 : Int64)), (.long (0 : Int64)), (.long (0 : Int64))]) (A_asp : Al Z h0 asp .int [(.int sp0), (.int sp1), (.int (0 : Int32)), (.int (0 : Int32)), (.int (0 : Int32)), (.int (0 : Int32)), (.int (0 : Int32)), (.int (0 : Int32)), (.int (0 : Int32)), (.int (0 : Int32)), (.int (0 : Int32)), (.int (0 : Int32)), (.int (0 : Int32)), (.int (0 : Int32)), (.int (0 : Int32)), (.int (0 : Int32))]) (A_amx : Al Z h0 amx .long [(.long (0 : Int64)), (.long m1), (.long m2), (.long (0 : Int64)), (.long m4), (.long (0 : Int64)), (.long (0 : Int64)), (.long (0 : Int64)), (.long m8), (.long (0 : Int64)), (.long (0 : Int64)), (.long (0 : Int64)), (.long (0 : Int64)), (.long (0 : Int64)), (.long (0 : Int64)), (.long (0 : Int64)), (.long m16), (.long m17), (.long (0 : Int64)), (.long (0 : Int64)), (.long (0 : Int64)), (.long (0 : Int64)), (.long (0 : Int64)), (.long (0 : Int64)), (.long (0 : Int64)), (.long (0 : Int64)), (.long (0 : Int64)), (.long (0 : Int64)), (.long (0 : Int64)), (.long (0 : Int64)), (.long (0 : Int64)), (.long (0 : Int64))]) (hm2 : 0 < m2.toInt) (hm4 : 0 < m4.toInt) (hm8 : 0 < m8.toInt) (hm16 : 0 < m16.toInt) : Con l Z (⟨"com/example/rehearsal/rehearsal/policies/KnownRuns", "firstUnder", "(IJ)I"⟩ : MethodName) prog_102_method_8_code 5 (some .int) ({ frames := 0, cells := 0, slots := 0, locals := 0 } : Room) [] #[(.ref o), (.int (1 : Int32)), (.long (1 : Int64))] h0 (PQ h0 (some (.int (0 : Int32)))) := by
  refine con_of (Ls := #[.val (.ref o), .val (.int (1 : Int32)), .val (.long (1 : Int64)), .second, .unset]) (plainFor_of_name (by first | (simp [plainName, overriddenIn]; done) | decide +kernel)) (fun m => by first | (simp [entryFrame, mkF, argsToLocals, Value.category]; done) | rfl) ?_
  have ne_o_ast : o ≠ ast := ne_al E_o (hw _ w2) A_ast
  have ne_o_aen : o ≠ aen := ne_al E_o (hw _ w2) A_aen
  have ne_o_asp : o ≠ asp := ne_al E_o (hw _ w2) A_asp
  have ne_o_amx : o ≠ amx := ne_al E_o (hw _ w2) A_amx
  refine Go.iloadN (pc' := 1) d10_0 rfl rfl ?_
  refine Go.istore (pc' := 3) d10_1 rfl (Ls' := #[.val (.ref o), .val (.int (1 : Int32)), .val (.long (1 : Int64)), .second, .val (.int (1 : Int32))]) rfl ?_
  refine Go.iload (pc' := 5) d10_3 rfl rfl ?_
  refine Go.aloadN (pc' := 6) d10_5 rfl rfl rfl ?_
  refine Go.getF (pc' := 9) d10_6 rfl (hw _ w10) Via.refl F_o_room ?_
  refine Go.icmpF (pc' := 12) (X := (1 : Int)) (Y := (16 : Int)) d10_9 rfl (by decide) (by decide) (by decide : (1 : Int) < (16 : Int)) ?_
  refine Go.iconst (pc' := 13) d10_12 rfl (z := (2 : Int32)) (by decide) ?_
  refine Go.iload (pc' := 15) d10_13 rfl rfl ?_
  refine Go.imul (pc' := 16) d10_15 rfl (z := (2 : Int32)) (by decide) ?_
  refine Go.aloadN (pc' := 17) d10_16 rfl rfl rfl ?_
  refine Go.getF (pc' := 20) d10_17 rfl (hw _ w20) Via.refl F_o_maxima ?_
  refine Go.iconst (pc' := 21) d10_20 rfl (z := (2 : Int32)) (by decide) ?_
  refine Go.iload (pc' := 23) d10_21 rfl rfl ?_
  refine Go.imul (pc' := 24) d10_23 rfl (z := (2 : Int32)) (by decide) ?_
  refine Go.laload (pc' := 25) d10_24 rfl (i := 2) (v := (.long m2)) A_amx (by decide) rfl ?_
  refine Go.lloadN (pc' := 26) d10_25 rfl rfl ?_
  refine Go.lsub (pc' := 27) d10_26 rfl rfl ?_
  refine Go.bipush (pc' := 29) d10_27 rfl (z := (63 : Int32)) (by decide) ?_
  refine Go.lushr (pc' := 30) d10_29 rfl rfl ?_
  refine Go.l2i (pc' := 31) d10_30 rfl rfl ?_
  rw [own_s63 m2 hm2]
  refine Go.iadd (pc' := 32) d10_31 rfl (z := (2 : Int32)) (by decide) ?_
  refine Go.istore (pc' := 34) d10_32 rfl (Ls' := #[.val (.ref o), .val (.int (1 : Int32)), .val (.long (1 : Int64)), .second, .val (.int (2 : Int32))]) rfl ?_
  refine Go.goto (pc' := 3) d10_34 (by decide) ?_
  refine Go.iload (pc' := 5) d10_3 rfl rfl ?_
  refine Go.aloadN (pc' := 6) d10_5 rfl rfl rfl ?_
  refine Go.getF (pc' := 9) d10_6 rfl (hw _ w10) Via.refl F_o_room ?_
  refine Go.icmpF (pc' := 12) (X := (2 : Int)) (Y := (16 : Int)) d10_9 rfl (by decide) (by decide) (by decide : (2 : Int) < (16 : Int)) ?_
  refine Go.iconst (pc' := 13) d10_12 rfl (z := (2 : Int32)) (by decide) ?_
  refine Go.iload (pc' := 15) d10_13 rfl rfl ?_
  refine Go.imul (pc' := 16) d10_15 rfl (z := (4 : Int32)) (by decide) ?_
  refine Go.aloadN (pc' := 17) d10_16 rfl rfl rfl ?_
  refine Go.getF (pc' := 20) d10_17 rfl (hw _ w20) Via.refl F_o_maxima ?_
  refine Go.iconst (pc' := 21) d10_20 rfl (z := (2 : Int32)) (by decide) ?_
  refine Go.iload (pc' := 23) d10_21 rfl rfl ?_
  refine Go.imul (pc' := 24) d10_23 rfl (z := (4 : Int32)) (by decide) ?_
  refine Go.laload (pc' := 25) d10_24 rfl (i := 4) (v := (.long m4)) A_amx (by decide) rfl ?_
  refine Go.lloadN (pc' := 26) d10_25 rfl rfl ?_
  refine Go.lsub (pc' := 27) d10_26 rfl rfl ?_
  refine Go.bipush (pc' := 29) d10_27 rfl (z := (63 : Int32)) (by decide) ?_
  refine Go.lushr (pc' := 30) d10_29 rfl rfl ?_
  refine Go.l2i (pc' := 31) d10_30 rfl rfl ?_
  rw [own_s63 m4 hm4]
  refine Go.iadd (pc' := 32) d10_31 rfl (z := (4 : Int32)) (by decide) ?_
  refine Go.istore (pc' := 34) d10_32 rfl (Ls' := #[.val (.ref o), .val (.int (1 : Int32)), .val (.long (1 : Int64)), .second, .val (.int (4 : Int32))]) rfl ?_
  refine Go.goto (pc' := 3) d10_34 (by decide) ?_
  refine Go.iload (pc' := 5) d10_3 rfl rfl ?_
  refine Go.aloadN (pc' := 6) d10_5 rfl rfl rfl ?_
  refine Go.getF (pc' := 9) d10_6 rfl (hw _ w10) Via.refl F_o_room ?_
  refine Go.icmpF (pc' := 12) (X := (4 : Int)) (Y := (16 : Int)) d10_9 rfl (by decide) (by decide) (by decide : (4 : Int) < (16 : Int)) ?_
  refine Go.iconst (pc' := 13) d10_12 rfl (z := (2 : Int32)) (by decide) ?_
  refine Go.iload (pc' := 15) d10_13 rfl rfl ?_
  refine Go.imul (pc' := 16) d10_15 rfl (z := (8 : Int32)) (by decide) ?_
  refine Go.aloadN (pc' := 17) d10_16 rfl rfl rfl ?_
  refine Go.getF (pc' := 20) d10_17 rfl (hw _ w20) Via.refl F_o_maxima ?_
  refine Go.iconst (pc' := 21) d10_20 rfl (z := (2 : Int32)) (by decide) ?_
  refine Go.iload (pc' := 23) d10_21 rfl rfl ?_
  refine Go.imul (pc' := 24) d10_23 rfl (z := (8 : Int32)) (by decide) ?_
  refine Go.laload (pc' := 25) d10_24 rfl (i := 8) (v := (.long m8)) A_amx (by decide) rfl ?_
  refine Go.lloadN (pc' := 26) d10_25 rfl rfl ?_
  refine Go.lsub (pc' := 27) d10_26 rfl rfl ?_
  refine Go.bipush (pc' := 29) d10_27 rfl (z := (63 : Int32)) (by decide) ?_
  refine Go.lushr (pc' := 30) d10_29 rfl rfl ?_
  refine Go.l2i (pc' := 31) d10_30 rfl rfl ?_
  rw [own_s63 m8 hm8]
  refine Go.iadd (pc' := 32) d10_31 rfl (z := (8 : Int32)) (by decide) ?_
  refine Go.istore (pc' := 34) d10_32 rfl (Ls' := #[.val (.ref o), .val (.int (1 : Int32)), .val (.long (1 : Int64)), .second, .val (.int (8 : Int32))]) rfl ?_
  refine Go.goto (pc' := 3) d10_34 (by decide) ?_
  refine Go.iload (pc' := 5) d10_3 rfl rfl ?_
  refine Go.aloadN (pc' := 6) d10_5 rfl rfl rfl ?_
  refine Go.getF (pc' := 9) d10_6 rfl (hw _ w10) Via.refl F_o_room ?_
  refine Go.icmpF (pc' := 12) (X := (8 : Int)) (Y := (16 : Int)) d10_9 rfl (by decide) (by decide) (by decide : (8 : Int) < (16 : Int)) ?_
  refine Go.iconst (pc' := 13) d10_12 rfl (z := (2 : Int32)) (by decide) ?_
  refine Go.iload (pc' := 15) d10_13 rfl rfl ?_
  refine Go.imul (pc' := 16) d10_15 rfl (z := (16 : Int32)) (by decide) ?_
  refine Go.aloadN (pc' := 17) d10_16 rfl rfl rfl ?_
  refine Go.getF (pc' := 20) d10_17 rfl (hw _ w20) Via.refl F_o_maxima ?_
  refine Go.iconst (pc' := 21) d10_20 rfl (z := (2 : Int32)) (by decide) ?_
  refine Go.iload (pc' := 23) d10_21 rfl rfl ?_
  refine Go.imul (pc' := 24) d10_23 rfl (z := (16 : Int32)) (by decide) ?_
  refine Go.laload (pc' := 25) d10_24 rfl (i := 16) (v := (.long m16)) A_amx (by decide) rfl ?_
  refine Go.lloadN (pc' := 26) d10_25 rfl rfl ?_
  refine Go.lsub (pc' := 27) d10_26 rfl rfl ?_
  refine Go.bipush (pc' := 29) d10_27 rfl (z := (63 : Int32)) (by decide) ?_
  refine Go.lushr (pc' := 30) d10_29 rfl rfl ?_
  refine Go.l2i (pc' := 31) d10_30 rfl rfl ?_
  rw [own_s63 m16 hm16]
  refine Go.iadd (pc' := 32) d10_31 rfl (z := (16 : Int32)) (by decide) ?_
  refine Go.istore (pc' := 34) d10_32 rfl (Ls' := #[.val (.ref o), .val (.int (1 : Int32)), .val (.long (1 : Int64)), .second, .val (.int (16 : Int32))]) rfl ?_
  refine Go.goto (pc' := 3) d10_34 (by decide) ?_
  refine Go.iload (pc' := 5) d10_3 rfl rfl ?_
  refine Go.aloadN (pc' := 6) d10_5 rfl rfl rfl ?_
  refine Go.getF (pc' := 9) d10_6 rfl (hw _ w10) Via.refl F_o_room ?_
  refine Go.icmpT (pc' := 37) (X := (16 : Int)) (Y := (16 : Int)) d10_9 (by decide) (by decide) (by decide) (by decide : ¬ (16 : Int) < (16 : Int)) ?_
  refine Go.iload (pc' := 39) d10_37 rfl rfl ?_
  refine Go.aloadN (pc' := 40) d10_39 rfl rfl rfl ?_
  refine Go.getF (pc' := 43) d10_40 rfl (hw _ w10) Via.refl F_o_room ?_
  refine Go.isub (pc' := 44) d10_43 rfl (z := (0 : Int32)) (by decide) ?_
  refine Go.retI d10_44 rfl (by decide) (by decide) ?_
  exact ⟨rfl, rfl, rfl⟩
set_option maxRecDepth 65536 in
set_option maxHeartbeats 40000000 in
theorem c_first0 {l : Launch} {Z : State} {a0 : Array Value} (hw : ∀ d ∈ tables_1, d.before a0 Z = true) {h0 : Heap} (o ast aen asp amx : Addr) (se fr : Int64) (sp : Int32) (ct : Int32) (st0 st1 en0 en1 : Int64) (sp0 sp1 : Int32) (m1 m2 m4 m8 m16 m17 : Int64) (ne_ast_aen : ast ≠ aen) (ne_ast_asp : ast ≠ asp) (ne_ast_amx : ast ≠ amx) (ne_aen_asp : aen ≠ asp) (ne_aen_amx : aen ≠ amx) (ne_asp_amx : asp ≠ amx) (E_o : Exa Z h0 o "com/example/rehearsal/rehearsal/policies/KnownRuns") (F_o_setting : Fld Z h0 o "com/example/rehearsal/rehearsal/policies/KnownRuns" "setting" "J" (.long se)) (F_o_frontier : Fld Z h0 o "com/example/rehearsal/rehearsal/policies/KnownRuns" "frontier" "J" (.long fr)) (F_o_frontierSpan : Fld Z h0 o "com/example/rehearsal/rehearsal/policies/KnownRuns" "frontierSpan" "I" (.int sp)) (F_o_count : Fld Z h0 o "com/example/rehearsal/rehearsal/policies/KnownRuns" "count" "I" (.int ct)) (F_o_room : Fld Z h0 o "com/example/rehearsal/rehearsal/policies/KnownRuns" "room" "I" (.int (16 : Int32))) (F_o_starts : Fld Z h0 o "com/example/rehearsal/rehearsal/policies/KnownRuns" "starts" "[J" (.ref ast)) (F_o_ends : Fld Z h0 o "com/example/rehearsal/rehearsal/policies/KnownRuns" "ends" "[J" (.ref aen)) (F_o_spans : Fld Z h0 o "com/example/rehearsal/rehearsal/policies/KnownRuns" "spans" "[I" (.ref asp)) (F_o_maxima : Fld Z h0 o "com/example/rehearsal/rehearsal/policies/KnownRuns" "maxima" "[J" (.ref amx)) (A_ast : Al Z h0 ast .long [(.long st0), (.long st1), (.long (0 : Int64)), (.long (0 : Int64)), (.long (0 : Int64)), (.long (0 : Int64)), (.long (0 : Int64)), (.long (0 : Int64)), (.long (0 : Int64)), (.long (0 : Int64)), (.long (0 : Int64)), (.long (0 : Int64)), (.long (0 : Int64)), (.long (0 : Int64)), (.long (0 : Int64)), (.long (0 : Int64))]) (A_aen : Al Z h0 aen .long [(.long en0), (.long en1), (.long (0 : Int64)), (.long (0 : Int64)), (.long (0 : Int64)), (.long (0 : Int64)), (.long (0 : Int64)), (.long (0 : Int64)), (.long (0 : Int64)), (.long (0 : Int64)), (.long (0 : Int64)), (.long (0 : Int64)), (.long (0 : Int64)), (.long (0 : Int64)), (.long (0 : Int64)), (.long (0 : Int64))]) (A_asp : Al Z h0 asp .int [(.int sp0), (.int sp1), (.int (0 : Int32)), (.int (0 : Int32)), (.int (0 : Int32)), (.int (0 : Int32)), (.int (0 : Int32)), (.int (0 : Int32)), (.int (0 : Int32)), (.int (0 : Int32)), (.int (0 : Int32)), (.int (0 : Int32)), (.int (0 : Int32)), (.int (0 : Int32)), (.int (0 : Int32)), (.int (0 : Int32))]) (A_amx : Al Z h0 amx .long [(.long (0 : Int64)), (.long m1), (.long m2), (.long (0 : Int64)), (.long m4), (.long (0 : Int64)), (.long (0 : Int64)), (.long (0 : Int64)), (.long m8), (.long (0 : Int64)), (.long (0 : Int64)), (.long (0 : Int64)), (.long (0 : Int64)), (.long (0 : Int64)), (.long (0 : Int64)), (.long (0 : Int64)), (.long m16), (.long m17), (.long (0 : Int64)), (.long (0 : Int64)), (.long (0 : Int64)), (.long (0 : Int64)), (.long (0 : Int64)), (.long (0 : Int64)), (.long (0 : Int64)), (.long (0 : Int64)), (.long (0 : Int64)), (.long (0 : Int64)), (.long (0 : Int64)), (.long (0 : Int64)), (.long (0 : Int64)), (.long (0 : Int64))]) (hm1 : 0 < m1.toInt) (hm2 : 0 < m2.toInt) (hm4 : 0 < m4.toInt) (hm8 : 0 < m8.toInt) (hm16 : 0 < m16.toInt) : Con l Z (⟨"com/example/rehearsal/rehearsal/policies/KnownRuns", "first", "(J)I"⟩ : MethodName) prog_102_method_6_code 3 (some .int) ({ frames := 1, cells := 0, slots := 0, locals := 16 } : Room) [] #[(.ref o), (.long (1 : Int64))] h0 (PQ h0 (some (.int (0 : Int32)))) := by
  refine con_of (Ls := #[.val (.ref o), .val (.long (1 : Int64)), .second]) (plainFor_of_name (by first | (simp [plainName, overriddenIn]; done) | decide +kernel)) (fun m => by first | (simp [entryFrame, mkF, argsToLocals, Value.category]; done) | rfl) ?_
  have ne_o_ast : o ≠ ast := ne_al E_o (hw _ w2) A_ast
  have ne_o_aen : o ≠ aen := ne_al E_o (hw _ w2) A_aen
  have ne_o_asp : o ≠ asp := ne_al E_o (hw _ w2) A_asp
  have ne_o_amx : o ≠ amx := ne_al E_o (hw _ w2) A_amx
  refine Go.aloadN (pc' := 1) d7_0 rfl rfl rfl ?_
  refine Go.getF (pc' := 4) d7_1 rfl (hw _ w20) Via.refl F_o_maxima ?_
  refine Go.iconst (pc' := 5) d7_4 rfl (z := (1 : Int32)) (by decide) ?_
  refine Go.laload (pc' := 6) d7_5 rfl (i := 1) (v := (.long m1)) A_amx (by decide) rfl ?_
  refine Go.lloadN (pc' := 7) d7_6 rfl rfl ?_
  refine Go.lcmpT (pc' := 13) (X := m1.toInt) (Y := (1 : Int)) d7_7 d7_8 rfl (by decide) rfl (by decide) (by omega : ¬ m1.toInt < (1 : Int)) ?_
  refine Go.aloadN (pc' := 14) d7_13 rfl rfl rfl ?_
  refine Go.iconst (pc' := 15) d7_14 rfl (z := (1 : Int32)) (by decide) ?_
  refine Go.lloadN (pc' := 16) d7_15 rfl rfl ?_
  refine Go.callP0 (pc' := 19) (W := 0) (a := o) (argsL := [(.int (1 : Int32)), (.long (1 : Int64))]) (rest := []) (v0 := some (.int (0 : Int32))) (st2 := [(.int (0 : Int32))]) d7_16 rfl (hw _ w65) (hw _ w66) (hw _ w2) (hw _ w67) (hw _ w3) (hw _ w68) E_o (by decide) (c_fu hw o ast aen asp amx se fr sp ct st0 st1 en0 en1 sp0 sp1 m1 m2 m4 m8 m16 m17 ne_ast_aen ne_ast_asp ne_ast_amx ne_aen_asp ne_aen_amx ne_asp_amx E_o F_o_setting F_o_frontier F_o_frontierSpan F_o_count F_o_room F_o_starts F_o_ends F_o_spans F_o_maxima A_ast A_aen A_asp A_amx hm2 hm4 hm8 hm16) (by decide) (by decide) rfl rfl rfl (by decide) (by decide) rfl pd__28IJ_29I rfl rfl (Nat.le_of_eq rfl) ?_
  refine Go.retI d7_19 rfl (by decide) (by decide) ?_
  exact ⟨rfl, rfl, rfl⟩
set_option maxRecDepth 65536 in
set_option maxHeartbeats 40000000 in
theorem c_first1 {l : Launch} {Z : State} {a0 : Array Value} (hw : ∀ d ∈ tables_1, d.before a0 Z = true) {h0 : Heap} (o ast aen asp amx : Addr) (se fr : Int64) (sp : Int32) (ct : Int32) (st0 st1 en0 en1 : Int64) (sp0 sp1 : Int32) (m1 m2 m4 m8 m16 m17 : Int64) (ne_ast_aen : ast ≠ aen) (ne_ast_asp : ast ≠ asp) (ne_ast_amx : ast ≠ amx) (ne_aen_asp : aen ≠ asp) (ne_aen_amx : aen ≠ amx) (ne_asp_amx : asp ≠ amx) (E_o : Exa Z h0 o "com/example/rehearsal/rehearsal/policies/KnownRuns") (F_o_setting : Fld Z h0 o "com/example/rehearsal/rehearsal/policies/KnownRuns" "setting" "J" (.long se)) (F_o_frontier : Fld Z h0 o "com/example/rehearsal/rehearsal/policies/KnownRuns" "frontier" "J" (.long fr)) (F_o_frontierSpan : Fld Z h0 o "com/example/rehearsal/rehearsal/policies/KnownRuns" "frontierSpan" "I" (.int sp)) (F_o_count : Fld Z h0 o "com/example/rehearsal/rehearsal/policies/KnownRuns" "count" "I" (.int ct)) (F_o_room : Fld Z h0 o "com/example/rehearsal/rehearsal/policies/KnownRuns" "room" "I" (.int (16 : Int32))) (F_o_starts : Fld Z h0 o "com/example/rehearsal/rehearsal/policies/KnownRuns" "starts" "[J" (.ref ast)) (F_o_ends : Fld Z h0 o "com/example/rehearsal/rehearsal/policies/KnownRuns" "ends" "[J" (.ref aen)) (F_o_spans : Fld Z h0 o "com/example/rehearsal/rehearsal/policies/KnownRuns" "spans" "[I" (.ref asp)) (F_o_maxima : Fld Z h0 o "com/example/rehearsal/rehearsal/policies/KnownRuns" "maxima" "[J" (.ref amx)) (A_ast : Al Z h0 ast .long [(.long st0), (.long st1), (.long (0 : Int64)), (.long (0 : Int64)), (.long (0 : Int64)), (.long (0 : Int64)), (.long (0 : Int64)), (.long (0 : Int64)), (.long (0 : Int64)), (.long (0 : Int64)), (.long (0 : Int64)), (.long (0 : Int64)), (.long (0 : Int64)), (.long (0 : Int64)), (.long (0 : Int64)), (.long (0 : Int64))]) (A_aen : Al Z h0 aen .long [(.long en0), (.long en1), (.long (0 : Int64)), (.long (0 : Int64)), (.long (0 : Int64)), (.long (0 : Int64)), (.long (0 : Int64)), (.long (0 : Int64)), (.long (0 : Int64)), (.long (0 : Int64)), (.long (0 : Int64)), (.long (0 : Int64)), (.long (0 : Int64)), (.long (0 : Int64)), (.long (0 : Int64)), (.long (0 : Int64))]) (A_asp : Al Z h0 asp .int [(.int sp0), (.int sp1), (.int (0 : Int32)), (.int (0 : Int32)), (.int (0 : Int32)), (.int (0 : Int32)), (.int (0 : Int32)), (.int (0 : Int32)), (.int (0 : Int32)), (.int (0 : Int32)), (.int (0 : Int32)), (.int (0 : Int32)), (.int (0 : Int32)), (.int (0 : Int32)), (.int (0 : Int32)), (.int (0 : Int32))]) (A_amx : Al Z h0 amx .long [(.long (0 : Int64)), (.long m1), (.long m2), (.long (0 : Int64)), (.long m4), (.long (0 : Int64)), (.long (0 : Int64)), (.long (0 : Int64)), (.long m8), (.long (0 : Int64)), (.long (0 : Int64)), (.long (0 : Int64)), (.long (0 : Int64)), (.long (0 : Int64)), (.long (0 : Int64)), (.long (0 : Int64)), (.long m16), (.long m17), (.long (0 : Int64)), (.long (0 : Int64)), (.long (0 : Int64)), (.long (0 : Int64)), (.long (0 : Int64)), (.long (0 : Int64)), (.long (0 : Int64)), (.long (0 : Int64)), (.long (0 : Int64)), (.long (0 : Int64)), (.long (0 : Int64)), (.long (0 : Int64)), (.long (0 : Int64)), (.long (0 : Int64))]) (hm1 : m1.toInt < 1) : Con l Z (⟨"com/example/rehearsal/rehearsal/policies/KnownRuns", "first", "(J)I"⟩ : MethodName) prog_102_method_6_code 3 (some .int) ({ frames := 0, cells := 0, slots := 0, locals := 0 } : Room) [] #[(.ref o), (.long (1 : Int64))] h0 (PQ h0 (some (.int (-1 : Int32)))) := by
  refine con_of (Ls := #[.val (.ref o), .val (.long (1 : Int64)), .second]) (plainFor_of_name (by first | (simp [plainName, overriddenIn]; done) | decide +kernel)) (fun m => by first | (simp [entryFrame, mkF, argsToLocals, Value.category]; done) | rfl) ?_
  have ne_o_ast : o ≠ ast := ne_al E_o (hw _ w2) A_ast
  have ne_o_aen : o ≠ aen := ne_al E_o (hw _ w2) A_aen
  have ne_o_asp : o ≠ asp := ne_al E_o (hw _ w2) A_asp
  have ne_o_amx : o ≠ amx := ne_al E_o (hw _ w2) A_amx
  refine Go.aloadN (pc' := 1) d7_0 rfl rfl rfl ?_
  refine Go.getF (pc' := 4) d7_1 rfl (hw _ w20) Via.refl F_o_maxima ?_
  refine Go.iconst (pc' := 5) d7_4 rfl (z := (1 : Int32)) (by decide) ?_
  refine Go.laload (pc' := 6) d7_5 rfl (i := 1) (v := (.long m1)) A_amx (by decide) rfl ?_
  refine Go.lloadN (pc' := 7) d7_6 rfl rfl ?_
  refine Go.lcmpF (pc' := 11) (X := m1.toInt) (Y := (1 : Int)) d7_7 d7_8 rfl rfl rfl (by decide) (hm1 : m1.toInt < (1 : Int)) ?_
  refine Go.iconst (pc' := 12) d7_11 rfl (z := (-1 : Int32)) (by decide) ?_
  refine Go.retI d7_12 rfl (by decide) (by decide) ?_
  exact ⟨rfl, rfl, rfl⟩
theorem own_cancel (x y : Int64) : (x + y) - x = y := by
  rw [Int64.add_comm, Int64.add_sub_cancel]
theorem own_three (m k : Int32) (h : (m &&& (3 : Int32)) % (3 : Int32) = k) : k = (0 : Int32) ∨ k = (1 : Int32) ∨ k = (2 : Int32) := by
  have e1 : (m &&& (3 : Int32)).toInt = m.toInt % (2 ^ 2 : Nat) := c_mask m 3 2 (by decide) (by decide)
  have k3 : (3 : Int32).toInt = 3 := by decide
  have e2 := (c_iremV (m &&& (3 : Int32)) (3 : Int32)).1 (by omega) (by omega)
  rw [h] at e2
  have h0 : (0 : Int32).toInt = 0 := by decide
  have h1 : (1 : Int32).toInt = 1 := by decide
  have h2 : (2 : Int32).toInt = 2 := by decide
  simp only [← Int32.toInt_inj]
  omega
theorem own_pos (x : Int32) (m : Int32) (k : Nat) (hk : k ≤ 31) (hm : m.toBitVec.toNat = 2 ^ k - 1) (b : Int64) (h : (x &&& m).toInt64 + (1 : Int64) = b) : 0 < b.toInt := by
  have e1 := c_mask x m k hk hm
  have e2 := c_i2l (x &&& m)
  have e3 := c_ladd (x &&& m).toInt64 (1 : Int64)
  have r1 := rng64 b
  have r2 := rng32 (x &&& m)
  have k1 : (1 : Int64).toInt = 1 := by decide
  rw [h] at e3
  have e4 : 0 ≤ (x &&& m).toInt := by rw [e1]; exact Int.emod_nonneg _ (by have := Nat.two_pow_pos k; omega)
  omega
set_option maxRecDepth 65536 in
set_option maxHeartbeats 40000000 in
theorem law_con {l : Launch} {Z : State} {a0 : Array Value} (hw : ∀ d ∈ tables_1, d.before a0 Z = true) {h0 : Heap} {n0 : Nat} (sz0 : n0 ≤ h0.size) (s1 : Int64) (s2 : Int64) (ff : Int64) (span : Int32) (ln : Int32) (md : Int32) : Con l Z x code maxLocals ret room_1 tables_1 #[(.long s1), (.long s2), (.long ff), (.int span), (.int ln), (.int md)] h0 (LawQ n0) := by
  refine con_of (Ls := #[.val (.long s1), .second, .val (.long s2), .second, .val (.long ff), .second, .val (.int span), .val (.int ln), .val (.int md), .unset, .unset, .unset, .unset, .unset, .unset, .unset, .unset, .unset, .unset, .unset, .unset]) (plainFor_of_name (by first | (simp [plainName, overriddenIn]; done) | decide +kernel)) (fun m => by first | (simp [entryFrame, mkF, argsToLocals, Value.category, maxLocals]; done) | rfl) ?_
  have N0 : Fr n0 [] := Fr.nil _
  refine Go.iload (pc' := 2) at_0 rfl rfl ?_
  refine Go.iconst (pc' := 3) at_2 rfl (z := (3 : Int32)) (by decide) ?_
  refine Go.iand (pc' := 4) at_3 rfl rfl ?_
  refine Go.iconst (pc' := 5) at_4 rfl (z := (3 : Int32)) (by decide) ?_
  refine Go.irem (pc' := 6) at_5 rfl (by decide) rfl ?_
  generalize hv_kk : ((md &&& (3 : Int32)) % (3 : Int32)) = kk
  refine Go.istore (pc' := 8) at_6 rfl (Ls' := #[.val (.long s1), .second, .val (.long s2), .second, .val (.long ff), .second, .val (.int span), .val (.int ln), .val (.int md), .val (.int kk), .unset, .unset, .unset, .unset, .unset, .unset, .unset, .unset, .unset, .unset, .unset]) rfl ?_
  refine Go.iload (pc' := 10) at_8 rfl rfl ?_
  refine Go.ldcI (pc' := 12) at_10 rfl (hw _ w0) ?_
  refine Go.iand (pc' := 13) at_12 rfl rfl ?_
  refine Go.i2l (pc' := 14) at_13 rfl rfl ?_
  refine Go.lconst (pc' := 15) at_14 rfl (z := (1 : Int64)) (by decide) ?_
  refine Go.ladd (pc' := 16) at_15 rfl rfl ?_
  generalize hv_b1 : ((ln &&& (65535 : Int32)).toInt64 + (1 : Int64)) = b1
  refine Go.lstore (pc' := 18) at_16 rfl (Ls' := #[.val (.long s1), .second, .val (.long s2), .second, .val (.long ff), .second, .val (.int span), .val (.int ln), .val (.int md), .val (.int kk), .val (.long b1), .second, .unset, .unset, .unset, .unset, .unset, .unset, .unset, .unset, .unset]) rfl ?_
  have hb1 : 0 < b1.toInt := own_pos ln 65535 16 (by decide) (by decide) b1 hv_b1
  refine Go.iload (pc' := 20) at_18 rfl rfl ?_
  refine Go.bipush (pc' := 22) at_20 rfl (z := (16 : Int32)) (by decide) ?_
  refine Go.iushr (pc' := 23) at_22 rfl rfl ?_
  refine Go.sipush (pc' := 26) at_23 rfl (z := (32767 : Int32)) (by decide) ?_
  refine Go.iand (pc' := 27) at_26 rfl rfl ?_
  refine Go.i2l (pc' := 28) at_27 rfl rfl ?_
  refine Go.lconst (pc' := 29) at_28 rfl (z := (1 : Int64)) (by decide) ?_
  refine Go.ladd (pc' := 30) at_29 rfl rfl ?_
  generalize hv_b2 : ((((ln.toUInt32 >>> ((16 : Int32) &&& 31).toUInt32).toInt32) &&& (32767 : Int32)).toInt64 + (1 : Int64)) = b2
  refine Go.lstore (pc' := 32) at_30 rfl (Ls' := #[.val (.long s1), .second, .val (.long s2), .second, .val (.long ff), .second, .val (.int span), .val (.int ln), .val (.int md), .val (.int kk), .val (.long b1), .second, .val (.long b2), .second, .unset, .unset, .unset, .unset, .unset, .unset, .unset]) rfl ?_
  have hb2 : 0 < b2.toInt := own_pos _ 32767 15 (by decide) (by decide) b2 hv_b2
  have z0 : (0 : Int64).toInt = 0 := by decide
  have J48 : ∀ second : Int64, Go Z l room_1 code maxLocals x.cls ret x.name 48 #[.val (.long s1), .second, .val (.long s2), .second, .val (.long ff), .second, .val (.int span), .val (.int ln), .val (.int md), .val (.int kk), .val (.long b1), .second, .val (.long b2), .second, .val (.long second), .second, .unset, .unset, .unset, .unset, .unset] [] h0 [] 0 0 (LawQ n0) := by
    intro second
    rcases own_three md kk hv_kk with hs1 | hs1 | hs1
    · subst hs1
      refine Go.newO (pc' := 51) (k' := 1) (n' := 9) at_48 rfl (hw _ w1) (hw _ w2) (hw _ w3) (by decide) (by decide) rfl rfl ?_
      intro h2 obj ha_obj X2 E_obj D2
      have gn_obj : n0 ≤ obj := by rw [ha_obj]; exact sz0
      replace sz0 : n0 ≤ h2.size := Nat.le_trans sz0 X2.1
      have F_obj_room : Fld Z h2 obj "com/example/rehearsal/rehearsal/policies/KnownRuns" "room" "I" (.int (0 : Int32)) := D2 (Or.inl (hw _ w11)) (ty := .int) (by decide)
      have F_obj_starts : Fld Z h2 obj "com/example/rehearsal/rehearsal/policies/KnownRuns" "starts" "[J" .null := D2 (Or.inl (hw _ w14)) (ty := (.array .long)) (by decide)
      have F_obj_ends : Fld Z h2 obj "com/example/rehearsal/rehearsal/policies/KnownRuns" "ends" "[J" .null := D2 (Or.inl (hw _ w16)) (ty := (.array .long)) (by decide)
      have F_obj_spans : Fld Z h2 obj "com/example/rehearsal/rehearsal/policies/KnownRuns" "spans" "[I" .null := D2 (Or.inl (hw _ w19)) (ty := (.array .int)) (by decide)
      have F_obj_maxima : Fld Z h2 obj "com/example/rehearsal/rehearsal/policies/KnownRuns" "maxima" "[J" .null := D2 (Or.inl (hw _ w21)) (ty := (.array .long)) (by decide)
      have F_obj_frontier : Fld Z h2 obj "com/example/rehearsal/rehearsal/policies/KnownRuns" "frontier" "J" (.long (0 : Int64)) := D2 (Or.inl (hw _ w28)) (ty := .long) (by decide)
      have F_obj_frontierSpan : Fld Z h2 obj "com/example/rehearsal/rehearsal/policies/KnownRuns" "frontierSpan" "I" (.int (0 : Int32)) := D2 (Or.inl (hw _ w30)) (ty := .int) (by decide)
      have F_obj_setting : Fld Z h2 obj "com/example/rehearsal/rehearsal/policies/KnownRuns" "setting" "J" (.long (0 : Int64)) := D2 (Or.inl (hw _ w37)) (ty := .long) (by decide)
      have F_obj_count : Fld Z h2 obj "com/example/rehearsal/rehearsal/policies/KnownRuns" "count" "I" (.int (0 : Int32)) := D2 (Or.inl (hw _ w39)) (ty := .int) (by decide)
      refine Go.dup (pc' := 52) at_51 rfl rfl ?_
      refine Go.callI (pc' := 55) (W := 1) (a := obj) (argsL := []) (rest := [(.ref obj)]) (k' := 5) (n' := 89) at_52 rfl rfl (hw _ w4) (hw _ w5) (hw _ w3) (hw _ w6) (by decide) (c_init hw sz0 obj gn_obj E_obj F_obj_setting F_obj_frontier F_obj_frontierSpan F_obj_count F_obj_room F_obj_starts F_obj_ends F_obj_spans F_obj_maxima) (by decide) (by decide) (by decide) (by decide) rfl rfl rfl pd__28_29V rfl rfl (Nat.le_of_eq rfl) ?_
      intro v3 h3 P3 L3 NL3 hq3
      obtain ⟨ast, aen, asp, amx, rfl, ge_ast, ge_aen, ge_asp, ge_amx, N3, K3, E_obj_3, F_obj_setting_3, F_obj_frontier_3, F_obj_frontierSpan_3, F_obj_count_3, F_obj_room_3, F_obj_starts_3, F_obj_ends_3, F_obj_spans_3, F_obj_maxima_3, A_ast_3, A_aen_3, A_asp_3, A_amx_3⟩ := hq3
      dsimp only [Option.toList, List.cons_append, List.nil_append]
      have ne_obj_ast : obj ≠ ast := Nat.ne_of_lt (Nat.lt_of_lt_of_le E_obj.lt ge_ast)
      have gn_ast : n0 ≤ ast := Nat.le_trans sz0 ge_ast
      have ne_ast_aen : ast ≠ aen := Nat.ne_of_lt ge_aen
      have gt_aen := ge_aen
      replace ge_aen := Nat.le_trans ge_ast (Nat.le_of_lt gt_aen)
      have ne_obj_aen : obj ≠ aen := Nat.ne_of_lt (Nat.lt_of_lt_of_le E_obj.lt ge_aen)
      have gn_aen : n0 ≤ aen := Nat.le_trans sz0 ge_aen
      have ne_ast_asp : ast ≠ asp := Nat.ne_of_lt (Nat.lt_trans gt_aen ge_asp)
      have ne_aen_asp : aen ≠ asp := Nat.ne_of_lt ge_asp
      have gt_asp := ge_asp
      replace ge_asp := Nat.le_trans ge_aen (Nat.le_of_lt gt_asp)
      have ne_obj_asp : obj ≠ asp := Nat.ne_of_lt (Nat.lt_of_lt_of_le E_obj.lt ge_asp)
      have gn_asp : n0 ≤ asp := Nat.le_trans sz0 ge_asp
      have ne_ast_amx : ast ≠ amx := Nat.ne_of_lt (Nat.lt_trans gt_aen (Nat.lt_trans gt_asp ge_amx))
      have ne_aen_amx : aen ≠ amx := Nat.ne_of_lt (Nat.lt_trans gt_asp ge_amx)
      have ne_asp_amx : asp ≠ amx := Nat.ne_of_lt ge_amx
      have gt_amx := ge_amx
      replace ge_amx := Nat.le_trans ge_asp (Nat.le_of_lt gt_amx)
      have ne_obj_amx : obj ≠ amx := Nat.ne_of_lt (Nat.lt_of_lt_of_le E_obj.lt ge_amx)
      have gn_amx : n0 ≤ amx := Nat.le_trans sz0 ge_amx
      replace N0 := NL3 _ N0 N3
      replace sz0 : n0 ≤ h3.size := Nat.le_trans sz0 K3.1
      clear E_obj
      clear F_obj_room
      clear F_obj_starts
      clear F_obj_ends
      clear F_obj_spans
      clear F_obj_maxima
      clear F_obj_frontier
      clear F_obj_frontierSpan
      clear F_obj_setting
      clear F_obj_count
      have E_obj := E_obj_3; clear E_obj_3
      have F_obj_setting := F_obj_setting_3; clear F_obj_setting_3
      have F_obj_frontier := F_obj_frontier_3; clear F_obj_frontier_3
      have F_obj_frontierSpan := F_obj_frontierSpan_3; clear F_obj_frontierSpan_3
      have F_obj_count := F_obj_count_3; clear F_obj_count_3
      have F_obj_room := F_obj_room_3; clear F_obj_room_3
      have F_obj_starts := F_obj_starts_3; clear F_obj_starts_3
      have F_obj_ends := F_obj_ends_3; clear F_obj_ends_3
      have F_obj_spans := F_obj_spans_3; clear F_obj_spans_3
      have F_obj_maxima := F_obj_maxima_3; clear F_obj_maxima_3
      have A_ast := A_ast_3; clear A_ast_3
      have A_aen := A_aen_3; clear A_aen_3
      have A_asp := A_asp_3; clear A_asp_3
      have A_amx := A_amx_3; clear A_amx_3
      refine Go.astore (pc' := 57) at_55 rfl rfl (Ls' := #[.val (.long s1), .second, .val (.long s2), .second, .val (.long ff), .second, .val (.int span), .val (.int ln), .val (.int md), .val (.int (0 : Int32)), .val (.long b1), .second, .val (.long b2), .second, .val (.long second), .second, .val (.ref obj), .unset, .unset, .unset, .unset]) rfl ?_
      refine Go.iload (pc' := 59) at_57 rfl rfl ?_
      refine Go.iconst (pc' := 60) at_59 rfl (z := (1 : Int32)) (by decide) ?_
      refine Go.icmpT (pc' := 72) (X := (0 : Int)) (Y := (1 : Int)) at_60 (by decide) (by decide) (by decide) (by decide : (0 : Int) < (1 : Int)) ?_
      refine Go.iload (pc' := 74) at_72 rfl rfl ?_
      refine Go.iconst (pc' := 75) at_74 rfl (z := (2 : Int32)) (by decide) ?_
      refine Go.icmpT (pc' := 95) (X := (0 : Int)) (Y := (2 : Int)) at_75 (by decide) (by decide) (by decide) (by decide : (0 : Int) < (2 : Int)) ?_
      refine Go.aload (pc' := 97) at_95 rfl rfl rfl ?_
      refine Go.lload (pc' := 99) at_97 rfl rfl ?_
      refine Go.iload (pc' := 101) at_99 rfl rfl ?_
      refine Go.callV (pc' := 104) (W := 0) (a := obj) (argsL := [(.long ff), (.int span)]) (rest := []) (k' := 5) (n' := 89) at_101 rfl (hw _ w22) (hw _ w23) (nf_sel (hw _ w25)) (hw _ w25) (hw _ w24) (hw _ w3) (hw _ w26) E_obj (by decide) (c_move hw sz0 obj ast aen asp amx (0 : Int64) (0 : Int64) (0 : Int32) (0 : Int32) (0 : Int64) (0 : Int64) (0 : Int64) (0 : Int64) (0 : Int32) (0 : Int32) (0 : Int64) (0 : Int64) (0 : Int64) (0 : Int64) (0 : Int64) (0 : Int64) ff span gn_obj gn_ast gn_aen gn_asp gn_amx ne_ast_aen ne_ast_asp ne_ast_amx ne_aen_asp ne_aen_amx ne_asp_amx E_obj F_obj_setting F_obj_frontier F_obj_frontierSpan F_obj_count F_obj_room F_obj_starts F_obj_ends F_obj_spans F_obj_maxima A_ast A_aen A_asp A_amx) (by decide) (by decide) (by decide) (by decide) rfl rfl rfl pd__28JI_29V rfl rfl (Nat.le_of_eq rfl) ?_
      intro v4 h4 P4 L4 NL4 hq4
      obtain ⟨rfl, N4, K4, E_obj_4, F_obj_setting_4, F_obj_frontier_4, F_obj_frontierSpan_4, F_obj_count_4, F_obj_room_4, F_obj_starts_4, F_obj_ends_4, F_obj_spans_4, F_obj_maxima_4⟩ := hq4
      dsimp only [Option.toList, List.cons_append, List.nil_append]
      replace N0 := NL4 _ N0 N4
      replace sz0 : n0 ≤ h4.size := Nat.le_trans sz0 K4.1
      clear E_obj
      clear F_obj_room
      clear F_obj_starts
      clear F_obj_ends
      clear F_obj_spans
      clear F_obj_maxima
      clear F_obj_frontier
      clear F_obj_frontierSpan
      clear F_obj_setting
      clear F_obj_count
      replace A_ast := A_ast.keep K4 (ninS (Ne.symm ne_obj_ast) nin0)
      replace A_aen := A_aen.keep K4 (ninS (Ne.symm ne_obj_aen) nin0)
      replace A_asp := A_asp.keep K4 (ninS (Ne.symm ne_obj_asp) nin0)
      replace A_amx := A_amx.keep K4 (ninS (Ne.symm ne_obj_amx) nin0)
      have E_obj := E_obj_4; clear E_obj_4
      have F_obj_setting := F_obj_setting_4; clear F_obj_setting_4
      have F_obj_frontier := F_obj_frontier_4; clear F_obj_frontier_4
      have F_obj_frontierSpan := F_obj_frontierSpan_4; clear F_obj_frontierSpan_4
      have F_obj_count := F_obj_count_4; clear F_obj_count_4
      have F_obj_room := F_obj_room_4; clear F_obj_room_4
      have F_obj_starts := F_obj_starts_4; clear F_obj_starts_4
      have F_obj_ends := F_obj_ends_4; clear F_obj_ends_4
      have F_obj_spans := F_obj_spans_4; clear F_obj_spans_4
      have F_obj_maxima := F_obj_maxima_4; clear F_obj_maxima_4
      by_cases hk1 : s1.toInt = (0 : Int)
      · have _ := hk1
        refine Go.aload (pc' := 106) at_104 rfl rfl rfl ?_
        refine Go.lloadN (pc' := 107) at_106 rfl rfl ?_
        refine Go.callV0 (pc' := 110) (W := 0) (a := obj) (argsL := [(.long s1)]) (rest := []) (v0 := none) (st2 := []) at_107 rfl (hw _ w31) (hw _ w32) (nf_sel (hw _ w34)) (hw _ w34) (hw _ w33) (hw _ w3) (hw _ w35) E_obj (by decide) (c_keq hw obj ast aen asp amx (0 : Int64) ff span (0 : Int32) (0 : Int64) (0 : Int64) (0 : Int64) (0 : Int64) (0 : Int32) (0 : Int32) (0 : Int64) (0 : Int64) (0 : Int64) (0 : Int64) (0 : Int64) (0 : Int64) s1 ne_ast_aen ne_ast_asp ne_ast_amx ne_aen_asp ne_aen_amx ne_asp_amx E_obj F_obj_setting F_obj_frontier F_obj_frontierSpan F_obj_count F_obj_room F_obj_starts F_obj_ends F_obj_spans F_obj_maxima A_ast A_aen A_asp A_amx (by omega)) (by decide) (by decide) rfl rfl rfl (by decide) (by decide) rfl pd__28J_29V rfl rfl (Nat.le_of_eq rfl) ?_
        refine Go.lloadN (pc' := 111) at_110 rfl rfl ?_
        refine Go.lconst (pc' := 112) at_111 rfl (z := (0 : Int64)) (by decide) ?_
        refine Go.lcmpF (pc' := 116) (X := s1.toInt) (Y := (0 : Int)) at_112 at_113 rfl rfl rfl (by decide) (hk1 : s1.toInt = (0 : Int)) ?_
        refine Go.iconst (pc' := 117) at_116 rfl (z := (1 : Int32)) (by decide) ?_
        refine Go.goto (pc' := 121) at_117 (by decide) ?_
        refine Go.istore (pc' := 123) at_121 rfl (Ls' := #[.val (.long s1), .second, .val (.long s2), .second, .val (.long ff), .second, .val (.int span), .val (.int ln), .val (.int md), .val (.int (0 : Int32)), .val (.long b1), .second, .val (.long b2), .second, .val (.long second), .second, .val (.ref obj), .val (.int (1 : Int32)), .unset, .unset, .unset]) rfl ?_
        refine Go.iload (pc' := 125) at_123 rfl rfl ?_
        refine Go.ifF (pc' := 128) (X := (1 : Int)) at_125 rfl (by decide) (by decide : ¬ (1 : Int) = 0) ?_
        refine Go.aload (pc' := 130) at_128 rfl rfl rfl ?_
        refine Go.callV0 (pc' := 133) (W := 0) (a := obj) (argsL := []) (rest := []) (v0 := some (.long ff)) (st2 := [(.long ff)]) at_130 rfl (hw _ w40) (hw _ w41) (nf_sel (hw _ w43)) (hw _ w43) (hw _ w42) (hw _ w3) (hw _ w44) E_obj (by decide) (c_front hw obj ast aen asp amx (0 : Int64) ff span (0 : Int32) (0 : Int64) (0 : Int64) (0 : Int64) (0 : Int64) (0 : Int32) (0 : Int32) (0 : Int64) (0 : Int64) (0 : Int64) (0 : Int64) (0 : Int64) (0 : Int64) ne_ast_aen ne_ast_asp ne_ast_amx ne_aen_asp ne_aen_amx ne_asp_amx E_obj F_obj_setting F_obj_frontier F_obj_frontierSpan F_obj_count F_obj_room F_obj_starts F_obj_ends F_obj_spans F_obj_maxima A_ast A_aen A_asp A_amx) (by decide) (by decide) rfl rfl rfl (by decide) (by decide) rfl pd__28_29J rfl rfl (Nat.le_of_eq rfl) ?_
        refine Go.lload (pc' := 135) at_133 rfl rfl ?_
        refine Go.lcmpF (pc' := 139) (X := ff.toInt) (Y := ff.toInt) at_135 at_136 rfl rfl rfl rfl (rfl : ff.toInt = ff.toInt) ?_
        refine Go.aload (pc' := 141) at_139 rfl rfl rfl ?_
        refine Go.callV0 (pc' := 144) (W := 0) (a := obj) (argsL := []) (rest := []) (v0 := some (.int span)) (st2 := [(.int span)]) at_141 rfl (hw _ w45) (hw _ w46) (nf_sel (hw _ w48)) (hw _ w48) (hw _ w47) (hw _ w3) (hw _ w49) E_obj (by decide) (c_fspan hw obj ast aen asp amx (0 : Int64) ff span (0 : Int32) (0 : Int64) (0 : Int64) (0 : Int64) (0 : Int64) (0 : Int32) (0 : Int32) (0 : Int64) (0 : Int64) (0 : Int64) (0 : Int64) (0 : Int64) (0 : Int64) ne_ast_aen ne_ast_asp ne_ast_amx ne_aen_asp ne_aen_amx ne_asp_amx E_obj F_obj_setting F_obj_frontier F_obj_frontierSpan F_obj_count F_obj_room F_obj_starts F_obj_ends F_obj_spans F_obj_maxima A_ast A_aen A_asp A_amx) (by decide) (by decide) rfl rfl rfl (by decide) (by decide) rfl pd__28_29I rfl rfl (Nat.le_of_eq rfl) ?_
        refine Go.iload (pc' := 146) at_144 rfl rfl ?_
        refine Go.icmpF (pc' := 149) (X := span.toInt) (Y := span.toInt) at_146 rfl rfl rfl (rfl : span.toInt = span.toInt) ?_
        refine Go.aload (pc' := 151) at_149 rfl rfl rfl ?_
        refine Go.lconst (pc' := 152) at_151 rfl (z := (1 : Int64)) (by decide) ?_
        refine Go.callV0 (pc' := 155) (W := 0) (a := obj) (argsL := [(.long (1 : Int64))]) (rest := []) (v0 := some (.int (-1 : Int32))) (st2 := [(.int (-1 : Int32))]) at_152 rfl (hw _ w50) (hw _ w51) (nf_sel (hw _ w53)) (hw _ w53) (hw _ w52) (hw _ w3) (hw _ w54) E_obj (by decide) (c_first1 hw obj ast aen asp amx (0 : Int64) ff span (0 : Int32) (0 : Int64) (0 : Int64) (0 : Int64) (0 : Int64) (0 : Int32) (0 : Int32) (0 : Int64) (0 : Int64) (0 : Int64) (0 : Int64) (0 : Int64) (0 : Int64) ne_ast_aen ne_ast_asp ne_ast_amx ne_aen_asp ne_aen_amx ne_asp_amx E_obj F_obj_setting F_obj_frontier F_obj_frontierSpan F_obj_count F_obj_room F_obj_starts F_obj_ends F_obj_spans F_obj_maxima A_ast A_aen A_asp A_amx (by decide)) (by decide) (by decide) rfl rfl rfl (by decide) (by decide) rfl pd__28J_29I rfl rfl (Nat.le_of_eq rfl) ?_
        refine Go.iload (pc' := 157) at_155 rfl rfl ?_
        refine Go.iconst (pc' := 158) at_157 rfl (z := (1 : Int32)) (by decide) ?_
        refine Go.icmpT (pc' := 165) (X := (0 : Int)) (Y := (1 : Int)) at_158 (by decide) (by decide) (by decide) (by decide : (0 : Int) < (1 : Int)) ?_
        refine Go.iconst (pc' := 166) at_165 rfl (z := (-1 : Int32)) (by decide) ?_
        refine Go.icmpF (pc' := 169) (X := (-1 : Int)) (Y := (-1 : Int)) at_166 rfl (by decide) (by decide) (by decide : (-1 : Int) = (-1 : Int)) ?_
        refine Go.aload (pc' := 171) at_169 rfl rfl rfl ?_
        refine Go.iconst (pc' := 172) at_171 rfl (z := (0 : Int32)) (by decide) ?_
        refine Go.callV0 (pc' := 175) (W := 0) (a := obj) (argsL := [(.int (0 : Int32))]) (rest := []) (v0 := some (.long (0 : Int64))) (st2 := [(.long (0 : Int64))]) at_172 rfl (hw _ w55) (hw _ w56) (nf_sel (hw _ w58)) (hw _ w58) (hw _ w57) (hw _ w3) (hw _ w59) E_obj (by decide) (c_bound hw obj ast aen asp amx (0 : Int64) ff span (0 : Int32) (0 : Int64) (0 : Int64) (0 : Int64) (0 : Int64) (0 : Int32) (0 : Int32) (0 : Int64) (0 : Int64) (0 : Int64) (0 : Int64) (0 : Int64) (0 : Int64) ne_ast_aen ne_ast_asp ne_ast_amx ne_aen_asp ne_aen_amx ne_asp_amx E_obj F_obj_setting F_obj_frontier F_obj_frontierSpan F_obj_count F_obj_room F_obj_starts F_obj_ends F_obj_spans F_obj_maxima A_ast A_aen A_asp A_amx) (by decide) (by decide) rfl rfl rfl (by decide) (by decide) rfl pd__28I_29J rfl rfl (Nat.le_of_eq rfl) ?_
        refine Go.iload (pc' := 177) at_175 rfl rfl ?_
        refine Go.iconst (pc' := 178) at_177 rfl (z := (1 : Int32)) (by decide) ?_
        refine Go.icmpT (pc' := 186) (X := (0 : Int)) (Y := (1 : Int)) at_178 (by decide) (by decide) (by decide) (by decide : (0 : Int) < (1 : Int)) ?_
        refine Go.lconst (pc' := 187) at_186 rfl (z := (0 : Int64)) (by decide) ?_
        refine Go.lcmpF (pc' := 191) (X := (0 : Int)) (Y := (0 : Int)) at_187 at_188 rfl rfl (by decide) (by decide) (by decide : (0 : Int) = (0 : Int)) ?_
        refine Go.iconst (pc' := 192) at_191 rfl (z := (1 : Int32)) (by decide) ?_
        refine Go.goto (pc' := 196) at_192 (by decide) ?_
        refine Go.istore (pc' := 198) at_196 rfl (Ls' := #[.val (.long s1), .second, .val (.long s2), .second, .val (.long ff), .second, .val (.int span), .val (.int ln), .val (.int md), .val (.int (0 : Int32)), .val (.long b1), .second, .val (.long b2), .second, .val (.long second), .second, .val (.ref obj), .val (.int (1 : Int32)), .val (.int (1 : Int32)), .unset, .unset]) rfl ?_
        refine Go.goto (pc' := 247) at_198 (by decide) ?_
        refine Go.iload (pc' := 249) at_247 rfl rfl ?_
        refine Go.iconst (pc' := 250) at_249 rfl (z := (1 : Int32)) (by decide) ?_
        refine Go.ior (pc' := 251) at_250 rfl rfl ?_
        generalize hv_span2 : (span ||| (1 : Int32)) = span2
        refine Go.istore (pc' := 253) at_251 rfl (Ls' := #[.val (.long s1), .second, .val (.long s2), .second, .val (.long ff), .second, .val (.int span), .val (.int ln), .val (.int md), .val (.int (0 : Int32)), .val (.long b1), .second, .val (.long b2), .second, .val (.long second), .second, .val (.ref obj), .val (.int (1 : Int32)), .val (.int (1 : Int32)), .val (.int span2), .unset]) rfl ?_
        refine Go.aload (pc' := 255) at_253 rfl rfl rfl ?_
        refine Go.lload (pc' := 257) at_255 rfl rfl ?_
        refine Go.iload (pc' := 259) at_257 rfl rfl ?_
        refine Go.callV (pc' := 262) (W := 0) (a := obj) (argsL := [(.long ff), (.int span2)]) (rest := []) (k' := 5) (n' := 89) at_259 rfl (hw _ w22) (hw _ w23) (nf_sel (hw _ w25)) (hw _ w25) (hw _ w24) (hw _ w3) (hw _ w26) E_obj (by decide) (c_move hw sz0 obj ast aen asp amx (0 : Int64) ff span (0 : Int32) (0 : Int64) (0 : Int64) (0 : Int64) (0 : Int64) (0 : Int32) (0 : Int32) (0 : Int64) (0 : Int64) (0 : Int64) (0 : Int64) (0 : Int64) (0 : Int64) ff span2 gn_obj gn_ast gn_aen gn_asp gn_amx ne_ast_aen ne_ast_asp ne_ast_amx ne_aen_asp ne_aen_amx ne_asp_amx E_obj F_obj_setting F_obj_frontier F_obj_frontierSpan F_obj_count F_obj_room F_obj_starts F_obj_ends F_obj_spans F_obj_maxima A_ast A_aen A_asp A_amx) (by decide) (by decide) (by decide) (by decide) rfl rfl rfl pd__28JI_29V rfl rfl (Nat.le_of_eq rfl) ?_
        intro v5 h5 P5 L5 NL5 hq5
        obtain ⟨rfl, N5, K5, E_obj_5, F_obj_setting_5, F_obj_frontier_5, F_obj_frontierSpan_5, F_obj_count_5, F_obj_room_5, F_obj_starts_5, F_obj_ends_5, F_obj_spans_5, F_obj_maxima_5⟩ := hq5
        dsimp only [Option.toList, List.cons_append, List.nil_append]
        replace N0 := NL5 _ N0 N5
        replace sz0 : n0 ≤ h5.size := Nat.le_trans sz0 K5.1
        clear E_obj
        clear F_obj_room
        clear F_obj_starts
        clear F_obj_ends
        clear F_obj_spans
        clear F_obj_maxima
        clear F_obj_frontier
        clear F_obj_frontierSpan
        clear F_obj_setting
        clear F_obj_count
        replace A_ast := A_ast.keep K5 (ninS (Ne.symm ne_obj_ast) nin0)
        replace A_aen := A_aen.keep K5 (ninS (Ne.symm ne_obj_aen) nin0)
        replace A_asp := A_asp.keep K5 (ninS (Ne.symm ne_obj_asp) nin0)
        replace A_amx := A_amx.keep K5 (ninS (Ne.symm ne_obj_amx) nin0)
        have E_obj := E_obj_5; clear E_obj_5
        have F_obj_setting := F_obj_setting_5; clear F_obj_setting_5
        have F_obj_frontier := F_obj_frontier_5; clear F_obj_frontier_5
        have F_obj_frontierSpan := F_obj_frontierSpan_5; clear F_obj_frontierSpan_5
        have F_obj_count := F_obj_count_5; clear F_obj_count_5
        have F_obj_room := F_obj_room_5; clear F_obj_room_5
        have F_obj_starts := F_obj_starts_5; clear F_obj_starts_5
        have F_obj_ends := F_obj_ends_5; clear F_obj_ends_5
        have F_obj_spans := F_obj_spans_5; clear F_obj_spans_5
        have F_obj_maxima := F_obj_maxima_5; clear F_obj_maxima_5
        by_cases hk2 : second.toInt = s1.toInt
        · have _ := hk2
          refine Go.aload (pc' := 264) at_262 rfl rfl rfl ?_
          refine Go.lload (pc' := 266) at_264 rfl rfl ?_
          refine Go.callV0 (pc' := 269) (W := 0) (a := obj) (argsL := [(.long second)]) (rest := []) (v0 := none) (st2 := []) at_266 rfl (hw _ w31) (hw _ w32) (nf_sel (hw _ w34)) (hw _ w34) (hw _ w33) (hw _ w3) (hw _ w35) E_obj (by decide) (c_keq hw obj ast aen asp amx (0 : Int64) ff span2 (0 : Int32) (0 : Int64) (0 : Int64) (0 : Int64) (0 : Int64) (0 : Int32) (0 : Int32) (0 : Int64) (0 : Int64) (0 : Int64) (0 : Int64) (0 : Int64) (0 : Int64) second ne_ast_aen ne_ast_asp ne_ast_amx ne_aen_asp ne_aen_amx ne_asp_amx E_obj F_obj_setting F_obj_frontier F_obj_frontierSpan F_obj_count F_obj_room F_obj_starts F_obj_ends F_obj_spans F_obj_maxima A_ast A_aen A_asp A_amx (by omega)) (by decide) (by decide) rfl rfl rfl (by decide) (by decide) rfl pd__28J_29V rfl rfl (Nat.le_of_eq rfl) ?_
          refine Go.lload (pc' := 271) at_269 rfl rfl ?_
          refine Go.lloadN (pc' := 272) at_271 rfl rfl ?_
          refine Go.lcmpF (pc' := 276) (X := second.toInt) (Y := s1.toInt) at_272 at_273 rfl rfl rfl rfl (hk2 : second.toInt = s1.toInt) ?_
          refine Go.iconst (pc' := 277) at_276 rfl (z := (1 : Int32)) (by decide) ?_
          refine Go.goto (pc' := 281) at_277 (by decide) ?_
          refine Go.istore (pc' := 283) at_281 rfl (Ls' := #[.val (.long s1), .second, .val (.long s2), .second, .val (.long ff), .second, .val (.int span), .val (.int ln), .val (.int md), .val (.int (0 : Int32)), .val (.long b1), .second, .val (.long b2), .second, .val (.long second), .second, .val (.ref obj), .val (.int (1 : Int32)), .val (.int (1 : Int32)), .val (.int span2), .val (.int (1 : Int32))]) rfl ?_
          refine Go.iload (pc' := 285) at_283 rfl rfl ?_
          refine Go.ifF (pc' := 288) (X := (1 : Int)) at_285 rfl (by decide) (by decide : ¬ (1 : Int) = 0) ?_
          refine Go.aload (pc' := 290) at_288 rfl rfl rfl ?_
          refine Go.callV0 (pc' := 293) (W := 0) (a := obj) (argsL := []) (rest := []) (v0 := some (.int span2)) (st2 := [(.int span2)]) at_290 rfl (hw _ w45) (hw _ w46) (nf_sel (hw _ w48)) (hw _ w48) (hw _ w47) (hw _ w3) (hw _ w49) E_obj (by decide) (c_fspan hw obj ast aen asp amx (0 : Int64) ff span2 (0 : Int32) (0 : Int64) (0 : Int64) (0 : Int64) (0 : Int64) (0 : Int32) (0 : Int32) (0 : Int64) (0 : Int64) (0 : Int64) (0 : Int64) (0 : Int64) (0 : Int64) ne_ast_aen ne_ast_asp ne_ast_amx ne_aen_asp ne_aen_amx ne_asp_amx E_obj F_obj_setting F_obj_frontier F_obj_frontierSpan F_obj_count F_obj_room F_obj_starts F_obj_ends F_obj_spans F_obj_maxima A_ast A_aen A_asp A_amx) (by decide) (by decide) rfl rfl rfl (by decide) (by decide) rfl pd__28_29I rfl rfl (Nat.le_of_eq rfl) ?_
          refine Go.iload (pc' := 295) at_293 rfl rfl ?_
          refine Go.ifF (pc' := 298) (X := (1 : Int)) at_295 rfl (by decide) (by decide : ¬ (1 : Int) = 0) ?_
          refine Go.iload (pc' := 300) at_298 rfl rfl ?_
          refine Go.goto (pc' := 304) at_300 (by decide) ?_
          refine Go.icmpF (pc' := 307) (X := span2.toInt) (Y := span2.toInt) at_304 rfl rfl rfl (rfl : span2.toInt = span2.toInt) ?_
          refine Go.iconst (pc' := 308) at_307 rfl (z := (1 : Int32)) (by decide) ?_
          refine Go.goto (pc' := 312) at_308 (by decide) ?_
          refine Go.istore (pc' := 314) at_312 rfl (Ls' := #[.val (.long s1), .second, .val (.long s2), .second, .val (.long ff), .second, .val (.int span), .val (.int ln), .val (.int md), .val (.int (0 : Int32)), .val (.long b1), .second, .val (.long b2), .second, .val (.long second), .second, .val (.ref obj), .val (.int (1 : Int32)), .val (.int (1 : Int32)), .val (.int span2), .val (.int (1 : Int32))]) rfl ?_
          refine Go.iload (pc' := 316) at_314 rfl rfl ?_
          refine Go.ifF (pc' := 319) (X := (1 : Int)) at_316 rfl (by decide) (by decide : ¬ (1 : Int) = 0) ?_
          refine Go.aload (pc' := 321) at_319 rfl rfl rfl ?_
          refine Go.lconst (pc' := 322) at_321 rfl (z := (1 : Int64)) (by decide) ?_
          refine Go.callV0 (pc' := 325) (W := 0) (a := obj) (argsL := [(.long (1 : Int64))]) (rest := []) (v0 := some (.int (-1 : Int32))) (st2 := [(.int (-1 : Int32))]) at_322 rfl (hw _ w50) (hw _ w51) (nf_sel (hw _ w53)) (hw _ w53) (hw _ w52) (hw _ w3) (hw _ w54) E_obj (by decide) (c_first1 hw obj ast aen asp amx (0 : Int64) ff span2 (0 : Int32) (0 : Int64) (0 : Int64) (0 : Int64) (0 : Int64) (0 : Int32) (0 : Int32) (0 : Int64) (0 : Int64) (0 : Int64) (0 : Int64) (0 : Int64) (0 : Int64) ne_ast_aen ne_ast_asp ne_ast_amx ne_aen_asp ne_aen_amx ne_asp_amx E_obj F_obj_setting F_obj_frontier F_obj_frontierSpan F_obj_count F_obj_room F_obj_starts F_obj_ends F_obj_spans F_obj_maxima A_ast A_aen A_asp A_amx (by decide)) (by decide) (by decide) rfl rfl rfl (by decide) (by decide) rfl pd__28J_29I rfl rfl (Nat.le_of_eq rfl) ?_
          refine Go.iload (pc' := 327) at_325 rfl rfl ?_
          refine Go.ifF (pc' := 330) (X := (1 : Int)) at_327 rfl (by decide) (by decide : ¬ (1 : Int) = 0) ?_
          refine Go.iload (pc' := 332) at_330 rfl rfl ?_
          refine Go.ifF (pc' := 335) (X := (1 : Int)) at_332 rfl (by decide) (by decide : ¬ (1 : Int) = 0) ?_
          refine Go.iload (pc' := 337) at_335 rfl rfl ?_
          refine Go.iconst (pc' := 338) at_337 rfl (z := (1 : Int32)) (by decide) ?_
          refine Go.icmpT (pc' := 345) (X := (0 : Int)) (Y := (1 : Int)) at_338 (by decide) (by decide) (by decide) (by decide : (0 : Int) < (1 : Int)) ?_
          refine Go.iconst (pc' := 346) at_345 rfl (z := (-1 : Int32)) (by decide) ?_
          refine Go.icmpF (pc' := 349) (X := (-1 : Int)) (Y := (-1 : Int)) at_346 rfl (by decide) (by decide) (by decide : (-1 : Int) = (-1 : Int)) ?_
          refine Go.iconst (pc' := 350) at_349 rfl (z := (1 : Int32)) (by decide) ?_
          refine Go.goto (pc' := 354) at_350 (by decide) ?_
          refine Go.istore (pc' := 356) at_354 rfl (Ls' := #[.val (.long s1), .second, .val (.long s2), .second, .val (.long ff), .second, .val (.int span), .val (.int ln), .val (.int md), .val (.int (0 : Int32)), .val (.long b1), .second, .val (.long b2), .second, .val (.long second), .second, .val (.ref obj), .val (.int (1 : Int32)), .val (.int (1 : Int32)), .val (.int span2), .val (.int (1 : Int32))]) rfl ?_
          refine Go.iload (pc' := 358) at_356 rfl rfl ?_
          refine Go.retZ at_358 rfl (by decide) (by decide) (by decide) ?_
          exact ⟨rfl, N0⟩
        · have _ := hk2
          refine Go.aload (pc' := 264) at_262 rfl rfl rfl ?_
          refine Go.lload (pc' := 266) at_264 rfl rfl ?_
          refine Go.callV (pc' := 269) (W := 0) (a := obj) (argsL := [(.long second)]) (rest := []) (k' := 5) (n' := 89) at_266 rfl (hw _ w31) (hw _ w32) (nf_sel (hw _ w34)) (hw _ w34) (hw _ w33) (hw _ w3) (hw _ w35) E_obj (by decide) (c_kne0 hw sz0 obj ast aen asp amx (0 : Int64) ff span2 (0 : Int64) (0 : Int64) (0 : Int64) (0 : Int64) (0 : Int32) (0 : Int32)  second (by omega)  gn_obj gn_ast gn_aen gn_asp gn_amx ne_ast_aen ne_ast_asp ne_ast_amx ne_aen_asp ne_aen_amx ne_asp_amx E_obj F_obj_setting F_obj_frontier F_obj_frontierSpan F_obj_count F_obj_room F_obj_starts F_obj_ends F_obj_spans F_obj_maxima A_ast A_aen A_asp A_amx ) (by decide) (by decide) (by decide) (by decide) rfl rfl rfl pd__28J_29V rfl rfl (Nat.le_of_eq rfl) ?_
          intro v6 h6 P6 L6 NL6 hq6
          obtain ⟨rfl, N6, K6, E_obj_6, F_obj_setting_6, F_obj_frontier_6, F_obj_frontierSpan_6, F_obj_count_6, F_obj_room_6, F_obj_starts_6, F_obj_ends_6, F_obj_spans_6, F_obj_maxima_6, A_amx_6⟩ := hq6
          dsimp only [Option.toList, List.cons_append, List.nil_append]
          replace N0 := NL6 _ N0 N6
          replace sz0 : n0 ≤ h6.size := Nat.le_trans sz0 K6.1
          clear E_obj
          clear F_obj_room
          clear F_obj_starts
          clear F_obj_ends
          clear F_obj_spans
          clear F_obj_maxima
          clear F_obj_frontier
          clear F_obj_frontierSpan
          clear F_obj_setting
          clear F_obj_count
          replace A_ast := A_ast.keep K6 (ninS (Ne.symm ne_obj_ast) (ninS ne_ast_amx nin0))
          replace A_aen := A_aen.keep K6 (ninS (Ne.symm ne_obj_aen) (ninS ne_aen_amx nin0))
          replace A_asp := A_asp.keep K6 (ninS (Ne.symm ne_obj_asp) (ninS ne_asp_amx nin0))
          clear A_amx
          have E_obj := E_obj_6; clear E_obj_6
          have F_obj_setting := F_obj_setting_6; clear F_obj_setting_6
          have F_obj_frontier := F_obj_frontier_6; clear F_obj_frontier_6
          have F_obj_frontierSpan := F_obj_frontierSpan_6; clear F_obj_frontierSpan_6
          have F_obj_count := F_obj_count_6; clear F_obj_count_6
          have F_obj_room := F_obj_room_6; clear F_obj_room_6
          have F_obj_starts := F_obj_starts_6; clear F_obj_starts_6
          have F_obj_ends := F_obj_ends_6; clear F_obj_ends_6
          have F_obj_spans := F_obj_spans_6; clear F_obj_spans_6
          have F_obj_maxima := F_obj_maxima_6; clear F_obj_maxima_6
          have A_amx := A_amx_6; clear A_amx_6
          refine Go.lload (pc' := 271) at_269 rfl rfl ?_
          refine Go.lloadN (pc' := 272) at_271 rfl rfl ?_
          refine Go.lcmpT (pc' := 280) (X := second.toInt) (Y := s1.toInt) at_272 at_273 rfl (by decide) rfl rfl (hk2 : ¬ second.toInt = s1.toInt) ?_
          refine Go.iconst (pc' := 281) at_280 rfl (z := (0 : Int32)) (by decide) ?_
          refine Go.istore (pc' := 283) at_281 rfl (Ls' := #[.val (.long s1), .second, .val (.long s2), .second, .val (.long ff), .second, .val (.int span), .val (.int ln), .val (.int md), .val (.int (0 : Int32)), .val (.long b1), .second, .val (.long b2), .second, .val (.long second), .second, .val (.ref obj), .val (.int (1 : Int32)), .val (.int (1 : Int32)), .val (.int span2), .val (.int (0 : Int32))]) rfl ?_
          refine Go.iload (pc' := 285) at_283 rfl rfl ?_
          refine Go.ifF (pc' := 288) (X := (1 : Int)) at_285 rfl (by decide) (by decide : ¬ (1 : Int) = 0) ?_
          refine Go.aload (pc' := 290) at_288 rfl rfl rfl ?_
          refine Go.callV0 (pc' := 293) (W := 0) (a := obj) (argsL := []) (rest := []) (v0 := some (.int (0 : Int32))) (st2 := [(.int (0 : Int32))]) at_290 rfl (hw _ w45) (hw _ w46) (nf_sel (hw _ w48)) (hw _ w48) (hw _ w47) (hw _ w3) (hw _ w49) E_obj (by decide) (c_fspan hw obj ast aen asp amx second (0 : Int64) (0 : Int32) (0 : Int32) (0 : Int64) (0 : Int64) (0 : Int64) (0 : Int64) (0 : Int32) (0 : Int32) (0 : Int64) (0 : Int64) (0 : Int64) (0 : Int64) (0 : Int64) (0 : Int64) ne_ast_aen ne_ast_asp ne_ast_amx ne_aen_asp ne_aen_amx ne_asp_amx E_obj F_obj_setting F_obj_frontier F_obj_frontierSpan F_obj_count F_obj_room F_obj_starts F_obj_ends F_obj_spans F_obj_maxima A_ast A_aen A_asp A_amx) (by decide) (by decide) rfl rfl rfl (by decide) (by decide) rfl pd__28_29I rfl rfl (Nat.le_of_eq rfl) ?_
          refine Go.iload (pc' := 295) at_293 rfl rfl ?_
          refine Go.ifT (pc' := 303) (X := (0 : Int)) at_295 (by decide) (by decide) (by decide : (0 : Int) = 0) ?_
          refine Go.iconst (pc' := 304) at_303 rfl (z := (0 : Int32)) (by decide) ?_
          refine Go.icmpF (pc' := 307) (X := (0 : Int)) (Y := (0 : Int)) at_304 rfl (by decide) (by decide) (by decide : (0 : Int) = (0 : Int)) ?_
          refine Go.iconst (pc' := 308) at_307 rfl (z := (1 : Int32)) (by decide) ?_
          refine Go.goto (pc' := 312) at_308 (by decide) ?_
          refine Go.istore (pc' := 314) at_312 rfl (Ls' := #[.val (.long s1), .second, .val (.long s2), .second, .val (.long ff), .second, .val (.int span), .val (.int ln), .val (.int md), .val (.int (0 : Int32)), .val (.long b1), .second, .val (.long b2), .second, .val (.long second), .second, .val (.ref obj), .val (.int (1 : Int32)), .val (.int (1 : Int32)), .val (.int span2), .val (.int (0 : Int32))]) rfl ?_
          refine Go.iload (pc' := 316) at_314 rfl rfl ?_
          refine Go.ifF (pc' := 319) (X := (1 : Int)) at_316 rfl (by decide) (by decide : ¬ (1 : Int) = 0) ?_
          refine Go.aload (pc' := 321) at_319 rfl rfl rfl ?_
          refine Go.lconst (pc' := 322) at_321 rfl (z := (1 : Int64)) (by decide) ?_
          refine Go.callV0 (pc' := 325) (W := 0) (a := obj) (argsL := [(.long (1 : Int64))]) (rest := []) (v0 := some (.int (-1 : Int32))) (st2 := [(.int (-1 : Int32))]) at_322 rfl (hw _ w50) (hw _ w51) (nf_sel (hw _ w53)) (hw _ w53) (hw _ w52) (hw _ w3) (hw _ w54) E_obj (by decide) (c_first1 hw obj ast aen asp amx second (0 : Int64) (0 : Int32) (0 : Int32) (0 : Int64) (0 : Int64) (0 : Int64) (0 : Int64) (0 : Int32) (0 : Int32) (0 : Int64) (0 : Int64) (0 : Int64) (0 : Int64) (0 : Int64) (0 : Int64) ne_ast_aen ne_ast_asp ne_ast_amx ne_aen_asp ne_aen_amx ne_asp_amx E_obj F_obj_setting F_obj_frontier F_obj_frontierSpan F_obj_count F_obj_room F_obj_starts F_obj_ends F_obj_spans F_obj_maxima A_ast A_aen A_asp A_amx (by decide)) (by decide) (by decide) rfl rfl rfl (by decide) (by decide) rfl pd__28J_29I rfl rfl (Nat.le_of_eq rfl) ?_
          refine Go.iload (pc' := 327) at_325 rfl rfl ?_
          refine Go.ifT (pc' := 345) (X := (0 : Int)) at_327 (by decide) (by decide) (by decide : (0 : Int) = 0) ?_
          refine Go.iconst (pc' := 346) at_345 rfl (z := (-1 : Int32)) (by decide) ?_
          refine Go.icmpF (pc' := 349) (X := (-1 : Int)) (Y := (-1 : Int)) at_346 rfl (by decide) (by decide) (by decide : (-1 : Int) = (-1 : Int)) ?_
          refine Go.iconst (pc' := 350) at_349 rfl (z := (1 : Int32)) (by decide) ?_
          refine Go.goto (pc' := 354) at_350 (by decide) ?_
          refine Go.istore (pc' := 356) at_354 rfl (Ls' := #[.val (.long s1), .second, .val (.long s2), .second, .val (.long ff), .second, .val (.int span), .val (.int ln), .val (.int md), .val (.int (0 : Int32)), .val (.long b1), .second, .val (.long b2), .second, .val (.long second), .second, .val (.ref obj), .val (.int (1 : Int32)), .val (.int (1 : Int32)), .val (.int span2), .val (.int (0 : Int32))]) rfl ?_
          refine Go.iload (pc' := 358) at_356 rfl rfl ?_
          refine Go.retZ at_358 rfl (by decide) (by decide) (by decide) ?_
          exact ⟨rfl, N0⟩
      · have _ := hk1
        refine Go.aload (pc' := 106) at_104 rfl rfl rfl ?_
        refine Go.lloadN (pc' := 107) at_106 rfl rfl ?_
        refine Go.callV (pc' := 110) (W := 0) (a := obj) (argsL := [(.long s1)]) (rest := []) (k' := 5) (n' := 89) at_107 rfl (hw _ w31) (hw _ w32) (nf_sel (hw _ w34)) (hw _ w34) (hw _ w33) (hw _ w3) (hw _ w35) E_obj (by decide) (c_kne0 hw sz0 obj ast aen asp amx (0 : Int64) ff span (0 : Int64) (0 : Int64) (0 : Int64) (0 : Int64) (0 : Int32) (0 : Int32)  s1 (by omega)  gn_obj gn_ast gn_aen gn_asp gn_amx ne_ast_aen ne_ast_asp ne_ast_amx ne_aen_asp ne_aen_amx ne_asp_amx E_obj F_obj_setting F_obj_frontier F_obj_frontierSpan F_obj_count F_obj_room F_obj_starts F_obj_ends F_obj_spans F_obj_maxima A_ast A_aen A_asp A_amx ) (by decide) (by decide) (by decide) (by decide) rfl rfl rfl pd__28J_29V rfl rfl (Nat.le_of_eq rfl) ?_
        intro v7 h7 P7 L7 NL7 hq7
        obtain ⟨rfl, N7, K7, E_obj_7, F_obj_setting_7, F_obj_frontier_7, F_obj_frontierSpan_7, F_obj_count_7, F_obj_room_7, F_obj_starts_7, F_obj_ends_7, F_obj_spans_7, F_obj_maxima_7, A_amx_7⟩ := hq7
        dsimp only [Option.toList, List.cons_append, List.nil_append]
        replace N0 := NL7 _ N0 N7
        replace sz0 : n0 ≤ h7.size := Nat.le_trans sz0 K7.1
        clear E_obj
        clear F_obj_room
        clear F_obj_starts
        clear F_obj_ends
        clear F_obj_spans
        clear F_obj_maxima
        clear F_obj_frontier
        clear F_obj_frontierSpan
        clear F_obj_setting
        clear F_obj_count
        replace A_ast := A_ast.keep K7 (ninS (Ne.symm ne_obj_ast) (ninS ne_ast_amx nin0))
        replace A_aen := A_aen.keep K7 (ninS (Ne.symm ne_obj_aen) (ninS ne_aen_amx nin0))
        replace A_asp := A_asp.keep K7 (ninS (Ne.symm ne_obj_asp) (ninS ne_asp_amx nin0))
        clear A_amx
        have E_obj := E_obj_7; clear E_obj_7
        have F_obj_setting := F_obj_setting_7; clear F_obj_setting_7
        have F_obj_frontier := F_obj_frontier_7; clear F_obj_frontier_7
        have F_obj_frontierSpan := F_obj_frontierSpan_7; clear F_obj_frontierSpan_7
        have F_obj_count := F_obj_count_7; clear F_obj_count_7
        have F_obj_room := F_obj_room_7; clear F_obj_room_7
        have F_obj_starts := F_obj_starts_7; clear F_obj_starts_7
        have F_obj_ends := F_obj_ends_7; clear F_obj_ends_7
        have F_obj_spans := F_obj_spans_7; clear F_obj_spans_7
        have F_obj_maxima := F_obj_maxima_7; clear F_obj_maxima_7
        have A_amx := A_amx_7; clear A_amx_7
        refine Go.lloadN (pc' := 111) at_110 rfl rfl ?_
        refine Go.lconst (pc' := 112) at_111 rfl (z := (0 : Int64)) (by decide) ?_
        refine Go.lcmpT (pc' := 120) (X := s1.toInt) (Y := (0 : Int)) at_112 at_113 rfl (by decide) rfl (by decide) (hk1 : ¬ s1.toInt = (0 : Int)) ?_
        refine Go.iconst (pc' := 121) at_120 rfl (z := (0 : Int32)) (by decide) ?_
        refine Go.istore (pc' := 123) at_121 rfl (Ls' := #[.val (.long s1), .second, .val (.long s2), .second, .val (.long ff), .second, .val (.int span), .val (.int ln), .val (.int md), .val (.int (0 : Int32)), .val (.long b1), .second, .val (.long b2), .second, .val (.long second), .second, .val (.ref obj), .val (.int (0 : Int32)), .unset, .unset, .unset]) rfl ?_
        refine Go.iload (pc' := 125) at_123 rfl rfl ?_
        refine Go.ifT (pc' := 201) (X := (0 : Int)) at_125 (by decide) (by decide) (by decide : (0 : Int) = 0) ?_
        refine Go.aload (pc' := 203) at_201 rfl rfl rfl ?_
        refine Go.callV0 (pc' := 206) (W := 0) (a := obj) (argsL := []) (rest := []) (v0 := some (.long (0 : Int64))) (st2 := [(.long (0 : Int64))]) at_203 rfl (hw _ w40) (hw _ w41) (nf_sel (hw _ w43)) (hw _ w43) (hw _ w42) (hw _ w3) (hw _ w44) E_obj (by decide) (c_front hw obj ast aen asp amx s1 (0 : Int64) (0 : Int32) (0 : Int32) (0 : Int64) (0 : Int64) (0 : Int64) (0 : Int64) (0 : Int32) (0 : Int32) (0 : Int64) (0 : Int64) (0 : Int64) (0 : Int64) (0 : Int64) (0 : Int64) ne_ast_aen ne_ast_asp ne_ast_amx ne_aen_asp ne_aen_amx ne_asp_amx E_obj F_obj_setting F_obj_frontier F_obj_frontierSpan F_obj_count F_obj_room F_obj_starts F_obj_ends F_obj_spans F_obj_maxima A_ast A_aen A_asp A_amx) (by decide) (by decide) rfl rfl rfl (by decide) (by decide) rfl pd__28_29J rfl rfl (Nat.le_of_eq rfl) ?_
        refine Go.lconst (pc' := 207) at_206 rfl (z := (0 : Int64)) (by decide) ?_
        refine Go.lcmpF (pc' := 211) (X := (0 : Int)) (Y := (0 : Int)) at_207 at_208 rfl rfl (by decide) (by decide) (by decide : (0 : Int) = (0 : Int)) ?_
        refine Go.aload (pc' := 213) at_211 rfl rfl rfl ?_
        refine Go.callV0 (pc' := 216) (W := 0) (a := obj) (argsL := []) (rest := []) (v0 := some (.int (0 : Int32))) (st2 := [(.int (0 : Int32))]) at_213 rfl (hw _ w45) (hw _ w46) (nf_sel (hw _ w48)) (hw _ w48) (hw _ w47) (hw _ w3) (hw _ w49) E_obj (by decide) (c_fspan hw obj ast aen asp amx s1 (0 : Int64) (0 : Int32) (0 : Int32) (0 : Int64) (0 : Int64) (0 : Int64) (0 : Int64) (0 : Int32) (0 : Int32) (0 : Int64) (0 : Int64) (0 : Int64) (0 : Int64) (0 : Int64) (0 : Int64) ne_ast_aen ne_ast_asp ne_ast_amx ne_aen_asp ne_aen_amx ne_asp_amx E_obj F_obj_setting F_obj_frontier F_obj_frontierSpan F_obj_count F_obj_room F_obj_starts F_obj_ends F_obj_spans F_obj_maxima A_ast A_aen A_asp A_amx) (by decide) (by decide) rfl rfl rfl (by decide) (by decide) rfl pd__28_29I rfl rfl (Nat.le_of_eq rfl) ?_
        refine Go.ifF (pc' := 219) (X := (0 : Int)) at_216 rfl (by decide) (by decide : (0 : Int) = 0) ?_
        refine Go.aload (pc' := 221) at_219 rfl rfl rfl ?_
        refine Go.lconst (pc' := 222) at_221 rfl (z := (1 : Int64)) (by decide) ?_
        refine Go.callV0 (pc' := 225) (W := 0) (a := obj) (argsL := [(.long (1 : Int64))]) (rest := []) (v0 := some (.int (-1 : Int32))) (st2 := [(.int (-1 : Int32))]) at_222 rfl (hw _ w50) (hw _ w51) (nf_sel (hw _ w53)) (hw _ w53) (hw _ w52) (hw _ w3) (hw _ w54) E_obj (by decide) (c_first1 hw obj ast aen asp amx s1 (0 : Int64) (0 : Int32) (0 : Int32) (0 : Int64) (0 : Int64) (0 : Int64) (0 : Int64) (0 : Int32) (0 : Int32) (0 : Int64) (0 : Int64) (0 : Int64) (0 : Int64) (0 : Int64) (0 : Int64) ne_ast_aen ne_ast_asp ne_ast_amx ne_aen_asp ne_aen_amx ne_asp_amx E_obj F_obj_setting F_obj_frontier F_obj_frontierSpan F_obj_count F_obj_room F_obj_starts F_obj_ends F_obj_spans F_obj_maxima A_ast A_aen A_asp A_amx (by decide)) (by decide) (by decide) rfl rfl rfl (by decide) (by decide) rfl pd__28J_29I rfl rfl (Nat.le_of_eq rfl) ?_
        refine Go.iconst (pc' := 226) at_225 rfl (z := (-1 : Int32)) (by decide) ?_
        refine Go.icmpF (pc' := 229) (X := (-1 : Int)) (Y := (-1 : Int)) at_226 rfl (by decide) (by decide) (by decide : (-1 : Int) = (-1 : Int)) ?_
        refine Go.aload (pc' := 231) at_229 rfl rfl rfl ?_
        refine Go.iconst (pc' := 232) at_231 rfl (z := (0 : Int32)) (by decide) ?_
        refine Go.callV0 (pc' := 235) (W := 0) (a := obj) (argsL := [(.int (0 : Int32))]) (rest := []) (v0 := some (.long (0 : Int64))) (st2 := [(.long (0 : Int64))]) at_232 rfl (hw _ w55) (hw _ w56) (nf_sel (hw _ w58)) (hw _ w58) (hw _ w57) (hw _ w3) (hw _ w59) E_obj (by decide) (c_bound hw obj ast aen asp amx s1 (0 : Int64) (0 : Int32) (0 : Int32) (0 : Int64) (0 : Int64) (0 : Int64) (0 : Int64) (0 : Int32) (0 : Int32) (0 : Int64) (0 : Int64) (0 : Int64) (0 : Int64) (0 : Int64) (0 : Int64) ne_ast_aen ne_ast_asp ne_ast_amx ne_aen_asp ne_aen_amx ne_asp_amx E_obj F_obj_setting F_obj_frontier F_obj_frontierSpan F_obj_count F_obj_room F_obj_starts F_obj_ends F_obj_spans F_obj_maxima A_ast A_aen A_asp A_amx) (by decide) (by decide) rfl rfl rfl (by decide) (by decide) rfl pd__28I_29J rfl rfl (Nat.le_of_eq rfl) ?_
        refine Go.lconst (pc' := 236) at_235 rfl (z := (0 : Int64)) (by decide) ?_
        refine Go.lcmpF (pc' := 240) (X := (0 : Int)) (Y := (0 : Int)) at_236 at_237 rfl rfl (by decide) (by decide) (by decide : (0 : Int) = (0 : Int)) ?_
        refine Go.iconst (pc' := 241) at_240 rfl (z := (1 : Int32)) (by decide) ?_
        refine Go.goto (pc' := 245) at_241 (by decide) ?_
        refine Go.istore (pc' := 247) at_245 rfl (Ls' := #[.val (.long s1), .second, .val (.long s2), .second, .val (.long ff), .second, .val (.int span), .val (.int ln), .val (.int md), .val (.int (0 : Int32)), .val (.long b1), .second, .val (.long b2), .second, .val (.long second), .second, .val (.ref obj), .val (.int (0 : Int32)), .val (.int (1 : Int32)), .unset, .unset]) rfl ?_
        refine Go.iload (pc' := 249) at_247 rfl rfl ?_
        refine Go.iconst (pc' := 250) at_249 rfl (z := (1 : Int32)) (by decide) ?_
        refine Go.ior (pc' := 251) at_250 rfl rfl ?_
        generalize hv_span2 : (span ||| (1 : Int32)) = span2
        refine Go.istore (pc' := 253) at_251 rfl (Ls' := #[.val (.long s1), .second, .val (.long s2), .second, .val (.long ff), .second, .val (.int span), .val (.int ln), .val (.int md), .val (.int (0 : Int32)), .val (.long b1), .second, .val (.long b2), .second, .val (.long second), .second, .val (.ref obj), .val (.int (0 : Int32)), .val (.int (1 : Int32)), .val (.int span2), .unset]) rfl ?_
        refine Go.aload (pc' := 255) at_253 rfl rfl rfl ?_
        refine Go.lload (pc' := 257) at_255 rfl rfl ?_
        refine Go.iload (pc' := 259) at_257 rfl rfl ?_
        refine Go.callV (pc' := 262) (W := 0) (a := obj) (argsL := [(.long ff), (.int span2)]) (rest := []) (k' := 5) (n' := 89) at_259 rfl (hw _ w22) (hw _ w23) (nf_sel (hw _ w25)) (hw _ w25) (hw _ w24) (hw _ w3) (hw _ w26) E_obj (by decide) (c_move hw sz0 obj ast aen asp amx s1 (0 : Int64) (0 : Int32) (0 : Int32) (0 : Int64) (0 : Int64) (0 : Int64) (0 : Int64) (0 : Int32) (0 : Int32) (0 : Int64) (0 : Int64) (0 : Int64) (0 : Int64) (0 : Int64) (0 : Int64) ff span2 gn_obj gn_ast gn_aen gn_asp gn_amx ne_ast_aen ne_ast_asp ne_ast_amx ne_aen_asp ne_aen_amx ne_asp_amx E_obj F_obj_setting F_obj_frontier F_obj_frontierSpan F_obj_count F_obj_room F_obj_starts F_obj_ends F_obj_spans F_obj_maxima A_ast A_aen A_asp A_amx) (by decide) (by decide) (by decide) (by decide) rfl rfl rfl pd__28JI_29V rfl rfl (Nat.le_of_eq rfl) ?_
        intro v8 h8 P8 L8 NL8 hq8
        obtain ⟨rfl, N8, K8, E_obj_8, F_obj_setting_8, F_obj_frontier_8, F_obj_frontierSpan_8, F_obj_count_8, F_obj_room_8, F_obj_starts_8, F_obj_ends_8, F_obj_spans_8, F_obj_maxima_8⟩ := hq8
        dsimp only [Option.toList, List.cons_append, List.nil_append]
        replace N0 := NL8 _ N0 N8
        replace sz0 : n0 ≤ h8.size := Nat.le_trans sz0 K8.1
        clear E_obj
        clear F_obj_room
        clear F_obj_starts
        clear F_obj_ends
        clear F_obj_spans
        clear F_obj_maxima
        clear F_obj_frontier
        clear F_obj_frontierSpan
        clear F_obj_setting
        clear F_obj_count
        replace A_ast := A_ast.keep K8 (ninS (Ne.symm ne_obj_ast) nin0)
        replace A_aen := A_aen.keep K8 (ninS (Ne.symm ne_obj_aen) nin0)
        replace A_asp := A_asp.keep K8 (ninS (Ne.symm ne_obj_asp) nin0)
        replace A_amx := A_amx.keep K8 (ninS (Ne.symm ne_obj_amx) nin0)
        have E_obj := E_obj_8; clear E_obj_8
        have F_obj_setting := F_obj_setting_8; clear F_obj_setting_8
        have F_obj_frontier := F_obj_frontier_8; clear F_obj_frontier_8
        have F_obj_frontierSpan := F_obj_frontierSpan_8; clear F_obj_frontierSpan_8
        have F_obj_count := F_obj_count_8; clear F_obj_count_8
        have F_obj_room := F_obj_room_8; clear F_obj_room_8
        have F_obj_starts := F_obj_starts_8; clear F_obj_starts_8
        have F_obj_ends := F_obj_ends_8; clear F_obj_ends_8
        have F_obj_spans := F_obj_spans_8; clear F_obj_spans_8
        have F_obj_maxima := F_obj_maxima_8; clear F_obj_maxima_8
        by_cases hk2 : second.toInt = s1.toInt
        · have _ := hk2
          refine Go.aload (pc' := 264) at_262 rfl rfl rfl ?_
          refine Go.lload (pc' := 266) at_264 rfl rfl ?_
          refine Go.callV0 (pc' := 269) (W := 0) (a := obj) (argsL := [(.long second)]) (rest := []) (v0 := none) (st2 := []) at_266 rfl (hw _ w31) (hw _ w32) (nf_sel (hw _ w34)) (hw _ w34) (hw _ w33) (hw _ w3) (hw _ w35) E_obj (by decide) (c_keq hw obj ast aen asp amx s1 ff span2 (0 : Int32) (0 : Int64) (0 : Int64) (0 : Int64) (0 : Int64) (0 : Int32) (0 : Int32) (0 : Int64) (0 : Int64) (0 : Int64) (0 : Int64) (0 : Int64) (0 : Int64) second ne_ast_aen ne_ast_asp ne_ast_amx ne_aen_asp ne_aen_amx ne_asp_amx E_obj F_obj_setting F_obj_frontier F_obj_frontierSpan F_obj_count F_obj_room F_obj_starts F_obj_ends F_obj_spans F_obj_maxima A_ast A_aen A_asp A_amx (by omega)) (by decide) (by decide) rfl rfl rfl (by decide) (by decide) rfl pd__28J_29V rfl rfl (Nat.le_of_eq rfl) ?_
          refine Go.lload (pc' := 271) at_269 rfl rfl ?_
          refine Go.lloadN (pc' := 272) at_271 rfl rfl ?_
          refine Go.lcmpF (pc' := 276) (X := second.toInt) (Y := s1.toInt) at_272 at_273 rfl rfl rfl rfl (hk2 : second.toInt = s1.toInt) ?_
          refine Go.iconst (pc' := 277) at_276 rfl (z := (1 : Int32)) (by decide) ?_
          refine Go.goto (pc' := 281) at_277 (by decide) ?_
          refine Go.istore (pc' := 283) at_281 rfl (Ls' := #[.val (.long s1), .second, .val (.long s2), .second, .val (.long ff), .second, .val (.int span), .val (.int ln), .val (.int md), .val (.int (0 : Int32)), .val (.long b1), .second, .val (.long b2), .second, .val (.long second), .second, .val (.ref obj), .val (.int (0 : Int32)), .val (.int (1 : Int32)), .val (.int span2), .val (.int (1 : Int32))]) rfl ?_
          refine Go.iload (pc' := 285) at_283 rfl rfl ?_
          refine Go.ifF (pc' := 288) (X := (1 : Int)) at_285 rfl (by decide) (by decide : ¬ (1 : Int) = 0) ?_
          refine Go.aload (pc' := 290) at_288 rfl rfl rfl ?_
          refine Go.callV0 (pc' := 293) (W := 0) (a := obj) (argsL := []) (rest := []) (v0 := some (.int span2)) (st2 := [(.int span2)]) at_290 rfl (hw _ w45) (hw _ w46) (nf_sel (hw _ w48)) (hw _ w48) (hw _ w47) (hw _ w3) (hw _ w49) E_obj (by decide) (c_fspan hw obj ast aen asp amx s1 ff span2 (0 : Int32) (0 : Int64) (0 : Int64) (0 : Int64) (0 : Int64) (0 : Int32) (0 : Int32) (0 : Int64) (0 : Int64) (0 : Int64) (0 : Int64) (0 : Int64) (0 : Int64) ne_ast_aen ne_ast_asp ne_ast_amx ne_aen_asp ne_aen_amx ne_asp_amx E_obj F_obj_setting F_obj_frontier F_obj_frontierSpan F_obj_count F_obj_room F_obj_starts F_obj_ends F_obj_spans F_obj_maxima A_ast A_aen A_asp A_amx) (by decide) (by decide) rfl rfl rfl (by decide) (by decide) rfl pd__28_29I rfl rfl (Nat.le_of_eq rfl) ?_
          refine Go.iload (pc' := 295) at_293 rfl rfl ?_
          refine Go.ifF (pc' := 298) (X := (1 : Int)) at_295 rfl (by decide) (by decide : ¬ (1 : Int) = 0) ?_
          refine Go.iload (pc' := 300) at_298 rfl rfl ?_
          refine Go.goto (pc' := 304) at_300 (by decide) ?_
          refine Go.icmpF (pc' := 307) (X := span2.toInt) (Y := span2.toInt) at_304 rfl rfl rfl (rfl : span2.toInt = span2.toInt) ?_
          refine Go.iconst (pc' := 308) at_307 rfl (z := (1 : Int32)) (by decide) ?_
          refine Go.goto (pc' := 312) at_308 (by decide) ?_
          refine Go.istore (pc' := 314) at_312 rfl (Ls' := #[.val (.long s1), .second, .val (.long s2), .second, .val (.long ff), .second, .val (.int span), .val (.int ln), .val (.int md), .val (.int (0 : Int32)), .val (.long b1), .second, .val (.long b2), .second, .val (.long second), .second, .val (.ref obj), .val (.int (0 : Int32)), .val (.int (1 : Int32)), .val (.int span2), .val (.int (1 : Int32))]) rfl ?_
          refine Go.iload (pc' := 316) at_314 rfl rfl ?_
          refine Go.ifF (pc' := 319) (X := (1 : Int)) at_316 rfl (by decide) (by decide : ¬ (1 : Int) = 0) ?_
          refine Go.aload (pc' := 321) at_319 rfl rfl rfl ?_
          refine Go.lconst (pc' := 322) at_321 rfl (z := (1 : Int64)) (by decide) ?_
          refine Go.callV0 (pc' := 325) (W := 0) (a := obj) (argsL := [(.long (1 : Int64))]) (rest := []) (v0 := some (.int (-1 : Int32))) (st2 := [(.int (-1 : Int32))]) at_322 rfl (hw _ w50) (hw _ w51) (nf_sel (hw _ w53)) (hw _ w53) (hw _ w52) (hw _ w3) (hw _ w54) E_obj (by decide) (c_first1 hw obj ast aen asp amx s1 ff span2 (0 : Int32) (0 : Int64) (0 : Int64) (0 : Int64) (0 : Int64) (0 : Int32) (0 : Int32) (0 : Int64) (0 : Int64) (0 : Int64) (0 : Int64) (0 : Int64) (0 : Int64) ne_ast_aen ne_ast_asp ne_ast_amx ne_aen_asp ne_aen_amx ne_asp_amx E_obj F_obj_setting F_obj_frontier F_obj_frontierSpan F_obj_count F_obj_room F_obj_starts F_obj_ends F_obj_spans F_obj_maxima A_ast A_aen A_asp A_amx (by decide)) (by decide) (by decide) rfl rfl rfl (by decide) (by decide) rfl pd__28J_29I rfl rfl (Nat.le_of_eq rfl) ?_
          refine Go.iload (pc' := 327) at_325 rfl rfl ?_
          refine Go.ifF (pc' := 330) (X := (1 : Int)) at_327 rfl (by decide) (by decide : ¬ (1 : Int) = 0) ?_
          refine Go.iload (pc' := 332) at_330 rfl rfl ?_
          refine Go.ifT (pc' := 345) (X := (0 : Int)) at_332 (by decide) (by decide) (by decide : (0 : Int) = 0) ?_
          refine Go.iconst (pc' := 346) at_345 rfl (z := (-1 : Int32)) (by decide) ?_
          refine Go.icmpF (pc' := 349) (X := (-1 : Int)) (Y := (-1 : Int)) at_346 rfl (by decide) (by decide) (by decide : (-1 : Int) = (-1 : Int)) ?_
          refine Go.iconst (pc' := 350) at_349 rfl (z := (1 : Int32)) (by decide) ?_
          refine Go.goto (pc' := 354) at_350 (by decide) ?_
          refine Go.istore (pc' := 356) at_354 rfl (Ls' := #[.val (.long s1), .second, .val (.long s2), .second, .val (.long ff), .second, .val (.int span), .val (.int ln), .val (.int md), .val (.int (0 : Int32)), .val (.long b1), .second, .val (.long b2), .second, .val (.long second), .second, .val (.ref obj), .val (.int (0 : Int32)), .val (.int (1 : Int32)), .val (.int span2), .val (.int (1 : Int32))]) rfl ?_
          refine Go.iload (pc' := 358) at_356 rfl rfl ?_
          refine Go.retZ at_358 rfl (by decide) (by decide) (by decide) ?_
          exact ⟨rfl, N0⟩
        · have _ := hk2
          refine Go.aload (pc' := 264) at_262 rfl rfl rfl ?_
          refine Go.lload (pc' := 266) at_264 rfl rfl ?_
          refine Go.callV (pc' := 269) (W := 0) (a := obj) (argsL := [(.long second)]) (rest := []) (k' := 5) (n' := 89) at_266 rfl (hw _ w31) (hw _ w32) (nf_sel (hw _ w34)) (hw _ w34) (hw _ w33) (hw _ w3) (hw _ w35) E_obj (by decide) (c_kne0 hw sz0 obj ast aen asp amx s1 ff span2 (0 : Int64) (0 : Int64) (0 : Int64) (0 : Int64) (0 : Int32) (0 : Int32)  second (by omega)  gn_obj gn_ast gn_aen gn_asp gn_amx ne_ast_aen ne_ast_asp ne_ast_amx ne_aen_asp ne_aen_amx ne_asp_amx E_obj F_obj_setting F_obj_frontier F_obj_frontierSpan F_obj_count F_obj_room F_obj_starts F_obj_ends F_obj_spans F_obj_maxima A_ast A_aen A_asp A_amx ) (by decide) (by decide) (by decide) (by decide) rfl rfl rfl pd__28J_29V rfl rfl (Nat.le_of_eq rfl) ?_
          intro v9 h9 P9 L9 NL9 hq9
          obtain ⟨rfl, N9, K9, E_obj_9, F_obj_setting_9, F_obj_frontier_9, F_obj_frontierSpan_9, F_obj_count_9, F_obj_room_9, F_obj_starts_9, F_obj_ends_9, F_obj_spans_9, F_obj_maxima_9, A_amx_9⟩ := hq9
          dsimp only [Option.toList, List.cons_append, List.nil_append]
          replace N0 := NL9 _ N0 N9
          replace sz0 : n0 ≤ h9.size := Nat.le_trans sz0 K9.1
          clear E_obj
          clear F_obj_room
          clear F_obj_starts
          clear F_obj_ends
          clear F_obj_spans
          clear F_obj_maxima
          clear F_obj_frontier
          clear F_obj_frontierSpan
          clear F_obj_setting
          clear F_obj_count
          replace A_ast := A_ast.keep K9 (ninS (Ne.symm ne_obj_ast) (ninS ne_ast_amx nin0))
          replace A_aen := A_aen.keep K9 (ninS (Ne.symm ne_obj_aen) (ninS ne_aen_amx nin0))
          replace A_asp := A_asp.keep K9 (ninS (Ne.symm ne_obj_asp) (ninS ne_asp_amx nin0))
          clear A_amx
          have E_obj := E_obj_9; clear E_obj_9
          have F_obj_setting := F_obj_setting_9; clear F_obj_setting_9
          have F_obj_frontier := F_obj_frontier_9; clear F_obj_frontier_9
          have F_obj_frontierSpan := F_obj_frontierSpan_9; clear F_obj_frontierSpan_9
          have F_obj_count := F_obj_count_9; clear F_obj_count_9
          have F_obj_room := F_obj_room_9; clear F_obj_room_9
          have F_obj_starts := F_obj_starts_9; clear F_obj_starts_9
          have F_obj_ends := F_obj_ends_9; clear F_obj_ends_9
          have F_obj_spans := F_obj_spans_9; clear F_obj_spans_9
          have F_obj_maxima := F_obj_maxima_9; clear F_obj_maxima_9
          have A_amx := A_amx_9; clear A_amx_9
          refine Go.lload (pc' := 271) at_269 rfl rfl ?_
          refine Go.lloadN (pc' := 272) at_271 rfl rfl ?_
          refine Go.lcmpT (pc' := 280) (X := second.toInt) (Y := s1.toInt) at_272 at_273 rfl (by decide) rfl rfl (hk2 : ¬ second.toInt = s1.toInt) ?_
          refine Go.iconst (pc' := 281) at_280 rfl (z := (0 : Int32)) (by decide) ?_
          refine Go.istore (pc' := 283) at_281 rfl (Ls' := #[.val (.long s1), .second, .val (.long s2), .second, .val (.long ff), .second, .val (.int span), .val (.int ln), .val (.int md), .val (.int (0 : Int32)), .val (.long b1), .second, .val (.long b2), .second, .val (.long second), .second, .val (.ref obj), .val (.int (0 : Int32)), .val (.int (1 : Int32)), .val (.int span2), .val (.int (0 : Int32))]) rfl ?_
          refine Go.iload (pc' := 285) at_283 rfl rfl ?_
          refine Go.ifF (pc' := 288) (X := (1 : Int)) at_285 rfl (by decide) (by decide : ¬ (1 : Int) = 0) ?_
          refine Go.aload (pc' := 290) at_288 rfl rfl rfl ?_
          refine Go.callV0 (pc' := 293) (W := 0) (a := obj) (argsL := []) (rest := []) (v0 := some (.int (0 : Int32))) (st2 := [(.int (0 : Int32))]) at_290 rfl (hw _ w45) (hw _ w46) (nf_sel (hw _ w48)) (hw _ w48) (hw _ w47) (hw _ w3) (hw _ w49) E_obj (by decide) (c_fspan hw obj ast aen asp amx second (0 : Int64) (0 : Int32) (0 : Int32) (0 : Int64) (0 : Int64) (0 : Int64) (0 : Int64) (0 : Int32) (0 : Int32) (0 : Int64) (0 : Int64) (0 : Int64) (0 : Int64) (0 : Int64) (0 : Int64) ne_ast_aen ne_ast_asp ne_ast_amx ne_aen_asp ne_aen_amx ne_asp_amx E_obj F_obj_setting F_obj_frontier F_obj_frontierSpan F_obj_count F_obj_room F_obj_starts F_obj_ends F_obj_spans F_obj_maxima A_ast A_aen A_asp A_amx) (by decide) (by decide) rfl rfl rfl (by decide) (by decide) rfl pd__28_29I rfl rfl (Nat.le_of_eq rfl) ?_
          refine Go.iload (pc' := 295) at_293 rfl rfl ?_
          refine Go.ifT (pc' := 303) (X := (0 : Int)) at_295 (by decide) (by decide) (by decide : (0 : Int) = 0) ?_
          refine Go.iconst (pc' := 304) at_303 rfl (z := (0 : Int32)) (by decide) ?_
          refine Go.icmpF (pc' := 307) (X := (0 : Int)) (Y := (0 : Int)) at_304 rfl (by decide) (by decide) (by decide : (0 : Int) = (0 : Int)) ?_
          refine Go.iconst (pc' := 308) at_307 rfl (z := (1 : Int32)) (by decide) ?_
          refine Go.goto (pc' := 312) at_308 (by decide) ?_
          refine Go.istore (pc' := 314) at_312 rfl (Ls' := #[.val (.long s1), .second, .val (.long s2), .second, .val (.long ff), .second, .val (.int span), .val (.int ln), .val (.int md), .val (.int (0 : Int32)), .val (.long b1), .second, .val (.long b2), .second, .val (.long second), .second, .val (.ref obj), .val (.int (0 : Int32)), .val (.int (1 : Int32)), .val (.int span2), .val (.int (0 : Int32))]) rfl ?_
          refine Go.iload (pc' := 316) at_314 rfl rfl ?_
          refine Go.ifF (pc' := 319) (X := (1 : Int)) at_316 rfl (by decide) (by decide : ¬ (1 : Int) = 0) ?_
          refine Go.aload (pc' := 321) at_319 rfl rfl rfl ?_
          refine Go.lconst (pc' := 322) at_321 rfl (z := (1 : Int64)) (by decide) ?_
          refine Go.callV0 (pc' := 325) (W := 0) (a := obj) (argsL := [(.long (1 : Int64))]) (rest := []) (v0 := some (.int (-1 : Int32))) (st2 := [(.int (-1 : Int32))]) at_322 rfl (hw _ w50) (hw _ w51) (nf_sel (hw _ w53)) (hw _ w53) (hw _ w52) (hw _ w3) (hw _ w54) E_obj (by decide) (c_first1 hw obj ast aen asp amx second (0 : Int64) (0 : Int32) (0 : Int32) (0 : Int64) (0 : Int64) (0 : Int64) (0 : Int64) (0 : Int32) (0 : Int32) (0 : Int64) (0 : Int64) (0 : Int64) (0 : Int64) (0 : Int64) (0 : Int64) ne_ast_aen ne_ast_asp ne_ast_amx ne_aen_asp ne_aen_amx ne_asp_amx E_obj F_obj_setting F_obj_frontier F_obj_frontierSpan F_obj_count F_obj_room F_obj_starts F_obj_ends F_obj_spans F_obj_maxima A_ast A_aen A_asp A_amx (by decide)) (by decide) (by decide) rfl rfl rfl (by decide) (by decide) rfl pd__28J_29I rfl rfl (Nat.le_of_eq rfl) ?_
          refine Go.iload (pc' := 327) at_325 rfl rfl ?_
          refine Go.ifT (pc' := 345) (X := (0 : Int)) at_327 (by decide) (by decide) (by decide : (0 : Int) = 0) ?_
          refine Go.iconst (pc' := 346) at_345 rfl (z := (-1 : Int32)) (by decide) ?_
          refine Go.icmpF (pc' := 349) (X := (-1 : Int)) (Y := (-1 : Int)) at_346 rfl (by decide) (by decide) (by decide : (-1 : Int) = (-1 : Int)) ?_
          refine Go.iconst (pc' := 350) at_349 rfl (z := (1 : Int32)) (by decide) ?_
          refine Go.goto (pc' := 354) at_350 (by decide) ?_
          refine Go.istore (pc' := 356) at_354 rfl (Ls' := #[.val (.long s1), .second, .val (.long s2), .second, .val (.long ff), .second, .val (.int span), .val (.int ln), .val (.int md), .val (.int (0 : Int32)), .val (.long b1), .second, .val (.long b2), .second, .val (.long second), .second, .val (.ref obj), .val (.int (0 : Int32)), .val (.int (1 : Int32)), .val (.int span2), .val (.int (0 : Int32))]) rfl ?_
          refine Go.iload (pc' := 358) at_356 rfl rfl ?_
          refine Go.retZ at_358 rfl (by decide) (by decide) (by decide) ?_
          exact ⟨rfl, N0⟩
    · subst hs1
      refine Go.newO (pc' := 51) (k' := 1) (n' := 9) at_48 rfl (hw _ w1) (hw _ w2) (hw _ w3) (by decide) (by decide) rfl rfl ?_
      intro h10 obj ha_obj X10 E_obj D10
      have gn_obj : n0 ≤ obj := by rw [ha_obj]; exact sz0
      replace sz0 : n0 ≤ h10.size := Nat.le_trans sz0 X10.1
      have F_obj_room : Fld Z h10 obj "com/example/rehearsal/rehearsal/policies/KnownRuns" "room" "I" (.int (0 : Int32)) := D10 (Or.inl (hw _ w11)) (ty := .int) (by decide)
      have F_obj_starts : Fld Z h10 obj "com/example/rehearsal/rehearsal/policies/KnownRuns" "starts" "[J" .null := D10 (Or.inl (hw _ w14)) (ty := (.array .long)) (by decide)
      have F_obj_ends : Fld Z h10 obj "com/example/rehearsal/rehearsal/policies/KnownRuns" "ends" "[J" .null := D10 (Or.inl (hw _ w16)) (ty := (.array .long)) (by decide)
      have F_obj_spans : Fld Z h10 obj "com/example/rehearsal/rehearsal/policies/KnownRuns" "spans" "[I" .null := D10 (Or.inl (hw _ w19)) (ty := (.array .int)) (by decide)
      have F_obj_maxima : Fld Z h10 obj "com/example/rehearsal/rehearsal/policies/KnownRuns" "maxima" "[J" .null := D10 (Or.inl (hw _ w21)) (ty := (.array .long)) (by decide)
      have F_obj_frontier : Fld Z h10 obj "com/example/rehearsal/rehearsal/policies/KnownRuns" "frontier" "J" (.long (0 : Int64)) := D10 (Or.inl (hw _ w28)) (ty := .long) (by decide)
      have F_obj_frontierSpan : Fld Z h10 obj "com/example/rehearsal/rehearsal/policies/KnownRuns" "frontierSpan" "I" (.int (0 : Int32)) := D10 (Or.inl (hw _ w30)) (ty := .int) (by decide)
      have F_obj_setting : Fld Z h10 obj "com/example/rehearsal/rehearsal/policies/KnownRuns" "setting" "J" (.long (0 : Int64)) := D10 (Or.inl (hw _ w37)) (ty := .long) (by decide)
      have F_obj_count : Fld Z h10 obj "com/example/rehearsal/rehearsal/policies/KnownRuns" "count" "I" (.int (0 : Int32)) := D10 (Or.inl (hw _ w39)) (ty := .int) (by decide)
      refine Go.dup (pc' := 52) at_51 rfl rfl ?_
      refine Go.callI (pc' := 55) (W := 1) (a := obj) (argsL := []) (rest := [(.ref obj)]) (k' := 5) (n' := 89) at_52 rfl rfl (hw _ w4) (hw _ w5) (hw _ w3) (hw _ w6) (by decide) (c_init hw sz0 obj gn_obj E_obj F_obj_setting F_obj_frontier F_obj_frontierSpan F_obj_count F_obj_room F_obj_starts F_obj_ends F_obj_spans F_obj_maxima) (by decide) (by decide) (by decide) (by decide) rfl rfl rfl pd__28_29V rfl rfl (Nat.le_of_eq rfl) ?_
      intro v11 h11 P11 L11 NL11 hq11
      obtain ⟨ast, aen, asp, amx, rfl, ge_ast, ge_aen, ge_asp, ge_amx, N11, K11, E_obj_11, F_obj_setting_11, F_obj_frontier_11, F_obj_frontierSpan_11, F_obj_count_11, F_obj_room_11, F_obj_starts_11, F_obj_ends_11, F_obj_spans_11, F_obj_maxima_11, A_ast_11, A_aen_11, A_asp_11, A_amx_11⟩ := hq11
      dsimp only [Option.toList, List.cons_append, List.nil_append]
      have ne_obj_ast : obj ≠ ast := Nat.ne_of_lt (Nat.lt_of_lt_of_le E_obj.lt ge_ast)
      have gn_ast : n0 ≤ ast := Nat.le_trans sz0 ge_ast
      have ne_ast_aen : ast ≠ aen := Nat.ne_of_lt ge_aen
      have gt_aen := ge_aen
      replace ge_aen := Nat.le_trans ge_ast (Nat.le_of_lt gt_aen)
      have ne_obj_aen : obj ≠ aen := Nat.ne_of_lt (Nat.lt_of_lt_of_le E_obj.lt ge_aen)
      have gn_aen : n0 ≤ aen := Nat.le_trans sz0 ge_aen
      have ne_ast_asp : ast ≠ asp := Nat.ne_of_lt (Nat.lt_trans gt_aen ge_asp)
      have ne_aen_asp : aen ≠ asp := Nat.ne_of_lt ge_asp
      have gt_asp := ge_asp
      replace ge_asp := Nat.le_trans ge_aen (Nat.le_of_lt gt_asp)
      have ne_obj_asp : obj ≠ asp := Nat.ne_of_lt (Nat.lt_of_lt_of_le E_obj.lt ge_asp)
      have gn_asp : n0 ≤ asp := Nat.le_trans sz0 ge_asp
      have ne_ast_amx : ast ≠ amx := Nat.ne_of_lt (Nat.lt_trans gt_aen (Nat.lt_trans gt_asp ge_amx))
      have ne_aen_amx : aen ≠ amx := Nat.ne_of_lt (Nat.lt_trans gt_asp ge_amx)
      have ne_asp_amx : asp ≠ amx := Nat.ne_of_lt ge_amx
      have gt_amx := ge_amx
      replace ge_amx := Nat.le_trans ge_asp (Nat.le_of_lt gt_amx)
      have ne_obj_amx : obj ≠ amx := Nat.ne_of_lt (Nat.lt_of_lt_of_le E_obj.lt ge_amx)
      have gn_amx : n0 ≤ amx := Nat.le_trans sz0 ge_amx
      replace N0 := NL11 _ N0 N11
      replace sz0 : n0 ≤ h11.size := Nat.le_trans sz0 K11.1
      clear E_obj
      clear F_obj_room
      clear F_obj_starts
      clear F_obj_ends
      clear F_obj_spans
      clear F_obj_maxima
      clear F_obj_frontier
      clear F_obj_frontierSpan
      clear F_obj_setting
      clear F_obj_count
      have E_obj := E_obj_11; clear E_obj_11
      have F_obj_setting := F_obj_setting_11; clear F_obj_setting_11
      have F_obj_frontier := F_obj_frontier_11; clear F_obj_frontier_11
      have F_obj_frontierSpan := F_obj_frontierSpan_11; clear F_obj_frontierSpan_11
      have F_obj_count := F_obj_count_11; clear F_obj_count_11
      have F_obj_room := F_obj_room_11; clear F_obj_room_11
      have F_obj_starts := F_obj_starts_11; clear F_obj_starts_11
      have F_obj_ends := F_obj_ends_11; clear F_obj_ends_11
      have F_obj_spans := F_obj_spans_11; clear F_obj_spans_11
      have F_obj_maxima := F_obj_maxima_11; clear F_obj_maxima_11
      have A_ast := A_ast_11; clear A_ast_11
      have A_aen := A_aen_11; clear A_aen_11
      have A_asp := A_asp_11; clear A_asp_11
      have A_amx := A_amx_11; clear A_amx_11
      refine Go.astore (pc' := 57) at_55 rfl rfl (Ls' := #[.val (.long s1), .second, .val (.long s2), .second, .val (.long ff), .second, .val (.int span), .val (.int ln), .val (.int md), .val (.int (1 : Int32)), .val (.long b1), .second, .val (.long b2), .second, .val (.long second), .second, .val (.ref obj), .unset, .unset, .unset, .unset]) rfl ?_
      refine Go.iload (pc' := 59) at_57 rfl rfl ?_
      refine Go.iconst (pc' := 60) at_59 rfl (z := (1 : Int32)) (by decide) ?_
      refine Go.icmpF (pc' := 63) (X := (1 : Int)) (Y := (1 : Int)) at_60 rfl (by decide) (by decide) (by decide : ¬ (1 : Int) < (1 : Int)) ?_
      refine Go.aload (pc' := 65) at_63 rfl rfl rfl ?_
      refine Go.lconst (pc' := 66) at_65 rfl (z := (0 : Int64)) (by decide) ?_
      refine Go.lload (pc' := 68) at_66 rfl rfl ?_
      refine Go.iconst (pc' := 69) at_68 rfl (z := (0 : Int32)) (by decide) ?_
      refine Go.callV (pc' := 72) (W := 0) (a := obj) (argsL := [(.long (0 : Int64)), (.long b1), (.int (0 : Int32))]) (rest := []) (k' := 5) (n' := 89) at_69 rfl (hw _ w60) (hw _ w61) (nf_sel (hw _ w63)) (hw _ w63) (hw _ w62) (hw _ w3) (hw _ w64) E_obj (by decide) (c_add0 hw sz0 obj ast aen asp amx (0 : Int64) b1 (0 : Int32) (0 : Int64) (0 : Int64) (0 : Int32) b1 (Int64.sub_zero b1) hb1 gn_obj gn_ast gn_aen gn_asp gn_amx ne_ast_aen ne_ast_asp ne_ast_amx ne_aen_asp ne_aen_amx ne_asp_amx E_obj F_obj_setting F_obj_frontier F_obj_frontierSpan F_obj_count F_obj_room F_obj_starts F_obj_ends F_obj_spans F_obj_maxima A_ast A_aen A_asp A_amx) (by decide) (by decide) (by decide) (by decide) rfl rfl rfl pd__28JJI_29V rfl rfl (Nat.le_of_eq rfl) ?_
      intro v12 h12 P12 L12 NL12 hq12
      obtain ⟨rfl, N12, K12, E_obj_12, F_obj_setting_12, F_obj_frontier_12, F_obj_frontierSpan_12, F_obj_count_12, F_obj_room_12, F_obj_starts_12, F_obj_ends_12, F_obj_spans_12, F_obj_maxima_12, A_ast_12, A_aen_12, A_asp_12, A_amx_12⟩ := hq12
      dsimp only [Option.toList, List.cons_append, List.nil_append]
      replace N0 := NL12 _ N0 N12
      replace sz0 : n0 ≤ h12.size := Nat.le_trans sz0 K12.1
      clear E_obj
      clear F_obj_room
      clear F_obj_starts
      clear F_obj_ends
      clear F_obj_spans
      clear F_obj_maxima
      clear F_obj_frontier
      clear F_obj_frontierSpan
      clear F_obj_setting
      clear F_obj_count
      clear A_ast
      clear A_aen
      clear A_asp
      clear A_amx
      have E_obj := E_obj_12; clear E_obj_12
      have F_obj_setting := F_obj_setting_12; clear F_obj_setting_12
      have F_obj_frontier := F_obj_frontier_12; clear F_obj_frontier_12
      have F_obj_frontierSpan := F_obj_frontierSpan_12; clear F_obj_frontierSpan_12
      have F_obj_count := F_obj_count_12; clear F_obj_count_12
      have F_obj_room := F_obj_room_12; clear F_obj_room_12
      have F_obj_starts := F_obj_starts_12; clear F_obj_starts_12
      have F_obj_ends := F_obj_ends_12; clear F_obj_ends_12
      have F_obj_spans := F_obj_spans_12; clear F_obj_spans_12
      have F_obj_maxima := F_obj_maxima_12; clear F_obj_maxima_12
      have A_ast := A_ast_12; clear A_ast_12
      have A_aen := A_aen_12; clear A_aen_12
      have A_asp := A_asp_12; clear A_asp_12
      have A_amx := A_amx_12; clear A_amx_12
      refine Go.iload (pc' := 74) at_72 rfl rfl ?_
      refine Go.iconst (pc' := 75) at_74 rfl (z := (2 : Int32)) (by decide) ?_
      refine Go.icmpT (pc' := 95) (X := (1 : Int)) (Y := (2 : Int)) at_75 (by decide) (by decide) (by decide) (by decide : (1 : Int) < (2 : Int)) ?_
      refine Go.aload (pc' := 97) at_95 rfl rfl rfl ?_
      refine Go.lload (pc' := 99) at_97 rfl rfl ?_
      refine Go.iload (pc' := 101) at_99 rfl rfl ?_
      refine Go.callV (pc' := 104) (W := 0) (a := obj) (argsL := [(.long ff), (.int span)]) (rest := []) (k' := 5) (n' := 89) at_101 rfl (hw _ w22) (hw _ w23) (nf_sel (hw _ w25)) (hw _ w25) (hw _ w24) (hw _ w3) (hw _ w26) E_obj (by decide) (c_move hw sz0 obj ast aen asp amx (0 : Int64) (0 : Int64) (0 : Int32) (1 : Int32) (0 : Int64) (0 : Int64) b1 (0 : Int64) (0 : Int32) (0 : Int32) b1 b1 b1 b1 b1 (0 : Int64) ff span gn_obj gn_ast gn_aen gn_asp gn_amx ne_ast_aen ne_ast_asp ne_ast_amx ne_aen_asp ne_aen_amx ne_asp_amx E_obj F_obj_setting F_obj_frontier F_obj_frontierSpan F_obj_count F_obj_room F_obj_starts F_obj_ends F_obj_spans F_obj_maxima A_ast A_aen A_asp A_amx) (by decide) (by decide) (by decide) (by decide) rfl rfl rfl pd__28JI_29V rfl rfl (Nat.le_of_eq rfl) ?_
      intro v13 h13 P13 L13 NL13 hq13
      obtain ⟨rfl, N13, K13, E_obj_13, F_obj_setting_13, F_obj_frontier_13, F_obj_frontierSpan_13, F_obj_count_13, F_obj_room_13, F_obj_starts_13, F_obj_ends_13, F_obj_spans_13, F_obj_maxima_13⟩ := hq13
      dsimp only [Option.toList, List.cons_append, List.nil_append]
      replace N0 := NL13 _ N0 N13
      replace sz0 : n0 ≤ h13.size := Nat.le_trans sz0 K13.1
      clear E_obj
      clear F_obj_room
      clear F_obj_starts
      clear F_obj_ends
      clear F_obj_spans
      clear F_obj_maxima
      clear F_obj_frontier
      clear F_obj_frontierSpan
      clear F_obj_setting
      clear F_obj_count
      replace A_ast := A_ast.keep K13 (ninS (Ne.symm ne_obj_ast) nin0)
      replace A_aen := A_aen.keep K13 (ninS (Ne.symm ne_obj_aen) nin0)
      replace A_asp := A_asp.keep K13 (ninS (Ne.symm ne_obj_asp) nin0)
      replace A_amx := A_amx.keep K13 (ninS (Ne.symm ne_obj_amx) nin0)
      have E_obj := E_obj_13; clear E_obj_13
      have F_obj_setting := F_obj_setting_13; clear F_obj_setting_13
      have F_obj_frontier := F_obj_frontier_13; clear F_obj_frontier_13
      have F_obj_frontierSpan := F_obj_frontierSpan_13; clear F_obj_frontierSpan_13
      have F_obj_count := F_obj_count_13; clear F_obj_count_13
      have F_obj_room := F_obj_room_13; clear F_obj_room_13
      have F_obj_starts := F_obj_starts_13; clear F_obj_starts_13
      have F_obj_ends := F_obj_ends_13; clear F_obj_ends_13
      have F_obj_spans := F_obj_spans_13; clear F_obj_spans_13
      have F_obj_maxima := F_obj_maxima_13; clear F_obj_maxima_13
      by_cases hk1 : s1.toInt = (0 : Int)
      · have _ := hk1
        refine Go.aload (pc' := 106) at_104 rfl rfl rfl ?_
        refine Go.lloadN (pc' := 107) at_106 rfl rfl ?_
        refine Go.callV0 (pc' := 110) (W := 0) (a := obj) (argsL := [(.long s1)]) (rest := []) (v0 := none) (st2 := []) at_107 rfl (hw _ w31) (hw _ w32) (nf_sel (hw _ w34)) (hw _ w34) (hw _ w33) (hw _ w3) (hw _ w35) E_obj (by decide) (c_keq hw obj ast aen asp amx (0 : Int64) ff span (1 : Int32) (0 : Int64) (0 : Int64) b1 (0 : Int64) (0 : Int32) (0 : Int32) b1 b1 b1 b1 b1 (0 : Int64) s1 ne_ast_aen ne_ast_asp ne_ast_amx ne_aen_asp ne_aen_amx ne_asp_amx E_obj F_obj_setting F_obj_frontier F_obj_frontierSpan F_obj_count F_obj_room F_obj_starts F_obj_ends F_obj_spans F_obj_maxima A_ast A_aen A_asp A_amx (by omega)) (by decide) (by decide) rfl rfl rfl (by decide) (by decide) rfl pd__28J_29V rfl rfl (Nat.le_of_eq rfl) ?_
        refine Go.lloadN (pc' := 111) at_110 rfl rfl ?_
        refine Go.lconst (pc' := 112) at_111 rfl (z := (0 : Int64)) (by decide) ?_
        refine Go.lcmpF (pc' := 116) (X := s1.toInt) (Y := (0 : Int)) at_112 at_113 rfl rfl rfl (by decide) (hk1 : s1.toInt = (0 : Int)) ?_
        refine Go.iconst (pc' := 117) at_116 rfl (z := (1 : Int32)) (by decide) ?_
        refine Go.goto (pc' := 121) at_117 (by decide) ?_
        refine Go.istore (pc' := 123) at_121 rfl (Ls' := #[.val (.long s1), .second, .val (.long s2), .second, .val (.long ff), .second, .val (.int span), .val (.int ln), .val (.int md), .val (.int (1 : Int32)), .val (.long b1), .second, .val (.long b2), .second, .val (.long second), .second, .val (.ref obj), .val (.int (1 : Int32)), .unset, .unset, .unset]) rfl ?_
        refine Go.iload (pc' := 125) at_123 rfl rfl ?_
        refine Go.ifF (pc' := 128) (X := (1 : Int)) at_125 rfl (by decide) (by decide : ¬ (1 : Int) = 0) ?_
        refine Go.aload (pc' := 130) at_128 rfl rfl rfl ?_
        refine Go.callV0 (pc' := 133) (W := 0) (a := obj) (argsL := []) (rest := []) (v0 := some (.long ff)) (st2 := [(.long ff)]) at_130 rfl (hw _ w40) (hw _ w41) (nf_sel (hw _ w43)) (hw _ w43) (hw _ w42) (hw _ w3) (hw _ w44) E_obj (by decide) (c_front hw obj ast aen asp amx (0 : Int64) ff span (1 : Int32) (0 : Int64) (0 : Int64) b1 (0 : Int64) (0 : Int32) (0 : Int32) b1 b1 b1 b1 b1 (0 : Int64) ne_ast_aen ne_ast_asp ne_ast_amx ne_aen_asp ne_aen_amx ne_asp_amx E_obj F_obj_setting F_obj_frontier F_obj_frontierSpan F_obj_count F_obj_room F_obj_starts F_obj_ends F_obj_spans F_obj_maxima A_ast A_aen A_asp A_amx) (by decide) (by decide) rfl rfl rfl (by decide) (by decide) rfl pd__28_29J rfl rfl (Nat.le_of_eq rfl) ?_
        refine Go.lload (pc' := 135) at_133 rfl rfl ?_
        refine Go.lcmpF (pc' := 139) (X := ff.toInt) (Y := ff.toInt) at_135 at_136 rfl rfl rfl rfl (rfl : ff.toInt = ff.toInt) ?_
        refine Go.aload (pc' := 141) at_139 rfl rfl rfl ?_
        refine Go.callV0 (pc' := 144) (W := 0) (a := obj) (argsL := []) (rest := []) (v0 := some (.int span)) (st2 := [(.int span)]) at_141 rfl (hw _ w45) (hw _ w46) (nf_sel (hw _ w48)) (hw _ w48) (hw _ w47) (hw _ w3) (hw _ w49) E_obj (by decide) (c_fspan hw obj ast aen asp amx (0 : Int64) ff span (1 : Int32) (0 : Int64) (0 : Int64) b1 (0 : Int64) (0 : Int32) (0 : Int32) b1 b1 b1 b1 b1 (0 : Int64) ne_ast_aen ne_ast_asp ne_ast_amx ne_aen_asp ne_aen_amx ne_asp_amx E_obj F_obj_setting F_obj_frontier F_obj_frontierSpan F_obj_count F_obj_room F_obj_starts F_obj_ends F_obj_spans F_obj_maxima A_ast A_aen A_asp A_amx) (by decide) (by decide) rfl rfl rfl (by decide) (by decide) rfl pd__28_29I rfl rfl (Nat.le_of_eq rfl) ?_
        refine Go.iload (pc' := 146) at_144 rfl rfl ?_
        refine Go.icmpF (pc' := 149) (X := span.toInt) (Y := span.toInt) at_146 rfl rfl rfl (rfl : span.toInt = span.toInt) ?_
        refine Go.aload (pc' := 151) at_149 rfl rfl rfl ?_
        refine Go.lconst (pc' := 152) at_151 rfl (z := (1 : Int64)) (by decide) ?_
        refine Go.callV0 (pc' := 155) (W := 0) (a := obj) (argsL := [(.long (1 : Int64))]) (rest := []) (v0 := some (.int (0 : Int32))) (st2 := [(.int (0 : Int32))]) at_152 rfl (hw _ w50) (hw _ w51) (nf_sel (hw _ w53)) (hw _ w53) (hw _ w52) (hw _ w3) (hw _ w54) E_obj (by decide) (c_first0 hw obj ast aen asp amx (0 : Int64) ff span (1 : Int32) (0 : Int64) (0 : Int64) b1 (0 : Int64) (0 : Int32) (0 : Int32) b1 b1 b1 b1 b1 (0 : Int64) ne_ast_aen ne_ast_asp ne_ast_amx ne_aen_asp ne_aen_amx ne_asp_amx E_obj F_obj_setting F_obj_frontier F_obj_frontierSpan F_obj_count F_obj_room F_obj_starts F_obj_ends F_obj_spans F_obj_maxima A_ast A_aen A_asp A_amx (by omega) (by omega) (by omega) (by omega) (by omega)) (by decide) (by decide) rfl rfl rfl (by decide) (by decide) rfl pd__28J_29I rfl rfl (Nat.le_of_eq rfl) ?_
        refine Go.iload (pc' := 157) at_155 rfl rfl ?_
        refine Go.iconst (pc' := 158) at_157 rfl (z := (1 : Int32)) (by decide) ?_
        refine Go.icmpF (pc' := 161) (X := (1 : Int)) (Y := (1 : Int)) at_158 rfl (by decide) (by decide) (by decide : ¬ (1 : Int) < (1 : Int)) ?_
        refine Go.iconst (pc' := 162) at_161 rfl (z := (0 : Int32)) (by decide) ?_
        refine Go.goto (pc' := 166) at_162 (by decide) ?_
        refine Go.icmpF (pc' := 169) (X := (0 : Int)) (Y := (0 : Int)) at_166 rfl (by decide) (by decide) (by decide : (0 : Int) = (0 : Int)) ?_
        refine Go.aload (pc' := 171) at_169 rfl rfl rfl ?_
        refine Go.iconst (pc' := 172) at_171 rfl (z := (0 : Int32)) (by decide) ?_
        refine Go.callV0 (pc' := 175) (W := 0) (a := obj) (argsL := [(.int (0 : Int32))]) (rest := []) (v0 := some (.long b1)) (st2 := [(.long b1)]) at_172 rfl (hw _ w55) (hw _ w56) (nf_sel (hw _ w58)) (hw _ w58) (hw _ w57) (hw _ w3) (hw _ w59) E_obj (by decide) (c_bound hw obj ast aen asp amx (0 : Int64) ff span (1 : Int32) (0 : Int64) (0 : Int64) b1 (0 : Int64) (0 : Int32) (0 : Int32) b1 b1 b1 b1 b1 (0 : Int64) ne_ast_aen ne_ast_asp ne_ast_amx ne_aen_asp ne_aen_amx ne_asp_amx E_obj F_obj_setting F_obj_frontier F_obj_frontierSpan F_obj_count F_obj_room F_obj_starts F_obj_ends F_obj_spans F_obj_maxima A_ast A_aen A_asp A_amx) (by decide) (by decide) rfl rfl rfl (by decide) (by decide) rfl pd__28I_29J rfl rfl (Nat.le_of_eq rfl) ?_
        refine Go.iload (pc' := 177) at_175 rfl rfl ?_
        refine Go.iconst (pc' := 178) at_177 rfl (z := (1 : Int32)) (by decide) ?_
        refine Go.icmpF (pc' := 181) (X := (1 : Int)) (Y := (1 : Int)) at_178 rfl (by decide) (by decide) (by decide : ¬ (1 : Int) < (1 : Int)) ?_
        refine Go.lload (pc' := 183) at_181 rfl rfl ?_
        refine Go.goto (pc' := 187) at_183 (by decide) ?_
        refine Go.lcmpF (pc' := 191) (X := b1.toInt) (Y := b1.toInt) at_187 at_188 rfl rfl rfl rfl (rfl : b1.toInt = b1.toInt) ?_
        refine Go.iconst (pc' := 192) at_191 rfl (z := (1 : Int32)) (by decide) ?_
        refine Go.goto (pc' := 196) at_192 (by decide) ?_
        refine Go.istore (pc' := 198) at_196 rfl (Ls' := #[.val (.long s1), .second, .val (.long s2), .second, .val (.long ff), .second, .val (.int span), .val (.int ln), .val (.int md), .val (.int (1 : Int32)), .val (.long b1), .second, .val (.long b2), .second, .val (.long second), .second, .val (.ref obj), .val (.int (1 : Int32)), .val (.int (1 : Int32)), .unset, .unset]) rfl ?_
        refine Go.goto (pc' := 247) at_198 (by decide) ?_
        refine Go.iload (pc' := 249) at_247 rfl rfl ?_
        refine Go.iconst (pc' := 250) at_249 rfl (z := (1 : Int32)) (by decide) ?_
        refine Go.ior (pc' := 251) at_250 rfl rfl ?_
        generalize hv_span2 : (span ||| (1 : Int32)) = span2
        refine Go.istore (pc' := 253) at_251 rfl (Ls' := #[.val (.long s1), .second, .val (.long s2), .second, .val (.long ff), .second, .val (.int span), .val (.int ln), .val (.int md), .val (.int (1 : Int32)), .val (.long b1), .second, .val (.long b2), .second, .val (.long second), .second, .val (.ref obj), .val (.int (1 : Int32)), .val (.int (1 : Int32)), .val (.int span2), .unset]) rfl ?_
        refine Go.aload (pc' := 255) at_253 rfl rfl rfl ?_
        refine Go.lload (pc' := 257) at_255 rfl rfl ?_
        refine Go.iload (pc' := 259) at_257 rfl rfl ?_
        refine Go.callV (pc' := 262) (W := 0) (a := obj) (argsL := [(.long ff), (.int span2)]) (rest := []) (k' := 5) (n' := 89) at_259 rfl (hw _ w22) (hw _ w23) (nf_sel (hw _ w25)) (hw _ w25) (hw _ w24) (hw _ w3) (hw _ w26) E_obj (by decide) (c_move hw sz0 obj ast aen asp amx (0 : Int64) ff span (1 : Int32) (0 : Int64) (0 : Int64) b1 (0 : Int64) (0 : Int32) (0 : Int32) b1 b1 b1 b1 b1 (0 : Int64) ff span2 gn_obj gn_ast gn_aen gn_asp gn_amx ne_ast_aen ne_ast_asp ne_ast_amx ne_aen_asp ne_aen_amx ne_asp_amx E_obj F_obj_setting F_obj_frontier F_obj_frontierSpan F_obj_count F_obj_room F_obj_starts F_obj_ends F_obj_spans F_obj_maxima A_ast A_aen A_asp A_amx) (by decide) (by decide) (by decide) (by decide) rfl rfl rfl pd__28JI_29V rfl rfl (Nat.le_of_eq rfl) ?_
        intro v14 h14 P14 L14 NL14 hq14
        obtain ⟨rfl, N14, K14, E_obj_14, F_obj_setting_14, F_obj_frontier_14, F_obj_frontierSpan_14, F_obj_count_14, F_obj_room_14, F_obj_starts_14, F_obj_ends_14, F_obj_spans_14, F_obj_maxima_14⟩ := hq14
        dsimp only [Option.toList, List.cons_append, List.nil_append]
        replace N0 := NL14 _ N0 N14
        replace sz0 : n0 ≤ h14.size := Nat.le_trans sz0 K14.1
        clear E_obj
        clear F_obj_room
        clear F_obj_starts
        clear F_obj_ends
        clear F_obj_spans
        clear F_obj_maxima
        clear F_obj_frontier
        clear F_obj_frontierSpan
        clear F_obj_setting
        clear F_obj_count
        replace A_ast := A_ast.keep K14 (ninS (Ne.symm ne_obj_ast) nin0)
        replace A_aen := A_aen.keep K14 (ninS (Ne.symm ne_obj_aen) nin0)
        replace A_asp := A_asp.keep K14 (ninS (Ne.symm ne_obj_asp) nin0)
        replace A_amx := A_amx.keep K14 (ninS (Ne.symm ne_obj_amx) nin0)
        have E_obj := E_obj_14; clear E_obj_14
        have F_obj_setting := F_obj_setting_14; clear F_obj_setting_14
        have F_obj_frontier := F_obj_frontier_14; clear F_obj_frontier_14
        have F_obj_frontierSpan := F_obj_frontierSpan_14; clear F_obj_frontierSpan_14
        have F_obj_count := F_obj_count_14; clear F_obj_count_14
        have F_obj_room := F_obj_room_14; clear F_obj_room_14
        have F_obj_starts := F_obj_starts_14; clear F_obj_starts_14
        have F_obj_ends := F_obj_ends_14; clear F_obj_ends_14
        have F_obj_spans := F_obj_spans_14; clear F_obj_spans_14
        have F_obj_maxima := F_obj_maxima_14; clear F_obj_maxima_14
        by_cases hk2 : second.toInt = s1.toInt
        · have _ := hk2
          refine Go.aload (pc' := 264) at_262 rfl rfl rfl ?_
          refine Go.lload (pc' := 266) at_264 rfl rfl ?_
          refine Go.callV0 (pc' := 269) (W := 0) (a := obj) (argsL := [(.long second)]) (rest := []) (v0 := none) (st2 := []) at_266 rfl (hw _ w31) (hw _ w32) (nf_sel (hw _ w34)) (hw _ w34) (hw _ w33) (hw _ w3) (hw _ w35) E_obj (by decide) (c_keq hw obj ast aen asp amx (0 : Int64) ff span2 (1 : Int32) (0 : Int64) (0 : Int64) b1 (0 : Int64) (0 : Int32) (0 : Int32) b1 b1 b1 b1 b1 (0 : Int64) second ne_ast_aen ne_ast_asp ne_ast_amx ne_aen_asp ne_aen_amx ne_asp_amx E_obj F_obj_setting F_obj_frontier F_obj_frontierSpan F_obj_count F_obj_room F_obj_starts F_obj_ends F_obj_spans F_obj_maxima A_ast A_aen A_asp A_amx (by omega)) (by decide) (by decide) rfl rfl rfl (by decide) (by decide) rfl pd__28J_29V rfl rfl (Nat.le_of_eq rfl) ?_
          refine Go.lload (pc' := 271) at_269 rfl rfl ?_
          refine Go.lloadN (pc' := 272) at_271 rfl rfl ?_
          refine Go.lcmpF (pc' := 276) (X := second.toInt) (Y := s1.toInt) at_272 at_273 rfl rfl rfl rfl (hk2 : second.toInt = s1.toInt) ?_
          refine Go.iconst (pc' := 277) at_276 rfl (z := (1 : Int32)) (by decide) ?_
          refine Go.goto (pc' := 281) at_277 (by decide) ?_
          refine Go.istore (pc' := 283) at_281 rfl (Ls' := #[.val (.long s1), .second, .val (.long s2), .second, .val (.long ff), .second, .val (.int span), .val (.int ln), .val (.int md), .val (.int (1 : Int32)), .val (.long b1), .second, .val (.long b2), .second, .val (.long second), .second, .val (.ref obj), .val (.int (1 : Int32)), .val (.int (1 : Int32)), .val (.int span2), .val (.int (1 : Int32))]) rfl ?_
          refine Go.iload (pc' := 285) at_283 rfl rfl ?_
          refine Go.ifF (pc' := 288) (X := (1 : Int)) at_285 rfl (by decide) (by decide : ¬ (1 : Int) = 0) ?_
          refine Go.aload (pc' := 290) at_288 rfl rfl rfl ?_
          refine Go.callV0 (pc' := 293) (W := 0) (a := obj) (argsL := []) (rest := []) (v0 := some (.int span2)) (st2 := [(.int span2)]) at_290 rfl (hw _ w45) (hw _ w46) (nf_sel (hw _ w48)) (hw _ w48) (hw _ w47) (hw _ w3) (hw _ w49) E_obj (by decide) (c_fspan hw obj ast aen asp amx (0 : Int64) ff span2 (1 : Int32) (0 : Int64) (0 : Int64) b1 (0 : Int64) (0 : Int32) (0 : Int32) b1 b1 b1 b1 b1 (0 : Int64) ne_ast_aen ne_ast_asp ne_ast_amx ne_aen_asp ne_aen_amx ne_asp_amx E_obj F_obj_setting F_obj_frontier F_obj_frontierSpan F_obj_count F_obj_room F_obj_starts F_obj_ends F_obj_spans F_obj_maxima A_ast A_aen A_asp A_amx) (by decide) (by decide) rfl rfl rfl (by decide) (by decide) rfl pd__28_29I rfl rfl (Nat.le_of_eq rfl) ?_
          refine Go.iload (pc' := 295) at_293 rfl rfl ?_
          refine Go.ifF (pc' := 298) (X := (1 : Int)) at_295 rfl (by decide) (by decide : ¬ (1 : Int) = 0) ?_
          refine Go.iload (pc' := 300) at_298 rfl rfl ?_
          refine Go.goto (pc' := 304) at_300 (by decide) ?_
          refine Go.icmpF (pc' := 307) (X := span2.toInt) (Y := span2.toInt) at_304 rfl rfl rfl (rfl : span2.toInt = span2.toInt) ?_
          refine Go.iconst (pc' := 308) at_307 rfl (z := (1 : Int32)) (by decide) ?_
          refine Go.goto (pc' := 312) at_308 (by decide) ?_
          refine Go.istore (pc' := 314) at_312 rfl (Ls' := #[.val (.long s1), .second, .val (.long s2), .second, .val (.long ff), .second, .val (.int span), .val (.int ln), .val (.int md), .val (.int (1 : Int32)), .val (.long b1), .second, .val (.long b2), .second, .val (.long second), .second, .val (.ref obj), .val (.int (1 : Int32)), .val (.int (1 : Int32)), .val (.int span2), .val (.int (1 : Int32))]) rfl ?_
          refine Go.iload (pc' := 316) at_314 rfl rfl ?_
          refine Go.ifF (pc' := 319) (X := (1 : Int)) at_316 rfl (by decide) (by decide : ¬ (1 : Int) = 0) ?_
          refine Go.aload (pc' := 321) at_319 rfl rfl rfl ?_
          refine Go.lconst (pc' := 322) at_321 rfl (z := (1 : Int64)) (by decide) ?_
          refine Go.callV0 (pc' := 325) (W := 0) (a := obj) (argsL := [(.long (1 : Int64))]) (rest := []) (v0 := some (.int (0 : Int32))) (st2 := [(.int (0 : Int32))]) at_322 rfl (hw _ w50) (hw _ w51) (nf_sel (hw _ w53)) (hw _ w53) (hw _ w52) (hw _ w3) (hw _ w54) E_obj (by decide) (c_first0 hw obj ast aen asp amx (0 : Int64) ff span2 (1 : Int32) (0 : Int64) (0 : Int64) b1 (0 : Int64) (0 : Int32) (0 : Int32) b1 b1 b1 b1 b1 (0 : Int64) ne_ast_aen ne_ast_asp ne_ast_amx ne_aen_asp ne_aen_amx ne_asp_amx E_obj F_obj_setting F_obj_frontier F_obj_frontierSpan F_obj_count F_obj_room F_obj_starts F_obj_ends F_obj_spans F_obj_maxima A_ast A_aen A_asp A_amx (by omega) (by omega) (by omega) (by omega) (by omega)) (by decide) (by decide) rfl rfl rfl (by decide) (by decide) rfl pd__28J_29I rfl rfl (Nat.le_of_eq rfl) ?_
          refine Go.iload (pc' := 327) at_325 rfl rfl ?_
          refine Go.ifF (pc' := 330) (X := (1 : Int)) at_327 rfl (by decide) (by decide : ¬ (1 : Int) = 0) ?_
          refine Go.iload (pc' := 332) at_330 rfl rfl ?_
          refine Go.ifF (pc' := 335) (X := (1 : Int)) at_332 rfl (by decide) (by decide : ¬ (1 : Int) = 0) ?_
          refine Go.iload (pc' := 337) at_335 rfl rfl ?_
          refine Go.iconst (pc' := 338) at_337 rfl (z := (1 : Int32)) (by decide) ?_
          refine Go.icmpF (pc' := 341) (X := (1 : Int)) (Y := (1 : Int)) at_338 rfl (by decide) (by decide) (by decide : ¬ (1 : Int) < (1 : Int)) ?_
          refine Go.iconst (pc' := 342) at_341 rfl (z := (0 : Int32)) (by decide) ?_
          refine Go.goto (pc' := 346) at_342 (by decide) ?_
          refine Go.icmpF (pc' := 349) (X := (0 : Int)) (Y := (0 : Int)) at_346 rfl (by decide) (by decide) (by decide : (0 : Int) = (0 : Int)) ?_
          refine Go.iconst (pc' := 350) at_349 rfl (z := (1 : Int32)) (by decide) ?_
          refine Go.goto (pc' := 354) at_350 (by decide) ?_
          refine Go.istore (pc' := 356) at_354 rfl (Ls' := #[.val (.long s1), .second, .val (.long s2), .second, .val (.long ff), .second, .val (.int span), .val (.int ln), .val (.int md), .val (.int (1 : Int32)), .val (.long b1), .second, .val (.long b2), .second, .val (.long second), .second, .val (.ref obj), .val (.int (1 : Int32)), .val (.int (1 : Int32)), .val (.int span2), .val (.int (1 : Int32))]) rfl ?_
          refine Go.iload (pc' := 358) at_356 rfl rfl ?_
          refine Go.retZ at_358 rfl (by decide) (by decide) (by decide) ?_
          exact ⟨rfl, N0⟩
        · have _ := hk2
          refine Go.aload (pc' := 264) at_262 rfl rfl rfl ?_
          refine Go.lload (pc' := 266) at_264 rfl rfl ?_
          refine Go.callV (pc' := 269) (W := 0) (a := obj) (argsL := [(.long second)]) (rest := []) (k' := 5) (n' := 89) at_266 rfl (hw _ w31) (hw _ w32) (nf_sel (hw _ w34)) (hw _ w34) (hw _ w33) (hw _ w3) (hw _ w35) E_obj (by decide) (c_kne1 hw sz0 obj ast aen asp amx (0 : Int64) ff span2 (0 : Int64) (0 : Int64) b1 (0 : Int64) (0 : Int32) (0 : Int32) b1 b1 b1 b1 b1 second (by omega) (by omega) (by omega) (by omega) (by omega) (by omega) gn_obj gn_ast gn_aen gn_asp gn_amx ne_ast_aen ne_ast_asp ne_ast_amx ne_aen_asp ne_aen_amx ne_asp_amx E_obj F_obj_setting F_obj_frontier F_obj_frontierSpan F_obj_count F_obj_room F_obj_starts F_obj_ends F_obj_spans F_obj_maxima A_ast A_aen A_asp A_amx ) (by decide) (by decide) (by decide) (by decide) rfl rfl rfl pd__28J_29V rfl rfl (Nat.le_of_eq rfl) ?_
          intro v15 h15 P15 L15 NL15 hq15
          obtain ⟨rfl, N15, K15, E_obj_15, F_obj_setting_15, F_obj_frontier_15, F_obj_frontierSpan_15, F_obj_count_15, F_obj_room_15, F_obj_starts_15, F_obj_ends_15, F_obj_spans_15, F_obj_maxima_15, A_amx_15⟩ := hq15
          dsimp only [Option.toList, List.cons_append, List.nil_append]
          replace N0 := NL15 _ N0 N15
          replace sz0 : n0 ≤ h15.size := Nat.le_trans sz0 K15.1
          clear E_obj
          clear F_obj_room
          clear F_obj_starts
          clear F_obj_ends
          clear F_obj_spans
          clear F_obj_maxima
          clear F_obj_frontier
          clear F_obj_frontierSpan
          clear F_obj_setting
          clear F_obj_count
          replace A_ast := A_ast.keep K15 (ninS (Ne.symm ne_obj_ast) (ninS ne_ast_amx nin0))
          replace A_aen := A_aen.keep K15 (ninS (Ne.symm ne_obj_aen) (ninS ne_aen_amx nin0))
          replace A_asp := A_asp.keep K15 (ninS (Ne.symm ne_obj_asp) (ninS ne_asp_amx nin0))
          clear A_amx
          have E_obj := E_obj_15; clear E_obj_15
          have F_obj_setting := F_obj_setting_15; clear F_obj_setting_15
          have F_obj_frontier := F_obj_frontier_15; clear F_obj_frontier_15
          have F_obj_frontierSpan := F_obj_frontierSpan_15; clear F_obj_frontierSpan_15
          have F_obj_count := F_obj_count_15; clear F_obj_count_15
          have F_obj_room := F_obj_room_15; clear F_obj_room_15
          have F_obj_starts := F_obj_starts_15; clear F_obj_starts_15
          have F_obj_ends := F_obj_ends_15; clear F_obj_ends_15
          have F_obj_spans := F_obj_spans_15; clear F_obj_spans_15
          have F_obj_maxima := F_obj_maxima_15; clear F_obj_maxima_15
          have A_amx := A_amx_15; clear A_amx_15
          refine Go.lload (pc' := 271) at_269 rfl rfl ?_
          refine Go.lloadN (pc' := 272) at_271 rfl rfl ?_
          refine Go.lcmpT (pc' := 280) (X := second.toInt) (Y := s1.toInt) at_272 at_273 rfl (by decide) rfl rfl (hk2 : ¬ second.toInt = s1.toInt) ?_
          refine Go.iconst (pc' := 281) at_280 rfl (z := (0 : Int32)) (by decide) ?_
          refine Go.istore (pc' := 283) at_281 rfl (Ls' := #[.val (.long s1), .second, .val (.long s2), .second, .val (.long ff), .second, .val (.int span), .val (.int ln), .val (.int md), .val (.int (1 : Int32)), .val (.long b1), .second, .val (.long b2), .second, .val (.long second), .second, .val (.ref obj), .val (.int (1 : Int32)), .val (.int (1 : Int32)), .val (.int span2), .val (.int (0 : Int32))]) rfl ?_
          refine Go.iload (pc' := 285) at_283 rfl rfl ?_
          refine Go.ifF (pc' := 288) (X := (1 : Int)) at_285 rfl (by decide) (by decide : ¬ (1 : Int) = 0) ?_
          refine Go.aload (pc' := 290) at_288 rfl rfl rfl ?_
          refine Go.callV0 (pc' := 293) (W := 0) (a := obj) (argsL := []) (rest := []) (v0 := some (.int (0 : Int32))) (st2 := [(.int (0 : Int32))]) at_290 rfl (hw _ w45) (hw _ w46) (nf_sel (hw _ w48)) (hw _ w48) (hw _ w47) (hw _ w3) (hw _ w49) E_obj (by decide) (c_fspan hw obj ast aen asp amx second (0 : Int64) (0 : Int32) (0 : Int32) (0 : Int64) (0 : Int64) b1 (0 : Int64) (0 : Int32) (0 : Int32) (0 : Int64) (0 : Int64) (0 : Int64) (0 : Int64) (0 : Int64) (0 : Int64) ne_ast_aen ne_ast_asp ne_ast_amx ne_aen_asp ne_aen_amx ne_asp_amx E_obj F_obj_setting F_obj_frontier F_obj_frontierSpan F_obj_count F_obj_room F_obj_starts F_obj_ends F_obj_spans F_obj_maxima A_ast A_aen A_asp A_amx) (by decide) (by decide) rfl rfl rfl (by decide) (by decide) rfl pd__28_29I rfl rfl (Nat.le_of_eq rfl) ?_
          refine Go.iload (pc' := 295) at_293 rfl rfl ?_
          refine Go.ifT (pc' := 303) (X := (0 : Int)) at_295 (by decide) (by decide) (by decide : (0 : Int) = 0) ?_
          refine Go.iconst (pc' := 304) at_303 rfl (z := (0 : Int32)) (by decide) ?_
          refine Go.icmpF (pc' := 307) (X := (0 : Int)) (Y := (0 : Int)) at_304 rfl (by decide) (by decide) (by decide : (0 : Int) = (0 : Int)) ?_
          refine Go.iconst (pc' := 308) at_307 rfl (z := (1 : Int32)) (by decide) ?_
          refine Go.goto (pc' := 312) at_308 (by decide) ?_
          refine Go.istore (pc' := 314) at_312 rfl (Ls' := #[.val (.long s1), .second, .val (.long s2), .second, .val (.long ff), .second, .val (.int span), .val (.int ln), .val (.int md), .val (.int (1 : Int32)), .val (.long b1), .second, .val (.long b2), .second, .val (.long second), .second, .val (.ref obj), .val (.int (1 : Int32)), .val (.int (1 : Int32)), .val (.int span2), .val (.int (0 : Int32))]) rfl ?_
          refine Go.iload (pc' := 316) at_314 rfl rfl ?_
          refine Go.ifF (pc' := 319) (X := (1 : Int)) at_316 rfl (by decide) (by decide : ¬ (1 : Int) = 0) ?_
          refine Go.aload (pc' := 321) at_319 rfl rfl rfl ?_
          refine Go.lconst (pc' := 322) at_321 rfl (z := (1 : Int64)) (by decide) ?_
          refine Go.callV0 (pc' := 325) (W := 0) (a := obj) (argsL := [(.long (1 : Int64))]) (rest := []) (v0 := some (.int (-1 : Int32))) (st2 := [(.int (-1 : Int32))]) at_322 rfl (hw _ w50) (hw _ w51) (nf_sel (hw _ w53)) (hw _ w53) (hw _ w52) (hw _ w3) (hw _ w54) E_obj (by decide) (c_first1 hw obj ast aen asp amx second (0 : Int64) (0 : Int32) (0 : Int32) (0 : Int64) (0 : Int64) b1 (0 : Int64) (0 : Int32) (0 : Int32) (0 : Int64) (0 : Int64) (0 : Int64) (0 : Int64) (0 : Int64) (0 : Int64) ne_ast_aen ne_ast_asp ne_ast_amx ne_aen_asp ne_aen_amx ne_asp_amx E_obj F_obj_setting F_obj_frontier F_obj_frontierSpan F_obj_count F_obj_room F_obj_starts F_obj_ends F_obj_spans F_obj_maxima A_ast A_aen A_asp A_amx (by decide)) (by decide) (by decide) rfl rfl rfl (by decide) (by decide) rfl pd__28J_29I rfl rfl (Nat.le_of_eq rfl) ?_
          refine Go.iload (pc' := 327) at_325 rfl rfl ?_
          refine Go.ifT (pc' := 345) (X := (0 : Int)) at_327 (by decide) (by decide) (by decide : (0 : Int) = 0) ?_
          refine Go.iconst (pc' := 346) at_345 rfl (z := (-1 : Int32)) (by decide) ?_
          refine Go.icmpF (pc' := 349) (X := (-1 : Int)) (Y := (-1 : Int)) at_346 rfl (by decide) (by decide) (by decide : (-1 : Int) = (-1 : Int)) ?_
          refine Go.iconst (pc' := 350) at_349 rfl (z := (1 : Int32)) (by decide) ?_
          refine Go.goto (pc' := 354) at_350 (by decide) ?_
          refine Go.istore (pc' := 356) at_354 rfl (Ls' := #[.val (.long s1), .second, .val (.long s2), .second, .val (.long ff), .second, .val (.int span), .val (.int ln), .val (.int md), .val (.int (1 : Int32)), .val (.long b1), .second, .val (.long b2), .second, .val (.long second), .second, .val (.ref obj), .val (.int (1 : Int32)), .val (.int (1 : Int32)), .val (.int span2), .val (.int (0 : Int32))]) rfl ?_
          refine Go.iload (pc' := 358) at_356 rfl rfl ?_
          refine Go.retZ at_358 rfl (by decide) (by decide) (by decide) ?_
          exact ⟨rfl, N0⟩
      · have _ := hk1
        refine Go.aload (pc' := 106) at_104 rfl rfl rfl ?_
        refine Go.lloadN (pc' := 107) at_106 rfl rfl ?_
        refine Go.callV (pc' := 110) (W := 0) (a := obj) (argsL := [(.long s1)]) (rest := []) (k' := 5) (n' := 89) at_107 rfl (hw _ w31) (hw _ w32) (nf_sel (hw _ w34)) (hw _ w34) (hw _ w33) (hw _ w3) (hw _ w35) E_obj (by decide) (c_kne1 hw sz0 obj ast aen asp amx (0 : Int64) ff span (0 : Int64) (0 : Int64) b1 (0 : Int64) (0 : Int32) (0 : Int32) b1 b1 b1 b1 b1 s1 (by omega) (by omega) (by omega) (by omega) (by omega) (by omega) gn_obj gn_ast gn_aen gn_asp gn_amx ne_ast_aen ne_ast_asp ne_ast_amx ne_aen_asp ne_aen_amx ne_asp_amx E_obj F_obj_setting F_obj_frontier F_obj_frontierSpan F_obj_count F_obj_room F_obj_starts F_obj_ends F_obj_spans F_obj_maxima A_ast A_aen A_asp A_amx ) (by decide) (by decide) (by decide) (by decide) rfl rfl rfl pd__28J_29V rfl rfl (Nat.le_of_eq rfl) ?_
        intro v16 h16 P16 L16 NL16 hq16
        obtain ⟨rfl, N16, K16, E_obj_16, F_obj_setting_16, F_obj_frontier_16, F_obj_frontierSpan_16, F_obj_count_16, F_obj_room_16, F_obj_starts_16, F_obj_ends_16, F_obj_spans_16, F_obj_maxima_16, A_amx_16⟩ := hq16
        dsimp only [Option.toList, List.cons_append, List.nil_append]
        replace N0 := NL16 _ N0 N16
        replace sz0 : n0 ≤ h16.size := Nat.le_trans sz0 K16.1
        clear E_obj
        clear F_obj_room
        clear F_obj_starts
        clear F_obj_ends
        clear F_obj_spans
        clear F_obj_maxima
        clear F_obj_frontier
        clear F_obj_frontierSpan
        clear F_obj_setting
        clear F_obj_count
        replace A_ast := A_ast.keep K16 (ninS (Ne.symm ne_obj_ast) (ninS ne_ast_amx nin0))
        replace A_aen := A_aen.keep K16 (ninS (Ne.symm ne_obj_aen) (ninS ne_aen_amx nin0))
        replace A_asp := A_asp.keep K16 (ninS (Ne.symm ne_obj_asp) (ninS ne_asp_amx nin0))
        clear A_amx
        have E_obj := E_obj_16; clear E_obj_16
        have F_obj_setting := F_obj_setting_16; clear F_obj_setting_16
        have F_obj_frontier := F_obj_frontier_16; clear F_obj_frontier_16
        have F_obj_frontierSpan := F_obj_frontierSpan_16; clear F_obj_frontierSpan_16
        have F_obj_count := F_obj_count_16; clear F_obj_count_16
        have F_obj_room := F_obj_room_16; clear F_obj_room_16
        have F_obj_starts := F_obj_starts_16; clear F_obj_starts_16
        have F_obj_ends := F_obj_ends_16; clear F_obj_ends_16
        have F_obj_spans := F_obj_spans_16; clear F_obj_spans_16
        have F_obj_maxima := F_obj_maxima_16; clear F_obj_maxima_16
        have A_amx := A_amx_16; clear A_amx_16
        refine Go.lloadN (pc' := 111) at_110 rfl rfl ?_
        refine Go.lconst (pc' := 112) at_111 rfl (z := (0 : Int64)) (by decide) ?_
        refine Go.lcmpT (pc' := 120) (X := s1.toInt) (Y := (0 : Int)) at_112 at_113 rfl (by decide) rfl (by decide) (hk1 : ¬ s1.toInt = (0 : Int)) ?_
        refine Go.iconst (pc' := 121) at_120 rfl (z := (0 : Int32)) (by decide) ?_
        refine Go.istore (pc' := 123) at_121 rfl (Ls' := #[.val (.long s1), .second, .val (.long s2), .second, .val (.long ff), .second, .val (.int span), .val (.int ln), .val (.int md), .val (.int (1 : Int32)), .val (.long b1), .second, .val (.long b2), .second, .val (.long second), .second, .val (.ref obj), .val (.int (0 : Int32)), .unset, .unset, .unset]) rfl ?_
        refine Go.iload (pc' := 125) at_123 rfl rfl ?_
        refine Go.ifT (pc' := 201) (X := (0 : Int)) at_125 (by decide) (by decide) (by decide : (0 : Int) = 0) ?_
        refine Go.aload (pc' := 203) at_201 rfl rfl rfl ?_
        refine Go.callV0 (pc' := 206) (W := 0) (a := obj) (argsL := []) (rest := []) (v0 := some (.long (0 : Int64))) (st2 := [(.long (0 : Int64))]) at_203 rfl (hw _ w40) (hw _ w41) (nf_sel (hw _ w43)) (hw _ w43) (hw _ w42) (hw _ w3) (hw _ w44) E_obj (by decide) (c_front hw obj ast aen asp amx s1 (0 : Int64) (0 : Int32) (0 : Int32) (0 : Int64) (0 : Int64) b1 (0 : Int64) (0 : Int32) (0 : Int32) (0 : Int64) (0 : Int64) (0 : Int64) (0 : Int64) (0 : Int64) (0 : Int64) ne_ast_aen ne_ast_asp ne_ast_amx ne_aen_asp ne_aen_amx ne_asp_amx E_obj F_obj_setting F_obj_frontier F_obj_frontierSpan F_obj_count F_obj_room F_obj_starts F_obj_ends F_obj_spans F_obj_maxima A_ast A_aen A_asp A_amx) (by decide) (by decide) rfl rfl rfl (by decide) (by decide) rfl pd__28_29J rfl rfl (Nat.le_of_eq rfl) ?_
        refine Go.lconst (pc' := 207) at_206 rfl (z := (0 : Int64)) (by decide) ?_
        refine Go.lcmpF (pc' := 211) (X := (0 : Int)) (Y := (0 : Int)) at_207 at_208 rfl rfl (by decide) (by decide) (by decide : (0 : Int) = (0 : Int)) ?_
        refine Go.aload (pc' := 213) at_211 rfl rfl rfl ?_
        refine Go.callV0 (pc' := 216) (W := 0) (a := obj) (argsL := []) (rest := []) (v0 := some (.int (0 : Int32))) (st2 := [(.int (0 : Int32))]) at_213 rfl (hw _ w45) (hw _ w46) (nf_sel (hw _ w48)) (hw _ w48) (hw _ w47) (hw _ w3) (hw _ w49) E_obj (by decide) (c_fspan hw obj ast aen asp amx s1 (0 : Int64) (0 : Int32) (0 : Int32) (0 : Int64) (0 : Int64) b1 (0 : Int64) (0 : Int32) (0 : Int32) (0 : Int64) (0 : Int64) (0 : Int64) (0 : Int64) (0 : Int64) (0 : Int64) ne_ast_aen ne_ast_asp ne_ast_amx ne_aen_asp ne_aen_amx ne_asp_amx E_obj F_obj_setting F_obj_frontier F_obj_frontierSpan F_obj_count F_obj_room F_obj_starts F_obj_ends F_obj_spans F_obj_maxima A_ast A_aen A_asp A_amx) (by decide) (by decide) rfl rfl rfl (by decide) (by decide) rfl pd__28_29I rfl rfl (Nat.le_of_eq rfl) ?_
        refine Go.ifF (pc' := 219) (X := (0 : Int)) at_216 rfl (by decide) (by decide : (0 : Int) = 0) ?_
        refine Go.aload (pc' := 221) at_219 rfl rfl rfl ?_
        refine Go.lconst (pc' := 222) at_221 rfl (z := (1 : Int64)) (by decide) ?_
        refine Go.callV0 (pc' := 225) (W := 0) (a := obj) (argsL := [(.long (1 : Int64))]) (rest := []) (v0 := some (.int (-1 : Int32))) (st2 := [(.int (-1 : Int32))]) at_222 rfl (hw _ w50) (hw _ w51) (nf_sel (hw _ w53)) (hw _ w53) (hw _ w52) (hw _ w3) (hw _ w54) E_obj (by decide) (c_first1 hw obj ast aen asp amx s1 (0 : Int64) (0 : Int32) (0 : Int32) (0 : Int64) (0 : Int64) b1 (0 : Int64) (0 : Int32) (0 : Int32) (0 : Int64) (0 : Int64) (0 : Int64) (0 : Int64) (0 : Int64) (0 : Int64) ne_ast_aen ne_ast_asp ne_ast_amx ne_aen_asp ne_aen_amx ne_asp_amx E_obj F_obj_setting F_obj_frontier F_obj_frontierSpan F_obj_count F_obj_room F_obj_starts F_obj_ends F_obj_spans F_obj_maxima A_ast A_aen A_asp A_amx (by decide)) (by decide) (by decide) rfl rfl rfl (by decide) (by decide) rfl pd__28J_29I rfl rfl (Nat.le_of_eq rfl) ?_
        refine Go.iconst (pc' := 226) at_225 rfl (z := (-1 : Int32)) (by decide) ?_
        refine Go.icmpF (pc' := 229) (X := (-1 : Int)) (Y := (-1 : Int)) at_226 rfl (by decide) (by decide) (by decide : (-1 : Int) = (-1 : Int)) ?_
        refine Go.aload (pc' := 231) at_229 rfl rfl rfl ?_
        refine Go.iconst (pc' := 232) at_231 rfl (z := (0 : Int32)) (by decide) ?_
        refine Go.callV0 (pc' := 235) (W := 0) (a := obj) (argsL := [(.int (0 : Int32))]) (rest := []) (v0 := some (.long (0 : Int64))) (st2 := [(.long (0 : Int64))]) at_232 rfl (hw _ w55) (hw _ w56) (nf_sel (hw _ w58)) (hw _ w58) (hw _ w57) (hw _ w3) (hw _ w59) E_obj (by decide) (c_bound hw obj ast aen asp amx s1 (0 : Int64) (0 : Int32) (0 : Int32) (0 : Int64) (0 : Int64) b1 (0 : Int64) (0 : Int32) (0 : Int32) (0 : Int64) (0 : Int64) (0 : Int64) (0 : Int64) (0 : Int64) (0 : Int64) ne_ast_aen ne_ast_asp ne_ast_amx ne_aen_asp ne_aen_amx ne_asp_amx E_obj F_obj_setting F_obj_frontier F_obj_frontierSpan F_obj_count F_obj_room F_obj_starts F_obj_ends F_obj_spans F_obj_maxima A_ast A_aen A_asp A_amx) (by decide) (by decide) rfl rfl rfl (by decide) (by decide) rfl pd__28I_29J rfl rfl (Nat.le_of_eq rfl) ?_
        refine Go.lconst (pc' := 236) at_235 rfl (z := (0 : Int64)) (by decide) ?_
        refine Go.lcmpF (pc' := 240) (X := (0 : Int)) (Y := (0 : Int)) at_236 at_237 rfl rfl (by decide) (by decide) (by decide : (0 : Int) = (0 : Int)) ?_
        refine Go.iconst (pc' := 241) at_240 rfl (z := (1 : Int32)) (by decide) ?_
        refine Go.goto (pc' := 245) at_241 (by decide) ?_
        refine Go.istore (pc' := 247) at_245 rfl (Ls' := #[.val (.long s1), .second, .val (.long s2), .second, .val (.long ff), .second, .val (.int span), .val (.int ln), .val (.int md), .val (.int (1 : Int32)), .val (.long b1), .second, .val (.long b2), .second, .val (.long second), .second, .val (.ref obj), .val (.int (0 : Int32)), .val (.int (1 : Int32)), .unset, .unset]) rfl ?_
        refine Go.iload (pc' := 249) at_247 rfl rfl ?_
        refine Go.iconst (pc' := 250) at_249 rfl (z := (1 : Int32)) (by decide) ?_
        refine Go.ior (pc' := 251) at_250 rfl rfl ?_
        generalize hv_span2 : (span ||| (1 : Int32)) = span2
        refine Go.istore (pc' := 253) at_251 rfl (Ls' := #[.val (.long s1), .second, .val (.long s2), .second, .val (.long ff), .second, .val (.int span), .val (.int ln), .val (.int md), .val (.int (1 : Int32)), .val (.long b1), .second, .val (.long b2), .second, .val (.long second), .second, .val (.ref obj), .val (.int (0 : Int32)), .val (.int (1 : Int32)), .val (.int span2), .unset]) rfl ?_
        refine Go.aload (pc' := 255) at_253 rfl rfl rfl ?_
        refine Go.lload (pc' := 257) at_255 rfl rfl ?_
        refine Go.iload (pc' := 259) at_257 rfl rfl ?_
        refine Go.callV (pc' := 262) (W := 0) (a := obj) (argsL := [(.long ff), (.int span2)]) (rest := []) (k' := 5) (n' := 89) at_259 rfl (hw _ w22) (hw _ w23) (nf_sel (hw _ w25)) (hw _ w25) (hw _ w24) (hw _ w3) (hw _ w26) E_obj (by decide) (c_move hw sz0 obj ast aen asp amx s1 (0 : Int64) (0 : Int32) (0 : Int32) (0 : Int64) (0 : Int64) b1 (0 : Int64) (0 : Int32) (0 : Int32) (0 : Int64) (0 : Int64) (0 : Int64) (0 : Int64) (0 : Int64) (0 : Int64) ff span2 gn_obj gn_ast gn_aen gn_asp gn_amx ne_ast_aen ne_ast_asp ne_ast_amx ne_aen_asp ne_aen_amx ne_asp_amx E_obj F_obj_setting F_obj_frontier F_obj_frontierSpan F_obj_count F_obj_room F_obj_starts F_obj_ends F_obj_spans F_obj_maxima A_ast A_aen A_asp A_amx) (by decide) (by decide) (by decide) (by decide) rfl rfl rfl pd__28JI_29V rfl rfl (Nat.le_of_eq rfl) ?_
        intro v17 h17 P17 L17 NL17 hq17
        obtain ⟨rfl, N17, K17, E_obj_17, F_obj_setting_17, F_obj_frontier_17, F_obj_frontierSpan_17, F_obj_count_17, F_obj_room_17, F_obj_starts_17, F_obj_ends_17, F_obj_spans_17, F_obj_maxima_17⟩ := hq17
        dsimp only [Option.toList, List.cons_append, List.nil_append]
        replace N0 := NL17 _ N0 N17
        replace sz0 : n0 ≤ h17.size := Nat.le_trans sz0 K17.1
        clear E_obj
        clear F_obj_room
        clear F_obj_starts
        clear F_obj_ends
        clear F_obj_spans
        clear F_obj_maxima
        clear F_obj_frontier
        clear F_obj_frontierSpan
        clear F_obj_setting
        clear F_obj_count
        replace A_ast := A_ast.keep K17 (ninS (Ne.symm ne_obj_ast) nin0)
        replace A_aen := A_aen.keep K17 (ninS (Ne.symm ne_obj_aen) nin0)
        replace A_asp := A_asp.keep K17 (ninS (Ne.symm ne_obj_asp) nin0)
        replace A_amx := A_amx.keep K17 (ninS (Ne.symm ne_obj_amx) nin0)
        have E_obj := E_obj_17; clear E_obj_17
        have F_obj_setting := F_obj_setting_17; clear F_obj_setting_17
        have F_obj_frontier := F_obj_frontier_17; clear F_obj_frontier_17
        have F_obj_frontierSpan := F_obj_frontierSpan_17; clear F_obj_frontierSpan_17
        have F_obj_count := F_obj_count_17; clear F_obj_count_17
        have F_obj_room := F_obj_room_17; clear F_obj_room_17
        have F_obj_starts := F_obj_starts_17; clear F_obj_starts_17
        have F_obj_ends := F_obj_ends_17; clear F_obj_ends_17
        have F_obj_spans := F_obj_spans_17; clear F_obj_spans_17
        have F_obj_maxima := F_obj_maxima_17; clear F_obj_maxima_17
        by_cases hk2 : second.toInt = s1.toInt
        · have _ := hk2
          refine Go.aload (pc' := 264) at_262 rfl rfl rfl ?_
          refine Go.lload (pc' := 266) at_264 rfl rfl ?_
          refine Go.callV0 (pc' := 269) (W := 0) (a := obj) (argsL := [(.long second)]) (rest := []) (v0 := none) (st2 := []) at_266 rfl (hw _ w31) (hw _ w32) (nf_sel (hw _ w34)) (hw _ w34) (hw _ w33) (hw _ w3) (hw _ w35) E_obj (by decide) (c_keq hw obj ast aen asp amx s1 ff span2 (0 : Int32) (0 : Int64) (0 : Int64) b1 (0 : Int64) (0 : Int32) (0 : Int32) (0 : Int64) (0 : Int64) (0 : Int64) (0 : Int64) (0 : Int64) (0 : Int64) second ne_ast_aen ne_ast_asp ne_ast_amx ne_aen_asp ne_aen_amx ne_asp_amx E_obj F_obj_setting F_obj_frontier F_obj_frontierSpan F_obj_count F_obj_room F_obj_starts F_obj_ends F_obj_spans F_obj_maxima A_ast A_aen A_asp A_amx (by omega)) (by decide) (by decide) rfl rfl rfl (by decide) (by decide) rfl pd__28J_29V rfl rfl (Nat.le_of_eq rfl) ?_
          refine Go.lload (pc' := 271) at_269 rfl rfl ?_
          refine Go.lloadN (pc' := 272) at_271 rfl rfl ?_
          refine Go.lcmpF (pc' := 276) (X := second.toInt) (Y := s1.toInt) at_272 at_273 rfl rfl rfl rfl (hk2 : second.toInt = s1.toInt) ?_
          refine Go.iconst (pc' := 277) at_276 rfl (z := (1 : Int32)) (by decide) ?_
          refine Go.goto (pc' := 281) at_277 (by decide) ?_
          refine Go.istore (pc' := 283) at_281 rfl (Ls' := #[.val (.long s1), .second, .val (.long s2), .second, .val (.long ff), .second, .val (.int span), .val (.int ln), .val (.int md), .val (.int (1 : Int32)), .val (.long b1), .second, .val (.long b2), .second, .val (.long second), .second, .val (.ref obj), .val (.int (0 : Int32)), .val (.int (1 : Int32)), .val (.int span2), .val (.int (1 : Int32))]) rfl ?_
          refine Go.iload (pc' := 285) at_283 rfl rfl ?_
          refine Go.ifF (pc' := 288) (X := (1 : Int)) at_285 rfl (by decide) (by decide : ¬ (1 : Int) = 0) ?_
          refine Go.aload (pc' := 290) at_288 rfl rfl rfl ?_
          refine Go.callV0 (pc' := 293) (W := 0) (a := obj) (argsL := []) (rest := []) (v0 := some (.int span2)) (st2 := [(.int span2)]) at_290 rfl (hw _ w45) (hw _ w46) (nf_sel (hw _ w48)) (hw _ w48) (hw _ w47) (hw _ w3) (hw _ w49) E_obj (by decide) (c_fspan hw obj ast aen asp amx s1 ff span2 (0 : Int32) (0 : Int64) (0 : Int64) b1 (0 : Int64) (0 : Int32) (0 : Int32) (0 : Int64) (0 : Int64) (0 : Int64) (0 : Int64) (0 : Int64) (0 : Int64) ne_ast_aen ne_ast_asp ne_ast_amx ne_aen_asp ne_aen_amx ne_asp_amx E_obj F_obj_setting F_obj_frontier F_obj_frontierSpan F_obj_count F_obj_room F_obj_starts F_obj_ends F_obj_spans F_obj_maxima A_ast A_aen A_asp A_amx) (by decide) (by decide) rfl rfl rfl (by decide) (by decide) rfl pd__28_29I rfl rfl (Nat.le_of_eq rfl) ?_
          refine Go.iload (pc' := 295) at_293 rfl rfl ?_
          refine Go.ifF (pc' := 298) (X := (1 : Int)) at_295 rfl (by decide) (by decide : ¬ (1 : Int) = 0) ?_
          refine Go.iload (pc' := 300) at_298 rfl rfl ?_
          refine Go.goto (pc' := 304) at_300 (by decide) ?_
          refine Go.icmpF (pc' := 307) (X := span2.toInt) (Y := span2.toInt) at_304 rfl rfl rfl (rfl : span2.toInt = span2.toInt) ?_
          refine Go.iconst (pc' := 308) at_307 rfl (z := (1 : Int32)) (by decide) ?_
          refine Go.goto (pc' := 312) at_308 (by decide) ?_
          refine Go.istore (pc' := 314) at_312 rfl (Ls' := #[.val (.long s1), .second, .val (.long s2), .second, .val (.long ff), .second, .val (.int span), .val (.int ln), .val (.int md), .val (.int (1 : Int32)), .val (.long b1), .second, .val (.long b2), .second, .val (.long second), .second, .val (.ref obj), .val (.int (0 : Int32)), .val (.int (1 : Int32)), .val (.int span2), .val (.int (1 : Int32))]) rfl ?_
          refine Go.iload (pc' := 316) at_314 rfl rfl ?_
          refine Go.ifF (pc' := 319) (X := (1 : Int)) at_316 rfl (by decide) (by decide : ¬ (1 : Int) = 0) ?_
          refine Go.aload (pc' := 321) at_319 rfl rfl rfl ?_
          refine Go.lconst (pc' := 322) at_321 rfl (z := (1 : Int64)) (by decide) ?_
          refine Go.callV0 (pc' := 325) (W := 0) (a := obj) (argsL := [(.long (1 : Int64))]) (rest := []) (v0 := some (.int (-1 : Int32))) (st2 := [(.int (-1 : Int32))]) at_322 rfl (hw _ w50) (hw _ w51) (nf_sel (hw _ w53)) (hw _ w53) (hw _ w52) (hw _ w3) (hw _ w54) E_obj (by decide) (c_first1 hw obj ast aen asp amx s1 ff span2 (0 : Int32) (0 : Int64) (0 : Int64) b1 (0 : Int64) (0 : Int32) (0 : Int32) (0 : Int64) (0 : Int64) (0 : Int64) (0 : Int64) (0 : Int64) (0 : Int64) ne_ast_aen ne_ast_asp ne_ast_amx ne_aen_asp ne_aen_amx ne_asp_amx E_obj F_obj_setting F_obj_frontier F_obj_frontierSpan F_obj_count F_obj_room F_obj_starts F_obj_ends F_obj_spans F_obj_maxima A_ast A_aen A_asp A_amx (by decide)) (by decide) (by decide) rfl rfl rfl (by decide) (by decide) rfl pd__28J_29I rfl rfl (Nat.le_of_eq rfl) ?_
          refine Go.iload (pc' := 327) at_325 rfl rfl ?_
          refine Go.ifF (pc' := 330) (X := (1 : Int)) at_327 rfl (by decide) (by decide : ¬ (1 : Int) = 0) ?_
          refine Go.iload (pc' := 332) at_330 rfl rfl ?_
          refine Go.ifT (pc' := 345) (X := (0 : Int)) at_332 (by decide) (by decide) (by decide : (0 : Int) = 0) ?_
          refine Go.iconst (pc' := 346) at_345 rfl (z := (-1 : Int32)) (by decide) ?_
          refine Go.icmpF (pc' := 349) (X := (-1 : Int)) (Y := (-1 : Int)) at_346 rfl (by decide) (by decide) (by decide : (-1 : Int) = (-1 : Int)) ?_
          refine Go.iconst (pc' := 350) at_349 rfl (z := (1 : Int32)) (by decide) ?_
          refine Go.goto (pc' := 354) at_350 (by decide) ?_
          refine Go.istore (pc' := 356) at_354 rfl (Ls' := #[.val (.long s1), .second, .val (.long s2), .second, .val (.long ff), .second, .val (.int span), .val (.int ln), .val (.int md), .val (.int (1 : Int32)), .val (.long b1), .second, .val (.long b2), .second, .val (.long second), .second, .val (.ref obj), .val (.int (0 : Int32)), .val (.int (1 : Int32)), .val (.int span2), .val (.int (1 : Int32))]) rfl ?_
          refine Go.iload (pc' := 358) at_356 rfl rfl ?_
          refine Go.retZ at_358 rfl (by decide) (by decide) (by decide) ?_
          exact ⟨rfl, N0⟩
        · have _ := hk2
          refine Go.aload (pc' := 264) at_262 rfl rfl rfl ?_
          refine Go.lload (pc' := 266) at_264 rfl rfl ?_
          refine Go.callV (pc' := 269) (W := 0) (a := obj) (argsL := [(.long second)]) (rest := []) (k' := 5) (n' := 89) at_266 rfl (hw _ w31) (hw _ w32) (nf_sel (hw _ w34)) (hw _ w34) (hw _ w33) (hw _ w3) (hw _ w35) E_obj (by decide) (c_kne0 hw sz0 obj ast aen asp amx s1 ff span2 (0 : Int64) (0 : Int64) b1 (0 : Int64) (0 : Int32) (0 : Int32)  second (by omega)  gn_obj gn_ast gn_aen gn_asp gn_amx ne_ast_aen ne_ast_asp ne_ast_amx ne_aen_asp ne_aen_amx ne_asp_amx E_obj F_obj_setting F_obj_frontier F_obj_frontierSpan F_obj_count F_obj_room F_obj_starts F_obj_ends F_obj_spans F_obj_maxima A_ast A_aen A_asp A_amx ) (by decide) (by decide) (by decide) (by decide) rfl rfl rfl pd__28J_29V rfl rfl (Nat.le_of_eq rfl) ?_
          intro v18 h18 P18 L18 NL18 hq18
          obtain ⟨rfl, N18, K18, E_obj_18, F_obj_setting_18, F_obj_frontier_18, F_obj_frontierSpan_18, F_obj_count_18, F_obj_room_18, F_obj_starts_18, F_obj_ends_18, F_obj_spans_18, F_obj_maxima_18, A_amx_18⟩ := hq18
          dsimp only [Option.toList, List.cons_append, List.nil_append]
          replace N0 := NL18 _ N0 N18
          replace sz0 : n0 ≤ h18.size := Nat.le_trans sz0 K18.1
          clear E_obj
          clear F_obj_room
          clear F_obj_starts
          clear F_obj_ends
          clear F_obj_spans
          clear F_obj_maxima
          clear F_obj_frontier
          clear F_obj_frontierSpan
          clear F_obj_setting
          clear F_obj_count
          replace A_ast := A_ast.keep K18 (ninS (Ne.symm ne_obj_ast) (ninS ne_ast_amx nin0))
          replace A_aen := A_aen.keep K18 (ninS (Ne.symm ne_obj_aen) (ninS ne_aen_amx nin0))
          replace A_asp := A_asp.keep K18 (ninS (Ne.symm ne_obj_asp) (ninS ne_asp_amx nin0))
          clear A_amx
          have E_obj := E_obj_18; clear E_obj_18
          have F_obj_setting := F_obj_setting_18; clear F_obj_setting_18
          have F_obj_frontier := F_obj_frontier_18; clear F_obj_frontier_18
          have F_obj_frontierSpan := F_obj_frontierSpan_18; clear F_obj_frontierSpan_18
          have F_obj_count := F_obj_count_18; clear F_obj_count_18
          have F_obj_room := F_obj_room_18; clear F_obj_room_18
          have F_obj_starts := F_obj_starts_18; clear F_obj_starts_18
          have F_obj_ends := F_obj_ends_18; clear F_obj_ends_18
          have F_obj_spans := F_obj_spans_18; clear F_obj_spans_18
          have F_obj_maxima := F_obj_maxima_18; clear F_obj_maxima_18
          have A_amx := A_amx_18; clear A_amx_18
          refine Go.lload (pc' := 271) at_269 rfl rfl ?_
          refine Go.lloadN (pc' := 272) at_271 rfl rfl ?_
          refine Go.lcmpT (pc' := 280) (X := second.toInt) (Y := s1.toInt) at_272 at_273 rfl (by decide) rfl rfl (hk2 : ¬ second.toInt = s1.toInt) ?_
          refine Go.iconst (pc' := 281) at_280 rfl (z := (0 : Int32)) (by decide) ?_
          refine Go.istore (pc' := 283) at_281 rfl (Ls' := #[.val (.long s1), .second, .val (.long s2), .second, .val (.long ff), .second, .val (.int span), .val (.int ln), .val (.int md), .val (.int (1 : Int32)), .val (.long b1), .second, .val (.long b2), .second, .val (.long second), .second, .val (.ref obj), .val (.int (0 : Int32)), .val (.int (1 : Int32)), .val (.int span2), .val (.int (0 : Int32))]) rfl ?_
          refine Go.iload (pc' := 285) at_283 rfl rfl ?_
          refine Go.ifF (pc' := 288) (X := (1 : Int)) at_285 rfl (by decide) (by decide : ¬ (1 : Int) = 0) ?_
          refine Go.aload (pc' := 290) at_288 rfl rfl rfl ?_
          refine Go.callV0 (pc' := 293) (W := 0) (a := obj) (argsL := []) (rest := []) (v0 := some (.int (0 : Int32))) (st2 := [(.int (0 : Int32))]) at_290 rfl (hw _ w45) (hw _ w46) (nf_sel (hw _ w48)) (hw _ w48) (hw _ w47) (hw _ w3) (hw _ w49) E_obj (by decide) (c_fspan hw obj ast aen asp amx second (0 : Int64) (0 : Int32) (0 : Int32) (0 : Int64) (0 : Int64) b1 (0 : Int64) (0 : Int32) (0 : Int32) (0 : Int64) (0 : Int64) (0 : Int64) (0 : Int64) (0 : Int64) (0 : Int64) ne_ast_aen ne_ast_asp ne_ast_amx ne_aen_asp ne_aen_amx ne_asp_amx E_obj F_obj_setting F_obj_frontier F_obj_frontierSpan F_obj_count F_obj_room F_obj_starts F_obj_ends F_obj_spans F_obj_maxima A_ast A_aen A_asp A_amx) (by decide) (by decide) rfl rfl rfl (by decide) (by decide) rfl pd__28_29I rfl rfl (Nat.le_of_eq rfl) ?_
          refine Go.iload (pc' := 295) at_293 rfl rfl ?_
          refine Go.ifT (pc' := 303) (X := (0 : Int)) at_295 (by decide) (by decide) (by decide : (0 : Int) = 0) ?_
          refine Go.iconst (pc' := 304) at_303 rfl (z := (0 : Int32)) (by decide) ?_
          refine Go.icmpF (pc' := 307) (X := (0 : Int)) (Y := (0 : Int)) at_304 rfl (by decide) (by decide) (by decide : (0 : Int) = (0 : Int)) ?_
          refine Go.iconst (pc' := 308) at_307 rfl (z := (1 : Int32)) (by decide) ?_
          refine Go.goto (pc' := 312) at_308 (by decide) ?_
          refine Go.istore (pc' := 314) at_312 rfl (Ls' := #[.val (.long s1), .second, .val (.long s2), .second, .val (.long ff), .second, .val (.int span), .val (.int ln), .val (.int md), .val (.int (1 : Int32)), .val (.long b1), .second, .val (.long b2), .second, .val (.long second), .second, .val (.ref obj), .val (.int (0 : Int32)), .val (.int (1 : Int32)), .val (.int span2), .val (.int (0 : Int32))]) rfl ?_
          refine Go.iload (pc' := 316) at_314 rfl rfl ?_
          refine Go.ifF (pc' := 319) (X := (1 : Int)) at_316 rfl (by decide) (by decide : ¬ (1 : Int) = 0) ?_
          refine Go.aload (pc' := 321) at_319 rfl rfl rfl ?_
          refine Go.lconst (pc' := 322) at_321 rfl (z := (1 : Int64)) (by decide) ?_
          refine Go.callV0 (pc' := 325) (W := 0) (a := obj) (argsL := [(.long (1 : Int64))]) (rest := []) (v0 := some (.int (-1 : Int32))) (st2 := [(.int (-1 : Int32))]) at_322 rfl (hw _ w50) (hw _ w51) (nf_sel (hw _ w53)) (hw _ w53) (hw _ w52) (hw _ w3) (hw _ w54) E_obj (by decide) (c_first1 hw obj ast aen asp amx second (0 : Int64) (0 : Int32) (0 : Int32) (0 : Int64) (0 : Int64) b1 (0 : Int64) (0 : Int32) (0 : Int32) (0 : Int64) (0 : Int64) (0 : Int64) (0 : Int64) (0 : Int64) (0 : Int64) ne_ast_aen ne_ast_asp ne_ast_amx ne_aen_asp ne_aen_amx ne_asp_amx E_obj F_obj_setting F_obj_frontier F_obj_frontierSpan F_obj_count F_obj_room F_obj_starts F_obj_ends F_obj_spans F_obj_maxima A_ast A_aen A_asp A_amx (by decide)) (by decide) (by decide) rfl rfl rfl (by decide) (by decide) rfl pd__28J_29I rfl rfl (Nat.le_of_eq rfl) ?_
          refine Go.iload (pc' := 327) at_325 rfl rfl ?_
          refine Go.ifT (pc' := 345) (X := (0 : Int)) at_327 (by decide) (by decide) (by decide : (0 : Int) = 0) ?_
          refine Go.iconst (pc' := 346) at_345 rfl (z := (-1 : Int32)) (by decide) ?_
          refine Go.icmpF (pc' := 349) (X := (-1 : Int)) (Y := (-1 : Int)) at_346 rfl (by decide) (by decide) (by decide : (-1 : Int) = (-1 : Int)) ?_
          refine Go.iconst (pc' := 350) at_349 rfl (z := (1 : Int32)) (by decide) ?_
          refine Go.goto (pc' := 354) at_350 (by decide) ?_
          refine Go.istore (pc' := 356) at_354 rfl (Ls' := #[.val (.long s1), .second, .val (.long s2), .second, .val (.long ff), .second, .val (.int span), .val (.int ln), .val (.int md), .val (.int (1 : Int32)), .val (.long b1), .second, .val (.long b2), .second, .val (.long second), .second, .val (.ref obj), .val (.int (0 : Int32)), .val (.int (1 : Int32)), .val (.int span2), .val (.int (0 : Int32))]) rfl ?_
          refine Go.iload (pc' := 358) at_356 rfl rfl ?_
          refine Go.retZ at_358 rfl (by decide) (by decide) (by decide) ?_
          exact ⟨rfl, N0⟩
    · subst hs1
      refine Go.newO (pc' := 51) (k' := 1) (n' := 9) at_48 rfl (hw _ w1) (hw _ w2) (hw _ w3) (by decide) (by decide) rfl rfl ?_
      intro h19 obj ha_obj X19 E_obj D19
      have gn_obj : n0 ≤ obj := by rw [ha_obj]; exact sz0
      replace sz0 : n0 ≤ h19.size := Nat.le_trans sz0 X19.1
      have F_obj_room : Fld Z h19 obj "com/example/rehearsal/rehearsal/policies/KnownRuns" "room" "I" (.int (0 : Int32)) := D19 (Or.inl (hw _ w11)) (ty := .int) (by decide)
      have F_obj_starts : Fld Z h19 obj "com/example/rehearsal/rehearsal/policies/KnownRuns" "starts" "[J" .null := D19 (Or.inl (hw _ w14)) (ty := (.array .long)) (by decide)
      have F_obj_ends : Fld Z h19 obj "com/example/rehearsal/rehearsal/policies/KnownRuns" "ends" "[J" .null := D19 (Or.inl (hw _ w16)) (ty := (.array .long)) (by decide)
      have F_obj_spans : Fld Z h19 obj "com/example/rehearsal/rehearsal/policies/KnownRuns" "spans" "[I" .null := D19 (Or.inl (hw _ w19)) (ty := (.array .int)) (by decide)
      have F_obj_maxima : Fld Z h19 obj "com/example/rehearsal/rehearsal/policies/KnownRuns" "maxima" "[J" .null := D19 (Or.inl (hw _ w21)) (ty := (.array .long)) (by decide)
      have F_obj_frontier : Fld Z h19 obj "com/example/rehearsal/rehearsal/policies/KnownRuns" "frontier" "J" (.long (0 : Int64)) := D19 (Or.inl (hw _ w28)) (ty := .long) (by decide)
      have F_obj_frontierSpan : Fld Z h19 obj "com/example/rehearsal/rehearsal/policies/KnownRuns" "frontierSpan" "I" (.int (0 : Int32)) := D19 (Or.inl (hw _ w30)) (ty := .int) (by decide)
      have F_obj_setting : Fld Z h19 obj "com/example/rehearsal/rehearsal/policies/KnownRuns" "setting" "J" (.long (0 : Int64)) := D19 (Or.inl (hw _ w37)) (ty := .long) (by decide)
      have F_obj_count : Fld Z h19 obj "com/example/rehearsal/rehearsal/policies/KnownRuns" "count" "I" (.int (0 : Int32)) := D19 (Or.inl (hw _ w39)) (ty := .int) (by decide)
      refine Go.dup (pc' := 52) at_51 rfl rfl ?_
      refine Go.callI (pc' := 55) (W := 1) (a := obj) (argsL := []) (rest := [(.ref obj)]) (k' := 5) (n' := 89) at_52 rfl rfl (hw _ w4) (hw _ w5) (hw _ w3) (hw _ w6) (by decide) (c_init hw sz0 obj gn_obj E_obj F_obj_setting F_obj_frontier F_obj_frontierSpan F_obj_count F_obj_room F_obj_starts F_obj_ends F_obj_spans F_obj_maxima) (by decide) (by decide) (by decide) (by decide) rfl rfl rfl pd__28_29V rfl rfl (Nat.le_of_eq rfl) ?_
      intro v20 h20 P20 L20 NL20 hq20
      obtain ⟨ast, aen, asp, amx, rfl, ge_ast, ge_aen, ge_asp, ge_amx, N20, K20, E_obj_20, F_obj_setting_20, F_obj_frontier_20, F_obj_frontierSpan_20, F_obj_count_20, F_obj_room_20, F_obj_starts_20, F_obj_ends_20, F_obj_spans_20, F_obj_maxima_20, A_ast_20, A_aen_20, A_asp_20, A_amx_20⟩ := hq20
      dsimp only [Option.toList, List.cons_append, List.nil_append]
      have ne_obj_ast : obj ≠ ast := Nat.ne_of_lt (Nat.lt_of_lt_of_le E_obj.lt ge_ast)
      have gn_ast : n0 ≤ ast := Nat.le_trans sz0 ge_ast
      have ne_ast_aen : ast ≠ aen := Nat.ne_of_lt ge_aen
      have gt_aen := ge_aen
      replace ge_aen := Nat.le_trans ge_ast (Nat.le_of_lt gt_aen)
      have ne_obj_aen : obj ≠ aen := Nat.ne_of_lt (Nat.lt_of_lt_of_le E_obj.lt ge_aen)
      have gn_aen : n0 ≤ aen := Nat.le_trans sz0 ge_aen
      have ne_ast_asp : ast ≠ asp := Nat.ne_of_lt (Nat.lt_trans gt_aen ge_asp)
      have ne_aen_asp : aen ≠ asp := Nat.ne_of_lt ge_asp
      have gt_asp := ge_asp
      replace ge_asp := Nat.le_trans ge_aen (Nat.le_of_lt gt_asp)
      have ne_obj_asp : obj ≠ asp := Nat.ne_of_lt (Nat.lt_of_lt_of_le E_obj.lt ge_asp)
      have gn_asp : n0 ≤ asp := Nat.le_trans sz0 ge_asp
      have ne_ast_amx : ast ≠ amx := Nat.ne_of_lt (Nat.lt_trans gt_aen (Nat.lt_trans gt_asp ge_amx))
      have ne_aen_amx : aen ≠ amx := Nat.ne_of_lt (Nat.lt_trans gt_asp ge_amx)
      have ne_asp_amx : asp ≠ amx := Nat.ne_of_lt ge_amx
      have gt_amx := ge_amx
      replace ge_amx := Nat.le_trans ge_asp (Nat.le_of_lt gt_amx)
      have ne_obj_amx : obj ≠ amx := Nat.ne_of_lt (Nat.lt_of_lt_of_le E_obj.lt ge_amx)
      have gn_amx : n0 ≤ amx := Nat.le_trans sz0 ge_amx
      replace N0 := NL20 _ N0 N20
      replace sz0 : n0 ≤ h20.size := Nat.le_trans sz0 K20.1
      clear E_obj
      clear F_obj_room
      clear F_obj_starts
      clear F_obj_ends
      clear F_obj_spans
      clear F_obj_maxima
      clear F_obj_frontier
      clear F_obj_frontierSpan
      clear F_obj_setting
      clear F_obj_count
      have E_obj := E_obj_20; clear E_obj_20
      have F_obj_setting := F_obj_setting_20; clear F_obj_setting_20
      have F_obj_frontier := F_obj_frontier_20; clear F_obj_frontier_20
      have F_obj_frontierSpan := F_obj_frontierSpan_20; clear F_obj_frontierSpan_20
      have F_obj_count := F_obj_count_20; clear F_obj_count_20
      have F_obj_room := F_obj_room_20; clear F_obj_room_20
      have F_obj_starts := F_obj_starts_20; clear F_obj_starts_20
      have F_obj_ends := F_obj_ends_20; clear F_obj_ends_20
      have F_obj_spans := F_obj_spans_20; clear F_obj_spans_20
      have F_obj_maxima := F_obj_maxima_20; clear F_obj_maxima_20
      have A_ast := A_ast_20; clear A_ast_20
      have A_aen := A_aen_20; clear A_aen_20
      have A_asp := A_asp_20; clear A_asp_20
      have A_amx := A_amx_20; clear A_amx_20
      refine Go.astore (pc' := 57) at_55 rfl rfl (Ls' := #[.val (.long s1), .second, .val (.long s2), .second, .val (.long ff), .second, .val (.int span), .val (.int ln), .val (.int md), .val (.int (2 : Int32)), .val (.long b1), .second, .val (.long b2), .second, .val (.long second), .second, .val (.ref obj), .unset, .unset, .unset, .unset]) rfl ?_
      refine Go.iload (pc' := 59) at_57 rfl rfl ?_
      refine Go.iconst (pc' := 60) at_59 rfl (z := (1 : Int32)) (by decide) ?_
      refine Go.icmpF (pc' := 63) (X := (2 : Int)) (Y := (1 : Int)) at_60 rfl (by decide) (by decide) (by decide : ¬ (2 : Int) < (1 : Int)) ?_
      refine Go.aload (pc' := 65) at_63 rfl rfl rfl ?_
      refine Go.lconst (pc' := 66) at_65 rfl (z := (0 : Int64)) (by decide) ?_
      refine Go.lload (pc' := 68) at_66 rfl rfl ?_
      refine Go.iconst (pc' := 69) at_68 rfl (z := (0 : Int32)) (by decide) ?_
      refine Go.callV (pc' := 72) (W := 0) (a := obj) (argsL := [(.long (0 : Int64)), (.long b1), (.int (0 : Int32))]) (rest := []) (k' := 5) (n' := 89) at_69 rfl (hw _ w60) (hw _ w61) (nf_sel (hw _ w63)) (hw _ w63) (hw _ w62) (hw _ w3) (hw _ w64) E_obj (by decide) (c_add0 hw sz0 obj ast aen asp amx (0 : Int64) b1 (0 : Int32) (0 : Int64) (0 : Int64) (0 : Int32) b1 (Int64.sub_zero b1) hb1 gn_obj gn_ast gn_aen gn_asp gn_amx ne_ast_aen ne_ast_asp ne_ast_amx ne_aen_asp ne_aen_amx ne_asp_amx E_obj F_obj_setting F_obj_frontier F_obj_frontierSpan F_obj_count F_obj_room F_obj_starts F_obj_ends F_obj_spans F_obj_maxima A_ast A_aen A_asp A_amx) (by decide) (by decide) (by decide) (by decide) rfl rfl rfl pd__28JJI_29V rfl rfl (Nat.le_of_eq rfl) ?_
      intro v21 h21 P21 L21 NL21 hq21
      obtain ⟨rfl, N21, K21, E_obj_21, F_obj_setting_21, F_obj_frontier_21, F_obj_frontierSpan_21, F_obj_count_21, F_obj_room_21, F_obj_starts_21, F_obj_ends_21, F_obj_spans_21, F_obj_maxima_21, A_ast_21, A_aen_21, A_asp_21, A_amx_21⟩ := hq21
      dsimp only [Option.toList, List.cons_append, List.nil_append]
      replace N0 := NL21 _ N0 N21
      replace sz0 : n0 ≤ h21.size := Nat.le_trans sz0 K21.1
      clear E_obj
      clear F_obj_room
      clear F_obj_starts
      clear F_obj_ends
      clear F_obj_spans
      clear F_obj_maxima
      clear F_obj_frontier
      clear F_obj_frontierSpan
      clear F_obj_setting
      clear F_obj_count
      clear A_ast
      clear A_aen
      clear A_asp
      clear A_amx
      have E_obj := E_obj_21; clear E_obj_21
      have F_obj_setting := F_obj_setting_21; clear F_obj_setting_21
      have F_obj_frontier := F_obj_frontier_21; clear F_obj_frontier_21
      have F_obj_frontierSpan := F_obj_frontierSpan_21; clear F_obj_frontierSpan_21
      have F_obj_count := F_obj_count_21; clear F_obj_count_21
      have F_obj_room := F_obj_room_21; clear F_obj_room_21
      have F_obj_starts := F_obj_starts_21; clear F_obj_starts_21
      have F_obj_ends := F_obj_ends_21; clear F_obj_ends_21
      have F_obj_spans := F_obj_spans_21; clear F_obj_spans_21
      have F_obj_maxima := F_obj_maxima_21; clear F_obj_maxima_21
      have A_ast := A_ast_21; clear A_ast_21
      have A_aen := A_aen_21; clear A_aen_21
      have A_asp := A_asp_21; clear A_asp_21
      have A_amx := A_amx_21; clear A_amx_21
      refine Go.iload (pc' := 74) at_72 rfl rfl ?_
      refine Go.iconst (pc' := 75) at_74 rfl (z := (2 : Int32)) (by decide) ?_
      refine Go.icmpF (pc' := 78) (X := (2 : Int)) (Y := (2 : Int)) at_75 rfl (by decide) (by decide) (by decide : ¬ (2 : Int) < (2 : Int)) ?_
      refine Go.aload (pc' := 80) at_78 rfl rfl rfl ?_
      refine Go.lload (pc' := 82) at_80 rfl rfl ?_
      refine Go.lconst (pc' := 83) at_82 rfl (z := (1 : Int64)) (by decide) ?_
      refine Go.ladd (pc' := 84) at_83 rfl rfl ?_
      refine Go.lload (pc' := 86) at_84 rfl rfl ?_
      refine Go.lconst (pc' := 87) at_86 rfl (z := (1 : Int64)) (by decide) ?_
      refine Go.ladd (pc' := 88) at_87 rfl rfl ?_
      refine Go.lload (pc' := 90) at_88 rfl rfl ?_
      refine Go.ladd (pc' := 91) at_90 rfl rfl ?_
      refine Go.iconst (pc' := 92) at_91 rfl (z := (1 : Int32)) (by decide) ?_
      refine Go.callV (pc' := 95) (W := 0) (a := obj) (argsL := [(.long (b1 + (1 : Int64))), (.long ((b1 + (1 : Int64)) + b2)), (.int (1 : Int32))]) (rest := []) (k' := 5) (n' := 89) at_92 rfl (hw _ w60) (hw _ w61) (nf_sel (hw _ w63)) (hw _ w63) (hw _ w62) (hw _ w3) (hw _ w64) E_obj (by decide) (c_add1 hw sz0 obj ast aen asp amx (b1 + (1 : Int64)) ((b1 + (1 : Int64)) + b2) (1 : Int32) (0 : Int64) (0 : Int64) (0 : Int32) (0 : Int64) b1 (0 : Int32) b1 b2 (own_cancel _ _) hb2 hb1 gn_obj gn_ast gn_aen gn_asp gn_amx ne_ast_aen ne_ast_asp ne_ast_amx ne_aen_asp ne_aen_amx ne_asp_amx E_obj F_obj_setting F_obj_frontier F_obj_frontierSpan F_obj_count F_obj_room F_obj_starts F_obj_ends F_obj_spans F_obj_maxima A_ast A_aen A_asp A_amx) (by decide) (by decide) (by decide) (by decide) rfl rfl rfl pd__28JJI_29V rfl rfl (Nat.le_of_eq rfl) ?_
      intro v22 h22 P22 L22 NL22 hq22
      obtain ⟨mm, rfl, N22, K22, E_obj_22, F_obj_setting_22, F_obj_frontier_22, F_obj_frontierSpan_22, F_obj_count_22, F_obj_room_22, F_obj_starts_22, F_obj_ends_22, F_obj_spans_22, F_obj_maxima_22, A_ast_22, A_aen_22, A_asp_22, A_amx_22, hmm⟩ := hq22
      dsimp only [Option.toList, List.cons_append, List.nil_append]
      replace N0 := NL22 _ N0 N22
      replace sz0 : n0 ≤ h22.size := Nat.le_trans sz0 K22.1
      clear E_obj
      clear F_obj_room
      clear F_obj_starts
      clear F_obj_ends
      clear F_obj_spans
      clear F_obj_maxima
      clear F_obj_frontier
      clear F_obj_frontierSpan
      clear F_obj_setting
      clear F_obj_count
      clear A_ast
      clear A_aen
      clear A_asp
      clear A_amx
      have E_obj := E_obj_22; clear E_obj_22
      have F_obj_setting := F_obj_setting_22; clear F_obj_setting_22
      have F_obj_frontier := F_obj_frontier_22; clear F_obj_frontier_22
      have F_obj_frontierSpan := F_obj_frontierSpan_22; clear F_obj_frontierSpan_22
      have F_obj_count := F_obj_count_22; clear F_obj_count_22
      have F_obj_room := F_obj_room_22; clear F_obj_room_22
      have F_obj_starts := F_obj_starts_22; clear F_obj_starts_22
      have F_obj_ends := F_obj_ends_22; clear F_obj_ends_22
      have F_obj_spans := F_obj_spans_22; clear F_obj_spans_22
      have F_obj_maxima := F_obj_maxima_22; clear F_obj_maxima_22
      have A_ast := A_ast_22; clear A_ast_22
      have A_aen := A_aen_22; clear A_aen_22
      have A_asp := A_asp_22; clear A_asp_22
      have A_amx := A_amx_22; clear A_amx_22
      refine Go.aload (pc' := 97) at_95 rfl rfl rfl ?_
      refine Go.lload (pc' := 99) at_97 rfl rfl ?_
      refine Go.iload (pc' := 101) at_99 rfl rfl ?_
      refine Go.callV (pc' := 104) (W := 0) (a := obj) (argsL := [(.long ff), (.int span)]) (rest := []) (k' := 5) (n' := 89) at_101 rfl (hw _ w22) (hw _ w23) (nf_sel (hw _ w25)) (hw _ w25) (hw _ w24) (hw _ w3) (hw _ w26) E_obj (by decide) (c_move hw sz0 obj ast aen asp amx (0 : Int64) (0 : Int64) (0 : Int32) (2 : Int32) (0 : Int64) (b1 + (1 : Int64)) b1 ((b1 + (1 : Int64)) + b2) (0 : Int32) (1 : Int32) mm mm mm mm b1 b2 ff span gn_obj gn_ast gn_aen gn_asp gn_amx ne_ast_aen ne_ast_asp ne_ast_amx ne_aen_asp ne_aen_amx ne_asp_amx E_obj F_obj_setting F_obj_frontier F_obj_frontierSpan F_obj_count F_obj_room F_obj_starts F_obj_ends F_obj_spans F_obj_maxima A_ast A_aen A_asp A_amx) (by decide) (by decide) (by decide) (by decide) rfl rfl rfl pd__28JI_29V rfl rfl (Nat.le_of_eq rfl) ?_
      intro v23 h23 P23 L23 NL23 hq23
      obtain ⟨rfl, N23, K23, E_obj_23, F_obj_setting_23, F_obj_frontier_23, F_obj_frontierSpan_23, F_obj_count_23, F_obj_room_23, F_obj_starts_23, F_obj_ends_23, F_obj_spans_23, F_obj_maxima_23⟩ := hq23
      dsimp only [Option.toList, List.cons_append, List.nil_append]
      replace N0 := NL23 _ N0 N23
      replace sz0 : n0 ≤ h23.size := Nat.le_trans sz0 K23.1
      clear E_obj
      clear F_obj_room
      clear F_obj_starts
      clear F_obj_ends
      clear F_obj_spans
      clear F_obj_maxima
      clear F_obj_frontier
      clear F_obj_frontierSpan
      clear F_obj_setting
      clear F_obj_count
      replace A_ast := A_ast.keep K23 (ninS (Ne.symm ne_obj_ast) nin0)
      replace A_aen := A_aen.keep K23 (ninS (Ne.symm ne_obj_aen) nin0)
      replace A_asp := A_asp.keep K23 (ninS (Ne.symm ne_obj_asp) nin0)
      replace A_amx := A_amx.keep K23 (ninS (Ne.symm ne_obj_amx) nin0)
      have E_obj := E_obj_23; clear E_obj_23
      have F_obj_setting := F_obj_setting_23; clear F_obj_setting_23
      have F_obj_frontier := F_obj_frontier_23; clear F_obj_frontier_23
      have F_obj_frontierSpan := F_obj_frontierSpan_23; clear F_obj_frontierSpan_23
      have F_obj_count := F_obj_count_23; clear F_obj_count_23
      have F_obj_room := F_obj_room_23; clear F_obj_room_23
      have F_obj_starts := F_obj_starts_23; clear F_obj_starts_23
      have F_obj_ends := F_obj_ends_23; clear F_obj_ends_23
      have F_obj_spans := F_obj_spans_23; clear F_obj_spans_23
      have F_obj_maxima := F_obj_maxima_23; clear F_obj_maxima_23
      by_cases hk1 : s1.toInt = (0 : Int)
      · have _ := hk1
        refine Go.aload (pc' := 106) at_104 rfl rfl rfl ?_
        refine Go.lloadN (pc' := 107) at_106 rfl rfl ?_
        refine Go.callV0 (pc' := 110) (W := 0) (a := obj) (argsL := [(.long s1)]) (rest := []) (v0 := none) (st2 := []) at_107 rfl (hw _ w31) (hw _ w32) (nf_sel (hw _ w34)) (hw _ w34) (hw _ w33) (hw _ w3) (hw _ w35) E_obj (by decide) (c_keq hw obj ast aen asp amx (0 : Int64) ff span (2 : Int32) (0 : Int64) (b1 + (1 : Int64)) b1 ((b1 + (1 : Int64)) + b2) (0 : Int32) (1 : Int32) mm mm mm mm b1 b2 s1 ne_ast_aen ne_ast_asp ne_ast_amx ne_aen_asp ne_aen_amx ne_asp_amx E_obj F_obj_setting F_obj_frontier F_obj_frontierSpan F_obj_count F_obj_room F_obj_starts F_obj_ends F_obj_spans F_obj_maxima A_ast A_aen A_asp A_amx (by omega)) (by decide) (by decide) rfl rfl rfl (by decide) (by decide) rfl pd__28J_29V rfl rfl (Nat.le_of_eq rfl) ?_
        refine Go.lloadN (pc' := 111) at_110 rfl rfl ?_
        refine Go.lconst (pc' := 112) at_111 rfl (z := (0 : Int64)) (by decide) ?_
        refine Go.lcmpF (pc' := 116) (X := s1.toInt) (Y := (0 : Int)) at_112 at_113 rfl rfl rfl (by decide) (hk1 : s1.toInt = (0 : Int)) ?_
        refine Go.iconst (pc' := 117) at_116 rfl (z := (1 : Int32)) (by decide) ?_
        refine Go.goto (pc' := 121) at_117 (by decide) ?_
        refine Go.istore (pc' := 123) at_121 rfl (Ls' := #[.val (.long s1), .second, .val (.long s2), .second, .val (.long ff), .second, .val (.int span), .val (.int ln), .val (.int md), .val (.int (2 : Int32)), .val (.long b1), .second, .val (.long b2), .second, .val (.long second), .second, .val (.ref obj), .val (.int (1 : Int32)), .unset, .unset, .unset]) rfl ?_
        refine Go.iload (pc' := 125) at_123 rfl rfl ?_
        refine Go.ifF (pc' := 128) (X := (1 : Int)) at_125 rfl (by decide) (by decide : ¬ (1 : Int) = 0) ?_
        refine Go.aload (pc' := 130) at_128 rfl rfl rfl ?_
        refine Go.callV0 (pc' := 133) (W := 0) (a := obj) (argsL := []) (rest := []) (v0 := some (.long ff)) (st2 := [(.long ff)]) at_130 rfl (hw _ w40) (hw _ w41) (nf_sel (hw _ w43)) (hw _ w43) (hw _ w42) (hw _ w3) (hw _ w44) E_obj (by decide) (c_front hw obj ast aen asp amx (0 : Int64) ff span (2 : Int32) (0 : Int64) (b1 + (1 : Int64)) b1 ((b1 + (1 : Int64)) + b2) (0 : Int32) (1 : Int32) mm mm mm mm b1 b2 ne_ast_aen ne_ast_asp ne_ast_amx ne_aen_asp ne_aen_amx ne_asp_amx E_obj F_obj_setting F_obj_frontier F_obj_frontierSpan F_obj_count F_obj_room F_obj_starts F_obj_ends F_obj_spans F_obj_maxima A_ast A_aen A_asp A_amx) (by decide) (by decide) rfl rfl rfl (by decide) (by decide) rfl pd__28_29J rfl rfl (Nat.le_of_eq rfl) ?_
        refine Go.lload (pc' := 135) at_133 rfl rfl ?_
        refine Go.lcmpF (pc' := 139) (X := ff.toInt) (Y := ff.toInt) at_135 at_136 rfl rfl rfl rfl (rfl : ff.toInt = ff.toInt) ?_
        refine Go.aload (pc' := 141) at_139 rfl rfl rfl ?_
        refine Go.callV0 (pc' := 144) (W := 0) (a := obj) (argsL := []) (rest := []) (v0 := some (.int span)) (st2 := [(.int span)]) at_141 rfl (hw _ w45) (hw _ w46) (nf_sel (hw _ w48)) (hw _ w48) (hw _ w47) (hw _ w3) (hw _ w49) E_obj (by decide) (c_fspan hw obj ast aen asp amx (0 : Int64) ff span (2 : Int32) (0 : Int64) (b1 + (1 : Int64)) b1 ((b1 + (1 : Int64)) + b2) (0 : Int32) (1 : Int32) mm mm mm mm b1 b2 ne_ast_aen ne_ast_asp ne_ast_amx ne_aen_asp ne_aen_amx ne_asp_amx E_obj F_obj_setting F_obj_frontier F_obj_frontierSpan F_obj_count F_obj_room F_obj_starts F_obj_ends F_obj_spans F_obj_maxima A_ast A_aen A_asp A_amx) (by decide) (by decide) rfl rfl rfl (by decide) (by decide) rfl pd__28_29I rfl rfl (Nat.le_of_eq rfl) ?_
        refine Go.iload (pc' := 146) at_144 rfl rfl ?_
        refine Go.icmpF (pc' := 149) (X := span.toInt) (Y := span.toInt) at_146 rfl rfl rfl (rfl : span.toInt = span.toInt) ?_
        refine Go.aload (pc' := 151) at_149 rfl rfl rfl ?_
        refine Go.lconst (pc' := 152) at_151 rfl (z := (1 : Int64)) (by decide) ?_
        refine Go.callV0 (pc' := 155) (W := 0) (a := obj) (argsL := [(.long (1 : Int64))]) (rest := []) (v0 := some (.int (0 : Int32))) (st2 := [(.int (0 : Int32))]) at_152 rfl (hw _ w50) (hw _ w51) (nf_sel (hw _ w53)) (hw _ w53) (hw _ w52) (hw _ w3) (hw _ w54) E_obj (by decide) (c_first0 hw obj ast aen asp amx (0 : Int64) ff span (2 : Int32) (0 : Int64) (b1 + (1 : Int64)) b1 ((b1 + (1 : Int64)) + b2) (0 : Int32) (1 : Int32) mm mm mm mm b1 b2 ne_ast_aen ne_ast_asp ne_ast_amx ne_aen_asp ne_aen_amx ne_asp_amx E_obj F_obj_setting F_obj_frontier F_obj_frontierSpan F_obj_count F_obj_room F_obj_starts F_obj_ends F_obj_spans F_obj_maxima A_ast A_aen A_asp A_amx (by omega) (by omega) (by omega) (by omega) (by omega)) (by decide) (by decide) rfl rfl rfl (by decide) (by decide) rfl pd__28J_29I rfl rfl (Nat.le_of_eq rfl) ?_
        refine Go.iload (pc' := 157) at_155 rfl rfl ?_
        refine Go.iconst (pc' := 158) at_157 rfl (z := (1 : Int32)) (by decide) ?_
        refine Go.icmpF (pc' := 161) (X := (2 : Int)) (Y := (1 : Int)) at_158 rfl (by decide) (by decide) (by decide : ¬ (2 : Int) < (1 : Int)) ?_
        refine Go.iconst (pc' := 162) at_161 rfl (z := (0 : Int32)) (by decide) ?_
        refine Go.goto (pc' := 166) at_162 (by decide) ?_
        refine Go.icmpF (pc' := 169) (X := (0 : Int)) (Y := (0 : Int)) at_166 rfl (by decide) (by decide) (by decide : (0 : Int) = (0 : Int)) ?_
        refine Go.aload (pc' := 171) at_169 rfl rfl rfl ?_
        refine Go.iconst (pc' := 172) at_171 rfl (z := (0 : Int32)) (by decide) ?_
        refine Go.callV0 (pc' := 175) (W := 0) (a := obj) (argsL := [(.int (0 : Int32))]) (rest := []) (v0 := some (.long b1)) (st2 := [(.long b1)]) at_172 rfl (hw _ w55) (hw _ w56) (nf_sel (hw _ w58)) (hw _ w58) (hw _ w57) (hw _ w3) (hw _ w59) E_obj (by decide) (c_bound hw obj ast aen asp amx (0 : Int64) ff span (2 : Int32) (0 : Int64) (b1 + (1 : Int64)) b1 ((b1 + (1 : Int64)) + b2) (0 : Int32) (1 : Int32) mm mm mm mm b1 b2 ne_ast_aen ne_ast_asp ne_ast_amx ne_aen_asp ne_aen_amx ne_asp_amx E_obj F_obj_setting F_obj_frontier F_obj_frontierSpan F_obj_count F_obj_room F_obj_starts F_obj_ends F_obj_spans F_obj_maxima A_ast A_aen A_asp A_amx) (by decide) (by decide) rfl rfl rfl (by decide) (by decide) rfl pd__28I_29J rfl rfl (Nat.le_of_eq rfl) ?_
        refine Go.iload (pc' := 177) at_175 rfl rfl ?_
        refine Go.iconst (pc' := 178) at_177 rfl (z := (1 : Int32)) (by decide) ?_
        refine Go.icmpF (pc' := 181) (X := (2 : Int)) (Y := (1 : Int)) at_178 rfl (by decide) (by decide) (by decide : ¬ (2 : Int) < (1 : Int)) ?_
        refine Go.lload (pc' := 183) at_181 rfl rfl ?_
        refine Go.goto (pc' := 187) at_183 (by decide) ?_
        refine Go.lcmpF (pc' := 191) (X := b1.toInt) (Y := b1.toInt) at_187 at_188 rfl rfl rfl rfl (rfl : b1.toInt = b1.toInt) ?_
        refine Go.iconst (pc' := 192) at_191 rfl (z := (1 : Int32)) (by decide) ?_
        refine Go.goto (pc' := 196) at_192 (by decide) ?_
        refine Go.istore (pc' := 198) at_196 rfl (Ls' := #[.val (.long s1), .second, .val (.long s2), .second, .val (.long ff), .second, .val (.int span), .val (.int ln), .val (.int md), .val (.int (2 : Int32)), .val (.long b1), .second, .val (.long b2), .second, .val (.long second), .second, .val (.ref obj), .val (.int (1 : Int32)), .val (.int (1 : Int32)), .unset, .unset]) rfl ?_
        refine Go.goto (pc' := 247) at_198 (by decide) ?_
        refine Go.iload (pc' := 249) at_247 rfl rfl ?_
        refine Go.iconst (pc' := 250) at_249 rfl (z := (1 : Int32)) (by decide) ?_
        refine Go.ior (pc' := 251) at_250 rfl rfl ?_
        generalize hv_span2 : (span ||| (1 : Int32)) = span2
        refine Go.istore (pc' := 253) at_251 rfl (Ls' := #[.val (.long s1), .second, .val (.long s2), .second, .val (.long ff), .second, .val (.int span), .val (.int ln), .val (.int md), .val (.int (2 : Int32)), .val (.long b1), .second, .val (.long b2), .second, .val (.long second), .second, .val (.ref obj), .val (.int (1 : Int32)), .val (.int (1 : Int32)), .val (.int span2), .unset]) rfl ?_
        refine Go.aload (pc' := 255) at_253 rfl rfl rfl ?_
        refine Go.lload (pc' := 257) at_255 rfl rfl ?_
        refine Go.iload (pc' := 259) at_257 rfl rfl ?_
        refine Go.callV (pc' := 262) (W := 0) (a := obj) (argsL := [(.long ff), (.int span2)]) (rest := []) (k' := 5) (n' := 89) at_259 rfl (hw _ w22) (hw _ w23) (nf_sel (hw _ w25)) (hw _ w25) (hw _ w24) (hw _ w3) (hw _ w26) E_obj (by decide) (c_move hw sz0 obj ast aen asp amx (0 : Int64) ff span (2 : Int32) (0 : Int64) (b1 + (1 : Int64)) b1 ((b1 + (1 : Int64)) + b2) (0 : Int32) (1 : Int32) mm mm mm mm b1 b2 ff span2 gn_obj gn_ast gn_aen gn_asp gn_amx ne_ast_aen ne_ast_asp ne_ast_amx ne_aen_asp ne_aen_amx ne_asp_amx E_obj F_obj_setting F_obj_frontier F_obj_frontierSpan F_obj_count F_obj_room F_obj_starts F_obj_ends F_obj_spans F_obj_maxima A_ast A_aen A_asp A_amx) (by decide) (by decide) (by decide) (by decide) rfl rfl rfl pd__28JI_29V rfl rfl (Nat.le_of_eq rfl) ?_
        intro v24 h24 P24 L24 NL24 hq24
        obtain ⟨rfl, N24, K24, E_obj_24, F_obj_setting_24, F_obj_frontier_24, F_obj_frontierSpan_24, F_obj_count_24, F_obj_room_24, F_obj_starts_24, F_obj_ends_24, F_obj_spans_24, F_obj_maxima_24⟩ := hq24
        dsimp only [Option.toList, List.cons_append, List.nil_append]
        replace N0 := NL24 _ N0 N24
        replace sz0 : n0 ≤ h24.size := Nat.le_trans sz0 K24.1
        clear E_obj
        clear F_obj_room
        clear F_obj_starts
        clear F_obj_ends
        clear F_obj_spans
        clear F_obj_maxima
        clear F_obj_frontier
        clear F_obj_frontierSpan
        clear F_obj_setting
        clear F_obj_count
        replace A_ast := A_ast.keep K24 (ninS (Ne.symm ne_obj_ast) nin0)
        replace A_aen := A_aen.keep K24 (ninS (Ne.symm ne_obj_aen) nin0)
        replace A_asp := A_asp.keep K24 (ninS (Ne.symm ne_obj_asp) nin0)
        replace A_amx := A_amx.keep K24 (ninS (Ne.symm ne_obj_amx) nin0)
        have E_obj := E_obj_24; clear E_obj_24
        have F_obj_setting := F_obj_setting_24; clear F_obj_setting_24
        have F_obj_frontier := F_obj_frontier_24; clear F_obj_frontier_24
        have F_obj_frontierSpan := F_obj_frontierSpan_24; clear F_obj_frontierSpan_24
        have F_obj_count := F_obj_count_24; clear F_obj_count_24
        have F_obj_room := F_obj_room_24; clear F_obj_room_24
        have F_obj_starts := F_obj_starts_24; clear F_obj_starts_24
        have F_obj_ends := F_obj_ends_24; clear F_obj_ends_24
        have F_obj_spans := F_obj_spans_24; clear F_obj_spans_24
        have F_obj_maxima := F_obj_maxima_24; clear F_obj_maxima_24
        by_cases hk2 : second.toInt = s1.toInt
        · have _ := hk2
          refine Go.aload (pc' := 264) at_262 rfl rfl rfl ?_
          refine Go.lload (pc' := 266) at_264 rfl rfl ?_
          refine Go.callV0 (pc' := 269) (W := 0) (a := obj) (argsL := [(.long second)]) (rest := []) (v0 := none) (st2 := []) at_266 rfl (hw _ w31) (hw _ w32) (nf_sel (hw _ w34)) (hw _ w34) (hw _ w33) (hw _ w3) (hw _ w35) E_obj (by decide) (c_keq hw obj ast aen asp amx (0 : Int64) ff span2 (2 : Int32) (0 : Int64) (b1 + (1 : Int64)) b1 ((b1 + (1 : Int64)) + b2) (0 : Int32) (1 : Int32) mm mm mm mm b1 b2 second ne_ast_aen ne_ast_asp ne_ast_amx ne_aen_asp ne_aen_amx ne_asp_amx E_obj F_obj_setting F_obj_frontier F_obj_frontierSpan F_obj_count F_obj_room F_obj_starts F_obj_ends F_obj_spans F_obj_maxima A_ast A_aen A_asp A_amx (by omega)) (by decide) (by decide) rfl rfl rfl (by decide) (by decide) rfl pd__28J_29V rfl rfl (Nat.le_of_eq rfl) ?_
          refine Go.lload (pc' := 271) at_269 rfl rfl ?_
          refine Go.lloadN (pc' := 272) at_271 rfl rfl ?_
          refine Go.lcmpF (pc' := 276) (X := second.toInt) (Y := s1.toInt) at_272 at_273 rfl rfl rfl rfl (hk2 : second.toInt = s1.toInt) ?_
          refine Go.iconst (pc' := 277) at_276 rfl (z := (1 : Int32)) (by decide) ?_
          refine Go.goto (pc' := 281) at_277 (by decide) ?_
          refine Go.istore (pc' := 283) at_281 rfl (Ls' := #[.val (.long s1), .second, .val (.long s2), .second, .val (.long ff), .second, .val (.int span), .val (.int ln), .val (.int md), .val (.int (2 : Int32)), .val (.long b1), .second, .val (.long b2), .second, .val (.long second), .second, .val (.ref obj), .val (.int (1 : Int32)), .val (.int (1 : Int32)), .val (.int span2), .val (.int (1 : Int32))]) rfl ?_
          refine Go.iload (pc' := 285) at_283 rfl rfl ?_
          refine Go.ifF (pc' := 288) (X := (1 : Int)) at_285 rfl (by decide) (by decide : ¬ (1 : Int) = 0) ?_
          refine Go.aload (pc' := 290) at_288 rfl rfl rfl ?_
          refine Go.callV0 (pc' := 293) (W := 0) (a := obj) (argsL := []) (rest := []) (v0 := some (.int span2)) (st2 := [(.int span2)]) at_290 rfl (hw _ w45) (hw _ w46) (nf_sel (hw _ w48)) (hw _ w48) (hw _ w47) (hw _ w3) (hw _ w49) E_obj (by decide) (c_fspan hw obj ast aen asp amx (0 : Int64) ff span2 (2 : Int32) (0 : Int64) (b1 + (1 : Int64)) b1 ((b1 + (1 : Int64)) + b2) (0 : Int32) (1 : Int32) mm mm mm mm b1 b2 ne_ast_aen ne_ast_asp ne_ast_amx ne_aen_asp ne_aen_amx ne_asp_amx E_obj F_obj_setting F_obj_frontier F_obj_frontierSpan F_obj_count F_obj_room F_obj_starts F_obj_ends F_obj_spans F_obj_maxima A_ast A_aen A_asp A_amx) (by decide) (by decide) rfl rfl rfl (by decide) (by decide) rfl pd__28_29I rfl rfl (Nat.le_of_eq rfl) ?_
          refine Go.iload (pc' := 295) at_293 rfl rfl ?_
          refine Go.ifF (pc' := 298) (X := (1 : Int)) at_295 rfl (by decide) (by decide : ¬ (1 : Int) = 0) ?_
          refine Go.iload (pc' := 300) at_298 rfl rfl ?_
          refine Go.goto (pc' := 304) at_300 (by decide) ?_
          refine Go.icmpF (pc' := 307) (X := span2.toInt) (Y := span2.toInt) at_304 rfl rfl rfl (rfl : span2.toInt = span2.toInt) ?_
          refine Go.iconst (pc' := 308) at_307 rfl (z := (1 : Int32)) (by decide) ?_
          refine Go.goto (pc' := 312) at_308 (by decide) ?_
          refine Go.istore (pc' := 314) at_312 rfl (Ls' := #[.val (.long s1), .second, .val (.long s2), .second, .val (.long ff), .second, .val (.int span), .val (.int ln), .val (.int md), .val (.int (2 : Int32)), .val (.long b1), .second, .val (.long b2), .second, .val (.long second), .second, .val (.ref obj), .val (.int (1 : Int32)), .val (.int (1 : Int32)), .val (.int span2), .val (.int (1 : Int32))]) rfl ?_
          refine Go.iload (pc' := 316) at_314 rfl rfl ?_
          refine Go.ifF (pc' := 319) (X := (1 : Int)) at_316 rfl (by decide) (by decide : ¬ (1 : Int) = 0) ?_
          refine Go.aload (pc' := 321) at_319 rfl rfl rfl ?_
          refine Go.lconst (pc' := 322) at_321 rfl (z := (1 : Int64)) (by decide) ?_
          refine Go.callV0 (pc' := 325) (W := 0) (a := obj) (argsL := [(.long (1 : Int64))]) (rest := []) (v0 := some (.int (0 : Int32))) (st2 := [(.int (0 : Int32))]) at_322 rfl (hw _ w50) (hw _ w51) (nf_sel (hw _ w53)) (hw _ w53) (hw _ w52) (hw _ w3) (hw _ w54) E_obj (by decide) (c_first0 hw obj ast aen asp amx (0 : Int64) ff span2 (2 : Int32) (0 : Int64) (b1 + (1 : Int64)) b1 ((b1 + (1 : Int64)) + b2) (0 : Int32) (1 : Int32) mm mm mm mm b1 b2 ne_ast_aen ne_ast_asp ne_ast_amx ne_aen_asp ne_aen_amx ne_asp_amx E_obj F_obj_setting F_obj_frontier F_obj_frontierSpan F_obj_count F_obj_room F_obj_starts F_obj_ends F_obj_spans F_obj_maxima A_ast A_aen A_asp A_amx (by omega) (by omega) (by omega) (by omega) (by omega)) (by decide) (by decide) rfl rfl rfl (by decide) (by decide) rfl pd__28J_29I rfl rfl (Nat.le_of_eq rfl) ?_
          refine Go.iload (pc' := 327) at_325 rfl rfl ?_
          refine Go.ifF (pc' := 330) (X := (1 : Int)) at_327 rfl (by decide) (by decide : ¬ (1 : Int) = 0) ?_
          refine Go.iload (pc' := 332) at_330 rfl rfl ?_
          refine Go.ifF (pc' := 335) (X := (1 : Int)) at_332 rfl (by decide) (by decide : ¬ (1 : Int) = 0) ?_
          refine Go.iload (pc' := 337) at_335 rfl rfl ?_
          refine Go.iconst (pc' := 338) at_337 rfl (z := (1 : Int32)) (by decide) ?_
          refine Go.icmpF (pc' := 341) (X := (2 : Int)) (Y := (1 : Int)) at_338 rfl (by decide) (by decide) (by decide : ¬ (2 : Int) < (1 : Int)) ?_
          refine Go.iconst (pc' := 342) at_341 rfl (z := (0 : Int32)) (by decide) ?_
          refine Go.goto (pc' := 346) at_342 (by decide) ?_
          refine Go.icmpF (pc' := 349) (X := (0 : Int)) (Y := (0 : Int)) at_346 rfl (by decide) (by decide) (by decide : (0 : Int) = (0 : Int)) ?_
          refine Go.iconst (pc' := 350) at_349 rfl (z := (1 : Int32)) (by decide) ?_
          refine Go.goto (pc' := 354) at_350 (by decide) ?_
          refine Go.istore (pc' := 356) at_354 rfl (Ls' := #[.val (.long s1), .second, .val (.long s2), .second, .val (.long ff), .second, .val (.int span), .val (.int ln), .val (.int md), .val (.int (2 : Int32)), .val (.long b1), .second, .val (.long b2), .second, .val (.long second), .second, .val (.ref obj), .val (.int (1 : Int32)), .val (.int (1 : Int32)), .val (.int span2), .val (.int (1 : Int32))]) rfl ?_
          refine Go.iload (pc' := 358) at_356 rfl rfl ?_
          refine Go.retZ at_358 rfl (by decide) (by decide) (by decide) ?_
          exact ⟨rfl, N0⟩
        · have _ := hk2
          refine Go.aload (pc' := 264) at_262 rfl rfl rfl ?_
          refine Go.lload (pc' := 266) at_264 rfl rfl ?_
          refine Go.callV (pc' := 269) (W := 0) (a := obj) (argsL := [(.long second)]) (rest := []) (k' := 5) (n' := 89) at_266 rfl (hw _ w31) (hw _ w32) (nf_sel (hw _ w34)) (hw _ w34) (hw _ w33) (hw _ w3) (hw _ w35) E_obj (by decide) (c_kne2 hw sz0 obj ast aen asp amx (0 : Int64) ff span2 (0 : Int64) (b1 + (1 : Int64)) b1 ((b1 + (1 : Int64)) + b2) (0 : Int32) (1 : Int32) mm mm mm mm b1 b2 second (by omega) (by omega) (by omega) (by omega) (by omega) (by omega) (by omega) gn_obj gn_ast gn_aen gn_asp gn_amx ne_ast_aen ne_ast_asp ne_ast_amx ne_aen_asp ne_aen_amx ne_asp_amx E_obj F_obj_setting F_obj_frontier F_obj_frontierSpan F_obj_count F_obj_room F_obj_starts F_obj_ends F_obj_spans F_obj_maxima A_ast A_aen A_asp A_amx ) (by decide) (by decide) (by decide) (by decide) rfl rfl rfl pd__28J_29V rfl rfl (Nat.le_of_eq rfl) ?_
          intro v25 h25 P25 L25 NL25 hq25
          obtain ⟨rfl, N25, K25, E_obj_25, F_obj_setting_25, F_obj_frontier_25, F_obj_frontierSpan_25, F_obj_count_25, F_obj_room_25, F_obj_starts_25, F_obj_ends_25, F_obj_spans_25, F_obj_maxima_25, A_amx_25⟩ := hq25
          dsimp only [Option.toList, List.cons_append, List.nil_append]
          replace N0 := NL25 _ N0 N25
          replace sz0 : n0 ≤ h25.size := Nat.le_trans sz0 K25.1
          clear E_obj
          clear F_obj_room
          clear F_obj_starts
          clear F_obj_ends
          clear F_obj_spans
          clear F_obj_maxima
          clear F_obj_frontier
          clear F_obj_frontierSpan
          clear F_obj_setting
          clear F_obj_count
          replace A_ast := A_ast.keep K25 (ninS (Ne.symm ne_obj_ast) (ninS ne_ast_amx nin0))
          replace A_aen := A_aen.keep K25 (ninS (Ne.symm ne_obj_aen) (ninS ne_aen_amx nin0))
          replace A_asp := A_asp.keep K25 (ninS (Ne.symm ne_obj_asp) (ninS ne_asp_amx nin0))
          clear A_amx
          have E_obj := E_obj_25; clear E_obj_25
          have F_obj_setting := F_obj_setting_25; clear F_obj_setting_25
          have F_obj_frontier := F_obj_frontier_25; clear F_obj_frontier_25
          have F_obj_frontierSpan := F_obj_frontierSpan_25; clear F_obj_frontierSpan_25
          have F_obj_count := F_obj_count_25; clear F_obj_count_25
          have F_obj_room := F_obj_room_25; clear F_obj_room_25
          have F_obj_starts := F_obj_starts_25; clear F_obj_starts_25
          have F_obj_ends := F_obj_ends_25; clear F_obj_ends_25
          have F_obj_spans := F_obj_spans_25; clear F_obj_spans_25
          have F_obj_maxima := F_obj_maxima_25; clear F_obj_maxima_25
          have A_amx := A_amx_25; clear A_amx_25
          refine Go.lload (pc' := 271) at_269 rfl rfl ?_
          refine Go.lloadN (pc' := 272) at_271 rfl rfl ?_
          refine Go.lcmpT (pc' := 280) (X := second.toInt) (Y := s1.toInt) at_272 at_273 rfl (by decide) rfl rfl (hk2 : ¬ second.toInt = s1.toInt) ?_
          refine Go.iconst (pc' := 281) at_280 rfl (z := (0 : Int32)) (by decide) ?_
          refine Go.istore (pc' := 283) at_281 rfl (Ls' := #[.val (.long s1), .second, .val (.long s2), .second, .val (.long ff), .second, .val (.int span), .val (.int ln), .val (.int md), .val (.int (2 : Int32)), .val (.long b1), .second, .val (.long b2), .second, .val (.long second), .second, .val (.ref obj), .val (.int (1 : Int32)), .val (.int (1 : Int32)), .val (.int span2), .val (.int (0 : Int32))]) rfl ?_
          refine Go.iload (pc' := 285) at_283 rfl rfl ?_
          refine Go.ifF (pc' := 288) (X := (1 : Int)) at_285 rfl (by decide) (by decide : ¬ (1 : Int) = 0) ?_
          refine Go.aload (pc' := 290) at_288 rfl rfl rfl ?_
          refine Go.callV0 (pc' := 293) (W := 0) (a := obj) (argsL := []) (rest := []) (v0 := some (.int (0 : Int32))) (st2 := [(.int (0 : Int32))]) at_290 rfl (hw _ w45) (hw _ w46) (nf_sel (hw _ w48)) (hw _ w48) (hw _ w47) (hw _ w3) (hw _ w49) E_obj (by decide) (c_fspan hw obj ast aen asp amx second (0 : Int64) (0 : Int32) (0 : Int32) (0 : Int64) (b1 + (1 : Int64)) b1 ((b1 + (1 : Int64)) + b2) (0 : Int32) (1 : Int32) (0 : Int64) (0 : Int64) (0 : Int64) (0 : Int64) (0 : Int64) (0 : Int64) ne_ast_aen ne_ast_asp ne_ast_amx ne_aen_asp ne_aen_amx ne_asp_amx E_obj F_obj_setting F_obj_frontier F_obj_frontierSpan F_obj_count F_obj_room F_obj_starts F_obj_ends F_obj_spans F_obj_maxima A_ast A_aen A_asp A_amx) (by decide) (by decide) rfl rfl rfl (by decide) (by decide) rfl pd__28_29I rfl rfl (Nat.le_of_eq rfl) ?_
          refine Go.iload (pc' := 295) at_293 rfl rfl ?_
          refine Go.ifT (pc' := 303) (X := (0 : Int)) at_295 (by decide) (by decide) (by decide : (0 : Int) = 0) ?_
          refine Go.iconst (pc' := 304) at_303 rfl (z := (0 : Int32)) (by decide) ?_
          refine Go.icmpF (pc' := 307) (X := (0 : Int)) (Y := (0 : Int)) at_304 rfl (by decide) (by decide) (by decide : (0 : Int) = (0 : Int)) ?_
          refine Go.iconst (pc' := 308) at_307 rfl (z := (1 : Int32)) (by decide) ?_
          refine Go.goto (pc' := 312) at_308 (by decide) ?_
          refine Go.istore (pc' := 314) at_312 rfl (Ls' := #[.val (.long s1), .second, .val (.long s2), .second, .val (.long ff), .second, .val (.int span), .val (.int ln), .val (.int md), .val (.int (2 : Int32)), .val (.long b1), .second, .val (.long b2), .second, .val (.long second), .second, .val (.ref obj), .val (.int (1 : Int32)), .val (.int (1 : Int32)), .val (.int span2), .val (.int (0 : Int32))]) rfl ?_
          refine Go.iload (pc' := 316) at_314 rfl rfl ?_
          refine Go.ifF (pc' := 319) (X := (1 : Int)) at_316 rfl (by decide) (by decide : ¬ (1 : Int) = 0) ?_
          refine Go.aload (pc' := 321) at_319 rfl rfl rfl ?_
          refine Go.lconst (pc' := 322) at_321 rfl (z := (1 : Int64)) (by decide) ?_
          refine Go.callV0 (pc' := 325) (W := 0) (a := obj) (argsL := [(.long (1 : Int64))]) (rest := []) (v0 := some (.int (-1 : Int32))) (st2 := [(.int (-1 : Int32))]) at_322 rfl (hw _ w50) (hw _ w51) (nf_sel (hw _ w53)) (hw _ w53) (hw _ w52) (hw _ w3) (hw _ w54) E_obj (by decide) (c_first1 hw obj ast aen asp amx second (0 : Int64) (0 : Int32) (0 : Int32) (0 : Int64) (b1 + (1 : Int64)) b1 ((b1 + (1 : Int64)) + b2) (0 : Int32) (1 : Int32) (0 : Int64) (0 : Int64) (0 : Int64) (0 : Int64) (0 : Int64) (0 : Int64) ne_ast_aen ne_ast_asp ne_ast_amx ne_aen_asp ne_aen_amx ne_asp_amx E_obj F_obj_setting F_obj_frontier F_obj_frontierSpan F_obj_count F_obj_room F_obj_starts F_obj_ends F_obj_spans F_obj_maxima A_ast A_aen A_asp A_amx (by decide)) (by decide) (by decide) rfl rfl rfl (by decide) (by decide) rfl pd__28J_29I rfl rfl (Nat.le_of_eq rfl) ?_
          refine Go.iload (pc' := 327) at_325 rfl rfl ?_
          refine Go.ifT (pc' := 345) (X := (0 : Int)) at_327 (by decide) (by decide) (by decide : (0 : Int) = 0) ?_
          refine Go.iconst (pc' := 346) at_345 rfl (z := (-1 : Int32)) (by decide) ?_
          refine Go.icmpF (pc' := 349) (X := (-1 : Int)) (Y := (-1 : Int)) at_346 rfl (by decide) (by decide) (by decide : (-1 : Int) = (-1 : Int)) ?_
          refine Go.iconst (pc' := 350) at_349 rfl (z := (1 : Int32)) (by decide) ?_
          refine Go.goto (pc' := 354) at_350 (by decide) ?_
          refine Go.istore (pc' := 356) at_354 rfl (Ls' := #[.val (.long s1), .second, .val (.long s2), .second, .val (.long ff), .second, .val (.int span), .val (.int ln), .val (.int md), .val (.int (2 : Int32)), .val (.long b1), .second, .val (.long b2), .second, .val (.long second), .second, .val (.ref obj), .val (.int (1 : Int32)), .val (.int (1 : Int32)), .val (.int span2), .val (.int (0 : Int32))]) rfl ?_
          refine Go.iload (pc' := 358) at_356 rfl rfl ?_
          refine Go.retZ at_358 rfl (by decide) (by decide) (by decide) ?_
          exact ⟨rfl, N0⟩
      · have _ := hk1
        refine Go.aload (pc' := 106) at_104 rfl rfl rfl ?_
        refine Go.lloadN (pc' := 107) at_106 rfl rfl ?_
        refine Go.callV (pc' := 110) (W := 0) (a := obj) (argsL := [(.long s1)]) (rest := []) (k' := 5) (n' := 89) at_107 rfl (hw _ w31) (hw _ w32) (nf_sel (hw _ w34)) (hw _ w34) (hw _ w33) (hw _ w3) (hw _ w35) E_obj (by decide) (c_kne2 hw sz0 obj ast aen asp amx (0 : Int64) ff span (0 : Int64) (b1 + (1 : Int64)) b1 ((b1 + (1 : Int64)) + b2) (0 : Int32) (1 : Int32) mm mm mm mm b1 b2 s1 (by omega) (by omega) (by omega) (by omega) (by omega) (by omega) (by omega) gn_obj gn_ast gn_aen gn_asp gn_amx ne_ast_aen ne_ast_asp ne_ast_amx ne_aen_asp ne_aen_amx ne_asp_amx E_obj F_obj_setting F_obj_frontier F_obj_frontierSpan F_obj_count F_obj_room F_obj_starts F_obj_ends F_obj_spans F_obj_maxima A_ast A_aen A_asp A_amx ) (by decide) (by decide) (by decide) (by decide) rfl rfl rfl pd__28J_29V rfl rfl (Nat.le_of_eq rfl) ?_
        intro v26 h26 P26 L26 NL26 hq26
        obtain ⟨rfl, N26, K26, E_obj_26, F_obj_setting_26, F_obj_frontier_26, F_obj_frontierSpan_26, F_obj_count_26, F_obj_room_26, F_obj_starts_26, F_obj_ends_26, F_obj_spans_26, F_obj_maxima_26, A_amx_26⟩ := hq26
        dsimp only [Option.toList, List.cons_append, List.nil_append]
        replace N0 := NL26 _ N0 N26
        replace sz0 : n0 ≤ h26.size := Nat.le_trans sz0 K26.1
        clear E_obj
        clear F_obj_room
        clear F_obj_starts
        clear F_obj_ends
        clear F_obj_spans
        clear F_obj_maxima
        clear F_obj_frontier
        clear F_obj_frontierSpan
        clear F_obj_setting
        clear F_obj_count
        replace A_ast := A_ast.keep K26 (ninS (Ne.symm ne_obj_ast) (ninS ne_ast_amx nin0))
        replace A_aen := A_aen.keep K26 (ninS (Ne.symm ne_obj_aen) (ninS ne_aen_amx nin0))
        replace A_asp := A_asp.keep K26 (ninS (Ne.symm ne_obj_asp) (ninS ne_asp_amx nin0))
        clear A_amx
        have E_obj := E_obj_26; clear E_obj_26
        have F_obj_setting := F_obj_setting_26; clear F_obj_setting_26
        have F_obj_frontier := F_obj_frontier_26; clear F_obj_frontier_26
        have F_obj_frontierSpan := F_obj_frontierSpan_26; clear F_obj_frontierSpan_26
        have F_obj_count := F_obj_count_26; clear F_obj_count_26
        have F_obj_room := F_obj_room_26; clear F_obj_room_26
        have F_obj_starts := F_obj_starts_26; clear F_obj_starts_26
        have F_obj_ends := F_obj_ends_26; clear F_obj_ends_26
        have F_obj_spans := F_obj_spans_26; clear F_obj_spans_26
        have F_obj_maxima := F_obj_maxima_26; clear F_obj_maxima_26
        have A_amx := A_amx_26; clear A_amx_26
        refine Go.lloadN (pc' := 111) at_110 rfl rfl ?_
        refine Go.lconst (pc' := 112) at_111 rfl (z := (0 : Int64)) (by decide) ?_
        refine Go.lcmpT (pc' := 120) (X := s1.toInt) (Y := (0 : Int)) at_112 at_113 rfl (by decide) rfl (by decide) (hk1 : ¬ s1.toInt = (0 : Int)) ?_
        refine Go.iconst (pc' := 121) at_120 rfl (z := (0 : Int32)) (by decide) ?_
        refine Go.istore (pc' := 123) at_121 rfl (Ls' := #[.val (.long s1), .second, .val (.long s2), .second, .val (.long ff), .second, .val (.int span), .val (.int ln), .val (.int md), .val (.int (2 : Int32)), .val (.long b1), .second, .val (.long b2), .second, .val (.long second), .second, .val (.ref obj), .val (.int (0 : Int32)), .unset, .unset, .unset]) rfl ?_
        refine Go.iload (pc' := 125) at_123 rfl rfl ?_
        refine Go.ifT (pc' := 201) (X := (0 : Int)) at_125 (by decide) (by decide) (by decide : (0 : Int) = 0) ?_
        refine Go.aload (pc' := 203) at_201 rfl rfl rfl ?_
        refine Go.callV0 (pc' := 206) (W := 0) (a := obj) (argsL := []) (rest := []) (v0 := some (.long (0 : Int64))) (st2 := [(.long (0 : Int64))]) at_203 rfl (hw _ w40) (hw _ w41) (nf_sel (hw _ w43)) (hw _ w43) (hw _ w42) (hw _ w3) (hw _ w44) E_obj (by decide) (c_front hw obj ast aen asp amx s1 (0 : Int64) (0 : Int32) (0 : Int32) (0 : Int64) (b1 + (1 : Int64)) b1 ((b1 + (1 : Int64)) + b2) (0 : Int32) (1 : Int32) (0 : Int64) (0 : Int64) (0 : Int64) (0 : Int64) (0 : Int64) (0 : Int64) ne_ast_aen ne_ast_asp ne_ast_amx ne_aen_asp ne_aen_amx ne_asp_amx E_obj F_obj_setting F_obj_frontier F_obj_frontierSpan F_obj_count F_obj_room F_obj_starts F_obj_ends F_obj_spans F_obj_maxima A_ast A_aen A_asp A_amx) (by decide) (by decide) rfl rfl rfl (by decide) (by decide) rfl pd__28_29J rfl rfl (Nat.le_of_eq rfl) ?_
        refine Go.lconst (pc' := 207) at_206 rfl (z := (0 : Int64)) (by decide) ?_
        refine Go.lcmpF (pc' := 211) (X := (0 : Int)) (Y := (0 : Int)) at_207 at_208 rfl rfl (by decide) (by decide) (by decide : (0 : Int) = (0 : Int)) ?_
        refine Go.aload (pc' := 213) at_211 rfl rfl rfl ?_
        refine Go.callV0 (pc' := 216) (W := 0) (a := obj) (argsL := []) (rest := []) (v0 := some (.int (0 : Int32))) (st2 := [(.int (0 : Int32))]) at_213 rfl (hw _ w45) (hw _ w46) (nf_sel (hw _ w48)) (hw _ w48) (hw _ w47) (hw _ w3) (hw _ w49) E_obj (by decide) (c_fspan hw obj ast aen asp amx s1 (0 : Int64) (0 : Int32) (0 : Int32) (0 : Int64) (b1 + (1 : Int64)) b1 ((b1 + (1 : Int64)) + b2) (0 : Int32) (1 : Int32) (0 : Int64) (0 : Int64) (0 : Int64) (0 : Int64) (0 : Int64) (0 : Int64) ne_ast_aen ne_ast_asp ne_ast_amx ne_aen_asp ne_aen_amx ne_asp_amx E_obj F_obj_setting F_obj_frontier F_obj_frontierSpan F_obj_count F_obj_room F_obj_starts F_obj_ends F_obj_spans F_obj_maxima A_ast A_aen A_asp A_amx) (by decide) (by decide) rfl rfl rfl (by decide) (by decide) rfl pd__28_29I rfl rfl (Nat.le_of_eq rfl) ?_
        refine Go.ifF (pc' := 219) (X := (0 : Int)) at_216 rfl (by decide) (by decide : (0 : Int) = 0) ?_
        refine Go.aload (pc' := 221) at_219 rfl rfl rfl ?_
        refine Go.lconst (pc' := 222) at_221 rfl (z := (1 : Int64)) (by decide) ?_
        refine Go.callV0 (pc' := 225) (W := 0) (a := obj) (argsL := [(.long (1 : Int64))]) (rest := []) (v0 := some (.int (-1 : Int32))) (st2 := [(.int (-1 : Int32))]) at_222 rfl (hw _ w50) (hw _ w51) (nf_sel (hw _ w53)) (hw _ w53) (hw _ w52) (hw _ w3) (hw _ w54) E_obj (by decide) (c_first1 hw obj ast aen asp amx s1 (0 : Int64) (0 : Int32) (0 : Int32) (0 : Int64) (b1 + (1 : Int64)) b1 ((b1 + (1 : Int64)) + b2) (0 : Int32) (1 : Int32) (0 : Int64) (0 : Int64) (0 : Int64) (0 : Int64) (0 : Int64) (0 : Int64) ne_ast_aen ne_ast_asp ne_ast_amx ne_aen_asp ne_aen_amx ne_asp_amx E_obj F_obj_setting F_obj_frontier F_obj_frontierSpan F_obj_count F_obj_room F_obj_starts F_obj_ends F_obj_spans F_obj_maxima A_ast A_aen A_asp A_amx (by decide)) (by decide) (by decide) rfl rfl rfl (by decide) (by decide) rfl pd__28J_29I rfl rfl (Nat.le_of_eq rfl) ?_
        refine Go.iconst (pc' := 226) at_225 rfl (z := (-1 : Int32)) (by decide) ?_
        refine Go.icmpF (pc' := 229) (X := (-1 : Int)) (Y := (-1 : Int)) at_226 rfl (by decide) (by decide) (by decide : (-1 : Int) = (-1 : Int)) ?_
        refine Go.aload (pc' := 231) at_229 rfl rfl rfl ?_
        refine Go.iconst (pc' := 232) at_231 rfl (z := (0 : Int32)) (by decide) ?_
        refine Go.callV0 (pc' := 235) (W := 0) (a := obj) (argsL := [(.int (0 : Int32))]) (rest := []) (v0 := some (.long (0 : Int64))) (st2 := [(.long (0 : Int64))]) at_232 rfl (hw _ w55) (hw _ w56) (nf_sel (hw _ w58)) (hw _ w58) (hw _ w57) (hw _ w3) (hw _ w59) E_obj (by decide) (c_bound hw obj ast aen asp amx s1 (0 : Int64) (0 : Int32) (0 : Int32) (0 : Int64) (b1 + (1 : Int64)) b1 ((b1 + (1 : Int64)) + b2) (0 : Int32) (1 : Int32) (0 : Int64) (0 : Int64) (0 : Int64) (0 : Int64) (0 : Int64) (0 : Int64) ne_ast_aen ne_ast_asp ne_ast_amx ne_aen_asp ne_aen_amx ne_asp_amx E_obj F_obj_setting F_obj_frontier F_obj_frontierSpan F_obj_count F_obj_room F_obj_starts F_obj_ends F_obj_spans F_obj_maxima A_ast A_aen A_asp A_amx) (by decide) (by decide) rfl rfl rfl (by decide) (by decide) rfl pd__28I_29J rfl rfl (Nat.le_of_eq rfl) ?_
        refine Go.lconst (pc' := 236) at_235 rfl (z := (0 : Int64)) (by decide) ?_
        refine Go.lcmpF (pc' := 240) (X := (0 : Int)) (Y := (0 : Int)) at_236 at_237 rfl rfl (by decide) (by decide) (by decide : (0 : Int) = (0 : Int)) ?_
        refine Go.iconst (pc' := 241) at_240 rfl (z := (1 : Int32)) (by decide) ?_
        refine Go.goto (pc' := 245) at_241 (by decide) ?_
        refine Go.istore (pc' := 247) at_245 rfl (Ls' := #[.val (.long s1), .second, .val (.long s2), .second, .val (.long ff), .second, .val (.int span), .val (.int ln), .val (.int md), .val (.int (2 : Int32)), .val (.long b1), .second, .val (.long b2), .second, .val (.long second), .second, .val (.ref obj), .val (.int (0 : Int32)), .val (.int (1 : Int32)), .unset, .unset]) rfl ?_
        refine Go.iload (pc' := 249) at_247 rfl rfl ?_
        refine Go.iconst (pc' := 250) at_249 rfl (z := (1 : Int32)) (by decide) ?_
        refine Go.ior (pc' := 251) at_250 rfl rfl ?_
        generalize hv_span2 : (span ||| (1 : Int32)) = span2
        refine Go.istore (pc' := 253) at_251 rfl (Ls' := #[.val (.long s1), .second, .val (.long s2), .second, .val (.long ff), .second, .val (.int span), .val (.int ln), .val (.int md), .val (.int (2 : Int32)), .val (.long b1), .second, .val (.long b2), .second, .val (.long second), .second, .val (.ref obj), .val (.int (0 : Int32)), .val (.int (1 : Int32)), .val (.int span2), .unset]) rfl ?_
        refine Go.aload (pc' := 255) at_253 rfl rfl rfl ?_
        refine Go.lload (pc' := 257) at_255 rfl rfl ?_
        refine Go.iload (pc' := 259) at_257 rfl rfl ?_
        refine Go.callV (pc' := 262) (W := 0) (a := obj) (argsL := [(.long ff), (.int span2)]) (rest := []) (k' := 5) (n' := 89) at_259 rfl (hw _ w22) (hw _ w23) (nf_sel (hw _ w25)) (hw _ w25) (hw _ w24) (hw _ w3) (hw _ w26) E_obj (by decide) (c_move hw sz0 obj ast aen asp amx s1 (0 : Int64) (0 : Int32) (0 : Int32) (0 : Int64) (b1 + (1 : Int64)) b1 ((b1 + (1 : Int64)) + b2) (0 : Int32) (1 : Int32) (0 : Int64) (0 : Int64) (0 : Int64) (0 : Int64) (0 : Int64) (0 : Int64) ff span2 gn_obj gn_ast gn_aen gn_asp gn_amx ne_ast_aen ne_ast_asp ne_ast_amx ne_aen_asp ne_aen_amx ne_asp_amx E_obj F_obj_setting F_obj_frontier F_obj_frontierSpan F_obj_count F_obj_room F_obj_starts F_obj_ends F_obj_spans F_obj_maxima A_ast A_aen A_asp A_amx) (by decide) (by decide) (by decide) (by decide) rfl rfl rfl pd__28JI_29V rfl rfl (Nat.le_of_eq rfl) ?_
        intro v27 h27 P27 L27 NL27 hq27
        obtain ⟨rfl, N27, K27, E_obj_27, F_obj_setting_27, F_obj_frontier_27, F_obj_frontierSpan_27, F_obj_count_27, F_obj_room_27, F_obj_starts_27, F_obj_ends_27, F_obj_spans_27, F_obj_maxima_27⟩ := hq27
        dsimp only [Option.toList, List.cons_append, List.nil_append]
        replace N0 := NL27 _ N0 N27
        replace sz0 : n0 ≤ h27.size := Nat.le_trans sz0 K27.1
        clear E_obj
        clear F_obj_room
        clear F_obj_starts
        clear F_obj_ends
        clear F_obj_spans
        clear F_obj_maxima
        clear F_obj_frontier
        clear F_obj_frontierSpan
        clear F_obj_setting
        clear F_obj_count
        replace A_ast := A_ast.keep K27 (ninS (Ne.symm ne_obj_ast) nin0)
        replace A_aen := A_aen.keep K27 (ninS (Ne.symm ne_obj_aen) nin0)
        replace A_asp := A_asp.keep K27 (ninS (Ne.symm ne_obj_asp) nin0)
        replace A_amx := A_amx.keep K27 (ninS (Ne.symm ne_obj_amx) nin0)
        have E_obj := E_obj_27; clear E_obj_27
        have F_obj_setting := F_obj_setting_27; clear F_obj_setting_27
        have F_obj_frontier := F_obj_frontier_27; clear F_obj_frontier_27
        have F_obj_frontierSpan := F_obj_frontierSpan_27; clear F_obj_frontierSpan_27
        have F_obj_count := F_obj_count_27; clear F_obj_count_27
        have F_obj_room := F_obj_room_27; clear F_obj_room_27
        have F_obj_starts := F_obj_starts_27; clear F_obj_starts_27
        have F_obj_ends := F_obj_ends_27; clear F_obj_ends_27
        have F_obj_spans := F_obj_spans_27; clear F_obj_spans_27
        have F_obj_maxima := F_obj_maxima_27; clear F_obj_maxima_27
        by_cases hk2 : second.toInt = s1.toInt
        · have _ := hk2
          refine Go.aload (pc' := 264) at_262 rfl rfl rfl ?_
          refine Go.lload (pc' := 266) at_264 rfl rfl ?_
          refine Go.callV0 (pc' := 269) (W := 0) (a := obj) (argsL := [(.long second)]) (rest := []) (v0 := none) (st2 := []) at_266 rfl (hw _ w31) (hw _ w32) (nf_sel (hw _ w34)) (hw _ w34) (hw _ w33) (hw _ w3) (hw _ w35) E_obj (by decide) (c_keq hw obj ast aen asp amx s1 ff span2 (0 : Int32) (0 : Int64) (b1 + (1 : Int64)) b1 ((b1 + (1 : Int64)) + b2) (0 : Int32) (1 : Int32) (0 : Int64) (0 : Int64) (0 : Int64) (0 : Int64) (0 : Int64) (0 : Int64) second ne_ast_aen ne_ast_asp ne_ast_amx ne_aen_asp ne_aen_amx ne_asp_amx E_obj F_obj_setting F_obj_frontier F_obj_frontierSpan F_obj_count F_obj_room F_obj_starts F_obj_ends F_obj_spans F_obj_maxima A_ast A_aen A_asp A_amx (by omega)) (by decide) (by decide) rfl rfl rfl (by decide) (by decide) rfl pd__28J_29V rfl rfl (Nat.le_of_eq rfl) ?_
          refine Go.lload (pc' := 271) at_269 rfl rfl ?_
          refine Go.lloadN (pc' := 272) at_271 rfl rfl ?_
          refine Go.lcmpF (pc' := 276) (X := second.toInt) (Y := s1.toInt) at_272 at_273 rfl rfl rfl rfl (hk2 : second.toInt = s1.toInt) ?_
          refine Go.iconst (pc' := 277) at_276 rfl (z := (1 : Int32)) (by decide) ?_
          refine Go.goto (pc' := 281) at_277 (by decide) ?_
          refine Go.istore (pc' := 283) at_281 rfl (Ls' := #[.val (.long s1), .second, .val (.long s2), .second, .val (.long ff), .second, .val (.int span), .val (.int ln), .val (.int md), .val (.int (2 : Int32)), .val (.long b1), .second, .val (.long b2), .second, .val (.long second), .second, .val (.ref obj), .val (.int (0 : Int32)), .val (.int (1 : Int32)), .val (.int span2), .val (.int (1 : Int32))]) rfl ?_
          refine Go.iload (pc' := 285) at_283 rfl rfl ?_
          refine Go.ifF (pc' := 288) (X := (1 : Int)) at_285 rfl (by decide) (by decide : ¬ (1 : Int) = 0) ?_
          refine Go.aload (pc' := 290) at_288 rfl rfl rfl ?_
          refine Go.callV0 (pc' := 293) (W := 0) (a := obj) (argsL := []) (rest := []) (v0 := some (.int span2)) (st2 := [(.int span2)]) at_290 rfl (hw _ w45) (hw _ w46) (nf_sel (hw _ w48)) (hw _ w48) (hw _ w47) (hw _ w3) (hw _ w49) E_obj (by decide) (c_fspan hw obj ast aen asp amx s1 ff span2 (0 : Int32) (0 : Int64) (b1 + (1 : Int64)) b1 ((b1 + (1 : Int64)) + b2) (0 : Int32) (1 : Int32) (0 : Int64) (0 : Int64) (0 : Int64) (0 : Int64) (0 : Int64) (0 : Int64) ne_ast_aen ne_ast_asp ne_ast_amx ne_aen_asp ne_aen_amx ne_asp_amx E_obj F_obj_setting F_obj_frontier F_obj_frontierSpan F_obj_count F_obj_room F_obj_starts F_obj_ends F_obj_spans F_obj_maxima A_ast A_aen A_asp A_amx) (by decide) (by decide) rfl rfl rfl (by decide) (by decide) rfl pd__28_29I rfl rfl (Nat.le_of_eq rfl) ?_
          refine Go.iload (pc' := 295) at_293 rfl rfl ?_
          refine Go.ifF (pc' := 298) (X := (1 : Int)) at_295 rfl (by decide) (by decide : ¬ (1 : Int) = 0) ?_
          refine Go.iload (pc' := 300) at_298 rfl rfl ?_
          refine Go.goto (pc' := 304) at_300 (by decide) ?_
          refine Go.icmpF (pc' := 307) (X := span2.toInt) (Y := span2.toInt) at_304 rfl rfl rfl (rfl : span2.toInt = span2.toInt) ?_
          refine Go.iconst (pc' := 308) at_307 rfl (z := (1 : Int32)) (by decide) ?_
          refine Go.goto (pc' := 312) at_308 (by decide) ?_
          refine Go.istore (pc' := 314) at_312 rfl (Ls' := #[.val (.long s1), .second, .val (.long s2), .second, .val (.long ff), .second, .val (.int span), .val (.int ln), .val (.int md), .val (.int (2 : Int32)), .val (.long b1), .second, .val (.long b2), .second, .val (.long second), .second, .val (.ref obj), .val (.int (0 : Int32)), .val (.int (1 : Int32)), .val (.int span2), .val (.int (1 : Int32))]) rfl ?_
          refine Go.iload (pc' := 316) at_314 rfl rfl ?_
          refine Go.ifF (pc' := 319) (X := (1 : Int)) at_316 rfl (by decide) (by decide : ¬ (1 : Int) = 0) ?_
          refine Go.aload (pc' := 321) at_319 rfl rfl rfl ?_
          refine Go.lconst (pc' := 322) at_321 rfl (z := (1 : Int64)) (by decide) ?_
          refine Go.callV0 (pc' := 325) (W := 0) (a := obj) (argsL := [(.long (1 : Int64))]) (rest := []) (v0 := some (.int (-1 : Int32))) (st2 := [(.int (-1 : Int32))]) at_322 rfl (hw _ w50) (hw _ w51) (nf_sel (hw _ w53)) (hw _ w53) (hw _ w52) (hw _ w3) (hw _ w54) E_obj (by decide) (c_first1 hw obj ast aen asp amx s1 ff span2 (0 : Int32) (0 : Int64) (b1 + (1 : Int64)) b1 ((b1 + (1 : Int64)) + b2) (0 : Int32) (1 : Int32) (0 : Int64) (0 : Int64) (0 : Int64) (0 : Int64) (0 : Int64) (0 : Int64) ne_ast_aen ne_ast_asp ne_ast_amx ne_aen_asp ne_aen_amx ne_asp_amx E_obj F_obj_setting F_obj_frontier F_obj_frontierSpan F_obj_count F_obj_room F_obj_starts F_obj_ends F_obj_spans F_obj_maxima A_ast A_aen A_asp A_amx (by decide)) (by decide) (by decide) rfl rfl rfl (by decide) (by decide) rfl pd__28J_29I rfl rfl (Nat.le_of_eq rfl) ?_
          refine Go.iload (pc' := 327) at_325 rfl rfl ?_
          refine Go.ifF (pc' := 330) (X := (1 : Int)) at_327 rfl (by decide) (by decide : ¬ (1 : Int) = 0) ?_
          refine Go.iload (pc' := 332) at_330 rfl rfl ?_
          refine Go.ifT (pc' := 345) (X := (0 : Int)) at_332 (by decide) (by decide) (by decide : (0 : Int) = 0) ?_
          refine Go.iconst (pc' := 346) at_345 rfl (z := (-1 : Int32)) (by decide) ?_
          refine Go.icmpF (pc' := 349) (X := (-1 : Int)) (Y := (-1 : Int)) at_346 rfl (by decide) (by decide) (by decide : (-1 : Int) = (-1 : Int)) ?_
          refine Go.iconst (pc' := 350) at_349 rfl (z := (1 : Int32)) (by decide) ?_
          refine Go.goto (pc' := 354) at_350 (by decide) ?_
          refine Go.istore (pc' := 356) at_354 rfl (Ls' := #[.val (.long s1), .second, .val (.long s2), .second, .val (.long ff), .second, .val (.int span), .val (.int ln), .val (.int md), .val (.int (2 : Int32)), .val (.long b1), .second, .val (.long b2), .second, .val (.long second), .second, .val (.ref obj), .val (.int (0 : Int32)), .val (.int (1 : Int32)), .val (.int span2), .val (.int (1 : Int32))]) rfl ?_
          refine Go.iload (pc' := 358) at_356 rfl rfl ?_
          refine Go.retZ at_358 rfl (by decide) (by decide) (by decide) ?_
          exact ⟨rfl, N0⟩
        · have _ := hk2
          refine Go.aload (pc' := 264) at_262 rfl rfl rfl ?_
          refine Go.lload (pc' := 266) at_264 rfl rfl ?_
          refine Go.callV (pc' := 269) (W := 0) (a := obj) (argsL := [(.long second)]) (rest := []) (k' := 5) (n' := 89) at_266 rfl (hw _ w31) (hw _ w32) (nf_sel (hw _ w34)) (hw _ w34) (hw _ w33) (hw _ w3) (hw _ w35) E_obj (by decide) (c_kne0 hw sz0 obj ast aen asp amx s1 ff span2 (0 : Int64) (b1 + (1 : Int64)) b1 ((b1 + (1 : Int64)) + b2) (0 : Int32) (1 : Int32)  second (by omega)  gn_obj gn_ast gn_aen gn_asp gn_amx ne_ast_aen ne_ast_asp ne_ast_amx ne_aen_asp ne_aen_amx ne_asp_amx E_obj F_obj_setting F_obj_frontier F_obj_frontierSpan F_obj_count F_obj_room F_obj_starts F_obj_ends F_obj_spans F_obj_maxima A_ast A_aen A_asp A_amx ) (by decide) (by decide) (by decide) (by decide) rfl rfl rfl pd__28J_29V rfl rfl (Nat.le_of_eq rfl) ?_
          intro v28 h28 P28 L28 NL28 hq28
          obtain ⟨rfl, N28, K28, E_obj_28, F_obj_setting_28, F_obj_frontier_28, F_obj_frontierSpan_28, F_obj_count_28, F_obj_room_28, F_obj_starts_28, F_obj_ends_28, F_obj_spans_28, F_obj_maxima_28, A_amx_28⟩ := hq28
          dsimp only [Option.toList, List.cons_append, List.nil_append]
          replace N0 := NL28 _ N0 N28
          replace sz0 : n0 ≤ h28.size := Nat.le_trans sz0 K28.1
          clear E_obj
          clear F_obj_room
          clear F_obj_starts
          clear F_obj_ends
          clear F_obj_spans
          clear F_obj_maxima
          clear F_obj_frontier
          clear F_obj_frontierSpan
          clear F_obj_setting
          clear F_obj_count
          replace A_ast := A_ast.keep K28 (ninS (Ne.symm ne_obj_ast) (ninS ne_ast_amx nin0))
          replace A_aen := A_aen.keep K28 (ninS (Ne.symm ne_obj_aen) (ninS ne_aen_amx nin0))
          replace A_asp := A_asp.keep K28 (ninS (Ne.symm ne_obj_asp) (ninS ne_asp_amx nin0))
          clear A_amx
          have E_obj := E_obj_28; clear E_obj_28
          have F_obj_setting := F_obj_setting_28; clear F_obj_setting_28
          have F_obj_frontier := F_obj_frontier_28; clear F_obj_frontier_28
          have F_obj_frontierSpan := F_obj_frontierSpan_28; clear F_obj_frontierSpan_28
          have F_obj_count := F_obj_count_28; clear F_obj_count_28
          have F_obj_room := F_obj_room_28; clear F_obj_room_28
          have F_obj_starts := F_obj_starts_28; clear F_obj_starts_28
          have F_obj_ends := F_obj_ends_28; clear F_obj_ends_28
          have F_obj_spans := F_obj_spans_28; clear F_obj_spans_28
          have F_obj_maxima := F_obj_maxima_28; clear F_obj_maxima_28
          have A_amx := A_amx_28; clear A_amx_28
          refine Go.lload (pc' := 271) at_269 rfl rfl ?_
          refine Go.lloadN (pc' := 272) at_271 rfl rfl ?_
          refine Go.lcmpT (pc' := 280) (X := second.toInt) (Y := s1.toInt) at_272 at_273 rfl (by decide) rfl rfl (hk2 : ¬ second.toInt = s1.toInt) ?_
          refine Go.iconst (pc' := 281) at_280 rfl (z := (0 : Int32)) (by decide) ?_
          refine Go.istore (pc' := 283) at_281 rfl (Ls' := #[.val (.long s1), .second, .val (.long s2), .second, .val (.long ff), .second, .val (.int span), .val (.int ln), .val (.int md), .val (.int (2 : Int32)), .val (.long b1), .second, .val (.long b2), .second, .val (.long second), .second, .val (.ref obj), .val (.int (0 : Int32)), .val (.int (1 : Int32)), .val (.int span2), .val (.int (0 : Int32))]) rfl ?_
          refine Go.iload (pc' := 285) at_283 rfl rfl ?_
          refine Go.ifF (pc' := 288) (X := (1 : Int)) at_285 rfl (by decide) (by decide : ¬ (1 : Int) = 0) ?_
          refine Go.aload (pc' := 290) at_288 rfl rfl rfl ?_
          refine Go.callV0 (pc' := 293) (W := 0) (a := obj) (argsL := []) (rest := []) (v0 := some (.int (0 : Int32))) (st2 := [(.int (0 : Int32))]) at_290 rfl (hw _ w45) (hw _ w46) (nf_sel (hw _ w48)) (hw _ w48) (hw _ w47) (hw _ w3) (hw _ w49) E_obj (by decide) (c_fspan hw obj ast aen asp amx second (0 : Int64) (0 : Int32) (0 : Int32) (0 : Int64) (b1 + (1 : Int64)) b1 ((b1 + (1 : Int64)) + b2) (0 : Int32) (1 : Int32) (0 : Int64) (0 : Int64) (0 : Int64) (0 : Int64) (0 : Int64) (0 : Int64) ne_ast_aen ne_ast_asp ne_ast_amx ne_aen_asp ne_aen_amx ne_asp_amx E_obj F_obj_setting F_obj_frontier F_obj_frontierSpan F_obj_count F_obj_room F_obj_starts F_obj_ends F_obj_spans F_obj_maxima A_ast A_aen A_asp A_amx) (by decide) (by decide) rfl rfl rfl (by decide) (by decide) rfl pd__28_29I rfl rfl (Nat.le_of_eq rfl) ?_
          refine Go.iload (pc' := 295) at_293 rfl rfl ?_
          refine Go.ifT (pc' := 303) (X := (0 : Int)) at_295 (by decide) (by decide) (by decide : (0 : Int) = 0) ?_
          refine Go.iconst (pc' := 304) at_303 rfl (z := (0 : Int32)) (by decide) ?_
          refine Go.icmpF (pc' := 307) (X := (0 : Int)) (Y := (0 : Int)) at_304 rfl (by decide) (by decide) (by decide : (0 : Int) = (0 : Int)) ?_
          refine Go.iconst (pc' := 308) at_307 rfl (z := (1 : Int32)) (by decide) ?_
          refine Go.goto (pc' := 312) at_308 (by decide) ?_
          refine Go.istore (pc' := 314) at_312 rfl (Ls' := #[.val (.long s1), .second, .val (.long s2), .second, .val (.long ff), .second, .val (.int span), .val (.int ln), .val (.int md), .val (.int (2 : Int32)), .val (.long b1), .second, .val (.long b2), .second, .val (.long second), .second, .val (.ref obj), .val (.int (0 : Int32)), .val (.int (1 : Int32)), .val (.int span2), .val (.int (0 : Int32))]) rfl ?_
          refine Go.iload (pc' := 316) at_314 rfl rfl ?_
          refine Go.ifF (pc' := 319) (X := (1 : Int)) at_316 rfl (by decide) (by decide : ¬ (1 : Int) = 0) ?_
          refine Go.aload (pc' := 321) at_319 rfl rfl rfl ?_
          refine Go.lconst (pc' := 322) at_321 rfl (z := (1 : Int64)) (by decide) ?_
          refine Go.callV0 (pc' := 325) (W := 0) (a := obj) (argsL := [(.long (1 : Int64))]) (rest := []) (v0 := some (.int (-1 : Int32))) (st2 := [(.int (-1 : Int32))]) at_322 rfl (hw _ w50) (hw _ w51) (nf_sel (hw _ w53)) (hw _ w53) (hw _ w52) (hw _ w3) (hw _ w54) E_obj (by decide) (c_first1 hw obj ast aen asp amx second (0 : Int64) (0 : Int32) (0 : Int32) (0 : Int64) (b1 + (1 : Int64)) b1 ((b1 + (1 : Int64)) + b2) (0 : Int32) (1 : Int32) (0 : Int64) (0 : Int64) (0 : Int64) (0 : Int64) (0 : Int64) (0 : Int64) ne_ast_aen ne_ast_asp ne_ast_amx ne_aen_asp ne_aen_amx ne_asp_amx E_obj F_obj_setting F_obj_frontier F_obj_frontierSpan F_obj_count F_obj_room F_obj_starts F_obj_ends F_obj_spans F_obj_maxima A_ast A_aen A_asp A_amx (by decide)) (by decide) (by decide) rfl rfl rfl (by decide) (by decide) rfl pd__28J_29I rfl rfl (Nat.le_of_eq rfl) ?_
          refine Go.iload (pc' := 327) at_325 rfl rfl ?_
          refine Go.ifT (pc' := 345) (X := (0 : Int)) at_327 (by decide) (by decide) (by decide : (0 : Int) = 0) ?_
          refine Go.iconst (pc' := 346) at_345 rfl (z := (-1 : Int32)) (by decide) ?_
          refine Go.icmpF (pc' := 349) (X := (-1 : Int)) (Y := (-1 : Int)) at_346 rfl (by decide) (by decide) (by decide : (-1 : Int) = (-1 : Int)) ?_
          refine Go.iconst (pc' := 350) at_349 rfl (z := (1 : Int32)) (by decide) ?_
          refine Go.goto (pc' := 354) at_350 (by decide) ?_
          refine Go.istore (pc' := 356) at_354 rfl (Ls' := #[.val (.long s1), .second, .val (.long s2), .second, .val (.long ff), .second, .val (.int span), .val (.int ln), .val (.int md), .val (.int (2 : Int32)), .val (.long b1), .second, .val (.long b2), .second, .val (.long second), .second, .val (.ref obj), .val (.int (0 : Int32)), .val (.int (1 : Int32)), .val (.int span2), .val (.int (0 : Int32))]) rfl ?_
          refine Go.iload (pc' := 358) at_356 rfl rfl ?_
          refine Go.retZ at_358 rfl (by decide) (by decide) (by decide) ?_
          exact ⟨rfl, N0⟩
  refine Go.iload (pc' := 34) at_32 rfl rfl ?_
  refine Go.iconst (pc' := 35) at_34 rfl (z := (2 : Int32)) (by decide) ?_
  refine Go.iushr (pc' := 36) at_35 rfl rfl ?_
  refine Go.iconst (pc' := 37) at_36 rfl (z := (1 : Int32)) (by decide) ?_
  refine Go.iand (pc' := 38) at_37 rfl rfl ?_
  by_cases hc29 : (((md.toUInt32 >>> ((2 : Int32) &&& 31).toUInt32).toInt32) &&& (1 : Int32)).toInt = (0 : Int)
  · refine Go.ifT (pc' := 45) (X := (((md.toUInt32 >>> ((2 : Int32) &&& 31).toUInt32).toInt32) &&& (1 : Int32)).toInt) at_38 (by decide) rfl (hc29 : (((md.toUInt32 >>> ((2 : Int32) &&& 31).toUInt32).toInt32) &&& (1 : Int32)).toInt = 0) ?_
    refine Go.lloadN (pc' := 46) at_45 rfl rfl ?_
    refine Go.lstore (pc' := 48) at_46 rfl (Ls' := #[.val (.long s1), .second, .val (.long s2), .second, .val (.long ff), .second, .val (.int span), .val (.int ln), .val (.int md), .val (.int kk), .val (.long b1), .second, .val (.long b2), .second, .val (.long s2), .second, .unset, .unset, .unset, .unset, .unset]) rfl ?_
    exact J48 _
  · refine Go.ifF (pc' := 41) (X := (((md.toUInt32 >>> ((2 : Int32) &&& 31).toUInt32).toInt32) &&& (1 : Int32)).toInt) at_38 rfl rfl (hc29 : ¬ (((md.toUInt32 >>> ((2 : Int32) &&& 31).toUInt32).toInt32) &&& (1 : Int32)).toInt = 0) ?_
    refine Go.lloadN (pc' := 42) at_41 rfl rfl ?_
    refine Go.goto (pc' := 46) at_42 (by decide) ?_
    refine Go.lstore (pc' := 48) at_46 rfl (Ls' := #[.val (.long s1), .second, .val (.long s2), .second, .val (.long ff), .second, .val (.int span), .val (.int ln), .val (.int md), .val (.int kk), .val (.long b1), .second, .val (.long b2), .second, .val (.long s1), .second, .unset, .unset, .unset, .unset, .unset]) rfl ?_
    exact J48 _
set_option maxRecDepth 65536 in
set_option maxHeartbeats 40000000 in
theorem comes_1 {Post : Tables → Env → Array Value → State → Outcome → State → Prop} (hpost : ∀ tb e args s v u, (limb_1_1.after args s (.returned v) u = true ∧ limb_1_2.after args s (.returned v) u = true ∧ True) → FrameEnd s (.returned v) u (Jvm.fieldLocs frame_1_writes args s ++ Jvm.arrayLocs frame_1_arrays args s ++ Jvm.staticLocs frame_1_statics s) 24 256 → Post tb e args s (.returned v) u) :
    ArmFor flags0 classFile x code maxLocals ret World_1 tables_1 room_1 Calls_1 rest_1 Pre_1 Post := by
  intro l hfl _ _ p e ha hc hk s m args below hf hA hF happ hP
  obtain ⟨hcalls, hrest, hpre⟩ := hP
  obtain ⟨-, -, -, hnamed, -, -, -, hat⟩ := (Spec.applies_iff hf).mp happ
  obtain ⟨hg, hn⟩ := and_e (Cond.before_iff.mp (show (Jvm.Cond.and given_1 narrow_1).before args s = true from hpre))
  obtain ⟨h1, h2⟩ := and_e hg
  obtain ⟨w0, w1, w2, w3, w4, w5, rfl⟩ : ∃ w0 w1 w2 w3 w4 w5 : Value, args = #[w0, w1, w2, w3, w4, w5] := by
    have hs : args.size = 6 := by simpa [Cond.value, given_1] using h1
    obtain ⟨L⟩ := args
    match L, hs with
    | [w0, w1, w2, w3, w4, w5], _ => exact ⟨w0, w1, w2, w3, w4, w5, rfl⟩
  have hw := fun d (hd : d ∈ tables_1) => atoms_spec (ws := Jvm.Cond.code x code maxLocals ret :: tables_1) hat d (List.mem_cons_of_mem _ hd)
  obtain ⟨q0, h2⟩ := and_e h2
  obtain ⟨i0, e0⟩ := isL_v q0
  obtain rfl : w0 = (.long i0) := Option.some.inj e0
  obtain ⟨q1, h2⟩ := and_e h2
  obtain ⟨i1, e1⟩ := isL_v q1
  obtain rfl : w1 = (.long i1) := Option.some.inj e1
  obtain ⟨q2, h2⟩ := and_e h2
  obtain ⟨i2, e2⟩ := isL_v q2
  obtain rfl : w2 = (.long i2) := Option.some.inj e2
  obtain ⟨q3, h2⟩ := and_e h2
  obtain ⟨i3, e3⟩ := is_v q3
  obtain rfl : w3 = (.int i3) := Option.some.inj e3
  obtain ⟨q4, h2⟩ := and_e h2
  obtain ⟨i4, e4⟩ := is_v q4
  obtain rfl : w4 = (.int i4) := Option.some.inj e4
  have q5 := h2
  obtain ⟨i5, e5⟩ := is_v q5
  obtain rfl : w5 = (.int i5) := Option.some.inj e5
  obtain ⟨n, o, h1, h2, h3, _, L, rfl, ⟨rfl, N⟩, hq⟩ := law_con (l := l) hw (h0 := s.heap) (n0 := s.heap.size) (Nat.le_refl _) i0 i1 i2 i3 i4 i5 p e ha hc hk s m _ below hf ((Spec.applies_iff_loose hf).mp happ).1 ⟨rfl, State.Warmed39.refl s, rfl⟩ trivial
  refine ⟨n, _, h1, h2, h3, hpost _ _ _ _ _ _ ⟨Cond.after_iff.mpr rfl, Cond.after_iff.mpr (eq_i res_at (Term.int_eval (1)) rfl), trivial⟩ ⟨hq.1, hq.2.1, (hq.2.2.sift fun y hy => Or.inr (N y hy)).mono (by decide) (by decide)⟩⟩
theorem main_1_1 : Claimed_1_1 := comes_1 fun _ _ _ _ _ _ h hF => ⟨h.1, hF⟩
theorem main_1_2 : Claimed_1_2 := comes_1 fun _ _ _ _ _ _ h hF => ⟨h.2.1, hF⟩
end Jvm.Pilot.@@N@@
namespace Jvm.Pilot.@@N@@
open Jvm Jvm.ClassFile Sem Op Lib Jvm.Free Jvm.Stand Jvm.Pilot.@@N@@.Jvm.D
/-! MADE BY PROGRAM (witnessworld.py) out of the Statement's table words and the real class files: 11 classes; the members and pool entries that the words name. The judged class is class 1, her method 1. -/
namespace start1
open Jvm.ClassFile
def u (s : String) : CpInfo := .utf8 (stringToUtf16 s)
/-- a pool by its gaps: so many unusable entries, then the entry; so many at the end -/
def gap : Nat → List CpInfo → List CpInfo
  | 0, r => r
  | n + 1, r => .unusable :: gap n r
def poolList (es : List (Nat × CpInfo)) (last : Nat) : List CpInfo := es.foldr (fun e r => gap e.1 (e.2 :: r)) (gap last [])
def pool (es : List (Nat × CpInfo)) (last : Nat) : Array CpInfo := ⟨poolList es last⟩
def fileOf (pool : Array CpInfo) (this : Nat) (attrs : Array Attribute := #[]) (ms : Array MethodInfo := #[]) (fl : Nat := 33) (sup : Nat := 0) (ifs : Array Nat := #[]) (fds : Array FieldInfo := #[]) : ClassFile where
  minorVersion := 0
  majorVersion := 65
  constantPool := pool
  accessFlags := fl
  thisClass := this
  superClass := sup
  interfaces := ifs
  fields := fds
  methods := ms
  attributes := attrs
def plain (name : String) (sup : Option ClassId) : Class where
  name := name
  kind := .ordinary
  loader := none
  accessFlags := 33
  super := sup
  interfaces := #[]
  cf := none
  fields := #[]
  methods := #[]
  instanceTypes := #[]
  staticTypes := #[]
  resolved := #[]
  callSites := []
  init := .initialized
  statics := none
  mirror := none

def pool0 : Array CpInfo := pool [(5, u "<init>"), (0, u "()V"), (1, .class_ 10), (1, u "java/lang/Object")] 113

def k0c0 : Code := { maxStack := 0, maxLocals := 1, code := object_method_1_code, exceptionTable := #[], attributes := #[] }
def k0m0 : Method := { name := "<init>", desc := "()V", sig := { parameters := [], returnType := none }, accessFlags := 1, code := some k0c0 }
/-- java/lang/Object -/
def k0 : Class := { plain "java/lang/Object" none with
  accessFlags := 33
  interfaces := #[]
  cf := some (fileOf pool0 8 #[] #[{ accessFlags := 1, nameIndex := 5, descriptorIndex := 6, attributes := #[] }] 33 0 #[] #[])
  fields := #[]
  methods := #[k0m0]
  instanceTypes := #[]
  staticTypes := #[]
  resolved := Array.replicate 124 none
  statics := none }

def pool1 : Array CpInfo := pool [(2, .class_ 4), (0, .nameAndType 5 6), (0, u "java/lang/Object"), (0, u "<init>"), (0, u "()V"), (0, .integer 65535), (0, .class_ 9), (0, u "com/example/rehearsal/rehearsal/policies/KnownRuns"), (0, .methodref 8 3), (0, .methodref 8 12), (0, .nameAndType 13 14), (0, u "add"), (0, u "(JJI)V"), (0, .methodref 8 16), (0, .nameAndType 17 18), (0, u "moveFrontier"), (0, u "(JI)V"), (0, .methodref 8 20), (0, .nameAndType 21 22), (0, u "keepTo"), (0, u "(J)V"), (0, .methodref 8 24), (0, .nameAndType 25 26), (0, u "frontier"), (0, u "()J"), (0, .methodref 8 28), (0, .nameAndType 29 30), (0, u "frontierSpan"), (0, u "()I"), (0, .methodref 8 32), (0, .nameAndType 33 34), (0, u "first"), (0, u "(J)I"), (0, .methodref 8 36), (0, .nameAndType 37 38), (0, u "bound"), (0, u "(I)J"), (0, .class_ 40), (0, u "com/example/rehearsal/rehearsal/policies/KnownRunsKeepToPinLaw"), (2, u "law"), (0, u "(JJJIII)Z")] 3

def k1m0 : Method := { name := "<init>", desc := "()V", sig := { parameters := [], returnType := none }, accessFlags := 1, code := none }
def k1c1 : Code := { maxStack := 7, maxLocals := 21, code := code, exceptionTable := #[], attributes := #[] }
def k1m1 : Method := { name := "law", desc := "(JJJIII)Z", sig := { parameters := [.long, .long, .long, .int, .int, .int], returnType := some .boolean }, accessFlags := 9, code := some k1c1 }
/-- com/example/rehearsal/rehearsal/policies/KnownRunsKeepToPinLaw -/
def k1 : Class := { plain "com/example/rehearsal/rehearsal/policies/KnownRunsKeepToPinLaw" (some 0) with
  accessFlags := 49
  interfaces := #[]
  cf := some (fileOf pool1 39 #[] #[{ accessFlags := 1, nameIndex := 5, descriptorIndex := 6, attributes := #[] }, { accessFlags := 9, nameIndex := 43, descriptorIndex := 44, attributes := #[] }] 49 2 #[] #[])
  fields := #[]
  methods := #[k1m0, k1m1]
  instanceTypes := #[]
  staticTypes := #[]
  resolved := Array.replicate 48 none
  statics := none }

def pool2 : Array CpInfo := pool [(1, .methodref 2 3), (0, .class_ 4), (0, .nameAndType 5 6), (0, u "java/lang/Object"), (0, u "<init>"), (0, u "()V"), (0, .class_ 8), (0, u "com/example/rehearsal/rehearsal/policies/KnownRuns"), (0, .fieldref 7 10), (0, .nameAndType 11 12), (0, u "room"), (0, u "I"), (0, .fieldref 7 14), (0, .nameAndType 15 16), (0, u "starts"), (0, u "[J"), (0, .fieldref 7 18), (0, .nameAndType 19 16), (0, u "ends"), (0, .fieldref 7 21), (0, .nameAndType 22 23), (0, u "spans"), (0, u "[I"), (0, .fieldref 7 25), (0, .nameAndType 26 16), (0, u "maxima"), (0, .fieldref 7 28), (0, .nameAndType 29 30), (0, u "setting"), (0, u "J"), (0, .fieldref 7 32), (0, .nameAndType 33 12), (0, u "count"), (0, .fieldref 7 35), (0, .nameAndType 36 30), (0, u "frontier"), (0, .fieldref 7 38), (0, .nameAndType 39 12), (0, u "frontierSpan"), (0, .methodref 7 41), (0, .nameAndType 42 43), (0, u "firstUnder"), (0, u "(IJ)I"), (32, u "INITIAL_ROOM"), (4, u "keepTo"), (0, u "(J)V"), (1, u "()J"), (0, u "()I"), (0, u "moveFrontier"), (0, u "(JI)V"), (0, u "first"), (0, u "(J)I"), (2, u "(I)J"), (1, u "bound"), (2, u "add"), (0, u "(JJI)V")] 5

def k2c0 : Code := { maxStack := 2, maxLocals := 1, code := prog_102_method_1_code, exceptionTable := #[], attributes := #[] }
def k2m0 : Method := { name := "<init>", desc := "()V", sig := { parameters := [], returnType := none }, accessFlags := 0, code := some k2c0 }
def k2c1 : Code := { maxStack := 4, maxLocals := 5, code := prog_102_method_2_code, exceptionTable := #[], attributes := #[] }
def k2m1 : Method := { name := "keepTo", desc := "(J)V", sig := { parameters := [.long], returnType := none }, accessFlags := 0, code := some k2c1 }
def k2c2 : Code := { maxStack := 2, maxLocals := 1, code := prog_102_method_3_code, exceptionTable := #[], attributes := #[] }
def k2m2 : Method := { name := "frontier", desc := "()J", sig := { parameters := [], returnType := some .long }, accessFlags := 0, code := some k2c2 }
def k2c3 : Code := { maxStack := 1, maxLocals := 1, code := prog_102_method_4_code, exceptionTable := #[], attributes := #[] }
def k2m3 : Method := { name := "frontierSpan", desc := "()I", sig := { parameters := [], returnType := some .int }, accessFlags := 0, code := some k2c3 }
def k2c4 : Code := { maxStack := 3, maxLocals := 4, code := prog_102_method_5_code, exceptionTable := #[], attributes := #[] }
def k2m4 : Method := { name := "moveFrontier", desc := "(JI)V", sig := { parameters := [.long, .int], returnType := none }, accessFlags := 0, code := some k2c4 }
def k2c5 : Code := { maxStack := 4, maxLocals := 3, code := prog_102_method_6_code, exceptionTable := #[], attributes := #[] }
def k2m5 : Method := { name := "first", desc := "(J)I", sig := { parameters := [.long], returnType := some .int }, accessFlags := 0, code := some k2c5 }
def k2c6 : Code := { maxStack := 5, maxLocals := 5, code := prog_102_method_8_code, exceptionTable := #[], attributes := #[] }
def k2m6 : Method := { name := "firstUnder", desc := "(IJ)I", sig := { parameters := [.int, .long], returnType := some .int }, accessFlags := 2, code := some k2c6 }
def k2c7 : Code := { maxStack := 3, maxLocals := 2, code := prog_102_method_11_code, exceptionTable := #[], attributes := #[] }
def k2m7 : Method := { name := "bound", desc := "(I)J", sig := { parameters := [.int], returnType := some .long }, accessFlags := 0, code := some k2c7 }
def k2c8 : Code := { maxStack := 4, maxLocals := 9, code := prog_102_method_13_code, exceptionTable := #[], attributes := #[] }
def k2m8 : Method := { name := "add", desc := "(JJI)V", sig := { parameters := [.long, .long, .int], returnType := none }, accessFlags := 0, code := some k2c8 }
/-- com/example/rehearsal/rehearsal/policies/KnownRuns -/
def k2 : Class := { plain "com/example/rehearsal/rehearsal/policies/KnownRuns" (some 0) with
  accessFlags := 48
  interfaces := #[]
  cf := some (fileOf pool2 7 #[] #[{ accessFlags := 0, nameIndex := 5, descriptorIndex := 6, attributes := #[] }, { accessFlags := 0, nameIndex := 81, descriptorIndex := 82, attributes := #[] }, { accessFlags := 0, nameIndex := 36, descriptorIndex := 84, attributes := #[] }, { accessFlags := 0, nameIndex := 39, descriptorIndex := 85, attributes := #[] }, { accessFlags := 0, nameIndex := 86, descriptorIndex := 87, attributes := #[] }, { accessFlags := 0, nameIndex := 88, descriptorIndex := 89, attributes := #[] }, { accessFlags := 2, nameIndex := 42, descriptorIndex := 43, attributes := #[] }, { accessFlags := 0, nameIndex := 94, descriptorIndex := 92, attributes := #[] }, { accessFlags := 0, nameIndex := 97, descriptorIndex := 98, attributes := #[] }] 48 2 #[] #[{ accessFlags := 26, nameIndex := 76, descriptorIndex := 12, attributes := #[] }, { accessFlags := 2, nameIndex := 29, descriptorIndex := 30, attributes := #[] }, { accessFlags := 2, nameIndex := 36, descriptorIndex := 30, attributes := #[] }, { accessFlags := 2, nameIndex := 39, descriptorIndex := 12, attributes := #[] }, { accessFlags := 2, nameIndex := 33, descriptorIndex := 12, attributes := #[] }, { accessFlags := 2, nameIndex := 11, descriptorIndex := 12, attributes := #[] }, { accessFlags := 2, nameIndex := 15, descriptorIndex := 16, attributes := #[] }, { accessFlags := 2, nameIndex := 19, descriptorIndex := 16, attributes := #[] }, { accessFlags := 2, nameIndex := 22, descriptorIndex := 23, attributes := #[] }, { accessFlags := 2, nameIndex := 26, descriptorIndex := 16, attributes := #[] }])
  fields := #[{ name := "INITIAL_ROOM", type := .int, accessFlags := 26, slot := 0, constantValue := 0 }, { name := "setting", type := .long, accessFlags := 2, slot := 0, constantValue := 0 }, { name := "frontier", type := .long, accessFlags := 2, slot := 1, constantValue := 0 }, { name := "frontierSpan", type := .int, accessFlags := 2, slot := 2, constantValue := 0 }, { name := "count", type := .int, accessFlags := 2, slot := 3, constantValue := 0 }, { name := "room", type := .int, accessFlags := 2, slot := 4, constantValue := 0 }, { name := "starts", type := (.array .long), accessFlags := 2, slot := 5, constantValue := 0 }, { name := "ends", type := (.array .long), accessFlags := 2, slot := 6, constantValue := 0 }, { name := "spans", type := (.array .int), accessFlags := 2, slot := 7, constantValue := 0 }, { name := "maxima", type := (.array .long), accessFlags := 2, slot := 8, constantValue := 0 }]
  methods := #[k2m0, k2m1, k2m2, k2m3, k2m4, k2m5, k2m6, k2m7, k2m8]
  instanceTypes := #[.long, .long, .int, .int, .int, (.array .long), (.array .long), (.array .int), (.array .long)]
  staticTypes := #[.int]
  resolved := Array.replicate 104 none
  statics := none }

def pool3 : Array CpInfo := pool [(1, u "java/lang/Cloneable"), (0, .class_ 1), (0, u "java/lang/Object"), (0, .class_ 3)] 3

/-- java/lang/Cloneable -/
def k3 : Class := { plain "java/lang/Cloneable" (some 0) with
  accessFlags := 1537
  interfaces := #[]
  cf := some (fileOf pool3 2 #[] #[] 1537 4 #[] #[])
  fields := #[]
  methods := #[]
  instanceTypes := #[]
  staticTypes := #[]
  resolved := Array.replicate 8 none
  statics := none }

def pool4 : Array CpInfo := pool [(1, u "java/io/Serializable"), (0, .class_ 1), (0, u "java/lang/Object"), (0, .class_ 3)] 3

/-- java/io/Serializable -/
def k4 : Class := { plain "java/io/Serializable" (some 0) with
  accessFlags := 1537
  interfaces := #[]
  cf := some (fileOf pool4 2 #[] #[] 1537 4 #[] #[])
  fields := #[]
  methods := #[]
  instanceTypes := #[]
  staticTypes := #[]
  resolved := Array.replicate 8 none
  statics := none }

/-- the primitive byte -/
def k5 : Class := { plain "byte" none with kind := .primitive 'B', accessFlags := 0x411 }
/-- [B -/
def k6 : Class := { plain "[B" (some 0) with kind := .array 5 .byte, interfaces := #[3, 4], accessFlags := 1041 }

/-- the primitive int -/
def k7 : Class := { plain "int" none with kind := .primitive 'I', accessFlags := 0x411 }
/-- [I -/
def k8 : Class := { plain "[I" (some 0) with kind := .array 7 .int, interfaces := #[3, 4], accessFlags := 1041 }

/-- the primitive long -/
def k9 : Class := { plain "long" none with kind := .primitive 'J', accessFlags := 0x411 }
/-- [J -/
def k10 : Class := { plain "[J" (some 0) with kind := .array 9 .long, interfaces := #[3, 4], accessFlags := 1041 }

def heap : Heap := #[]
def classes : Array Class := #[k0, k1, k2, k3, k4, k5, k6, k7, k8, k9, k10]
def interned : List (Array UInt16 × Addr) := []
def slotsUsed : Nat := 0
def theMethod : MethodId := ⟨1, 1⟩
def args0 : Array Value := #[.long 3, .long 4, .long 5, .int 6, .int 7, .int 8]
def aboutOver (below : List Frame) : State where
  vm := { classes := classes, interned := interned.toArray }
  heap := heap
  slotsUsed := slotsUsed
  threads := #[{ frames := .invoking theMethod args0 :: below }]
def below0 : List Frame := [.native { method := ⟨0, 0⟩, args := #[] }]
def about1 : State := aboutOver below0
def p0 : Program := .bare "" "" ""
def e0 : Env := launch0.env 0 0 0
theorem w_frames : about1.frames = Frame.invoking theMethod args0 :: below0 := rfl
set_option maxRecDepth 65536 in
theorem w_args : argsFit about1.vm theMethod args0 = true := by decide +kernel
set_option maxRecDepth 65536 in
theorem w_heap : heapFits about1 = true := by decide +kernel
set_option maxRecDepth 65536 in
theorem w_runnable : about1.curStatus? = some .runnable := by decide +kernel
set_option maxRecDepth 65536 in
theorem w_alone : about1.alone = true := by decide +kernel
set_option maxRecDepth 65536 in
theorem w_named : about1.methodNamed? x = some theMethod := by decide +kernel
set_option maxRecDepth 65536 in
theorem w_hears : about1.hears theMethod below0 = true := by decide +kernel
set_option maxRecDepth 65536 in
theorem w_ripe : about1.ripe theMethod args0 below0 = true := by decide +kernel
theorem w_running : about1.status = .running := rfl
set_option maxRecDepth 65536 in
theorem w_room : about1.hasRoom e0.platform room_1 = true :=
  launch0.hasRoom_least _ room_1 (by decide +kernel) (by decide +kernel) (by decide +kernel) (by decide +kernel) (by decide +kernel) (by decide +kernel)
theorem allAtoms_all (ts : List Jvm.Cond) (a : Array Jvm.Value) (st : Jvm.State) : (allAtoms ts).before a st = ts.all (fun c => c.before a st) := by
  induction ts with
  | nil => rfl
  | cons c t ih =>
    show (Jvm.Cond.and c (allAtoms t)).before a st = _
    rw [Jvm.Cond.before_and, ih, List.all_cons]
def words1 : List Jvm.Cond := Jvm.Cond.code x code maxLocals ret :: tables_1
/-- a 'code' word, met by the world's own term for the bytes: nothing is compared byte by byte -/
theorem code_word {y : MethodName} {bytes : ByteArray} {mx : Nat} {rt : Option FieldType} {a : Array Value} {s : State} {m : MethodId} {meth : Method} {c : Code} (h1 : s.methodNamed? y = some m) (h2 : s.vm.method? m = some meth) (h3 : meth.code = some c) (h4 : c.code = bytes)
    (h5 : (c.maxLocals == mx && c.exceptionTable.isEmpty && decide (c.maxStack ≤ mostOperands) && decide (meth.sig.returnType = rt) && !meth.locks && decide (parseMethodDescriptor y.desc = some meth.sig)) = true) : (Jvm.Cond.code y bytes mx rt).before a s = true := by
  simp only [Bool.and_eq_true, beq_iff_eq, Bool.not_eq_true', decide_eq_true_eq] at h5
  obtain ⟨⟨⟨⟨⟨g1, g2⟩, g3⟩, g4⟩, g5⟩, g6⟩ := h5
  simp [Cond.before, Cond.holds, Cond.value, h1, h2, h3, h4, g1, g2, g3, g4, g5, g6]
def isCode : Jvm.Cond → Bool
  | .code _ _ _ _ => true
  | _ => false
theorem all_split {L : List Jvm.Cond} {P : Jvm.Cond → Bool} (h1 : L.all (fun c => isCode c || P c) = true) (h2 : ∀ c ∈ L.filter isCode, P c = true) : L.all P = true := by
  refine List.all_eq_true.mpr fun c hc => ?_
  have h := List.all_eq_true.mp h1 c hc
  rcases Bool.eq_false_or_eq_true (isCode c) with hi | hi
  · exact h2 c (List.mem_filter.mpr ⟨hc, hi⟩)
  · simpa [hi] using h
set_option maxRecDepth 65536 in
theorem w_c0 : (Jvm.Cond.code x code maxLocals ret).before args0 about1 = true := code_word (m := ⟨1, 1⟩) (meth := k1m1) (c := k1c1) (by decide +kernel) rfl rfl rfl (by decide +kernel)
set_option maxRecDepth 65536 in
theorem w_c1 : (Jvm.Cond.code ({ cls := "com/example/rehearsal/rehearsal/policies/KnownRuns", name := "<init>", desc := "()V" } : Jvm.MethodName) prog_102_method_1_code (1 : Nat) (Option.none : Option Jvm.ClassFile.FieldType)).before args0 about1 = true := code_word (m := ⟨2, 0⟩) (meth := k2m0) (c := k2c0) (by decide +kernel) rfl rfl rfl (by decide +kernel)
set_option maxRecDepth 65536 in
theorem w_c2 : (Jvm.Cond.code ({ cls := "java/lang/Object", name := "<init>", desc := "()V" } : Jvm.MethodName) object_method_1_code (1 : Nat) (Option.none : Option Jvm.ClassFile.FieldType)).before args0 about1 = true := code_word (m := ⟨0, 0⟩) (meth := k0m0) (c := k0c0) (by decide +kernel) rfl rfl rfl (by decide +kernel)
set_option maxRecDepth 65536 in
theorem w_c3 : (Jvm.Cond.code ({ cls := "com/example/rehearsal/rehearsal/policies/KnownRuns", name := "moveFrontier", desc := "(JI)V" } : Jvm.MethodName) prog_102_method_5_code (4 : Nat) (Option.none : Option Jvm.ClassFile.FieldType)).before args0 about1 = true := code_word (m := ⟨2, 4⟩) (meth := k2m4) (c := k2c4) (by decide +kernel) rfl rfl rfl (by decide +kernel)
set_option maxRecDepth 65536 in
theorem w_c4 : (Jvm.Cond.code ({ cls := "com/example/rehearsal/rehearsal/policies/KnownRuns", name := "keepTo", desc := "(J)V" } : Jvm.MethodName) prog_102_method_2_code (5 : Nat) (Option.none : Option Jvm.ClassFile.FieldType)).before args0 about1 = true := code_word (m := ⟨2, 1⟩) (meth := k2m1) (c := k2c1) (by decide +kernel) rfl rfl rfl (by decide +kernel)
set_option maxRecDepth 65536 in
theorem w_c5 : (Jvm.Cond.code ({ cls := "com/example/rehearsal/rehearsal/policies/KnownRuns", name := "frontier", desc := "()J" } : Jvm.MethodName) prog_102_method_3_code (1 : Nat) (Option.some Jvm.ClassFile.FieldType.long)).before args0 about1 = true := code_word (m := ⟨2, 2⟩) (meth := k2m2) (c := k2c2) (by decide +kernel) rfl rfl rfl (by decide +kernel)
set_option maxRecDepth 65536 in
theorem w_c6 : (Jvm.Cond.code ({ cls := "com/example/rehearsal/rehearsal/policies/KnownRuns", name := "frontierSpan", desc := "()I" } : Jvm.MethodName) prog_102_method_4_code (1 : Nat) (Option.some Jvm.ClassFile.FieldType.int)).before args0 about1 = true := code_word (m := ⟨2, 3⟩) (meth := k2m3) (c := k2c3) (by decide +kernel) rfl rfl rfl (by decide +kernel)
set_option maxRecDepth 65536 in
theorem w_c7 : (Jvm.Cond.code ({ cls := "com/example/rehearsal/rehearsal/policies/KnownRuns", name := "first", desc := "(J)I" } : Jvm.MethodName) prog_102_method_6_code (3 : Nat) (Option.some Jvm.ClassFile.FieldType.int)).before args0 about1 = true := code_word (m := ⟨2, 5⟩) (meth := k2m5) (c := k2c5) (by decide +kernel) rfl rfl rfl (by decide +kernel)
set_option maxRecDepth 65536 in
theorem w_c8 : (Jvm.Cond.code ({ cls := "com/example/rehearsal/rehearsal/policies/KnownRuns", name := "bound", desc := "(I)J" } : Jvm.MethodName) prog_102_method_11_code (2 : Nat) (Option.some Jvm.ClassFile.FieldType.long)).before args0 about1 = true := code_word (m := ⟨2, 7⟩) (meth := k2m7) (c := k2c7) (by decide +kernel) rfl rfl rfl (by decide +kernel)
set_option maxRecDepth 65536 in
theorem w_c9 : (Jvm.Cond.code ({ cls := "com/example/rehearsal/rehearsal/policies/KnownRuns", name := "add", desc := "(JJI)V" } : Jvm.MethodName) prog_102_method_13_code (9 : Nat) (Option.none : Option Jvm.ClassFile.FieldType)).before args0 about1 = true := code_word (m := ⟨2, 8⟩) (meth := k2m8) (c := k2c8) (by decide +kernel) rfl rfl rfl (by decide +kernel)
set_option maxRecDepth 65536 in
theorem w_c10 : (Jvm.Cond.code ({ cls := "com/example/rehearsal/rehearsal/policies/KnownRuns", name := "firstUnder", desc := "(IJ)I" } : Jvm.MethodName) prog_102_method_8_code (5 : Nat) (Option.some Jvm.ClassFile.FieldType.int)).before args0 about1 = true := code_word (m := ⟨2, 6⟩) (meth := k2m6) (c := k2c6) (by decide +kernel) rfl rfl rfl (by decide +kernel)
def codes1 : List Jvm.Cond := [Jvm.Cond.code x code maxLocals ret, Jvm.Cond.code ({ cls := "com/example/rehearsal/rehearsal/policies/KnownRuns", name := "<init>", desc := "()V" } : Jvm.MethodName) prog_102_method_1_code (1 : Nat) (Option.none : Option Jvm.ClassFile.FieldType), Jvm.Cond.code ({ cls := "java/lang/Object", name := "<init>", desc := "()V" } : Jvm.MethodName) object_method_1_code (1 : Nat) (Option.none : Option Jvm.ClassFile.FieldType), Jvm.Cond.code ({ cls := "com/example/rehearsal/rehearsal/policies/KnownRuns", name := "moveFrontier", desc := "(JI)V" } : Jvm.MethodName) prog_102_method_5_code (4 : Nat) (Option.none : Option Jvm.ClassFile.FieldType), Jvm.Cond.code ({ cls := "com/example/rehearsal/rehearsal/policies/KnownRuns", name := "keepTo", desc := "(J)V" } : Jvm.MethodName) prog_102_method_2_code (5 : Nat) (Option.none : Option Jvm.ClassFile.FieldType), Jvm.Cond.code ({ cls := "com/example/rehearsal/rehearsal/policies/KnownRuns", name := "frontier", desc := "()J" } : Jvm.MethodName) prog_102_method_3_code (1 : Nat) (Option.some Jvm.ClassFile.FieldType.long), Jvm.Cond.code ({ cls := "com/example/rehearsal/rehearsal/policies/KnownRuns", name := "frontierSpan", desc := "()I" } : Jvm.MethodName) prog_102_method_4_code (1 : Nat) (Option.some Jvm.ClassFile.FieldType.int), Jvm.Cond.code ({ cls := "com/example/rehearsal/rehearsal/policies/KnownRuns", name := "first", desc := "(J)I" } : Jvm.MethodName) prog_102_method_6_code (3 : Nat) (Option.some Jvm.ClassFile.FieldType.int), Jvm.Cond.code ({ cls := "com/example/rehearsal/rehearsal/policies/KnownRuns", name := "bound", desc := "(I)J" } : Jvm.MethodName) prog_102_method_11_code (2 : Nat) (Option.some Jvm.ClassFile.FieldType.long), Jvm.Cond.code ({ cls := "com/example/rehearsal/rehearsal/policies/KnownRuns", name := "add", desc := "(JJI)V" } : Jvm.MethodName) prog_102_method_13_code (9 : Nat) (Option.none : Option Jvm.ClassFile.FieldType), Jvm.Cond.code ({ cls := "com/example/rehearsal/rehearsal/policies/KnownRuns", name := "firstUnder", desc := "(IJ)I" } : Jvm.MethodName) prog_102_method_8_code (5 : Nat) (Option.some Jvm.ClassFile.FieldType.int)]
set_option maxRecDepth 65536 in
theorem codes_eq : words1.filter isCode = codes1 := rfl
theorem w_codes : ∀ c ∈ words1.filter isCode, c.before args0 about1 = true := by
  rw [codes_eq]
  intro c hc
  simp only [codes1, List.mem_cons, List.not_mem_nil, or_false] at hc
  rcases hc with rfl | rfl | rfl | rfl | rfl | rfl | rfl | rfl | rfl | rfl | rfl
  · exact w_c0
  · exact w_c1
  · exact w_c2
  · exact w_c3
  · exact w_c4
  · exact w_c5
  · exact w_c6
  · exact w_c7
  · exact w_c8
  · exact w_c9
  · exact w_c10
set_option maxRecDepth 65536 in
theorem w_t1 : (words1.take 24).all (fun c => isCode c || c.before args0 about1) = true := by decide +kernel
set_option maxRecDepth 65536 in
theorem w_t2 : ((words1.drop 24).take 24).all (fun c => isCode c || c.before args0 about1) = true := by decide +kernel
set_option maxRecDepth 65536 in
theorem w_t3 : ((words1.drop 24).drop 24).all (fun c => isCode c || c.before args0 about1) = true := by decide +kernel
theorem w_tables : (allAtoms (Jvm.Cond.code x code maxLocals ret :: tables_1)).before args0 about1 = true := by
  rw [allAtoms_all]
  show words1.all (fun c => c.before args0 about1) = true
  refine all_split ?_ w_codes
  rw [← List.take_append_drop 24 words1, List.all_append, w_t1, ← List.take_append_drop 24 (words1.drop 24), List.all_append, w_t2, w_t3]
  rfl
set_option maxRecDepth 65536 in
theorem w_case : (Jvm.Cond.and given_1 narrow_1).before args0 about1 = true := by decide +kernel
theorem w_applies : (headSpec (Jvm.Cond.code x code maxLocals ret :: tables_1) room_1).applies x e0.platform about1 = true :=
  (Spec.applies_iff w_frames).mpr ⟨w_running, w_runnable, w_alone, w_named, w_hears, w_ripe, w_room, w_tables⟩
theorem atStart : AtStart classFile x code maxLocals ret World_1 tables_1 room_1 Calls_1 rest_1 Pre_1 launch0 p0 e0 about1 theMethod args0 below0 :=
  ⟨lists_1, trivial, launch0.admits_env _ _ _, launch0.least_env, fairChoices_fair.cas, fairChoices_fair.clock, w_frames, w_args, w_heap, w_applies, trivial, trivial, w_case⟩
end start1
theorem witness_1 : WitnessClaimed_1 := ⟨start1.p0, start1.e0, start1.about1, start1.theMethod, start1.args0, start1.below0, start1.atStart⟩
end Jvm.Pilot.@@N@@
